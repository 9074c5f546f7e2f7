/- What is proved: plain words for the law FnTold: the inputs as trees, how they lie in memory, and what the reference's tests of them say. Conditions: none. -/
import Derived.Below
import Derived.RowKit3
import Derived.Calls
namespace Go.Proofs.YtipmpeekfajlcaaGreatDoor
open Go.RowKit

inductive Ty where
  | mk (kd nm tg : ByteArray) (sz : Int) (kids : List Ty)
def Ty.kd : Ty → ByteArray | .mk k _ _ _ _ => k
def Ty.nm : Ty → ByteArray | .mk _ n _ _ _ => n
def Ty.tg : Ty → ByteArray | .mk _ _ t _ _ => t
def Ty.sz : Ty → Int | .mk _ _ _ s _ => s
def Ty.kids : Ty → List Ty | .mk _ _ _ _ k => k
instance : Inhabited Ty := ⟨.mk ByteArray.empty ByteArray.empty ByteArray.empty 0 []⟩
def Ty.kid (t : Ty) (i : Nat) : Ty := t.kids.getD i default

/-- What every value of the type meets: no text or list is longer than an address can count, the number fits. -/
structure Ty.Fits (t : Ty) : Prop where
  kd : t.kd.size ≤ 9223372036854775807
  nm : t.nm.size ≤ 9223372036854775807
  tg : t.tg.size ≤ 9223372036854775807
  lo : -9223372036854775808 ≤ t.sz
  hi : t.sz ≤ 9223372036854775807
  kids : t.kids.length ≤ 9223372036854775807

/-- The parts of a type as they lie in memory: the slice's address and capacity, the parts that it holds. -/
inductive KidsV (w : World) : Option Addr → Nat → List Ty → Prop
  | nil (a : Option Addr) (cap : Nat) (hmax : cap ≤ 9223372036854775807) : KidsV w a cap []
  | mk (b off cap : Nat) (kids : List Ty) (hcap : kids.length ≤ cap) (hmax : cap ≤ 9223372036854775807) (az : Nat → Option Addr) (cs : Nat → Nat)
      (h0 : ∀ (i : Nat) (t : Ty), kids[i]? = some t → w.cell? ⟨b, off + i * 5, none⟩ = some (.string t.kd))
      (h1 : ∀ (i : Nat) (t : Ty), kids[i]? = some t → w.cell? ⟨b, off + i * 5 + 1, none⟩ = some (.string t.nm))
      (h2 : ∀ (i : Nat) (t : Ty), kids[i]? = some t → w.cell? ⟨b, off + i * 5 + 2, none⟩ = some (.string t.tg))
      (h3 : ∀ (i : Nat) (t : Ty), kids[i]? = some t → w.cell? ⟨b, off + i * 5 + 3, none⟩ = some (.int .i64 t.sz))
      (h4 : ∀ (i : Nat) (t : Ty), kids[i]? = some t → w.cell? ⟨b, off + i * 5 + 4, none⟩ = some (.slice (az i) t.kids.length (cs i)))
      (hf : ∀ (i : Nat) (t : Ty), kids[i]? = some t → t.Fits)
      (hk : ∀ (i : Nat) (t : Ty), kids[i]? = some t → KidsV w (az i) (cs i) t.kids) : KidsV w (some ⟨b, off, none⟩) cap kids

theorem cell_below {w w' : World} (hb : Below w.heap.size w w') {a : Addr} {v : Value} (h : w.cell? a = some v) : w'.cell? a = some v := by
  rw [hb.cell (World.block_lt_of_cell? w _ h)]; exact h

theorem KidsV.keep {w w' : World} (hb : Below w.heap.size w w') : ∀ {a : Option Addr} {cap : Nat} {kids : List Ty}, KidsV w a cap kids → KidsV w' a cap kids := by
  intro a cap kids h
  induction h with
  | nil a cap hmax => exact .nil a cap hmax
  | mk b off cap kids hcap hmax az cs h0 h1 h2 h3 h4 hf hk ih =>
    exact .mk b off cap kids hcap hmax az cs (fun i t e => cell_below hb (h0 i t e)) (fun i t e => cell_below hb (h1 i t e)) (fun i t e => cell_below hb (h2 i t e))
      (fun i t e => cell_below hb (h3 i t e)) (fun i t e => cell_below hb (h4 i t e)) hf (fun i t e => ih i t e)

theorem KidsV.len {w : World} {a : Option Addr} {cap : Nat} {kids : List Ty} (h : KidsV w a cap kids) : kids.length ≤ cap ∧ cap ≤ 9223372036854775807 := by
  cases h with
  | nil _ _ hmax => exact ⟨Nat.zero_le _, hmax⟩
  | mk b off cap kids hcap hmax => exact ⟨hcap, hmax⟩

/-- One part: where it lies and what it holds. -/
theorem KidsV.at {w : World} {a : Option Addr} {cap : Nat} {kids : List Ty} (h : KidsV w a cap kids) {i : Nat} {t : Ty} (e : kids[i]? = some t) :
    ∃ b off a' c', a = some ⟨b, off, none⟩ ∧ w.cell? ⟨b, off + i * 5, none⟩ = some (.string t.kd) ∧ w.cell? ⟨b, off + i * 5 + 1, none⟩ = some (.string t.nm) ∧
      w.cell? ⟨b, off + i * 5 + 2, none⟩ = some (.string t.tg) ∧ w.cell? ⟨b, off + i * 5 + 3, none⟩ = some (.int .i64 t.sz) ∧
      w.cell? ⟨b, off + i * 5 + 4, none⟩ = some (.slice a' t.kids.length c') ∧ t.Fits ∧ KidsV w a' c' t.kids := by
  cases h with
  | nil => simp at e
  | mk b off cap kids hcap hmax az cs h0 h1 h2 h3 h4 hf hk => exact ⟨b, off, az i, cs i, rfl, h0 i t e, h1 i t e, h2 i t e, h3 i t e, h4 i t e, hf i t e, hk i t e⟩


/-! The rest of the input. -/
structure PkgD where
  path : ByteArray
  name : ByteArray
instance : Inhabited PkgD := ⟨⟨ByteArray.empty, ByteArray.empty⟩⟩
structure DeclD where
  pkg : Int
  name : ByteArray
  ali : Bool
  ty : Ty
instance : Inhabited DeclD := ⟨⟨0, ByteArray.empty, false, default⟩⟩
structure WorldD where
  pkgs : List PkgD
  decls : List DeclD
def WorldD.pkg (W : WorldD) (i : Nat) : PkgD := W.pkgs.getD i default
def WorldD.decl (W : WorldD) (i : Nat) : DeclD := W.decls.getD i default

structure PkgD.Fits (p : PkgD) : Prop where
  path : p.path.size ≤ 9223372036854775807
  name : p.name.size ≤ 9223372036854775807
structure DeclD.Fits (d : DeclD) : Prop where
  lo : -9223372036854775808 ≤ d.pkg
  hi : d.pkg ≤ 9223372036854775807
  name : d.name.size ≤ 9223372036854775807
  ty : d.ty.Fits

/-- The packages as they lie in memory. -/
structure PkgsV (w : World) (a : Option Addr) (cap : Nat) (pkgs : List PkgD) : Prop where
  hcap : pkgs.length ≤ cap
  hmax : cap ≤ 9223372036854775807
  at_ : ∀ (i : Nat) (p : PkgD), pkgs[i]? = some p → ∃ b off, a = some ⟨b, off, none⟩ ∧ w.cell? ⟨b, off + i * 2, none⟩ = some (.string p.path) ∧
    w.cell? ⟨b, off + i * 2 + 1, none⟩ = some (.string p.name) ∧ p.Fits
/-- The declared types as they lie in memory. -/
structure DeclsV (w : World) (a : Option Addr) (cap : Nat) (decls : List DeclD) : Prop where
  hcap : decls.length ≤ cap
  hmax : cap ≤ 9223372036854775807
  at_ : ∀ (i : Nat) (d : DeclD), decls[i]? = some d → ∃ b off ka kc, a = some ⟨b, off, none⟩ ∧ w.cell? ⟨b, off + i * 8, none⟩ = some (.int .i64 d.pkg) ∧
    w.cell? ⟨b, off + i * 8 + 1, none⟩ = some (.string d.name) ∧ w.cell? ⟨b, off + i * 8 + 2, none⟩ = some (.bool d.ali) ∧
    w.cell? ⟨b, off + i * 8 + 3, none⟩ = some (.string d.ty.kd) ∧ w.cell? ⟨b, off + i * 8 + 4, none⟩ = some (.string d.ty.nm) ∧
    w.cell? ⟨b, off + i * 8 + 5, none⟩ = some (.string d.ty.tg) ∧ w.cell? ⟨b, off + i * 8 + 6, none⟩ = some (.int .i64 d.ty.sz) ∧
    w.cell? ⟨b, off + i * 8 + 7, none⟩ = some (.slice ka d.ty.kids.length kc) ∧ d.Fits ∧ KidsV w ka kc d.ty.kids

theorem PkgsV.keep {w w' : World} (hb : Below w.heap.size w w') {a : Option Addr} {cap : Nat} {pkgs : List PkgD} (h : PkgsV w a cap pkgs) : PkgsV w' a cap pkgs :=
  ⟨h.hcap, h.hmax, fun i p e => by obtain ⟨b, off, h1, h2, h3, h4⟩ := h.at_ i p e; exact ⟨b, off, h1, cell_below hb h2, cell_below hb h3, h4⟩⟩
theorem DeclsV.keep {w w' : World} (hb : Below w.heap.size w w') {a : Option Addr} {cap : Nat} {decls : List DeclD} (h : DeclsV w a cap decls) : DeclsV w' a cap decls :=
  ⟨h.hcap, h.hmax, fun i d e => by
    obtain ⟨b, off, ka, kc, h1, c0, c1, c2, c3, c4, c5, c6, c7, hf, hk⟩ := h.at_ i d e
    exact ⟨b, off, ka, kc, h1, cell_below hb c0, cell_below hb c1, cell_below hb c2, cell_below hb c3, cell_below hb c4, cell_below hb c5, cell_below hb c6, cell_below hb c7, hf, hk.keep hb⟩⟩

/-! What the reference's tests of the input answer. -/
def chOk (i n : Nat) : Prop := (97 ≤ n ∧ n ≤ 122) ∨ (65 ≤ n ∧ n ≤ 90) ∨ n = 95 ∨ (i ≠ 0 ∧ 48 ≤ n ∧ n ≤ 57)
def NameOk (s : ByteArray) : Prop := (∀ k (_ : k < s.size), chOk k s[k].toNat) ∧ 1 ≤ s.size ∧ s.size ≤ 20
open Classical in
noncomputable def nameB (s : ByteArray) : Bool := decide (NameOk s)
def PathOk (s : ByteArray) : Prop := (∀ k (_ : k < s.size), (97 ≤ s[k].toNat ∧ s[k].toNat ≤ 122) ∨ (65 ≤ s[k].toNat ∧ s[k].toNat ≤ 90) ∨ (46 ≤ s[k].toNat ∧ s[k].toNat ≤ 57)) ∧ 1 ≤ s.size ∧ s.size ≤ 40
open Classical in
noncomputable def pathB (s : ByteArray) : Bool := decide (PathOk s)
def TagOk (s : ByteArray) : Prop := (∀ k (_ : k < s.size), 32 ≤ s[k].toNat ∧ s[k].toNat ≤ 126) ∧ s.size ≤ 60
open Classical in
noncomputable def tagB (s : ByteArray) : Bool := decide (TagOk s)
def BigOk (s : ByteArray) : Prop := ∃ (_ : 0 < s.size), 65 ≤ s[0].toNat ∧ s[0].toNat ≤ 90
open Classical in
noncomputable def bigB (s : ByteArray) : Bool := decide (BigOk s)
def HasIn (s part : ByteArray) : Prop := ∃ i, i + part.size ≤ s.size ∧ (s.extract i (i + part.size)).toList = part.toList
open Classical in
noncomputable def hasB (s part : ByteArray) : Bool := decide (HasIn s part)
def basicsL : List UInt8 := [32, 98, 111, 111, 108, 32, 105, 110, 116, 32, 105, 110, 116, 56, 32, 105, 110, 116, 49, 54, 32, 105, 110, 116, 51, 50, 32, 105, 110, 116, 54, 52, 32, 117, 105, 110, 116, 32, 117, 105, 110, 116, 56, 32, 117, 105, 110, 116, 49, 54, 32, 117, 105, 110, 116, 51, 50, 32, 117, 105, 110, 116, 54, 52, 32, 117, 105, 110, 116, 112, 116, 114, 32, 102, 108, 111, 97, 116, 51, 50, 32, 102, 108, 111, 97, 116, 54, 52, 32, 99, 111, 109, 112, 108, 101, 120, 54, 52, 32, 99, 111, 109, 112, 108, 101, 120, 49, 50, 56, 32, 115, 116, 114, 105, 110, 103, 32]

def knownB (W : WorldD) (most : Int) (t : Ty) (below : Bool) : Bool :=
  !(decide (t.sz < 0) || decide ((W.decls.length : Int) ≤ t.sz)) && (decide (t.sz < most) || (below && !(W.decl t.sz.toNat).ali))
def plainB (t : Ty) (n : Nat) : Bool := t.nm.toList.isEmpty && t.tg.toList.isEmpty && t.sz == 0 && t.kids.length == n
def endsB (t : Ty) : Bool := decide (0 < t.kids.length) && decide (((t.kid (t.kids.length - 1)).kid 0).kd.toList = [115, 108, 105, 99, 101])
noncomputable def varB (rec : Ty → Bool) (k0 v : Ty) : Bool :=
  decide (v.kd.toList = [118, 97, 114]) && v.tg.toList.isEmpty && v.sz == 0 && v.kids.length == 1 && rec (v.kid 0) && (v.nm.toList.isEmpty == k0.nm.toList.isEmpty) && (v.nm.toList.isEmpty || nameB v.nm)
noncomputable def tupleB (rec : Ty → Bool) (t : Ty) : Bool :=
  decide (t.kd.toList = [116, 117, 112, 108, 101]) && t.nm.toList.isEmpty && t.tg.toList.isEmpty && t.sz == 0 && decide (t.kids.length ≤ 8) && t.kids.all (varB rec (t.kid 0))
def embTo (t : Ty) : Ty := if t.kd.toList = [112, 111, 105, 110, 116, 101, 114] ∧ t.kids.length = 1 then t.kid 0 else t
def embName (W : WorldD) (t : Ty) : ByteArray :=
  if (embTo t).kd.toList = [110, 97, 109, 101, 100] ∧ 0 ≤ (embTo t).sz ∧ (embTo t).sz < W.decls.length then (W.decl (embTo t).sz.toNat).name else ByteArray.empty
noncomputable def fieldB (W : WorldD) (rec : Ty → Bool) (f : Ty) : Bool :=
  (decide (f.kd.toList = [102, 105, 101, 108, 100]) || decide (f.kd.toList = [101, 109, 98, 101, 100, 100, 101, 100])) && f.sz == 0 && f.kids.length == 1 && tagB f.tg && nameB f.nm && rec (f.kid 0) &&
    (!decide (f.kd.toList = [101, 109, 98, 101, 100, 100, 101, 100]) || decide (f.nm.toList = (embName W (f.kid 0)).toList))
def twiceB (f g : Ty) : Bool := decide (f.nm.toList = g.nm.toList) && !decide (g.nm.toList = [95])
noncomputable def structB (W : WorldD) (rec : Ty → Bool) (t : Ty) : Bool :=
  t.nm.toList.isEmpty && t.tg.toList.isEmpty && t.sz == 0 && decide (t.kids.length ≤ 8) &&
    (List.range t.kids.length).all fun i => fieldB W rec (t.kid i) && (List.range i).all fun j => !twiceB (t.kid j) (t.kid i)
noncomputable def basicB (s : ByteArray) : Bool := nameB s && hasB ⟨basicsL.toArray⟩ (⟨#[32]⟩ ++ s ++ ⟨#[32]⟩)
noncomputable def termB (t : Ty) : Bool :=
  (decide (t.kd.toList = [116, 101, 114, 109]) || decide (t.kd.toList = [116, 105, 108, 100, 101])) && t.tg.toList.isEmpty && t.sz == 0 && t.kids.length == 0 && basicB t.nm
noncomputable def unionB (t : Ty) : Bool := t.kids.all termB && decide (2 ≤ t.kids.length) && decide (t.kids.length ≤ 8)
def isFuncB (t : Ty) : Bool := decide (t.kd.toList = [102, 117, 110, 99]) || decide (t.kd.toList = [118, 97, 114, 105, 97, 100, 105, 99])
noncomputable def partB (rec : Ty → Bool → Bool) (below : Bool) (t : Ty) (i : Nat) : Bool :=
  let m := t.kid i
  m.tg.toList.isEmpty && m.sz == 0 &&
    if m.kd.toList = [109, 101, 116, 104, 111, 100] then
      m.kids.length == 1 && nameB m.nm && bigB m.nm && (i == 0 || (decide ((t.kid (i - 1)).kd.toList = [109, 101, 116, 104, 111, 100]) && Op.bytesLess (t.kid (i - 1)).nm.toList m.nm.toList)) && isFuncB (m.kid 0) && rec (m.kid 0) below
    else if m.kd.toList = [101, 109, 98, 101, 100] then
      m.nm.toList.isEmpty && m.kids.length == 1 && decide ((m.kid 0).kd.toList = [110, 97, 109, 101, 100]) && rec (m.kid 0) false
    else if m.kd.toList = [117, 110, 105, 111, 110] then m.nm.toList.isEmpty && unionB m
    else false
noncomputable def ifaceB (rec : Ty → Bool → Bool) (t : Ty) (below : Bool) : Bool :=
  t.nm.toList.isEmpty && t.tg.toList.isEmpty && t.sz == 0 && decide (t.kids.length ≤ 8) && (List.range t.kids.length).all (partB rec below t)
noncomputable def isTypeB (W : WorldD) (most : Int) : Nat → Ty → Bool → Bool
  | 0, _, _ => false
  | d + 1, t, below =>
    if t.kd.toList = [98, 97, 115, 105, 99] then basicB t.nm && t.tg.toList.isEmpty && t.sz == 0 && t.kids.length == 0
    else if t.kd.toList = [110, 97, 109, 101, 100] then t.nm.toList.isEmpty && t.tg.toList.isEmpty && t.kids.length == 0 && knownB W most t below
    else if t.kd.toList = [112, 111, 105, 110, 116, 101, 114] then plainB t 1 && isTypeB W most d (t.kid 0) true
    else if t.kd.toList = [115, 108, 105, 99, 101] ∨ t.kd.toList = [99, 104, 97, 110] ∨ t.kd.toList = [115, 101, 110, 100] ∨ t.kd.toList = [114, 101, 99, 118] then plainB t 1 && isTypeB W most d (t.kid 0) below
    else if t.kd.toList = [97, 114, 114, 97, 121] then t.nm.toList.isEmpty && t.tg.toList.isEmpty && decide (0 ≤ t.sz) && decide (t.sz ≤ 1000000) && t.kids.length == 1 && isTypeB W most d (t.kid 0) below
    else if t.kd.toList = [109, 97, 112] then plainB t 2 && isTypeB W most d (t.kid 0) below && isTypeB W most d (t.kid 1) below
    else if t.kd.toList = [115, 116, 114, 117, 99, 116] then structB W (fun k => isTypeB W most d k below) t
    else if t.kd.toList = [102, 117, 110, 99] ∨ t.kd.toList = [118, 97, 114, 105, 97, 100, 105, 99] then
      plainB t 2 && tupleB (fun k => isTypeB W most d k below) (t.kid 0) && tupleB (fun k => isTypeB W most d k below) (t.kid 1) && (decide (t.kd.toList = [102, 117, 110, 99]) || endsB (t.kid 0))
    else if t.kd.toList = [105, 110, 116, 101, 114, 102, 97, 99, 101] then ifaceB (fun k b => isTypeB W most d k b) t below
    else false

/-- The unique name of a name in a package of a path. -/
noncomputable def idB (p s : ByteArray) : ByteArray := if bigB s then s else p ++ ⟨#[46]⟩ ++ s

theorem ret_bool {a b : Bool} (h : a = b) : Ending.returned (.bool a) = .returned (.bool b) := by rw [h]

end Go.Proofs.YtipmpeekfajlcaaGreatDoor
