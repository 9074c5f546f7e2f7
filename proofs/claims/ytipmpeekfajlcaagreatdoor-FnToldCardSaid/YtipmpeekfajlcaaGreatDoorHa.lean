/- What is proved: words for the makers of types in impl: what has been kept, rows of pointers, what a call of typ gives. Conditions: none. -/
import Derived.Deep.AppendLies
import Derived.Test.YtipmpeekfajlcaaGreatDoorGl
namespace Go.Proofs.YtipmpeekfajlcaaGreatDoor
open Go.RowKit Go.Proofs

/-- Of what was there nothing has turned but, perhaps, the row r. -/
def Kp (w0 : World) (r : Option Nat) (w' : World) : Prop := w0.heap.size ≤ w'.heap.size ∧ ∀ k, k < w0.heap.size → some k ≠ r → w'.heap[k]? = w0.heap[k]?
theorem Kp.refl (w : World) (r : Option Nat) : Kp w r w := ⟨Nat.le_refl _, fun _ _ _ => rfl⟩
theorem Kp.drew {w0 w : World} {r : Option Nat} (h : Kp w0 r w) : Kp w0 r w.drew := h
theorem Kp.below {w0 w1 w2 : World} {r : Option Nat} (h : Kp w0 r w1) (hb : Below w1.heap.size w1 w2) : Kp w0 r w2 :=
  ⟨Nat.le_trans h.1 hb.size, fun k hk hr => (hb.block k (Nat.lt_of_lt_of_le hk h.1)).trans (h.2 k hk hr)⟩
theorem Kp.alloc {w0 w1 : World} {r : Option Nat} (h : Kp w0 r w1) (o : Obj) : Kp w0 r (w1.alloc o) := h.below ((Below.refl _ _).alloc (Nat.le_refl _) _)
theorem Kp.grown {w0 w1 w2 : World} {r : Option Nat} (h : Kp w0 r w1) (hg : w1.grownBy w2 r) : Kp w0 r w2 :=
  ⟨Nat.le_trans h.1 hg.size, fun k hk hr => (hg.block k (Nat.lt_of_lt_of_le hk h.1) hr).trans (h.2 k hk hr)⟩
theorem Kp.cell {w0 w' : World} {r : Option Nat} (h : Kp w0 r w') {a : Addr} {v : Value} (hc : w0.cell? a = some v) (hr : some a.block ≠ r) : w'.cell? a = some v :=
  (World.cell?_of_block (h.2 _ (World.block_lt_of_cell? _ _ hc) hr)).trans hc

/-- Blocks of other types than e are as they were. -/
def Fix (e : TypeId) (w w' : World) : Prop := ∀ (b : Nat) (cs : Array Value) (T : TypeId), w.heap[b]? = some (Obj.cells cs T (0, 0)) → T ≠ e → w'.heap[b]? = some (Obj.cells cs T (0, 0))
theorem Fix.refl (e : TypeId) (w : World) : Fix e w w := fun _ _ _ h _ => h
theorem Fix.trans {e : TypeId} {a b c : World} (h : Fix e a b) (k : Fix e b c) : Fix e a c := fun i cs T hi hT => k i cs T (h i cs T hi hT) hT
theorem Fix.below {e : TypeId} {w w' : World} (hb : Below w.heap.size w w') : Fix e w w' := fun b _ _ h _ => (hb.block b (Array.getElem?_eq_some_iff.1 h).1).trans h
theorem Fix.alloc (e : TypeId) (w : World) (o : Obj) : Fix e w (w.alloc o) := Fix.below ((Below.refl _ _).alloc (Nat.le_refl _) _)
theorem Fix.grown {e : TypeId} {w w' : World} {B n : Nat} {v : Value} {xs : List Value} (ho : w.ownsRow B e 1 v n xs) (hg : w.grownBy w' v.ownBlock) : Fix e w w' := fun b cs T h hT => by
  refine (hg.block b (Array.getElem?_eq_some_iff.1 h).1 ?_).trans h
  intro hb
  rcases ho.2 with ⟨rfl, _⟩ | ⟨g, cap, cur, rfl, _, hg2, _⟩
  · cases hb
  · simp only [Value.ownBlock, Option.some.injEq] at hb
    subst hb
    rw [h] at hg2
    cases hg2
    exact hT rfl

theorem ownsRow_below {w w' : World} {B n : Nat} {e : TypeId} {v : Value} {xs : List Value} (h : w.ownsRow B e 1 v n xs) (hb : Below w.heap.size w w') : w'.ownsRow B e 1 v n xs :=
  h.kept (row := none) ⟨hb.os, hb.tape, hb.output, hb.size, fun k hk _ => hb.block k hk⟩ (by cases v.ownBlock <;> simp)
theorem ownsRow_shape {w : World} {B n : Nat} {e : TypeId} {v : Value} {xs : List Value} (h : w.ownsRow B e 1 v n xs) : ∃ a c, v = .slice a n c ∧ n ≤ c ∧ c ≤ 9223372036854775807 := by
  rcases h.2 with ⟨rfl, rfl⟩ | ⟨g, cap, cur, rfl, _, _, h1, h2, _⟩
  · exact ⟨_, _, rfl, Nat.le_refl _, by omega⟩
  · exact ⟨_, _, rfl, h1, h2⟩
theorem ownsRow_apart {w : World} {B B' n n' : Nat} {e e' : TypeId} {v v' : Value} {xs xs' : List Value} (h : w.ownsRow B e 1 v n xs) (h' : w.ownsRow B' e' 1 v' n' xs') (hne : e ≠ e') : v.ownBlock = none ∨ v.ownBlock ≠ v'.ownBlock := by
  rcases h.2 with ⟨rfl, rfl⟩ | ⟨g, cap, cur, rfl, _, hg, _⟩
  · exact .inl rfl
  · right
    rcases h'.2 with ⟨rfl, rfl⟩ | ⟨g', cap', cur', rfl, _, hg', _⟩
    · simp [Value.ownBlock]
    · intro e0
      simp only [Value.ownBlock, Option.some.injEq] at e0
      subst e0
      rw [hg] at hg'
      cases hg'
      exact hne rfl

/-- The k pointers of a row lead to what P says. -/
def RowP (w : World) (xs : List Value) (k : Nat) (P : World → Nat → Nat → Prop) : Prop := ∀ j, j < k → ∃ vb, xs[j]? = some (.pointer (some ⟨vb, 0, none⟩)) ∧ P w j vb
theorem RowP.nil (w : World) (P : World → Nat → Nat → Prop) : RowP w [] 0 P := fun _ h => absurd h (Nat.not_lt_zero _)
theorem RowP.keep {w w' : World} {xs : List Value} {k : Nat} {P : World → Nat → Nat → Prop} (h : RowP w xs k P) (hP : ∀ j vb, P w j vb → P w' j vb) : RowP w' xs k P := fun j hj => by
  obtain ⟨vb, h1, h2⟩ := h j hj
  exact ⟨vb, h1, hP j vb h2⟩
theorem RowP.push {w : World} {xs : List Value} {k : Nat} {P : World → Nat → Nat → Prop} (h : RowP w xs k P) (hl : xs.length = k) {vb : Nat} (hn : P w k vb) : RowP w (xs ++ [.pointer (some ⟨vb, 0, none⟩)]) (k + 1) P := fun j hj => by
  rcases Nat.lt_or_ge j k with hlt | hge
  · obtain ⟨b, h1, h2⟩ := h j hlt
    exact ⟨b, by rw [List.getElem?_append_left (by omega)]; exact h1, h2⟩
  · obtain rfl : j = k := by omega
    exact ⟨vb, by rw [List.getElem?_append_right (by omega)]; simp [hl], hn⟩

theorem row_below {w wr W3 w1 w2 : World} {v : Value} {e : TypeId} {n : Nat} {xs : List Value} {o1 o2 : Obj} (h1 : Below w.heap.size w wr) (h2 : Below wr.heap.size wr W3) (h3 : Below W3.drew.heap.size W3.drew w1) (ho : wr.ownsRow w.heap.size e 1 v n xs)
    (hg : ((w1.alloc o1).alloc o2).grownBy w2 v.ownBlock) : Below w.heap.size w w2 := by
  have a1 : Below w.heap.size w W3.drew := (h1.trans (h2.mono h1.size)).drew
  have a2 := a1.trans (h3.mono a1.size)
  have a3 := (a2.alloc a2.size o1).alloc (Nat.le_trans a2.size (by simp)) o2
  exact a3.grown hg a3.size fun k hk => (ho.lt k hk).1

theorem heap_two (w : World) (o1 o2 : Obj) : ((w.alloc o1).alloc o2).heap[w.heap.size + 1]? = some o2 := by
  have h := heap_alloc_new (w.alloc o1) o2
  simpa using h
theorem heap_two0 (w : World) (o1 o2 : Obj) : ((w.alloc o1).alloc o2).heap[w.heap.size]? = some o1 := by
  rw [Below.heap_alloc _ _ _ (by simp)]
  exact heap_alloc_new w o1

/-! The types of slices. -/
theorem u177 : Tryz.prog.underlying 177 = some (.slice 78) := by kernel_rfl
theorem u178 : Tryz.prog.underlying 178 = some (.slice 9) := by kernel_rfl
theorem u107 : Tryz.prog.underlying 107 = some (.slice 86) := by kernel_rfl
theorem u61 : Tryz.prog.underlying 61 = some (.slice 73) := by kernel_rfl
theorem u180 : Tryz.prog.underlying 180 = some (.slice 181) := by kernel_rfl
theorem u59 : Tryz.prog.underlying 59 = some (.slice 64) := by kernel_rfl
theorem u60 : Tryz.prog.underlying 60 = some (.slice 66) := by kernel_rfl
theorem info78 : (Tryz.prog.info? 78).map (fun i => (i.zero, i.size, i.bytes)) = some (some (.pointer none), 1, 8) := by kernel_rfl
theorem info86 : (Tryz.prog.info? 86).map (fun i => (i.zero, i.size, i.bytes)) = some (some (.pointer none), 1, 8) := by kernel_rfl
theorem info181 : (Tryz.prog.info? 181).map (fun i => (i.zero, i.size, i.bytes)) = some (some (.pointer none), 1, 8) := by kernel_rfl
theorem info64 : (Tryz.prog.info? 64).map (fun i => (i.zero, i.size, i.bytes)) = some (some (.pointer none), 1, 8) := by kernel_rfl
theorem info66 : (Tryz.prog.info? 66).map (fun i => (i.zero, i.size, i.bytes)) = some (some (.pointer none), 1, 8) := by kernel_rfl
theorem info73 : (Tryz.prog.info? 73).map (fun i => (i.zero, i.size, i.bytes)) = some (some .nilIface, 1, 16) := by kernel_rfl
theorem info9 : (Tryz.prog.info? 9).map (fun i => (i.zero, i.size, i.bytes)) = some (some (.string ByteArray.empty), 1, 16) := by kernel_rfl

/-- The declared types that may be named lie in made's row; each is what Q says. -/
def DeclsAt (w : World) (mb : Nat) (W : WorldD) (most : Int) (Q : TypeId → Value → Prop) : Prop :=
  ∀ j : Nat, j < W.decls.length → ((j : Int) < most ∨ (W.decl j).ali = false) → ∃ db cap T x, w.cell? ⟨mb, 2, none⟩ = some (.slice (some ⟨db, 0, none⟩) W.decls.length cap) ∧ w.cell? ⟨db, j, none⟩ = some (.iface T x) ∧ Q T x
theorem DeclsAt.keep {w w' : World} {mb : Nat} {W : WorldD} {most : Int} {Q : TypeId → Value → Prop} (h : DeclsAt w mb W most Q) (hb : Below w.heap.size w w') : DeclsAt w' mb W most Q := fun j h1 h2 => by
  obtain ⟨db, cap, T, x, a1, a2, a3⟩ := h j h1 h2
  exact ⟨db, cap, T, x, cell_below hb a1, cell_below hb a2, a3⟩
/-- What typ looks at, besides the type. -/
structure Env (w : World) (mb : Nat) (W : WorldD) (most : Int) (Q : TypeId → Value → Prop) : Prop where
  decls : DeclsAt w mb W most Q
  props : PropsAt w
theorem Env.keep {w w' : World} {mb : Nat} {W : WorldD} {most : Int} {Q : TypeId → Value → Prop} (h : Env w mb W most Q) (hb : Below w.heap.size w w') : Env w' mb W most Q := ⟨h.decls.keep hb, h.props.keep hb⟩

/-- What typ gives for t. -/
def TyIs (Q : TypeId → Value → Prop) (t : Ty) (T : TypeId) (x : Value) : Prop :=
  (¬ t.kd.toList = [110, 97, 109, 101, 100] → PlainT T) ∧ (t.kd.toList = [115, 108, 105, 99, 101] → T = 123 ∧ ∃ sp, x = .pointer (some ⟨sp, 0, none⟩)) ∧ (t.kd.toList = [110, 97, 109, 101, 100] → Q T x)
def GivesT (Q : TypeId → Value → Prop) (t : Ty) (w : World) (e : Ending) (w' : World) : Prop := ∃ T x, e = .returned (.iface T x) ∧ TyIs Q t T x ∧ Below w.heap.size w w'
/-- The contract of typ at types of a depth. -/
def TypG (W : WorldD) (mb : Nat) (most : Int) (Q : TypeId → Value → Prop) (d : Nat) : Prop :=
  ∀ (t : Ty) (ka : Option Addr) (kc : Nat) (below : Bool) (w : World), isTypeB W most d t below = true → Env w mb W most Q → KidsV w ka kc t.kids → t.Fits →
    Calls Tryz.prog 32 #[.pointer (some ⟨mb, 0, none⟩), .agg #[.string t.kd, .string t.nm, .string t.tg, .int .i64 t.sz, .slice ka t.kids.length kc]] w (GivesT Q t w)

end Go.Proofs.YtipmpeekfajlcaaGreatDoor
