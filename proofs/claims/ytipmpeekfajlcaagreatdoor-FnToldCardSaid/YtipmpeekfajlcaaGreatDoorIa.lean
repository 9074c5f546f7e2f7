/- What is proved: words for impl's build: packages, names and declared types as they lie in the rows of made; the contract of pkg. Conditions: none. -/
import Derived.Test.YtipmpeekfajlcaaGreatDoorHa
import Derived.Test.YtipmpeekfajlcaaGreatDoorGn
import Derived.Test.YtipmpeekfajlcaaGreatDoorWa
namespace Go.Proofs.YtipmpeekfajlcaaGreatDoor
open Go.RowKit Go.Proofs

theorem setCell_heap_same (w : World) (b i : Nat) (v : Value) {c : Array Value} {T : TypeId} (h : w.heap[b]? = some (Obj.cells c T (0, 0))) : (w.setCell ⟨b, i, none⟩ v).heap[b]? = some (Obj.cells (c.setIfInBounds i v) T (0, 0)) := by
  simp only [World.setCell, Array.getElem?_modify]
  simp [h]

/-- made lies at block mb: its three rows. -/
def M3 (w : World) (mb : Nat) (vp vn vd : Value) : Prop := w.heap[mb]? = some (Obj.cells #[vp, vn, vd] 63 (0, 0))
theorem M3.c0 {w : World} {mb : Nat} {vp vn vd : Value} (h : M3 w mb vp vn vd) : w.cell? ⟨mb, 0, none⟩ = some vp := by simp [World.cell?, show w.heap[mb]? = _ from h]
theorem M3.c1 {w : World} {mb : Nat} {vp vn vd : Value} (h : M3 w mb vp vn vd) : w.cell? ⟨mb, 1, none⟩ = some vn := by simp [World.cell?, show w.heap[mb]? = _ from h]
theorem M3.c2 {w : World} {mb : Nat} {vp vn vd : Value} (h : M3 w mb vp vn vd) : w.cell? ⟨mb, 2, none⟩ = some vd := by simp [World.cell?, show w.heap[mb]? = _ from h]
theorem M3.z {w : World} {mb : Nat} {vp vn vd : Value} (h : M3 w mb vp vn vd) (i : Nat) : w.frozen? ⟨mb, i, none⟩ = false := by simp [World.frozen?, show w.heap[mb]? = _ from h]
theorem M3.fix {w w' : World} {mb : Nat} {vp vn vd : Value} {e : TypeId} (h : M3 w mb vp vn vd) (hf : Fix e w w') (he : 63 ≠ e) : M3 w' mb vp vn vd := hf _ _ _ h he
theorem M3.below {w w' : World} {mb : Nat} {vp vn vd : Value} (h : M3 w mb vp vn vd) (hb : Below w.heap.size w w') : M3 w' mb vp vn vd := h.fix (Fix.below (e := 0) hb) (by decide)
theorem M3.lt {w : World} {mb : Nat} {vp vn vd : Value} (h : M3 w mb vp vn vd) : mb < w.heap.size := (Array.getElem?_eq_some_iff.1 h).1
theorem M3.set0 {w : World} {mb : Nat} {vp vn vd : Value} (h : M3 w mb vp vn vd) (v : Value) : M3 (w.setCell ⟨mb, 0, none⟩ v) mb v vn vd := by
  have := setCell_heap_same w mb 0 v h
  exact this
theorem M3.set1 {w : World} {mb : Nat} {vp vn vd : Value} (h : M3 w mb vp vn vd) (v : Value) : M3 (w.setCell ⟨mb, 1, none⟩ v) mb vp v vd := by
  have := setCell_heap_same w mb 1 v h
  exact this
theorem M3.set2 {w : World} {mb : Nat} {vp vn vd : Value} (h : M3 w mb vp vn vd) (v : Value) : M3 (w.setCell ⟨mb, 2, none⟩ v) mb vp vn v := by
  have := setCell_heap_same w mb 2 v h
  exact this
/-- A store into a block of type e. -/
theorem Fix.setCell {w : World} {b : Nat} {cs : Array Value} {e : TypeId} (h : w.heap[b]? = some (Obj.cells cs e (0, 0))) (i : Nat) (v : Value) : Fix e w (w.setCell ⟨b, i, none⟩ v) := fun k cs' T hk hT => by
  rw [Below.heap_setCell _ _ _ _ (fun e' => hT (by simp only at e'; subst e'; rw [h] at hk; cases hk; rfl))]
  exact hk
theorem own_setCell {w : World} {b B n : Nat} {cs : Array Value} {e T : TypeId} {v : Value} {xs : List Value} (ho : w.ownsRow B e 1 v n xs) (h : w.heap[b]? = some (Obj.cells cs T (0, 0))) (hT : T ≠ e) (i : Nat) (u : Value) : (w.setCell ⟨b, i, none⟩ u).ownsRow B e 1 v n xs := by
  refine ho.kept (row := some b) (but_setCell _ _ _ _) ?_
  rcases ho.2 with ⟨rfl, _⟩ | ⟨g, cap, cur, rfl, _, hg, _⟩
  · exact .inl rfl
  · right
    intro e0
    simp only [Value.ownBlock, Option.some.injEq] at e0
    subst e0
    rw [h] at hg
    cases hg
    exact hT rfl

/-- A package lies, with its scope, which is empty. -/
def PkgP (W : WorldD) (B : Nat) (w : World) (j vb : Nat) : Prop := ∃ cs sb c, w.heap[vb]? = some (Obj.cells cs 101 (0, 0)) ∧ cs[0]? = some (.string (W.pkg j).path) ∧ cs[2]? = some (.pointer (some ⟨sb, 0, none⟩)) ∧
  w.heap[sb]? = some (Obj.cells c 164 (0, 0)) ∧ c[3]? = some (.map none) ∧ B ≤ vb ∧ B ≤ sb
theorem PkgP.fix {W : WorldD} {B : Nat} {w w' : World} {e : TypeId} (hf : Fix e w w') (h1 : 101 ≠ e) (h2 : 164 ≠ e) {j vb : Nat} (h : PkgP W B w j vb) : PkgP W B w' j vb := by
  obtain ⟨cs, sb, c, a1, a2, a3, a4, a5, a6, a7⟩ := h
  exact ⟨cs, sb, c, hf _ _ _ a1 h1, a2, a3, hf _ _ _ a4 h2, a5, a6, a7⟩
/-- What pkg gives for number k: none, or the package. -/
def PkgQ (W : WorldD) (B : Nat) (w : World) (k : Int) (q : Option Addr) : Prop := 0 ≤ k → ∃ pb, q = some ⟨pb, 0, none⟩ ∧ PkgP W B w k.toNat pb
theorem PkgQ.fix {W : WorldD} {B : Nat} {w w' : World} {e : TypeId} (hf : Fix e w w') (h1 : 101 ≠ e) (h2 : 164 ≠ e) {k : Int} {q : Option Addr} (h : PkgQ W B w k q) : PkgQ W B w' k q := fun hk => by
  obtain ⟨pb, a1, a2⟩ := h hk
  exact ⟨pb, a1, a2.fix hf h1 h2⟩

set_option maxHeartbeats 1000000 in
theorem pkg_neg (mb : Nat) (k : Int) (hk : k < 0) (w : World) : Calls Tryz.prog 30 #[.pointer (some ⟨mb, 0, none⟩), .int .i64 k] w fun e w' => e = .returned (.pointer none) ∧ w = w' := by
  go_enter Tryz.func30, Tryz.ntmps30
  go_wp2
  go_ret
  exact ⟨rfl, rfl⟩
set_option maxHeartbeats 1000000 in
theorem pkg_pos (mb g np cap : Nat) (q : Option Addr) (k : Int) (hk : 0 ≤ k) (hn : k < np) (w : World) (c0 : w.cell? ⟨mb, 0, none⟩ = some (.slice (some ⟨g, 0, none⟩) np cap)) (c1 : w.cell? ⟨g, k.toNat, none⟩ = some (.pointer q)) :
    Calls Tryz.prog 30 #[.pointer (some ⟨mb, 0, none⟩), .int .i64 k] w fun e w' => e = .returned (.pointer q) ∧ w = w' := by
  go_enter Tryz.func30, Tryz.ntmps30
  go_wp2
  go_ret
  exact ⟨rfl, rfl⟩
/-- pkg, where the packages lie in their row. -/
theorem pkg_any (W : WorldD) (B mb np : Nat) (vp vn vd : Value) (xs : List Value) (k : Int) (hn : k < np) (w : World) (hm : M3 w mb vp vn vd) (ho : w.ownsRow B 64 1 vp np xs) (hr : RowP w xs np (PkgP W B)) :
    Calls Tryz.prog 30 #[.pointer (some ⟨mb, 0, none⟩), .int .i64 k] w fun e w' => ∃ q, e = .returned (.pointer q) ∧ w = w' ∧ PkgQ W B w k q ∧ (k < 0 → q = none) := by
  by_cases hk : k < 0
  · exact (pkg_neg mb k hk w).mono fun e w' ⟨h1, h2⟩ => ⟨none, h1, h2, fun h => absurd h (by omega), fun _ => rfl⟩
  · obtain ⟨g, cap, rfl, _, _⟩ := ho.form (by omega)
    obtain ⟨vb, h1, h2⟩ := hr k.toNat (by omega)
    exact (pkg_pos mb g np cap (some ⟨vb, 0, none⟩) k (by omega) hn w hm.c0 ((ho.cellAt _ (by omega)).trans h1)).mono fun e w' ⟨h3, h4⟩ => ⟨_, h3, h4, fun _ => ⟨vb, rfl, h2⟩, fun h => absurd h hk⟩

end Go.Proofs.YtipmpeekfajlcaaGreatDoor
