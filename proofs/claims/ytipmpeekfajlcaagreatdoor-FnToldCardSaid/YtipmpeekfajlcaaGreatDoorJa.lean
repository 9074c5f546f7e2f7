/- What is proved: contracts of what impl's object calls besides, and how an object lies. Conditions: none. -/
import Derived.Test.YtipmpeekfajlcaaGreatDoorIb
import Derived.Test.YtipmpeekfajlcaaGreatDoorGo
import Derived.Test.YtipmpeekfajlcaaGreatDoorWc
import Derived.StillTailTactics
namespace Go.Proofs.YtipmpeekfajlcaaGreatDoor
open Go.RowKit Go.Proofs Go.Sort Go.BigFrame

/-- An object lies at block ob: in no scope, of package q, with the name n. -/
def ObjH (w : World) (ob : Nat) (q : Option Addr) (n : ByteArray) : Prop := ∃ (cs : Array Value) (T : TypeId), w.heap[ob]? = some (Obj.cells cs T (0, 0)) ∧ T ≠ 101 ∧ T ≠ 164 ∧ cs[0]? = some (.pointer none) ∧ cs[2]? = some (.pointer q) ∧ cs[3]? = some (.string n)
theorem ObjH.below {w w' : World} {ob : Nat} {q : Option Addr} {n : ByteArray} (h : ObjH w ob q n) (hb : Below w.heap.size w w') : ObjH w' ob q n := by
  obtain ⟨cs, T, h1, h2⟩ := h
  exact ⟨cs, T, (hb.block ob (Array.getElem?_eq_some_iff.1 h1).1).trans h1, h2⟩
theorem ObjH.c2 {w : World} {ob : Nat} {q : Option Addr} {n : ByteArray} (h : ObjH w ob q n) : w.cell? ⟨ob, 2, none⟩ = some (.pointer q) := by
  obtain ⟨cs, T, h1, _, _, _, h2, _⟩ := h
  simp [World.cell?, h1, h2]
theorem ObjH.c3 {w : World} {ob : Nat} {q : Option Addr} {n : ByteArray} (h : ObjH w ob q n) : w.cell? ⟨ob, 3, none⟩ = some (.string n) := by
  obtain ⟨cs, T, h1, _, _, _, _, h2⟩ := h
  simp [World.cell?, h1, h2]

theorem newVarP_b (p : Option Addr) (n : ByteArray) (T : TypeId) (v : Value) (w : World) : Calls Tryz.prog 35 #[.int .i64 0, .pointer p, .string n, .iface T v] w fun e w' => e = .returned (.pointer (some ⟨w.heap.size, 0, none⟩)) ∧ ObjH w' w.heap.size p n ∧ Below w.heap.size w w' :=
  (newVarP_any p n T v w).mono fun e w' ⟨h1, h2⟩ => ⟨h1, by rw [← h2]; exact ⟨_, _, World.alloc_heap_new w _, by decide, by decide, rfl, rfl, rfl⟩, by rw [← h2]; exact (Below.refl _ _).alloc (Nat.le_refl _) _⟩
theorem newParam_b (p : Option Addr) (n : ByteArray) (T : TypeId) (v : Value) (w : World) : Calls Tryz.prog 36 #[.int .i64 0, .pointer p, .string n, .iface T v] w fun e w' => e = .returned (.pointer (some ⟨w.heap.size, 0, none⟩)) ∧ ObjH w' w.heap.size p n ∧ Below w.heap.size w w' :=
  (newParam_any p n T v w).mono fun e w' ⟨h1, h2⟩ => ⟨h1, by rw [← h2]; exact ⟨_, _, World.alloc_heap_new w _, by decide, by decide, rfl, rfl, rfl⟩, by rw [← h2]; exact (Below.refl _ _).alloc (Nat.le_refl _) _⟩
theorem newField_b (p : Option Addr) (n : ByteArray) (T : TypeId) (v : Value) (b : Bool) (w : World) : Calls Tryz.prog 37 #[.int .i64 0, .pointer p, .string n, .iface T v, .bool b] w fun e w' => e = .returned (.pointer (some ⟨w.heap.size, 0, none⟩)) ∧ ObjH w' w.heap.size p n ∧ Below w.heap.size w w' :=
  (newField_any p n T v b w).mono fun e w' ⟨h1, h2⟩ => ⟨h1, by rw [← h2]; exact ⟨_, _, World.alloc_heap_new w _, by decide, by decide, rfl, rfl, rfl⟩, by rw [← h2]; exact (Below.refl _ _).alloc (Nat.le_refl _) _⟩
theorem newConst_b (p : Option Addr) (n : ByteArray) (T U : TypeId) (v u : Value) (w : World) : Calls Tryz.prog 38 #[.int .i64 0, .pointer p, .string n, .iface T v, .iface U u] w fun e w' => e = .returned (.pointer (some ⟨w.heap.size, 0, none⟩)) ∧ ObjH w' w.heap.size p n ∧ Below w.heap.size w w' :=
  (newConst_any p n T U v u w).mono fun e w' ⟨h1, h2⟩ => ⟨h1, by rw [← h2]; exact ⟨_, _, World.alloc_heap_new w _, by decide, by decide, rfl, rfl, rfl⟩, by rw [← h2]; exact (Below.refl _ _).alloc (Nat.le_refl _) _⟩
theorem newFunc_b (p : Option Addr) (n : ByteArray) (a : Addr) (w : World) : Calls Tryz.prog 40 #[.int .i64 0, .pointer p, .string n, .pointer (some a)] w fun e w' => e = .returned (.pointer (some ⟨w.heap.size, 0, none⟩)) ∧ ObjH w' w.heap.size p n ∧ Below w.heap.size w w' :=
  (newFunc_any p n a w).mono fun e w' ⟨h1, h2⟩ => ⟨h1, by rw [← h2]; exact ⟨_, _, World.alloc_heap_new w _, by decide, by decide, rfl, rfl, rfl⟩, by rw [← h2]; exact (Below.refl _ _).alloc (Nat.le_refl _) _⟩

theorem scope44_any (pb : Nat) (q : Option Addr) (w : World) (c2 : w.cell? ⟨pb, 2, none⟩ = some (.pointer q)) : Calls Tryz.prog 44 #[.pointer (some ⟨pb, 0, none⟩)] w fun e w' => e = .returned (.pointer q) ∧ w = w' := by
  go_enter Tryz.func44, Tryz.ntmps44
  go_wp2
  go_ret
  exact ⟨rfl, rfl⟩

/-- A package's path, read at its block. -/
theorem PkgP.path {W : WorldD} {B : Nat} {w : World} {j vb : Nat} (h : PkgP W B w j vb) : w.cell? ⟨vb, 0, none⟩ = some (.string (W.pkg j).path) := by
  obtain ⟨cs, sb, c, a1, a2, _⟩ := h
  simp [World.cell?, a1, a2]
theorem PkgP.below {W : WorldD} {B : Nat} {w w' : World} {j vb : Nat} (h : PkgP W B w j vb) (hb : Below w.heap.size w w') : PkgP W B w' j vb := h.fix (Fix.below (e := 0) hb) (by decide) (by decide)

/-- What object gives. -/
def ObjT (T : TypeId) : Prop := T = 78 ∨ T = 81 ∨ T = 86 ∨ T = 66 ∨ T = 90 ∨ T = 92
def ObjFacts (w : World) (ob : Nat) (n p : ByteArray) : Prop := ∃ pb, w.cell? ⟨ob, 2, none⟩ = some (.pointer (some ⟨pb, 0, none⟩)) ∧ w.cell? ⟨ob, 3, none⟩ = some (.string n) ∧ w.cell? ⟨pb, 0, none⟩ = some (.string p)
def ObjGives (B : Nat) (n p : ByteArray) (w : World) (e : Ending) (w' : World) : Prop := ∃ T ob, e = .returned (.iface T (.pointer (some ⟨ob, 0, none⟩))) ∧ ObjT T ∧ ObjFacts w' ob n p ∧ Below B w w'

/-- Insert of an object into the scope of a package. -/
theorem insert_any (W : WorldD) (B sb ob pb pq j j' : Nat) (T : TypeId) (hT : ScopedT T) (n : ByteArray) (w : World) (ho : ObjH w ob (some ⟨pq, 0, none⟩) n) (hB : B ≤ ob) (hp : PkgP W B w j pb) (hq : PkgP W B w j' pq) (c2 : w.cell? ⟨pb, 2, none⟩ = some (.pointer (some ⟨sb, 0, none⟩))) :
    Calls Tryz.prog 45 #[.pointer (some ⟨sb, 0, none⟩), .iface T (.pointer (some ⟨ob, 0, none⟩))] w fun e w' => e = .returned .nilIface ∧ ObjFacts w' ob n (W.pkg j').path ∧ Below B w w' := by
  obtain ⟨cs, sb', c, a1, a2, a3, a4, a5, a6, a7⟩ := hp
  obtain ⟨co, To, o1, o2, o3, o4, o5, o6⟩ := ho
  obtain ⟨cq, sq, cc, q1, q2, _⟩ := hq
  have hsb : sb' = sb := by
    simp only [World.cell?, a1] at c2
    simp only [a3] at c2
    simpa using c2
  subst hsb
  have hne : ¬ ob = sb' := fun e => by subst e; rw [o1] at a4; cases a4; exact o3 rfl
  have hol := (Array.getElem?_eq_some_iff.1 o1).1
  have hql := (Array.getElem?_eq_some_iff.1 q1).1
  have hqo : pq ≠ ob := fun e => by subst e; rw [q1] at o1; cases o1; exact o2 rfl
  have hqs : pq ≠ sb' := fun e => by subst e; rw [q1] at a4; cases a4
  refine (scopeInsert_any sb' ob T hT n w hne (by simp [World.cell?, a4, a5]) (by simp [World.frozen?, a4]) (by simp [World.cell?, o1, o4]) (by simp [World.frozen?, o1]) (by simp [World.cell?, o1, o6])).mono fun e w' ⟨h1, w1, h2, h3⟩ => ⟨h1, ?_, ?_⟩
  · have ho1 : w1.heap[ob]? = some (Obj.cells co To (0, 0)) := (h2.block ob hol (fun e => hne (by cases e; rfl))).trans o1
    have ho2 := setCell_heap_same w1 ob 0 (.pointer (some ⟨sb', 0, none⟩)) ho1
    rw [h3] at ho2
    have hq1 : w'.heap[pq]? = some (Obj.cells cq 101 (0, 0)) := by
      rw [← h3, Below.heap_setCell _ _ _ _ hqo]
      exact (h2.block pq hql (fun e => hqs (by cases e; rfl))).trans q1
    exact ⟨pq, by simp [World.cell?, ho2, o5], by simp [World.cell?, ho2, o6], by simp [World.cell?, hq1, q2]⟩
  · rw [← h3]
    have hsz : B ≤ w.heap.size := Nat.le_of_lt (Nat.lt_of_le_of_lt hB hol)
    exact ((Below.refl B w).grown h2 hsz (fun k hk => by cases hk; exact a7)).setCell (p := ⟨ob, 0, none⟩) hB _

end Go.Proofs.YtipmpeekfajlcaaGreatDoor
