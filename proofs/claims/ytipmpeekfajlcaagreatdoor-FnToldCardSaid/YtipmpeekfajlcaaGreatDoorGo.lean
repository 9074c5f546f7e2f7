/- What is proved: the contract of a scope's Insert, at an empty scope. -/
import Derived.Test.YtipmpeekfajlcaaGreatDoorGf
namespace Go.Proofs.YtipmpeekfajlcaaGreatDoor
open Go.RowKit Go.Proofs

@[go_sem] theorem neq49_nil (w : World) : (binOp BinOp.neq 49 .nilIface .nilIface).run Tryz.prog w = .ok (.bool false) w := by kernel_rfl

theorem lookupNil_any (sb : Nat) (s : ByteArray) (w : World) (h3 : w.cell? ⟨sb, 3, none⟩ = some (.map none)) :
    Calls Tryz.prog 71 #[.pointer (some ⟨sb, 0, none⟩), .string s] w fun e w' => e = .returned .nilIface ∧ w = w' := by
  have hl := miss_nil w s u162 u9 (zero49 w)
  go_enter Tryz.func71, Tryz.ntmps71
  go_wp2
  go_ret
  exact ⟨rfl, rfl⟩

set_option maxRecDepth 100000 in
set_option maxHeartbeats 2000000 in
theorem scopeInsert72_any (sb : Nat) (s : ByteArray) (v : Value) (w : World) (h3 : w.cell? ⟨sb, 3, none⟩ = some (.map none)) (f3 : w.frozen? ⟨sb, 3, none⟩ = false) :
    Calls Tryz.prog 72 #[.pointer (some ⟨sb, 0, none⟩), .string s, v] w fun e w' => e = .returned (.tuple #[]) ∧ w.grownBy w' (some sb) := by
  have hmm := @run_makeMap Tryz.prog
  have hbl := World.block_lt_of_cell? _ _ h3
  simp only at hbl
  have HS1 := Lib.hid (SetAt.made2 w ⟨sb, 3, none⟩ (.map (some w.heap.size)))
  go_enter Tryz.func72, Tryz.ntmps72
  go_wp2_with (at_mapUpdate; refine wpList_mapUpdate_set _ rfl _ _ _ 162 rfl u162 u9 w.heap.size [] rfl HS1.out s rfl List.not_mem_nil ?_; intro o' hs2 ho)
  go_end0
  refine ⟨rfl, ?_⟩
  refine ⟨rfl, rfl, rfl, ?_, fun k hk hne => ?_⟩
  · simp [World.setCell]
  · rw [World.putObj_heap_other (by omega), Below.heap_alloc _ _ _ (by rw [setCell_size]; exact hk), Below.heap_setCell _ _ _ _ (fun e => hne (by rw [e]))]
/-- The types of objects that come into a scope. -/
def ScopedT (T : TypeId) : Prop := T = 78 ∨ T = 81 ∨ T = 86 ∨ T = 66

theorem name184_any (ob : Nat) (s : ByteArray) (w : World) (o3 : w.cell? ⟨ob, 3, none⟩ = some (.string s)) : Calls Tryz.prog 184 #[.pointer (some ⟨ob, 0, none⟩)] w fun e w' => e = .returned (.string s) ∧ w = w' := by
  go_enter Tryz.func184, Tryz.ntmps184
  go_wp2
  go_ret
  exact ⟨rfl, rfl⟩
theorem parent264_any (ob : Nat) (w : World) (o0 : w.cell? ⟨ob, 0, none⟩ = some (.pointer none)) : Calls Tryz.prog 264 #[.pointer (some ⟨ob, 0, none⟩)] w fun e w' => e = .returned (.pointer none) ∧ w = w' := by
  go_enter Tryz.func264, Tryz.ntmps264
  go_wp2
  go_ret
  exact ⟨rfl, rfl⟩
theorem setParent269_any (ob : Nat) (p v : Option Addr) (w : World) (o0 : w.cell? ⟨ob, 0, none⟩ = some (.pointer v)) (g0 : w.frozen? ⟨ob, 0, none⟩ = false) : Calls Tryz.prog 269 #[.pointer (some ⟨ob, 0, none⟩), .pointer p] w fun e w' => e = .returned (.tuple #[]) ∧ w.setCell ⟨ob, 0, none⟩ (.pointer p) = w' := by
  go_enter Tryz.func269, Tryz.ntmps269
  go_wp2
  go_end0
  exact ⟨rfl, rfl⟩

set_option maxRecDepth 100000 in
set_option maxHeartbeats 4000000 in
theorem scopeInsert_any (sb ob : Nat) (T : TypeId) (hT : ScopedT T) (s : ByteArray) (w : World) (hne : ¬ ob = sb) (h3 : w.cell? ⟨sb, 3, none⟩ = some (.map none)) (f3 : w.frozen? ⟨sb, 3, none⟩ = false)
    (o0 : w.cell? ⟨ob, 0, none⟩ = some (.pointer none)) (g0 : w.frozen? ⟨ob, 0, none⟩ = false) (o3 : w.cell? ⟨ob, 3, none⟩ = some (.string s)) :
    Calls Tryz.prog 45 #[.pointer (some ⟨sb, 0, none⟩), .iface T (.pointer (some ⟨ob, 0, none⟩))] w fun e w' => e = .returned .nilIface ∧ ∃ w1, w.grownBy w1 (some sb) ∧ w1.setCell ⟨ob, 0, none⟩ (.pointer (some ⟨sb, 0, none⟩)) = w' := by
  have hbl := World.block_lt_of_cell? _ _ o0
  simp only at hbl
  have c71 := lookupNil_any sb s w h3
  have c72 := scopeInsert72_any sb s (.iface T (.pointer (some ⟨ob, 0, none⟩))) w h3 f3
  clear h3 f3
  have hkeep : ∀ w1 : World, w.grownBy w1 (some sb) → w1.heap[ob]? = w.heap[ob]? := fun w1 h => h.block ob hbl (fun e => hne (by cases e; rfl))
  have HK := Lib.hid hkeep
  clear hkeep
  rcases hT with rfl | rfl | rfl | rfl
  all_goals
    go_enter Tryz.func45, Tryz.ntmps45
    go_wp2_with (first | (go_at_call 184; refine (name184_any ob s _ o3).mono ?_; rintro e w' ⟨rfl, rfl⟩) | (go_at_call 264; refine (parent264_any ob _ p0).mono ?_; rintro e w' ⟨rfl, rfl⟩) | (go_at_call 269; refine (setParent269_any ob _ _ _ p0 q0).mono ?_; rintro e w' ⟨rfl, rfl⟩) | (go_at_call 71; refine c71.mono ?_; rintro e w' ⟨rfl, rfl⟩) | (go_at_call 72; refine c72.mono ?_; rintro e w1 ⟨rfl, hg⟩; have p0 := (World.cell?_of_block (a := ⟨ob, 0, none⟩) (HK.out w1 hg)).trans o0; have q0 := (World.frozen?_of_block (a := ⟨ob, 0, none⟩) (HK.out w1 hg)).trans g0))
    go_ret
    exact ⟨rfl, _, hg, rfl⟩

end Go.Proofs.YtipmpeekfajlcaaGreatDoor
