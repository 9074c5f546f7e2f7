/- What is proved: contracts of NewAlias and of what it calls. -/
import Derived.Test.YtipmpeekfajlcaaGreatDoorGl
namespace Go.Proofs.YtipmpeekfajlcaaGreatDoor
open Go.RowKit Go.Proofs

/-- The world behind newAlias: the name's type is set, the alias lies; t: what it stands for in the end. -/
def aliasWorld (ob : Nat) (r t : Value) (w : World) : World :=
  (w.setCell ⟨ob, 4, none⟩ (.iface 75 (.pointer (some ⟨w.heap.size, 0, none⟩)))).alloc (.cells #[.pointer (some ⟨ob, 0, none⟩), .pointer (some ⟨w.heap.size, 0, none⟩), .pointer none, .pointer none, r, t] 188)

set_option maxRecDepth 100000 in
set_option maxHeartbeats 2000000 in
theorem newAlias61_any (ob : Nat) (T : TypeId) (v : Value) (w : World) (h4 : w.cell? ⟨ob, 4, none⟩ = some .nilIface) (f4 : w.frozen? ⟨ob, 4, none⟩ = false) :
    Calls Tryz.prog 61 #[.pointer none, .pointer (some ⟨ob, 0, none⟩), .iface T v] w fun e w' => e = .returned (.pointer (some ⟨w.heap.size, 0, none⟩)) ∧ aliasWorld ob (.iface T v) .nilIface w = w' := by
  have hbl := World.block_lt_of_cell? _ _ h4
  simp only at hbl
  go_enter Tryz.func61, Tryz.ntmps61
  go_wp2
  go_ret
  exact ⟨rfl, rfl⟩

/-- The aliases at the blocks in S lie: each stands for a plain or a declared type, or for an older alias. -/
def AliasesV (w : World) (S : Nat → Prop) : Prop := ∀ b, S b → ∃ T v, w.cell? ⟨b, 4, none⟩ = some (.iface T v) ∧ ((PlainT T ∨ T = 70) ∨ (T = 75 ∧ ∃ b', v = .pointer (some ⟨b', 0, none⟩) ∧ b' < b ∧ S b'))

end Go.Proofs.YtipmpeekfajlcaaGreatDoor
