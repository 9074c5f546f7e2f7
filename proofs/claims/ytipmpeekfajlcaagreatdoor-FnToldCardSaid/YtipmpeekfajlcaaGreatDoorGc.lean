/- What is proved: contracts of NewSignatureType (not variadic) and of what it calls. -/
import Derived.Test.YtipmpeekfajlcaaGreatDoorGa
import Derived.RangeFuncRecord
namespace Go.Proofs.YtipmpeekfajlcaaGreatDoor
open Go.RowKit Go.Proofs

@[go_sem] theorem as151_75 (v : Value) (w : World) : (Instr.typeAssert (.iface 151 v) 73 75 true).run Tryz.prog w = .ok (.tuple #[.pointer none, .bool false]) w := by kernel_rfl
@[go_sem] theorem as151_70 (v : Value) (w : World) : (Instr.typeAssert (.iface 151 v) 73 70 true).run Tryz.prog w = .ok (.tuple #[.pointer none, .bool false]) w := by kernel_rfl
@[go_sem] theorem as121_75 (v : Value) (w : World) : (Instr.typeAssert (.iface 121 v) 73 75 true).run Tryz.prog w = .ok (.tuple #[.pointer none, .bool false]) w := by kernel_rfl
@[go_sem] theorem as121_70 (v : Value) (w : World) : (Instr.typeAssert (.iface 121 v) 73 70 true).run Tryz.prog w = .ok (.tuple #[.pointer none, .bool false]) w := by kernel_rfl
@[go_sem] theorem as123_75 (v : Value) (w : World) : (Instr.typeAssert (.iface 123 v) 73 75 true).run Tryz.prog w = .ok (.tuple #[.pointer none, .bool false]) w := by kernel_rfl
@[go_sem] theorem as123_70 (v : Value) (w : World) : (Instr.typeAssert (.iface 123 v) 73 70 true).run Tryz.prog w = .ok (.tuple #[.pointer none, .bool false]) w := by kernel_rfl
@[go_sem] theorem as125_75 (v : Value) (w : World) : (Instr.typeAssert (.iface 125 v) 73 75 true).run Tryz.prog w = .ok (.tuple #[.pointer none, .bool false]) w := by kernel_rfl
@[go_sem] theorem as125_70 (v : Value) (w : World) : (Instr.typeAssert (.iface 125 v) 73 70 true).run Tryz.prog w = .ok (.tuple #[.pointer none, .bool false]) w := by kernel_rfl
@[go_sem] theorem as127_75 (v : Value) (w : World) : (Instr.typeAssert (.iface 127 v) 73 75 true).run Tryz.prog w = .ok (.tuple #[.pointer none, .bool false]) w := by kernel_rfl
@[go_sem] theorem as127_70 (v : Value) (w : World) : (Instr.typeAssert (.iface 127 v) 73 70 true).run Tryz.prog w = .ok (.tuple #[.pointer none, .bool false]) w := by kernel_rfl
@[go_sem] theorem as129_75 (v : Value) (w : World) : (Instr.typeAssert (.iface 129 v) 73 75 true).run Tryz.prog w = .ok (.tuple #[.pointer none, .bool false]) w := by kernel_rfl
@[go_sem] theorem as129_70 (v : Value) (w : World) : (Instr.typeAssert (.iface 129 v) 73 70 true).run Tryz.prog w = .ok (.tuple #[.pointer none, .bool false]) w := by kernel_rfl
@[go_sem] theorem as132_75 (v : Value) (w : World) : (Instr.typeAssert (.iface 132 v) 73 75 true).run Tryz.prog w = .ok (.tuple #[.pointer none, .bool false]) w := by kernel_rfl
@[go_sem] theorem as132_70 (v : Value) (w : World) : (Instr.typeAssert (.iface 132 v) 73 70 true).run Tryz.prog w = .ok (.tuple #[.pointer none, .bool false]) w := by kernel_rfl
@[go_sem] theorem as134_75 (v : Value) (w : World) : (Instr.typeAssert (.iface 134 v) 73 75 true).run Tryz.prog w = .ok (.tuple #[.pointer none, .bool false]) w := by kernel_rfl
@[go_sem] theorem as134_70 (v : Value) (w : World) : (Instr.typeAssert (.iface 134 v) 73 70 true).run Tryz.prog w = .ok (.tuple #[.pointer none, .bool false]) w := by kernel_rfl
@[go_sem] theorem as88_75 (v : Value) (w : World) : (Instr.typeAssert (.iface 88 v) 73 75 true).run Tryz.prog w = .ok (.tuple #[.pointer none, .bool false]) w := by kernel_rfl
@[go_sem] theorem as88_70 (v : Value) (w : World) : (Instr.typeAssert (.iface 88 v) 73 70 true).run Tryz.prog w = .ok (.tuple #[.pointer none, .bool false]) w := by kernel_rfl
@[go_sem] theorem as70_75 (v : Value) (w : World) : (Instr.typeAssert (.iface 70 v) 73 75 true).run Tryz.prog w = .ok (.tuple #[.pointer none, .bool false]) w := by kernel_rfl
@[go_sem] theorem as70_70 (v : Value) (w : World) : (Instr.typeAssert (.iface 70 v) 73 70 true).run Tryz.prog w = .ok (.tuple #[v, .bool true]) w := by kernel_rfl
@[go_sem] theorem as75_75 (v : Value) (w : World) : (Instr.typeAssert (.iface 75 v) 73 75 true).run Tryz.prog w = .ok (.tuple #[v, .bool true]) w := by kernel_rfl
@[go_sem] theorem as75_70 (v : Value) (w : World) : (Instr.typeAssert (.iface 75 v) 73 70 true).run Tryz.prog w = .ok (.tuple #[.pointer none, .bool false]) w := by kernel_rfl
@[go_sem] theorem as123_241 (v : Value) (w : World) : (Instr.typeAssert (.iface 123 v) 73 241 true).run Tryz.prog w = .ok (.tuple #[.pointer none, .bool false]) w := by kernel_rfl
@[go_sem] theorem as123_151 (v : Value) (w : World) : (Instr.typeAssert (.iface 123 v) 73 151 true).run Tryz.prog w = .ok (.tuple #[.pointer none, .bool false]) w := by kernel_rfl
@[go_sem] theorem as123_123 (v : Value) (w : World) : (Instr.typeAssert (.iface 123 v) 73 123 true).run Tryz.prog w = .ok (.tuple #[v, .bool true]) w := by kernel_rfl
@[go_sem] theorem as88_88x (v : Value) (w : World) : (Instr.typeAssert (.iface 88 v) 73 88 false).run Tryz.prog w = .ok v w := by kernel_rfl

/-- A new function type: the pointer, the receiver's cell, what was there. -/
def SigGives (w : World) (rv : Value) (e : Ending) (w' : World) : Prop :=
  ∃ b, e = .returned (.pointer (some ⟨b, 0, none⟩)) ∧ w.heap.size ≤ b ∧ (∃ c, w'.heap[b]? = some (.cells c 205) ∧ c.size = 7 ∧ c[2]? = some rv) ∧ Below w.heap.size w w'

set_option maxHeartbeats 2000000 in
theorem newSigPlain_any (rv ps rs : Option Addr) (w : World) :
    Calls Tryz.prog 68 #[.pointer rv, .slice none 0 0, .slice none 0 0, .pointer ps, .pointer rs, .bool false] w (SigGives w (.pointer rv)) := by
  go_enter Tryz.func68, Tryz.ntmps68
  go_wp2
  go_ret
  go_light
  exact ⟨w.heap.size, rfl, Nat.le_refl _, ⟨_, World.alloc_heap_new w _, rfl, rfl⟩, by go_grown⟩

theorem sliceUnder_any (p : Option Addr) (w : World) : Calls Tryz.prog 295 #[.pointer p] w fun e w' => e = .returned (.iface 123 (.pointer p)) ∧ w = w' := by
  go_enter Tryz.func295, Tryz.ntmps295
  go_wp2
  go_ret
  exact ⟨rfl, rfl⟩
set_option maxRecDepth 100000 in
theorem unaliasSlice_any (p : Option Addr) (w : World) : Calls Tryz.prog 73 #[.iface 123 (.pointer p)] w fun e w' => e = .returned (.iface 123 (.pointer p)) ∧ w = w' := by
  go_enter Tryz.func73, Tryz.ntmps73
  go_wp2
  go_ret
  exact ⟨rfl, rfl⟩
set_option maxRecDepth 100000 in
theorem isBasicSlice_any (p : Option Addr) (k : Int) (w : World) : Calls Tryz.prog 106 #[.iface 123 (.pointer p), .int .i64 k] w fun e w' => e = .returned (.bool false) ∧ w = w' := by
  go_enter Tryz.func106, Tryz.ntmps106
  go_wp2_with (go_at_call 295; refine (sliceUnder_any _ _).mono ?_; rintro e w' ⟨rfl, rfl⟩)
  go_ret
  exact ⟨rfl, rfl⟩
theorem isStringSlice_any (p : Option Addr) (w : World) : Calls Tryz.prog 86 #[.iface 123 (.pointer p)] w fun e w' => e = .returned (.bool false) ∧ w = w' := by
  go_enter Tryz.func86, Tryz.ntmps86
  go_wp2_with (go_at_call 106; refine (isBasicSlice_any _ _ _).mono ?_; rintro e w' ⟨rfl, rfl⟩)
  go_ret
  exact ⟨rfl, rfl⟩
theorem typeset_any (p : Option Addr) (w : World) : Calls Tryz.prog 85 #[.iface 123 (.pointer p)] w fun e w' => e = .returned (.func (.func 104) #[] #[.pointer (some ⟨w.heap.size, 0, none⟩)]) ∧ w.alloc (.cells #[.iface 123 (.pointer p)] 73) = w' := by
  go_enter Tryz.func85, Tryz.ntmps85
  go_wp2
  go_ret
  exact ⟨rfl, rfl⟩
theorem tupleLen_any (b sb so n c : Nat) (w : World) (h0 : w.cell? ⟨b, 0, none⟩ = some (.slice (some ⟨sb, so, none⟩) n c)) : Calls Tryz.prog 83 #[.pointer (some ⟨b, 0, none⟩)] w fun e w' => e = .returned (.int .i64 n) ∧ w = w' := by
  go_enter Tryz.func83, Tryz.ntmps83
  go_wp2
  go_ret
  exact ⟨rfl, rfl⟩
theorem tupleAt_any (b sb so n c i : Nat) (v : Option Addr) (w : World) (h0 : w.cell? ⟨b, 0, none⟩ = some (.slice (some ⟨sb, so, none⟩) n c)) (hi : i < n) (hc : w.cell? ⟨sb, so + i, none⟩ = some (.pointer v)) :
    Calls Tryz.prog 84 #[.pointer (some ⟨b, 0, none⟩), .int .i64 i] w fun e w' => e = .returned (.pointer v) ∧ w = w' := by
  go_enter Tryz.func84, Tryz.ntmps84
  go_wp2
  go_ret
  exact ⟨rfl, rfl⟩

end Go.Proofs.YtipmpeekfajlcaaGreatDoor
