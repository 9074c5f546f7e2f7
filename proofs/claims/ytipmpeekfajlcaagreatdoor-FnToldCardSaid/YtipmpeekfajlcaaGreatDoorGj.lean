/- What is proved: contracts of NewScope, NewLabel, NewPkgName, NewNamed without a type. -/
import Derived.Test.YtipmpeekfajlcaaGreatDoorGb
import Derived.Test.YtipmpeekfajlcaaGreatDoorGc
namespace Go.Proofs.YtipmpeekfajlcaaGreatDoor
open Go.RowKit Go.Proofs

@[go_sem] theorem asnil_75 (w : World) : (Instr.typeAssert .nilIface 73 75 true).run Tryz.prog w = .ok (.tuple #[.pointer none, .bool false]) w := by kernel_rfl
@[go_sem] theorem asnil_70 (w : World) : (Instr.typeAssert .nilIface 73 70 true).run Tryz.prog w = .ok (.tuple #[.pointer none, .bool false]) w := by kernel_rfl
@[go_sem] theorem eqif_nil (w : World) : (binOp BinOp.eql 73 .nilIface .nilIface).run Tryz.prog w = .ok (.bool true) w := by kernel_rfl

set_option maxHeartbeats 2000000 in
theorem unaliasNil_any (w : World) : Calls Tryz.prog 73 #[.nilIface] w fun e w' => e = .returned .nilIface ∧ w = w' := by
  go_enter Tryz.func73, Tryz.ntmps73
  go_wp2
  go_ret
  exact ⟨rfl, rfl⟩
theorem asNamedNil_any (w : World) : Calls Tryz.prog 51 #[.nilIface] w fun e w' => e = .returned (.pointer none) ∧ w = w' := by
  go_enter Tryz.func51, Tryz.ntmps51
  go_wp2_with (go_at_call 73; refine (unaliasNil_any _).mono ?_; rintro e w' ⟨rfl, rfl⟩)
  go_ret
  exact ⟨rfl, rfl⟩

set_option maxRecDepth 100000 in
set_option maxHeartbeats 2000000 in
theorem newLabel_any (p : Option Addr) (s : ByteArray) (w : World) : Calls Tryz.prog 42 #[.int .i64 0, .pointer p, .string s] w fun e w' =>
    ∃ b, e = .returned (.pointer (some ⟨b, 0, none⟩)) ∧ w.heap.size ≤ b ∧ w'.cell? ⟨b, 2, none⟩ = some (.pointer p) ∧ w'.cell? ⟨b, 3, none⟩ = some (.string s) ∧ Below w.heap.size w w' := by
  have cT := typ_any 0 (by omega) (by omega) w
  go_enter Tryz.func42, Tryz.ntmps42
  go_wp2_with (go_at_call 70; refine cT.mono ?_; rintro e w1 ⟨i, n, rfl, hc, hb⟩)
  go_ret
  go_light
  exact ⟨w1.heap.size, rfl, hb.size, by simp, by simp, hb.alloc hb.size _⟩

set_option maxRecDepth 100000 in
set_option maxHeartbeats 2000000 in
theorem newPkgName_any (p q : Option Addr) (s : ByteArray) (w : World) : Calls Tryz.prog 43 #[.int .i64 0, .pointer p, .string s, .pointer q] w fun e w' =>
    ∃ b, e = .returned (.pointer (some ⟨b, 0, none⟩)) ∧ w.heap.size ≤ b ∧ w'.cell? ⟨b, 2, none⟩ = some (.pointer p) ∧ w'.cell? ⟨b, 3, none⟩ = some (.string s) ∧ Below w.heap.size w w' := by
  have cT := typ_any 0 (by omega) (by omega) w
  go_enter Tryz.func43, Tryz.ntmps43
  go_wp2_with (go_at_call 70; refine cT.mono ?_; rintro e w1 ⟨i, n, rfl, hc, hb⟩)
  go_ret
  go_light
  exact ⟨w1.heap.size, rfl, hb.size, by simp, by simp, hb.alloc hb.size _⟩

/-- The cells of a new declared type, of which the type is to come. -/
def namedCells (ob : Nat) (a : Bool) : Array Value := #[.pointer none, .pointer (some ⟨ob, 0, none⟩), .bool a, .pointer none, .int .i32 0, .int .u32 0, .int .u32 0, .nilIface, .pointer none, .nilIface, .bool false, .slice none 0 0]
/-- The world behind NewNamed: the name's type is set; the new type lies. -/
def namedWorld (ob : Nat) (a : Bool) (w : World) : World := (w.setCell ⟨ob, 4, none⟩ (.iface 70 (.pointer (some ⟨w.heap.size, 0, none⟩)))).alloc (.cells (namedCells ob a) 119)

set_option maxRecDepth 100000 in
set_option maxHeartbeats 2000000 in
theorem newNamed52_any (ob : Nat) (w : World) (h4 : w.cell? ⟨ob, 4, none⟩ = some .nilIface) (f4 : w.frozen? ⟨ob, 4, none⟩ = false) :
    Calls Tryz.prog 52 #[.pointer none, .pointer (some ⟨ob, 0, none⟩), .nilIface, .slice none 0 0] w fun e w' => e = .returned (.pointer (some ⟨w.heap.size, 0, none⟩)) ∧ namedWorld ob false w = w' := by
  have hbl := World.block_lt_of_cell? _ _ h4
  simp only at hbl
  go_enter Tryz.func52, Tryz.ntmps52
  go_wp2
  go_ret
  exact ⟨rfl, rfl⟩

set_option maxRecDepth 100000 in
set_option maxHeartbeats 2000000 in
theorem newNamed_any (ob : Nat) (w : World) (h4 : w.cell? ⟨ob, 4, none⟩ = some .nilIface) (f4 : w.frozen? ⟨ob, 4, none⟩ = false) :
    Calls Tryz.prog 31 #[.pointer (some ⟨ob, 0, none⟩), .nilIface, .slice none 0 0] w fun e w' => e = .returned (.pointer (some ⟨w.heap.size, 0, none⟩)) ∧ namedWorld ob true w = w' := by
  have hbl := World.block_lt_of_cell? _ _ h4
  simp only at hbl
  have c52 := newNamed52_any ob w h4 f4
  clear h4 f4
  go_enter Tryz.func31, Tryz.ntmps31
  go_wp2_with (first | (go_at_call 51; refine (asNamedNil_any _).mono ?_; rintro e w' ⟨rfl, rfl⟩) | (go_at_call 52; refine c52.mono ?_; rintro e w' ⟨rfl, rfl⟩; simp only [namedWorld, namedCells]))
  go_ret
  exact ⟨rfl, rfl⟩
end Go.Proofs.YtipmpeekfajlcaaGreatDoor
