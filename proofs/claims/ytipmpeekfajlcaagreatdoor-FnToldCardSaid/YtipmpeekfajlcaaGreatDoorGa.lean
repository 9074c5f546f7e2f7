/- What is proved: contracts of the small makers of gotypestring. Conditions: an interface argument is a value with its type. -/
import Derived.Test.YtipmpeekfajlcaaGreatDoorKit
namespace Go.Proofs.YtipmpeekfajlcaaGreatDoor
open Go.RowKit Go.Proofs

set_option maxHeartbeats 400000 in
theorem newVar_any (k : Int) (p : Option Addr) (n : ByteArray) (T : TypeId) (v : Value) (w : World) :
    Calls Tryz.prog 67 #[.int .u8 k, .int .i64 0, .pointer p, .string n, .iface T v] w fun e w' => e = .returned (.pointer (some ⟨w.heap.size, 0, none⟩)) ∧
      w.alloc (.cells #[.pointer none, .int .i64 0, .pointer p, .string n, .iface T v, .int .u32 0, .int .i64 0, .pointer none, .int .u8 k, .bool false] 142) = w' := by
  go_enter Tryz.func67, Tryz.ntmps67
  go_wp2
  go_ret
  exact ⟨rfl, rfl⟩
set_option maxHeartbeats 400000 in
theorem newField_any (p : Option Addr) (n : ByteArray) (T : TypeId) (v : Value) (b : Bool) (w : World) :
    Calls Tryz.prog 37 #[.int .i64 0, .pointer p, .string n, .iface T v, .bool b] w fun e w' => e = .returned (.pointer (some ⟨w.heap.size, 0, none⟩)) ∧
      w.alloc (.cells #[.pointer none, .int .i64 0, .pointer p, .string n, .iface T v, .int .u32 0, .int .i64 0, .pointer none, .int .u8 6, .bool b] 142) = w' := by
  go_enter Tryz.func37, Tryz.ntmps37
  go_wp2_with (go_at_call 67; refine (newVar_any _ _ _ _ _ _).mono ?_; rintro e w' ⟨rfl, rfl⟩)
  go_ret
  exact ⟨rfl, by simp⟩
set_option maxHeartbeats 400000 in
theorem newVarP_any (p : Option Addr) (n : ByteArray) (T : TypeId) (v : Value) (w : World) :
    Calls Tryz.prog 35 #[.int .i64 0, .pointer p, .string n, .iface T v] w fun e w' => e = .returned (.pointer (some ⟨w.heap.size, 0, none⟩)) ∧
      w.alloc (.cells #[.pointer none, .int .i64 0, .pointer p, .string n, .iface T v, .int .u32 0, .int .i64 0, .pointer none, .int .u8 1, .bool false] 142) = w' := by
  go_enter Tryz.func35, Tryz.ntmps35
  go_wp2_with (go_at_call 67; refine (newVar_any _ _ _ _ _ _).mono ?_; rintro e w' ⟨rfl, rfl⟩)
  go_ret
  exact ⟨rfl, rfl⟩
set_option maxHeartbeats 400000 in
theorem newParam_any (p : Option Addr) (n : ByteArray) (T : TypeId) (v : Value) (w : World) :
    Calls Tryz.prog 36 #[.int .i64 0, .pointer p, .string n, .iface T v] w fun e w' => e = .returned (.pointer (some ⟨w.heap.size, 0, none⟩)) ∧
      w.alloc (.cells #[.pointer none, .int .i64 0, .pointer p, .string n, .iface T v, .int .u32 0, .int .i64 0, .pointer none, .int .u8 4, .bool false] 142) = w' := by
  go_enter Tryz.func36, Tryz.ntmps36
  go_wp2_with (go_at_call 67; refine (newVar_any _ _ _ _ _ _).mono ?_; rintro e w' ⟨rfl, rfl⟩)
  go_ret
  exact ⟨rfl, rfl⟩
set_option maxHeartbeats 400000 in
theorem newFunc_any (p : Option Addr) (n : ByteArray) (a : Addr) (w : World) :
    Calls Tryz.prog 40 #[.int .i64 0, .pointer p, .string n, .pointer (some a)] w fun e w' => e = .returned (.pointer (some ⟨w.heap.size, 0, none⟩)) ∧
      w.alloc (.cells #[.pointer none, .int .i64 0, .pointer p, .string n, .iface 88 (.pointer (some a)), .int .u32 0, .int .i64 0, .pointer none, .bool false, .bool false] 147) = w' := by
  go_enter Tryz.func40, Tryz.ntmps40
  go_wp2
  go_ret
  exact ⟨rfl, rfl⟩
set_option maxHeartbeats 400000 in
theorem newConst_any (p : Option Addr) (n : ByteArray) (T U : TypeId) (v u : Value) (w : World) :
    Calls Tryz.prog 38 #[.int .i64 0, .pointer p, .string n, .iface T v, .iface U u] w fun e w' => e = .returned (.pointer (some ⟨w.heap.size, 0, none⟩)) ∧
      w.alloc (.cells #[.pointer none, .int .i64 0, .pointer p, .string n, .iface T v, .int .u32 0, .int .i64 0, .iface U u] 144) = w' := by
  go_enter Tryz.func38, Tryz.ntmps38
  go_wp2
  go_ret
  exact ⟨rfl, rfl⟩
set_option maxHeartbeats 400000 in
theorem makeInt_any (n : Int) (w : World) : Calls Tryz.prog 39 #[.int .i64 n] w fun e w' => e = .returned (.iface 145 (.int .i64 n)) ∧ w = w' := by
  go_enter Tryz.func39, Tryz.ntmps39
  go_wp2
  go_ret
  exact ⟨rfl, rfl⟩
set_option maxHeartbeats 400000 in
theorem newTypeName_any (p : Option Addr) (n : ByteArray) (w : World) :
    Calls Tryz.prog 29 #[.int .i64 0, .pointer p, .string n, .nilIface] w fun e w' => e = .returned (.pointer (some ⟨w.heap.size, 0, none⟩)) ∧
      w.alloc (.cells #[.pointer none, .int .i64 0, .pointer p, .string n, .nilIface, .int .u32 0, .int .i64 0] 106) = w' := by
  go_enter Tryz.func29, Tryz.ntmps29
  go_wp2
  go_ret
  exact ⟨rfl, rfl⟩
set_option maxHeartbeats 400000 in
theorem newPackage_any (p n : ByteArray) (w : World) :
    Calls Tryz.prog 28 #[.string p, .string n] w fun e w' => e = .returned (.pointer (some ⟨w.heap.size + 1, 0, none⟩)) ∧
      (w.alloc (.cells #[.pointer none, .slice none 0 0, .int .i64 0, .map none, .int .i64 0, .int .i64 0, .string ⟨#[112, 97, 99, 107, 97, 103, 101]⟩, .bool false, .bool false] 164)).alloc
        (.cells #[.string p, .string n, .pointer (some ⟨w.heap.size, 0, none⟩), .slice none 0 0, .bool false, .bool false, .bool false, .string ⟨#[]⟩] 101) = w' := by
  go_enter Tryz.func28, Tryz.ntmps28
  go_wp2
  go_ret
  exact ⟨rfl, rfl⟩
set_option maxHeartbeats 400000 in
theorem newPointer_any (T : TypeId) (v : Value) (w : World) :
    Calls Tryz.prog 54 #[.iface T v] w fun e w' => e = .returned (.pointer (some ⟨w.heap.size, 0, none⟩)) ∧ w.alloc (.cells #[.iface T v] 168) = w' := by
  go_enter Tryz.func54, Tryz.ntmps54
  go_wp2
  go_ret
  exact ⟨rfl, rfl⟩
set_option maxHeartbeats 400000 in
theorem newSlice_any (T : TypeId) (v : Value) (w : World) :
    Calls Tryz.prog 55 #[.iface T v] w fun e w' => e = .returned (.pointer (some ⟨w.heap.size, 0, none⟩)) ∧ Below w.heap.size w w' := by
  go_enter Tryz.func55, Tryz.ntmps55
  go_wp2
  go_ret
  exact ⟨rfl, by go_grown⟩
set_option maxHeartbeats 400000 in
theorem newArray_any (T : TypeId) (v : Value) (n : Int) (w : World) :
    Calls Tryz.prog 56 #[.iface T v, .int .i64 n] w fun e w' => e = .returned (.pointer (some ⟨w.heap.size, 0, none⟩)) ∧ Below w.heap.size w w' := by
  go_enter Tryz.func56, Tryz.ntmps56
  go_wp2
  go_ret
  exact ⟨rfl, by go_grown⟩
set_option maxHeartbeats 400000 in
theorem newMap_any (T U : TypeId) (v u : Value) (w : World) :
    Calls Tryz.prog 57 #[.iface T v, .iface U u] w fun e w' => e = .returned (.pointer (some ⟨w.heap.size, 0, none⟩)) ∧ Below w.heap.size w w' := by
  go_enter Tryz.func57, Tryz.ntmps57
  go_wp2
  go_ret
  exact ⟨rfl, by go_grown⟩
set_option maxHeartbeats 400000 in
theorem newChan_any (T : TypeId) (v : Value) (n : Int) (w : World) :
    Calls Tryz.prog 58 #[.int .i64 n, .iface T v] w fun e w' => e = .returned (.pointer (some ⟨w.heap.size, 0, none⟩)) ∧ Below w.heap.size w w' := by
  go_enter Tryz.func58, Tryz.ntmps58
  go_wp2
  go_ret
  exact ⟨rfl, by go_grown⟩
set_option maxHeartbeats 400000 in
theorem newTerm_any (T : TypeId) (v : Value) (b : Bool) (w : World) :
    Calls Tryz.prog 76 #[.bool b, .iface T v] w fun e w' => e = .returned (.pointer (some ⟨w.heap.size, 0, none⟩)) ∧ Below w.heap.size w w' := by
  go_enter Tryz.func76, Tryz.ntmps76
  go_wp2
  go_ret
  exact ⟨rfl, by go_grown⟩
set_option maxHeartbeats 400000 in
theorem newUnion_any (a : Option Addr) (l c : Nat) (hl : 1 ≤ l) (w : World) :
    Calls Tryz.prog 77 #[.slice a l c] w fun e w' => e = .returned (.pointer (some ⟨w.heap.size, 0, none⟩)) ∧ Below w.heap.size w w' := by
  have h0 : ((l : Int) == 0) = false := by simp only [beq_eq_false_iff_ne, ne_eq]; omega
  go_enter Tryz.func77, Tryz.ntmps77
  go_wp2
  go_ret
  exact ⟨rfl, by go_grown⟩

set_option maxHeartbeats 400000 in
theorem newTuple_none (a : Option Addr) (c : Nat) (w : World) : Calls Tryz.prog 90 #[.slice a 0 c] w fun e w' => e = .returned (.pointer none) ∧ w = w' := by
  go_enter Tryz.func90, Tryz.ntmps90
  go_wp2
  go_ret
  exact ⟨rfl, rfl⟩
set_option maxHeartbeats 400000 in
theorem newTuple_some (a : Option Addr) (l c : Nat) (hl : 1 ≤ l) (w : World) : Calls Tryz.prog 90 #[.slice a l c] w fun e w' => e = .returned (.pointer (some ⟨w.heap.size, 0, none⟩)) ∧ w.alloc (.cells #[.slice a l c] 235) = w' := by
  have h0 : (0 : Int) < (l : Int) := by omega
  go_enter Tryz.func90, Tryz.ntmps90
  go_wp2
  go_ret
  exact ⟨rfl, rfl⟩
end Go.Proofs.YtipmpeekfajlcaaGreatDoor
