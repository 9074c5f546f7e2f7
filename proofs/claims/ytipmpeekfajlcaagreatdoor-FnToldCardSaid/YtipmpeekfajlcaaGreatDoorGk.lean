/- What is proved: contracts of the lock of a declared type, of setState, of SetUnderlying. Conditions: the lock is free. -/
import Derived.Tactics2
import Derived.Defers
import Derived.Laws.Pointers
import Derived.Laws.LoneSync
import Derived.Test.YtipmpeekfajlcaaGreatDoorGj
namespace Go.Proofs.YtipmpeekfajlcaaGreatDoor
open Go.RowKit Go.Proofs

theorem disable96 (w : World) : (callFunc 96 #[]).run Tryz.prog w = .ok (.value (.tuple #[])) w := run_call_mark0 Tryz.func96 (by kernel_rfl) (by kernel_rfl) (by kernel_rfl) .disable (by kernel_rfl) w
theorem enable98 (w : World) : (callFunc 98 #[]).run Tryz.prog w = .ok (.value (.tuple #[])) w := run_call_mark0 Tryz.func98 (by kernel_rfl) (by kernel_rfl) (by kernel_rfl) .enable (by kernel_rfl) w
theorem acquire99 (a : Addr) (w : World) : (callFunc 99 #[.pointer (some a)]).run Tryz.prog w = .ok (.value (.tuple #[])) w := run_call_marked Tryz.func99 (by kernel_rfl) (by kernel_rfl) (by kernel_rfl) .acquire (by kernel_rfl) a w
theorem releaseMerge101 (a : Addr) (w : World) : (callFunc 101 #[.pointer (some a)]).run Tryz.prog w = .ok (.value (.tuple #[])) w := run_call_marked Tryz.func101 (by kernel_rfl) (by kernel_rfl) (by kernel_rfl) .releaseMerge (by kernel_rfl) a w
theorem u227 : Tryz.prog.underlying 227 = some (.pointer 114) := by kernel_rfl
theorem u231 : Tryz.prog.underlying 231 = some .unsafePointer := by kernel_rfl

set_option maxRecDepth 100000 in
set_option maxHeartbeats 2000000 in
theorem lock_any (a : Addr) (w : World) (hc : w.cell? a = some (.int .i32 0)) (hz : w.frozen? a = false) :
    Calls Tryz.prog 64 #[.pointer (some a)] w fun e w' => e = .returned (.tuple #[]) ∧ w.setCell a (.int .i32 1) = w' := by
  have hd := disable96
  have he := enable98
  have ha := acquire99
  have hcas := run_call_cas_hit (P := Tryz.prog) Tryz.func97 (by kernel_rfl) (by kernel_rfl) (by kernel_rfl) .i32 (by kernel_rfl) (y := 1) hc hz
  have h0' : (w.setCell a (.int .i32 1)).cell? a = some (.int .i32 1) := by simp [go_sem, hc]
  have hcv := run_convert_to_unsafe (P := Tryz.prog) (src := 227) (dst := 231) u227 u231 (by kernel_rfl) h0'
  go_enter Tryz.func64, Tryz.ntmps64
  go_wp2
  first | go_end0 | (simp only [Exit.inBlock, Exit.then]; refine bodyPost_ret (results_none rfl _ _ _) rfl ?_) | refine bodyPost_ret (results_none rfl _ _ _) rfl ?_
  exact ⟨rfl, rfl⟩

set_option maxRecDepth 100000 in
set_option maxHeartbeats 2000000 in
theorem unlock_deferred (a : Addr) (u : FrameMode) (w : World) (hc : w.cell? a = some (.int .i32 1)) (hz : w.frozen? a = false) :
    CallsD Tryz.prog 65 #[.pointer (some a)] u w fun e u' w' => u' = u ∧ (e = .returned (.tuple #[]) ∧ w' = w.setCell a (.int .i32 0)) := by
  have hd := disable96
  have he := enable98
  have hr := releaseMerge101
  have hcv := run_convert_to_unsafe (P := Tryz.prog) (src := 227) (dst := 231) u227 u231 (by kernel_rfl) hc
  have hadd := run_call_add (P := Tryz.prog) Tryz.func102 (by kernel_rfl) (by kernel_rfl) (by kernel_rfl) .i32 (by kernel_rfl) (y := -1) (s := 0) hc hz (by simp [go_sem]; rfl)
  go_enter_d Tryz.func65, Tryz.ntmps65
  go_wp2
  go_end0
  exact ⟨rfl, rfl⟩

theorem or_any (a : Addr) (x y s : Int) (w : World) (hc : w.cell? a = some (.int .u32 x)) (hz : w.frozen? a = false) (hs : (Op.intBits .or .u32 x y).run Tryz.prog w = .ok (.int .u32 s) w) :
    (callFunc 82 #[.pointer (some a), .int .u32 y]).run Tryz.prog w = .ok (.value (.int .u32 x)) (w.setCell a (.int .u32 s)) := by
  have he : Extern.find Tryz.f82 = some (Extern.Atomic.update (Op.intBits .or) .u32 false) := by kernel_rfl
  rw [run_callFunc_extern Tryz.func82 (by kernel_rfl) (by kernel_rfl) (by kernel_rfl) he]
  change (Sem.run Tryz.prog (do
    let a' ← asAddr (.pointer (some a))
    let old ← Extern.Atomic.read (.int .u32) a'
    let new ← Op.intBits .or .u32 (← asInt old) (← asInt (.int .u32 y))
    store a' new .atomic
    pure (if false = true then new else old)) w).andThen _ = _
  simp [Extern.Atomic.read, asAddr, asInt, asIntOf, hc, hz, hs, run_store Tryz.prog w a (.int .u32 s) .atomic rfl, Result.andThen]

set_option maxRecDepth 100000 in
set_option maxHeartbeats 2000000 in
theorem setState_any (b : Nat) (x y s : Int) (w : World) (hc : w.cell? ⟨b, 6, none⟩ = some (.int .u32 x)) (hz : w.frozen? ⟨b, 6, none⟩ = false) (hs : ∀ w, (Op.intBits .or .u32 x y).run Tryz.prog w = .ok (.int .u32 s) w) :
    Calls Tryz.prog 66 #[.pointer (some ⟨b, 0, none⟩), .int .u32 y] w fun e w' => e = .returned (.tuple #[]) ∧ w.setCell ⟨b, 6, none⟩ (.int .u32 s) = w' := by
  have ho := or_any ⟨b, 6, none⟩ x y s w hc hz (hs w)
  go_enter Tryz.func66, Tryz.ntmps66
  go_wp2
  go_end0
  exact ⟨rfl, rfl⟩
theorem or07 (w : World) : (Op.intBits .or .u32 0 7).run Tryz.prog w = .ok (.int .u32 7) w := by kernel_rfl
theorem or78 (w : World) : (Op.intBits .or .u32 7 8).run Tryz.prog w = .ok (.int .u32 15) w := by kernel_rfl

/-- The types that typ gives, but for declared ones. -/
def PlainT (T : TypeId) : Prop := T = 151 ∨ T = 121 ∨ T = 123 ∨ T = 125 ∨ T = 127 ∨ T = 129 ∨ T = 132 ∨ T = 134 ∨ T = 88

set_option maxRecDepth 100000 in
set_option maxHeartbeats 4000000 in
theorem unaliasPlain_any (T : TypeId) (hT : PlainT T) (v : Value) (w : World) : Calls Tryz.prog 73 #[.iface T v] w fun e w' => e = .returned (.iface T v) ∧ w = w' := by
  rcases hT with rfl | rfl | rfl | rfl | rfl | rfl | rfl | rfl | rfl
  all_goals
    go_enter Tryz.func73, Tryz.ntmps73
    go_wp2
    go_ret
    exact ⟨rfl, rfl⟩
set_option maxRecDepth 100000 in
set_option maxHeartbeats 4000000 in
theorem asNamedPlain_any (T : TypeId) (hT : PlainT T) (v : Value) (w : World) : Calls Tryz.prog 51 #[.iface T v] w fun e w' => e = .returned (.pointer none) ∧ w = w' := by
  have hu := unaliasPlain_any T hT v
  rcases hT with rfl | rfl | rfl | rfl | rfl | rfl | rfl | rfl | rfl
  all_goals
    go_enter Tryz.func51, Tryz.ntmps51
    go_wp2_with (go_at_call 73; refine (hu _).mono ?_; rintro e w' ⟨rfl, rfl⟩)
    go_ret
    exact ⟨rfl, rfl⟩
@[go_sem] theorem eqif_some (T : TypeId) (v : Value) (w : World) : (binOp BinOp.eql 73 (.iface T v) .nilIface).run Tryz.prog w = .ok (.bool false) w := by kernel_rfl

end Go.Proofs.YtipmpeekfajlcaaGreatDoor
