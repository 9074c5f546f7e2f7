/- What is proved: the contract of SetUnderlying. Conditions: the lock is free, the type is new. -/
import Derived.Maps.AppendAt
import Derived.Test.YtipmpeekfajlcaaGreatDoorGf
import Derived.Test.YtipmpeekfajlcaaGreatDoorGk
namespace Go.Proofs.YtipmpeekfajlcaaGreatDoor
open Go.RowKit Go.Proofs

theorem assert_any (w : World) : Calls Tryz.prog 63 #[.bool true] w fun e w' => e = .returned (.tuple #[]) ∧ w = w' := by
  go_enter Tryz.func63, Tryz.ntmps63
  go_wp2
  go_end0
  exact ⟨rfl, rfl⟩

theorem but_setCell (w : World) (b i : Nat) (v : Value) : w.grownBy (w.setCell ⟨b, i, none⟩ v) (some b) :=
  ⟨rfl, rfl, rfl, by rw [setCell_size]; exact Nat.le_refl _, fun k _ hk => Below.heap_setCell _ _ _ _ (fun e => hk (by rw [e]))⟩

/-- A new declared type lies at block b; its type is to come. -/
structure NamedAt (w : World) (b : Nat) : Prop where
  c2 : ∃ v, w.cell? ⟨b, 2, none⟩ = some (.bool v)
  c3 : w.cell? ⟨b, 3, none⟩ = some (.pointer none)
  c4 : w.cell? ⟨b, 4, none⟩ = some (.int .i32 0)
  c6 : w.cell? ⟨b, 6, none⟩ = some (.int .u32 0)
  c7 : w.cell? ⟨b, 7, none⟩ = some .nilIface
  c9 : w.cell? ⟨b, 9, none⟩ = some .nilIface
  fz : ∀ i, w.frozen? ⟨b, i, none⟩ = false

set_option maxRecDepth 100000 in
set_option maxHeartbeats 4000000 in
theorem setUnderlying_any (b : Nat) (T : TypeId) (hT : PlainT T) (v : Value) (w : World) (hn : NamedAt w b) :
    Calls Tryz.prog 34 #[.pointer (some ⟨b, 0, none⟩), .iface T v] w fun e w' => e = .returned (.tuple #[]) ∧ w.grownBy w' (some b) := by
  obtain ⟨⟨v2, c2⟩, c3, c4, c6, c7, c9, fz⟩ := hn
  have hu := asNamedPlain_any T hT v
  have hl := lock_any ⟨b, 4, none⟩ w c4 (fz 4)
  have f2 := fz 2
  have f6 := fz 6
  have f7 := fz 7
  have f9 := fz 9
  go_enter_defers Tryz.func34, Tryz.ntmps34
  go_wp2_with (first | (go_at_call 63; refine (assert_any _).mono ?_; rintro e w' ⟨rfl, rfl⟩) | (go_at_call 51; refine (hu _).mono ?_; rintro e w' ⟨rfl, rfl⟩) | (go_at_call 64; refine hl.mono ?_; rintro e w' ⟨rfl, rfl⟩))
  go_wp2_with (first | (go_at_call 66; refine (setState_any b 0 7 7 _ (by simp [go_sem, c6]) (by simp [f6]) or07).mono ?_; rintro e w' ⟨rfl, rfl⟩))
  go_wp2_with (first | (go_at_call 66; refine (setState_any b 7 8 15 _ (by simp [go_sem, c6]) (by simp [f6]) or78).mono ?_; rintro e w' ⟨rfl, rfl⟩))
  refine leaves_cons (f := 65) (args := #[.pointer (some ⟨b, 4, none⟩)]) (by simp) (by simp [go_sem]) ?_
  refine (unlock_deferred ⟨b, 4, none⟩ .returning _ ?_ ?_).mono ?_
  · simp [go_sem, c4]
  · simp [fz]
  rintro e u' w'' ⟨rfl, rfl, rfl⟩
  refine ⟨_, results_none rfl _ _ _, rfl, ?_⟩
  exact ((((((but_setCell _ _ _ _).trans (but_setCell _ _ _ _)).trans (but_setCell _ _ _ _)).trans (but_setCell _ _ _ _)).trans (but_setCell _ _ _ _)).trans (but_setCell _ _ _ _)).trans (but_setCell _ _ _ _)
end Go.Proofs.YtipmpeekfajlcaaGreatDoor
