/- What is proved: contracts of unalias, NewAlias. -/
import Derived.Test.YtipmpeekfajlcaaGreatDoorGm
namespace Go.Proofs.YtipmpeekfajlcaaGreatDoor
open Go.RowKit Go.Proofs

@[go_sem] theorem neqif_nil (w : World) : (binOp BinOp.neq 73 .nilIface .nilIface).run Tryz.prog w = .ok (.bool false) w := by kernel_rfl

/-- The block that a pointer leads to, one more; none: 0. -/
def blockOf : Value → Nat | .pointer (some a) => a.block + 1 | _ => 0

set_option maxRecDepth 100000 in
set_option maxHeartbeats 4000000 in
theorem unalias_any (S : Nat → Prop) (ab : Nat) (w : World) (hS : AliasesV w S) (hab : S ab) (h5 : w.cell? ⟨ab, 5, none⟩ = some .nilIface) (f5 : w.frozen? ⟨ab, 5, none⟩ = false) :
    Calls Tryz.prog 79 #[.pointer (some ⟨ab, 0, none⟩)] w fun e w' => ∃ T x, e = .returned (.iface T x) ∧ w.setCell ⟨ab, 5, none⟩ (.iface T x) = w' := by
  have HS := Lib.hid hS; clear hS
  go_enter Tryz.func79, Tryz.ntmps79
  go_wp2
  go_loop [3, 4] (fun t a => (a = .pointer none ∧ ∃ T x, t = .iface T x) ∨ ∃ b, S b ∧ a = .pointer (some ⟨b, 0, none⟩)) (fun _ a => blockOf a)
  case atStart => exact .inr ⟨ab, hab, rfl⟩
  case round =>
    rcases hrel with ⟨rfl, T, x, rfl⟩ | ⟨b, hb, rfl⟩
    · go_wp2
      go_ret
      exact ⟨T, x, rfl, rfl⟩
    · obtain ⟨T, v, h4, hT⟩ := HS.out b hb
      rcases hT with (hT | rfl) | ⟨rfl, b', rfl, hlt, hb'⟩
      · rcases hT with rfl | rfl | rfl | rfl | rfl | rfl | rfl | rfl | rfl
        all_goals
          go_wp2
          go_round
          case rel => exact .inl ⟨rfl, _, _, rfl⟩
          case measure => simp [blockOf]
      · go_wp2
        go_round
        case rel => exact .inl ⟨rfl, _, _, rfl⟩
        case measure => simp [blockOf]
      · go_wp2
        go_round
        case rel => exact .inr ⟨b', hb', rfl⟩
        case measure => simp [blockOf]; omega

theorem cleanup_any (S : Nat → Prop) (ab : Nat) (w : World) (hS : AliasesV w S) (hab : S ab) (h5 : w.cell? ⟨ab, 5, none⟩ = some .nilIface) (f5 : w.frozen? ⟨ab, 5, none⟩ = false) :
    Calls Tryz.prog 62 #[.pointer (some ⟨ab, 0, none⟩)] w fun e w' => e = .returned (.tuple #[]) ∧ ∃ T x, w.setCell ⟨ab, 5, none⟩ (.iface T x) = w' := by
  have cU := unalias_any S ab w hS hab h5 f5
  clear hS
  go_enter Tryz.func62, Tryz.ntmps62
  go_wp2_with (go_at_call 79; refine cU.mono ?_; rintro e w' ⟨T, x, rfl, rfl⟩)
  go_end0
  exact ⟨rfl, T, x, rfl⟩

set_option maxRecDepth 100000 in
set_option maxHeartbeats 4000000 in
theorem newAlias_any (S : Nat → Prop) (ob : Nat) (T : TypeId) (v : Value) (w : World) (h4 : w.cell? ⟨ob, 4, none⟩ = some .nilIface) (f4 : w.frozen? ⟨ob, 4, none⟩ = false) (hob : ¬ S ob) (hS : AliasesV w S)
    (hT : (PlainT T ∨ T = 70) ∨ (T = 75 ∧ ∃ b', v = .pointer (some ⟨b', 0, none⟩) ∧ S b')) :
    Calls Tryz.prog 33 #[.pointer (some ⟨ob, 0, none⟩), .iface T v] w fun e w' => e = .returned (.pointer (some ⟨w.heap.size, 0, none⟩)) ∧ ∃ U x, (aliasWorld ob (.iface T v) .nilIface w).setCell ⟨w.heap.size, 5, none⟩ (.iface U x) = w' := by
  have hbl := World.block_lt_of_cell? _ _ h4
  simp only at hbl
  have c61 := newAlias61_any ob T v w h4 f4
  have hq : (aliasWorld ob (.iface T v) .nilIface w).heap[w.heap.size]? = some (.cells #[.pointer (some ⟨ob, 0, none⟩), .pointer (some ⟨w.heap.size, 0, none⟩), .pointer none, .pointer none, .iface T v, .nilIface] 188) := by
    have h := World.alloc_heap_new (w.setCell ⟨ob, 4, none⟩ (.iface 75 (.pointer (some ⟨w.heap.size, 0, none⟩)))) (.cells #[.pointer (some ⟨ob, 0, none⟩), .pointer (some ⟨w.heap.size, 0, none⟩), .pointer none, .pointer none, .iface T v, .nilIface] 188)
    rw [setCell_size] at h
    exact h
  have hV : AliasesV (aliasWorld ob (.iface T v) .nilIface w) (fun b => S b ∨ b = w.heap.size) := by
    intro b hb
    rcases hb with hb | rfl
    · obtain ⟨U, u, g1, g2⟩ := hS b hb
      have hlt := World.block_lt_of_cell? _ _ g1
      simp only at hlt
      refine ⟨U, u, ?_, ?_⟩
      · refine cell_below ((Below.refl _ _).alloc (Nat.le_refl _) _) ?_
        rw [World.cell?_setCell_other _ _ _ _ (by simp; intro e; exact hob (e ▸ hb))]
        exact g1
      · rcases g2 with g2 | ⟨g2, b', g3, g4, g5⟩
        · exact .inl g2
        · exact .inr ⟨g2, b', g3, g4, .inl g5⟩
    · refine ⟨T, v, by simp [World.cell?, hq], ?_⟩
      rcases hT with hT | ⟨rfl, b', rfl, hb'⟩
      · exact .inl hT
      · obtain ⟨U, u, g1, _⟩ := hS b' hb'
        have hlt := World.block_lt_of_cell? _ _ g1
        simp only at hlt
        exact .inr ⟨rfl, b', rfl, hlt, .inl hb'⟩
  have cC := cleanup_any _ w.heap.size _ hV (.inr rfl) (by simp [World.cell?, hq]) (by simp [World.frozen?, hq])
  have CC := Lib.hid cC
  clear hV cC hS hT hq
  go_enter Tryz.func33, Tryz.ntmps33
  go_wp2_with (first | (go_at_call 61; refine c61.mono ?_; rintro e w' ⟨rfl, rfl⟩) | (go_at_call 62; refine CC.out.mono ?_; rintro e w' ⟨rfl, U, x, rfl⟩))
  go_ret
  exact ⟨rfl, U, x, rfl⟩

end Go.Proofs.YtipmpeekfajlcaaGreatDoor
