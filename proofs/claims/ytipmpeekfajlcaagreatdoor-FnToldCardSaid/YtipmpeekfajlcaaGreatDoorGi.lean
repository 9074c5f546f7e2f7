/- What is proved: the sort of an interface's methods leaves them, where their names increase already. -/
import Derived.IntWalk
import Derived.Test.YtipmpeekfajlcaaGreatDoorGh
namespace Go.Proofs.YtipmpeekfajlcaaGreatDoor
open Go.RowKit Go.Proofs Go.Sort Go.BigFrame

/-- Methods lie in a row: their pointers; each has its name; the names are exported and increase. -/
structure MethsV (w : World) (fb fo n : Nat) (nm : Nat → ByteArray) : Prop where
  at_ : ∀ i, i < n → ∃ vb, w.cell? ⟨fb, fo + i, none⟩ = some (.pointer (some ⟨vb, 0, none⟩)) ∧ ObjAt w vb (nm i)
  name : ∀ i, i < n → nameB (nm i) = true ∧ bigB (nm i) = true
  less : ∀ i, i + 1 < n → Op.bytesLess (nm i).toList (nm (i + 1)).toList = true
theorem MethsV.keep {w w' : World} {fb fo n : Nat} {nm : Nat → ByteArray} (h : MethsV w fb fo n nm) (hb : Below w.heap.size w w') : MethsV w' fb fo n nm :=
  ⟨fun i hi => by obtain ⟨vb, h1, h2⟩ := h.at_ i hi; exact ⟨vb, cell_below hb h1, h2.keep hb⟩, h.name, h.less⟩

set_option maxRecDepth 100000 in
set_option maxHeartbeats 4000000 in
theorem insertion_any (fb fo n c : Nat) (nm : Nat → ByteArray) (w : World) (hn : n ≤ 8) (hc : n ≤ c) (hc2 : c ≤ 9223372036854775807) (hm : MethsV w fb fo n nm) (hp : PropsAt w) :
    Calls Tryz.prog 156 #[.slice (some ⟨fb, fo, none⟩) n c, .int .i64 0, .int .i64 n, .func (.func 110) #[] #[]] w fun e w' => (∃ v, e = .returned v) ∧ Below w.heap.size w w' := by
  have HM := Lib.hid hm; clear hm
  have HP := Lib.hid hp; clear hp
  go_enter Tryz.func156, Tryz.ntmps156
  go_wp2
  go_loopw [8] (fun i wr => ∃ k : Nat, k ≤ n + 1 ∧ 1 ≤ k ∧ i = .int .i64 k ∧ Below w.heap.size w wr) (fun i _ => n + 1 - (intOf i).toNat)
  case atStart => exact ⟨1, by omega, by omega, rfl, Below.refl _ _⟩
  case round =>
    obtain ⟨k, hk, hk1, rfl, hb⟩ := hrel
    have HB := Lib.hid hb
    by_cases hlt : k < n
    · have HMr := HM.out.keep hb
      have HPr := HP.out.keep hb
      obtain ⟨va, c0, o0⟩ := HMr.at_ k hlt
      obtain ⟨vb, c1, o1⟩ := HMr.at_ (k - 1) (by omega)
      have hless := HMr.less (k - 1) (by omega)
      rw [show k - 1 + 1 = k from by omega] at hless
      have n0 := HMr.name k hlt
      have n1 := HMr.name (k - 1) (by omega)
      have hk2 : ((k - 1 : Nat) : Int) = (k : Int) - 1 := by omega
      have hk3 : ((k : Int) - 1).toNat = k - 1 := by omega
      have hk4 : IntKind.i64.wrap ((k : Int) - 1) = (k : Int) - 1 := IntWalk.i64_in _ (by omega)
      have hk5 : 0 ≤ (k : Int) - 1 := by omega
      have hk6 : (k : Int) - 1 < n := by omega
      have hk7 : decide (0 < k) = true := by simp; omega
      have cC : ∀ dd os, Calls Tryz.prog 110 #[.pointer (some ⟨va, 0, none⟩), .pointer (some ⟨vb, 0, none⟩)] (grow (redrawn wr dd) os) fun e w'' => e = .returned (.int .i64 1) ∧ ∃ p : Regrown, w'' = grow (redrawn wr p.d) p.os := fun dd os =>
        Calls.regrown_of (compareFunc_any va vb (nm k) (nm (k - 1)) _ n0.1 n1.1 n0.2 n1.2 (HPr.keep (below_regrown _ _ _)) (o0.keep (below_regrown _ _ _)) (o1.keep (below_regrown _ _ _)) hless)
      have CC := Lib.hid cC
      have x0 := cell_regrown c0
      have x1 := cell_regrown c1
      clear HMr HPr c0 c1 o0 o1 hless n0 n1 cC hb
      go_wp2_with fail
      generalize wr = W1 at *
      go_loopw [9] (fun i wq => i = .int .i64 k ∧ wq = W1) (fun i _ => 0)
      case atStart => exact ⟨rfl, rfl⟩
      case round =>
        obtain ⟨rfl, rfl⟩ := hrel
        go_wp2_with fail
        refine wp_region_quiet_below (by kernel_rfl) (by kernel_rfl) ?_
        repeat (any_goals (first | go_big_quiet_step (with_reducible exact CC.out _ _) | quiet_step (with_reducible exact CC.out _ _)))
        all_goals
          refine wpQuiet_nil ?_
          intro _ hw'
          obtain ⟨⟨dq, osq⟩, hw''⟩ := hw'
          subst hw''
          have B4 := below_regrown wr dq osq
          generalize grow (redrawn wr dq) osq = W4 at *
          go_wp2
          go_roundw
          case rel =>
            go_light
            exact ⟨k + 1, by omega, by omega, by go_num, HB.out.trans (B4.mono HB.out.size)⟩
          case measure =>
            go_light
            simp [intOf]
            omega
    · clear hb
      go_wp2
      go_end0
      go_light
      exact ⟨⟨_, rfl⟩, HB.out⟩

theorem nat_cases8 (n : Nat) (h : n ≤ 8) : n = 0 ∨ n = 1 ∨ n = 2 ∨ n = 3 ∨ n = 4 ∨ n = 5 ∨ n = 6 ∨ n = 7 ∨ n = 8 := by omega
set_option maxRecDepth 100000 in
set_option maxHeartbeats 2000000 in
theorem len64_any (n : Nat) (hn : n ≤ 8) (w : World) : Calls Tryz.prog 165 #[.int .u64 n] w fun e w' => (∃ z : Int, e = .returned (.int .i64 z)) ∧ w = w' := by
  rcases nat_cases8 n hn with rfl | rfl | rfl | rfl | rfl | rfl | rfl | rfl | rfl
  all_goals
    go_enter Tryz.func165, Tryz.ntmps165
    go_wp2
    go_ret
    exact ⟨⟨_, rfl⟩, rfl⟩
set_option maxRecDepth 100000 in
set_option maxHeartbeats 2000000 in
theorem len_any (n : Nat) (hn : n ≤ 8) (w : World) : Calls Tryz.prog 139 #[.int .u64 n] w fun e w' => (∃ z : Int, e = .returned (.int .i64 z)) ∧ w = w' := by
  go_enter Tryz.func139, Tryz.ntmps139
  go_wp2_with (go_at_call 165; refine (len64_any n hn _).mono ?_; rintro e w' ⟨⟨z, rfl⟩, rfl⟩)
  go_ret
  exact ⟨⟨_, rfl⟩, rfl⟩

set_option maxRecDepth 100000 in
set_option maxHeartbeats 4000000 in
theorem pdq_any (fb fo n c : Nat) (z : Int) (nm : Nat → ByteArray) (w : World) (hn : n ≤ 8) (hc : n ≤ c) (hc2 : c ≤ 9223372036854775807) (hm : MethsV w fb fo n nm) (hp : PropsAt w) :
    Calls Tryz.prog 138 #[.slice (some ⟨fb, fo, none⟩) n c, .int .i64 0, .int .i64 n, .int .i64 z, .func (.func 110) #[] #[]] w fun e w' => (∃ v, e = .returned v) ∧ Below w.heap.size w w' := by
  have CI := Lib.hid (insertion_any fb fo n c nm w hn hc hc2 hm hp)
  clear hm hp
  go_enter Tryz.func138, Tryz.ntmps138
  go_wp2
  go_loopw [1, 2, 3] (fun i1 i2 i wq => i1 = .int .i64 0 ∧ i2 = .int .i64 n ∧ i = .int .i64 z ∧ wq = w) (fun _ _ _ _ => 0)
  case atStart => exact ⟨rfl, rfl, rfl, rfl⟩
  case round =>
    obtain ⟨rfl, rfl, rfl, rfl⟩ := hrel
    go_wp2_with (go_at_call 156; refine CI.out.mono ?_; rintro e w' ⟨⟨v, rfl⟩, hb⟩)
    exact bodyPost_ret (results_none rfl _ _ _) rfl ⟨⟨_, rfl⟩, hb⟩

set_option maxRecDepth 100000 in
set_option maxHeartbeats 4000000 in
theorem sortMethods_any (fb fo n c : Nat) (nm : Nat → ByteArray) (w : World) (hn : n ≤ 8) (hc : n ≤ c) (hc2 : c ≤ 9223372036854775807) (hm : MethsV w fb fo n nm) (hp : PropsAt w) :
    Calls Tryz.prog 95 #[.slice (some ⟨fb, fo, none⟩) n c] w fun e w' => (∃ v, e = .returned v) ∧ Below w.heap.size w w' := by
  have cS : Calls Tryz.prog 109 #[.slice (some ⟨fb, fo, none⟩) n c, .func (.func 110) #[] #[]] w fun e w' => (∃ v, e = .returned v) ∧ Below w.heap.size w w' := by
    have CP := fun z => Lib.hid (pdq_any fb fo n c z nm w hn hc hc2 hm hp)
    clear hm hp
    go_enter Tryz.func109, Tryz.ntmps109
    go_wp2_with (first | (go_at_call 139; refine (len_any n hn _).mono ?_; rintro e w' ⟨⟨z, rfl⟩, rfl⟩) | (go_at_call 138; refine (CP z).out.mono ?_; rintro e w' ⟨⟨v, rfl⟩, hb⟩))
    go_end0
    exact ⟨⟨_, rfl⟩, hb⟩
  have CS := Lib.hid cS
  clear hm hp cS
  go_enter Tryz.func95, Tryz.ntmps95
  go_wp2_with (go_at_call 109; refine CS.out.mono ?_; rintro e w' ⟨⟨v, rfl⟩, hb⟩)
  go_end0
  exact ⟨⟨_, rfl⟩, hb⟩

end Go.Proofs.YtipmpeekfajlcaaGreatDoor
