/- What is proved: the contract of spec.isUnion. Conditions: the input lies in memory as trees. -/
import Derived.Test.YtipmpeekfajlcaaGreatDoorSd
import Derived.Deep.Light
namespace Go.Proofs.YtipmpeekfajlcaaGreatDoor
open Go.RowKit Go.Proofs

theorem unionB_no {t : Ty} {k : Nat} (hk : k < t.kids.length) (h : termB (t.kid k) = false) : false = unionB t := by
  have : t.kids.all termB = false := by
    rw [List.all_eq_false]
    exact ⟨t.kid k, List.mem_of_getElem? (kid_at hk), by simp [h]⟩
  simp [unionB, this]
theorem unionB_yes {t : Ty} (h : ∀ j, j < t.kids.length → termB (t.kid j) = true) : unionB t = (decide (2 ≤ t.kids.length) && decide (t.kids.length ≤ 8)) := by
  have : t.kids.all termB = true := by
    rw [List.all_eq_true]
    intro x hx
    obtain ⟨i, hi, rfl⟩ := List.getElem_of_mem hx
    have := h i hi
    simpa [Ty.kid, List.getD, hi] using this
  simp [unionB, this]
theorem all_more {p : Nat → Prop} {k : Nat} (h : Hid (∀ j, j < k → p j)) (hc : p k) : Hid (∀ j, j < k + 1 → p j) := fun j hj => by
  by_cases e : j = k
  · subst e; exact hc
  · exact h.out j (by omega)

set_option maxHeartbeats 2000000 in
theorem isUnion_any (t : Ty) (ka : Option Addr) (kc : Nat) (w : World) (hk : KidsV w ka kc t.kids) :
    Calls Tryz.prog 49 #[.agg #[.string t.kd, .string t.nm, .string t.tg, .int .i64 t.sz, .slice ka t.kids.length kc]] w (Gives (.bool (unionB t)) w) := by
  have hl1 := hk.len.1
  have hl2 := hk.len.2
  have HK := Lib.hid hk; clear hk
  go_enter Tryz.func49, Tryz.ntmps49
  go_wp2
  go_loopw [8] (fun i wr => ∃ k : Nat, k ≤ t.kids.length ∧ i = .int .i64 k ∧ Hid (∀ j, j < k → termB (t.kid j) = true) ∧ wr.cell? ⟨w.heap.size, 4, none⟩ = some (.slice ka t.kids.length kc) ∧ w.heap.size < wr.heap.size ∧ Below w.heap.size w wr) (fun i _ => t.kids.length - (intOf i).toNat)
  case atStart => exact ⟨0, Nat.zero_le _, rfl, fun j h => by omega, by simp, by simp, (Below.refl _ _).alloc (Nat.le_refl _) _⟩
  case round =>
    obtain ⟨k, hk, rfl, hj, hcell, hsz, hbw⟩ := hrel
    by_cases hlt : k < t.kids.length
    · obtain ⟨b, off, a', c', rfl, c0, c1, c2, c3, c4, hf, hk'⟩ := HK.out.at (kid_at hlt)
      have d0 := cell_below hbw c0
      have d1 := cell_below hbw c1
      have d2 := cell_below hbw c2
      have d3 := cell_below hbw c3
      have d4 := cell_below hbw c4
      have hno := @unionB_no t k hlt
      have HNO := Lib.hid hno
      have hnm := hf.nm
      have hkl := hf.kids
      have HB := Lib.hid hbw
      have HM : termB (t.kid k) = true → Hid (∀ j, j < k + 1 → termB (t.kid j) = true) := fun h => all_more hj h
      have HMM := Lib.hid HM
      clear c0 c1 c2 c3 c4 hf hk' hbw hno HM hj
      generalize hkk : t.kid k = kk at *
      have HKK := Lib.hid hkk; clear hkk
      cases hbb : basicB kk.nm
      · have HBB := Lib.hid hbb
        have con : ∀ w, Calls Tryz.prog 21 #[.string kk.nm] w fun e w' => e = .returned (.bool false) ∧ w = w' := fun w => by
          rw [← hbb]; exact isBasic_any kk.nm w hnm
        have HC := Lib.hid con
        clear hbb con
        go_wp2_with (go_at_call 21; refine (HC.out _).mono ?_; rintro e w' ⟨rfl, rfl⟩)
        all_goals first
        | (go_ret
           go_light
           exact ⟨ret_bool (HNO.out (by simp [termB, HBB.out, *])), HB.out.alloc (Nat.le_of_lt hsz) _⟩)
        | (go_roundw
           case rel =>
             go_light
             exact ⟨k + 1, by omega, by go_num, HMM.out (by simp [termB, HBB.out, *]), (by rw [World.cell?_alloc_lt _ _ _ hsz]; exact hcell), (by rw [World.size_alloc]; omega), HB.out.alloc (Nat.le_of_lt hsz) _⟩
           case measure => simp [intOf]; omega)
      · have HBB := Lib.hid hbb
        have con : ∀ w, Calls Tryz.prog 21 #[.string kk.nm] w fun e w' => e = .returned (.bool true) ∧ w = w' := fun w => by
          rw [← hbb]; exact isBasic_any kk.nm w hnm
        have HC := Lib.hid con
        clear hbb con
        go_wp2_with (go_at_call 21; refine (HC.out _).mono ?_; rintro e w' ⟨rfl, rfl⟩)
        all_goals first
        | (go_ret
           go_light
           exact ⟨ret_bool (HNO.out (by simp [termB, HBB.out, *])), HB.out.alloc (Nat.le_of_lt hsz) _⟩)
        | (go_roundw
           case rel =>
             go_light
             exact ⟨k + 1, by omega, by go_num, HMM.out (by simp [termB, HBB.out, *]), (by rw [World.cell?_alloc_lt _ _ _ hsz]; exact hcell), (by rw [World.size_alloc]; omega), HB.out.alloc (Nat.le_of_lt hsz) _⟩
           case measure => simp [intOf]; omega)
    · have hks : k = t.kids.length := by omega
      have HU : Hid (unionB t = (decide (2 ≤ t.kids.length) && decide (t.kids.length ≤ 8))) := unionB_yes (fun j h => hj.out j (by omega))
      clear hj
      by_cases h2 : 2 ≤ t.kids.length
      · go_wp2
        go_ret
        exact ⟨ret_bool (by rw [HU.out, Bool.eq_iff_iff]; simp; omega), hbw⟩
      · go_wp2
        go_ret
        exact ⟨ret_bool (by rw [HU.out, Bool.eq_iff_iff]; simp; omega), hbw⟩

end Go.Proofs.YtipmpeekfajlcaaGreatDoor
