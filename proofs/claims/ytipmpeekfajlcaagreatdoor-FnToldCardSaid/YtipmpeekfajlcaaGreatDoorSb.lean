/- What is proved: the contracts of spec.isTag, spec.IsBig and spec.has. Conditions: the texts are no longer than an address can count. -/
import Derived.Test.YtipmpeekfajlcaaGreatDoorKit
namespace Go.Proofs.YtipmpeekfajlcaaGreatDoor
open Go.RowKit Go.Proofs

theorem tagB_true {s : ByteArray} (h : TagOk s) : true = tagB s := by simp [tagB, h]
theorem tagB_false {s : ByteArray} (h : ¬ TagOk s) : false = tagB s := by simp [tagB, h]
theorem bigB_true {s : ByteArray} (h : BigOk s) : true = bigB s := by simp [bigB, h]
theorem bigB_false {s : ByteArray} (h : ¬ BigOk s) : false = bigB s := by simp [bigB, h]
theorem hasB_true {s p : ByteArray} (h : HasIn s p) : true = hasB s p := by simp [hasB, h]
theorem hasB_false {s p : ByteArray} (h : ¬ HasIn s p) : false = hasB s p := by simp [hasB, h]
def tagCh (n : Nat) : Prop := 32 ≤ n ∧ n ≤ 126
theorem tag_more {s : ByteArray} {k : Nat} (h : Hid (∀ j (_ : j < s.size), j < k → tagCh s[j].toNat)) (hlt : k < s.size) (hc : tagCh s[k].toNat) :
    Hid (∀ j (_ : j < s.size), j < k + 1 → tagCh s[j].toNat) := fun j hj hjk => by
  by_cases e : j = k
  · subst e; exact hc
  · exact h.out j hj (by omega)
theorem byte_cases3 (n : Int) : (n < 32 ∧ ¬ 126 < n) ∨ (¬ n < 32 ∧ ¬ 126 < n) ∨ (¬ n < 32 ∧ 126 < n) := by omega

set_option maxHeartbeats 1000000 in
theorem isTag_any (s : ByteArray) (w : World) (hs : s.size ≤ 9223372036854775807) :
    Calls Tryz.prog 47 #[.string s] w fun e w' => e = .returned (.bool (tagB s)) ∧ w = w' := by
  go_enter Tryz.func47, Tryz.ntmps47
  go_wp2
  go_loop [6] (fun i => ∃ k : Nat, k ≤ s.size ∧ i = .int .i64 k ∧ Hid (∀ j (_ : j < s.size), j < k → tagCh s[j].toNat)) (fun i => s.size - (intOf i).toNat)
  case atStart => exact ⟨0, Nat.zero_le _, rfl, fun j _ h => by omega⟩
  case round =>
    obtain ⟨k, hk, rfl, hj⟩ := hrel
    by_cases hlt : k < s.size
    · rcases byte_cases3 s[k].toNat with ⟨b1, b2⟩ | ⟨b1, b2⟩ | ⟨b1, b2⟩
      all_goals
        go_wp2
        first
        | (go_round
           case rel => exact ⟨k + 1, by omega, by go_num, tag_more hj hlt (by unfold tagCh; omega)⟩
           case measure => simp [intOf]; omega)
        | (go_ret
           exact ⟨ret_bool (tagB_false (fun h => by have := h.1 k hlt; omega)), rfl⟩)
    · have hks : s.size ≤ k := by omega
      have hall : Hid (∀ j (_ : j < s.size), tagCh s[j].toNat) := fun j h => hj.out j h (by omega)
      clear hj hlt
      by_cases h2 : s.size ≤ 60
      · go_wp2
        go_ret
        exact ⟨ret_bool (by rw [← tagB_true ⟨hall.out, h2⟩]; simp; omega), rfl⟩
      · go_wp2
        go_ret
        exact ⟨ret_bool (by rw [← tagB_false (fun h => h2 h.2)]; simp; omega), rfl⟩

theorem toList_ne {s : ByteArray} (h : 0 < s.size) : s.toList.isEmpty = false := by
  rw [List.isEmpty_eq_false_iff]
  intro e
  rw [ByteArray.toList_eq] at e
  have h2 := Go.Lib.size_eq s
  have h3 : s.data.toList.length = 0 := by rw [e]; rfl
  omega
theorem toList_e {s : ByteArray} (h : ¬ 0 < s.size) : s.toList = [] := by
  apply List.eq_nil_of_length_eq_zero
  rw [ByteArray.toList_eq]
  have h2 := Go.Lib.size_eq s
  omega

set_option maxHeartbeats 1000000 in
theorem isBig_any (s : ByteArray) (w : World) :
    Calls Tryz.prog 18 #[.string s] w fun e w' => e = .returned (.bool (bigB s)) ∧ w = w' := by
  by_cases h0 : 0 < s.size
  · have hne := toList_ne h0
    have hne2 : ¬ s.toList = [] := by intro e; rw [e] at hne; simp at hne
    have hb : ((65 : Int) ≤ s[0].toNat ∧ (s[0].toNat : Int) ≤ 90) ∨ ¬ ((65 : Int) ≤ s[0].toNat) ∨ ((65 : Int) ≤ s[0].toNat ∧ ¬ (s[0].toNat : Int) ≤ 90) := by omega
    rcases hb with ⟨b1, b2⟩ | b1 | ⟨b1, b2⟩
    · go_enter Tryz.func18, Tryz.ntmps18
      go_wp2
      go_ret
      exact ⟨ret_bool (by rw [← bigB_true ⟨h0, by omega, by omega⟩]), rfl⟩
    · go_enter Tryz.func18, Tryz.ntmps18
      go_wp2
      go_ret
      exact ⟨ret_bool (by rw [← bigB_false (fun h => by obtain ⟨_, h1, h2⟩ := h; omega)]), rfl⟩
    · go_enter Tryz.func18, Tryz.ntmps18
      go_wp2
      go_ret
      exact ⟨ret_bool (by rw [← bigB_false (fun h => by obtain ⟨_, h1, h2⟩ := h; omega)]), rfl⟩
  · have he := toList_e h0
    go_enter Tryz.func18, Tryz.ntmps18
    go_wp2
    go_ret
    exact ⟨ret_bool (bigB_false (fun h => h0 h.1)), rfl⟩

set_option maxHeartbeats 1000000 in
theorem has_any (s p : ByteArray) (w : World) (hs : s.size ≤ 4611686018427387903) (hp : p.size ≤ 4611686018427387903) :
    Calls Tryz.prog 46 #[.string s, .string p] w fun e w' => e = .returned (.bool (hasB s p)) ∧ w = w' := by
  go_enter Tryz.func46, Tryz.ntmps46
  go_wp2
  go_loop [5] (fun i => ∃ k : Nat, k ≤ s.size + 1 ∧ i = .int .i64 k ∧ Hid (∀ j, j < k → ¬ (j + p.size ≤ s.size ∧ (s.extract j (j + p.size)).toList = p.toList))) (fun i => s.size + 1 - (intOf i).toNat)
  case atStart => exact ⟨0, Nat.zero_le _, rfl, fun j h => by omega⟩
  case round =>
    obtain ⟨k, hk, rfl, hj⟩ := hrel
    by_cases hlt : k + p.size ≤ s.size
    · by_cases hm : (s.extract k (k + p.size)).toList = p.toList
      · have hm' : ((s.extract k (k + p.size)).toList == p.toList) = true := by simp [hm]
        have HT : Hid (HasIn s p) := ⟨k, hlt, hm⟩
        clear hm
        go_wp2
        go_ret
        exact ⟨ret_bool (hasB_true HT.out), rfl⟩
      · have hm' : ((s.extract k (k + p.size)).toList == p.toList) = false := by simp [hm]
        have HM : Hid (¬ (s.extract k (k + p.size)).toList = p.toList) := hm
        clear hm
        go_wp2
        go_round
        case rel => exact ⟨k + 1, by omega, by go_num, fun j hj2 h => by
          by_cases e : j = k
          · subst e; exact HM.out h.2
          · exact hj.out j (by omega) h⟩
        case measure => simp [intOf]; omega
    · go_wp2
      go_ret
      exact ⟨ret_bool (hasB_false (fun h => by obtain ⟨i, h1, h2⟩ := h; exact hj.out i (by omega) ⟨h1, h2⟩)), rfl⟩

end Go.Proofs.YtipmpeekfajlcaaGreatDoor
