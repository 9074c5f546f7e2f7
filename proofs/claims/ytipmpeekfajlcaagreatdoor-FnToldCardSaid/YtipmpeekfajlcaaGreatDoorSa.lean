/- What is proved: the contracts of spec.IsName and spec.IsPath. Conditions: the text is no longer than an address can count. -/
import Derived.Test.YtipmpeekfajlcaaGreatDoorKit
namespace Go.Proofs.YtipmpeekfajlcaaGreatDoor
open Go.RowKit Go.Proofs

theorem nameB_true {s : ByteArray} (h : NameOk s) : true = nameB s := by simp [nameB, h]
theorem nameB_false {s : ByteArray} (h : ¬ NameOk s) : false = nameB s := by simp [nameB, h]
theorem pathB_true {s : ByteArray} (h : PathOk s) : true = pathB s := by simp [pathB, h]
theorem pathB_false {s : ByteArray} (h : ¬ PathOk s) : false = pathB s := by simp [pathB, h]
theorem byte_cases (n : Int) : (¬ 97 ≤ n ∧ n ≤ 122 ∧ ¬ 65 ≤ n ∧ n ≤ 90 ∧ n < 48 ∧ ¬ 57 < n) ∨ (¬ 97 ≤ n ∧ n ≤ 122 ∧ ¬ 65 ≤ n ∧ n ≤ 90 ∧ ¬ n < 48 ∧ ¬ 57 < n) ∨ (¬ 97 ≤ n ∧ n ≤ 122 ∧ ¬ 65 ≤ n ∧ n ≤ 90 ∧ ¬ n < 48 ∧ 57 < n) ∨
    (¬ 97 ≤ n ∧ n ≤ 122 ∧ 65 ≤ n ∧ n ≤ 90 ∧ ¬ n < 48 ∧ 57 < n) ∨ (¬ 97 ≤ n ∧ n ≤ 122 ∧ 65 ≤ n ∧ ¬ n ≤ 90 ∧ ¬ n < 48 ∧ 57 < n) ∨ (97 ≤ n ∧ n ≤ 122 ∧ 65 ≤ n ∧ ¬ n ≤ 90 ∧ ¬ n < 48 ∧ 57 < n) ∨ (97 ≤ n ∧ ¬ n ≤ 122 ∧ 65 ≤ n ∧ ¬ n ≤ 90 ∧ ¬ n < 48 ∧ 57 < n) := by omega
theorem byte_cases2 (n : Int) : (¬ 97 ≤ n ∧ n ≤ 122 ∧ ¬ 65 ≤ n ∧ n ≤ 90 ∧ ¬ 48 ≤ n ∧ n ≤ 57) ∨ (¬ 97 ≤ n ∧ n ≤ 122 ∧ ¬ 65 ≤ n ∧ n ≤ 90 ∧ 48 ≤ n ∧ n ≤ 57) ∨ (¬ 97 ≤ n ∧ n ≤ 122 ∧ ¬ 65 ≤ n ∧ n ≤ 90 ∧ 48 ≤ n ∧ ¬ n ≤ 57) ∨
    (¬ 97 ≤ n ∧ n ≤ 122 ∧ 65 ≤ n ∧ n ≤ 90 ∧ 48 ≤ n ∧ ¬ n ≤ 57) ∨ (¬ 97 ≤ n ∧ n ≤ 122 ∧ 65 ≤ n ∧ ¬ n ≤ 90 ∧ 48 ≤ n ∧ ¬ n ≤ 57) ∨ (97 ≤ n ∧ n ≤ 122 ∧ 65 ≤ n ∧ ¬ n ≤ 90 ∧ 48 ≤ n ∧ ¬ n ≤ 57) ∨ (97 ≤ n ∧ ¬ n ≤ 122 ∧ 65 ≤ n ∧ ¬ n ≤ 90 ∧ 48 ≤ n ∧ ¬ n ≤ 57) := by omega

theorem name_more {s : ByteArray} {k : Nat} (h : Hid (∀ j (_ : j < s.size), j < k → chOk j s[j].toNat)) (hlt : k < s.size) (hc : chOk k s[k].toNat) :
    Hid (∀ j (_ : j < s.size), j < k + 1 → chOk j s[j].toNat) := fun j hj hjk => by
  by_cases e : j = k
  · subst e; exact hc
  · exact h.out j hj (by omega)

set_option maxHeartbeats 1000000 in
theorem isName_any (s : ByteArray) (w : World) (hs : s.size ≤ 9223372036854775807) :
    Calls Tryz.prog 12 #[.string s] w fun e w' => e = .returned (.bool (nameB s)) ∧ w = w' := by
  go_enter Tryz.func12, Tryz.ntmps12
  go_wp2
  go_loop [8] (fun i => ∃ k : Nat, k ≤ s.size ∧ i = .int .i64 k ∧ Hid (∀ j (_ : j < s.size), j < k → chOk j s[j].toNat)) (fun i => s.size - (intOf i).toNat)
  case atStart => exact ⟨0, Nat.zero_le _, rfl, fun j _ h => by omega⟩
  case round =>
    obtain ⟨k, hk, rfl, hj⟩ := hrel
    by_cases hlt : k < s.size
    · by_cases h95 : s[k].toNat = 95
      · have h95' : ((s[k].toNat : Int)) = 95 := by omega
        go_wp2
        go_round
        case rel => exact ⟨k + 1, by omega, by go_num, name_more hj hlt (by unfold chOk; omega)⟩
        case measure => simp [intOf]; omega
      · have he : ((s[k].toNat : Int) == 95) = false := by simp; omega
        have hb := byte_cases s[k].toNat
        by_cases hk0 : k = 0
        · subst hk0
          rcases hb with ⟨b1, b2, b3, b4, b5, b6⟩ | ⟨b1, b2, b3, b4, b5, b6⟩ | ⟨b1, b2, b3, b4, b5, b6⟩ | ⟨b1, b2, b3, b4, b5, b6⟩ | ⟨b1, b2, b3, b4, b5, b6⟩ | ⟨b1, b2, b3, b4, b5, b6⟩ | ⟨b1, b2, b3, b4, b5, b6⟩
          all_goals
            go_wp2
            first
            | (go_round
               case rel => exact ⟨0 + 1, by omega, by go_num, name_more hj hlt (by unfold chOk; omega)⟩
               case measure => simp [intOf]; omega)
            | (go_ret
               exact ⟨ret_bool (nameB_false (fun h => by have := h.1 0 hlt; unfold chOk at this; omega)), rfl⟩)
        · have hk1 : ((k : Int) == 0) = false := by simpa using hk0
          rcases hb with ⟨b1, b2, b3, b4, b5, b6⟩ | ⟨b1, b2, b3, b4, b5, b6⟩ | ⟨b1, b2, b3, b4, b5, b6⟩ | ⟨b1, b2, b3, b4, b5, b6⟩ | ⟨b1, b2, b3, b4, b5, b6⟩ | ⟨b1, b2, b3, b4, b5, b6⟩ | ⟨b1, b2, b3, b4, b5, b6⟩
          all_goals
            go_wp2
            first
            | (go_round
               case rel => exact ⟨k + 1, by omega, by go_num, name_more hj hlt (by unfold chOk; omega)⟩
               case measure => simp [intOf]; omega)
            | (go_ret
               exact ⟨ret_bool (nameB_false (fun h => by have := h.1 k hlt; unfold chOk at this; omega)), rfl⟩)
    · have hks : s.size ≤ k := by omega
      have hall : Hid (∀ j (_ : j < s.size), chOk j s[j].toNat) := fun j h => hj.out j h (by omega)
      clear hj hlt
      by_cases h1 : 1 ≤ s.size
      · by_cases h2 : s.size ≤ 20
        · go_wp2
          go_ret
          exact ⟨ret_bool (by rw [← nameB_true ⟨hall.out, h1, h2⟩]; simp; omega), rfl⟩
        · go_wp2
          go_ret
          exact ⟨ret_bool (by rw [← nameB_false (fun h => h2 h.2.2)]; simp; omega), rfl⟩
      · go_wp2
        go_ret
        exact ⟨ret_bool (nameB_false (fun h => h1 h.2.1)), rfl⟩

def pathCh (n : Nat) : Prop := (97 ≤ n ∧ n ≤ 122) ∨ (65 ≤ n ∧ n ≤ 90) ∨ (46 ≤ n ∧ n ≤ 57)
theorem path_more {s : ByteArray} {k : Nat} (h : Hid (∀ j (_ : j < s.size), j < k → pathCh s[j].toNat)) (hlt : k < s.size) (hc : pathCh s[k].toNat) :
    Hid (∀ j (_ : j < s.size), j < k + 1 → pathCh s[j].toNat) := fun j hj hjk => by
  by_cases e : j = k
  · subst e; exact hc
  · exact h.out j hj (by omega)

set_option maxHeartbeats 1000000 in
theorem isPath_any (s : ByteArray) (w : World) (hs : s.size ≤ 9223372036854775807) :
    Calls Tryz.prog 11 #[.string s] w fun e w' => e = .returned (.bool (pathB s)) ∧ w = w' := by
  go_enter Tryz.func11, Tryz.ntmps11
  go_wp2
  go_loop [7] (fun i => ∃ k : Nat, k ≤ s.size ∧ i = .int .i64 k ∧ Hid (∀ j (_ : j < s.size), j < k → pathCh s[j].toNat)) (fun i => s.size - (intOf i).toNat)
  case atStart => exact ⟨0, Nat.zero_le _, rfl, fun j _ h => by omega⟩
  case round =>
    obtain ⟨k, hk, rfl, hj⟩ := hrel
    by_cases hlt : k < s.size
    · by_cases h47 : s[k].toNat = 47
      · have h47' : ((s[k].toNat : Int)) = 47 := by omega
        go_wp2
        go_round
        case rel => exact ⟨k + 1, by omega, by go_num, path_more hj hlt (by unfold pathCh; omega)⟩
        case measure => simp [intOf]; omega
      · by_cases h46 : s[k].toNat = 46
        · have h46' : ((s[k].toNat : Int)) = 46 := by omega
          go_wp2
          go_round
          case rel => exact ⟨k + 1, by omega, by go_num, path_more hj hlt (by unfold pathCh; omega)⟩
          case measure => simp [intOf]; omega
        · have he : ((s[k].toNat : Int) == 47) = false := by simp; omega
          have he2 : ((s[k].toNat : Int) == 46) = false := by simp; omega
          have hb := byte_cases2 s[k].toNat
          rcases hb with ⟨b1, b2, b3, b4, b5, b6⟩ | ⟨b1, b2, b3, b4, b5, b6⟩ | ⟨b1, b2, b3, b4, b5, b6⟩ | ⟨b1, b2, b3, b4, b5, b6⟩ | ⟨b1, b2, b3, b4, b5, b6⟩ | ⟨b1, b2, b3, b4, b5, b6⟩ | ⟨b1, b2, b3, b4, b5, b6⟩
          all_goals
            go_wp2
            first
            | (go_round
               case rel => exact ⟨k + 1, by omega, by go_num, path_more hj hlt (by unfold pathCh; omega)⟩
               case measure => simp [intOf]; omega)
            | (go_ret
               exact ⟨ret_bool (pathB_false (fun h => by have := h.1 k hlt; omega)), rfl⟩)
    · have hks : s.size ≤ k := by omega
      have hall : Hid (∀ j (_ : j < s.size), pathCh s[j].toNat) := fun j h => hj.out j h (by omega)
      clear hj hlt
      by_cases h1 : 1 ≤ s.size
      · by_cases h2 : s.size ≤ 40
        · go_wp2
          go_ret
          exact ⟨ret_bool (by rw [← pathB_true ⟨hall.out, h1, h2⟩]; simp; omega), rfl⟩
        · go_wp2
          go_ret
          exact ⟨ret_bool (by rw [← pathB_false (fun h => h2 h.2.2)]; simp; omega), rfl⟩
      · go_wp2
        go_ret
        exact ⟨ret_bool (pathB_false (fun h => h1 h.2.1)), rfl⟩

end Go.Proofs.YtipmpeekfajlcaaGreatDoor
