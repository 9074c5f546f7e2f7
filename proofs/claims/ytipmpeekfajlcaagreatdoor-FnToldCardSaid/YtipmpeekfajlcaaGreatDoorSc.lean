/- What is proved: the contracts of laws.zzFits1, 2, 3, 5, of spec.isFunc, plain, isBasic and Id. Conditions: the input lies in memory as trees. -/
import Derived.Test.YtipmpeekfajlcaaGreatDoorSa
import Derived.Test.YtipmpeekfajlcaaGreatDoorSb
namespace Go.Proofs.YtipmpeekfajlcaaGreatDoor
open Go.RowKit Go.Proofs

theorem ret_str {a b : ByteArray} (h : a = b) : Ending.returned (.string a) = .returned (.string b) := by rw [h]

set_option maxHeartbeats 1000000 in
theorem plain_any (t : Ty) (a : Option Addr) (cap : Nat) (n : Nat) (w : World) :
    Calls Tryz.prog 23 #[.agg #[.string t.kd, .string t.nm, .string t.tg, .int .i64 t.sz, .slice a t.kids.length cap], .int .i64 n] w (Gives (.bool (plainB t n)) w) := by
  by_cases h1 : t.nm.toList = []
  · by_cases h2 : t.tg.toList = []
    · by_cases h3 : t.sz = 0
      · have h3' : (t.sz == 0) = true := by simp [h3]
        have H : Hid (decide (t.kids.length = n) = plainB t n) := by show _ = _; simp [plainB, h1, h2, h3]; rfl
        go_enter Tryz.func23, Tryz.ntmps23
        go_wp2
        go_ret
        exact ⟨ret_bool (by rw [← H.out, Bool.eq_iff_iff]; simp; omega), (Below.refl _ _).alloc (Nat.le_refl _) _⟩
      · have h3' : (t.sz == 0) = false := by simp [h3]
        have H : Hid (false = plainB t n) := by show _ = _; simp [plainB, h3]
        go_enter Tryz.func23, Tryz.ntmps23
        go_wp2
        go_ret
        exact ⟨ret_bool H.out, (Below.refl _ _).alloc (Nat.le_refl _) _⟩
    · have H : Hid (false = plainB t n) := by show _ = _; simp [plainB, h2]
      have h2' : t.tg.toList.isEmpty = false := by simp [h2]
      go_enter Tryz.func23, Tryz.ntmps23
      go_wp2
      go_ret
      exact ⟨ret_bool H.out, (Below.refl _ _).alloc (Nat.le_refl _) _⟩
  · have H : Hid (false = plainB t n) := by show _ = _; simp [plainB, h1]
    have h1' : t.nm.toList.isEmpty = false := by simp [h1]
    go_enter Tryz.func23, Tryz.ntmps23
    go_wp2
    go_ret
    exact ⟨ret_bool H.out, (Below.refl _ _).alloc (Nat.le_refl _) _⟩

set_option maxHeartbeats 1000000 in
theorem isFunc_any (t : Ty) (a : Option Addr) (cap : Nat) (w : World) :
    Calls Tryz.prog 15 #[.agg #[.string t.kd, .string t.nm, .string t.tg, .int .i64 t.sz, .slice a t.kids.length cap]] w (Gives (.bool (isFuncB t)) w) := by
  by_cases h1 : t.kd.toList = [102, 117, 110, 99]
  · have H : Hid (true = isFuncB t) := by show _ = _; simp [isFuncB, h1]
    go_enter Tryz.func15, Tryz.ntmps15
    go_wp2
    go_ret
    exact ⟨ret_bool H.out, (Below.refl _ _).alloc (Nat.le_refl _) _⟩
  · have h1' : (t.kd.toList == [102, 117, 110, 99]) = false := by simp [h1]
    have H : Hid ((t.kd.toList == [118, 97, 114, 105, 97, 100, 105, 99]) = isFuncB t) := by show _ = _; rw [Bool.eq_iff_iff]; simp [isFuncB, h1]
    go_enter Tryz.func15, Tryz.ntmps15
    go_wp2
    go_ret
    exact ⟨ret_bool H.out, (Below.refl _ _).alloc (Nat.le_refl _) _⟩

set_option maxHeartbeats 1000000 in
theorem isBasic_any (s : ByteArray) (w : World) (hs : s.size ≤ 9223372036854775807) :
    Calls Tryz.prog 21 #[.string s] w fun e w' => e = .returned (.bool (basicB s)) ∧ w = w' := by
  cases hn : nameB s
  · have H : Hid (false = basicB s) := by show _ = _; simp [basicB, hn]
    go_enter Tryz.func21, Tryz.ntmps21
    go_wp2_with (go_at_call 12; refine (isName_any _ _ hs).mono ?_; rintro e w' ⟨rfl, rfl⟩)
    go_ret
    exact ⟨ret_bool H.out, rfl⟩
  · have hok : NameOk s := by simpa [nameB] using hn
    have h20 := hok.2.2
    have H : Hid (hasB ⟨basicsL.toArray⟩ (⟨#[32]⟩ ++ s ++ ⟨#[32]⟩) = basicB s) := by show _ = _; simp [basicB, hn]
    clear hok
    go_enter Tryz.func21, Tryz.ntmps21
    go_wp2_with (go_at_call 12; refine (isName_any _ _ hs).mono ?_; rintro e w' ⟨rfl, rfl⟩)
    refine (has_any _ _ _ (by decide) (by rw [Go.Lib.size_eq, ← Go.Lib.toList_data]; simp [ByteArray.toList_eq]; omega)).mono ?_
    rintro e w' ⟨rfl, rfl⟩
    go_wp2
    go_ret
    exact ⟨ret_bool H.out, rfl⟩

set_option maxHeartbeats 1000000 in
theorem specId_any (p s : ByteArray) (w : World) (hp : p.size ≤ 1000) (hs : s.size ≤ 1000) :
    Calls Tryz.prog 19 #[.string p, .string s] w fun e w' => e = .returned (.string (idB p s)) ∧ w = w' := by
  cases hn : bigB s
  · have H : Hid (p ++ ⟨#[46]⟩ ++ s = idB p s) := by show _ = _; simp [idB, hn]
    go_enter Tryz.func19, Tryz.ntmps19
    go_wp2_with (go_at_call 18; refine (isBig_any _ _).mono ?_; rintro e w' ⟨rfl, rfl⟩)
    go_ret
    exact ⟨ret_str H.out, rfl⟩
  · have H : Hid (s = idB p s) := by show _ = _; simp [idB, hn]
    go_enter Tryz.func19, Tryz.ntmps19
    go_wp2_with (go_at_call 18; refine (isBig_any _ _).mono ?_; rintro e w' ⟨rfl, rfl⟩)
    go_ret
    exact ⟨ret_str H.out, rfl⟩

set_option maxHeartbeats 1000000 in
theorem fits3_any (p n : ByteArray) (w : World) :
    Calls Tryz.prog 20 #[.agg #[.string p, .string n]] w (Gives (.bool (decide (p.size ≤ 2147483647) && decide (n.size ≤ 2147483647))) w) := by
  by_cases h1 : p.size ≤ 2147483647
  · by_cases h2 : n.size ≤ 2147483647
    · go_enter Tryz.func20, Tryz.ntmps20
      go_wp2
      go_ret
      exact ⟨ret_bool (by simp [h1, h2]), (Below.refl _ _).alloc (Nat.le_refl _) _⟩
    · go_enter Tryz.func20, Tryz.ntmps20
      go_wp2
      go_ret
      exact ⟨ret_bool (by simp [h2]), (Below.refl _ _).alloc (Nat.le_refl _) _⟩
  · go_enter Tryz.func20, Tryz.ntmps20
    go_wp2
    go_ret
    exact ⟨ret_bool (by simp [h1]), (Below.refl _ _).alloc (Nat.le_refl _) _⟩

theorem or_cases (a b : Prop) : (a ∧ b) ∨ (a ∧ ¬ b) ∨ ¬ a := by by_cases a <;> by_cases b <;> simp [*]

/-- zzFits2: some answer, in a world of which what was there has not turned. -/
def SomeBool (w : World) (e : Ending) (w' : World) : Prop := ∃ b, e = .returned (.bool b) ∧ Below w.heap.size w w'

set_option maxHeartbeats 1000000 in
theorem fits2_any (a : Option Addr) (cap : Nat) (pkgs : List PkgD) (w : World) (hp : PkgsV w a cap pkgs) :
    Calls Tryz.prog 10 #[.slice a pkgs.length cap] w (SomeBool w) := by
  have h1 := hp.hcap
  have h2 := hp.hmax
  have HP := Lib.hid hp; clear hp
  by_cases hm : pkgs.length ≤ 2147483647
  · go_enter Tryz.func10, Tryz.ntmps10
    go_wp2
    go_loopw [10] (fun i wr => ∃ k : Nat, k ≤ pkgs.length ∧ i = .int .i64 k ∧ Below w.heap.size w wr) (fun i _ => pkgs.length - (intOf i).toNat)
    case atStart => exact ⟨0, Nat.zero_le _, rfl, Below.refl _ _⟩
    case round =>
      obtain ⟨k, hk, rfl, hbw⟩ := hrel
      by_cases hlt : k < pkgs.length
      · obtain ⟨b, off, rfl, c0, c1, hf⟩ := HP.out.at_ k _ (List.getElem?_eq_getElem hlt)
        have d0 := cell_below hbw c0
        have d1 := cell_below hbw c1
        have hsz := hbw.size
        have HB := Lib.hid hbw
        clear c0 c1 hf hbw
        generalize pkgs[k] = p at d0 d1
        go_wp2_with (go_at_call 20; refine (fits3_any _ _ _).mono ?_; rintro e w' ⟨rfl, hb2⟩)
        · go_ret
          exact ⟨_, rfl, (HB.out.alloc hsz _).trans (hb2.mono (by simp; omega))⟩
        · go_roundw
          case rel => exact ⟨k + 1, by omega, by go_num, (HB.out.alloc hsz _).trans (hb2.mono (by simp; omega))⟩
          case measure => simp [intOf]; omega
      · go_wp2
        go_ret
        exact ⟨_, rfl, hbw⟩
  · go_enter Tryz.func10, Tryz.ntmps10
    go_wp2
    go_ret
    exact ⟨_, rfl, Below.refl _ _⟩

set_option maxHeartbeats 1000000 in
theorem fits1_any (pa da : Option Addr) (pc dc nd : Nat) (pkgs : List PkgD) (w : World) (hp : PkgsV w pa pc pkgs) :
    Calls Tryz.prog 4 #[.agg #[.slice pa pkgs.length pc, .slice da nd dc]] w (SomeBool w) := by
  have HP := Lib.hid hp; clear hp
  go_enter Tryz.func4, Tryz.ntmps4
  go_wp2_with fail
  refine (fits2_any _ _ _ _ (HP.out.keep ((Below.refl _ _).alloc (Nat.le_refl _) _))).mono ?_
  rintro e w' ⟨b, rfl, hb⟩
  obtain ⟨hc, hf⟩ := bcell hb
  cases b
  · go_wp2
    go_ret
    exact ⟨_, rfl, ((Below.refl _ _).alloc (Nat.le_refl _) _).trans (hb.mono (by simp))⟩
  · go_wp2
    all_goals go_ret
    all_goals exact ⟨_, rfl, ((Below.refl _ _).alloc (Nat.le_refl _) _).trans (hb.mono (by simp))⟩

set_option maxHeartbeats 1000000 in
theorem fits5_any (kd nm : ByteArray) (pkg imp : Int) (top : Bool) (t : Ty) (a : Option Addr) (cap : Nat) (w : World) :
    Calls Tryz.prog 5 #[.agg #[.string kd, .int .i64 pkg, .bool top, .string nm, .string t.kd, .string t.nm, .string t.tg, .int .i64 t.sz, .slice a t.kids.length cap, .int .i64 imp]] w (SomeBool w) := by
  go_enter Tryz.func5, Tryz.ntmps5
  go_wp2
  all_goals go_ret
  all_goals exact ⟨_, rfl, (Below.refl _ _).alloc (Nat.le_refl _) _⟩

end Go.Proofs.YtipmpeekfajlcaaGreatDoor
