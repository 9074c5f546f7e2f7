/- What is proved: contracts of gotypestring.Typ, Name of a basic type, impl.basic. Conditions: the number of a basic type is below 26. -/
import Derived.Test.YtipmpeekfajlcaaGreatDoorKit
import Derived.Test.YtipmpeekfajlcaaGreatDoorSb
namespace Go.Proofs.YtipmpeekfajlcaaGreatDoor
open Go.RowKit Go.Proofs

theorem basicName_any (b off : Nat) (w : World) (s : ByteArray) (hc : w.cell? ⟨b, off + 2, none⟩ = some (.string s)) :
    Calls Tryz.prog 74 #[.pointer (some ⟨b, off, none⟩)] w fun e w' => e = .returned (.string s) ∧ w = w' := by
  go_enter Tryz.func74, Tryz.ntmps74
  go_wp2
  go_ret
  exact ⟨rfl, rfl⟩

/-- What Typ gives: a pointer at a new block with a text. -/
def TypGives (w : World) (e : Ending) (w' : World) : Prop :=
  ∃ i s, e = .returned (.pointer (some ⟨w.heap.size + i, 0, none⟩)) ∧ w'.cell? ⟨w.heap.size + i, 2, none⟩ = some (.string s) ∧ Below w.heap.size w w'

theorem int_cases26 (k : Int) (h0 : 0 ≤ k) (h1 : k < 26) : k = 0 ∨ k = 1 ∨ k = 2 ∨ k = 3 ∨ k = 4 ∨ k = 5 ∨ k = 6 ∨ k = 7 ∨ k = 8 ∨ k = 9 ∨ k = 10 ∨ k = 11 ∨ k = 12 ∨ k = 13 ∨ k = 14 ∨ k = 15 ∨ k = 16 ∨ k = 17 ∨ k = 18 ∨ k = 19 ∨ k = 20 ∨ k = 21 ∨ k = 22 ∨ k = 23 ∨ k = 24 ∨ k = 25 := by omega

theorem cell_chain (os : List Obj) : ∀ (w : World) (i off : Nat) (v : Value) (c : Array Value) (T : TypeId), os[i]? = some (.cells c T) → c[off]? = some v → (os.foldl World.alloc w).cell? ⟨w.heap.size + i, off, none⟩ = some v := by
  have hfold : ∀ (os : List Obj) (w : World), Below w.heap.size w (os.foldl World.alloc w) := by
    intro os
    induction os with
    | nil => exact fun w => Below.refl _ _
    | cons o os ih =>
      intro w
      have h1 : Below w.heap.size w (w.alloc o) := (Below.refl _ _).alloc (Nat.le_refl _) _
      exact h1.trans ((ih (w.alloc o)).mono h1.size)
  induction os with
  | nil => intro w i off v c T h; simp at h
  | cons o os ih =>
    intro w i off v c T h hv
    cases i with
    | zero =>
      simp at h
      subst h
      refine cell_below (hfold os (w.alloc _)) ?_
      simp [hv]
    | succ i =>
      have := ih (w.alloc o) i off v c T (by simpa using h) hv
      have e : (w.alloc o).heap.size + i = w.heap.size + (i + 1) := by simp; omega
      rw [e] at this
      exact this

def typObjs : List Obj := [.cells #[.int .i64 0, .int .i64 0, .string ⟨#[105, 110, 118, 97, 108, 105, 100, 32, 116, 121, 112, 101]⟩] 210, .cells #[.int .i64 1, .int .i64 1, .string ⟨#[98, 111, 111, 108]⟩] 210, .cells #[.int .i64 2, .int .i64 2, .string ⟨#[105, 110, 116]⟩] 210, .cells #[.int .i64 3, .int .i64 2, .string ⟨#[105, 110, 116, 56]⟩] 210, .cells #[.int .i64 4, .int .i64 2, .string ⟨#[105, 110, 116, 49, 54]⟩] 210, .cells #[.int .i64 5, .int .i64 2, .string ⟨#[105, 110, 116, 51, 50]⟩] 210, .cells #[.int .i64 6, .int .i64 2, .string ⟨#[105, 110, 116, 54, 52]⟩] 210, .cells #[.int .i64 7, .int .i64 6, .string ⟨#[117, 105, 110, 116]⟩] 210, .cells #[.int .i64 8, .int .i64 6, .string ⟨#[117, 105, 110, 116, 56]⟩] 210, .cells #[.int .i64 9, .int .i64 6, .string ⟨#[117, 105, 110, 116, 49, 54]⟩] 210, .cells #[.int .i64 10, .int .i64 6, .string ⟨#[117, 105, 110, 116, 51, 50]⟩] 210, .cells #[.int .i64 11, .int .i64 6, .string ⟨#[117, 105, 110, 116, 54, 52]⟩] 210, .cells #[.int .i64 12, .int .i64 6, .string ⟨#[117, 105, 110, 116, 112, 116, 114]⟩] 210, .cells #[.int .i64 13, .int .i64 8, .string ⟨#[102, 108, 111, 97, 116, 51, 50]⟩] 210, .cells #[.int .i64 14, .int .i64 8, .string ⟨#[102, 108, 111, 97, 116, 54, 52]⟩] 210, .cells #[.int .i64 15, .int .i64 16, .string ⟨#[99, 111, 109, 112, 108, 101, 120, 54, 52]⟩] 210, .cells #[.int .i64 16, .int .i64 16, .string ⟨#[99, 111, 109, 112, 108, 101, 120, 49, 50, 56]⟩] 210, .cells #[.int .i64 17, .int .i64 32, .string ⟨#[115, 116, 114, 105, 110, 103]⟩] 210, .cells #[.int .i64 18, .int .i64 0, .string ⟨#[80, 111, 105, 110, 116, 101, 114]⟩] 210, .cells #[.int .i64 19, .int .i64 65, .string ⟨#[117, 110, 116, 121, 112, 101, 100, 32, 98, 111, 111, 108]⟩] 210, .cells #[.int .i64 20, .int .i64 66, .string ⟨#[117, 110, 116, 121, 112, 101, 100, 32, 105, 110, 116]⟩] 210, .cells #[.int .i64 21, .int .i64 66, .string ⟨#[117, 110, 116, 121, 112, 101, 100, 32, 114, 117, 110, 101]⟩] 210, .cells #[.int .i64 22, .int .i64 72, .string ⟨#[117, 110, 116, 121, 112, 101, 100, 32, 102, 108, 111, 97, 116]⟩] 210, .cells #[.int .i64 23, .int .i64 80, .string ⟨#[117, 110, 116, 121, 112, 101, 100, 32, 99, 111, 109, 112, 108, 101, 120]⟩] 210, .cells #[.int .i64 24, .int .i64 96, .string ⟨#[117, 110, 116, 121, 112, 101, 100, 32, 115, 116, 114, 105, 110, 103]⟩] 210, .cells #[.int .i64 25, .int .i64 64, .string ⟨#[117, 110, 116, 121, 112, 101, 100, 32, 110, 105, 108]⟩] 210]
theorem typ_text : ∀ i, i < 26 → ∃ a b s, typObjs[i]? = some (.cells #[a, b, .string s] 210) := by
  intro i h
  rcases int_cases26 i (by omega) (by omega) with e | e | e | e | e | e | e | e | e | e | e | e | e | e | e | e | e | e | e | e | e | e | e | e | e | e
  · obtain rfl : i = 0 := by omega
    exact ⟨_, _, _, rfl⟩
  · obtain rfl : i = 1 := by omega
    exact ⟨_, _, _, rfl⟩
  · obtain rfl : i = 2 := by omega
    exact ⟨_, _, _, rfl⟩
  · obtain rfl : i = 3 := by omega
    exact ⟨_, _, _, rfl⟩
  · obtain rfl : i = 4 := by omega
    exact ⟨_, _, _, rfl⟩
  · obtain rfl : i = 5 := by omega
    exact ⟨_, _, _, rfl⟩
  · obtain rfl : i = 6 := by omega
    exact ⟨_, _, _, rfl⟩
  · obtain rfl : i = 7 := by omega
    exact ⟨_, _, _, rfl⟩
  · obtain rfl : i = 8 := by omega
    exact ⟨_, _, _, rfl⟩
  · obtain rfl : i = 9 := by omega
    exact ⟨_, _, _, rfl⟩
  · obtain rfl : i = 10 := by omega
    exact ⟨_, _, _, rfl⟩
  · obtain rfl : i = 11 := by omega
    exact ⟨_, _, _, rfl⟩
  · obtain rfl : i = 12 := by omega
    exact ⟨_, _, _, rfl⟩
  · obtain rfl : i = 13 := by omega
    exact ⟨_, _, _, rfl⟩
  · obtain rfl : i = 14 := by omega
    exact ⟨_, _, _, rfl⟩
  · obtain rfl : i = 15 := by omega
    exact ⟨_, _, _, rfl⟩
  · obtain rfl : i = 16 := by omega
    exact ⟨_, _, _, rfl⟩
  · obtain rfl : i = 17 := by omega
    exact ⟨_, _, _, rfl⟩
  · obtain rfl : i = 18 := by omega
    exact ⟨_, _, _, rfl⟩
  · obtain rfl : i = 19 := by omega
    exact ⟨_, _, _, rfl⟩
  · obtain rfl : i = 20 := by omega
    exact ⟨_, _, _, rfl⟩
  · obtain rfl : i = 21 := by omega
    exact ⟨_, _, _, rfl⟩
  · obtain rfl : i = 22 := by omega
    exact ⟨_, _, _, rfl⟩
  · obtain rfl : i = 23 := by omega
    exact ⟨_, _, _, rfl⟩
  · obtain rfl : i = 24 := by omega
    exact ⟨_, _, _, rfl⟩
  · obtain rfl : i = 25 := by omega
    exact ⟨_, _, _, rfl⟩

theorem typ_cell (w : World) (o : Obj) (i : Nat) (h : i < 26) : ∃ s, ((typObjs.foldl World.alloc w).alloc o).cell? ⟨w.heap.size + i, 2, none⟩ = some (.string s) := by
  obtain ⟨a, b, s, hi⟩ := typ_text i h
  exact ⟨s, cell_below ((Below.refl _ _).alloc (Nat.le_refl _) _) (cell_chain typObjs w i 2 _ _ _ hi rfl)⟩

set_option maxRecDepth 100000 in
set_option maxHeartbeats 8000000 in
theorem typ_any (k : Int) (h0 : 0 ≤ k) (h1 : k < 26) (w : World) : Calls Tryz.prog 70 #[.int .i64 k] w (TypGives w) := by
  go_enter Tryz.func70, Tryz.ntmps70
  go_wp2
  have hall := fun o => typ_cell w o
  simp only [typObjs, List.foldl_cons, List.foldl_nil] at hall
  rcases int_cases26 k h0 h1 with h | h | h | h | h | h | h | h | h | h | h | h | h | h | h | h | h | h | h | h | h | h | h | h | h | h
  · subst h
    go_ret
    go_light
    obtain ⟨s, hs⟩ := hall _ 0 (by omega)
    exact ⟨0, s, rfl, hs, by go_grown⟩
  · subst h
    go_ret
    go_light
    obtain ⟨s, hs⟩ := hall _ 1 (by omega)
    exact ⟨1, s, rfl, hs, by go_grown⟩
  · subst h
    go_ret
    go_light
    obtain ⟨s, hs⟩ := hall _ 2 (by omega)
    exact ⟨2, s, rfl, hs, by go_grown⟩
  · subst h
    go_ret
    go_light
    obtain ⟨s, hs⟩ := hall _ 3 (by omega)
    exact ⟨3, s, rfl, hs, by go_grown⟩
  · subst h
    go_ret
    go_light
    obtain ⟨s, hs⟩ := hall _ 4 (by omega)
    exact ⟨4, s, rfl, hs, by go_grown⟩
  · subst h
    go_ret
    go_light
    obtain ⟨s, hs⟩ := hall _ 5 (by omega)
    exact ⟨5, s, rfl, hs, by go_grown⟩
  · subst h
    go_ret
    go_light
    obtain ⟨s, hs⟩ := hall _ 6 (by omega)
    exact ⟨6, s, rfl, hs, by go_grown⟩
  · subst h
    go_ret
    go_light
    obtain ⟨s, hs⟩ := hall _ 7 (by omega)
    exact ⟨7, s, rfl, hs, by go_grown⟩
  · subst h
    go_ret
    go_light
    obtain ⟨s, hs⟩ := hall _ 8 (by omega)
    exact ⟨8, s, rfl, hs, by go_grown⟩
  · subst h
    go_ret
    go_light
    obtain ⟨s, hs⟩ := hall _ 9 (by omega)
    exact ⟨9, s, rfl, hs, by go_grown⟩
  · subst h
    go_ret
    go_light
    obtain ⟨s, hs⟩ := hall _ 10 (by omega)
    exact ⟨10, s, rfl, hs, by go_grown⟩
  · subst h
    go_ret
    go_light
    obtain ⟨s, hs⟩ := hall _ 11 (by omega)
    exact ⟨11, s, rfl, hs, by go_grown⟩
  · subst h
    go_ret
    go_light
    obtain ⟨s, hs⟩ := hall _ 12 (by omega)
    exact ⟨12, s, rfl, hs, by go_grown⟩
  · subst h
    go_ret
    go_light
    obtain ⟨s, hs⟩ := hall _ 13 (by omega)
    exact ⟨13, s, rfl, hs, by go_grown⟩
  · subst h
    go_ret
    go_light
    obtain ⟨s, hs⟩ := hall _ 14 (by omega)
    exact ⟨14, s, rfl, hs, by go_grown⟩
  · subst h
    go_ret
    go_light
    obtain ⟨s, hs⟩ := hall _ 15 (by omega)
    exact ⟨15, s, rfl, hs, by go_grown⟩
  · subst h
    go_ret
    go_light
    obtain ⟨s, hs⟩ := hall _ 16 (by omega)
    exact ⟨16, s, rfl, hs, by go_grown⟩
  · subst h
    go_ret
    go_light
    obtain ⟨s, hs⟩ := hall _ 17 (by omega)
    exact ⟨17, s, rfl, hs, by go_grown⟩
  · subst h
    go_ret
    go_light
    obtain ⟨s, hs⟩ := hall _ 18 (by omega)
    exact ⟨18, s, rfl, hs, by go_grown⟩
  · subst h
    go_ret
    go_light
    obtain ⟨s, hs⟩ := hall _ 19 (by omega)
    exact ⟨19, s, rfl, hs, by go_grown⟩
  · subst h
    go_ret
    go_light
    obtain ⟨s, hs⟩ := hall _ 20 (by omega)
    exact ⟨20, s, rfl, hs, by go_grown⟩
  · subst h
    go_ret
    go_light
    obtain ⟨s, hs⟩ := hall _ 21 (by omega)
    exact ⟨21, s, rfl, hs, by go_grown⟩
  · subst h
    go_ret
    go_light
    obtain ⟨s, hs⟩ := hall _ 22 (by omega)
    exact ⟨22, s, rfl, hs, by go_grown⟩
  · subst h
    go_ret
    go_light
    obtain ⟨s, hs⟩ := hall _ 23 (by omega)
    exact ⟨23, s, rfl, hs, by go_grown⟩
  · subst h
    go_ret
    go_light
    obtain ⟨s, hs⟩ := hall _ 24 (by omega)
    exact ⟨24, s, rfl, hs, by go_grown⟩
  · subst h
    go_ret
    go_light
    obtain ⟨s, hs⟩ := hall _ 25 (by omega)
    exact ⟨25, s, rfl, hs, by go_grown⟩

/-- What basic gives: an interface that holds a basic type. -/
def BasicGives (w : World) (e : Ending) (w' : World) : Prop := ∃ a : Addr, e = .returned (.iface 151 (.pointer (some a))) ∧ Below w.heap.size w w'

set_option maxRecDepth 100000 in
set_option maxHeartbeats 8000000 in
theorem basic_any (s : ByteArray) (w : World) : Calls Tryz.prog 53 #[.string s] w (BasicGives w) := by
  go_enter Tryz.func53, Tryz.ntmps53
  go_wp2
  go_outline
  go_loopw [3] (fun i wr => ∃ k : Nat, k ≤ 18 ∧ 1 ≤ k ∧ i = .int .i64 k ∧ Below w.heap.size w wr) (fun i _ => 18 - (intOf i).toNat)
  case atStart => exact ⟨1, by omega, by omega, rfl, Below.refl _ _⟩
  case round =>
    obtain ⟨k, hk, hk1, rfl, hb⟩ := hrel
    have HB := Lib.hid hb; clear hb
    by_cases hlt : k < 18
    · have cT : Calls Tryz.prog 70 #[.int .i64 k] wr (TypGives wr) := typ_any k (by omega) (by omega) wr
      go_wp2_with (go_at_call 70; refine cT.mono ?_; rintro e w2 ⟨i, n, rfl, hc, hb2⟩)
      go_wp2_with (go_at_call 74; refine (basicName_any (wr.heap.size + i) 0 w2 n hc).mono ?_; rintro e w' ⟨rfl, rfl⟩)
      · go_ret
        go_light
        exact ⟨_, rfl, HB.out.trans (hb2.mono HB.out.size)⟩
      · go_roundw
        case rel =>
          go_light
          exact ⟨k + 1, by omega, by omega, by go_num, HB.out.trans (hb2.mono HB.out.size)⟩
        case measure =>
          go_light
          simp [intOf]
          omega
    · have cT : Calls Tryz.prog 70 #[.int .i64 0] wr (TypGives wr) := typ_any 0 (by omega) (by omega) wr
      go_wp2_with (go_at_call 70; refine cT.mono ?_; rintro e w2 ⟨i, n, rfl, hc, hb2⟩)
      go_ret
      go_light
      exact ⟨_, rfl, HB.out.trans (hb2.mono HB.out.size)⟩
end Go.Proofs.YtipmpeekfajlcaaGreatDoor
