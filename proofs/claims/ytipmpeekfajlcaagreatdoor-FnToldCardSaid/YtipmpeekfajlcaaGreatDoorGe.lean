/- What is proved: contracts of isExported, Id and of what they call, at identifiers. Conditions: the table of unicode's properties lies as laid. -/
import Derived.Shelf.Unicode.Props
import Derived.Test.YtipmpeekfajlcaaGreatDoorGc
import Derived.Test.YtipmpeekfajlcaaGreatDoorSc
namespace Go.Proofs.YtipmpeekfajlcaaGreatDoor
open Go.RowKit Go.Proofs

/-- unicode's table lies. -/
def PropsAt (w : World) : Prop := ∀ c, c < 256 → w.cell? ⟨3, c, none⟩ = some (.int .u8 (Lib.propertiesTab.getD c 0))
theorem PropsAt.keep {w w' : World} (h : PropsAt w) (hb : Below w.heap.size w w') : PropsAt w' := fun c hc => cell_below hb (h c hc)

set_option maxRecDepth 100000 in
theorem isUpper_any (c : Nat) (hc : c < 128) (w : World) (hp : PropsAt w) : Calls Tryz.prog 203 #[.int .i32 c] w fun e w' => e = .returned (.bool (decide (65 ≤ c ∧ c ≤ 90))) ∧ w = w' := by
  obtain ⟨p1, p2, p3, p4, p5⟩ := Lib.props_all ⟨c, by omega⟩
  simp only at p1 p2 p3 p4 p5
  have hcell := hp c (by omega)
  have hR : Hid (Lib.isUpperL c = decide (65 ≤ c ∧ c ≤ 90)) := by
    show _ = _
    simp only [Lib.isUpperL, decide_eq_decide]
    omega
  rw [← hR.out, ← p2]
  clear hR hp p1 p2 p3
  generalize Lib.propertiesTab.getD c 0 = pv at *
  have hand : bits .and .u8 pv 96 = ((pv.toNat &&& 96 : Nat) : Int) := u8_and pv 96 p4 p5 (by decide) (by decide)
  generalize pv.toNat &&& 96 = q at *
  go_enter Tryz.func203, Tryz.ntmps203
  go_wp2
  all_goals (go_ret; refine ⟨congrArg Ending.returned ?_, rfl⟩; show Value.bool _ = Value.bool _; refine congrArg Value.bool ?_; by_cases hq : q = 32 <;> simp [hq] <;> omega)

set_option maxRecDepth 100000 in
theorem decode_any (s : ByteArray) (h0 : 0 < s.size) (h1 : s[0].toNat < 128) (w : World) : Calls Tryz.prog 169 #[.string s] w fun e w' => e = .returned (.tuple #[.int .i32 s[0].toNat, .int .i64 1]) ∧ w = w' := by
  have hne := toList_ne h0
  have hne2 : ¬ s.toList = [] := by intro e; rw [e] at hne; simp at hne
  have hlt : (s[0].toNat : Int) < 128 := by omega
  go_enter Tryz.func169, Tryz.ntmps169
  go_wp2
  go_ret2
  exact ⟨rfl, rfl⟩

theorem name_first {s : ByteArray} (h : nameB s = true) : ∃ h0 : 0 < s.size, s[0].toNat < 128 ∧ (bigB s = decide (65 ≤ s[0].toNat ∧ s[0].toNat ≤ 90)) := by
  have h2 : NameOk s := by simpa [nameB] using h
  obtain ⟨h3, h4, _⟩ := h2
  have h5 := h3 0 (by omega)
  refine ⟨by omega, ?_, ?_⟩
  · unfold chOk at h5; omega
  · unfold bigB
    simp only [decide_eq_decide]
    constructor
    · rintro ⟨_, h⟩
      exact h
    · intro h
      exact ⟨by omega, h⟩

set_option maxRecDepth 100000 in
theorem isExported_any (s : ByteArray) (hs : nameB s = true) (w : World) (hp : PropsAt w) : Calls Tryz.prog 166 #[.string s] w fun e w' => e = .returned (.bool (bigB s)) ∧ w = w' := by
  obtain ⟨h0, h1, h2⟩ := name_first hs
  have cD := decode_any s h0 h1 w
  have cU := isUpper_any s[0].toNat h1 w hp
  rw [← h2] at cU
  clear h2
  go_enter Tryz.func166, Tryz.ntmps166
  go_wp2_with (first | (go_at_call 169; refine cD.mono ?_; rintro e w' ⟨rfl, rfl⟩) | (go_at_call 203; refine cU.mono ?_; rintro e w' ⟨rfl, rfl⟩))
  go_ret
  exact ⟨rfl, rfl⟩

/-- What Id of go/types gives: the name, with the path of its package ahead of it where it is not exported. -/
theorem idNone_any (s : ByteArray) (hs : nameB s = true) (w : World) (hp : PropsAt w) : Calls Tryz.prog 154 #[.pointer none, .string s] w fun e w' => e = .returned (.string (idB ⟨#[95]⟩ s)) ∧ w = w' := by
  have cE := isExported_any s hs w hp
  have hsz : s.size ≤ 20 := by have : NameOk s := by simpa [nameB] using hs
                               exact this.2.2
  cases hb : bigB s
  · rw [hb] at cE
    have H : Hid (((⟨#[95]⟩ : ByteArray) ++ ⟨#[46]⟩) ++ s = idB ⟨#[95]⟩ s) := by show _ = _; simp [idB, hb]
    go_enter Tryz.func154, Tryz.ntmps154
    go_wp2_with (go_at_call 166; refine cE.mono ?_; rintro e w' ⟨rfl, rfl⟩)
    go_ret
    exact ⟨ret_str H.out, rfl⟩
  · rw [hb] at cE
    have H : Hid (s = idB ⟨#[95]⟩ s) := by show _ = _; simp [idB, hb]
    go_enter Tryz.func154, Tryz.ntmps154
    go_wp2_with (go_at_call 166; refine cE.mono ?_; rintro e w' ⟨rfl, rfl⟩)
    go_ret
    exact ⟨ret_str H.out, rfl⟩

theorem idPkg_any (s p : ByteArray) (hs : nameB s = true) (hp1 : 0 < p.size) (hp2 : p.size ≤ 1000) (b off : Nat) (w : World) (hp : PropsAt w) (hc : w.cell? ⟨b, off, none⟩ = some (.string p)) : Calls Tryz.prog 154 #[.pointer (some ⟨b, off, none⟩), .string s] w fun e w' => e = .returned (.string (idB p s)) ∧ w = w' := by
  have cE := isExported_any s hs w hp
  have hsz : s.size ≤ 20 := by have : NameOk s := by simpa [nameB] using hs
                               exact this.2.2
  have hne := toList_ne hp1
  cases hb : bigB s
  · rw [hb] at cE
    have H : Hid ((p ++ ⟨#[46]⟩) ++ s = idB p s) := by show _ = _; simp [idB, hb]
    go_enter Tryz.func154, Tryz.ntmps154
    go_wp2_with (go_at_call 166; refine cE.mono ?_; rintro e w' ⟨rfl, rfl⟩)
    go_ret
    exact ⟨ret_str H.out, rfl⟩
  · rw [hb] at cE
    have H : Hid (s = idB p s) := by show _ = _; simp [idB, hb]
    go_enter Tryz.func154, Tryz.ntmps154
    go_wp2_with (go_at_call 166; refine cE.mono ?_; rintro e w' ⟨rfl, rfl⟩)
    go_ret
    exact ⟨ret_str H.out, rfl⟩

end Go.Proofs.YtipmpeekfajlcaaGreatDoor
