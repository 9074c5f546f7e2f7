/- What is proved: contracts of the comparison of methods by name, at exported names. -/
import Derived.Shelf.Small.Strs
import Derived.LaidEql
import Derived.Test.YtipmpeekfajlcaaGreatDoorGf
namespace Go.Proofs.YtipmpeekfajlcaaGreatDoor
open Go.RowKit Go.Proofs Go.Sort Go.BigFrame

set_option maxRecDepth 100000 in
theorem compareString_any (a b : ByteArray) (w : World) : Calls Tryz.prog 204 #[.string a, .string b] w fun e w' => e = .returned (.int .i64 (Lib.compareBytes a.data.toList b.data.toList)) ∧ w = w' := by
  go_enter Tryz.func204, Tryz.ntmps204
  go_wp2
  rw [run_callFunc_extern Tryz.func228 (by kernel_rfl) (by kernel_rfl) (by kernel_rfl) (e := Extern.BytealgCompare.compare) (by kernel_rfl), Lib.run_compareString]
  simp only [Result.andThen]
  rw [Oper.upon_value]
  go_wp2
  go_ret
  exact ⟨rfl, rfl⟩
theorem compare_any (a b : ByteArray) (w : World) : Calls Tryz.prog 167 #[.string a, .string b] w fun e w' => e = .returned (.int .i64 (Lib.compareBytes a.data.toList b.data.toList)) ∧ w = w' := by
  go_enter Tryz.func167, Tryz.ntmps167
  go_wp2_with (go_at_call 204; refine (compareString_any _ _ _).mono ?_; rintro e w' ⟨rfl, rfl⟩)
  go_ret
  exact ⟨rfl, rfl⟩

theorem cmp_lt : ∀ (a b : List UInt8), Op.bytesLess a b = true → Lib.compareBytes b a = 1
  | _, [], h => by simp [Op.bytesLess] at h
  | [], _ :: _, _ => rfl
  | a :: xs, b :: ys, h => by
    simp only [Op.bytesLess, Bool.or_eq_true, Bool.and_eq_true, decide_eq_true_eq, beq_iff_eq] at h
    unfold Lib.compareBytes
    rcases h with h | ⟨rfl, h⟩
    · rw [if_neg (by rw [UInt8.lt_iff_toNat_lt] at *; omega), if_pos h]
    · rw [if_neg (by rw [UInt8.lt_iff_toNat_lt]; omega), if_neg (by rw [UInt8.lt_iff_toNat_lt]; omega)]
      exact cmp_lt xs ys h
theorem less_ne : ∀ (a b : List UInt8), Op.bytesLess a b = true → ¬ a = b
  | _, [], h => by simp [Op.bytesLess] at h
  | [], _ :: _, _ => by simp
  | a :: xs, b :: ys, h => by
    simp only [Op.bytesLess, Bool.or_eq_true, Bool.and_eq_true, decide_eq_true_eq, beq_iff_eq] at h
    rcases h with h | ⟨rfl, h⟩
    · intro e
      cases e
      rw [UInt8.lt_iff_toNat_lt] at h
      omega
    · intro e
      cases e
      exact less_ne xs xs h rfl

theorem u299 : Tryz.prog.underlying 299 = some (.pointer 104) := by kernel_rfl

/-- An object lies at block b, with the name s. -/
def ObjAt (w : World) (b : Nat) (s : ByteArray) : Prop := ∃ c T, w.heap[b]? = some (.cells c T (0, 0)) ∧ c[3]? = some (.string s)
theorem ObjAt.keep {w w' : World} {b : Nat} {s : ByteArray} (h : ObjAt w b s) (hb : Below w.heap.size w w') : ObjAt w' b s := by
  obtain ⟨c, T, h1, h2⟩ := h
  exact ⟨c, T, (hb.block b (Array.getElem?_eq_some_iff.1 h1).1).trans h1, h2⟩
theorem ObjAt.cell {w : World} {b : Nat} {s : ByteArray} (h : ObjAt w b s) : w.cell? ⟨b, 3, none⟩ = some (.string s) := by
  obtain ⟨c, T, h1, h2⟩ := h
  simp [World.cell?, h1, h2]

theorem neptrIn (d a b : Nat) (h : ¬ a = b) {s t : ByteArray} (w : World) (ha : ObjAt w a s) (hb : ObjAt w b t) : (Op.equalIn (d + 1) 299 (.pointer (some ⟨a, 0, none⟩)) (.pointer (some ⟨b, 0, none⟩))).run Tryz.prog w = .ok false w := by
  obtain ⟨c, T, h1, _⟩ := ha
  obtain ⟨c2, T2, h3, _⟩ := hb
  have hs : (sameAddr ⟨a, 0, none⟩ ⟨b, 0, none⟩).run Tryz.prog w = .ok false w := run_sameAddr_other (P := Tryz.prog) (w := w) (a := ⟨a, 0, none⟩) (b := ⟨b, 0, none⟩) (fun e => h (by cases e; rfl)) h1 h3
  simp [Op.equalIn, run_underlying u299, Result.andThen, hs]
theorem neptrE (a b : Nat) (h : ¬ a = b) {s t : ByteArray} (w : World) (ha : ObjAt w a s) (hb : ObjAt w b t) : (Op.equal 299 (.pointer (some ⟨a, 0, none⟩)) (.pointer (some ⟨b, 0, none⟩))).run Tryz.prog w = .ok false w := neptrIn 9999 a b h w ha hb
theorem neptr (a b : Nat) (h : ¬ a = b) {s t : ByteArray} (w : World) (ha : ObjAt w a s) (hb : ObjAt w b t) : (binOp BinOp.eql 299 (.pointer (some ⟨a, 0, none⟩)) (.pointer (some ⟨b, 0, none⟩))).run Tryz.prog w = .ok (.bool false) w := by
  simp only [binOp]
  simp [neptrE a b h w ha hb]

set_option maxRecDepth 100000 in
set_option maxHeartbeats 2000000 in
theorem objCmp_any (a b : Nat) (s t : ByteArray) (w : World) (hs : nameB s = true) (ht : nameB t = true) (bs : bigB s = true) (bt : bigB t = true) (hp : PropsAt w)
    (oa : ObjAt w a s) (ob : ObjAt w b t) (hlt : Op.bytesLess t.toList s.toList = true) :
    Calls Tryz.prog 140 #[.pointer (some ⟨a, 0, none⟩), .pointer (some ⟨b, 0, none⟩)] w (Gives (.int .i64 1) w) := by
  have ca := oa.cell
  have cb := ob.cell
  have hne := less_ne _ _ hlt
  have hab : ¬ a = b := by
    intro e
    subst e
    rw [ca] at cb
    cases cb
    exact hne rfl
  have hpe := neptr a b hab w oa ob
  have hne2 : (s.toList == t.toList) = false := by
    have : ¬ s.toList = t.toList := fun e => hne e.symm
    simp [this]
  have hcmp : Lib.compareBytes s.data.toList t.data.toList = 1 := by
    rw [← ByteArray.toList_eq, ← ByteArray.toList_eq]
    exact cmp_lt _ _ hlt
  have c1 := isExported_any s hs w hp
  have c2 := isExported_any t ht w hp
  rw [bs] at c1
  rw [bt] at c2
  have C1 := Lib.hid c1
  have C2 := Lib.hid c2
  have cC : ∀ w, Calls Tryz.prog 167 #[.string s, .string t] w fun e w' => e = .returned (.int .i64 1) ∧ w = w' := fun w => by
    have := compare_any s t w
    rw [hcmp] at this
    exact this
  have CC := Lib.hid cC
  have d3 : w.drew.cell? ⟨a, 3, none⟩ = some (.string s) := ca
  have d4 : w.drew.cell? ⟨b, 3, none⟩ = some (.string t) := cb
  have e3 : w.drew.drew.cell? ⟨a, 3, none⟩ = some (.string s) := ca
  have e4 : w.drew.drew.cell? ⟨b, 3, none⟩ = some (.string t) := cb
  have HB := Lib.hid ((Below.refl w.heap.size w).drew.drew)
  clear c1 c2 hp hlt hne hcmp cC oa ob
  go_enter Tryz.func140, Tryz.ntmps140
  go_wp2_with (first | (go_at_call 166; first | (refine C1.out.mono ?_; clear C1; rintro e w' ⟨rfl, rfl⟩) | (refine C2.out.mono ?_; rintro e w' ⟨rfl, rfl⟩)))
  refine wp_region_still_lit (by kernel_rfl) (by kernel_rfl) ?_
  change wpStill _ _ w.drew (fun a' => Exit.then _ _ Exit.normal a' w.drew) _ _
  generalize w.drew = w4 at *
  repeat still_step
  refine wpStill_nil ?_
  go_wp2_with fail
  refine wp_region_still_lit (by kernel_rfl) (by kernel_rfl) ?_
  change wpStill _ _ w4.drew (fun a' => Exit.then _ _ Exit.normal a' w4.drew) _ _
  generalize w4.drew = w5 at *
  clear d3 d4
  repeat (first | still_step | still_call ((CC.out _).mono fun _ _ h => ⟨h.1, h.2.symm⟩))
  refine wpStill_nil ?_
  go_wp2
  go_ret
  exact ⟨rfl, HB.out⟩

/-- Of two methods, the greater name ahead of the smaller: 1. -/
theorem compareFunc_any (a b : Nat) (s t : ByteArray) (w : World) (hs : nameB s = true) (ht : nameB t = true) (bs : bigB s = true) (bt : bigB t = true) (hp : PropsAt w)
    (oa : ObjAt w a s) (ob : ObjAt w b t) (hlt : Op.bytesLess t.toList s.toList = true) :
    Calls Tryz.prog 110 #[.pointer (some ⟨a, 0, none⟩), .pointer (some ⟨b, 0, none⟩)] w (Gives (.int .i64 1) w) := by
  have ca := oa.cell
  have cb := ob.cell
  have cC : ∀ dd os, Calls Tryz.prog 140 #[.pointer (some ⟨a, 0, none⟩), .pointer (some ⟨b, 0, none⟩)] (grow (redrawn w dd) os) fun e w'' => e = .returned (.int .i64 1) ∧ ∃ p : Regrown, w'' = grow (redrawn w p.d) p.os := fun dd os =>
    Calls.regrown_of (objCmp_any a b s t _ hs ht bs bt (hp.keep (below_regrown _ _ _)) (oa.keep (below_regrown _ _ _)) (ob.keep (below_regrown _ _ _)) hlt)
  have CC := Lib.hid cC
  have x0 := cell_regrown ca
  have x1 := cell_regrown cb
  clear cC hp oa ob
  go_enter Tryz.func110, Tryz.ntmps110
  go_wp2_with fail
  refine wp_region_quiet_below (by kernel_rfl) (by kernel_rfl) ?_
  repeat (any_goals (first | go_big_quiet_step (with_reducible exact CC.out _ _) | quiet_step (with_reducible exact CC.out _ _)))
  all_goals
    refine wpQuiet_nil ?_
    intro _ hw'
    obtain ⟨⟨dq, osq⟩, hw''⟩ := hw'
    subst hw''
    have B4 := below_regrown w dq osq
    generalize grow (redrawn w dq) osq = W4 at *
    go_wp2
    go_ret
    exact ⟨rfl, B4⟩
end Go.Proofs.YtipmpeekfajlcaaGreatDoor
