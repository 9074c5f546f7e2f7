/- What is proved: the contract of spec.isType at a pointer, a slice and a channel, given that one step deeper. Conditions: the input lies in memory as trees. -/
import Derived.Test.YtipmpeekfajlcaaGreatDoorSf
namespace Go.Proofs.YtipmpeekfajlcaaGreatDoor
open Go.RowKit Go.Proofs Go.Sort Go.BigFrame

set_option maxRecDepth 100000 in
set_option maxHeartbeats 8000000 in
theorem type_pointer (W : WorldD) (pa da : Option Addr) (pc dc np : Nat) (most : Int) (d : Nat) (hrec : TypeCalls W pa da pc dc np most d) (hd9 : d < 99)
    (t : Ty) (ka : Option Addr) (kc : Nat) (below : Bool) (w : World) (hd : DeclsV w da dc W.decls) (hk : KidsV w ka kc t.kids) (hkd : t.kd.toList = [112, 111, 105, 110, 116, 101, 114]) :
    Calls Tryz.prog 13 #[.agg #[.slice pa np pc, .slice da W.decls.length dc, .int .i64 most], .agg #[.string t.kd, .string t.nm, .string t.tg, .int .i64 t.sz, .slice ka t.kids.length kc], .int .i64 ((d : Int) + 1), .bool below] w (Gives (.bool (isTypeB W most (d + 1) t below)) w) := by
  have hl1 := hk.len.1
  have hl2 := hk.len.2
  have HT : Hid (isTypeB W most (d + 1) t below = (plainB t 1 && isTypeB W most d (t.kid 0) true)) := by show _ = _; simp [isTypeB, hkd]
  have HR := Lib.hid hrec; clear hrec
  cases hpl : plainB t 1
  · have HT : Hid (false = isTypeB W most (d + 1) t below) := by show _ = _; rw [HT.out, hpl]; rfl
    have HPL := Lib.hid hpl; clear hpl
    have hb : Below w.heap.size w ((w.alloc (.cells #[.slice pa np pc, .slice da W.decls.length dc, .int .i64 most] 44)).alloc (.cells #[.string t.kd, .string t.nm, .string t.tg, .int .i64 t.sz, .slice ka t.kids.length kc] 28)) := by go_grown
    have HD := Lib.hid (hd.keep hb)
    have HK := Lib.hid (hk.keep hb)
    have HB := Lib.hid hb
    have q0 : ((w.alloc (.cells #[.slice pa np pc, .slice da W.decls.length dc, .int .i64 most] 44)).alloc (.cells #[.string t.kd, .string t.nm, .string t.tg, .int .i64 t.sz, .slice ka t.kids.length kc] 28)).cell? ⟨w.heap.size, 0, none⟩ = some (.slice pa np pc) := by simp
    have q1 : ((w.alloc (.cells #[.slice pa np pc, .slice da W.decls.length dc, .int .i64 most] 44)).alloc (.cells #[.string t.kd, .string t.nm, .string t.tg, .int .i64 t.sz, .slice ka t.kids.length kc] 28)).cell? ⟨w.heap.size, 1, none⟩ = some (.slice da W.decls.length dc) := by simp
    have q2 : ((w.alloc (.cells #[.slice pa np pc, .slice da W.decls.length dc, .int .i64 most] 44)).alloc (.cells #[.string t.kd, .string t.nm, .string t.tg, .int .i64 t.sz, .slice ka t.kids.length kc] 28)).cell? ⟨w.heap.size, 2, none⟩ = some (.int .i64 most) := by simp
    have t0 : ((w.alloc (.cells #[.slice pa np pc, .slice da W.decls.length dc, .int .i64 most] 44)).alloc (.cells #[.string t.kd, .string t.nm, .string t.tg, .int .i64 t.sz, .slice ka t.kids.length kc] 28)).cell? ⟨w.heap.size + 1, 0, none⟩ = some (.string t.kd) := by simp
    have t1 : ((w.alloc (.cells #[.slice pa np pc, .slice da W.decls.length dc, .int .i64 most] 44)).alloc (.cells #[.string t.kd, .string t.nm, .string t.tg, .int .i64 t.sz, .slice ka t.kids.length kc] 28)).cell? ⟨w.heap.size + 1, 1, none⟩ = some (.string t.nm) := by simp
    have t2 : ((w.alloc (.cells #[.slice pa np pc, .slice da W.decls.length dc, .int .i64 most] 44)).alloc (.cells #[.string t.kd, .string t.nm, .string t.tg, .int .i64 t.sz, .slice ka t.kids.length kc] 28)).cell? ⟨w.heap.size + 1, 2, none⟩ = some (.string t.tg) := by simp
    have t3 : ((w.alloc (.cells #[.slice pa np pc, .slice da W.decls.length dc, .int .i64 most] 44)).alloc (.cells #[.string t.kd, .string t.nm, .string t.tg, .int .i64 t.sz, .slice ka t.kids.length kc] 28)).cell? ⟨w.heap.size + 1, 3, none⟩ = some (.int .i64 t.sz) := by simp
    have t4 : ((w.alloc (.cells #[.slice pa np pc, .slice da W.decls.length dc, .int .i64 most] 44)).alloc (.cells #[.string t.kd, .string t.nm, .string t.tg, .int .i64 t.sz, .slice ka t.kids.length kc] 28)).cell? ⟨w.heap.size + 1, 4, none⟩ = some (.slice ka t.kids.length kc) := by simp
    have q0 := Lib.hid q0
    have q1 := Lib.hid q1
    have q2 := Lib.hid q2
    have t0 := Lib.hid t0
    have t1 := Lib.hid t1
    have t2 := Lib.hid t2
    have t3 := Lib.hid t3
    have t4 := Lib.hid t4
    clear hb hd hk
    go_enter Tryz.func13, Tryz.ntmps13
    go_wp2_with fail
    generalize hW2 : ((w.alloc (.cells #[.slice pa np pc, .slice da W.decls.length dc, .int .i64 most] 44)).alloc (.cells #[.string t.kd, .string t.nm, .string t.tg, .int .i64 t.sz, .slice ka t.kids.length kc] 28)) = W2 at *
    clear hW2
    have q0 := cell_regrown q0.out
    have q1 := cell_regrown q1.out
    have q2 := cell_regrown q2.out
    have t0 := cell_regrown t0.out
    have t1 := cell_regrown t1.out
    have t2 := cell_regrown t2.out
    have t3 := cell_regrown t3.out
    have t4 := cell_regrown t4.out
    have cP : ∀ dd os, Calls Tryz.prog 23 #[.agg #[.string t.kd, .string t.nm, .string t.tg, .int .i64 t.sz, .slice ka t.kids.length kc], .int .i64 1] (grow (redrawn W2 dd) os)
        fun e w'' => e = .returned (.bool false) ∧ ∃ p : Regrown, w'' = grow (redrawn W2 p.d) p.os := fun dd os => by
      rw [← HPL.out]
      exact Calls.regrown_of (plain_any t ka kc 1 _)
    have cPH := Lib.hid cP; clear cP
    refine wp_region_quiet_below (by kernel_rfl) (by kernel_rfl) ?_
    repeat (any_goals (first | go_big_quiet_step ((with_reducible exact cPH.out _ _)) | quiet_step ((with_reducible exact cPH.out _ _)) | (refine wpQuiet_step (fun K hK => ?_); go_simp; split <;> (refine hK _ ?_; clear hK K))))
    all_goals
      refine wpQuiet_nil ?_
      intro _ hw'
      obtain ⟨⟨dq, osq⟩, hw''⟩ := hw'
      subst hw''
      have B4 := below_regrown W2 dq osq
      generalize grow (redrawn W2 dq) osq = W4 at *
    all_goals
      go_wp2_with fail
      go_ret
      go_light
      exact ⟨ret_bool HT.out, HB.out.trans (B4.mono HB.out.size)⟩
  · have hone : t.kids.length = 1 := by simp only [plainB, Bool.and_eq_true, beq_iff_eq] at hpl; exact hpl.2
    have HT : Hid (isTypeB W most d (t.kid 0) true = isTypeB W most (d + 1) t below) := by show _ = _; rw [HT.out, hpl]; rfl
    have HPL := Lib.hid hpl; clear hpl
    have HONE := Lib.hid hone
    have hone' : 1 ≤ t.kids.length := by omega
    clear hone
    have hb : Below w.heap.size w ((w.alloc (.cells #[.slice pa np pc, .slice da W.decls.length dc, .int .i64 most] 44)).alloc (.cells #[.string t.kd, .string t.nm, .string t.tg, .int .i64 t.sz, .slice ka t.kids.length kc] 28)) := by go_grown
    have HD := Lib.hid (hd.keep hb)
    have HK := Lib.hid (hk.keep hb)
    have HB := Lib.hid hb
    have q0 : ((w.alloc (.cells #[.slice pa np pc, .slice da W.decls.length dc, .int .i64 most] 44)).alloc (.cells #[.string t.kd, .string t.nm, .string t.tg, .int .i64 t.sz, .slice ka t.kids.length kc] 28)).cell? ⟨w.heap.size, 0, none⟩ = some (.slice pa np pc) := by simp
    have q1 : ((w.alloc (.cells #[.slice pa np pc, .slice da W.decls.length dc, .int .i64 most] 44)).alloc (.cells #[.string t.kd, .string t.nm, .string t.tg, .int .i64 t.sz, .slice ka t.kids.length kc] 28)).cell? ⟨w.heap.size, 1, none⟩ = some (.slice da W.decls.length dc) := by simp
    have q2 : ((w.alloc (.cells #[.slice pa np pc, .slice da W.decls.length dc, .int .i64 most] 44)).alloc (.cells #[.string t.kd, .string t.nm, .string t.tg, .int .i64 t.sz, .slice ka t.kids.length kc] 28)).cell? ⟨w.heap.size, 2, none⟩ = some (.int .i64 most) := by simp
    have t0 : ((w.alloc (.cells #[.slice pa np pc, .slice da W.decls.length dc, .int .i64 most] 44)).alloc (.cells #[.string t.kd, .string t.nm, .string t.tg, .int .i64 t.sz, .slice ka t.kids.length kc] 28)).cell? ⟨w.heap.size + 1, 0, none⟩ = some (.string t.kd) := by simp
    have t1 : ((w.alloc (.cells #[.slice pa np pc, .slice da W.decls.length dc, .int .i64 most] 44)).alloc (.cells #[.string t.kd, .string t.nm, .string t.tg, .int .i64 t.sz, .slice ka t.kids.length kc] 28)).cell? ⟨w.heap.size + 1, 1, none⟩ = some (.string t.nm) := by simp
    have t2 : ((w.alloc (.cells #[.slice pa np pc, .slice da W.decls.length dc, .int .i64 most] 44)).alloc (.cells #[.string t.kd, .string t.nm, .string t.tg, .int .i64 t.sz, .slice ka t.kids.length kc] 28)).cell? ⟨w.heap.size + 1, 2, none⟩ = some (.string t.tg) := by simp
    have t3 : ((w.alloc (.cells #[.slice pa np pc, .slice da W.decls.length dc, .int .i64 most] 44)).alloc (.cells #[.string t.kd, .string t.nm, .string t.tg, .int .i64 t.sz, .slice ka t.kids.length kc] 28)).cell? ⟨w.heap.size + 1, 3, none⟩ = some (.int .i64 t.sz) := by simp
    have t4 : ((w.alloc (.cells #[.slice pa np pc, .slice da W.decls.length dc, .int .i64 most] 44)).alloc (.cells #[.string t.kd, .string t.nm, .string t.tg, .int .i64 t.sz, .slice ka t.kids.length kc] 28)).cell? ⟨w.heap.size + 1, 4, none⟩ = some (.slice ka t.kids.length kc) := by simp
    have q0 := Lib.hid q0
    have q1 := Lib.hid q1
    have q2 := Lib.hid q2
    have t0 := Lib.hid t0
    have t1 := Lib.hid t1
    have t2 := Lib.hid t2
    have t3 := Lib.hid t3
    have t4 := Lib.hid t4
    clear hb hd hk
    go_enter Tryz.func13, Tryz.ntmps13
    go_wp2_with fail
    generalize hW2 : ((w.alloc (.cells #[.slice pa np pc, .slice da W.decls.length dc, .int .i64 most] 44)).alloc (.cells #[.string t.kd, .string t.nm, .string t.tg, .int .i64 t.sz, .slice ka t.kids.length kc] 28)) = W2 at *
    clear hW2
    have q0 := cell_regrown q0.out
    have q1 := cell_regrown q1.out
    have q2 := cell_regrown q2.out
    have t0 := cell_regrown t0.out
    have t1 := cell_regrown t1.out
    have t2 := cell_regrown t2.out
    have t3 := cell_regrown t3.out
    have t4 := cell_regrown t4.out
    have cP : ∀ dd os, Calls Tryz.prog 23 #[.agg #[.string t.kd, .string t.nm, .string t.tg, .int .i64 t.sz, .slice ka t.kids.length kc], .int .i64 1] (grow (redrawn W2 dd) os)
        fun e w'' => e = .returned (.bool true) ∧ ∃ p : Regrown, w'' = grow (redrawn W2 p.d) p.os := fun dd os => by
      rw [← HPL.out]
      exact Calls.regrown_of (plain_any t ka kc 1 _)
    have cPH := Lib.hid cP; clear cP
    obtain ⟨bu, offu, au, cu, hbu, g0, g1, g2, g3, g4, hfu, hku⟩ := HK.out.at (kid_at (t := t) (i := 0) (by omega))
    subst hbu
    have HKu := Lib.hid hku
    have HFu := Lib.hid hfu
    simp only [Nat.zero_mul, Nat.add_zero] at g0 g1 g2 g3 g4
    have u0 := cell_regrown g0
    have u1 := cell_regrown g1
    have u2 := cell_regrown g2
    have u3 := cell_regrown g3
    have u4 := cell_regrown g4
    clear g0 g1 g2 g3 g4 hfu hku
    have cT : ∀ dd os, Calls Tryz.prog 13 #[.agg #[.slice pa np pc, .slice da W.decls.length dc, .int .i64 most], .agg #[.string (t.kid 0).kd, .string (t.kid 0).nm, .string (t.kid 0).tg, .int .i64 (t.kid 0).sz, .slice au (t.kid 0).kids.length cu], .int .i64 d, .bool true] (grow (redrawn W2 dd) os)
        fun e w'' => e = .returned (.bool (isTypeB W most d (t.kid 0) true)) ∧ ∃ p : Regrown, w'' = grow (redrawn W2 p.d) p.os := fun dd os =>
      Calls.regrown_of (HR.out (t.kid 0) au cu true _ (HD.out.keep (below_regrown _ _ _)) (HKu.out.keep (below_regrown _ _ _)) HFu.out)
    have cTH := Lib.hid cT; clear cT
    refine wp_region_quiet_below (by kernel_rfl) (by kernel_rfl) ?_
    repeat (any_goals (first | go_big_quiet_step ((first | with_reducible exact cPH.out _ _ | with_reducible exact cTH.out _ _)) | quiet_step ((first | with_reducible exact cPH.out _ _ | with_reducible exact cTH.out _ _)) | (refine wpQuiet_step (fun K hK => ?_); go_simp; split <;> (refine hK _ ?_; clear hK K))))
    all_goals
      refine wpQuiet_nil ?_
      intro _ hw'
      obtain ⟨⟨dq, osq⟩, hw''⟩ := hw'
      subst hw''
      have B4 := below_regrown W2 dq osq
      generalize grow (redrawn W2 dq) osq = W4 at *
    all_goals
      go_wp2_with fail
      go_ret
      go_light
      exact ⟨ret_bool HT.out, HB.out.trans (B4.mono HB.out.size)⟩

set_option maxRecDepth 100000 in
set_option maxHeartbeats 8000000 in
theorem type_slice (W : WorldD) (pa da : Option Addr) (pc dc np : Nat) (most : Int) (d : Nat) (hrec : TypeCalls W pa da pc dc np most d) (hd9 : d < 99)
    (t : Ty) (ka : Option Addr) (kc : Nat) (below : Bool) (w : World) (hd : DeclsV w da dc W.decls) (hk : KidsV w ka kc t.kids) (hkd : t.kd.toList = [115, 108, 105, 99, 101]) :
    Calls Tryz.prog 13 #[.agg #[.slice pa np pc, .slice da W.decls.length dc, .int .i64 most], .agg #[.string t.kd, .string t.nm, .string t.tg, .int .i64 t.sz, .slice ka t.kids.length kc], .int .i64 ((d : Int) + 1), .bool below] w (Gives (.bool (isTypeB W most (d + 1) t below)) w) := by
  have hl1 := hk.len.1
  have hl2 := hk.len.2
  have HT : Hid (isTypeB W most (d + 1) t below = (plainB t 1 && isTypeB W most d (t.kid 0) below)) := by show _ = _; simp [isTypeB, hkd]
  have HR := Lib.hid hrec; clear hrec
  cases hpl : plainB t 1
  · have HT : Hid (false = isTypeB W most (d + 1) t below) := by show _ = _; rw [HT.out, hpl]; rfl
    have HPL := Lib.hid hpl; clear hpl
    have hb : Below w.heap.size w ((w.alloc (.cells #[.slice pa np pc, .slice da W.decls.length dc, .int .i64 most] 44)).alloc (.cells #[.string t.kd, .string t.nm, .string t.tg, .int .i64 t.sz, .slice ka t.kids.length kc] 28)) := by go_grown
    have HD := Lib.hid (hd.keep hb)
    have HK := Lib.hid (hk.keep hb)
    have HB := Lib.hid hb
    have q0 : ((w.alloc (.cells #[.slice pa np pc, .slice da W.decls.length dc, .int .i64 most] 44)).alloc (.cells #[.string t.kd, .string t.nm, .string t.tg, .int .i64 t.sz, .slice ka t.kids.length kc] 28)).cell? ⟨w.heap.size, 0, none⟩ = some (.slice pa np pc) := by simp
    have q1 : ((w.alloc (.cells #[.slice pa np pc, .slice da W.decls.length dc, .int .i64 most] 44)).alloc (.cells #[.string t.kd, .string t.nm, .string t.tg, .int .i64 t.sz, .slice ka t.kids.length kc] 28)).cell? ⟨w.heap.size, 1, none⟩ = some (.slice da W.decls.length dc) := by simp
    have q2 : ((w.alloc (.cells #[.slice pa np pc, .slice da W.decls.length dc, .int .i64 most] 44)).alloc (.cells #[.string t.kd, .string t.nm, .string t.tg, .int .i64 t.sz, .slice ka t.kids.length kc] 28)).cell? ⟨w.heap.size, 2, none⟩ = some (.int .i64 most) := by simp
    have t0 : ((w.alloc (.cells #[.slice pa np pc, .slice da W.decls.length dc, .int .i64 most] 44)).alloc (.cells #[.string t.kd, .string t.nm, .string t.tg, .int .i64 t.sz, .slice ka t.kids.length kc] 28)).cell? ⟨w.heap.size + 1, 0, none⟩ = some (.string t.kd) := by simp
    have t1 : ((w.alloc (.cells #[.slice pa np pc, .slice da W.decls.length dc, .int .i64 most] 44)).alloc (.cells #[.string t.kd, .string t.nm, .string t.tg, .int .i64 t.sz, .slice ka t.kids.length kc] 28)).cell? ⟨w.heap.size + 1, 1, none⟩ = some (.string t.nm) := by simp
    have t2 : ((w.alloc (.cells #[.slice pa np pc, .slice da W.decls.length dc, .int .i64 most] 44)).alloc (.cells #[.string t.kd, .string t.nm, .string t.tg, .int .i64 t.sz, .slice ka t.kids.length kc] 28)).cell? ⟨w.heap.size + 1, 2, none⟩ = some (.string t.tg) := by simp
    have t3 : ((w.alloc (.cells #[.slice pa np pc, .slice da W.decls.length dc, .int .i64 most] 44)).alloc (.cells #[.string t.kd, .string t.nm, .string t.tg, .int .i64 t.sz, .slice ka t.kids.length kc] 28)).cell? ⟨w.heap.size + 1, 3, none⟩ = some (.int .i64 t.sz) := by simp
    have t4 : ((w.alloc (.cells #[.slice pa np pc, .slice da W.decls.length dc, .int .i64 most] 44)).alloc (.cells #[.string t.kd, .string t.nm, .string t.tg, .int .i64 t.sz, .slice ka t.kids.length kc] 28)).cell? ⟨w.heap.size + 1, 4, none⟩ = some (.slice ka t.kids.length kc) := by simp
    have q0 := Lib.hid q0
    have q1 := Lib.hid q1
    have q2 := Lib.hid q2
    have t0 := Lib.hid t0
    have t1 := Lib.hid t1
    have t2 := Lib.hid t2
    have t3 := Lib.hid t3
    have t4 := Lib.hid t4
    clear hb hd hk
    go_enter Tryz.func13, Tryz.ntmps13
    go_wp2_with fail
    generalize hW2 : ((w.alloc (.cells #[.slice pa np pc, .slice da W.decls.length dc, .int .i64 most] 44)).alloc (.cells #[.string t.kd, .string t.nm, .string t.tg, .int .i64 t.sz, .slice ka t.kids.length kc] 28)) = W2 at *
    clear hW2
    have q0 := cell_regrown q0.out
    have q1 := cell_regrown q1.out
    have q2 := cell_regrown q2.out
    have t0 := cell_regrown t0.out
    have t1 := cell_regrown t1.out
    have t2 := cell_regrown t2.out
    have t3 := cell_regrown t3.out
    have t4 := cell_regrown t4.out
    have cP : ∀ dd os, Calls Tryz.prog 23 #[.agg #[.string t.kd, .string t.nm, .string t.tg, .int .i64 t.sz, .slice ka t.kids.length kc], .int .i64 1] (grow (redrawn W2 dd) os)
        fun e w'' => e = .returned (.bool false) ∧ ∃ p : Regrown, w'' = grow (redrawn W2 p.d) p.os := fun dd os => by
      rw [← HPL.out]
      exact Calls.regrown_of (plain_any t ka kc 1 _)
    have cPH := Lib.hid cP; clear cP
    refine wp_region_quiet_below (by kernel_rfl) (by kernel_rfl) ?_
    repeat (any_goals (first | go_big_quiet_step ((with_reducible exact cPH.out _ _)) | quiet_step ((with_reducible exact cPH.out _ _)) | (refine wpQuiet_step (fun K hK => ?_); go_simp; split <;> (refine hK _ ?_; clear hK K))))
    all_goals
      refine wpQuiet_nil ?_
      intro _ hw'
      obtain ⟨⟨dq, osq⟩, hw''⟩ := hw'
      subst hw''
      have B4 := below_regrown W2 dq osq
      generalize grow (redrawn W2 dq) osq = W4 at *
    all_goals
      go_wp2_with fail
      go_ret
      go_light
      exact ⟨ret_bool HT.out, HB.out.trans (B4.mono HB.out.size)⟩
  · have hone : t.kids.length = 1 := by simp only [plainB, Bool.and_eq_true, beq_iff_eq] at hpl; exact hpl.2
    have HT : Hid (isTypeB W most d (t.kid 0) below = isTypeB W most (d + 1) t below) := by show _ = _; rw [HT.out, hpl]; rfl
    have HPL := Lib.hid hpl; clear hpl
    have HONE := Lib.hid hone
    have hone' : 1 ≤ t.kids.length := by omega
    clear hone
    have hb : Below w.heap.size w ((w.alloc (.cells #[.slice pa np pc, .slice da W.decls.length dc, .int .i64 most] 44)).alloc (.cells #[.string t.kd, .string t.nm, .string t.tg, .int .i64 t.sz, .slice ka t.kids.length kc] 28)) := by go_grown
    have HD := Lib.hid (hd.keep hb)
    have HK := Lib.hid (hk.keep hb)
    have HB := Lib.hid hb
    have q0 : ((w.alloc (.cells #[.slice pa np pc, .slice da W.decls.length dc, .int .i64 most] 44)).alloc (.cells #[.string t.kd, .string t.nm, .string t.tg, .int .i64 t.sz, .slice ka t.kids.length kc] 28)).cell? ⟨w.heap.size, 0, none⟩ = some (.slice pa np pc) := by simp
    have q1 : ((w.alloc (.cells #[.slice pa np pc, .slice da W.decls.length dc, .int .i64 most] 44)).alloc (.cells #[.string t.kd, .string t.nm, .string t.tg, .int .i64 t.sz, .slice ka t.kids.length kc] 28)).cell? ⟨w.heap.size, 1, none⟩ = some (.slice da W.decls.length dc) := by simp
    have q2 : ((w.alloc (.cells #[.slice pa np pc, .slice da W.decls.length dc, .int .i64 most] 44)).alloc (.cells #[.string t.kd, .string t.nm, .string t.tg, .int .i64 t.sz, .slice ka t.kids.length kc] 28)).cell? ⟨w.heap.size, 2, none⟩ = some (.int .i64 most) := by simp
    have t0 : ((w.alloc (.cells #[.slice pa np pc, .slice da W.decls.length dc, .int .i64 most] 44)).alloc (.cells #[.string t.kd, .string t.nm, .string t.tg, .int .i64 t.sz, .slice ka t.kids.length kc] 28)).cell? ⟨w.heap.size + 1, 0, none⟩ = some (.string t.kd) := by simp
    have t1 : ((w.alloc (.cells #[.slice pa np pc, .slice da W.decls.length dc, .int .i64 most] 44)).alloc (.cells #[.string t.kd, .string t.nm, .string t.tg, .int .i64 t.sz, .slice ka t.kids.length kc] 28)).cell? ⟨w.heap.size + 1, 1, none⟩ = some (.string t.nm) := by simp
    have t2 : ((w.alloc (.cells #[.slice pa np pc, .slice da W.decls.length dc, .int .i64 most] 44)).alloc (.cells #[.string t.kd, .string t.nm, .string t.tg, .int .i64 t.sz, .slice ka t.kids.length kc] 28)).cell? ⟨w.heap.size + 1, 2, none⟩ = some (.string t.tg) := by simp
    have t3 : ((w.alloc (.cells #[.slice pa np pc, .slice da W.decls.length dc, .int .i64 most] 44)).alloc (.cells #[.string t.kd, .string t.nm, .string t.tg, .int .i64 t.sz, .slice ka t.kids.length kc] 28)).cell? ⟨w.heap.size + 1, 3, none⟩ = some (.int .i64 t.sz) := by simp
    have t4 : ((w.alloc (.cells #[.slice pa np pc, .slice da W.decls.length dc, .int .i64 most] 44)).alloc (.cells #[.string t.kd, .string t.nm, .string t.tg, .int .i64 t.sz, .slice ka t.kids.length kc] 28)).cell? ⟨w.heap.size + 1, 4, none⟩ = some (.slice ka t.kids.length kc) := by simp
    have q0 := Lib.hid q0
    have q1 := Lib.hid q1
    have q2 := Lib.hid q2
    have t0 := Lib.hid t0
    have t1 := Lib.hid t1
    have t2 := Lib.hid t2
    have t3 := Lib.hid t3
    have t4 := Lib.hid t4
    clear hb hd hk
    go_enter Tryz.func13, Tryz.ntmps13
    go_wp2_with fail
    generalize hW2 : ((w.alloc (.cells #[.slice pa np pc, .slice da W.decls.length dc, .int .i64 most] 44)).alloc (.cells #[.string t.kd, .string t.nm, .string t.tg, .int .i64 t.sz, .slice ka t.kids.length kc] 28)) = W2 at *
    clear hW2
    have q0 := cell_regrown q0.out
    have q1 := cell_regrown q1.out
    have q2 := cell_regrown q2.out
    have t0 := cell_regrown t0.out
    have t1 := cell_regrown t1.out
    have t2 := cell_regrown t2.out
    have t3 := cell_regrown t3.out
    have t4 := cell_regrown t4.out
    have cP : ∀ dd os, Calls Tryz.prog 23 #[.agg #[.string t.kd, .string t.nm, .string t.tg, .int .i64 t.sz, .slice ka t.kids.length kc], .int .i64 1] (grow (redrawn W2 dd) os)
        fun e w'' => e = .returned (.bool true) ∧ ∃ p : Regrown, w'' = grow (redrawn W2 p.d) p.os := fun dd os => by
      rw [← HPL.out]
      exact Calls.regrown_of (plain_any t ka kc 1 _)
    have cPH := Lib.hid cP; clear cP
    obtain ⟨bu, offu, au, cu, hbu, g0, g1, g2, g3, g4, hfu, hku⟩ := HK.out.at (kid_at (t := t) (i := 0) (by omega))
    subst hbu
    have HKu := Lib.hid hku
    have HFu := Lib.hid hfu
    simp only [Nat.zero_mul, Nat.add_zero] at g0 g1 g2 g3 g4
    have u0 := cell_regrown g0
    have u1 := cell_regrown g1
    have u2 := cell_regrown g2
    have u3 := cell_regrown g3
    have u4 := cell_regrown g4
    clear g0 g1 g2 g3 g4 hfu hku
    have cT : ∀ dd os, Calls Tryz.prog 13 #[.agg #[.slice pa np pc, .slice da W.decls.length dc, .int .i64 most], .agg #[.string (t.kid 0).kd, .string (t.kid 0).nm, .string (t.kid 0).tg, .int .i64 (t.kid 0).sz, .slice au (t.kid 0).kids.length cu], .int .i64 d, .bool below] (grow (redrawn W2 dd) os)
        fun e w'' => e = .returned (.bool (isTypeB W most d (t.kid 0) below)) ∧ ∃ p : Regrown, w'' = grow (redrawn W2 p.d) p.os := fun dd os =>
      Calls.regrown_of (HR.out (t.kid 0) au cu below _ (HD.out.keep (below_regrown _ _ _)) (HKu.out.keep (below_regrown _ _ _)) HFu.out)
    have cTH := Lib.hid cT; clear cT
    refine wp_region_quiet_below (by kernel_rfl) (by kernel_rfl) ?_
    repeat (any_goals (first | go_big_quiet_step ((first | with_reducible exact cPH.out _ _ | with_reducible exact cTH.out _ _)) | quiet_step ((first | with_reducible exact cPH.out _ _ | with_reducible exact cTH.out _ _)) | (refine wpQuiet_step (fun K hK => ?_); go_simp; split <;> (refine hK _ ?_; clear hK K))))
    all_goals
      refine wpQuiet_nil ?_
      intro _ hw'
      obtain ⟨⟨dq, osq⟩, hw''⟩ := hw'
      subst hw''
      have B4 := below_regrown W2 dq osq
      generalize grow (redrawn W2 dq) osq = W4 at *
    all_goals
      go_wp2_with fail
      go_ret
      go_light
      exact ⟨ret_bool HT.out, HB.out.trans (B4.mono HB.out.size)⟩

set_option maxRecDepth 100000 in
set_option maxHeartbeats 8000000 in
theorem type_chan (W : WorldD) (pa da : Option Addr) (pc dc np : Nat) (most : Int) (d : Nat) (hrec : TypeCalls W pa da pc dc np most d) (hd9 : d < 99)
    (t : Ty) (ka : Option Addr) (kc : Nat) (below : Bool) (w : World) (hd : DeclsV w da dc W.decls) (hk : KidsV w ka kc t.kids) (hkd : t.kd.toList = [99, 104, 97, 110]) :
    Calls Tryz.prog 13 #[.agg #[.slice pa np pc, .slice da W.decls.length dc, .int .i64 most], .agg #[.string t.kd, .string t.nm, .string t.tg, .int .i64 t.sz, .slice ka t.kids.length kc], .int .i64 ((d : Int) + 1), .bool below] w (Gives (.bool (isTypeB W most (d + 1) t below)) w) := by
  have hl1 := hk.len.1
  have hl2 := hk.len.2
  have HT : Hid (isTypeB W most (d + 1) t below = (plainB t 1 && isTypeB W most d (t.kid 0) below)) := by show _ = _; simp [isTypeB, hkd]
  have HR := Lib.hid hrec; clear hrec
  cases hpl : plainB t 1
  · have HT : Hid (false = isTypeB W most (d + 1) t below) := by show _ = _; rw [HT.out, hpl]; rfl
    have HPL := Lib.hid hpl; clear hpl
    have hb : Below w.heap.size w ((w.alloc (.cells #[.slice pa np pc, .slice da W.decls.length dc, .int .i64 most] 44)).alloc (.cells #[.string t.kd, .string t.nm, .string t.tg, .int .i64 t.sz, .slice ka t.kids.length kc] 28)) := by go_grown
    have HD := Lib.hid (hd.keep hb)
    have HK := Lib.hid (hk.keep hb)
    have HB := Lib.hid hb
    have q0 : ((w.alloc (.cells #[.slice pa np pc, .slice da W.decls.length dc, .int .i64 most] 44)).alloc (.cells #[.string t.kd, .string t.nm, .string t.tg, .int .i64 t.sz, .slice ka t.kids.length kc] 28)).cell? ⟨w.heap.size, 0, none⟩ = some (.slice pa np pc) := by simp
    have q1 : ((w.alloc (.cells #[.slice pa np pc, .slice da W.decls.length dc, .int .i64 most] 44)).alloc (.cells #[.string t.kd, .string t.nm, .string t.tg, .int .i64 t.sz, .slice ka t.kids.length kc] 28)).cell? ⟨w.heap.size, 1, none⟩ = some (.slice da W.decls.length dc) := by simp
    have q2 : ((w.alloc (.cells #[.slice pa np pc, .slice da W.decls.length dc, .int .i64 most] 44)).alloc (.cells #[.string t.kd, .string t.nm, .string t.tg, .int .i64 t.sz, .slice ka t.kids.length kc] 28)).cell? ⟨w.heap.size, 2, none⟩ = some (.int .i64 most) := by simp
    have t0 : ((w.alloc (.cells #[.slice pa np pc, .slice da W.decls.length dc, .int .i64 most] 44)).alloc (.cells #[.string t.kd, .string t.nm, .string t.tg, .int .i64 t.sz, .slice ka t.kids.length kc] 28)).cell? ⟨w.heap.size + 1, 0, none⟩ = some (.string t.kd) := by simp
    have t1 : ((w.alloc (.cells #[.slice pa np pc, .slice da W.decls.length dc, .int .i64 most] 44)).alloc (.cells #[.string t.kd, .string t.nm, .string t.tg, .int .i64 t.sz, .slice ka t.kids.length kc] 28)).cell? ⟨w.heap.size + 1, 1, none⟩ = some (.string t.nm) := by simp
    have t2 : ((w.alloc (.cells #[.slice pa np pc, .slice da W.decls.length dc, .int .i64 most] 44)).alloc (.cells #[.string t.kd, .string t.nm, .string t.tg, .int .i64 t.sz, .slice ka t.kids.length kc] 28)).cell? ⟨w.heap.size + 1, 2, none⟩ = some (.string t.tg) := by simp
    have t3 : ((w.alloc (.cells #[.slice pa np pc, .slice da W.decls.length dc, .int .i64 most] 44)).alloc (.cells #[.string t.kd, .string t.nm, .string t.tg, .int .i64 t.sz, .slice ka t.kids.length kc] 28)).cell? ⟨w.heap.size + 1, 3, none⟩ = some (.int .i64 t.sz) := by simp
    have t4 : ((w.alloc (.cells #[.slice pa np pc, .slice da W.decls.length dc, .int .i64 most] 44)).alloc (.cells #[.string t.kd, .string t.nm, .string t.tg, .int .i64 t.sz, .slice ka t.kids.length kc] 28)).cell? ⟨w.heap.size + 1, 4, none⟩ = some (.slice ka t.kids.length kc) := by simp
    have q0 := Lib.hid q0
    have q1 := Lib.hid q1
    have q2 := Lib.hid q2
    have t0 := Lib.hid t0
    have t1 := Lib.hid t1
    have t2 := Lib.hid t2
    have t3 := Lib.hid t3
    have t4 := Lib.hid t4
    clear hb hd hk
    go_enter Tryz.func13, Tryz.ntmps13
    go_wp2_with fail
    generalize hW2 : ((w.alloc (.cells #[.slice pa np pc, .slice da W.decls.length dc, .int .i64 most] 44)).alloc (.cells #[.string t.kd, .string t.nm, .string t.tg, .int .i64 t.sz, .slice ka t.kids.length kc] 28)) = W2 at *
    clear hW2
    have q0 := cell_regrown q0.out
    have q1 := cell_regrown q1.out
    have q2 := cell_regrown q2.out
    have t0 := cell_regrown t0.out
    have t1 := cell_regrown t1.out
    have t2 := cell_regrown t2.out
    have t3 := cell_regrown t3.out
    have t4 := cell_regrown t4.out
    have cP : ∀ dd os, Calls Tryz.prog 23 #[.agg #[.string t.kd, .string t.nm, .string t.tg, .int .i64 t.sz, .slice ka t.kids.length kc], .int .i64 1] (grow (redrawn W2 dd) os)
        fun e w'' => e = .returned (.bool false) ∧ ∃ p : Regrown, w'' = grow (redrawn W2 p.d) p.os := fun dd os => by
      rw [← HPL.out]
      exact Calls.regrown_of (plain_any t ka kc 1 _)
    have cPH := Lib.hid cP; clear cP
    refine wp_region_quiet_below (by kernel_rfl) (by kernel_rfl) ?_
    repeat (any_goals (first | go_big_quiet_step ((with_reducible exact cPH.out _ _)) | quiet_step ((with_reducible exact cPH.out _ _)) | (refine wpQuiet_step (fun K hK => ?_); go_simp; split <;> (refine hK _ ?_; clear hK K))))
    all_goals
      refine wpQuiet_nil ?_
      intro _ hw'
      obtain ⟨⟨dq, osq⟩, hw''⟩ := hw'
      subst hw''
      have B4 := below_regrown W2 dq osq
      generalize grow (redrawn W2 dq) osq = W4 at *
    all_goals
      go_wp2_with fail
      go_ret
      go_light
      exact ⟨ret_bool HT.out, HB.out.trans (B4.mono HB.out.size)⟩
  · have hone : t.kids.length = 1 := by simp only [plainB, Bool.and_eq_true, beq_iff_eq] at hpl; exact hpl.2
    have HT : Hid (isTypeB W most d (t.kid 0) below = isTypeB W most (d + 1) t below) := by show _ = _; rw [HT.out, hpl]; rfl
    have HPL := Lib.hid hpl; clear hpl
    have HONE := Lib.hid hone
    have hone' : 1 ≤ t.kids.length := by omega
    clear hone
    have hb : Below w.heap.size w ((w.alloc (.cells #[.slice pa np pc, .slice da W.decls.length dc, .int .i64 most] 44)).alloc (.cells #[.string t.kd, .string t.nm, .string t.tg, .int .i64 t.sz, .slice ka t.kids.length kc] 28)) := by go_grown
    have HD := Lib.hid (hd.keep hb)
    have HK := Lib.hid (hk.keep hb)
    have HB := Lib.hid hb
    have q0 : ((w.alloc (.cells #[.slice pa np pc, .slice da W.decls.length dc, .int .i64 most] 44)).alloc (.cells #[.string t.kd, .string t.nm, .string t.tg, .int .i64 t.sz, .slice ka t.kids.length kc] 28)).cell? ⟨w.heap.size, 0, none⟩ = some (.slice pa np pc) := by simp
    have q1 : ((w.alloc (.cells #[.slice pa np pc, .slice da W.decls.length dc, .int .i64 most] 44)).alloc (.cells #[.string t.kd, .string t.nm, .string t.tg, .int .i64 t.sz, .slice ka t.kids.length kc] 28)).cell? ⟨w.heap.size, 1, none⟩ = some (.slice da W.decls.length dc) := by simp
    have q2 : ((w.alloc (.cells #[.slice pa np pc, .slice da W.decls.length dc, .int .i64 most] 44)).alloc (.cells #[.string t.kd, .string t.nm, .string t.tg, .int .i64 t.sz, .slice ka t.kids.length kc] 28)).cell? ⟨w.heap.size, 2, none⟩ = some (.int .i64 most) := by simp
    have t0 : ((w.alloc (.cells #[.slice pa np pc, .slice da W.decls.length dc, .int .i64 most] 44)).alloc (.cells #[.string t.kd, .string t.nm, .string t.tg, .int .i64 t.sz, .slice ka t.kids.length kc] 28)).cell? ⟨w.heap.size + 1, 0, none⟩ = some (.string t.kd) := by simp
    have t1 : ((w.alloc (.cells #[.slice pa np pc, .slice da W.decls.length dc, .int .i64 most] 44)).alloc (.cells #[.string t.kd, .string t.nm, .string t.tg, .int .i64 t.sz, .slice ka t.kids.length kc] 28)).cell? ⟨w.heap.size + 1, 1, none⟩ = some (.string t.nm) := by simp
    have t2 : ((w.alloc (.cells #[.slice pa np pc, .slice da W.decls.length dc, .int .i64 most] 44)).alloc (.cells #[.string t.kd, .string t.nm, .string t.tg, .int .i64 t.sz, .slice ka t.kids.length kc] 28)).cell? ⟨w.heap.size + 1, 2, none⟩ = some (.string t.tg) := by simp
    have t3 : ((w.alloc (.cells #[.slice pa np pc, .slice da W.decls.length dc, .int .i64 most] 44)).alloc (.cells #[.string t.kd, .string t.nm, .string t.tg, .int .i64 t.sz, .slice ka t.kids.length kc] 28)).cell? ⟨w.heap.size + 1, 3, none⟩ = some (.int .i64 t.sz) := by simp
    have t4 : ((w.alloc (.cells #[.slice pa np pc, .slice da W.decls.length dc, .int .i64 most] 44)).alloc (.cells #[.string t.kd, .string t.nm, .string t.tg, .int .i64 t.sz, .slice ka t.kids.length kc] 28)).cell? ⟨w.heap.size + 1, 4, none⟩ = some (.slice ka t.kids.length kc) := by simp
    have q0 := Lib.hid q0
    have q1 := Lib.hid q1
    have q2 := Lib.hid q2
    have t0 := Lib.hid t0
    have t1 := Lib.hid t1
    have t2 := Lib.hid t2
    have t3 := Lib.hid t3
    have t4 := Lib.hid t4
    clear hb hd hk
    go_enter Tryz.func13, Tryz.ntmps13
    go_wp2_with fail
    generalize hW2 : ((w.alloc (.cells #[.slice pa np pc, .slice da W.decls.length dc, .int .i64 most] 44)).alloc (.cells #[.string t.kd, .string t.nm, .string t.tg, .int .i64 t.sz, .slice ka t.kids.length kc] 28)) = W2 at *
    clear hW2
    have q0 := cell_regrown q0.out
    have q1 := cell_regrown q1.out
    have q2 := cell_regrown q2.out
    have t0 := cell_regrown t0.out
    have t1 := cell_regrown t1.out
    have t2 := cell_regrown t2.out
    have t3 := cell_regrown t3.out
    have t4 := cell_regrown t4.out
    have cP : ∀ dd os, Calls Tryz.prog 23 #[.agg #[.string t.kd, .string t.nm, .string t.tg, .int .i64 t.sz, .slice ka t.kids.length kc], .int .i64 1] (grow (redrawn W2 dd) os)
        fun e w'' => e = .returned (.bool true) ∧ ∃ p : Regrown, w'' = grow (redrawn W2 p.d) p.os := fun dd os => by
      rw [← HPL.out]
      exact Calls.regrown_of (plain_any t ka kc 1 _)
    have cPH := Lib.hid cP; clear cP
    obtain ⟨bu, offu, au, cu, hbu, g0, g1, g2, g3, g4, hfu, hku⟩ := HK.out.at (kid_at (t := t) (i := 0) (by omega))
    subst hbu
    have HKu := Lib.hid hku
    have HFu := Lib.hid hfu
    simp only [Nat.zero_mul, Nat.add_zero] at g0 g1 g2 g3 g4
    have u0 := cell_regrown g0
    have u1 := cell_regrown g1
    have u2 := cell_regrown g2
    have u3 := cell_regrown g3
    have u4 := cell_regrown g4
    clear g0 g1 g2 g3 g4 hfu hku
    have cT : ∀ dd os, Calls Tryz.prog 13 #[.agg #[.slice pa np pc, .slice da W.decls.length dc, .int .i64 most], .agg #[.string (t.kid 0).kd, .string (t.kid 0).nm, .string (t.kid 0).tg, .int .i64 (t.kid 0).sz, .slice au (t.kid 0).kids.length cu], .int .i64 d, .bool below] (grow (redrawn W2 dd) os)
        fun e w'' => e = .returned (.bool (isTypeB W most d (t.kid 0) below)) ∧ ∃ p : Regrown, w'' = grow (redrawn W2 p.d) p.os := fun dd os =>
      Calls.regrown_of (HR.out (t.kid 0) au cu below _ (HD.out.keep (below_regrown _ _ _)) (HKu.out.keep (below_regrown _ _ _)) HFu.out)
    have cTH := Lib.hid cT; clear cT
    refine wp_region_quiet_below (by kernel_rfl) (by kernel_rfl) ?_
    repeat (any_goals (first | go_big_quiet_step ((first | with_reducible exact cPH.out _ _ | with_reducible exact cTH.out _ _)) | quiet_step ((first | with_reducible exact cPH.out _ _ | with_reducible exact cTH.out _ _)) | (refine wpQuiet_step (fun K hK => ?_); go_simp; split <;> (refine hK _ ?_; clear hK K))))
    all_goals
      refine wpQuiet_nil ?_
      intro _ hw'
      obtain ⟨⟨dq, osq⟩, hw''⟩ := hw'
      subst hw''
      have B4 := below_regrown W2 dq osq
      generalize grow (redrawn W2 dq) osq = W4 at *
    all_goals
      go_wp2_with fail
      go_ret
      go_light
      exact ⟨ret_bool HT.out, HB.out.trans (B4.mono HB.out.size)⟩

set_option maxRecDepth 100000 in
set_option maxHeartbeats 8000000 in
theorem type_send (W : WorldD) (pa da : Option Addr) (pc dc np : Nat) (most : Int) (d : Nat) (hrec : TypeCalls W pa da pc dc np most d) (hd9 : d < 99)
    (t : Ty) (ka : Option Addr) (kc : Nat) (below : Bool) (w : World) (hd : DeclsV w da dc W.decls) (hk : KidsV w ka kc t.kids) (hkd : t.kd.toList = [115, 101, 110, 100]) :
    Calls Tryz.prog 13 #[.agg #[.slice pa np pc, .slice da W.decls.length dc, .int .i64 most], .agg #[.string t.kd, .string t.nm, .string t.tg, .int .i64 t.sz, .slice ka t.kids.length kc], .int .i64 ((d : Int) + 1), .bool below] w (Gives (.bool (isTypeB W most (d + 1) t below)) w) := by
  have hl1 := hk.len.1
  have hl2 := hk.len.2
  have HT : Hid (isTypeB W most (d + 1) t below = (plainB t 1 && isTypeB W most d (t.kid 0) below)) := by show _ = _; simp [isTypeB, hkd]
  have HR := Lib.hid hrec; clear hrec
  cases hpl : plainB t 1
  · have HT : Hid (false = isTypeB W most (d + 1) t below) := by show _ = _; rw [HT.out, hpl]; rfl
    have HPL := Lib.hid hpl; clear hpl
    have hb : Below w.heap.size w ((w.alloc (.cells #[.slice pa np pc, .slice da W.decls.length dc, .int .i64 most] 44)).alloc (.cells #[.string t.kd, .string t.nm, .string t.tg, .int .i64 t.sz, .slice ka t.kids.length kc] 28)) := by go_grown
    have HD := Lib.hid (hd.keep hb)
    have HK := Lib.hid (hk.keep hb)
    have HB := Lib.hid hb
    have q0 : ((w.alloc (.cells #[.slice pa np pc, .slice da W.decls.length dc, .int .i64 most] 44)).alloc (.cells #[.string t.kd, .string t.nm, .string t.tg, .int .i64 t.sz, .slice ka t.kids.length kc] 28)).cell? ⟨w.heap.size, 0, none⟩ = some (.slice pa np pc) := by simp
    have q1 : ((w.alloc (.cells #[.slice pa np pc, .slice da W.decls.length dc, .int .i64 most] 44)).alloc (.cells #[.string t.kd, .string t.nm, .string t.tg, .int .i64 t.sz, .slice ka t.kids.length kc] 28)).cell? ⟨w.heap.size, 1, none⟩ = some (.slice da W.decls.length dc) := by simp
    have q2 : ((w.alloc (.cells #[.slice pa np pc, .slice da W.decls.length dc, .int .i64 most] 44)).alloc (.cells #[.string t.kd, .string t.nm, .string t.tg, .int .i64 t.sz, .slice ka t.kids.length kc] 28)).cell? ⟨w.heap.size, 2, none⟩ = some (.int .i64 most) := by simp
    have t0 : ((w.alloc (.cells #[.slice pa np pc, .slice da W.decls.length dc, .int .i64 most] 44)).alloc (.cells #[.string t.kd, .string t.nm, .string t.tg, .int .i64 t.sz, .slice ka t.kids.length kc] 28)).cell? ⟨w.heap.size + 1, 0, none⟩ = some (.string t.kd) := by simp
    have t1 : ((w.alloc (.cells #[.slice pa np pc, .slice da W.decls.length dc, .int .i64 most] 44)).alloc (.cells #[.string t.kd, .string t.nm, .string t.tg, .int .i64 t.sz, .slice ka t.kids.length kc] 28)).cell? ⟨w.heap.size + 1, 1, none⟩ = some (.string t.nm) := by simp
    have t2 : ((w.alloc (.cells #[.slice pa np pc, .slice da W.decls.length dc, .int .i64 most] 44)).alloc (.cells #[.string t.kd, .string t.nm, .string t.tg, .int .i64 t.sz, .slice ka t.kids.length kc] 28)).cell? ⟨w.heap.size + 1, 2, none⟩ = some (.string t.tg) := by simp
    have t3 : ((w.alloc (.cells #[.slice pa np pc, .slice da W.decls.length dc, .int .i64 most] 44)).alloc (.cells #[.string t.kd, .string t.nm, .string t.tg, .int .i64 t.sz, .slice ka t.kids.length kc] 28)).cell? ⟨w.heap.size + 1, 3, none⟩ = some (.int .i64 t.sz) := by simp
    have t4 : ((w.alloc (.cells #[.slice pa np pc, .slice da W.decls.length dc, .int .i64 most] 44)).alloc (.cells #[.string t.kd, .string t.nm, .string t.tg, .int .i64 t.sz, .slice ka t.kids.length kc] 28)).cell? ⟨w.heap.size + 1, 4, none⟩ = some (.slice ka t.kids.length kc) := by simp
    have q0 := Lib.hid q0
    have q1 := Lib.hid q1
    have q2 := Lib.hid q2
    have t0 := Lib.hid t0
    have t1 := Lib.hid t1
    have t2 := Lib.hid t2
    have t3 := Lib.hid t3
    have t4 := Lib.hid t4
    clear hb hd hk
    go_enter Tryz.func13, Tryz.ntmps13
    go_wp2_with fail
    generalize hW2 : ((w.alloc (.cells #[.slice pa np pc, .slice da W.decls.length dc, .int .i64 most] 44)).alloc (.cells #[.string t.kd, .string t.nm, .string t.tg, .int .i64 t.sz, .slice ka t.kids.length kc] 28)) = W2 at *
    clear hW2
    have q0 := cell_regrown q0.out
    have q1 := cell_regrown q1.out
    have q2 := cell_regrown q2.out
    have t0 := cell_regrown t0.out
    have t1 := cell_regrown t1.out
    have t2 := cell_regrown t2.out
    have t3 := cell_regrown t3.out
    have t4 := cell_regrown t4.out
    have cP : ∀ dd os, Calls Tryz.prog 23 #[.agg #[.string t.kd, .string t.nm, .string t.tg, .int .i64 t.sz, .slice ka t.kids.length kc], .int .i64 1] (grow (redrawn W2 dd) os)
        fun e w'' => e = .returned (.bool false) ∧ ∃ p : Regrown, w'' = grow (redrawn W2 p.d) p.os := fun dd os => by
      rw [← HPL.out]
      exact Calls.regrown_of (plain_any t ka kc 1 _)
    have cPH := Lib.hid cP; clear cP
    refine wp_region_quiet_below (by kernel_rfl) (by kernel_rfl) ?_
    repeat (any_goals (first | go_big_quiet_step ((with_reducible exact cPH.out _ _)) | quiet_step ((with_reducible exact cPH.out _ _)) | (refine wpQuiet_step (fun K hK => ?_); go_simp; split <;> (refine hK _ ?_; clear hK K))))
    all_goals
      refine wpQuiet_nil ?_
      intro _ hw'
      obtain ⟨⟨dq, osq⟩, hw''⟩ := hw'
      subst hw''
      have B4 := below_regrown W2 dq osq
      generalize grow (redrawn W2 dq) osq = W4 at *
    all_goals
      go_wp2_with fail
      go_ret
      go_light
      exact ⟨ret_bool HT.out, HB.out.trans (B4.mono HB.out.size)⟩
  · have hone : t.kids.length = 1 := by simp only [plainB, Bool.and_eq_true, beq_iff_eq] at hpl; exact hpl.2
    have HT : Hid (isTypeB W most d (t.kid 0) below = isTypeB W most (d + 1) t below) := by show _ = _; rw [HT.out, hpl]; rfl
    have HPL := Lib.hid hpl; clear hpl
    have HONE := Lib.hid hone
    have hone' : 1 ≤ t.kids.length := by omega
    clear hone
    have hb : Below w.heap.size w ((w.alloc (.cells #[.slice pa np pc, .slice da W.decls.length dc, .int .i64 most] 44)).alloc (.cells #[.string t.kd, .string t.nm, .string t.tg, .int .i64 t.sz, .slice ka t.kids.length kc] 28)) := by go_grown
    have HD := Lib.hid (hd.keep hb)
    have HK := Lib.hid (hk.keep hb)
    have HB := Lib.hid hb
    have q0 : ((w.alloc (.cells #[.slice pa np pc, .slice da W.decls.length dc, .int .i64 most] 44)).alloc (.cells #[.string t.kd, .string t.nm, .string t.tg, .int .i64 t.sz, .slice ka t.kids.length kc] 28)).cell? ⟨w.heap.size, 0, none⟩ = some (.slice pa np pc) := by simp
    have q1 : ((w.alloc (.cells #[.slice pa np pc, .slice da W.decls.length dc, .int .i64 most] 44)).alloc (.cells #[.string t.kd, .string t.nm, .string t.tg, .int .i64 t.sz, .slice ka t.kids.length kc] 28)).cell? ⟨w.heap.size, 1, none⟩ = some (.slice da W.decls.length dc) := by simp
    have q2 : ((w.alloc (.cells #[.slice pa np pc, .slice da W.decls.length dc, .int .i64 most] 44)).alloc (.cells #[.string t.kd, .string t.nm, .string t.tg, .int .i64 t.sz, .slice ka t.kids.length kc] 28)).cell? ⟨w.heap.size, 2, none⟩ = some (.int .i64 most) := by simp
    have t0 : ((w.alloc (.cells #[.slice pa np pc, .slice da W.decls.length dc, .int .i64 most] 44)).alloc (.cells #[.string t.kd, .string t.nm, .string t.tg, .int .i64 t.sz, .slice ka t.kids.length kc] 28)).cell? ⟨w.heap.size + 1, 0, none⟩ = some (.string t.kd) := by simp
    have t1 : ((w.alloc (.cells #[.slice pa np pc, .slice da W.decls.length dc, .int .i64 most] 44)).alloc (.cells #[.string t.kd, .string t.nm, .string t.tg, .int .i64 t.sz, .slice ka t.kids.length kc] 28)).cell? ⟨w.heap.size + 1, 1, none⟩ = some (.string t.nm) := by simp
    have t2 : ((w.alloc (.cells #[.slice pa np pc, .slice da W.decls.length dc, .int .i64 most] 44)).alloc (.cells #[.string t.kd, .string t.nm, .string t.tg, .int .i64 t.sz, .slice ka t.kids.length kc] 28)).cell? ⟨w.heap.size + 1, 2, none⟩ = some (.string t.tg) := by simp
    have t3 : ((w.alloc (.cells #[.slice pa np pc, .slice da W.decls.length dc, .int .i64 most] 44)).alloc (.cells #[.string t.kd, .string t.nm, .string t.tg, .int .i64 t.sz, .slice ka t.kids.length kc] 28)).cell? ⟨w.heap.size + 1, 3, none⟩ = some (.int .i64 t.sz) := by simp
    have t4 : ((w.alloc (.cells #[.slice pa np pc, .slice da W.decls.length dc, .int .i64 most] 44)).alloc (.cells #[.string t.kd, .string t.nm, .string t.tg, .int .i64 t.sz, .slice ka t.kids.length kc] 28)).cell? ⟨w.heap.size + 1, 4, none⟩ = some (.slice ka t.kids.length kc) := by simp
    have q0 := Lib.hid q0
    have q1 := Lib.hid q1
    have q2 := Lib.hid q2
    have t0 := Lib.hid t0
    have t1 := Lib.hid t1
    have t2 := Lib.hid t2
    have t3 := Lib.hid t3
    have t4 := Lib.hid t4
    clear hb hd hk
    go_enter Tryz.func13, Tryz.ntmps13
    go_wp2_with fail
    generalize hW2 : ((w.alloc (.cells #[.slice pa np pc, .slice da W.decls.length dc, .int .i64 most] 44)).alloc (.cells #[.string t.kd, .string t.nm, .string t.tg, .int .i64 t.sz, .slice ka t.kids.length kc] 28)) = W2 at *
    clear hW2
    have q0 := cell_regrown q0.out
    have q1 := cell_regrown q1.out
    have q2 := cell_regrown q2.out
    have t0 := cell_regrown t0.out
    have t1 := cell_regrown t1.out
    have t2 := cell_regrown t2.out
    have t3 := cell_regrown t3.out
    have t4 := cell_regrown t4.out
    have cP : ∀ dd os, Calls Tryz.prog 23 #[.agg #[.string t.kd, .string t.nm, .string t.tg, .int .i64 t.sz, .slice ka t.kids.length kc], .int .i64 1] (grow (redrawn W2 dd) os)
        fun e w'' => e = .returned (.bool true) ∧ ∃ p : Regrown, w'' = grow (redrawn W2 p.d) p.os := fun dd os => by
      rw [← HPL.out]
      exact Calls.regrown_of (plain_any t ka kc 1 _)
    have cPH := Lib.hid cP; clear cP
    obtain ⟨bu, offu, au, cu, hbu, g0, g1, g2, g3, g4, hfu, hku⟩ := HK.out.at (kid_at (t := t) (i := 0) (by omega))
    subst hbu
    have HKu := Lib.hid hku
    have HFu := Lib.hid hfu
    simp only [Nat.zero_mul, Nat.add_zero] at g0 g1 g2 g3 g4
    have u0 := cell_regrown g0
    have u1 := cell_regrown g1
    have u2 := cell_regrown g2
    have u3 := cell_regrown g3
    have u4 := cell_regrown g4
    clear g0 g1 g2 g3 g4 hfu hku
    have cT : ∀ dd os, Calls Tryz.prog 13 #[.agg #[.slice pa np pc, .slice da W.decls.length dc, .int .i64 most], .agg #[.string (t.kid 0).kd, .string (t.kid 0).nm, .string (t.kid 0).tg, .int .i64 (t.kid 0).sz, .slice au (t.kid 0).kids.length cu], .int .i64 d, .bool below] (grow (redrawn W2 dd) os)
        fun e w'' => e = .returned (.bool (isTypeB W most d (t.kid 0) below)) ∧ ∃ p : Regrown, w'' = grow (redrawn W2 p.d) p.os := fun dd os =>
      Calls.regrown_of (HR.out (t.kid 0) au cu below _ (HD.out.keep (below_regrown _ _ _)) (HKu.out.keep (below_regrown _ _ _)) HFu.out)
    have cTH := Lib.hid cT; clear cT
    refine wp_region_quiet_below (by kernel_rfl) (by kernel_rfl) ?_
    repeat (any_goals (first | go_big_quiet_step ((first | with_reducible exact cPH.out _ _ | with_reducible exact cTH.out _ _)) | quiet_step ((first | with_reducible exact cPH.out _ _ | with_reducible exact cTH.out _ _)) | (refine wpQuiet_step (fun K hK => ?_); go_simp; split <;> (refine hK _ ?_; clear hK K))))
    all_goals
      refine wpQuiet_nil ?_
      intro _ hw'
      obtain ⟨⟨dq, osq⟩, hw''⟩ := hw'
      subst hw''
      have B4 := below_regrown W2 dq osq
      generalize grow (redrawn W2 dq) osq = W4 at *
    all_goals
      go_wp2_with fail
      go_ret
      go_light
      exact ⟨ret_bool HT.out, HB.out.trans (B4.mono HB.out.size)⟩

set_option maxRecDepth 100000 in
set_option maxHeartbeats 8000000 in
theorem type_recv (W : WorldD) (pa da : Option Addr) (pc dc np : Nat) (most : Int) (d : Nat) (hrec : TypeCalls W pa da pc dc np most d) (hd9 : d < 99)
    (t : Ty) (ka : Option Addr) (kc : Nat) (below : Bool) (w : World) (hd : DeclsV w da dc W.decls) (hk : KidsV w ka kc t.kids) (hkd : t.kd.toList = [114, 101, 99, 118]) :
    Calls Tryz.prog 13 #[.agg #[.slice pa np pc, .slice da W.decls.length dc, .int .i64 most], .agg #[.string t.kd, .string t.nm, .string t.tg, .int .i64 t.sz, .slice ka t.kids.length kc], .int .i64 ((d : Int) + 1), .bool below] w (Gives (.bool (isTypeB W most (d + 1) t below)) w) := by
  have hl1 := hk.len.1
  have hl2 := hk.len.2
  have HT : Hid (isTypeB W most (d + 1) t below = (plainB t 1 && isTypeB W most d (t.kid 0) below)) := by show _ = _; simp [isTypeB, hkd]
  have HR := Lib.hid hrec; clear hrec
  cases hpl : plainB t 1
  · have HT : Hid (false = isTypeB W most (d + 1) t below) := by show _ = _; rw [HT.out, hpl]; rfl
    have HPL := Lib.hid hpl; clear hpl
    have hb : Below w.heap.size w ((w.alloc (.cells #[.slice pa np pc, .slice da W.decls.length dc, .int .i64 most] 44)).alloc (.cells #[.string t.kd, .string t.nm, .string t.tg, .int .i64 t.sz, .slice ka t.kids.length kc] 28)) := by go_grown
    have HD := Lib.hid (hd.keep hb)
    have HK := Lib.hid (hk.keep hb)
    have HB := Lib.hid hb
    have q0 : ((w.alloc (.cells #[.slice pa np pc, .slice da W.decls.length dc, .int .i64 most] 44)).alloc (.cells #[.string t.kd, .string t.nm, .string t.tg, .int .i64 t.sz, .slice ka t.kids.length kc] 28)).cell? ⟨w.heap.size, 0, none⟩ = some (.slice pa np pc) := by simp
    have q1 : ((w.alloc (.cells #[.slice pa np pc, .slice da W.decls.length dc, .int .i64 most] 44)).alloc (.cells #[.string t.kd, .string t.nm, .string t.tg, .int .i64 t.sz, .slice ka t.kids.length kc] 28)).cell? ⟨w.heap.size, 1, none⟩ = some (.slice da W.decls.length dc) := by simp
    have q2 : ((w.alloc (.cells #[.slice pa np pc, .slice da W.decls.length dc, .int .i64 most] 44)).alloc (.cells #[.string t.kd, .string t.nm, .string t.tg, .int .i64 t.sz, .slice ka t.kids.length kc] 28)).cell? ⟨w.heap.size, 2, none⟩ = some (.int .i64 most) := by simp
    have t0 : ((w.alloc (.cells #[.slice pa np pc, .slice da W.decls.length dc, .int .i64 most] 44)).alloc (.cells #[.string t.kd, .string t.nm, .string t.tg, .int .i64 t.sz, .slice ka t.kids.length kc] 28)).cell? ⟨w.heap.size + 1, 0, none⟩ = some (.string t.kd) := by simp
    have t1 : ((w.alloc (.cells #[.slice pa np pc, .slice da W.decls.length dc, .int .i64 most] 44)).alloc (.cells #[.string t.kd, .string t.nm, .string t.tg, .int .i64 t.sz, .slice ka t.kids.length kc] 28)).cell? ⟨w.heap.size + 1, 1, none⟩ = some (.string t.nm) := by simp
    have t2 : ((w.alloc (.cells #[.slice pa np pc, .slice da W.decls.length dc, .int .i64 most] 44)).alloc (.cells #[.string t.kd, .string t.nm, .string t.tg, .int .i64 t.sz, .slice ka t.kids.length kc] 28)).cell? ⟨w.heap.size + 1, 2, none⟩ = some (.string t.tg) := by simp
    have t3 : ((w.alloc (.cells #[.slice pa np pc, .slice da W.decls.length dc, .int .i64 most] 44)).alloc (.cells #[.string t.kd, .string t.nm, .string t.tg, .int .i64 t.sz, .slice ka t.kids.length kc] 28)).cell? ⟨w.heap.size + 1, 3, none⟩ = some (.int .i64 t.sz) := by simp
    have t4 : ((w.alloc (.cells #[.slice pa np pc, .slice da W.decls.length dc, .int .i64 most] 44)).alloc (.cells #[.string t.kd, .string t.nm, .string t.tg, .int .i64 t.sz, .slice ka t.kids.length kc] 28)).cell? ⟨w.heap.size + 1, 4, none⟩ = some (.slice ka t.kids.length kc) := by simp
    have q0 := Lib.hid q0
    have q1 := Lib.hid q1
    have q2 := Lib.hid q2
    have t0 := Lib.hid t0
    have t1 := Lib.hid t1
    have t2 := Lib.hid t2
    have t3 := Lib.hid t3
    have t4 := Lib.hid t4
    clear hb hd hk
    go_enter Tryz.func13, Tryz.ntmps13
    go_wp2_with fail
    generalize hW2 : ((w.alloc (.cells #[.slice pa np pc, .slice da W.decls.length dc, .int .i64 most] 44)).alloc (.cells #[.string t.kd, .string t.nm, .string t.tg, .int .i64 t.sz, .slice ka t.kids.length kc] 28)) = W2 at *
    clear hW2
    have q0 := cell_regrown q0.out
    have q1 := cell_regrown q1.out
    have q2 := cell_regrown q2.out
    have t0 := cell_regrown t0.out
    have t1 := cell_regrown t1.out
    have t2 := cell_regrown t2.out
    have t3 := cell_regrown t3.out
    have t4 := cell_regrown t4.out
    have cP : ∀ dd os, Calls Tryz.prog 23 #[.agg #[.string t.kd, .string t.nm, .string t.tg, .int .i64 t.sz, .slice ka t.kids.length kc], .int .i64 1] (grow (redrawn W2 dd) os)
        fun e w'' => e = .returned (.bool false) ∧ ∃ p : Regrown, w'' = grow (redrawn W2 p.d) p.os := fun dd os => by
      rw [← HPL.out]
      exact Calls.regrown_of (plain_any t ka kc 1 _)
    have cPH := Lib.hid cP; clear cP
    refine wp_region_quiet_below (by kernel_rfl) (by kernel_rfl) ?_
    repeat (any_goals (first | go_big_quiet_step ((with_reducible exact cPH.out _ _)) | quiet_step ((with_reducible exact cPH.out _ _)) | (refine wpQuiet_step (fun K hK => ?_); go_simp; split <;> (refine hK _ ?_; clear hK K))))
    all_goals
      refine wpQuiet_nil ?_
      intro _ hw'
      obtain ⟨⟨dq, osq⟩, hw''⟩ := hw'
      subst hw''
      have B4 := below_regrown W2 dq osq
      generalize grow (redrawn W2 dq) osq = W4 at *
    all_goals
      go_wp2_with fail
      go_ret
      go_light
      exact ⟨ret_bool HT.out, HB.out.trans (B4.mono HB.out.size)⟩
  · have hone : t.kids.length = 1 := by simp only [plainB, Bool.and_eq_true, beq_iff_eq] at hpl; exact hpl.2
    have HT : Hid (isTypeB W most d (t.kid 0) below = isTypeB W most (d + 1) t below) := by show _ = _; rw [HT.out, hpl]; rfl
    have HPL := Lib.hid hpl; clear hpl
    have HONE := Lib.hid hone
    have hone' : 1 ≤ t.kids.length := by omega
    clear hone
    have hb : Below w.heap.size w ((w.alloc (.cells #[.slice pa np pc, .slice da W.decls.length dc, .int .i64 most] 44)).alloc (.cells #[.string t.kd, .string t.nm, .string t.tg, .int .i64 t.sz, .slice ka t.kids.length kc] 28)) := by go_grown
    have HD := Lib.hid (hd.keep hb)
    have HK := Lib.hid (hk.keep hb)
    have HB := Lib.hid hb
    have q0 : ((w.alloc (.cells #[.slice pa np pc, .slice da W.decls.length dc, .int .i64 most] 44)).alloc (.cells #[.string t.kd, .string t.nm, .string t.tg, .int .i64 t.sz, .slice ka t.kids.length kc] 28)).cell? ⟨w.heap.size, 0, none⟩ = some (.slice pa np pc) := by simp
    have q1 : ((w.alloc (.cells #[.slice pa np pc, .slice da W.decls.length dc, .int .i64 most] 44)).alloc (.cells #[.string t.kd, .string t.nm, .string t.tg, .int .i64 t.sz, .slice ka t.kids.length kc] 28)).cell? ⟨w.heap.size, 1, none⟩ = some (.slice da W.decls.length dc) := by simp
    have q2 : ((w.alloc (.cells #[.slice pa np pc, .slice da W.decls.length dc, .int .i64 most] 44)).alloc (.cells #[.string t.kd, .string t.nm, .string t.tg, .int .i64 t.sz, .slice ka t.kids.length kc] 28)).cell? ⟨w.heap.size, 2, none⟩ = some (.int .i64 most) := by simp
    have t0 : ((w.alloc (.cells #[.slice pa np pc, .slice da W.decls.length dc, .int .i64 most] 44)).alloc (.cells #[.string t.kd, .string t.nm, .string t.tg, .int .i64 t.sz, .slice ka t.kids.length kc] 28)).cell? ⟨w.heap.size + 1, 0, none⟩ = some (.string t.kd) := by simp
    have t1 : ((w.alloc (.cells #[.slice pa np pc, .slice da W.decls.length dc, .int .i64 most] 44)).alloc (.cells #[.string t.kd, .string t.nm, .string t.tg, .int .i64 t.sz, .slice ka t.kids.length kc] 28)).cell? ⟨w.heap.size + 1, 1, none⟩ = some (.string t.nm) := by simp
    have t2 : ((w.alloc (.cells #[.slice pa np pc, .slice da W.decls.length dc, .int .i64 most] 44)).alloc (.cells #[.string t.kd, .string t.nm, .string t.tg, .int .i64 t.sz, .slice ka t.kids.length kc] 28)).cell? ⟨w.heap.size + 1, 2, none⟩ = some (.string t.tg) := by simp
    have t3 : ((w.alloc (.cells #[.slice pa np pc, .slice da W.decls.length dc, .int .i64 most] 44)).alloc (.cells #[.string t.kd, .string t.nm, .string t.tg, .int .i64 t.sz, .slice ka t.kids.length kc] 28)).cell? ⟨w.heap.size + 1, 3, none⟩ = some (.int .i64 t.sz) := by simp
    have t4 : ((w.alloc (.cells #[.slice pa np pc, .slice da W.decls.length dc, .int .i64 most] 44)).alloc (.cells #[.string t.kd, .string t.nm, .string t.tg, .int .i64 t.sz, .slice ka t.kids.length kc] 28)).cell? ⟨w.heap.size + 1, 4, none⟩ = some (.slice ka t.kids.length kc) := by simp
    have q0 := Lib.hid q0
    have q1 := Lib.hid q1
    have q2 := Lib.hid q2
    have t0 := Lib.hid t0
    have t1 := Lib.hid t1
    have t2 := Lib.hid t2
    have t3 := Lib.hid t3
    have t4 := Lib.hid t4
    clear hb hd hk
    go_enter Tryz.func13, Tryz.ntmps13
    go_wp2_with fail
    generalize hW2 : ((w.alloc (.cells #[.slice pa np pc, .slice da W.decls.length dc, .int .i64 most] 44)).alloc (.cells #[.string t.kd, .string t.nm, .string t.tg, .int .i64 t.sz, .slice ka t.kids.length kc] 28)) = W2 at *
    clear hW2
    have q0 := cell_regrown q0.out
    have q1 := cell_regrown q1.out
    have q2 := cell_regrown q2.out
    have t0 := cell_regrown t0.out
    have t1 := cell_regrown t1.out
    have t2 := cell_regrown t2.out
    have t3 := cell_regrown t3.out
    have t4 := cell_regrown t4.out
    have cP : ∀ dd os, Calls Tryz.prog 23 #[.agg #[.string t.kd, .string t.nm, .string t.tg, .int .i64 t.sz, .slice ka t.kids.length kc], .int .i64 1] (grow (redrawn W2 dd) os)
        fun e w'' => e = .returned (.bool true) ∧ ∃ p : Regrown, w'' = grow (redrawn W2 p.d) p.os := fun dd os => by
      rw [← HPL.out]
      exact Calls.regrown_of (plain_any t ka kc 1 _)
    have cPH := Lib.hid cP; clear cP
    obtain ⟨bu, offu, au, cu, hbu, g0, g1, g2, g3, g4, hfu, hku⟩ := HK.out.at (kid_at (t := t) (i := 0) (by omega))
    subst hbu
    have HKu := Lib.hid hku
    have HFu := Lib.hid hfu
    simp only [Nat.zero_mul, Nat.add_zero] at g0 g1 g2 g3 g4
    have u0 := cell_regrown g0
    have u1 := cell_regrown g1
    have u2 := cell_regrown g2
    have u3 := cell_regrown g3
    have u4 := cell_regrown g4
    clear g0 g1 g2 g3 g4 hfu hku
    have cT : ∀ dd os, Calls Tryz.prog 13 #[.agg #[.slice pa np pc, .slice da W.decls.length dc, .int .i64 most], .agg #[.string (t.kid 0).kd, .string (t.kid 0).nm, .string (t.kid 0).tg, .int .i64 (t.kid 0).sz, .slice au (t.kid 0).kids.length cu], .int .i64 d, .bool below] (grow (redrawn W2 dd) os)
        fun e w'' => e = .returned (.bool (isTypeB W most d (t.kid 0) below)) ∧ ∃ p : Regrown, w'' = grow (redrawn W2 p.d) p.os := fun dd os =>
      Calls.regrown_of (HR.out (t.kid 0) au cu below _ (HD.out.keep (below_regrown _ _ _)) (HKu.out.keep (below_regrown _ _ _)) HFu.out)
    have cTH := Lib.hid cT; clear cT
    refine wp_region_quiet_below (by kernel_rfl) (by kernel_rfl) ?_
    repeat (any_goals (first | go_big_quiet_step ((first | with_reducible exact cPH.out _ _ | with_reducible exact cTH.out _ _)) | quiet_step ((first | with_reducible exact cPH.out _ _ | with_reducible exact cTH.out _ _)) | (refine wpQuiet_step (fun K hK => ?_); go_simp; split <;> (refine hK _ ?_; clear hK K))))
    all_goals
      refine wpQuiet_nil ?_
      intro _ hw'
      obtain ⟨⟨dq, osq⟩, hw''⟩ := hw'
      subst hw''
      have B4 := below_regrown W2 dq osq
      generalize grow (redrawn W2 dq) osq = W4 at *
    all_goals
      go_wp2_with fail
      go_ret
      go_light
      exact ⟨ret_bool HT.out, HB.out.trans (B4.mono HB.out.size)⟩

end Go.Proofs.YtipmpeekfajlcaaGreatDoor
