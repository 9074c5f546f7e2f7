/- What is proved: the contract of spec.isType at a basic and a declared type, an array and a map, given that one step deeper. Conditions: the input lies in memory as trees. -/
import Derived.Test.YtipmpeekfajlcaaGreatDoorSf
namespace Go.Proofs.YtipmpeekfajlcaaGreatDoor
open Go.RowKit Go.Proofs Go.Sort Go.BigFrame

set_option maxRecDepth 100000 in
set_option maxHeartbeats 8000000 in
theorem type_basic (W : WorldD) (pa da : Option Addr) (pc dc np : Nat) (most : Int) (d : Nat) (_ : TypeCalls W pa da pc dc np most d) (_ : d < 99)
    (t : Ty) (ka : Option Addr) (kc : Nat) (below : Bool) (w : World) (_ : DeclsV w da dc W.decls) (hk : KidsV w ka kc t.kids) (ht : t.Fits) (hkd : t.kd.toList = [98, 97, 115, 105, 99]) :
    Calls Tryz.prog 13 #[.agg #[.slice pa np pc, .slice da W.decls.length dc, .int .i64 most], .agg #[.string t.kd, .string t.nm, .string t.tg, .int .i64 t.sz, .slice ka t.kids.length kc], .int .i64 ((d : Int) + 1), .bool below] w (Gives (.bool (isTypeB W most (d + 1) t below)) w) := by
  have hl1 := hk.len.1
  have hl2 := hk.len.2
  have HT : Hid ((basicB t.nm && t.tg.toList.isEmpty && t.sz == 0 && t.kids.length == 0) = isTypeB W most (d + 1) t below) := by show _ = _; simp [isTypeB, hkd]
  have hnm := ht.nm
  have con : ∀ w, Calls Tryz.prog 21 #[.string t.nm] w fun e w' => e = .returned (.bool (basicB t.nm)) ∧ w = w' := fun w => isBasic_any t.nm w hnm
  have CON := Lib.hid con
  clear ht con hk
  generalize hbb : basicB t.nm = bb at *
  clear hbb
  go_enter Tryz.func13, Tryz.ntmps13
  go_wp2_with (go_at_call 21; refine (CON.out _).mono ?_; rintro e w' ⟨rfl, rfl⟩)
  all_goals
    go_ret
    go_light
    refine ⟨ret_bool ?_, by go_grown⟩
    rw [← HT.out]
    first
    | (simp [*]; done)
    | (rw [Bool.eq_iff_iff]; simp [*]; done)
    | (rw [Bool.eq_iff_iff]; simp [*]; omega)

set_option maxRecDepth 100000 in
set_option maxHeartbeats 8000000 in
theorem type_named (W : WorldD) (pa da : Option Addr) (pc dc np : Nat) (most : Int) (d : Nat) (_ : TypeCalls W pa da pc dc np most d) (_ : d < 99)
    (t : Ty) (ka : Option Addr) (kc : Nat) (below : Bool) (w : World) (hd : DeclsV w da dc W.decls) (hk : KidsV w ka kc t.kids) (hkd : t.kd.toList = [110, 97, 109, 101, 100]) :
    Calls Tryz.prog 13 #[.agg #[.slice pa np pc, .slice da W.decls.length dc, .int .i64 most], .agg #[.string t.kd, .string t.nm, .string t.tg, .int .i64 t.sz, .slice ka t.kids.length kc], .int .i64 ((d : Int) + 1), .bool below] w (Gives (.bool (isTypeB W most (d + 1) t below)) w) := by
  have hl1 := hk.len.1
  have hl2 := hk.len.2
  have HT : Hid ((t.nm.toList.isEmpty && t.tg.toList.isEmpty && t.kids.length == 0 && knownB W most t below) = isTypeB W most (d + 1) t below) := by show _ = _; simp [isTypeB, hkd]
  clear hk
  have HD := Lib.hid hd; clear hd
  have con : ∀ w', Below w.heap.size w w' → Calls Tryz.prog 22 #[.agg #[.slice pa np pc, .slice da W.decls.length dc, .int .i64 most], .agg #[.string t.kd, .string t.nm, .string t.tg, .int .i64 t.sz, .slice ka t.kids.length kc], .bool below] w' (Gives (.bool (knownB W most t below)) w') := fun w' hw => known_any W pa da pc dc np most t ka kc below w' (HD.out.keep hw)
  have CON := Lib.hid con; clear con
  generalize hbb : knownB W most t below = bb at *
  clear hbb
  by_cases h1 : t.nm.toList = []
  · by_cases h2 : t.tg.toList = []
    · by_cases h3 : t.kids.length = 0
      · have HT : Hid (bb = isTypeB W most (d + 1) t below) := by show _ = _; rw [← HT.out]; simp [h1, h2, h3]
        have h3' : ((t.kids.length : Int) == 0) = true := by simp only [beq_iff_eq]; omega
        have H3 := Lib.hid h3; clear h3
        go_enter Tryz.func13, Tryz.ntmps13
        go_wp2_with (go_at_call 22; refine (CON.out _ (by go_grown)).mono ?_; rintro e w' ⟨rfl, hb4⟩)
        go_ret
        go_light
        exact ⟨ret_bool HT.out, (show Below w.heap.size w ((w.alloc (.cells #[.slice pa np pc, .slice da W.decls.length dc, .int .i64 most] 44)).alloc (.cells #[.string t.kd, .string t.nm, .string t.tg, .int .i64 t.sz, .slice ka t.kids.length kc] 28)) by go_grown).trans (hb4.mono (by simp; omega))⟩
      · have HT : Hid (false = isTypeB W most (d + 1) t below) := by show _ = _; rw [← HT.out]; simp [h3]
        have h3' : ((t.kids.length : Int) == 0) = false := by simp only [beq_eq_false_iff_ne, ne_eq]; omega
        have H3 := Lib.hid h3; clear h3
        go_enter Tryz.func13, Tryz.ntmps13
        go_wp2_with fail
        all_goals
          go_ret
          go_light
          exact ⟨ret_bool HT.out, by go_grown⟩
    · have HT : Hid (false = isTypeB W most (d + 1) t below) := by show _ = _; rw [← HT.out]; simp [h2]
      have h2' : t.tg.toList.isEmpty = false := by simp [h2]
      go_enter Tryz.func13, Tryz.ntmps13
      go_wp2_with fail
      all_goals
        go_ret
        go_light
        exact ⟨ret_bool HT.out, by go_grown⟩
  · have HT : Hid (false = isTypeB W most (d + 1) t below) := by show _ = _; rw [← HT.out]; simp [h1]
    have h1' : t.nm.toList.isEmpty = false := by simp [h1]
    go_enter Tryz.func13, Tryz.ntmps13
    go_wp2_with fail
    all_goals
      go_ret
      go_light
      exact ⟨ret_bool HT.out, by go_grown⟩

set_option maxRecDepth 100000 in
set_option maxHeartbeats 8000000 in
theorem type_array (W : WorldD) (pa da : Option Addr) (pc dc np : Nat) (most : Int) (d : Nat) (hrec : TypeCalls W pa da pc dc np most d) (hd9 : d < 99)
    (t : Ty) (ka : Option Addr) (kc : Nat) (below : Bool) (w : World) (hd : DeclsV w da dc W.decls) (hk : KidsV w ka kc t.kids) (hkd : t.kd.toList = [97, 114, 114, 97, 121]) :
    Calls Tryz.prog 13 #[.agg #[.slice pa np pc, .slice da W.decls.length dc, .int .i64 most], .agg #[.string t.kd, .string t.nm, .string t.tg, .int .i64 t.sz, .slice ka t.kids.length kc], .int .i64 ((d : Int) + 1), .bool below] w (Gives (.bool (isTypeB W most (d + 1) t below)) w) := by
  have hl1 := hk.len.1
  have hl2 := hk.len.2
  have HT : Hid ((t.nm.toList.isEmpty && t.tg.toList.isEmpty && decide (0 ≤ t.sz) && decide (t.sz ≤ 1000000) && t.kids.length == 1 && isTypeB W most d (t.kid 0) below) = isTypeB W most (d + 1) t below) := by show _ = _; simp [isTypeB, hkd]
  have HR := Lib.hid hrec; clear hrec
  by_cases hone : t.kids.length = 1
  · have HONE := Lib.hid hone
    have hone' : (t.kids.length : Int) = 1 := by omega
    have hone2 : 1 ≤ t.kids.length := by omega
    clear hone
    have hb : Below w.heap.size w ((w.alloc (.cells #[.slice pa np pc, .slice da W.decls.length dc, .int .i64 most] 44)).alloc (.cells #[.string t.kd, .string t.nm, .string t.tg, .int .i64 t.sz, .slice ka t.kids.length kc] 28)) := by go_grown
    have HD := Lib.hid (hd.keep hb)
    have HK := Lib.hid (hk.keep hb)
    have HB := Lib.hid hb
    have q0 : ((w.alloc (.cells #[.slice pa np pc, .slice da W.decls.length dc, .int .i64 most] 44)).alloc (.cells #[.string t.kd, .string t.nm, .string t.tg, .int .i64 t.sz, .slice ka t.kids.length kc] 28)).cell? ⟨w.heap.size, 0, none⟩ = some (.slice pa np pc) := by simp
    have q1 : ((w.alloc (.cells #[.slice pa np pc, .slice da W.decls.length dc, .int .i64 most] 44)).alloc (.cells #[.string t.kd, .string t.nm, .string t.tg, .int .i64 t.sz, .slice ka t.kids.length kc] 28)).cell? ⟨w.heap.size, 1, none⟩ = some (.slice da W.decls.length dc) := by simp
    have q2 : ((w.alloc (.cells #[.slice pa np pc, .slice da W.decls.length dc, .int .i64 most] 44)).alloc (.cells #[.string t.kd, .string t.nm, .string t.tg, .int .i64 t.sz, .slice ka t.kids.length kc] 28)).cell? ⟨w.heap.size, 2, none⟩ = some (.int .i64 most) := by simp
    have t0 : ((w.alloc (.cells #[.slice pa np pc, .slice da W.decls.length dc, .int .i64 most] 44)).alloc (.cells #[.string t.kd, .string t.nm, .string t.tg, .int .i64 t.sz, .slice ka t.kids.length kc] 28)).cell? ⟨w.heap.size + 1, 0, none⟩ = some (.string t.kd) := by simp
    have t1 : ((w.alloc (.cells #[.slice pa np pc, .slice da W.decls.length dc, .int .i64 most] 44)).alloc (.cells #[.string t.kd, .string t.nm, .string t.tg, .int .i64 t.sz, .slice ka t.kids.length kc] 28)).cell? ⟨w.heap.size + 1, 1, none⟩ = some (.string t.nm) := by simp
    have t2 : ((w.alloc (.cells #[.slice pa np pc, .slice da W.decls.length dc, .int .i64 most] 44)).alloc (.cells #[.string t.kd, .string t.nm, .string t.tg, .int .i64 t.sz, .slice ka t.kids.length kc] 28)).cell? ⟨w.heap.size + 1, 2, none⟩ = some (.string t.tg) := by simp
    have t3 : ((w.alloc (.cells #[.slice pa np pc, .slice da W.decls.length dc, .int .i64 most] 44)).alloc (.cells #[.string t.kd, .string t.nm, .string t.tg, .int .i64 t.sz, .slice ka t.kids.length kc] 28)).cell? ⟨w.heap.size + 1, 3, none⟩ = some (.int .i64 t.sz) := by simp
    have t4 : ((w.alloc (.cells #[.slice pa np pc, .slice da W.decls.length dc, .int .i64 most] 44)).alloc (.cells #[.string t.kd, .string t.nm, .string t.tg, .int .i64 t.sz, .slice ka t.kids.length kc] 28)).cell? ⟨w.heap.size + 1, 4, none⟩ = some (.slice ka t.kids.length kc) := by simp
    have q0 := Lib.hid q0
    have q1 := Lib.hid q1
    have q2 := Lib.hid q2
    have t0 := Lib.hid t0
    have t1 := Lib.hid t1
    have t2 := Lib.hid t2
    have t3 := Lib.hid t3
    have t4 := Lib.hid t4
    clear hb hd hk
    go_enter Tryz.func13, Tryz.ntmps13
    go_wp2_with fail
    generalize hW2 : ((w.alloc (.cells #[.slice pa np pc, .slice da W.decls.length dc, .int .i64 most] 44)).alloc (.cells #[.string t.kd, .string t.nm, .string t.tg, .int .i64 t.sz, .slice ka t.kids.length kc] 28)) = W2 at *
    clear hW2
    have q0 := cell_regrown q0.out
    have q1 := cell_regrown q1.out
    have q2 := cell_regrown q2.out
    have t0 := cell_regrown t0.out
    have t1 := cell_regrown t1.out
    have t2 := cell_regrown t2.out
    have t3 := cell_regrown t3.out
    have t4 := cell_regrown t4.out
    obtain ⟨bu, offu, au, cu, hbu, g0, g1, g2, g3, g4, hfu, hku⟩ := HK.out.at (kid_at (t := t) (i := 0) (by omega))
    subst hbu
    have HKu := Lib.hid hku
    have HFu := Lib.hid hfu
    simp only [Nat.zero_mul, Nat.add_zero] at g0 g1 g2 g3 g4
    have u0 := cell_regrown g0
    have u1 := cell_regrown g1
    have u2 := cell_regrown g2
    have u3 := cell_regrown g3
    have u4 := cell_regrown g4
    clear g0 g1 g2 g3 g4 hfu hku
    have cT : ∀ dd os, Calls Tryz.prog 13 #[.agg #[.slice pa np pc, .slice da W.decls.length dc, .int .i64 most], .agg #[.string (t.kid 0).kd, .string (t.kid 0).nm, .string (t.kid 0).tg, .int .i64 (t.kid 0).sz, .slice au (t.kid 0).kids.length cu], .int .i64 d, .bool below] (grow (redrawn W2 dd) os)
        fun e w'' => e = .returned (.bool (isTypeB W most d (t.kid 0) below)) ∧ ∃ p : Regrown, w'' = grow (redrawn W2 p.d) p.os := fun dd os =>
      Calls.regrown_of (HR.out (t.kid 0) au cu below _ (HD.out.keep (below_regrown _ _ _)) (HKu.out.keep (below_regrown _ _ _)) HFu.out)
    have cTH := Lib.hid cT; clear cT
    generalize hbb : isTypeB W most d (t.kid 0) below = bb at *
    clear hbb
    refine wp_region_quiet_below (by kernel_rfl) (by kernel_rfl) ?_
    repeat (any_goals (first | go_big_quiet_step ((with_reducible exact cTH.out _ _)) | quiet_step ((with_reducible exact cTH.out _ _)) | (refine wpQuiet_step (fun K hK => ?_); go_simp; split <;> (refine hK _ ?_; clear hK K))))
    all_goals
      refine wpQuiet_nil ?_
      intro _ hw'
      obtain ⟨⟨dq, osq⟩, hw''⟩ := hw'
      subst hw''
      have B4 := below_regrown W2 dq osq
      generalize grow (redrawn W2 dq) osq = W4 at *
    all_goals
      go_wp2_with fail
      go_ret
      go_light
      refine ⟨ret_bool ?_, HB.out.trans (B4.mono HB.out.size)⟩
      have h1 := HONE.out
      rw [← HT.out, h1]
      first
      | (simp [*]; done)
      | (simp [*]; omega)
  · have hone' : ¬ (t.kids.length : Int) = 1 := by omega
    have HT : Hid (false = isTypeB W most (d + 1) t below) := by show _ = _; rw [← HT.out]; simp [hone]
    have hb : Below w.heap.size w ((w.alloc (.cells #[.slice pa np pc, .slice da W.decls.length dc, .int .i64 most] 44)).alloc (.cells #[.string t.kd, .string t.nm, .string t.tg, .int .i64 t.sz, .slice ka t.kids.length kc] 28)) := by go_grown
    have HD := Lib.hid (hd.keep hb)
    have HK := Lib.hid (hk.keep hb)
    have HB := Lib.hid hb
    have q0 : ((w.alloc (.cells #[.slice pa np pc, .slice da W.decls.length dc, .int .i64 most] 44)).alloc (.cells #[.string t.kd, .string t.nm, .string t.tg, .int .i64 t.sz, .slice ka t.kids.length kc] 28)).cell? ⟨w.heap.size, 0, none⟩ = some (.slice pa np pc) := by simp
    have q1 : ((w.alloc (.cells #[.slice pa np pc, .slice da W.decls.length dc, .int .i64 most] 44)).alloc (.cells #[.string t.kd, .string t.nm, .string t.tg, .int .i64 t.sz, .slice ka t.kids.length kc] 28)).cell? ⟨w.heap.size, 1, none⟩ = some (.slice da W.decls.length dc) := by simp
    have q2 : ((w.alloc (.cells #[.slice pa np pc, .slice da W.decls.length dc, .int .i64 most] 44)).alloc (.cells #[.string t.kd, .string t.nm, .string t.tg, .int .i64 t.sz, .slice ka t.kids.length kc] 28)).cell? ⟨w.heap.size, 2, none⟩ = some (.int .i64 most) := by simp
    have t0 : ((w.alloc (.cells #[.slice pa np pc, .slice da W.decls.length dc, .int .i64 most] 44)).alloc (.cells #[.string t.kd, .string t.nm, .string t.tg, .int .i64 t.sz, .slice ka t.kids.length kc] 28)).cell? ⟨w.heap.size + 1, 0, none⟩ = some (.string t.kd) := by simp
    have t1 : ((w.alloc (.cells #[.slice pa np pc, .slice da W.decls.length dc, .int .i64 most] 44)).alloc (.cells #[.string t.kd, .string t.nm, .string t.tg, .int .i64 t.sz, .slice ka t.kids.length kc] 28)).cell? ⟨w.heap.size + 1, 1, none⟩ = some (.string t.nm) := by simp
    have t2 : ((w.alloc (.cells #[.slice pa np pc, .slice da W.decls.length dc, .int .i64 most] 44)).alloc (.cells #[.string t.kd, .string t.nm, .string t.tg, .int .i64 t.sz, .slice ka t.kids.length kc] 28)).cell? ⟨w.heap.size + 1, 2, none⟩ = some (.string t.tg) := by simp
    have t3 : ((w.alloc (.cells #[.slice pa np pc, .slice da W.decls.length dc, .int .i64 most] 44)).alloc (.cells #[.string t.kd, .string t.nm, .string t.tg, .int .i64 t.sz, .slice ka t.kids.length kc] 28)).cell? ⟨w.heap.size + 1, 3, none⟩ = some (.int .i64 t.sz) := by simp
    have t4 : ((w.alloc (.cells #[.slice pa np pc, .slice da W.decls.length dc, .int .i64 most] 44)).alloc (.cells #[.string t.kd, .string t.nm, .string t.tg, .int .i64 t.sz, .slice ka t.kids.length kc] 28)).cell? ⟨w.heap.size + 1, 4, none⟩ = some (.slice ka t.kids.length kc) := by simp
    have q0 := Lib.hid q0
    have q1 := Lib.hid q1
    have q2 := Lib.hid q2
    have t0 := Lib.hid t0
    have t1 := Lib.hid t1
    have t2 := Lib.hid t2
    have t3 := Lib.hid t3
    have t4 := Lib.hid t4
    clear hb hd hk
    go_enter Tryz.func13, Tryz.ntmps13
    go_wp2_with fail
    generalize hW2 : ((w.alloc (.cells #[.slice pa np pc, .slice da W.decls.length dc, .int .i64 most] 44)).alloc (.cells #[.string t.kd, .string t.nm, .string t.tg, .int .i64 t.sz, .slice ka t.kids.length kc] 28)) = W2 at *
    clear hW2
    have q0 := cell_regrown q0.out
    have q1 := cell_regrown q1.out
    have q2 := cell_regrown q2.out
    have t0 := cell_regrown t0.out
    have t1 := cell_regrown t1.out
    have t2 := cell_regrown t2.out
    have t3 := cell_regrown t3.out
    have t4 := cell_regrown t4.out
    refine wp_region_quiet_below (by kernel_rfl) (by kernel_rfl) ?_
    repeat (any_goals (first | go_big_quiet_step (fail) | quiet_step (fail) | (refine wpQuiet_step (fun K hK => ?_); go_simp; split <;> (refine hK _ ?_; clear hK K))))
    all_goals
      refine wpQuiet_nil ?_
      intro _ hw'
      obtain ⟨⟨dq, osq⟩, hw''⟩ := hw'
      subst hw''
      have B4 := below_regrown W2 dq osq
      generalize grow (redrawn W2 dq) osq = W4 at *
    all_goals
      go_wp2_with fail
      go_ret
      go_light
      exact ⟨ret_bool HT.out, HB.out.trans (B4.mono HB.out.size)⟩

set_option maxRecDepth 100000 in
set_option maxHeartbeats 8000000 in
theorem type_map (W : WorldD) (pa da : Option Addr) (pc dc np : Nat) (most : Int) (d : Nat) (hrec : TypeCalls W pa da pc dc np most d) (hd9 : d < 99)
    (t : Ty) (ka : Option Addr) (kc : Nat) (below : Bool) (w : World) (hd : DeclsV w da dc W.decls) (hk : KidsV w ka kc t.kids) (hkd : t.kd.toList = [109, 97, 112]) :
    Calls Tryz.prog 13 #[.agg #[.slice pa np pc, .slice da W.decls.length dc, .int .i64 most], .agg #[.string t.kd, .string t.nm, .string t.tg, .int .i64 t.sz, .slice ka t.kids.length kc], .int .i64 ((d : Int) + 1), .bool below] w (Gives (.bool (isTypeB W most (d + 1) t below)) w) := by
  have hl1 := hk.len.1
  have hl2 := hk.len.2
  have HT : Hid (isTypeB W most (d + 1) t below = (plainB t 2 && isTypeB W most d (t.kid 0) below && isTypeB W most d (t.kid 1) below)) := by show _ = _; simp [isTypeB, hkd]
  have HR := Lib.hid hrec; clear hrec
  cases hpl : plainB t 2
  · have HT : Hid (false = isTypeB W most (d + 1) t below) := by show _ = _; rw [HT.out, hpl]; rfl
    have HPL := Lib.hid hpl; clear hpl
    have hb : Below w.heap.size w ((w.alloc (.cells #[.slice pa np pc, .slice da W.decls.length dc, .int .i64 most] 44)).alloc (.cells #[.string t.kd, .string t.nm, .string t.tg, .int .i64 t.sz, .slice ka t.kids.length kc] 28)) := by go_grown
    have HD := Lib.hid (hd.keep hb)
    have HK := Lib.hid (hk.keep hb)
    have HB := Lib.hid hb
    have q0 : ((w.alloc (.cells #[.slice pa np pc, .slice da W.decls.length dc, .int .i64 most] 44)).alloc (.cells #[.string t.kd, .string t.nm, .string t.tg, .int .i64 t.sz, .slice ka t.kids.length kc] 28)).cell? ⟨w.heap.size, 0, none⟩ = some (.slice pa np pc) := by simp
    have q1 : ((w.alloc (.cells #[.slice pa np pc, .slice da W.decls.length dc, .int .i64 most] 44)).alloc (.cells #[.string t.kd, .string t.nm, .string t.tg, .int .i64 t.sz, .slice ka t.kids.length kc] 28)).cell? ⟨w.heap.size, 1, none⟩ = some (.slice da W.decls.length dc) := by simp
    have q2 : ((w.alloc (.cells #[.slice pa np pc, .slice da W.decls.length dc, .int .i64 most] 44)).alloc (.cells #[.string t.kd, .string t.nm, .string t.tg, .int .i64 t.sz, .slice ka t.kids.length kc] 28)).cell? ⟨w.heap.size, 2, none⟩ = some (.int .i64 most) := by simp
    have t0 : ((w.alloc (.cells #[.slice pa np pc, .slice da W.decls.length dc, .int .i64 most] 44)).alloc (.cells #[.string t.kd, .string t.nm, .string t.tg, .int .i64 t.sz, .slice ka t.kids.length kc] 28)).cell? ⟨w.heap.size + 1, 0, none⟩ = some (.string t.kd) := by simp
    have t1 : ((w.alloc (.cells #[.slice pa np pc, .slice da W.decls.length dc, .int .i64 most] 44)).alloc (.cells #[.string t.kd, .string t.nm, .string t.tg, .int .i64 t.sz, .slice ka t.kids.length kc] 28)).cell? ⟨w.heap.size + 1, 1, none⟩ = some (.string t.nm) := by simp
    have t2 : ((w.alloc (.cells #[.slice pa np pc, .slice da W.decls.length dc, .int .i64 most] 44)).alloc (.cells #[.string t.kd, .string t.nm, .string t.tg, .int .i64 t.sz, .slice ka t.kids.length kc] 28)).cell? ⟨w.heap.size + 1, 2, none⟩ = some (.string t.tg) := by simp
    have t3 : ((w.alloc (.cells #[.slice pa np pc, .slice da W.decls.length dc, .int .i64 most] 44)).alloc (.cells #[.string t.kd, .string t.nm, .string t.tg, .int .i64 t.sz, .slice ka t.kids.length kc] 28)).cell? ⟨w.heap.size + 1, 3, none⟩ = some (.int .i64 t.sz) := by simp
    have t4 : ((w.alloc (.cells #[.slice pa np pc, .slice da W.decls.length dc, .int .i64 most] 44)).alloc (.cells #[.string t.kd, .string t.nm, .string t.tg, .int .i64 t.sz, .slice ka t.kids.length kc] 28)).cell? ⟨w.heap.size + 1, 4, none⟩ = some (.slice ka t.kids.length kc) := by simp
    have q0 := Lib.hid q0
    have q1 := Lib.hid q1
    have q2 := Lib.hid q2
    have t0 := Lib.hid t0
    have t1 := Lib.hid t1
    have t2 := Lib.hid t2
    have t3 := Lib.hid t3
    have t4 := Lib.hid t4
    clear hb hd hk
    go_enter Tryz.func13, Tryz.ntmps13
    go_wp2_with fail
    generalize hW2 : ((w.alloc (.cells #[.slice pa np pc, .slice da W.decls.length dc, .int .i64 most] 44)).alloc (.cells #[.string t.kd, .string t.nm, .string t.tg, .int .i64 t.sz, .slice ka t.kids.length kc] 28)) = W2 at *
    clear hW2
    have q0 := cell_regrown q0.out
    have q1 := cell_regrown q1.out
    have q2 := cell_regrown q2.out
    have t0 := cell_regrown t0.out
    have t1 := cell_regrown t1.out
    have t2 := cell_regrown t2.out
    have t3 := cell_regrown t3.out
    have t4 := cell_regrown t4.out
    have cP : ∀ dd os, Calls Tryz.prog 23 #[.agg #[.string t.kd, .string t.nm, .string t.tg, .int .i64 t.sz, .slice ka t.kids.length kc], .int .i64 2] (grow (redrawn W2 dd) os)
        fun e w'' => e = .returned (.bool false) ∧ ∃ p : Regrown, w'' = grow (redrawn W2 p.d) p.os := fun dd os => by
      rw [← HPL.out]
      exact Calls.regrown_of (plain_any t ka kc 2 _)
    have cPH := Lib.hid cP; clear cP
    refine wp_region_quiet_below (by kernel_rfl) (by kernel_rfl) ?_
    repeat (any_goals (first | go_big_quiet_step ((with_reducible exact cPH.out _ _)) | quiet_step ((with_reducible exact cPH.out _ _)) | (refine wpQuiet_step (fun K hK => ?_); go_simp; split <;> (refine hK _ ?_; clear hK K))))
    all_goals
      refine wpQuiet_nil ?_
      intro _ hw'
      obtain ⟨⟨dq, osq⟩, hw''⟩ := hw'
      subst hw''
      have B4 := below_regrown W2 dq osq
      generalize grow (redrawn W2 dq) osq = W4 at *
    all_goals
      go_wp2_with fail
      go_ret
      go_light
      exact ⟨ret_bool HT.out, HB.out.trans (B4.mono HB.out.size)⟩
  · have hone : t.kids.length = 2 := by simp only [plainB, Bool.and_eq_true, beq_iff_eq] at hpl; exact hpl.2
    have HT : Hid ((isTypeB W most d (t.kid 0) below && isTypeB W most d (t.kid 1) below) = isTypeB W most (d + 1) t below) := by show _ = _; rw [HT.out, hpl]; rfl
    have HPL := Lib.hid hpl; clear hpl
    have HONE := Lib.hid hone
    have hone' : 2 ≤ t.kids.length := by omega
    clear hone
    have hb : Below w.heap.size w ((w.alloc (.cells #[.slice pa np pc, .slice da W.decls.length dc, .int .i64 most] 44)).alloc (.cells #[.string t.kd, .string t.nm, .string t.tg, .int .i64 t.sz, .slice ka t.kids.length kc] 28)) := by go_grown
    have HD := Lib.hid (hd.keep hb)
    have HK := Lib.hid (hk.keep hb)
    have HB := Lib.hid hb
    have q0 : ((w.alloc (.cells #[.slice pa np pc, .slice da W.decls.length dc, .int .i64 most] 44)).alloc (.cells #[.string t.kd, .string t.nm, .string t.tg, .int .i64 t.sz, .slice ka t.kids.length kc] 28)).cell? ⟨w.heap.size, 0, none⟩ = some (.slice pa np pc) := by simp
    have q1 : ((w.alloc (.cells #[.slice pa np pc, .slice da W.decls.length dc, .int .i64 most] 44)).alloc (.cells #[.string t.kd, .string t.nm, .string t.tg, .int .i64 t.sz, .slice ka t.kids.length kc] 28)).cell? ⟨w.heap.size, 1, none⟩ = some (.slice da W.decls.length dc) := by simp
    have q2 : ((w.alloc (.cells #[.slice pa np pc, .slice da W.decls.length dc, .int .i64 most] 44)).alloc (.cells #[.string t.kd, .string t.nm, .string t.tg, .int .i64 t.sz, .slice ka t.kids.length kc] 28)).cell? ⟨w.heap.size, 2, none⟩ = some (.int .i64 most) := by simp
    have t0 : ((w.alloc (.cells #[.slice pa np pc, .slice da W.decls.length dc, .int .i64 most] 44)).alloc (.cells #[.string t.kd, .string t.nm, .string t.tg, .int .i64 t.sz, .slice ka t.kids.length kc] 28)).cell? ⟨w.heap.size + 1, 0, none⟩ = some (.string t.kd) := by simp
    have t1 : ((w.alloc (.cells #[.slice pa np pc, .slice da W.decls.length dc, .int .i64 most] 44)).alloc (.cells #[.string t.kd, .string t.nm, .string t.tg, .int .i64 t.sz, .slice ka t.kids.length kc] 28)).cell? ⟨w.heap.size + 1, 1, none⟩ = some (.string t.nm) := by simp
    have t2 : ((w.alloc (.cells #[.slice pa np pc, .slice da W.decls.length dc, .int .i64 most] 44)).alloc (.cells #[.string t.kd, .string t.nm, .string t.tg, .int .i64 t.sz, .slice ka t.kids.length kc] 28)).cell? ⟨w.heap.size + 1, 2, none⟩ = some (.string t.tg) := by simp
    have t3 : ((w.alloc (.cells #[.slice pa np pc, .slice da W.decls.length dc, .int .i64 most] 44)).alloc (.cells #[.string t.kd, .string t.nm, .string t.tg, .int .i64 t.sz, .slice ka t.kids.length kc] 28)).cell? ⟨w.heap.size + 1, 3, none⟩ = some (.int .i64 t.sz) := by simp
    have t4 : ((w.alloc (.cells #[.slice pa np pc, .slice da W.decls.length dc, .int .i64 most] 44)).alloc (.cells #[.string t.kd, .string t.nm, .string t.tg, .int .i64 t.sz, .slice ka t.kids.length kc] 28)).cell? ⟨w.heap.size + 1, 4, none⟩ = some (.slice ka t.kids.length kc) := by simp
    have q0 := Lib.hid q0
    have q1 := Lib.hid q1
    have q2 := Lib.hid q2
    have t0 := Lib.hid t0
    have t1 := Lib.hid t1
    have t2 := Lib.hid t2
    have t3 := Lib.hid t3
    have t4 := Lib.hid t4
    clear hb hd hk
    go_enter Tryz.func13, Tryz.ntmps13
    go_wp2_with fail
    generalize hW2 : ((w.alloc (.cells #[.slice pa np pc, .slice da W.decls.length dc, .int .i64 most] 44)).alloc (.cells #[.string t.kd, .string t.nm, .string t.tg, .int .i64 t.sz, .slice ka t.kids.length kc] 28)) = W2 at *
    clear hW2
    have q0 := cell_regrown q0.out
    have q1 := cell_regrown q1.out
    have q2 := cell_regrown q2.out
    have t0 := cell_regrown t0.out
    have t1 := cell_regrown t1.out
    have t2 := cell_regrown t2.out
    have t3 := cell_regrown t3.out
    have t4 := cell_regrown t4.out
    have cP : ∀ dd os, Calls Tryz.prog 23 #[.agg #[.string t.kd, .string t.nm, .string t.tg, .int .i64 t.sz, .slice ka t.kids.length kc], .int .i64 2] (grow (redrawn W2 dd) os)
        fun e w'' => e = .returned (.bool true) ∧ ∃ p : Regrown, w'' = grow (redrawn W2 p.d) p.os := fun dd os => by
      rw [← HPL.out]
      exact Calls.regrown_of (plain_any t ka kc 2 _)
    have cPH := Lib.hid cP; clear cP
    obtain ⟨bu, offu, au, cu, hbu, g0, g1, g2, g3, g4, hfu, hku⟩ := HK.out.at (kid_at (t := t) (i := 0) (by omega))
    subst hbu
    have HKu := Lib.hid hku
    have HFu := Lib.hid hfu
    simp only [Nat.zero_mul, Nat.add_zero] at g0 g1 g2 g3 g4
    have u0 := cell_regrown g0
    have u1 := cell_regrown g1
    have u2 := cell_regrown g2
    have u3 := cell_regrown g3
    have u4 := cell_regrown g4
    clear g0 g1 g2 g3 g4 hfu hku
    obtain ⟨bv, offv, av, cv, hbv, g0, g1, g2, g3, g4, hfv, hkv⟩ := HK.out.at (kid_at (t := t) (i := 1) (by omega))
    simp only [Option.some.injEq, Addr.mk.injEq, and_true] at hbv
    obtain ⟨rfl, rfl⟩ := hbv
    have HKv := Lib.hid hkv
    have HFv := Lib.hid hfv
    simp only [Nat.one_mul] at g0 g1 g2 g3 g4
    have v0 := cell_regrown g0
    have v1 := cell_regrown g1
    have v2 := cell_regrown g2
    have v3 := cell_regrown g3
    have v4 := cell_regrown g4
    clear g0 g1 g2 g3 g4 hfv hkv
    have cT : ∀ dd os, Calls Tryz.prog 13 #[.agg #[.slice pa np pc, .slice da W.decls.length dc, .int .i64 most], .agg #[.string (t.kid 0).kd, .string (t.kid 0).nm, .string (t.kid 0).tg, .int .i64 (t.kid 0).sz, .slice au (t.kid 0).kids.length cu], .int .i64 d, .bool below] (grow (redrawn W2 dd) os)
        fun e w'' => e = .returned (.bool (isTypeB W most d (t.kid 0) below)) ∧ ∃ p : Regrown, w'' = grow (redrawn W2 p.d) p.os := fun dd os =>
      Calls.regrown_of (HR.out (t.kid 0) au cu below _ (HD.out.keep (below_regrown _ _ _)) (HKu.out.keep (below_regrown _ _ _)) HFu.out)
    have cTH := Lib.hid cT; clear cT
    have cV : ∀ dd os, Calls Tryz.prog 13 #[.agg #[.slice pa np pc, .slice da W.decls.length dc, .int .i64 most], .agg #[.string (t.kid 1).kd, .string (t.kid 1).nm, .string (t.kid 1).tg, .int .i64 (t.kid 1).sz, .slice av (t.kid 1).kids.length cv], .int .i64 d, .bool below] (grow (redrawn W2 dd) os)
        fun e w'' => e = .returned (.bool (isTypeB W most d (t.kid 1) below)) ∧ ∃ p : Regrown, w'' = grow (redrawn W2 p.d) p.os := fun dd os =>
      Calls.regrown_of (HR.out (t.kid 1) av cv below _ (HD.out.keep (below_regrown _ _ _)) (HKv.out.keep (below_regrown _ _ _)) HFv.out)
    have cVH := Lib.hid cV; clear cV
    generalize hbb : isTypeB W most d (t.kid 0) below = bb at *
    clear hbb
    refine wp_region_quiet_below (by kernel_rfl) (by kernel_rfl) ?_
    repeat (any_goals (first | go_big_quiet_step ((first | with_reducible exact cPH.out _ _ | with_reducible exact cTH.out _ _ | with_reducible exact cVH.out _ _)) | quiet_step ((first | with_reducible exact cPH.out _ _ | with_reducible exact cTH.out _ _ | with_reducible exact cVH.out _ _)) | (refine wpQuiet_step (fun K hK => ?_); go_simp; split <;> (refine hK _ ?_; clear hK K))))
    all_goals
      refine wpQuiet_nil ?_
      intro _ hw'
      obtain ⟨⟨dq, osq⟩, hw''⟩ := hw'
      subst hw''
      have B4 := below_regrown W2 dq osq
      generalize grow (redrawn W2 dq) osq = W4 at *
    all_goals
      go_wp2_with fail
      go_ret
      go_light
      refine ⟨ret_bool ?_, HB.out.trans (B4.mono HB.out.size)⟩
      rw [← HT.out]
      first
      | (simp [*]; done)
      | (cases bb <;> simp_all; done)

end Go.Proofs.YtipmpeekfajlcaaGreatDoor
