/- What is proved: the contract of spec.isTuple, given that of isType one step deeper. Conditions: the input lies in memory as trees. -/
import Derived.Test.YtipmpeekfajlcaaGreatDoorSe
namespace Go.Proofs.YtipmpeekfajlcaaGreatDoor
open Go.RowKit Go.Proofs Go.Sort Go.BigFrame

theorem tupleB_no {rec : Ty → Bool} {t : Ty} {k : Nat} (hk : k < t.kids.length) (h : varB rec (t.kid 0) (t.kid k) = false) : tupleB rec t = false := by
  have : t.kids.all (varB rec (t.kid 0)) = false := by
    rw [List.all_eq_false]
    exact ⟨t.kid k, List.mem_of_getElem? (kid_at hk), by simp [h]⟩
  simp [tupleB, this]
theorem tupleB_yes {rec : Ty → Bool} {t : Ty} (e1 : t.kd.toList = [116, 117, 112, 108, 101]) (e2 : t.nm.toList = []) (e3 : t.tg.toList = []) (e4 : t.sz = 0) (e5 : t.kids.length ≤ 8) (h : ∀ j, j < t.kids.length → varB rec (t.kid 0) (t.kid j) = true) : tupleB rec t = true := by
  have : t.kids.all (varB rec (t.kid 0)) = true := by
    rw [List.all_eq_true]
    intro x hx
    obtain ⟨i, hi, rfl⟩ := List.getElem_of_mem hx
    have := h i hi
    simpa [Ty.kid, List.getD, hi] using this
  simp [tupleB, this, e1, e2, e3, e4, e5]
theorem tupleB_head {rec : Ty → Bool} {t : Ty} (h : ¬ (t.kd.toList = [116, 117, 112, 108, 101] ∧ t.nm.toList = [] ∧ t.tg.toList = [] ∧ t.sz = 0 ∧ t.kids.length ≤ 8)) : tupleB rec t = false := by
  rw [← Bool.not_eq_true]
  intro hh
  apply h
  simp only [tupleB, Bool.and_eq_true, decide_eq_true_eq, List.isEmpty_iff, beq_iff_eq] at hh
  exact ⟨hh.1.1.1.1.1, hh.1.1.1.1.2, hh.1.1.1.2, hh.1.1.2, hh.1.2⟩
theorem Calls.regrown_same {P : Program} {f : FuncId} {args : Array Value} {w : World} {d : Nat} {os : Array Obj} {v : Value}
    (h : Calls P f args (grow (redrawn w d) os) fun e w' => e = .returned v ∧ grow (redrawn w d) os = w') : Calls P f args (grow (redrawn w d) os) fun e w'' => e = .returned v ∧ ∃ p : Regrown, w'' = grow (redrawn w p.d) p.os :=
  h.mono fun _ _ ⟨he, hw⟩ => ⟨he, ⟨d, os⟩, hw.symm⟩
theorem box5 (wr : World) (v0 v1 v2 v3 v4 : Value) : ∃ W3, W3 = wr.alloc (.cells #[v0, v1, v2, v3, v4] 28) ∧ Below wr.heap.size wr W3 ∧ W3.cell? ⟨wr.heap.size, 0, none⟩ = some v0 ∧ W3.cell? ⟨wr.heap.size, 1, none⟩ = some v1 ∧
    W3.cell? ⟨wr.heap.size, 2, none⟩ = some v2 ∧ W3.cell? ⟨wr.heap.size, 3, none⟩ = some v3 ∧ W3.cell? ⟨wr.heap.size, 4, none⟩ = some v4 :=
  ⟨_, rfl, (Below.refl _ _).alloc (Nat.le_refl _) _, by simp, by simp, by simp, by simp, by simp⟩

def TypeCalls (W : WorldD) (pa da : Option Addr) (pc dc np : Nat) (most : Int) (d : Nat) : Prop :=
  ∀ (t : Ty) (ka : Option Addr) (kc : Nat) (below : Bool) (w : World), DeclsV w da dc W.decls → KidsV w ka kc t.kids → t.Fits →
    Calls Tryz.prog 13 #[.agg #[.slice pa np pc, .slice da W.decls.length dc, .int .i64 most], .agg #[.string t.kd, .string t.nm, .string t.tg, .int .i64 t.sz, .slice ka t.kids.length kc], .int .i64 d, .bool below] w
      (Gives (.bool (isTypeB W most d t below)) w)

set_option maxHeartbeats 2000000 in
theorem isTuple_any (W : WorldD) (pa da : Option Addr) (pc dc np : Nat) (most : Int) (d : Nat) (hrec : TypeCalls W pa da pc dc np most d) (m : Int) (hm : m - 1 = d) (hd9 : d < 100)
    (t : Ty) (ka : Option Addr) (kc : Nat) (below : Bool) (w : World) (hd : DeclsV w da dc W.decls) (hk : KidsV w ka kc t.kids) :
    Calls Tryz.prog 25 #[.agg #[.slice pa np pc, .slice da W.decls.length dc, .int .i64 most], .agg #[.string t.kd, .string t.nm, .string t.tg, .int .i64 t.sz, .slice ka t.kids.length kc], .int .i64 m, .bool below] w
      (Gives (.bool (tupleB (fun k => isTypeB W most d k below) t)) w) := by
  have hl1 := hk.len.1
  have hl2 := hk.len.2
  have HR := Lib.hid hrec; clear hrec
  by_cases hhead : t.kd.toList = [116, 117, 112, 108, 101] ∧ t.nm.toList = [] ∧ t.tg.toList = [] ∧ t.sz = 0 ∧ t.kids.length ≤ 8
  · obtain ⟨e1, e2, e3, e4, e5⟩ := hhead
    rw [e4]
    have hb : Below w.heap.size w ((w.alloc (.cells #[.slice pa np pc, .slice da W.decls.length dc, .int .i64 most] 44)).alloc (.cells #[.string t.kd, .string t.nm, .string t.tg, .int .i64 0, .slice ka t.kids.length kc] 28)) := by go_grown
    have hd2 := hd.keep hb
    have hk2 := hk.keep hb
    have HD := Lib.hid hd2
    have HK := Lib.hid hk2
    have HB := Lib.hid hb
    have q0 : ((w.alloc (.cells #[.slice pa np pc, .slice da W.decls.length dc, .int .i64 most] 44)).alloc (.cells #[.string t.kd, .string t.nm, .string t.tg, .int .i64 0, .slice ka t.kids.length kc] 28)).cell? ⟨w.heap.size, 0, none⟩ = some (.slice pa np pc) := by simp
    have q1 : ((w.alloc (.cells #[.slice pa np pc, .slice da W.decls.length dc, .int .i64 most] 44)).alloc (.cells #[.string t.kd, .string t.nm, .string t.tg, .int .i64 0, .slice ka t.kids.length kc] 28)).cell? ⟨w.heap.size, 1, none⟩ = some (.slice da W.decls.length dc) := by simp
    have q2 : ((w.alloc (.cells #[.slice pa np pc, .slice da W.decls.length dc, .int .i64 most] 44)).alloc (.cells #[.string t.kd, .string t.nm, .string t.tg, .int .i64 0, .slice ka t.kids.length kc] 28)).cell? ⟨w.heap.size, 2, none⟩ = some (.int .i64 most) := by simp
    have q3 : ((w.alloc (.cells #[.slice pa np pc, .slice da W.decls.length dc, .int .i64 most] 44)).alloc (.cells #[.string t.kd, .string t.nm, .string t.tg, .int .i64 0, .slice ka t.kids.length kc] 28)).cell? ⟨w.heap.size + 1, 4, none⟩ = some (.slice ka t.kids.length kc) := by simp
    have Q0 := Lib.hid q0
    have Q1 := Lib.hid q1
    have Q2 := Lib.hid q2
    have Q3 := Lib.hid q3
    clear hb hd2 hk2 hd hk q0 q1 q2 q3
    go_enter Tryz.func25, Tryz.ntmps25
    go_wp2
    generalize hW2 : ((w.alloc (.cells #[.slice pa np pc, .slice da W.decls.length dc, .int .i64 most] 44)).alloc (.cells #[.string t.kd, .string t.nm, .string t.tg, .int .i64 0, .slice ka t.kids.length kc] 28)) = W2 at *
    clear hW2
    go_loopw [38] (fun i wr => ∃ k : Nat, k ≤ t.kids.length ∧ i = .int .i64 k ∧ Hid (∀ j, j < k → varB (fun k => isTypeB W most d k below) (t.kid 0) (t.kid j) = true) ∧ Below W2.heap.size W2 wr) (fun i _ => t.kids.length - (intOf i).toNat)
    case atStart => exact ⟨0, Nat.zero_le _, rfl, fun j h => by omega, Below.refl _ _⟩
    case round =>
      obtain ⟨k, hk, rfl, hj, hbw⟩ := hrel
      by_cases hlt : k < t.kids.length
      · obtain ⟨b, off, a', c', rfl, c0, c1, c2, c3, c4, hf, hk'⟩ := HK.out.at (kid_at hlt)
        obtain ⟨b_, off_, a0, c0', hbb, z0, z1, z2, z3, z4, hf0, hk0'⟩ := HK.out.at (kid_at (t := t) (i := 0) (by omega))
        simp only [Option.some.injEq, Addr.mk.injEq, and_true] at hbb
        obtain ⟨rfl, rfl⟩ := hbb
        have d0 := cell_below hbw c0
        have d1 := cell_below hbw c1
        have d2 := cell_below hbw c2
        have d3 := cell_below hbw c3
        have d4 := cell_below hbw c4
        have y1 := cell_below hbw z1
        have p0 := cell_below hbw Q0.out
        have p1 := cell_below hbw Q1.out
        have p2 := cell_below hbw Q2.out
        have p3 := cell_below hbw Q3.out
        have hDr := HD.out.keep hbw
        have hKr := hk'.keep hbw
        have hnm := hf.nm
        have hkl := hf.kids
        have HF := Lib.hid hf
        have HDr := Lib.hid hDr
        have HKr := Lib.hid hKr
        have HBr := Lib.hid hbw
        have HJ := Lib.hid hj
        clear c0 c1 c2 c3 c4 z0 z1 z2 z3 z4 hf0 hk0' hk' hf hbw hDr hKr hj
        generalize hkk : t.kid k = kk at *
        have HKK := Lib.hid hkk; clear hkk
        generalize hk0 : t.kid 0 = k0 at *
        have HK0 := Lib.hid hk0; clear hk0
        simp only [Nat.zero_mul, Nat.add_zero] at y1
        have HNO : varB (fun k => isTypeB W most d k below) k0 kk = false → Hid (tupleB (fun k => isTypeB W most d k below) t = false) := fun h => by
          show _ = _
          have h0 := HK0.out
          rw [tupleB_no hlt (by rw [HKK.out, h0]; exact h)]
        have HNO := Lib.hid HNO
        have HYES : varB (fun k => isTypeB W most d k below) k0 kk = true → Hid (∀ j, j < k + 1 → varB (fun k => isTypeB W most d k below) k0 (t.kid j) = true) := fun h => all_more HJ.out (by rw [HKK.out]; exact h)
        have HYES := Lib.hid HYES
        clear HJ
        obtain ⟨W3, hW3, B3, n0, n1, n2, n3, n4⟩ := box5 wr (.string kk.kd) (.string kk.nm) (.string kk.tg) (.int .i64 kk.sz) (.slice a' kk.kids.length c')
        by_cases hone : kk.kids.length = 1
        · have e1k := kid_at (t := kk) (i := 0) (by omega)
          obtain ⟨b2, off2, a2, c2, rfl, g0, g1, g2, g3, g4, hf2, hk2⟩ := HKr.out.at e1k
          have HK3 := Lib.hid (hk2.keep B3)
          have HD3 := Lib.hid (HDr.out.keep B3)
          have HF2 := Lib.hid hf2
          have h3 := cell_below B3 g0
          simp only [Nat.zero_mul, Nat.add_zero] at g0 g1 g2 g3 g4
          have s0 := cell_regrown (cell_below B3 g0)
          have s1 := cell_regrown (cell_below B3 g1)
          have s2 := cell_regrown (cell_below B3 g2)
          have s3 := cell_regrown (cell_below B3 g3)
          have s4 := cell_regrown (cell_below B3 g4)
          have cT : ∀ dd os, Calls Tryz.prog 13 #[.agg #[.slice pa np pc, .slice da W.decls.length dc, .int .i64 most], .agg #[.string (kk.kid 0).kd, .string (kk.kid 0).nm, .string (kk.kid 0).tg, .int .i64 (kk.kid 0).sz, .slice a2 (kk.kid 0).kids.length c2], .int .i64 d, .bool below] (grow (redrawn W3 dd) os)
              fun e w'' => e = .returned (.bool (isTypeB W most d (kk.kid 0) below)) ∧ ∃ p : Regrown, w'' = grow (redrawn W3 p.d) p.os := fun dd os =>
            Calls.regrown_of (HR.out (kk.kid 0) a2 c2 below _ (HD3.out.keep (below_regrown _ _ _)) (HK3.out.keep (below_regrown _ _ _)) HF2.out)
          have CT := Lib.hid cT
          have cN : ∀ w, Calls Tryz.prog 12 #[.string kk.nm] w fun e w' => e = .returned (.bool (nameB kk.nm)) ∧ w = w' := fun w => isName_any kk.nm w hnm
          have CN := Lib.hid cN
          clear g0 g1 g2 g3 g4 hf2 hk2 h3 e1k cT cN
          generalize hbb : isTypeB W most d (kk.kid 0) below = bb at *
          have HBB := Lib.hid hbb; clear hbb
          have hone' : (kk.kids.length : Int) = 1 := by omega
          have HONE := Lib.hid hone; clear hone
          go_wp2_with fail
          rw [← hW3]
          clear hW3
          have x0 := cell_regrown n0
          have x1 := cell_regrown n1
          have x2 := cell_regrown n2
          have x3 := cell_regrown n3
          have x4 := cell_regrown n4
          have r0 := cell_regrown (cell_below B3 p0)
          have r1 := cell_regrown (cell_below B3 p1)
          have r2 := cell_regrown (cell_below B3 p2)
          refine wp_region_quiet_below (by kernel_rfl) (by kernel_rfl) ?_
          repeat (any_goals (first | go_big_quiet_step ((exact CT.out _ _)) | quiet_step ((exact CT.out _ _)) | (refine wpQuiet_step (fun K hK => ?_); go_simp; split <;> (refine hK _ ?_; clear hK K))))
          all_goals
            refine wpQuiet_nil ?_
            intro _ hw'
            obtain ⟨⟨dq, osq⟩, hw''⟩ := hw'
            subst hw''
            have B4 := below_regrown W3 dq osq
            generalize grow (redrawn W3 dq) osq = W4 at *
            go_wp2_with fail
          any_goals
            go_ret
            go_light
            have hb := HBB.out
            exact ⟨ret_bool (HNO.out (by have h1 := HONE.out; cases bb <;> simp_all [varB])).out.symm, HB.out.trans ((HBr.out.trans ((B3.mono HBr.out.size).trans (B4.mono (Nat.le_trans HBr.out.size B3.size)))).mono HB.out.size)⟩
          have X1 := cell_regrown (cell_below B4 n1)
          have P3 := cell_regrown (cell_below B4 (cell_below B3 p3))
          have Y1 := cell_regrown (cell_below B4 (cell_below B3 y1))
          clear x0 x1 x2 x3 x4 r0 r1 r2 s0 s1 s2 s3 s4
          have cN2 : ∀ dd os, Calls Tryz.prog 12 #[.string kk.nm] (grow (redrawn W4 dd) os) fun e w'' => e = .returned (.bool (nameB kk.nm)) ∧ ∃ p : Regrown, w'' = grow (redrawn W4 p.d) p.os := fun dd os =>
            Calls.regrown_same (CN.out _)
          have CN2 := Lib.hid cN2
          clear cN2
          generalize hnn : nameB kk.nm = nn at *
          have HNN := Lib.hid hnn; clear hnn
          refine wp_region_quiet_below (by kernel_rfl) (by kernel_rfl) ?_
          repeat (any_goals (first | go_big_quiet_step ((exact CN2.out _ _)) | quiet_step ((exact CN2.out _ _)) | (refine wpQuiet_step (fun K hK => ?_); go_simp; split <;> (refine hK _ ?_; clear hK K))))
          all_goals
            refine wpQuiet_nil ?_
            intro _ hw'
            obtain ⟨⟨dq2, osq2⟩, hw''⟩ := hw'
            subst hw''
            have B5 := below_regrown W4 dq2 osq2
            generalize grow (redrawn W4 dq2) osq2 = W5 at *
            go_wp2_with fail
          any_goals
            go_ret
            go_light
            have hb := HBB.out
            have hnb := HNN.out
            exact ⟨ret_bool (HNO.out (by have h1 := HONE.out; cases bb <;> cases nn <;> simp_all [varB])).out.symm, HB.out.trans ((HBr.out.trans ((B3.mono HBr.out.size).trans ((B4.trans (B5.mono B4.size)).mono (Nat.le_trans HBr.out.size B3.size)))).mono HB.out.size)⟩
          all_goals
            go_roundw
            case rel =>
              go_light
              have hb := HBB.out
              have hnb := HNN.out
              exact ⟨k + 1, by omega, by go_num, (HYES.out (by have h1 := HONE.out; cases bb <;> cases nn <;> simp_all [varB])).out, HBr.out.trans ((B3.trans ((B4.trans (B5.mono B4.size)).mono B3.size)).mono HBr.out.size)⟩
            case measure =>
              go_light
              simp [intOf]
              omega
        · have hone2 : ¬ (kk.kids.length : Int) = 1 := by omega
          go_wp2_with fail
          rw [← hW3]
          clear hW3
          have x0 := cell_regrown n0
          have x1 := cell_regrown n1
          have x2 := cell_regrown n2
          have x3 := cell_regrown n3
          have x4 := cell_regrown n4
          refine wp_region_quiet_below (by kernel_rfl) (by kernel_rfl) ?_
          repeat (any_goals (first | go_big_quiet_step (fail) | quiet_step (fail) | (refine wpQuiet_step (fun K hK => ?_); go_simp; split <;> (refine hK _ ?_; clear hK K))))
          all_goals
            refine wpQuiet_nil ?_
            intro _ hw'
            obtain ⟨⟨dq, osq⟩, hw''⟩ := hw'
            subst hw''
            have B4 := below_regrown W3 dq osq
            generalize grow (redrawn W3 dq) osq = W4 at *
            go_wp2_with fail
            go_ret
            go_light
            exact ⟨ret_bool (HNO.out (by simp [varB, *])).out.symm, HB.out.trans ((HBr.out.trans ((B3.mono HBr.out.size).trans (B4.mono (Nat.le_trans HBr.out.size B3.size)))).mono HB.out.size)⟩
      · have hks : k = t.kids.length := by omega
        have HE : Hid (true = tupleB (fun k => isTypeB W most d k below) t) := by
          show _ = _
          rw [tupleB_yes e1 e2 e3 e4 e5 (fun j h => hj.out j (by omega))]
        clear hj
        go_wp2
        go_ret
        go_light
        exact ⟨ret_bool HE.out, HB.out.trans (hbw.mono HB.out.size)⟩
  · have HE : Hid (false = tupleB (fun k => isTypeB W most d k below) t) := by
      show _ = _
      rw [tupleB_head hhead]
    have HH := Lib.hid hhead; clear hhead
    go_enter Tryz.func25, Tryz.ntmps25
    go_wp2_with fail
    any_goals
      go_ret
      exact ⟨ret_bool HE.out, by go_grown⟩
    all_goals
      exfalso
      apply HH.out
      go_light
      exact ⟨by assumption, by assumption, by assumption, by assumption, by omega⟩
end Go.Proofs.YtipmpeekfajlcaaGreatDoor
