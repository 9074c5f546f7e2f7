/- What is proved: the contract of spec.isStruct, given that of isType one step deeper. Conditions: the input lies in memory as trees. -/
import Derived.Test.YtipmpeekfajlcaaGreatDoorSf
namespace Go.Proofs.YtipmpeekfajlcaaGreatDoor
open Go.RowKit Go.Proofs Go.Sort Go.BigFrame

theorem structB_no {W : WorldD} {rec : Ty → Bool} {t : Ty} {k : Nat} (hk : k < t.kids.length) (h : fieldB W rec (t.kid k) = false ∨ ∃ j, j < k ∧ twiceB (t.kid j) (t.kid k) = true) : structB W rec t = false := by
  have : ((List.range t.kids.length).all fun i => fieldB W rec (t.kid i) && (List.range i).all fun j => !twiceB (t.kid j) (t.kid i)) = false := by
    rw [List.all_eq_false]
    refine ⟨k, List.mem_range.2 hk, ?_⟩
    rcases h with h | ⟨j, hj, h⟩
    · simp [h]
    · have h2 : ((List.range k).all fun j => !twiceB (t.kid j) (t.kid k)) = false := by
        rw [List.all_eq_false]
        exact ⟨j, List.mem_range.2 hj, by simp [h]⟩
      simp [h2]
  simp [structB, this]
theorem structB_yes {W : WorldD} {rec : Ty → Bool} {t : Ty} (e2 : t.nm.toList = []) (e3 : t.tg.toList = []) (e4 : t.sz = 0) (e5 : t.kids.length ≤ 8)
    (h : ∀ j, j < t.kids.length → fieldB W rec (t.kid j) = true ∧ ∀ i, i < j → twiceB (t.kid i) (t.kid j) = false) : structB W rec t = true := by
  have : ((List.range t.kids.length).all fun i => fieldB W rec (t.kid i) && (List.range i).all fun j => !twiceB (t.kid j) (t.kid i)) = true := by
    rw [List.all_eq_true]
    intro i hi
    have hi := List.mem_range.1 hi
    have h2 : ((List.range i).all fun j => !twiceB (t.kid j) (t.kid i)) = true := by
      rw [List.all_eq_true]
      intro j hj
      simp [(h i hi).2 j (List.mem_range.1 hj)]
    simp [(h i hi).1, h2]
  simp [structB, this, e2, e3, e4, e5]
theorem structB_head {W : WorldD} {rec : Ty → Bool} {t : Ty} (h : ¬ (t.nm.toList = [] ∧ t.tg.toList = [] ∧ t.sz = 0 ∧ t.kids.length ≤ 8)) : structB W rec t = false := by
  rw [← Bool.not_eq_true]
  intro hh
  apply h
  simp only [structB, Bool.and_eq_true, decide_eq_true_eq, List.isEmpty_iff, beq_iff_eq] at hh
  exact ⟨hh.1.1.1.1, hh.1.1.1.2, hh.1.1.2, hh.1.2⟩

theorem fieldB_no {W : WorldD} {rec : Ty → Bool} {f : Ty} (h : (¬ f.kd.toList = [102, 105, 101, 108, 100] ∧ ¬ f.kd.toList = [101, 109, 98, 101, 100, 100, 101, 100]) ∨ ¬ f.sz = 0 ∨ tagB f.tg = false ∨ nameB f.nm = false ∨ rec (f.kid 0) = false ∨ (f.kd.toList = [101, 109, 98, 101, 100, 100, 101, 100] ∧ ¬ f.nm.toList = (embName W (f.kid 0)).toList)) : fieldB W rec f = false := by
  rcases h with ⟨h, h'⟩ | h | h | h | h | ⟨h, h'⟩ <;> simp [fieldB, *]
theorem fieldB_yes {W : WorldD} {rec : Ty → Bool} {f : Ty} (h : f.kd.toList = [102, 105, 101, 108, 100] ∨ (f.kd.toList = [101, 109, 98, 101, 100, 100, 101, 100] ∧ f.nm.toList = (embName W (f.kid 0)).toList)) (h0 : f.sz = 0) (h1 : f.kids.length = 1) (h2 : tagB f.tg = true) (h3 : nameB f.nm = true) (h4 : rec (f.kid 0) = true) : fieldB W rec f = true := by
  rcases h with h | ⟨h, h'⟩ <;> simp [fieldB, *]

set_option maxRecDepth 100000 in
set_option maxHeartbeats 4000000 in
theorem isStruct_any (W : WorldD) (pa da : Option Addr) (pc dc np : Nat) (most : Int) (d : Nat) (hrec : TypeCalls W pa da pc dc np most d) (m : Int) (hm : m - 1 = d) (hd9 : d < 100)
    (t : Ty) (ka : Option Addr) (kc : Nat) (below : Bool) (w : World) (hd : DeclsV w da dc W.decls) (hk : KidsV w ka kc t.kids) :
    Calls Tryz.prog 24 #[.agg #[.slice pa np pc, .slice da W.decls.length dc, .int .i64 most], .agg #[.string t.kd, .string t.nm, .string t.tg, .int .i64 t.sz, .slice ka t.kids.length kc], .int .i64 m, .bool below] w
      (Gives (.bool (structB W (fun k => isTypeB W most d k below) t)) w) := by
  have hl1 := hk.len.1
  have hl2 := hk.len.2
  have HR := Lib.hid hrec; clear hrec
  by_cases hhead : t.nm.toList = [] ∧ t.tg.toList = [] ∧ t.sz = 0 ∧ t.kids.length ≤ 8
  · obtain ⟨e2, e3, e4, e5⟩ := hhead
    rw [e4]
    have hb : Below w.heap.size w ((w.alloc (.cells #[.slice pa np pc, .slice da W.decls.length dc, .int .i64 most] 44)).alloc (.cells #[.string t.kd, .string t.nm, .string t.tg, .int .i64 0, .slice ka t.kids.length kc] 28)) := by go_grown
    have hd2 := hd.keep hb
    have hk2 := hk.keep hb
    have HD := Lib.hid hd2
    have HK := Lib.hid hk2
    have HB := Lib.hid hb
    have q0 : ((w.alloc (.cells #[.slice pa np pc, .slice da W.decls.length dc, .int .i64 most] 44)).alloc (.cells #[.string t.kd, .string t.nm, .string t.tg, .int .i64 0, .slice ka t.kids.length kc] 28)).cell? ⟨w.heap.size, 0, none⟩ = some (.slice pa np pc) := by simp
    have q1 : ((w.alloc (.cells #[.slice pa np pc, .slice da W.decls.length dc, .int .i64 most] 44)).alloc (.cells #[.string t.kd, .string t.nm, .string t.tg, .int .i64 0, .slice ka t.kids.length kc] 28)).cell? ⟨w.heap.size, 1, none⟩ = some (.slice da W.decls.length dc) := by simp
    have q2 : ((w.alloc (.cells #[.slice pa np pc, .slice da W.decls.length dc, .int .i64 most] 44)).alloc (.cells #[.string t.kd, .string t.nm, .string t.tg, .int .i64 0, .slice ka t.kids.length kc] 28)).cell? ⟨w.heap.size, 2, none⟩ = some (.int .i64 most) := by simp
    have q3 : ((w.alloc (.cells #[.slice pa np pc, .slice da W.decls.length dc, .int .i64 most] 44)).alloc (.cells #[.string t.kd, .string t.nm, .string t.tg, .int .i64 0, .slice ka t.kids.length kc] 28)).cell? ⟨w.heap.size + 1, 4, none⟩ = some (.slice ka t.kids.length kc) := by simp
    have Q0 := Lib.hid q0
    have Q1 := Lib.hid q1
    have Q2 := Lib.hid q2
    have Q3 := Lib.hid q3
    clear hb hd2 hk2 hd hk q0 q1 q2 q3
    go_enter Tryz.func24, Tryz.ntmps24
    go_wp2
    generalize hW2 : ((w.alloc (.cells #[.slice pa np pc, .slice da W.decls.length dc, .int .i64 most] 44)).alloc (.cells #[.string t.kd, .string t.nm, .string t.tg, .int .i64 0, .slice ka t.kids.length kc] 28)) = W2 at *
    clear hW2
    go_loopw [35] (fun i wr => ∃ k : Nat, k ≤ t.kids.length ∧ i = .int .i64 k ∧ Hid (∀ j, j < k → fieldB W (fun k => isTypeB W most d k below) (t.kid j) = true ∧ ∀ i, i < j → twiceB (t.kid i) (t.kid j) = false) ∧ Below W2.heap.size W2 wr) (fun i _ => t.kids.length - (intOf i).toNat)
    case atStart => exact ⟨0, Nat.zero_le _, rfl, fun j h => by omega, Below.refl _ _⟩
    case round =>
      obtain ⟨k, hk, rfl, hj, hbw⟩ := hrel
      by_cases hlt : k < t.kids.length
      · obtain ⟨b, off, a', c', rfl, c0, c1, c2, c3, c4, hf, hk'⟩ := HK.out.at (kid_at hlt)
        have d0 := cell_below hbw c0
        have d1 := cell_below hbw c1
        have d2 := cell_below hbw c2
        have d3 := cell_below hbw c3
        have d4 := cell_below hbw c4
        have p0 := cell_below hbw Q0.out
        have p1 := cell_below hbw Q1.out
        have p2 := cell_below hbw Q2.out
        have p3 := cell_below hbw Q3.out
        have hDr := HD.out.keep hbw
        have hKr := hk'.keep hbw
        have hnm := hf.nm
        have htg := hf.tg
        have HF := Lib.hid hf
        have HDr := Lib.hid hDr
        have HKr := Lib.hid hKr
        have HBr := Lib.hid hbw
        have HJ := Lib.hid hj
        have hno1 : fieldB W (fun k => isTypeB W most d k below) (t.kid k) = false → Hid (false = structB W (fun k => isTypeB W most d k below) t) := fun h => (structB_no hlt (Or.inl h)).symm
        have hno2 : ∀ j, j < k → twiceB (t.kid j) (t.kid k) = true → Hid (false = structB W (fun k => isTypeB W most d k below) t) := fun j hj h => (structB_no hlt (Or.inr ⟨j, hj, h⟩)).symm
        have hyes : fieldB W (fun k => isTypeB W most d k below) (t.kid k) = true → (∀ j, j < k → twiceB (t.kid j) (t.kid k) = false) → Hid (∀ j, j < k + 1 → fieldB W (fun k => isTypeB W most d k below) (t.kid j) = true ∧ ∀ i, i < j → twiceB (t.kid i) (t.kid j) = false) := fun h h2 => all_more HJ.out ⟨h, h2⟩
        have HNO1 := Lib.hid hno1
        have HNO2 := Lib.hid hno2
        have HYES := Lib.hid hyes
        clear c0 c1 c2 c3 c4 hk' hf hbw hDr hKr hj hno1 hno2 hyes HJ
        generalize hkk : t.kid k = kk at *
        have HKK := Lib.hid hkk; clear hkk
        obtain ⟨W3, hW3, B3, n0, n1, n2, n3, n4⟩ := box5 wr (.string kk.kd) (.string kk.nm) (.string kk.tg) (.int .i64 kk.sz) (.slice a' kk.kids.length c')
        by_cases hone : kk.kids.length = 1
        · have e1k := kid_at (t := kk) (i := 0) (by omega)
          obtain ⟨b2, off2, a2, c2, rfl, g0, g1, g2, g3, g4, hf2, hk2⟩ := HKr.out.at e1k
          have HK3 := Lib.hid (hk2.keep B3)
          have HD3 := Lib.hid (HDr.out.keep B3)
          have HF2 := Lib.hid hf2
          simp only [Nat.zero_mul, Nat.add_zero] at g0 g1 g2 g3 g4
          have s0 := cell_regrown (cell_below B3 g0)
          have s1 := cell_regrown (cell_below B3 g1)
          have s2 := cell_regrown (cell_below B3 g2)
          have s3 := cell_regrown (cell_below B3 g3)
          have s4 := cell_regrown (cell_below B3 g4)
          have G0 := Lib.hid (cell_below B3 g0)
          have G1 := Lib.hid (cell_below B3 g1)
          have G2 := Lib.hid (cell_below B3 g2)
          have G3 := Lib.hid (cell_below B3 g3)
          have G4 := Lib.hid (cell_below B3 g4)
          have cT : ∀ dd os, Calls Tryz.prog 13 #[.agg #[.slice pa np pc, .slice da W.decls.length dc, .int .i64 most], .agg #[.string (kk.kid 0).kd, .string (kk.kid 0).nm, .string (kk.kid 0).tg, .int .i64 (kk.kid 0).sz, .slice a2 (kk.kid 0).kids.length c2], .int .i64 d, .bool below] (grow (redrawn W3 dd) os)
              fun e w'' => e = .returned (.bool (isTypeB W most d (kk.kid 0) below)) ∧ ∃ p : Regrown, w'' = grow (redrawn W3 p.d) p.os := fun dd os =>
            Calls.regrown_of (HR.out (kk.kid 0) a2 c2 below _ (HD3.out.keep (below_regrown _ _ _)) (HK3.out.keep (below_regrown _ _ _)) HF2.out)
          have CT := Lib.hid cT
          have cN : ∀ dd os, Calls Tryz.prog 12 #[.string kk.nm] (grow (redrawn W3 dd) os) fun e w'' => e = .returned (.bool (nameB kk.nm)) ∧ ∃ p : Regrown, w'' = grow (redrawn W3 p.d) p.os := fun dd os => Calls.regrown_same (isName_any kk.nm _ hnm)
          have CN := Lib.hid cN
          have cG : ∀ dd os, Calls Tryz.prog 47 #[.string kk.tg] (grow (redrawn W3 dd) os) fun e w'' => e = .returned (.bool (tagB kk.tg)) ∧ ∃ p : Regrown, w'' = grow (redrawn W3 p.d) p.os := fun dd os => Calls.regrown_same (isTag_any kk.tg _ htg)
          have CG := Lib.hid cG
          clear g0 g1 g2 g3 g4 hf2 hk2 e1k cT cN cG
          have hF1 : ¬ kk.kd.toList = [102, 105, 101, 108, 100] → ¬ kk.kd.toList = [101, 109, 98, 101, 100, 100, 101, 100] → Hid (false = structB W (fun k => isTypeB W most d k below) t) := fun h h' => HNO1.out (fieldB_no (Or.inl ⟨h, h'⟩))
          have hF2 : ¬ kk.sz = 0 → Hid (false = structB W (fun k => isTypeB W most d k below) t) := fun h => HNO1.out (fieldB_no (Or.inr (Or.inl h)))
          have hF3 : tagB kk.tg = false → Hid (false = structB W (fun k => isTypeB W most d k below) t) := fun h => HNO1.out (fieldB_no (Or.inr (Or.inr (Or.inl h))))
          have hF4 : nameB kk.nm = false → Hid (false = structB W (fun k => isTypeB W most d k below) t) := fun h => HNO1.out (fieldB_no (Or.inr (Or.inr (Or.inr (Or.inl h)))))
          have hF5 : isTypeB W most d (kk.kid 0) below = false → Hid (false = structB W (fun k => isTypeB W most d k below) t) := fun h => HNO1.out (fieldB_no (Or.inr (Or.inr (Or.inr (Or.inr (Or.inl h))))))
          have hF6 : kk.kd.toList = [101, 109, 98, 101, 100, 100, 101, 100] → ¬ kk.nm.toList = (embName W (kk.kid 0)).toList → Hid (false = structB W (fun k => isTypeB W most d k below) t) := fun h h' => HNO1.out (fieldB_no (Or.inr (Or.inr (Or.inr (Or.inr (Or.inr ⟨h, h'⟩))))))
          have hY : (kk.kd.toList = [102, 105, 101, 108, 100] ∨ (kk.kd.toList = [101, 109, 98, 101, 100, 100, 101, 100] ∧ kk.nm.toList = (embName W (kk.kid 0)).toList)) → kk.sz = 0 → tagB kk.tg = true → nameB kk.nm = true → isTypeB W most d (kk.kid 0) below = true → Hid (fieldB W (fun k => isTypeB W most d k below) kk = true) := fun h h0 h2 h3 h4 => fieldB_yes h h0 hone h2 h3 h4
          have F1 := Lib.hid hF1
          have F2 := Lib.hid hF2
          have F3 := Lib.hid hF3
          have F4 := Lib.hid hF4
          have F5 := Lib.hid hF5
          have F6 := Lib.hid hF6
          have HY := Lib.hid hY
          clear hF1 hF2 hF3 hF4 hF5 hF6 hY
          generalize hen : embName W (kk.kid 0) = en at *
          have HEN := Lib.hid hen; clear hen
          generalize hbb : isTypeB W most d (kk.kid 0) below = bb at *
          have HBB := Lib.hid hbb; clear hbb
          generalize hnn : nameB kk.nm = nn at *
          have HNN := Lib.hid hnn; clear hnn
          generalize hgg : tagB kk.tg = gg at *
          have HGG := Lib.hid hgg; clear hgg
          have hone' : (kk.kids.length : Int) = 1 := by omega
          have HONE := Lib.hid hone; clear hone
          go_wp2_with fail
          rw [← hW3]
          clear hW3
          have x0 := cell_regrown n0
          have x1 := cell_regrown n1
          have x2 := cell_regrown n2
          have x3 := cell_regrown n3
          have x4 := cell_regrown n4
          have r0 := cell_regrown (cell_below B3 p0)
          have r1 := cell_regrown (cell_below B3 p1)
          have r2 := cell_regrown (cell_below B3 p2)
          refine wp_region_quiet_below (by kernel_rfl) (by kernel_rfl) ?_
          repeat (any_goals (first | go_big_quiet_step ((first | exact CT.out _ _ | exact CN.out _ _ | exact CG.out _ _)) | quiet_step ((first | exact CT.out _ _ | exact CN.out _ _ | exact CG.out _ _)) | (refine wpQuiet_step (fun K hK => ?_); go_simp; split <;> (refine hK _ ?_; clear hK K))))
          all_goals
            refine wpQuiet_nil ?_
            intro _ hw'
            obtain ⟨⟨dq, osq⟩, hw''⟩ := hw'
            subst hw''
            have B4 := below_regrown W3 dq osq
            generalize grow (redrawn W3 dq) osq = W4 at *
            go_wp2_with fail
          any_goals
            go_ret
            go_light
            exact ⟨ret_bool (by
              first
              | exact (F5.out (by simpa using ‹(!bb) = true›)).out
              | exact (F4.out (by simpa using ‹¬ nn = true›)).out
              | exact (F3.out (by simpa using ‹¬ gg = true›)).out
              | exact (F2.out ‹_›).out
              | exact (F1.out ‹_› ‹_›).out), HB.out.trans ((HBr.out.trans ((B3.mono HBr.out.size).trans (B4.mono (Nat.le_trans HBr.out.size B3.size)))).mono HB.out.size)⟩
          all_goals
            have hbt : bb = true := by simpa using ‹(!bb) = false›
            subst hbt
            have HBT := Lib.hid (show true = true from rfl)
            have HNT := Lib.hid (show nn = true by assumption)
            have HGT := Lib.hid (show gg = true by assumption)
            have HZT := Lib.hid (show kk.sz = 0 by assumption)
            have hne2 : (kk.nm.toList == en.toList) = true ∨ (kk.nm.toList == en.toList) = false := by cases (kk.nm.toList == en.toList) <;> simp
            rcases hne2 with hne | hne
          all_goals
            have HNE := Lib.hid hne
            have HD4 := Lib.hid (HD3.out.keep B4)
            have HK4 := Lib.hid (HK3.out.keep B4)
            have X0 := cell_regrown (cell_below B4 n0)
            have X1 := cell_regrown (cell_below B4 n1)
            have X4 := cell_regrown (cell_below B4 n4)
            have R0 := cell_regrown (cell_below B4 (cell_below B3 p0))
            have R1 := cell_regrown (cell_below B4 (cell_below B3 p1))
            have R2 := cell_regrown (cell_below B4 (cell_below B3 p2))
            have S0 := cell_regrown (cell_below B4 G0.out)
            have S1 := cell_regrown (cell_below B4 G1.out)
            have S2 := cell_regrown (cell_below B4 G2.out)
            have S3 := cell_regrown (cell_below B4 G3.out)
            have S4 := cell_regrown (cell_below B4 G4.out)
            clear x0 x1 x2 x3 x4 r0 r1 r2 s0 s1 s2 s3 s4
            have cE : ∀ dd os, Calls Tryz.prog 48 #[.agg #[.slice pa np pc, .slice da W.decls.length dc, .int .i64 most], .agg #[.string (kk.kid 0).kd, .string (kk.kid 0).nm, .string (kk.kid 0).tg, .int .i64 (kk.kid 0).sz, .slice a2 (kk.kid 0).kids.length c2]] (grow (redrawn W4 dd) os)
                fun e w'' => e = .returned (.string en) ∧ ∃ p : Regrown, w'' = grow (redrawn W4 p.d) p.os := fun dd os => by
              rw [← HEN.out]
              exact Calls.regrown_of (emb_any W pa da pc dc np most (kk.kid 0) a2 c2 _ (HD4.out.keep (below_regrown _ _ _)) (HK4.out.keep (below_regrown _ _ _)))
            have CE := Lib.hid cE
            clear cE
            refine wp_region_quiet_below (by kernel_rfl) (by kernel_rfl) ?_
            repeat (any_goals (first | go_big_quiet_step ((exact CE.out _ _)) | quiet_step ((exact CE.out _ _)) | (refine wpQuiet_step (fun K hK => ?_); go_simp; split <;> (refine hK _ ?_; clear hK K))))
          all_goals
            refine wpQuiet_nil ?_
            intro _ hw'
            obtain ⟨⟨dq2, osq2⟩, hw''⟩ := hw'
            subst hw''
            have B5 := below_regrown W4 dq2 osq2
            generalize grow (redrawn W4 dq2) osq2 = W5 at *
            have P3 := cell_below B5 (cell_below B4 (cell_below B3 p3))
            have N1 := cell_below B5 (cell_below B4 n1)
            have BT : Below wr.heap.size wr W5 := B3.trans ((B4.trans (B5.mono B4.size)).mono B3.size)
            have HK5 := Lib.hid (HK.out.keep (HBr.out.trans (BT.mono HBr.out.size)))
            clear X0 X1 X4 R0 R1 R2 S0 S1 S2 S3 S4 n0 n1 n2 n3 n4 p0 p1 p2 p3 d0 d1 d2 d3 d4
            go_wp2
          any_goals
            go_ret
            go_light
            exact ⟨ret_bool (F6.out ‹_› (by simpa using HNE.out)).out, HB.out.trans ((HBr.out.trans ((B3.mono HBr.out.size).trans ((B4.trans (B5.mono B4.size)).mono (Nat.le_trans HBr.out.size B3.size)))).mono HB.out.size)⟩
          all_goals
            have HFY : Hid (fieldB W (fun k => isTypeB W most d k below) kk = true) := by
              go_light
              exact (HY.out (by first | exact Or.inl ‹_› | exact Or.inr ⟨‹_›, by simpa using HNE.out⟩) HZT.out HGT.out HNT.out HBT.out).out
            have HB5 := Lib.hid B5
            have HB4 := Lib.hid B4
            have HB3 := Lib.hid B3
            have HBT5 := Lib.hid BT
            clear B5 B4 B3 BT
            go_loopw [102] (fun i wq => ∃ j : Nat, j ≤ k ∧ i = .int .i64 j ∧ Hid (∀ i, i < j → twiceB (t.kid i) kk = false) ∧ Below W5.heap.size W5 wq) (fun i _ => k - (intOf i).toNat)
            case atStart => exact ⟨0, Nat.zero_le _, rfl, fun j h => by omega, Below.refl _ _⟩
            case round =>
              obtain ⟨j, hjk, rfl, hjj, hbq⟩ := hrel
              by_cases hjl : j < k
              · obtain ⟨b_, off_, a6, c6, hbb6, u0, u1, u2, u3, u4, hf6, hk6⟩ := HK5.out.at (kid_at (t := t) (i := j) (by omega))
                simp only [Option.some.injEq, Addr.mk.injEq, and_true] at hbb6
                obtain ⟨rfl, rfl⟩ := hbb6
                have v0 := cell_below hbq u0
                have v1 := cell_below hbq u1
                have v2 := cell_below hbq u2
                have v3 := cell_below hbq u3
                have v4 := cell_below hbq u4
                have vn := cell_below hbq N1
                have hvn := World.block_lt_of_cell? _ _ vn
                simp only at hvn
                have HBQ := Lib.hid hbq
                have hbt : ∀ i, twiceB (t.kid i) kk = true → i < k → Hid (false = structB W (fun k => isTypeB W most d k below) t) := fun i h h2 => HNO2.out i h2 h
                have HBTW := Lib.hid hbt
                have hmore : twiceB (t.kid j) kk = false → Hid (∀ i, i < j + 1 → twiceB (t.kid i) kk = false) := fun h => all_more hjj h
                have HMORE := Lib.hid hmore
                clear u0 u1 u2 u3 u4 hf6 hk6 hbq hbt hmore hjj
                generalize hkj : t.kid j = kj at *
                have HKJ := Lib.hid hkj; clear hkj
                go_wp2
                go_ret
                go_light
                have hq := HBQ.out
                have e1 : kj.nm.toList = kk.nm.toList := by assumption
                have h95 : ¬ kk.nm.toList = [95] := by simpa using ‹(!kk.nm.toList == [95]) = true›
                have hq2 := hq.trans (((Below.refl wr.heap.size wr).alloc (Nat.le_refl _) (.cells #[.string kj.kd, .string kj.nm, .string kj.tg, .int .i64 kj.sz, .slice a6 kj.kids.length c6] 28)).mono hq.size)
                exact ⟨ret_bool (HBTW.out j (by rw [HKJ.out]; simp [twiceB, e1, h95]) hjl).out, HB.out.trans ((HBr.out.trans ((HBT5.out.trans (hq2.mono HBT5.out.size)).mono HBr.out.size)).mono HB.out.size)⟩
                all_goals
                  go_roundw
                  case rel =>
                    go_light
                    have hq := HBQ.out
                    have hq2 := hq.trans (((Below.refl wr.heap.size wr).alloc (Nat.le_refl _) (.cells #[.string kj.kd, .string kj.nm, .string kj.tg, .int .i64 kj.sz, .slice a6 kj.kids.length c6] 28)).mono hq.size)
                    refine ⟨j + 1, by omega, by go_num, (HMORE.out ?_).out, hq2⟩
                    first
                    | (have h95 : kk.nm.toList = [95] := by simpa using ‹(!kk.nm.toList == [95]) = false›
                       simp [twiceB, h95])
                    | (have e1 : ¬ kj.nm.toList = kk.nm.toList := by assumption
                       simp [twiceB, e1])
                  case measure =>
                    go_light
                    simp [intOf]
                    omega
              · have hjk2 : j = k := by omega
                have HA : Hid (∀ j, j < k → twiceB (t.kid j) kk = false) := fun i hi => hjj.out i (by omega)
                have HBQ := Lib.hid hbq
                clear hbq hjj
                go_wp2
                go_roundw
                case rel =>
                  go_light
                  exact ⟨k + 1, by omega, by go_num, (HYES.out HFY.out HA.out).out, HBr.out.trans ((HBT5.out.trans (HBQ.out.mono HBT5.out.size)).mono HBr.out.size)⟩
                case measure =>
                  go_light
                  simp [intOf]
                  omega
        · have hone2 : ¬ (kk.kids.length : Int) = 1 := by omega
          go_wp2_with fail
          rw [← hW3]
          clear hW3
          have x0 := cell_regrown n0
          have x1 := cell_regrown n1
          have x2 := cell_regrown n2
          have x3 := cell_regrown n3
          have x4 := cell_regrown n4
          refine wp_region_quiet_below (by kernel_rfl) (by kernel_rfl) ?_
          repeat (any_goals (first | go_big_quiet_step (fail) | quiet_step (fail) | (refine wpQuiet_step (fun K hK => ?_); go_simp; split <;> (refine hK _ ?_; clear hK K))))
          all_goals
            refine wpQuiet_nil ?_
            intro _ hw'
            obtain ⟨⟨dq, osq⟩, hw''⟩ := hw'
            subst hw''
            have B4 := below_regrown W3 dq osq
            generalize grow (redrawn W3 dq) osq = W4 at *
            go_wp2_with fail
            go_ret
            go_light
            exact ⟨ret_bool (HNO1.out (by simp [fieldB, *])).out, HB.out.trans ((HBr.out.trans ((B3.mono HBr.out.size).trans (B4.mono (Nat.le_trans HBr.out.size B3.size)))).mono HB.out.size)⟩
      · have hks : k = t.kids.length := by omega
        have HE : Hid (true = structB W (fun k => isTypeB W most d k below) t) := by
          show _ = _
          rw [structB_yes e2 e3 e4 e5 (fun j h => hj.out j (by omega))]
        clear hj
        go_wp2
        go_ret
        go_light
        exact ⟨ret_bool HE.out, HB.out.trans (hbw.mono HB.out.size)⟩
  · have HE : Hid (false = structB W (fun k => isTypeB W most d k below) t) := by
      show _ = _
      rw [structB_head hhead]
    have HH := Lib.hid hhead; clear hhead
    go_enter Tryz.func24, Tryz.ntmps24
    go_wp2_with fail
    any_goals
      go_ret
      exact ⟨ret_bool HE.out, by go_grown⟩
    all_goals
      exfalso
      apply HH.out
      go_light
      exact ⟨by assumption, by assumption, by assumption, by omega⟩
end Go.Proofs.YtipmpeekfajlcaaGreatDoor
