/- What is proved: the contract of spec.IsObject. Conditions: the input lies in memory as trees. -/
import Derived.Test.YtipmpeekfajlcaaGreatDoorWc
namespace Go.Proofs.YtipmpeekfajlcaaGreatDoor
open Go.RowKit Go.Proofs Go.Sort Go.BigFrame

set_option maxRecDepth 100000 in
set_option maxHeartbeats 8000000 in
theorem isObject_type (W : WorldD) (pa da : Option Addr) (pc dc : Nat) (o : ObjD) (ka : Option Addr) (kc : Nat) (w : World) (hd : DeclsV w da dc W.decls) (hk : KidsV w ka kc o.ty.kids) (hf : o.Fits) (h1 : ¬ o.pkg < -1) (h2 : o.pkg < W.pkgs.length) (h3 : nameB o.name = true) (h4 : ¬ o.name.toList = [95]) (h5 : ¬ (o.top = true ∧ o.pkg < 0)) (hkd : o.kd.toList = [116, 121, 112, 101]) :
    Calls Tryz.prog 7 #[.agg #[.slice pa W.pkgs.length pc, .slice da W.decls.length dc], .agg #[.string o.kd, .int .i64 o.pkg, .bool o.top, .string o.name, .string o.ty.kd, .string o.ty.nm, .string o.ty.tg, .int .i64 o.ty.sz, .slice ka o.ty.kids.length kc, .int .i64 o.imp]] w (BoolSuch (ObjOk W o) w) := by
  have hl1 := hd.hcap
  have hl2 := hd.hmax
  have hf1 := hf.kd
  have hf2 := hf.lo
  have hf3 := hf.hi
  have hf4 := hf.name
  have hf5 := hf.ilo
  have hf6 := hf.ihi
  have HFT := Lib.hid hf.ty
  have HD := Lib.hid hd; clear hd
  have HK := Lib.hid hk; clear hk hf
  have cN : ∀ w, Calls Tryz.prog 12 #[.string o.name] w fun e w' => e = .returned (.bool (nameB o.name)) ∧ w = w' := fun w => isName_any _ w hf4
  have CN := Lib.hid cN; clear cN
  have g5 : (o.name.toList == [95]) = false := by simp [h4]
  have HOK : Hid (KindOk W o → ObjOk W o) := Lib.hid fun h => ⟨by omega, h2, h3, h4, fun ht => by
    by_cases hp : o.pkg < 0
    · exact absurd ⟨ht, hp⟩ h5
    · omega, h⟩
  rw [h3] at CN
  generalize htt : isTypeB W W.decls.length 8 o.ty false = tt
  have cT : ∀ w', Below w.heap.size w w' → Calls Tryz.prog 14 #[.agg #[.slice pa W.pkgs.length pc, .slice da W.decls.length dc], .agg #[.string o.ty.kd, .string o.ty.nm, .string o.ty.tg, .int .i64 o.ty.sz, .slice ka o.ty.kids.length kc]] w' (Gives (.bool tt) w') := fun w' hw => by
    rw [← htt]
    exact isTypeTop_any W pa da pc dc W.pkgs.length o.ty ka kc w' (HD.out.keep hw) (HK.out.keep hw) HFT.out
  have CT := Lib.hid cT; clear cT
  have HK1 : Hid (0 ≤ o.ty.sz → o.ty.sz < W.decls.length → (W.decl o.ty.sz.toNat).ali = false → (W.decl o.ty.sz.toNat).pkg = o.pkg → (W.decl o.ty.sz.toNat).name = o.name → KindOk W o) := Lib.hid fun a b c d e => .inr (.inr (.inr (.inr (.inr (.inl ⟨hkd, a, b, c, d, e⟩)))))
  have hin : o.ty.kd.toList = [110, 97, 109, 101, 100] → tt = true → 0 ≤ o.ty.sz ∧ o.ty.sz < W.decls.length := by
    intro h1 h2
    rw [← htt] at h2
    simp [isTypeB, h1, knownB] at h2
    omega
  clear h3 h4 htt
  have hpos : o.top = true → ¬ o.pkg < 0 := fun a b => h5 ⟨a, b⟩
  have g6 : (o.kd.toList == [116, 121, 112, 101]) = true := by simp [hkd]
  clear h5
  by_cases g7 : o.ty.kd.toList = [110, 97, 109, 101, 100]
  · have g8 : (o.ty.kd.toList == [110, 97, 109, 101, 100]) = true := by simp [g7]
    cases tt
    · clear hin g7
      by_cases ht : o.top = true
      · have h6 := hpos ht
        rw [ht]
        obtain ⟨W2, hW2⟩ : ∃ W2, W2 = ((w.alloc (.cells #[.slice pa W.pkgs.length pc, .slice da W.decls.length dc] 25)).alloc (.cells #[.string o.kd, .int .i64 o.pkg, .bool true, .string o.name, .string o.ty.kd, .string o.ty.nm, .string o.ty.tg, .int .i64 o.ty.sz, .slice ka o.ty.kids.length kc, .int .i64 o.imp] 30)) := ⟨_, rfl⟩
        have hb2 : Below w.heap.size w W2 := by rw [hW2]; exact twoNew _ _ _
        obtain ⟨e0, e1, e2, e3, e4, e5, e6, e7, e8, e9, k0, k1⟩ := objCells (w' := W2) (by rw [hW2]; exact Below.refl _ _)
        have HW2 := Lib.hid hW2
        have HB2 := Lib.hid hb2
        clear hW2 hb2
        go_enter Tryz.func7, Tryz.ntmps7
        go_wp2_with (go_at_call 12; refine (CN.out _).mono ?_; rintro e w' ⟨rfl, rfl⟩)
        rw [← HW2.out]
        have x0 := cell_regrown e0
        have x1 := cell_regrown e1
        have x3 := cell_regrown e3
        have x4 := cell_regrown e4
        have x5 := cell_regrown e5
        have x6 := cell_regrown e6
        have x7 := cell_regrown e7
        have x8 := cell_regrown e8
        have y0 := cell_regrown k0
        have y1 := cell_regrown k1
        have cT2 : ∀ dd os, Calls Tryz.prog 14 #[.agg #[.slice pa W.pkgs.length pc, .slice da W.decls.length dc], .agg #[.string o.ty.kd, .string o.ty.nm, .string o.ty.tg, .int .i64 o.ty.sz, .slice ka o.ty.kids.length kc]] (grow (redrawn W2 dd) os)
            fun e w'' => e = .returned (.bool false) ∧ ∃ p : Regrown, w'' = grow (redrawn W2 p.d) p.os := fun dd os => Calls.regrown_of (CT.out _ (HB2.out.trans ((below_regrown _ _ _).mono HB2.out.size)))
        have CT2 := Lib.hid cT2
        clear cT2 e0 e1 e2 e3 e4 e5 e6 e7 e8 e9 k0 k1
        refine wp_region_quiet_below (by kernel_rfl) (by kernel_rfl) ?_
        repeat (any_goals (first | go_big_quiet_step (with_reducible exact CT2.out _ _) | quiet_step (with_reducible exact CT2.out _ _)))
        all_goals
          refine wpQuiet_nil ?_
          intro _ hw'
          obtain ⟨⟨dq, osq⟩, hw''⟩ := hw'
          subst hw''
          have B4 := below_regrown W2 dq osq
          generalize grow (redrawn W2 dq) osq = W4 at *
          go_wp2
          go_ret
          go_light
          exact boolNo (HB2.out.trans (B4.mono HB2.out.size))
      · have ht2 : o.top = false := by simpa using ht
        rw [ht2]
        obtain ⟨W2, hW2⟩ : ∃ W2, W2 = ((w.alloc (.cells #[.slice pa W.pkgs.length pc, .slice da W.decls.length dc] 25)).alloc (.cells #[.string o.kd, .int .i64 o.pkg, .bool false, .string o.name, .string o.ty.kd, .string o.ty.nm, .string o.ty.tg, .int .i64 o.ty.sz, .slice ka o.ty.kids.length kc, .int .i64 o.imp] 30)) := ⟨_, rfl⟩
        have hb2 : Below w.heap.size w W2 := by rw [hW2]; exact twoNew _ _ _
        obtain ⟨e0, e1, e2, e3, e4, e5, e6, e7, e8, e9, k0, k1⟩ := objCells (w' := W2) (by rw [hW2]; exact Below.refl _ _)
        have HW2 := Lib.hid hW2
        have HB2 := Lib.hid hb2
        clear hW2 hb2
        go_enter Tryz.func7, Tryz.ntmps7
        go_wp2_with (go_at_call 12; refine (CN.out _).mono ?_; rintro e w' ⟨rfl, rfl⟩)
        rw [← HW2.out]
        have x0 := cell_regrown e0
        have x1 := cell_regrown e1
        have x3 := cell_regrown e3
        have x4 := cell_regrown e4
        have x5 := cell_regrown e5
        have x6 := cell_regrown e6
        have x7 := cell_regrown e7
        have x8 := cell_regrown e8
        have y0 := cell_regrown k0
        have y1 := cell_regrown k1
        have cT2 : ∀ dd os, Calls Tryz.prog 14 #[.agg #[.slice pa W.pkgs.length pc, .slice da W.decls.length dc], .agg #[.string o.ty.kd, .string o.ty.nm, .string o.ty.tg, .int .i64 o.ty.sz, .slice ka o.ty.kids.length kc]] (grow (redrawn W2 dd) os)
            fun e w'' => e = .returned (.bool false) ∧ ∃ p : Regrown, w'' = grow (redrawn W2 p.d) p.os := fun dd os => Calls.regrown_of (CT.out _ (HB2.out.trans ((below_regrown _ _ _).mono HB2.out.size)))
        have CT2 := Lib.hid cT2
        clear cT2 e0 e1 e2 e3 e4 e5 e6 e7 e8 e9 k0 k1
        refine wp_region_quiet_below (by kernel_rfl) (by kernel_rfl) ?_
        repeat (any_goals (first | go_big_quiet_step (with_reducible exact CT2.out _ _) | quiet_step (with_reducible exact CT2.out _ _)))
        all_goals
          refine wpQuiet_nil ?_
          intro _ hw'
          obtain ⟨⟨dq, osq⟩, hw''⟩ := hw'
          subst hw''
          have B4 := below_regrown W2 dq osq
          generalize grow (redrawn W2 dq) osq = W4 at *
          go_wp2
          go_ret
          go_light
          exact boolNo (HB2.out.trans (B4.mono HB2.out.size))
    · obtain ⟨hs1, hs2⟩ := hin g7 rfl
      clear hin g7
      obtain ⟨b, off, ka', kc', hda, c0, c1, c2, c3, c4, c5, c6, c7, hf', hk'⟩ := HD.out.at_ o.ty.sz.toNat _ (decl_at (by omega))
      subst hda
      have hbl := World.block_lt_of_cell? w _ c2
      simp only at hbl
      clear c3 c4 c5 c6 c7 hf' hk'
      have HK2 := Lib.hid (HK1.out hs1 hs2)
      clear HK1
      generalize W.decl o.ty.sz.toNat = dl at *
      by_cases a1 : dl.ali = true
      · rw [a1] at c2
        clear a1
        by_cases ht : o.top = true
        · have h6 := hpos ht
          rw [ht]
          obtain ⟨W2, hW2⟩ : ∃ W2, W2 = ((w.alloc (.cells #[.slice pa W.pkgs.length pc, .slice (some ⟨b, off, none⟩) W.decls.length dc] 25)).alloc (.cells #[.string o.kd, .int .i64 o.pkg, .bool true, .string o.name, .string o.ty.kd, .string o.ty.nm, .string o.ty.tg, .int .i64 o.ty.sz, .slice ka o.ty.kids.length kc, .int .i64 o.imp] 30)) := ⟨_, rfl⟩
          have hb2 : Below w.heap.size w W2 := by rw [hW2]; exact twoNew _ _ _
          obtain ⟨e0, e1, e2, e3, e4, e5, e6, e7, e8, e9, k0, k1⟩ := objCells (w' := W2) (by rw [hW2]; exact Below.refl _ _)
          have HW2 := Lib.hid hW2
          have HB2 := Lib.hid hb2
          clear hW2 hb2
          go_enter Tryz.func7, Tryz.ntmps7
          go_wp2_with (go_at_call 12; refine (CN.out _).mono ?_; rintro e w' ⟨rfl, rfl⟩)
          rw [← HW2.out]
          have x0 := cell_regrown e0
          have x1 := cell_regrown e1
          have x3 := cell_regrown e3
          have x4 := cell_regrown e4
          have x5 := cell_regrown e5
          have x6 := cell_regrown e6
          have x7 := cell_regrown e7
          have x8 := cell_regrown e8
          have y0 := cell_regrown k0
          have y1 := cell_regrown k1
          have D0 := cell_regrown (cell_below HB2.out c0)
          have D1 := cell_regrown (cell_below HB2.out c1)
          have D2 := cell_regrown (cell_below HB2.out c2)
          clear c0 c1 c2
          have cT2 : ∀ dd os, Calls Tryz.prog 14 #[.agg #[.slice pa W.pkgs.length pc, .slice (some ⟨b, off, none⟩) W.decls.length dc], .agg #[.string o.ty.kd, .string o.ty.nm, .string o.ty.tg, .int .i64 o.ty.sz, .slice ka o.ty.kids.length kc]] (grow (redrawn W2 dd) os)
              fun e w'' => e = .returned (.bool true) ∧ ∃ p : Regrown, w'' = grow (redrawn W2 p.d) p.os := fun dd os => Calls.regrown_of (CT.out _ (HB2.out.trans ((below_regrown _ _ _).mono HB2.out.size)))
          have CT2 := Lib.hid cT2
          clear cT2 e0 e1 e2 e3 e4 e5 e6 e7 e8 e9 k0 k1
          refine wp_region_quiet_below (by kernel_rfl) (by kernel_rfl) ?_
          repeat (any_goals (first | go_big_quiet_step (with_reducible exact CT2.out _ _) | quiet_step (with_reducible exact CT2.out _ _)))
          all_goals
            refine wpQuiet_nil ?_
            intro _ hw'
            obtain ⟨⟨dq, osq⟩, hw''⟩ := hw'
            subst hw''
            have B4 := below_regrown W2 dq osq
            generalize grow (redrawn W2 dq) osq = W4 at *
            go_wp2
            go_ret
            go_light
            exact boolNo (HB2.out.trans (B4.mono HB2.out.size))
        · have ht2 : o.top = false := by simpa using ht
          rw [ht2]
          obtain ⟨W2, hW2⟩ : ∃ W2, W2 = ((w.alloc (.cells #[.slice pa W.pkgs.length pc, .slice (some ⟨b, off, none⟩) W.decls.length dc] 25)).alloc (.cells #[.string o.kd, .int .i64 o.pkg, .bool false, .string o.name, .string o.ty.kd, .string o.ty.nm, .string o.ty.tg, .int .i64 o.ty.sz, .slice ka o.ty.kids.length kc, .int .i64 o.imp] 30)) := ⟨_, rfl⟩
          have hb2 : Below w.heap.size w W2 := by rw [hW2]; exact twoNew _ _ _
          obtain ⟨e0, e1, e2, e3, e4, e5, e6, e7, e8, e9, k0, k1⟩ := objCells (w' := W2) (by rw [hW2]; exact Below.refl _ _)
          have HW2 := Lib.hid hW2
          have HB2 := Lib.hid hb2
          clear hW2 hb2
          go_enter Tryz.func7, Tryz.ntmps7
          go_wp2_with (go_at_call 12; refine (CN.out _).mono ?_; rintro e w' ⟨rfl, rfl⟩)
          rw [← HW2.out]
          have x0 := cell_regrown e0
          have x1 := cell_regrown e1
          have x3 := cell_regrown e3
          have x4 := cell_regrown e4
          have x5 := cell_regrown e5
          have x6 := cell_regrown e6
          have x7 := cell_regrown e7
          have x8 := cell_regrown e8
          have y0 := cell_regrown k0
          have y1 := cell_regrown k1
          have D0 := cell_regrown (cell_below HB2.out c0)
          have D1 := cell_regrown (cell_below HB2.out c1)
          have D2 := cell_regrown (cell_below HB2.out c2)
          clear c0 c1 c2
          have cT2 : ∀ dd os, Calls Tryz.prog 14 #[.agg #[.slice pa W.pkgs.length pc, .slice (some ⟨b, off, none⟩) W.decls.length dc], .agg #[.string o.ty.kd, .string o.ty.nm, .string o.ty.tg, .int .i64 o.ty.sz, .slice ka o.ty.kids.length kc]] (grow (redrawn W2 dd) os)
              fun e w'' => e = .returned (.bool true) ∧ ∃ p : Regrown, w'' = grow (redrawn W2 p.d) p.os := fun dd os => Calls.regrown_of (CT.out _ (HB2.out.trans ((below_regrown _ _ _).mono HB2.out.size)))
          have CT2 := Lib.hid cT2
          clear cT2 e0 e1 e2 e3 e4 e5 e6 e7 e8 e9 k0 k1
          refine wp_region_quiet_below (by kernel_rfl) (by kernel_rfl) ?_
          repeat (any_goals (first | go_big_quiet_step (with_reducible exact CT2.out _ _) | quiet_step (with_reducible exact CT2.out _ _)))
          all_goals
            refine wpQuiet_nil ?_
            intro _ hw'
            obtain ⟨⟨dq, osq⟩, hw''⟩ := hw'
            subst hw''
            have B4 := below_regrown W2 dq osq
            generalize grow (redrawn W2 dq) osq = W4 at *
            go_wp2
            go_ret
            go_light
            exact boolNo (HB2.out.trans (B4.mono HB2.out.size))
      have a2 : dl.ali = false := by simpa using a1
      rw [a2] at c2
      by_cases a3 : dl.pkg = o.pkg
      · by_cases a4 : dl.name.toList = o.name.toList
        · have a5 : (dl.name.toList == o.name.toList) = true := by simp [a4]
          have HK3 := Lib.hid (HK2.out a2 a3 (ByteArray.ext (Array.toList_inj.mp (by rw [← ByteArray.toList_eq, ← ByteArray.toList_eq]; exact a4))))
          rw [a3] at c0
          clear a1 a2 a3 a4 HK2
          by_cases ht : o.top = true
          · have h6 := hpos ht
            rw [ht]
            obtain ⟨W2, hW2⟩ : ∃ W2, W2 = ((w.alloc (.cells #[.slice pa W.pkgs.length pc, .slice (some ⟨b, off, none⟩) W.decls.length dc] 25)).alloc (.cells #[.string o.kd, .int .i64 o.pkg, .bool true, .string o.name, .string o.ty.kd, .string o.ty.nm, .string o.ty.tg, .int .i64 o.ty.sz, .slice ka o.ty.kids.length kc, .int .i64 o.imp] 30)) := ⟨_, rfl⟩
            have hb2 : Below w.heap.size w W2 := by rw [hW2]; exact twoNew _ _ _
            obtain ⟨e0, e1, e2, e3, e4, e5, e6, e7, e8, e9, k0, k1⟩ := objCells (w' := W2) (by rw [hW2]; exact Below.refl _ _)
            have HW2 := Lib.hid hW2
            have HB2 := Lib.hid hb2
            clear hW2 hb2
            go_enter Tryz.func7, Tryz.ntmps7
            go_wp2_with (go_at_call 12; refine (CN.out _).mono ?_; rintro e w' ⟨rfl, rfl⟩)
            rw [← HW2.out]
            have x0 := cell_regrown e0
            have x1 := cell_regrown e1
            have x3 := cell_regrown e3
            have x4 := cell_regrown e4
            have x5 := cell_regrown e5
            have x6 := cell_regrown e6
            have x7 := cell_regrown e7
            have x8 := cell_regrown e8
            have y0 := cell_regrown k0
            have y1 := cell_regrown k1
            have D0 := cell_regrown (cell_below HB2.out c0)
            have D1 := cell_regrown (cell_below HB2.out c1)
            have D2 := cell_regrown (cell_below HB2.out c2)
            clear c0 c1 c2
            have cT2 : ∀ dd os, Calls Tryz.prog 14 #[.agg #[.slice pa W.pkgs.length pc, .slice (some ⟨b, off, none⟩) W.decls.length dc], .agg #[.string o.ty.kd, .string o.ty.nm, .string o.ty.tg, .int .i64 o.ty.sz, .slice ka o.ty.kids.length kc]] (grow (redrawn W2 dd) os)
                fun e w'' => e = .returned (.bool true) ∧ ∃ p : Regrown, w'' = grow (redrawn W2 p.d) p.os := fun dd os => Calls.regrown_of (CT.out _ (HB2.out.trans ((below_regrown _ _ _).mono HB2.out.size)))
            have CT2 := Lib.hid cT2
            clear cT2 e0 e1 e2 e3 e4 e5 e6 e7 e8 e9 k0 k1
            refine wp_region_quiet_below (by kernel_rfl) (by kernel_rfl) ?_
            repeat (any_goals (first | go_big_quiet_step (with_reducible exact CT2.out _ _) | quiet_step (with_reducible exact CT2.out _ _)))
            all_goals
              refine wpQuiet_nil ?_
              intro _ hw'
              obtain ⟨⟨dq, osq⟩, hw''⟩ := hw'
              subst hw''
              have B4 := below_regrown W2 dq osq
              generalize grow (redrawn W2 dq) osq = W4 at *
              go_wp2
              go_ret
              go_light
              exact ⟨_, rfl, fun _ => HOK.out HK3.out, HB2.out.trans (B4.mono HB2.out.size)⟩
          · have ht2 : o.top = false := by simpa using ht
            rw [ht2]
            obtain ⟨W2, hW2⟩ : ∃ W2, W2 = ((w.alloc (.cells #[.slice pa W.pkgs.length pc, .slice (some ⟨b, off, none⟩) W.decls.length dc] 25)).alloc (.cells #[.string o.kd, .int .i64 o.pkg, .bool false, .string o.name, .string o.ty.kd, .string o.ty.nm, .string o.ty.tg, .int .i64 o.ty.sz, .slice ka o.ty.kids.length kc, .int .i64 o.imp] 30)) := ⟨_, rfl⟩
            have hb2 : Below w.heap.size w W2 := by rw [hW2]; exact twoNew _ _ _
            obtain ⟨e0, e1, e2, e3, e4, e5, e6, e7, e8, e9, k0, k1⟩ := objCells (w' := W2) (by rw [hW2]; exact Below.refl _ _)
            have HW2 := Lib.hid hW2
            have HB2 := Lib.hid hb2
            clear hW2 hb2
            go_enter Tryz.func7, Tryz.ntmps7
            go_wp2_with (go_at_call 12; refine (CN.out _).mono ?_; rintro e w' ⟨rfl, rfl⟩)
            rw [← HW2.out]
            have x0 := cell_regrown e0
            have x1 := cell_regrown e1
            have x3 := cell_regrown e3
            have x4 := cell_regrown e4
            have x5 := cell_regrown e5
            have x6 := cell_regrown e6
            have x7 := cell_regrown e7
            have x8 := cell_regrown e8
            have y0 := cell_regrown k0
            have y1 := cell_regrown k1
            have D0 := cell_regrown (cell_below HB2.out c0)
            have D1 := cell_regrown (cell_below HB2.out c1)
            have D2 := cell_regrown (cell_below HB2.out c2)
            clear c0 c1 c2
            have cT2 : ∀ dd os, Calls Tryz.prog 14 #[.agg #[.slice pa W.pkgs.length pc, .slice (some ⟨b, off, none⟩) W.decls.length dc], .agg #[.string o.ty.kd, .string o.ty.nm, .string o.ty.tg, .int .i64 o.ty.sz, .slice ka o.ty.kids.length kc]] (grow (redrawn W2 dd) os)
                fun e w'' => e = .returned (.bool true) ∧ ∃ p : Regrown, w'' = grow (redrawn W2 p.d) p.os := fun dd os => Calls.regrown_of (CT.out _ (HB2.out.trans ((below_regrown _ _ _).mono HB2.out.size)))
            have CT2 := Lib.hid cT2
            clear cT2 e0 e1 e2 e3 e4 e5 e6 e7 e8 e9 k0 k1
            refine wp_region_quiet_below (by kernel_rfl) (by kernel_rfl) ?_
            repeat (any_goals (first | go_big_quiet_step (with_reducible exact CT2.out _ _) | quiet_step (with_reducible exact CT2.out _ _)))
            all_goals
              refine wpQuiet_nil ?_
              intro _ hw'
              obtain ⟨⟨dq, osq⟩, hw''⟩ := hw'
              subst hw''
              have B4 := below_regrown W2 dq osq
              generalize grow (redrawn W2 dq) osq = W4 at *
              go_wp2
              go_ret
              go_light
              exact ⟨_, rfl, fun _ => HOK.out HK3.out, HB2.out.trans (B4.mono HB2.out.size)⟩
        · have a5 : (dl.name.toList == o.name.toList) = false := by simp [a4]
          rw [a3] at c0
          clear a1 a2 a3 a4 HK2
          by_cases ht : o.top = true
          · have h6 := hpos ht
            rw [ht]
            obtain ⟨W2, hW2⟩ : ∃ W2, W2 = ((w.alloc (.cells #[.slice pa W.pkgs.length pc, .slice (some ⟨b, off, none⟩) W.decls.length dc] 25)).alloc (.cells #[.string o.kd, .int .i64 o.pkg, .bool true, .string o.name, .string o.ty.kd, .string o.ty.nm, .string o.ty.tg, .int .i64 o.ty.sz, .slice ka o.ty.kids.length kc, .int .i64 o.imp] 30)) := ⟨_, rfl⟩
            have hb2 : Below w.heap.size w W2 := by rw [hW2]; exact twoNew _ _ _
            obtain ⟨e0, e1, e2, e3, e4, e5, e6, e7, e8, e9, k0, k1⟩ := objCells (w' := W2) (by rw [hW2]; exact Below.refl _ _)
            have HW2 := Lib.hid hW2
            have HB2 := Lib.hid hb2
            clear hW2 hb2
            go_enter Tryz.func7, Tryz.ntmps7
            go_wp2_with (go_at_call 12; refine (CN.out _).mono ?_; rintro e w' ⟨rfl, rfl⟩)
            rw [← HW2.out]
            have x0 := cell_regrown e0
            have x1 := cell_regrown e1
            have x3 := cell_regrown e3
            have x4 := cell_regrown e4
            have x5 := cell_regrown e5
            have x6 := cell_regrown e6
            have x7 := cell_regrown e7
            have x8 := cell_regrown e8
            have y0 := cell_regrown k0
            have y1 := cell_regrown k1
            have D0 := cell_regrown (cell_below HB2.out c0)
            have D1 := cell_regrown (cell_below HB2.out c1)
            have D2 := cell_regrown (cell_below HB2.out c2)
            clear c0 c1 c2
            have cT2 : ∀ dd os, Calls Tryz.prog 14 #[.agg #[.slice pa W.pkgs.length pc, .slice (some ⟨b, off, none⟩) W.decls.length dc], .agg #[.string o.ty.kd, .string o.ty.nm, .string o.ty.tg, .int .i64 o.ty.sz, .slice ka o.ty.kids.length kc]] (grow (redrawn W2 dd) os)
                fun e w'' => e = .returned (.bool true) ∧ ∃ p : Regrown, w'' = grow (redrawn W2 p.d) p.os := fun dd os => Calls.regrown_of (CT.out _ (HB2.out.trans ((below_regrown _ _ _).mono HB2.out.size)))
            have CT2 := Lib.hid cT2
            clear cT2 e0 e1 e2 e3 e4 e5 e6 e7 e8 e9 k0 k1
            refine wp_region_quiet_below (by kernel_rfl) (by kernel_rfl) ?_
            repeat (any_goals (first | go_big_quiet_step (with_reducible exact CT2.out _ _) | quiet_step (with_reducible exact CT2.out _ _)))
            all_goals
              refine wpQuiet_nil ?_
              intro _ hw'
              obtain ⟨⟨dq, osq⟩, hw''⟩ := hw'
              subst hw''
              have B4 := below_regrown W2 dq osq
              generalize grow (redrawn W2 dq) osq = W4 at *
              go_wp2
              go_ret
              go_light
              exact boolNo (HB2.out.trans (B4.mono HB2.out.size))
          · have ht2 : o.top = false := by simpa using ht
            rw [ht2]
            obtain ⟨W2, hW2⟩ : ∃ W2, W2 = ((w.alloc (.cells #[.slice pa W.pkgs.length pc, .slice (some ⟨b, off, none⟩) W.decls.length dc] 25)).alloc (.cells #[.string o.kd, .int .i64 o.pkg, .bool false, .string o.name, .string o.ty.kd, .string o.ty.nm, .string o.ty.tg, .int .i64 o.ty.sz, .slice ka o.ty.kids.length kc, .int .i64 o.imp] 30)) := ⟨_, rfl⟩
            have hb2 : Below w.heap.size w W2 := by rw [hW2]; exact twoNew _ _ _
            obtain ⟨e0, e1, e2, e3, e4, e5, e6, e7, e8, e9, k0, k1⟩ := objCells (w' := W2) (by rw [hW2]; exact Below.refl _ _)
            have HW2 := Lib.hid hW2
            have HB2 := Lib.hid hb2
            clear hW2 hb2
            go_enter Tryz.func7, Tryz.ntmps7
            go_wp2_with (go_at_call 12; refine (CN.out _).mono ?_; rintro e w' ⟨rfl, rfl⟩)
            rw [← HW2.out]
            have x0 := cell_regrown e0
            have x1 := cell_regrown e1
            have x3 := cell_regrown e3
            have x4 := cell_regrown e4
            have x5 := cell_regrown e5
            have x6 := cell_regrown e6
            have x7 := cell_regrown e7
            have x8 := cell_regrown e8
            have y0 := cell_regrown k0
            have y1 := cell_regrown k1
            have D0 := cell_regrown (cell_below HB2.out c0)
            have D1 := cell_regrown (cell_below HB2.out c1)
            have D2 := cell_regrown (cell_below HB2.out c2)
            clear c0 c1 c2
            have cT2 : ∀ dd os, Calls Tryz.prog 14 #[.agg #[.slice pa W.pkgs.length pc, .slice (some ⟨b, off, none⟩) W.decls.length dc], .agg #[.string o.ty.kd, .string o.ty.nm, .string o.ty.tg, .int .i64 o.ty.sz, .slice ka o.ty.kids.length kc]] (grow (redrawn W2 dd) os)
                fun e w'' => e = .returned (.bool true) ∧ ∃ p : Regrown, w'' = grow (redrawn W2 p.d) p.os := fun dd os => Calls.regrown_of (CT.out _ (HB2.out.trans ((below_regrown _ _ _).mono HB2.out.size)))
            have CT2 := Lib.hid cT2
            clear cT2 e0 e1 e2 e3 e4 e5 e6 e7 e8 e9 k0 k1
            refine wp_region_quiet_below (by kernel_rfl) (by kernel_rfl) ?_
            repeat (any_goals (first | go_big_quiet_step (with_reducible exact CT2.out _ _) | quiet_step (with_reducible exact CT2.out _ _)))
            all_goals
              refine wpQuiet_nil ?_
              intro _ hw'
              obtain ⟨⟨dq, osq⟩, hw''⟩ := hw'
              subst hw''
              have B4 := below_regrown W2 dq osq
              generalize grow (redrawn W2 dq) osq = W4 at *
              go_wp2
              go_ret
              go_light
              exact boolNo (HB2.out.trans (B4.mono HB2.out.size))
      · clear a1 a2 HK2
        by_cases ht : o.top = true
        · have h6 := hpos ht
          rw [ht]
          obtain ⟨W2, hW2⟩ : ∃ W2, W2 = ((w.alloc (.cells #[.slice pa W.pkgs.length pc, .slice (some ⟨b, off, none⟩) W.decls.length dc] 25)).alloc (.cells #[.string o.kd, .int .i64 o.pkg, .bool true, .string o.name, .string o.ty.kd, .string o.ty.nm, .string o.ty.tg, .int .i64 o.ty.sz, .slice ka o.ty.kids.length kc, .int .i64 o.imp] 30)) := ⟨_, rfl⟩
          have hb2 : Below w.heap.size w W2 := by rw [hW2]; exact twoNew _ _ _
          obtain ⟨e0, e1, e2, e3, e4, e5, e6, e7, e8, e9, k0, k1⟩ := objCells (w' := W2) (by rw [hW2]; exact Below.refl _ _)
          have HW2 := Lib.hid hW2
          have HB2 := Lib.hid hb2
          clear hW2 hb2
          go_enter Tryz.func7, Tryz.ntmps7
          go_wp2_with (go_at_call 12; refine (CN.out _).mono ?_; rintro e w' ⟨rfl, rfl⟩)
          rw [← HW2.out]
          have x0 := cell_regrown e0
          have x1 := cell_regrown e1
          have x3 := cell_regrown e3
          have x4 := cell_regrown e4
          have x5 := cell_regrown e5
          have x6 := cell_regrown e6
          have x7 := cell_regrown e7
          have x8 := cell_regrown e8
          have y0 := cell_regrown k0
          have y1 := cell_regrown k1
          have D0 := cell_regrown (cell_below HB2.out c0)
          have D1 := cell_regrown (cell_below HB2.out c1)
          have D2 := cell_regrown (cell_below HB2.out c2)
          clear c0 c1 c2
          have cT2 : ∀ dd os, Calls Tryz.prog 14 #[.agg #[.slice pa W.pkgs.length pc, .slice (some ⟨b, off, none⟩) W.decls.length dc], .agg #[.string o.ty.kd, .string o.ty.nm, .string o.ty.tg, .int .i64 o.ty.sz, .slice ka o.ty.kids.length kc]] (grow (redrawn W2 dd) os)
              fun e w'' => e = .returned (.bool true) ∧ ∃ p : Regrown, w'' = grow (redrawn W2 p.d) p.os := fun dd os => Calls.regrown_of (CT.out _ (HB2.out.trans ((below_regrown _ _ _).mono HB2.out.size)))
          have CT2 := Lib.hid cT2
          clear cT2 e0 e1 e2 e3 e4 e5 e6 e7 e8 e9 k0 k1
          refine wp_region_quiet_below (by kernel_rfl) (by kernel_rfl) ?_
          repeat (any_goals (first | go_big_quiet_step (with_reducible exact CT2.out _ _) | quiet_step (with_reducible exact CT2.out _ _)))
          all_goals
            refine wpQuiet_nil ?_
            intro _ hw'
            obtain ⟨⟨dq, osq⟩, hw''⟩ := hw'
            subst hw''
            have B4 := below_regrown W2 dq osq
            generalize grow (redrawn W2 dq) osq = W4 at *
            go_wp2
            go_ret
            go_light
            exact boolNo (HB2.out.trans (B4.mono HB2.out.size))
        · have ht2 : o.top = false := by simpa using ht
          rw [ht2]
          obtain ⟨W2, hW2⟩ : ∃ W2, W2 = ((w.alloc (.cells #[.slice pa W.pkgs.length pc, .slice (some ⟨b, off, none⟩) W.decls.length dc] 25)).alloc (.cells #[.string o.kd, .int .i64 o.pkg, .bool false, .string o.name, .string o.ty.kd, .string o.ty.nm, .string o.ty.tg, .int .i64 o.ty.sz, .slice ka o.ty.kids.length kc, .int .i64 o.imp] 30)) := ⟨_, rfl⟩
          have hb2 : Below w.heap.size w W2 := by rw [hW2]; exact twoNew _ _ _
          obtain ⟨e0, e1, e2, e3, e4, e5, e6, e7, e8, e9, k0, k1⟩ := objCells (w' := W2) (by rw [hW2]; exact Below.refl _ _)
          have HW2 := Lib.hid hW2
          have HB2 := Lib.hid hb2
          clear hW2 hb2
          go_enter Tryz.func7, Tryz.ntmps7
          go_wp2_with (go_at_call 12; refine (CN.out _).mono ?_; rintro e w' ⟨rfl, rfl⟩)
          rw [← HW2.out]
          have x0 := cell_regrown e0
          have x1 := cell_regrown e1
          have x3 := cell_regrown e3
          have x4 := cell_regrown e4
          have x5 := cell_regrown e5
          have x6 := cell_regrown e6
          have x7 := cell_regrown e7
          have x8 := cell_regrown e8
          have y0 := cell_regrown k0
          have y1 := cell_regrown k1
          have D0 := cell_regrown (cell_below HB2.out c0)
          have D1 := cell_regrown (cell_below HB2.out c1)
          have D2 := cell_regrown (cell_below HB2.out c2)
          clear c0 c1 c2
          have cT2 : ∀ dd os, Calls Tryz.prog 14 #[.agg #[.slice pa W.pkgs.length pc, .slice (some ⟨b, off, none⟩) W.decls.length dc], .agg #[.string o.ty.kd, .string o.ty.nm, .string o.ty.tg, .int .i64 o.ty.sz, .slice ka o.ty.kids.length kc]] (grow (redrawn W2 dd) os)
              fun e w'' => e = .returned (.bool true) ∧ ∃ p : Regrown, w'' = grow (redrawn W2 p.d) p.os := fun dd os => Calls.regrown_of (CT.out _ (HB2.out.trans ((below_regrown _ _ _).mono HB2.out.size)))
          have CT2 := Lib.hid cT2
          clear cT2 e0 e1 e2 e3 e4 e5 e6 e7 e8 e9 k0 k1
          refine wp_region_quiet_below (by kernel_rfl) (by kernel_rfl) ?_
          repeat (any_goals (first | go_big_quiet_step (with_reducible exact CT2.out _ _) | quiet_step (with_reducible exact CT2.out _ _)))
          all_goals
            refine wpQuiet_nil ?_
            intro _ hw'
            obtain ⟨⟨dq, osq⟩, hw''⟩ := hw'
            subst hw''
            have B4 := below_regrown W2 dq osq
            generalize grow (redrawn W2 dq) osq = W4 at *
            go_wp2
            go_ret
            go_light
            exact boolNo (HB2.out.trans (B4.mono HB2.out.size))
  · have g8 : (o.ty.kd.toList == [110, 97, 109, 101, 100]) = false := by simp [g7]
    clear hin g7
    by_cases ht : o.top = true
    · have h6 := hpos ht
      rw [ht]
      obtain ⟨W2, hW2⟩ : ∃ W2, W2 = ((w.alloc (.cells #[.slice pa W.pkgs.length pc, .slice da W.decls.length dc] 25)).alloc (.cells #[.string o.kd, .int .i64 o.pkg, .bool true, .string o.name, .string o.ty.kd, .string o.ty.nm, .string o.ty.tg, .int .i64 o.ty.sz, .slice ka o.ty.kids.length kc, .int .i64 o.imp] 30)) := ⟨_, rfl⟩
      have hb2 : Below w.heap.size w W2 := by rw [hW2]; exact twoNew _ _ _
      obtain ⟨e0, e1, e2, e3, e4, e5, e6, e7, e8, e9, k0, k1⟩ := objCells (w' := W2) (by rw [hW2]; exact Below.refl _ _)
      have HW2 := Lib.hid hW2
      have HB2 := Lib.hid hb2
      clear hW2 hb2
      go_enter Tryz.func7, Tryz.ntmps7
      go_wp2_with (go_at_call 12; refine (CN.out _).mono ?_; rintro e w' ⟨rfl, rfl⟩)
      rw [← HW2.out]
      have x0 := cell_regrown e0
      have x1 := cell_regrown e1
      have x3 := cell_regrown e3
      have x4 := cell_regrown e4
      have x5 := cell_regrown e5
      have x6 := cell_regrown e6
      have x7 := cell_regrown e7
      have x8 := cell_regrown e8
      have y0 := cell_regrown k0
      have y1 := cell_regrown k1
      have cT2 : ∀ dd os, Calls Tryz.prog 14 #[.agg #[.slice pa W.pkgs.length pc, .slice da W.decls.length dc], .agg #[.string o.ty.kd, .string o.ty.nm, .string o.ty.tg, .int .i64 o.ty.sz, .slice ka o.ty.kids.length kc]] (grow (redrawn W2 dd) os)
          fun e w'' => e = .returned (.bool tt) ∧ ∃ p : Regrown, w'' = grow (redrawn W2 p.d) p.os := fun dd os => Calls.regrown_of (CT.out _ (HB2.out.trans ((below_regrown _ _ _).mono HB2.out.size)))
      have CT2 := Lib.hid cT2
      clear cT2 e0 e1 e2 e3 e4 e5 e6 e7 e8 e9 k0 k1
      refine wp_region_quiet_below (by kernel_rfl) (by kernel_rfl) ?_
      repeat (any_goals (first | go_big_quiet_step (with_reducible exact CT2.out _ _) | quiet_step (with_reducible exact CT2.out _ _)))
      all_goals
        refine wpQuiet_nil ?_
        intro _ hw'
        obtain ⟨⟨dq, osq⟩, hw''⟩ := hw'
        subst hw''
        have B4 := below_regrown W2 dq osq
        generalize grow (redrawn W2 dq) osq = W4 at *
        go_wp2
        go_ret
        go_light
        exact boolNo (HB2.out.trans (B4.mono HB2.out.size))
    · have ht2 : o.top = false := by simpa using ht
      rw [ht2]
      obtain ⟨W2, hW2⟩ : ∃ W2, W2 = ((w.alloc (.cells #[.slice pa W.pkgs.length pc, .slice da W.decls.length dc] 25)).alloc (.cells #[.string o.kd, .int .i64 o.pkg, .bool false, .string o.name, .string o.ty.kd, .string o.ty.nm, .string o.ty.tg, .int .i64 o.ty.sz, .slice ka o.ty.kids.length kc, .int .i64 o.imp] 30)) := ⟨_, rfl⟩
      have hb2 : Below w.heap.size w W2 := by rw [hW2]; exact twoNew _ _ _
      obtain ⟨e0, e1, e2, e3, e4, e5, e6, e7, e8, e9, k0, k1⟩ := objCells (w' := W2) (by rw [hW2]; exact Below.refl _ _)
      have HW2 := Lib.hid hW2
      have HB2 := Lib.hid hb2
      clear hW2 hb2
      go_enter Tryz.func7, Tryz.ntmps7
      go_wp2_with (go_at_call 12; refine (CN.out _).mono ?_; rintro e w' ⟨rfl, rfl⟩)
      rw [← HW2.out]
      have x0 := cell_regrown e0
      have x1 := cell_regrown e1
      have x3 := cell_regrown e3
      have x4 := cell_regrown e4
      have x5 := cell_regrown e5
      have x6 := cell_regrown e6
      have x7 := cell_regrown e7
      have x8 := cell_regrown e8
      have y0 := cell_regrown k0
      have y1 := cell_regrown k1
      have cT2 : ∀ dd os, Calls Tryz.prog 14 #[.agg #[.slice pa W.pkgs.length pc, .slice da W.decls.length dc], .agg #[.string o.ty.kd, .string o.ty.nm, .string o.ty.tg, .int .i64 o.ty.sz, .slice ka o.ty.kids.length kc]] (grow (redrawn W2 dd) os)
          fun e w'' => e = .returned (.bool tt) ∧ ∃ p : Regrown, w'' = grow (redrawn W2 p.d) p.os := fun dd os => Calls.regrown_of (CT.out _ (HB2.out.trans ((below_regrown _ _ _).mono HB2.out.size)))
      have CT2 := Lib.hid cT2
      clear cT2 e0 e1 e2 e3 e4 e5 e6 e7 e8 e9 k0 k1
      refine wp_region_quiet_below (by kernel_rfl) (by kernel_rfl) ?_
      repeat (any_goals (first | go_big_quiet_step (with_reducible exact CT2.out _ _) | quiet_step (with_reducible exact CT2.out _ _)))
      all_goals
        refine wpQuiet_nil ?_
        intro _ hw'
        obtain ⟨⟨dq, osq⟩, hw''⟩ := hw'
        subst hw''
        have B4 := below_regrown W2 dq osq
        generalize grow (redrawn W2 dq) osq = W4 at *
        go_wp2
        go_ret
        go_light
        exact boolNo (HB2.out.trans (B4.mono HB2.out.size))

end Go.Proofs.YtipmpeekfajlcaaGreatDoor
