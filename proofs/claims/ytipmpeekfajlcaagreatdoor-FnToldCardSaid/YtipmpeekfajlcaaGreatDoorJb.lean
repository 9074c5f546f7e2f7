/- What is proved: the contract of impl's object, by the kinds of objects. Conditions: what build makes lies, the object is one, of a package. -/
import Derived.Test.YtipmpeekfajlcaaGreatDoorJa
namespace Go.Proofs.YtipmpeekfajlcaaGreatDoor
open Go.RowKit Go.Proofs Go.Sort Go.BigFrame

set_option maxRecDepth 100000 in
set_option maxHeartbeats 16000000 in
theorem object_var (W : WorldD) (B mb : Nat) (bc : Array Value) (o : ObjD) (ka : Option Addr) (kc : Nat) (w : World) (hL : L3 W B mb bc w W.decls.length) (hBw : B ≤ w.heap.size) (hpr : PropsAt w) (hk : KidsV w ka kc o.ty.kids) (hf : o.Fits) (hpos : 0 ≤ o.pkg) (hpk : o.pkg < W.pkgs.length)
    (hkd : o.kd.toList = [118, 97, 114]) (hty : isTypeB W W.decls.length 8 o.ty false = true) :
    Calls Tryz.prog 17 #[.pointer (some ⟨mb, 0, none⟩), .agg #[.string o.kd, .int .i64 o.pkg, .bool o.top, .string o.name, .string o.ty.kd, .string o.ty.nm, .string o.ty.tg, .int .i64 o.ty.sz, .slice ka o.ty.kids.length kc, .int .i64 o.imp]] w (ObjGives B o.name (W.pkg o.pkg.toNat).path w) := by
  obtain ⟨S, vp, vn, vd, xs, ys, zs, hst, _, _, _⟩ := hL
  have hl1 := hk.len.1
  have hl2 := hk.len.2
  have hp1 := hf.lo
  have hp2 := hf.hi
  obtain ⟨W2, hW2⟩ : ∃ W2, W2 = (w.alloc (.cells #[.string o.kd, .int .i64 o.pkg, .bool o.top, .string o.name, .string o.ty.kd, .string o.ty.nm, .string o.ty.tg, .int .i64 o.ty.sz, .slice ka o.ty.kids.length kc, .int .i64 o.imp] 30)) := ⟨_, rfl⟩
  have hb : Below w.heap.size w W2 := by rw [hW2]; exact (Below.refl _ _).alloc (Nat.le_refl _) _
  have n0 : W2.cell? ⟨w.heap.size, 0, none⟩ = some (.string o.kd) := by rw [hW2]; simp
  have n1 : W2.cell? ⟨w.heap.size, 1, none⟩ = some (.int .i64 o.pkg) := by rw [hW2]; simp
  have n2 : W2.cell? ⟨w.heap.size, 2, none⟩ = some (.bool o.top) := by rw [hW2]; simp
  have n3 : W2.cell? ⟨w.heap.size, 3, none⟩ = some (.string o.name) := by rw [hW2]; simp
  have n4 : W2.cell? ⟨w.heap.size, 4, none⟩ = some (.string o.ty.kd) := by rw [hW2]; simp
  have n5 : W2.cell? ⟨w.heap.size, 5, none⟩ = some (.string o.ty.nm) := by rw [hW2]; simp
  have n6 : W2.cell? ⟨w.heap.size, 6, none⟩ = some (.string o.ty.tg) := by rw [hW2]; simp
  have n7 : W2.cell? ⟨w.heap.size, 7, none⟩ = some (.int .i64 o.ty.sz) := by rw [hW2]; simp
  have n8 : W2.cell? ⟨w.heap.size, 8, none⟩ = some (.slice ka o.ty.kids.length kc) := by rw [hW2]; simp
  have n9 : W2.cell? ⟨w.heap.size, 9, none⟩ = some (.int .i64 o.imp) := by rw [hW2]; simp
  have hst2 := hst.below hb
  have CP : Hid (Calls Tryz.prog 30 #[.pointer (some ⟨mb, 0, none⟩), .int .i64 o.pkg] (w.alloc (.cells #[.string o.kd, .int .i64 o.pkg, .bool o.top, .string o.name, .string o.ty.kd, .string o.ty.nm, .string o.ty.tg, .int .i64 o.ty.sz, .slice ka o.ty.kids.length kc, .int .i64 o.imp] 30)) fun e w' => ∃ q, e = .returned (.pointer q) ∧ (w.alloc (.cells #[.string o.kd, .int .i64 o.pkg, .bool o.top, .string o.name, .string o.ty.kd, .string o.ty.nm, .string o.ty.tg, .int .i64 o.ty.sz, .slice ka o.ty.kids.length kc, .int .i64 o.imp] 30)) = w' ∧ PkgQ W B W2 o.pkg q ∧ (o.pkg < 0 → q = none)) := by
    show Calls _ _ _ _ _
    rw [← hW2]
    exact pkg_any W B mb W.pkgs.length vp vn vd xs o.pkg hpk W2 hst2.m hst2.ox hst2.rx
  have HST2 := Lib.hid hst2
  have HW2 := Lib.hid hW2
  have HB := Lib.hid hb
  have HPOS := Lib.hid hpos
  have CT := Lib.hid ((typ_all W mb W.decls.length (QS S) 8).1 o.ty ka kc false W2.drew hty ⟨hst2.drew.declsAt, (hpr.keep hb).keep (Below.refl _ _).drew⟩ ((hk.keep hb).keep (Below.refl _ _).drew) hf.ty)
  have SH : Hid (∀ w', Below W2.heap.size W2 w' → w'.cell? ⟨w.heap.size, 3, none⟩ = some (.string o.name) ∧ w'.cell? ⟨w.heap.size, 4, none⟩ = some (.string o.ty.kd) ∧ w'.cell? ⟨w.heap.size, 5, none⟩ = some (.string o.ty.nm) ∧ w'.cell? ⟨w.heap.size, 6, none⟩ = some (.string o.ty.tg) ∧ w'.cell? ⟨w.heap.size, 7, none⟩ = some (.int .i64 o.ty.sz) ∧ w'.cell? ⟨w.heap.size, 8, none⟩ = some (.slice ka o.ty.kids.length kc)) := fun w' h => ⟨cell_below h n3, cell_below h n4, cell_below h n5, cell_below h n6, cell_below h n7, cell_below h n8⟩
  have HTOP := Lib.hid n2
  clear n0 n1 n2 n3 n4 n5 n6 n7 n8 n9 hst hst2 hW2 hb hf hpr hty hk hpos
  go_enter Tryz.func17, Tryz.ntmps17
  go_wp2_with (go_at_call 30; refine CP.out.mono ?_; rintro e w' ⟨q, rfl, rfl, hq, _⟩; obtain ⟨pb, rfl, hpb⟩ := hq HPOS.out)
  rw [← HW2.out]
  go_region_held3 (fun w' => w'.cell? ⟨w.heap.size, 3, none⟩ = some (.string o.name) ∧ w'.cell? ⟨w.heap.size, 4, none⟩ = some (.string o.ty.kd) ∧ w'.cell? ⟨w.heap.size, 5, none⟩ = some (.string o.ty.nm) ∧ w'.cell? ⟨w.heap.size, 6, none⟩ = some (.string o.ty.tg) ∧ w'.cell? ⟨w.heap.size, 7, none⟩ = some (.int .i64 o.ty.sz) ∧ w'.cell? ⟨w.heap.size, 8, none⟩ = some (.slice ka o.ty.kids.length kc))
    (first | exact SH.out _ ((Below.refl _ _).drew) | exact SH.out _ ((Below.refl _ _).drew.trans hb1) | exact SH.out _ (((Below.refl _ _).drew.trans hb1).trans (hb5.mono hb1.size)))
    (first | (go_at_call 32; refine CT.out.mono ?_; rintro e w1 ⟨TT, x, rfl, hT, hb1⟩) | (go_at_call 35; refine (newVarP_b _ _ _ _ _).mono ?_; rintro e w5 ⟨rfl, ho5, hb5⟩))
  all_goals
    have hBW := HB.out.drew.trans (hb1.mono HB.out.size)
    have hB5 := hBW.trans (hb5.mono hBW.size)
    have t5 := cell_below hb5 (cell_below hb1 HTOP.out)
    have hpb5 := ((hpb.below (Below.refl _ _).drew).below hb1).below hb5
    have HO5 := Lib.hid ho5
    have HBB := Lib.hid (hB5.mono hBw)
    have HOB := Lib.hid (Nat.le_trans hBw hBW.size)
    clear hBW hB5
    cases ht : o.top with
    | false =>
      rw [ht] at t5
      go_wp2
      go_ret
      go_light
      exact ⟨78, _, rfl, .inl rfl, ⟨pb, HO5.out.c2, HO5.out.c3, hpb5.path⟩, HBB.out⟩
    | true =>
      rw [ht] at t5
      obtain ⟨cs, sb, c, a1, a2, a3, a4, a5, a6, a7⟩ := hpb5
      have cS : w5.cell? ⟨pb, 2, none⟩ = some (.pointer (some ⟨sb, 0, none⟩)) := by simp [World.cell?, a1, a3]
      have CI := Lib.hid (insert_any W B sb _ pb pb _ _ 78 (.inl rfl) o.name w5 HO5.out HOB.out ⟨cs, sb, c, a1, a2, a3, a4, a5, a6, a7⟩ ⟨cs, sb, c, a1, a2, a3, a4, a5, a6, a7⟩ cS)
      clear a1 a2 a3 a4 a5 a6 a7
      go_wp2_with (first | (go_at_call 44; refine (scope44_any pb _ _ cS).mono ?_; rintro e w' ⟨rfl, rfl⟩) | (go_at_call 45; refine CI.out.mono ?_; rintro e w7 ⟨rfl, hfa, hb7⟩))
      go_ret
      go_light
      exact ⟨78, _, rfl, .inl rfl, hfa, HBB.out.trans hb7⟩

set_option maxRecDepth 100000 in
set_option maxHeartbeats 16000000 in
theorem object_param (W : WorldD) (B mb : Nat) (bc : Array Value) (o : ObjD) (ka : Option Addr) (kc : Nat) (w : World) (hL : L3 W B mb bc w W.decls.length) (hBw : B ≤ w.heap.size) (hpr : PropsAt w) (hk : KidsV w ka kc o.ty.kids) (hf : o.Fits) (hpos : 0 ≤ o.pkg) (hpk : o.pkg < W.pkgs.length)
    (hkd : o.kd.toList = [112, 97, 114, 97, 109]) (hty : isTypeB W W.decls.length 8 o.ty false = true) (htop : o.top = false) :
    Calls Tryz.prog 17 #[.pointer (some ⟨mb, 0, none⟩), .agg #[.string o.kd, .int .i64 o.pkg, .bool o.top, .string o.name, .string o.ty.kd, .string o.ty.nm, .string o.ty.tg, .int .i64 o.ty.sz, .slice ka o.ty.kids.length kc, .int .i64 o.imp]] w (ObjGives B o.name (W.pkg o.pkg.toNat).path w) := by
  obtain ⟨S, vp, vn, vd, xs, ys, zs, hst, _, _, _⟩ := hL
  have hl1 := hk.len.1
  have hl2 := hk.len.2
  have hp1 := hf.lo
  have hp2 := hf.hi
  obtain ⟨W2, hW2⟩ : ∃ W2, W2 = (w.alloc (.cells #[.string o.kd, .int .i64 o.pkg, .bool o.top, .string o.name, .string o.ty.kd, .string o.ty.nm, .string o.ty.tg, .int .i64 o.ty.sz, .slice ka o.ty.kids.length kc, .int .i64 o.imp] 30)) := ⟨_, rfl⟩
  have hb : Below w.heap.size w W2 := by rw [hW2]; exact (Below.refl _ _).alloc (Nat.le_refl _) _
  have n0 : W2.cell? ⟨w.heap.size, 0, none⟩ = some (.string o.kd) := by rw [hW2]; simp
  have n1 : W2.cell? ⟨w.heap.size, 1, none⟩ = some (.int .i64 o.pkg) := by rw [hW2]; simp
  have n2 : W2.cell? ⟨w.heap.size, 2, none⟩ = some (.bool o.top) := by rw [hW2]; simp
  have n3 : W2.cell? ⟨w.heap.size, 3, none⟩ = some (.string o.name) := by rw [hW2]; simp
  have n4 : W2.cell? ⟨w.heap.size, 4, none⟩ = some (.string o.ty.kd) := by rw [hW2]; simp
  have n5 : W2.cell? ⟨w.heap.size, 5, none⟩ = some (.string o.ty.nm) := by rw [hW2]; simp
  have n6 : W2.cell? ⟨w.heap.size, 6, none⟩ = some (.string o.ty.tg) := by rw [hW2]; simp
  have n7 : W2.cell? ⟨w.heap.size, 7, none⟩ = some (.int .i64 o.ty.sz) := by rw [hW2]; simp
  have n8 : W2.cell? ⟨w.heap.size, 8, none⟩ = some (.slice ka o.ty.kids.length kc) := by rw [hW2]; simp
  have n9 : W2.cell? ⟨w.heap.size, 9, none⟩ = some (.int .i64 o.imp) := by rw [hW2]; simp
  have hst2 := hst.below hb
  have CP : Hid (Calls Tryz.prog 30 #[.pointer (some ⟨mb, 0, none⟩), .int .i64 o.pkg] (w.alloc (.cells #[.string o.kd, .int .i64 o.pkg, .bool o.top, .string o.name, .string o.ty.kd, .string o.ty.nm, .string o.ty.tg, .int .i64 o.ty.sz, .slice ka o.ty.kids.length kc, .int .i64 o.imp] 30)) fun e w' => ∃ q, e = .returned (.pointer q) ∧ (w.alloc (.cells #[.string o.kd, .int .i64 o.pkg, .bool o.top, .string o.name, .string o.ty.kd, .string o.ty.nm, .string o.ty.tg, .int .i64 o.ty.sz, .slice ka o.ty.kids.length kc, .int .i64 o.imp] 30)) = w' ∧ PkgQ W B W2 o.pkg q ∧ (o.pkg < 0 → q = none)) := by
    show Calls _ _ _ _ _
    rw [← hW2]
    exact pkg_any W B mb W.pkgs.length vp vn vd xs o.pkg hpk W2 hst2.m hst2.ox hst2.rx
  have HST2 := Lib.hid hst2
  have HW2 := Lib.hid hW2
  have HB := Lib.hid hb
  have HPOS := Lib.hid hpos
  have HTP := Lib.hid htop; clear htop
  have CT := Lib.hid ((typ_all W mb W.decls.length (QS S) 8).1 o.ty ka kc false W2.drew hty ⟨hst2.drew.declsAt, (hpr.keep hb).keep (Below.refl _ _).drew⟩ ((hk.keep hb).keep (Below.refl _ _).drew) hf.ty)
  have SH : Hid (∀ w', Below W2.heap.size W2 w' → w'.cell? ⟨w.heap.size, 3, none⟩ = some (.string o.name) ∧ w'.cell? ⟨w.heap.size, 4, none⟩ = some (.string o.ty.kd) ∧ w'.cell? ⟨w.heap.size, 5, none⟩ = some (.string o.ty.nm) ∧ w'.cell? ⟨w.heap.size, 6, none⟩ = some (.string o.ty.tg) ∧ w'.cell? ⟨w.heap.size, 7, none⟩ = some (.int .i64 o.ty.sz) ∧ w'.cell? ⟨w.heap.size, 8, none⟩ = some (.slice ka o.ty.kids.length kc)) := fun w' h => ⟨cell_below h n3, cell_below h n4, cell_below h n5, cell_below h n6, cell_below h n7, cell_below h n8⟩
  have HTOP := Lib.hid n2
  clear n0 n1 n2 n3 n4 n5 n6 n7 n8 n9 hst hst2 hW2 hb hf hpr hty hk hpos
  go_enter Tryz.func17, Tryz.ntmps17
  go_wp2_with (go_at_call 30; refine CP.out.mono ?_; rintro e w' ⟨q, rfl, rfl, hq, _⟩; obtain ⟨pb, rfl, hpb⟩ := hq HPOS.out)
  rw [← HW2.out]
  go_region_held3 (fun w' => w'.cell? ⟨w.heap.size, 3, none⟩ = some (.string o.name) ∧ w'.cell? ⟨w.heap.size, 4, none⟩ = some (.string o.ty.kd) ∧ w'.cell? ⟨w.heap.size, 5, none⟩ = some (.string o.ty.nm) ∧ w'.cell? ⟨w.heap.size, 6, none⟩ = some (.string o.ty.tg) ∧ w'.cell? ⟨w.heap.size, 7, none⟩ = some (.int .i64 o.ty.sz) ∧ w'.cell? ⟨w.heap.size, 8, none⟩ = some (.slice ka o.ty.kids.length kc))
    (first | exact SH.out _ ((Below.refl _ _).drew) | exact SH.out _ ((Below.refl _ _).drew.trans hb1) | exact SH.out _ (((Below.refl _ _).drew.trans hb1).trans (hb5.mono hb1.size)))
    (first | (go_at_call 32; refine CT.out.mono ?_; rintro e w1 ⟨TT, x, rfl, hT, hb1⟩) | (go_at_call 36; refine (newParam_b _ _ _ _ _).mono ?_; rintro e w5 ⟨rfl, ho5, hb5⟩))
  all_goals
    have hBW := HB.out.drew.trans (hb1.mono HB.out.size)
    have hB5 := hBW.trans (hb5.mono hBW.size)
    have t5 := cell_below hb5 (cell_below hb1 HTOP.out)
    have hpb5 := ((hpb.below (Below.refl _ _).drew).below hb1).below hb5
    have HO5 := Lib.hid ho5
    have HBB := Lib.hid (hB5.mono hBw)
    have HOB := Lib.hid (Nat.le_trans hBw hBW.size)
    clear hBW hB5
    rw [HTP.out] at t5
    go_wp2
    go_ret
    go_light
    exact ⟨78, _, rfl, .inl rfl, ⟨pb, HO5.out.c2, HO5.out.c3, hpb5.path⟩, HBB.out⟩

set_option maxRecDepth 100000 in
set_option maxHeartbeats 16000000 in
theorem object_field (W : WorldD) (B mb : Nat) (bc : Array Value) (o : ObjD) (ka : Option Addr) (kc : Nat) (w : World) (hL : L3 W B mb bc w W.decls.length) (hBw : B ≤ w.heap.size) (hpr : PropsAt w) (hk : KidsV w ka kc o.ty.kids) (hf : o.Fits) (hpos : 0 ≤ o.pkg) (hpk : o.pkg < W.pkgs.length)
    (hkd : o.kd.toList = [102, 105, 101, 108, 100]) (hty : isTypeB W W.decls.length 8 o.ty false = true) (htop : o.top = false) :
    Calls Tryz.prog 17 #[.pointer (some ⟨mb, 0, none⟩), .agg #[.string o.kd, .int .i64 o.pkg, .bool o.top, .string o.name, .string o.ty.kd, .string o.ty.nm, .string o.ty.tg, .int .i64 o.ty.sz, .slice ka o.ty.kids.length kc, .int .i64 o.imp]] w (ObjGives B o.name (W.pkg o.pkg.toNat).path w) := by
  obtain ⟨S, vp, vn, vd, xs, ys, zs, hst, _, _, _⟩ := hL
  have hl1 := hk.len.1
  have hl2 := hk.len.2
  have hp1 := hf.lo
  have hp2 := hf.hi
  obtain ⟨W2, hW2⟩ : ∃ W2, W2 = (w.alloc (.cells #[.string o.kd, .int .i64 o.pkg, .bool o.top, .string o.name, .string o.ty.kd, .string o.ty.nm, .string o.ty.tg, .int .i64 o.ty.sz, .slice ka o.ty.kids.length kc, .int .i64 o.imp] 30)) := ⟨_, rfl⟩
  have hb : Below w.heap.size w W2 := by rw [hW2]; exact (Below.refl _ _).alloc (Nat.le_refl _) _
  have n0 : W2.cell? ⟨w.heap.size, 0, none⟩ = some (.string o.kd) := by rw [hW2]; simp
  have n1 : W2.cell? ⟨w.heap.size, 1, none⟩ = some (.int .i64 o.pkg) := by rw [hW2]; simp
  have n2 : W2.cell? ⟨w.heap.size, 2, none⟩ = some (.bool o.top) := by rw [hW2]; simp
  have n3 : W2.cell? ⟨w.heap.size, 3, none⟩ = some (.string o.name) := by rw [hW2]; simp
  have n4 : W2.cell? ⟨w.heap.size, 4, none⟩ = some (.string o.ty.kd) := by rw [hW2]; simp
  have n5 : W2.cell? ⟨w.heap.size, 5, none⟩ = some (.string o.ty.nm) := by rw [hW2]; simp
  have n6 : W2.cell? ⟨w.heap.size, 6, none⟩ = some (.string o.ty.tg) := by rw [hW2]; simp
  have n7 : W2.cell? ⟨w.heap.size, 7, none⟩ = some (.int .i64 o.ty.sz) := by rw [hW2]; simp
  have n8 : W2.cell? ⟨w.heap.size, 8, none⟩ = some (.slice ka o.ty.kids.length kc) := by rw [hW2]; simp
  have n9 : W2.cell? ⟨w.heap.size, 9, none⟩ = some (.int .i64 o.imp) := by rw [hW2]; simp
  have hst2 := hst.below hb
  have CP : Hid (Calls Tryz.prog 30 #[.pointer (some ⟨mb, 0, none⟩), .int .i64 o.pkg] (w.alloc (.cells #[.string o.kd, .int .i64 o.pkg, .bool o.top, .string o.name, .string o.ty.kd, .string o.ty.nm, .string o.ty.tg, .int .i64 o.ty.sz, .slice ka o.ty.kids.length kc, .int .i64 o.imp] 30)) fun e w' => ∃ q, e = .returned (.pointer q) ∧ (w.alloc (.cells #[.string o.kd, .int .i64 o.pkg, .bool o.top, .string o.name, .string o.ty.kd, .string o.ty.nm, .string o.ty.tg, .int .i64 o.ty.sz, .slice ka o.ty.kids.length kc, .int .i64 o.imp] 30)) = w' ∧ PkgQ W B W2 o.pkg q ∧ (o.pkg < 0 → q = none)) := by
    show Calls _ _ _ _ _
    rw [← hW2]
    exact pkg_any W B mb W.pkgs.length vp vn vd xs o.pkg hpk W2 hst2.m hst2.ox hst2.rx
  have HST2 := Lib.hid hst2
  have HW2 := Lib.hid hW2
  have HB := Lib.hid hb
  have HPOS := Lib.hid hpos
  have HTP := Lib.hid htop; clear htop
  have CT := Lib.hid ((typ_all W mb W.decls.length (QS S) 8).1 o.ty ka kc false W2.drew hty ⟨hst2.drew.declsAt, (hpr.keep hb).keep (Below.refl _ _).drew⟩ ((hk.keep hb).keep (Below.refl _ _).drew) hf.ty)
  have SH : Hid (∀ w', Below W2.heap.size W2 w' → w'.cell? ⟨w.heap.size, 3, none⟩ = some (.string o.name) ∧ w'.cell? ⟨w.heap.size, 4, none⟩ = some (.string o.ty.kd) ∧ w'.cell? ⟨w.heap.size, 5, none⟩ = some (.string o.ty.nm) ∧ w'.cell? ⟨w.heap.size, 6, none⟩ = some (.string o.ty.tg) ∧ w'.cell? ⟨w.heap.size, 7, none⟩ = some (.int .i64 o.ty.sz) ∧ w'.cell? ⟨w.heap.size, 8, none⟩ = some (.slice ka o.ty.kids.length kc)) := fun w' h => ⟨cell_below h n3, cell_below h n4, cell_below h n5, cell_below h n6, cell_below h n7, cell_below h n8⟩
  have HTOP := Lib.hid n2
  clear n0 n1 n2 n3 n4 n5 n6 n7 n8 n9 hst hst2 hW2 hb hf hpr hty hk hpos
  go_enter Tryz.func17, Tryz.ntmps17
  go_wp2_with (go_at_call 30; refine CP.out.mono ?_; rintro e w' ⟨q, rfl, rfl, hq, _⟩; obtain ⟨pb, rfl, hpb⟩ := hq HPOS.out)
  rw [← HW2.out]
  go_region_held3 (fun w' => w'.cell? ⟨w.heap.size, 3, none⟩ = some (.string o.name) ∧ w'.cell? ⟨w.heap.size, 4, none⟩ = some (.string o.ty.kd) ∧ w'.cell? ⟨w.heap.size, 5, none⟩ = some (.string o.ty.nm) ∧ w'.cell? ⟨w.heap.size, 6, none⟩ = some (.string o.ty.tg) ∧ w'.cell? ⟨w.heap.size, 7, none⟩ = some (.int .i64 o.ty.sz) ∧ w'.cell? ⟨w.heap.size, 8, none⟩ = some (.slice ka o.ty.kids.length kc))
    (first | exact SH.out _ ((Below.refl _ _).drew) | exact SH.out _ ((Below.refl _ _).drew.trans hb1) | exact SH.out _ (((Below.refl _ _).drew.trans hb1).trans (hb5.mono hb1.size)))
    (first | (go_at_call 32; refine CT.out.mono ?_; rintro e w1 ⟨TT, x, rfl, hT, hb1⟩) | (go_at_call 37; refine (newField_b _ _ _ _ _ _).mono ?_; rintro e w5 ⟨rfl, ho5, hb5⟩))
  all_goals
    have hBW := HB.out.drew.trans (hb1.mono HB.out.size)
    have hB5 := hBW.trans (hb5.mono hBW.size)
    have t5 := cell_below hb5 (cell_below hb1 HTOP.out)
    have hpb5 := ((hpb.below (Below.refl _ _).drew).below hb1).below hb5
    have HO5 := Lib.hid ho5
    have HBB := Lib.hid (hB5.mono hBw)
    have HOB := Lib.hid (Nat.le_trans hBw hBW.size)
    clear hBW hB5
    rw [HTP.out] at t5
    go_wp2
    go_ret
    go_light
    exact ⟨78, _, rfl, .inl rfl, ⟨pb, HO5.out.c2, HO5.out.c3, hpb5.path⟩, HBB.out⟩

set_option maxRecDepth 100000 in
set_option maxHeartbeats 16000000 in
theorem object_const (W : WorldD) (B mb : Nat) (bc : Array Value) (o : ObjD) (ka : Option Addr) (kc : Nat) (w : World) (hL : L3 W B mb bc w W.decls.length) (hBw : B ≤ w.heap.size) (hpr : PropsAt w) (hk : KidsV w ka kc o.ty.kids) (hf : o.Fits) (hpos : 0 ≤ o.pkg) (hpk : o.pkg < W.pkgs.length)
    (hkd : o.kd.toList = [99, 111, 110, 115, 116]) (hty : isTypeB W W.decls.length 8 o.ty false = true) :
    Calls Tryz.prog 17 #[.pointer (some ⟨mb, 0, none⟩), .agg #[.string o.kd, .int .i64 o.pkg, .bool o.top, .string o.name, .string o.ty.kd, .string o.ty.nm, .string o.ty.tg, .int .i64 o.ty.sz, .slice ka o.ty.kids.length kc, .int .i64 o.imp]] w (ObjGives B o.name (W.pkg o.pkg.toNat).path w) := by
  obtain ⟨S, vp, vn, vd, xs, ys, zs, hst, _, _, _⟩ := hL
  have hl1 := hk.len.1
  have hl2 := hk.len.2
  have hp1 := hf.lo
  have hp2 := hf.hi
  obtain ⟨W2, hW2⟩ : ∃ W2, W2 = (w.alloc (.cells #[.string o.kd, .int .i64 o.pkg, .bool o.top, .string o.name, .string o.ty.kd, .string o.ty.nm, .string o.ty.tg, .int .i64 o.ty.sz, .slice ka o.ty.kids.length kc, .int .i64 o.imp] 30)) := ⟨_, rfl⟩
  have hb : Below w.heap.size w W2 := by rw [hW2]; exact (Below.refl _ _).alloc (Nat.le_refl _) _
  have n0 : W2.cell? ⟨w.heap.size, 0, none⟩ = some (.string o.kd) := by rw [hW2]; simp
  have n1 : W2.cell? ⟨w.heap.size, 1, none⟩ = some (.int .i64 o.pkg) := by rw [hW2]; simp
  have n2 : W2.cell? ⟨w.heap.size, 2, none⟩ = some (.bool o.top) := by rw [hW2]; simp
  have n3 : W2.cell? ⟨w.heap.size, 3, none⟩ = some (.string o.name) := by rw [hW2]; simp
  have n4 : W2.cell? ⟨w.heap.size, 4, none⟩ = some (.string o.ty.kd) := by rw [hW2]; simp
  have n5 : W2.cell? ⟨w.heap.size, 5, none⟩ = some (.string o.ty.nm) := by rw [hW2]; simp
  have n6 : W2.cell? ⟨w.heap.size, 6, none⟩ = some (.string o.ty.tg) := by rw [hW2]; simp
  have n7 : W2.cell? ⟨w.heap.size, 7, none⟩ = some (.int .i64 o.ty.sz) := by rw [hW2]; simp
  have n8 : W2.cell? ⟨w.heap.size, 8, none⟩ = some (.slice ka o.ty.kids.length kc) := by rw [hW2]; simp
  have n9 : W2.cell? ⟨w.heap.size, 9, none⟩ = some (.int .i64 o.imp) := by rw [hW2]; simp
  have hst2 := hst.below hb
  have CP : Hid (Calls Tryz.prog 30 #[.pointer (some ⟨mb, 0, none⟩), .int .i64 o.pkg] (w.alloc (.cells #[.string o.kd, .int .i64 o.pkg, .bool o.top, .string o.name, .string o.ty.kd, .string o.ty.nm, .string o.ty.tg, .int .i64 o.ty.sz, .slice ka o.ty.kids.length kc, .int .i64 o.imp] 30)) fun e w' => ∃ q, e = .returned (.pointer q) ∧ (w.alloc (.cells #[.string o.kd, .int .i64 o.pkg, .bool o.top, .string o.name, .string o.ty.kd, .string o.ty.nm, .string o.ty.tg, .int .i64 o.ty.sz, .slice ka o.ty.kids.length kc, .int .i64 o.imp] 30)) = w' ∧ PkgQ W B W2 o.pkg q ∧ (o.pkg < 0 → q = none)) := by
    show Calls _ _ _ _ _
    rw [← hW2]
    exact pkg_any W B mb W.pkgs.length vp vn vd xs o.pkg hpk W2 hst2.m hst2.ox hst2.rx
  have HST2 := Lib.hid hst2
  have HW2 := Lib.hid hW2
  have HB := Lib.hid hb
  have HPOS := Lib.hid hpos
  have CT := Lib.hid ((typ_all W mb W.decls.length (QS S) 8).1 o.ty ka kc false W2.drew hty ⟨hst2.drew.declsAt, (hpr.keep hb).keep (Below.refl _ _).drew⟩ ((hk.keep hb).keep (Below.refl _ _).drew) hf.ty)
  have SH : Hid (∀ w', Below W2.heap.size W2 w' → w'.cell? ⟨w.heap.size, 3, none⟩ = some (.string o.name) ∧ w'.cell? ⟨w.heap.size, 4, none⟩ = some (.string o.ty.kd) ∧ w'.cell? ⟨w.heap.size, 5, none⟩ = some (.string o.ty.nm) ∧ w'.cell? ⟨w.heap.size, 6, none⟩ = some (.string o.ty.tg) ∧ w'.cell? ⟨w.heap.size, 7, none⟩ = some (.int .i64 o.ty.sz) ∧ w'.cell? ⟨w.heap.size, 8, none⟩ = some (.slice ka o.ty.kids.length kc)) := fun w' h => ⟨cell_below h n3, cell_below h n4, cell_below h n5, cell_below h n6, cell_below h n7, cell_below h n8⟩
  have HTOP := Lib.hid n2
  clear n0 n1 n2 n3 n4 n5 n6 n7 n8 n9 hst hst2 hW2 hb hf hpr hty hk hpos
  go_enter Tryz.func17, Tryz.ntmps17
  go_wp2_with (go_at_call 30; refine CP.out.mono ?_; rintro e w' ⟨q, rfl, rfl, hq, _⟩; obtain ⟨pb, rfl, hpb⟩ := hq HPOS.out)
  rw [← HW2.out]
  go_region_held3 (fun w' => w'.cell? ⟨w.heap.size, 3, none⟩ = some (.string o.name) ∧ w'.cell? ⟨w.heap.size, 4, none⟩ = some (.string o.ty.kd) ∧ w'.cell? ⟨w.heap.size, 5, none⟩ = some (.string o.ty.nm) ∧ w'.cell? ⟨w.heap.size, 6, none⟩ = some (.string o.ty.tg) ∧ w'.cell? ⟨w.heap.size, 7, none⟩ = some (.int .i64 o.ty.sz) ∧ w'.cell? ⟨w.heap.size, 8, none⟩ = some (.slice ka o.ty.kids.length kc))
    (first | exact SH.out _ ((Below.refl _ _).drew) | exact SH.out _ ((Below.refl _ _).drew.trans hb1) | exact SH.out _ (((Below.refl _ _).drew.trans hb1).trans (hb5.mono hb1.size)))
    (first | (go_at_call 32; refine CT.out.mono ?_; rintro e w1 ⟨TT, x, rfl, hT, hb1⟩) | (go_at_call 39; refine (makeInt_any _ _).mono ?_; rintro e w6 ⟨rfl, rfl⟩) | (go_at_call 38; refine (newConst_b _ _ _ _ _ _ _).mono ?_; rintro e w5 ⟨rfl, ho5, hb5⟩))
  all_goals
    have hBW := HB.out.drew.trans (hb1.mono HB.out.size)
    have hB5 := hBW.trans (hb5.mono hBW.size)
    have t5 := cell_below hb5 (cell_below hb1 HTOP.out)
    have hpb5 := ((hpb.below (Below.refl _ _).drew).below hb1).below hb5
    have HO5 := Lib.hid ho5
    have HBB := Lib.hid (hB5.mono hBw)
    have HOB := Lib.hid (Nat.le_trans hBw hBW.size)
    clear hBW hB5
    cases ht : o.top with
    | false =>
      rw [ht] at t5
      go_wp2
      go_ret
      go_light
      exact ⟨81, _, rfl, .inr (.inl rfl), ⟨pb, HO5.out.c2, HO5.out.c3, hpb5.path⟩, HBB.out⟩
    | true =>
      rw [ht] at t5
      obtain ⟨cs, sb, c, a1, a2, a3, a4, a5, a6, a7⟩ := hpb5
      have cS : w5.cell? ⟨pb, 2, none⟩ = some (.pointer (some ⟨sb, 0, none⟩)) := by simp [World.cell?, a1, a3]
      have CI := Lib.hid (insert_any W B sb _ pb pb _ _ 81 (.inr (.inl rfl)) o.name w5 HO5.out HOB.out ⟨cs, sb, c, a1, a2, a3, a4, a5, a6, a7⟩ ⟨cs, sb, c, a1, a2, a3, a4, a5, a6, a7⟩ cS)
      clear a1 a2 a3 a4 a5 a6 a7
      go_wp2_with (first | (go_at_call 44; refine (scope44_any pb _ _ cS).mono ?_; rintro e w' ⟨rfl, rfl⟩) | (go_at_call 45; refine CI.out.mono ?_; rintro e w7 ⟨rfl, hfa, hb7⟩))
      go_ret
      go_light
      exact ⟨81, _, rfl, .inr (.inl rfl), hfa, HBB.out.trans hb7⟩

set_option maxRecDepth 100000 in
set_option maxHeartbeats 16000000 in
theorem object_func (W : WorldD) (B mb : Nat) (bc : Array Value) (o : ObjD) (ka : Option Addr) (kc : Nat) (w : World) (hL : L3 W B mb bc w W.decls.length) (hBw : B ≤ w.heap.size) (hpr : PropsAt w) (hk : KidsV w ka kc o.ty.kids) (hf : o.Fits) (hpos : 0 ≤ o.pkg) (hpk : o.pkg < W.pkgs.length)
    (hkd : o.kd.toList = [102, 117, 110, 99]) (hty : isTypeB W W.decls.length 8 o.ty false = true) (hfun : isFuncB o.ty = true) :
    Calls Tryz.prog 17 #[.pointer (some ⟨mb, 0, none⟩), .agg #[.string o.kd, .int .i64 o.pkg, .bool o.top, .string o.name, .string o.ty.kd, .string o.ty.nm, .string o.ty.tg, .int .i64 o.ty.sz, .slice ka o.ty.kids.length kc, .int .i64 o.imp]] w (ObjGives B o.name (W.pkg o.pkg.toNat).path w) := by
  obtain ⟨S, vp, vn, vd, xs, ys, zs, hst, _, _, _⟩ := hL
  have hl1 := hk.len.1
  have hl2 := hk.len.2
  have hp1 := hf.lo
  have hp2 := hf.hi
  obtain ⟨W2, hW2⟩ : ∃ W2, W2 = (w.alloc (.cells #[.string o.kd, .int .i64 o.pkg, .bool o.top, .string o.name, .string o.ty.kd, .string o.ty.nm, .string o.ty.tg, .int .i64 o.ty.sz, .slice ka o.ty.kids.length kc, .int .i64 o.imp] 30)) := ⟨_, rfl⟩
  have hb : Below w.heap.size w W2 := by rw [hW2]; exact (Below.refl _ _).alloc (Nat.le_refl _) _
  have n0 : W2.cell? ⟨w.heap.size, 0, none⟩ = some (.string o.kd) := by rw [hW2]; simp
  have n1 : W2.cell? ⟨w.heap.size, 1, none⟩ = some (.int .i64 o.pkg) := by rw [hW2]; simp
  have n2 : W2.cell? ⟨w.heap.size, 2, none⟩ = some (.bool o.top) := by rw [hW2]; simp
  have n3 : W2.cell? ⟨w.heap.size, 3, none⟩ = some (.string o.name) := by rw [hW2]; simp
  have n4 : W2.cell? ⟨w.heap.size, 4, none⟩ = some (.string o.ty.kd) := by rw [hW2]; simp
  have n5 : W2.cell? ⟨w.heap.size, 5, none⟩ = some (.string o.ty.nm) := by rw [hW2]; simp
  have n6 : W2.cell? ⟨w.heap.size, 6, none⟩ = some (.string o.ty.tg) := by rw [hW2]; simp
  have n7 : W2.cell? ⟨w.heap.size, 7, none⟩ = some (.int .i64 o.ty.sz) := by rw [hW2]; simp
  have n8 : W2.cell? ⟨w.heap.size, 8, none⟩ = some (.slice ka o.ty.kids.length kc) := by rw [hW2]; simp
  have n9 : W2.cell? ⟨w.heap.size, 9, none⟩ = some (.int .i64 o.imp) := by rw [hW2]; simp
  have hst2 := hst.below hb
  have CP : Hid (Calls Tryz.prog 30 #[.pointer (some ⟨mb, 0, none⟩), .int .i64 o.pkg] (w.alloc (.cells #[.string o.kd, .int .i64 o.pkg, .bool o.top, .string o.name, .string o.ty.kd, .string o.ty.nm, .string o.ty.tg, .int .i64 o.ty.sz, .slice ka o.ty.kids.length kc, .int .i64 o.imp] 30)) fun e w' => ∃ q, e = .returned (.pointer q) ∧ (w.alloc (.cells #[.string o.kd, .int .i64 o.pkg, .bool o.top, .string o.name, .string o.ty.kd, .string o.ty.nm, .string o.ty.tg, .int .i64 o.ty.sz, .slice ka o.ty.kids.length kc, .int .i64 o.imp] 30)) = w' ∧ PkgQ W B W2 o.pkg q ∧ (o.pkg < 0 → q = none)) := by
    show Calls _ _ _ _ _
    rw [← hW2]
    exact pkg_any W B mb W.pkgs.length vp vn vd xs o.pkg hpk W2 hst2.m hst2.ox hst2.rx
  have HST2 := Lib.hid hst2
  have HW2 := Lib.hid hW2
  have HB := Lib.hid hb
  have HPOS := Lib.hid hpos
  have CT := Lib.hid ((typ_all W mb W.decls.length (QS S) 8).2 o.ty ka kc false none W2.drew hfun hty ⟨hst2.drew.declsAt, (hpr.keep hb).keep (Below.refl _ _).drew⟩ ((hk.keep hb).keep (Below.refl _ _).drew))
  have SH : Hid (∀ w', Below W2.heap.size W2 w' → w'.cell? ⟨w.heap.size, 3, none⟩ = some (.string o.name) ∧ w'.cell? ⟨w.heap.size, 4, none⟩ = some (.string o.ty.kd) ∧ w'.cell? ⟨w.heap.size, 5, none⟩ = some (.string o.ty.nm) ∧ w'.cell? ⟨w.heap.size, 6, none⟩ = some (.string o.ty.tg) ∧ w'.cell? ⟨w.heap.size, 7, none⟩ = some (.int .i64 o.ty.sz) ∧ w'.cell? ⟨w.heap.size, 8, none⟩ = some (.slice ka o.ty.kids.length kc)) := fun w' h => ⟨cell_below h n3, cell_below h n4, cell_below h n5, cell_below h n6, cell_below h n7, cell_below h n8⟩
  have HTOP := Lib.hid n2
  clear n0 n1 n2 n3 n4 n5 n6 n7 n8 n9 hst hst2 hW2 hb hf hpr hty hk hpos hfun
  go_enter Tryz.func17, Tryz.ntmps17
  go_wp2_with (go_at_call 30; refine CP.out.mono ?_; rintro e w' ⟨q, rfl, rfl, hq, _⟩; obtain ⟨pb, rfl, hpb⟩ := hq HPOS.out)
  rw [← HW2.out]
  go_region_held3 (fun w' => w'.cell? ⟨w.heap.size, 3, none⟩ = some (.string o.name) ∧ w'.cell? ⟨w.heap.size, 4, none⟩ = some (.string o.ty.kd) ∧ w'.cell? ⟨w.heap.size, 5, none⟩ = some (.string o.ty.nm) ∧ w'.cell? ⟨w.heap.size, 6, none⟩ = some (.string o.ty.tg) ∧ w'.cell? ⟨w.heap.size, 7, none⟩ = some (.int .i64 o.ty.sz) ∧ w'.cell? ⟨w.heap.size, 8, none⟩ = some (.slice ka o.ty.kids.length kc))
    (first | exact SH.out _ ((Below.refl _ _).drew) | exact SH.out _ ((Below.refl _ _).drew.trans hb1) | exact SH.out _ (((Below.refl _ _).drew.trans hb1).trans (hb5.mono hb1.size)))
    (first | (go_at_call 41; refine CT.out.mono ?_; rintro e w1 ⟨sg, rfl, _, _, hb1⟩) | (go_at_call 40; refine (newFunc_b _ _ _ _).mono ?_; rintro e w5 ⟨rfl, ho5, hb5⟩))
  all_goals
    have hBW := HB.out.drew.trans (hb1.mono HB.out.size)
    have hB5 := hBW.trans (hb5.mono hBW.size)
    have t5 := cell_below hb5 (cell_below hb1 HTOP.out)
    have hpb5 := ((hpb.below (Below.refl _ _).drew).below hb1).below hb5
    have HO5 := Lib.hid ho5
    have HBB := Lib.hid (hB5.mono hBw)
    have HOB := Lib.hid (Nat.le_trans hBw hBW.size)
    clear hBW hB5
    cases ht : o.top with
    | false =>
      rw [ht] at t5
      go_wp2
      go_ret
      go_light
      exact ⟨86, _, rfl, .inr (.inr (.inl rfl)), ⟨pb, HO5.out.c2, HO5.out.c3, hpb5.path⟩, HBB.out⟩
    | true =>
      rw [ht] at t5
      obtain ⟨cs, sb, c, a1, a2, a3, a4, a5, a6, a7⟩ := hpb5
      have cS : w5.cell? ⟨pb, 2, none⟩ = some (.pointer (some ⟨sb, 0, none⟩)) := by simp [World.cell?, a1, a3]
      have CI := Lib.hid (insert_any W B sb _ pb pb _ _ 86 (.inr (.inr (.inl rfl))) o.name w5 HO5.out HOB.out ⟨cs, sb, c, a1, a2, a3, a4, a5, a6, a7⟩ ⟨cs, sb, c, a1, a2, a3, a4, a5, a6, a7⟩ cS)
      clear a1 a2 a3 a4 a5 a6 a7
      go_wp2_with (first | (go_at_call 44; refine (scope44_any pb _ _ cS).mono ?_; rintro e w' ⟨rfl, rfl⟩) | (go_at_call 45; refine CI.out.mono ?_; rintro e w7 ⟨rfl, hfa, hb7⟩))
      go_ret
      go_light
      exact ⟨86, _, rfl, .inr (.inr (.inl rfl)), hfa, HBB.out.trans hb7⟩

end Go.Proofs.YtipmpeekfajlcaaGreatDoor
