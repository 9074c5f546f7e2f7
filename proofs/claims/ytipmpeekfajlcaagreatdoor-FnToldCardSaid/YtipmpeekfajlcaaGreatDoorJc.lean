/- What is proved: the contract of impl's object, at declared types, labels and imported packages; and at every kind. Conditions: what build makes lies, the object is one, of a package. -/
import Derived.Test.YtipmpeekfajlcaaGreatDoorJb
namespace Go.Proofs.YtipmpeekfajlcaaGreatDoor
open Go.RowKit Go.Proofs Go.Sort Go.BigFrame

set_option maxRecDepth 100000 in
set_option maxHeartbeats 16000000 in
theorem object_label (W : WorldD) (B mb : Nat) (bc : Array Value) (o : ObjD) (ka : Option Addr) (kc : Nat) (w : World) (hL : L3 W B mb bc w W.decls.length) (hBw : B ≤ w.heap.size) (_hpr : PropsAt w) (hk : KidsV w ka kc o.ty.kids) (hf : o.Fits) (hpos : 0 ≤ o.pkg) (hpk : o.pkg < W.pkgs.length)
    (hkd : o.kd.toList = [108, 97, 98, 101, 108]) (htop : o.top = false) :
    Calls Tryz.prog 17 #[.pointer (some ⟨mb, 0, none⟩), .agg #[.string o.kd, .int .i64 o.pkg, .bool o.top, .string o.name, .string o.ty.kd, .string o.ty.nm, .string o.ty.tg, .int .i64 o.ty.sz, .slice ka o.ty.kids.length kc, .int .i64 o.imp]] w (ObjGives B o.name (W.pkg o.pkg.toNat).path w) := by
  obtain ⟨S, vp, vn, vd, xs, ys, zs, hst, _, _, _⟩ := hL
  have hl1 := hk.len.1
  have hl2 := hk.len.2
  have hp1 := hf.lo
  have hp2 := hf.hi
  obtain ⟨W2, hW2⟩ : ∃ W2, W2 = (w.alloc (.cells #[.string o.kd, .int .i64 o.pkg, .bool o.top, .string o.name, .string o.ty.kd, .string o.ty.nm, .string o.ty.tg, .int .i64 o.ty.sz, .slice ka o.ty.kids.length kc, .int .i64 o.imp] 30)) := ⟨_, rfl⟩
  have hb : Below w.heap.size w W2 := by rw [hW2]; exact (Below.refl _ _).alloc (Nat.le_refl _) _
  have n0 : W2.cell? ⟨w.heap.size, 0, none⟩ = some (.string o.kd) := by rw [hW2]; simp
  have n1 : W2.cell? ⟨w.heap.size, 1, none⟩ = some (.int .i64 o.pkg) := by rw [hW2]; simp
  have n2 : W2.cell? ⟨w.heap.size, 2, none⟩ = some (.bool o.top) := by rw [hW2]; simp
  have n3 : W2.cell? ⟨w.heap.size, 3, none⟩ = some (.string o.name) := by rw [hW2]; simp
  have n4 : W2.cell? ⟨w.heap.size, 4, none⟩ = some (.string o.ty.kd) := by rw [hW2]; simp
  have n5 : W2.cell? ⟨w.heap.size, 5, none⟩ = some (.string o.ty.nm) := by rw [hW2]; simp
  have n6 : W2.cell? ⟨w.heap.size, 6, none⟩ = some (.string o.ty.tg) := by rw [hW2]; simp
  have n7 : W2.cell? ⟨w.heap.size, 7, none⟩ = some (.int .i64 o.ty.sz) := by rw [hW2]; simp
  have n8 : W2.cell? ⟨w.heap.size, 8, none⟩ = some (.slice ka o.ty.kids.length kc) := by rw [hW2]; simp
  have n9 : W2.cell? ⟨w.heap.size, 9, none⟩ = some (.int .i64 o.imp) := by rw [hW2]; simp
  have hst2 := hst.below hb
  have CP : Hid (Calls Tryz.prog 30 #[.pointer (some ⟨mb, 0, none⟩), .int .i64 o.pkg] (w.alloc (.cells #[.string o.kd, .int .i64 o.pkg, .bool o.top, .string o.name, .string o.ty.kd, .string o.ty.nm, .string o.ty.tg, .int .i64 o.ty.sz, .slice ka o.ty.kids.length kc, .int .i64 o.imp] 30)) fun e w' => ∃ q, e = .returned (.pointer q) ∧ (w.alloc (.cells #[.string o.kd, .int .i64 o.pkg, .bool o.top, .string o.name, .string o.ty.kd, .string o.ty.nm, .string o.ty.tg, .int .i64 o.ty.sz, .slice ka o.ty.kids.length kc, .int .i64 o.imp] 30)) = w' ∧ PkgQ W B W2 o.pkg q ∧ (o.pkg < 0 → q = none)) := by
    show Calls _ _ _ _ _
    rw [← hW2]
    exact pkg_any W B mb W.pkgs.length vp vn vd xs o.pkg hpk W2 hst2.m hst2.ox hst2.rx
  have HST2 := Lib.hid hst2
  have HW2 := Lib.hid hW2
  have HB := Lib.hid hb
  have HPOS := Lib.hid hpos
  have HTP := Lib.hid htop; clear htop
  have HTOP := Lib.hid n2
  clear n0 n1 n2 n3 n4 n5 n6 n7 n8 n9 hst hst2 hb hf _hpr hk hpos
  have hsz2 : W2.heap.size = w.heap.size + 1 := by rw [hW2]; simp
  have CL : Hid (∀ p s, Calls Tryz.prog 42 #[.int .i64 0, .pointer p, .string s] (w.alloc (.cells #[.string o.kd, .int .i64 o.pkg, .bool o.top, .string o.name, .string o.ty.kd, .string o.ty.nm, .string o.ty.tg, .int .i64 o.ty.sz, .slice ka o.ty.kids.length kc, .int .i64 o.imp] 30)) fun e w' => ∃ b, e = .returned (.pointer (some ⟨b, 0, none⟩)) ∧ W2.heap.size ≤ b ∧ w'.cell? ⟨b, 2, none⟩ = some (.pointer p) ∧ w'.cell? ⟨b, 3, none⟩ = some (.string s) ∧ Below W2.heap.size W2 w') := by
    show ∀ _ _, Calls _ _ _ _ _
    rw [← hW2]
    exact fun p s => newLabel_any p s W2
  clear hW2 hsz2
  go_enter Tryz.func17, Tryz.ntmps17
  go_wp2_with (first | (go_at_call 30; refine CP.out.mono ?_; rintro e w' ⟨q, rfl, rfl, hq, _⟩; obtain ⟨pb, rfl, hpb⟩ := hq HPOS.out) | (go_at_call 42; refine (CL.out _ _).mono ?_; rintro e w5 ⟨b, rfl, hbl, l2, l3, hb5⟩; have t5 := cell_below hb5 HTOP.out; rw [HTP.out] at t5))
  go_ret
  go_light
  exact ⟨90, b, rfl, .inr (.inr (.inr (.inr (.inl rfl)))), ⟨pb, l2, l3, (hpb.below hb5).path⟩, (HB.out.trans (hb5.mono HB.out.size)).mono hBw⟩

set_option maxRecDepth 100000 in
set_option maxHeartbeats 16000000 in
theorem object_package (W : WorldD) (B mb : Nat) (bc : Array Value) (o : ObjD) (ka : Option Addr) (kc : Nat) (w : World) (hL : L3 W B mb bc w W.decls.length) (hBw : B ≤ w.heap.size) (_hpr : PropsAt w) (hk : KidsV w ka kc o.ty.kids) (hf : o.Fits) (hpos : 0 ≤ o.pkg) (hpk : o.pkg < W.pkgs.length)
    (hkd : o.kd.toList = [112, 97, 99, 107, 97, 103, 101]) (htop : o.top = false) (hi0 : 0 ≤ o.imp) (hi1 : o.imp < W.pkgs.length) :
    Calls Tryz.prog 17 #[.pointer (some ⟨mb, 0, none⟩), .agg #[.string o.kd, .int .i64 o.pkg, .bool o.top, .string o.name, .string o.ty.kd, .string o.ty.nm, .string o.ty.tg, .int .i64 o.ty.sz, .slice ka o.ty.kids.length kc, .int .i64 o.imp]] w (ObjGives B o.name (W.pkg o.pkg.toNat).path w) := by
  obtain ⟨S, vp, vn, vd, xs, ys, zs, hst, _, _, _⟩ := hL
  have hl1 := hk.len.1
  have hl2 := hk.len.2
  have hp1 := hf.lo
  have hp2 := hf.hi
  obtain ⟨W2, hW2⟩ : ∃ W2, W2 = (w.alloc (.cells #[.string o.kd, .int .i64 o.pkg, .bool o.top, .string o.name, .string o.ty.kd, .string o.ty.nm, .string o.ty.tg, .int .i64 o.ty.sz, .slice ka o.ty.kids.length kc, .int .i64 o.imp] 30)) := ⟨_, rfl⟩
  have hb : Below w.heap.size w W2 := by rw [hW2]; exact (Below.refl _ _).alloc (Nat.le_refl _) _
  have n0 : W2.cell? ⟨w.heap.size, 0, none⟩ = some (.string o.kd) := by rw [hW2]; simp
  have n1 : W2.cell? ⟨w.heap.size, 1, none⟩ = some (.int .i64 o.pkg) := by rw [hW2]; simp
  have n2 : W2.cell? ⟨w.heap.size, 2, none⟩ = some (.bool o.top) := by rw [hW2]; simp
  have n3 : W2.cell? ⟨w.heap.size, 3, none⟩ = some (.string o.name) := by rw [hW2]; simp
  have n4 : W2.cell? ⟨w.heap.size, 4, none⟩ = some (.string o.ty.kd) := by rw [hW2]; simp
  have n5 : W2.cell? ⟨w.heap.size, 5, none⟩ = some (.string o.ty.nm) := by rw [hW2]; simp
  have n6 : W2.cell? ⟨w.heap.size, 6, none⟩ = some (.string o.ty.tg) := by rw [hW2]; simp
  have n7 : W2.cell? ⟨w.heap.size, 7, none⟩ = some (.int .i64 o.ty.sz) := by rw [hW2]; simp
  have n8 : W2.cell? ⟨w.heap.size, 8, none⟩ = some (.slice ka o.ty.kids.length kc) := by rw [hW2]; simp
  have n9 : W2.cell? ⟨w.heap.size, 9, none⟩ = some (.int .i64 o.imp) := by rw [hW2]; simp
  have hst2 := hst.below hb
  have CP : Hid (Calls Tryz.prog 30 #[.pointer (some ⟨mb, 0, none⟩), .int .i64 o.pkg] (w.alloc (.cells #[.string o.kd, .int .i64 o.pkg, .bool o.top, .string o.name, .string o.ty.kd, .string o.ty.nm, .string o.ty.tg, .int .i64 o.ty.sz, .slice ka o.ty.kids.length kc, .int .i64 o.imp] 30)) fun e w' => ∃ q, e = .returned (.pointer q) ∧ (w.alloc (.cells #[.string o.kd, .int .i64 o.pkg, .bool o.top, .string o.name, .string o.ty.kd, .string o.ty.nm, .string o.ty.tg, .int .i64 o.ty.sz, .slice ka o.ty.kids.length kc, .int .i64 o.imp] 30)) = w' ∧ PkgQ W B W2 o.pkg q ∧ (o.pkg < 0 → q = none)) := by
    show Calls _ _ _ _ _
    rw [← hW2]
    exact pkg_any W B mb W.pkgs.length vp vn vd xs o.pkg hpk W2 hst2.m hst2.ox hst2.rx
  have HST2 := Lib.hid hst2
  have HW2 := Lib.hid hW2
  have HB := Lib.hid hb
  have HPOS := Lib.hid hpos
  have HTP := Lib.hid htop; clear htop
  have HTOP := Lib.hid n2
  obtain ⟨gp, capp, rfl, _, _⟩ := hst.ox.form (by omega)
  obtain ⟨ib, hib, _⟩ := hst2.rx o.imp.toNat (by omega)
  have hg4 := (hst2.ox.cellAt o.imp.toNat (by omega)).trans hib
  have hm0 := hst2.m.c0
  have SH : Hid (∀ w', Below W2.heap.size W2 w' → w'.cell? ⟨w.heap.size, 3, none⟩ = some (.string o.name) ∧ w'.cell? ⟨w.heap.size, 9, none⟩ = some (.int .i64 o.imp) ∧ w'.cell? ⟨mb, 0, none⟩ = some (.slice (some ⟨gp, 0, none⟩) W.pkgs.length capp) ∧ w'.cell? ⟨gp, o.imp.toNat, none⟩ = some (.pointer (some ⟨ib, 0, none⟩))) := fun w' h => ⟨cell_below h n3, cell_below h n9, cell_below h hm0, cell_below h hg4⟩
  clear n0 n1 n2 n3 n4 n5 n6 n7 n8 n9 hst hst2 hb hf _hpr hk hpos hg4 hm0 hib hW2
  go_enter Tryz.func17, Tryz.ntmps17
  go_wp2_with (go_at_call 30; refine CP.out.mono ?_; rintro e w' ⟨q, rfl, rfl, hq, _⟩; obtain ⟨pb, rfl, hpb⟩ := hq HPOS.out)
  rw [← HW2.out]
  go_region_held3 (fun w' => w'.cell? ⟨w.heap.size, 3, none⟩ = some (.string o.name) ∧ w'.cell? ⟨w.heap.size, 9, none⟩ = some (.int .i64 o.imp) ∧ w'.cell? ⟨mb, 0, none⟩ = some (.slice (some ⟨gp, 0, none⟩) W.pkgs.length capp) ∧ w'.cell? ⟨gp, o.imp.toNat, none⟩ = some (.pointer (some ⟨ib, 0, none⟩)))
    (first | exact SH.out _ ((Below.refl _ _).drew) | exact SH.out _ ((Below.refl _ _).drew.trans hb5))
    (first | (go_at_call 43; refine (newPkgName_any _ _ _ _).mono ?_; rintro e w5 ⟨b, rfl, hbl, l2, l3, hb5⟩))
  all_goals
    have hB5 := HB.out.drew.trans (hb5.mono HB.out.size)
    have t5 := cell_below hb5 HTOP.out
    have hpb5 := (hpb.below (Below.refl _ _).drew).below hb5
    rw [HTP.out] at t5
    go_wp2
    go_ret
    go_light
    exact ⟨92, b, rfl, .inr (.inr (.inr (.inr (.inr rfl)))), ⟨pb, l2, l3, hpb5.path⟩, hB5.mono hBw⟩

set_option maxRecDepth 100000 in
set_option maxHeartbeats 16000000 in
theorem object_type (W : WorldD) (B mb : Nat) (bc : Array Value) (o : ObjD) (ka : Option Addr) (kc : Nat) (w : World) (hL : L3 W B mb bc w W.decls.length) (hBw : B ≤ w.heap.size) (_hpr : PropsAt w) (hk : KidsV w ka kc o.ty.kids) (hf : o.Fits) (hpos : 0 ≤ o.pkg) (hpk : o.pkg < W.pkgs.length)
    (hkd : o.kd.toList = [116, 121, 112, 101]) (hs0 : 0 ≤ o.ty.sz) (hs1 : o.ty.sz < W.decls.length) (hdp : (W.decl o.ty.sz.toNat).pkg = o.pkg) (hdn : (W.decl o.ty.sz.toNat).name = o.name) :
    Calls Tryz.prog 17 #[.pointer (some ⟨mb, 0, none⟩), .agg #[.string o.kd, .int .i64 o.pkg, .bool o.top, .string o.name, .string o.ty.kd, .string o.ty.nm, .string o.ty.tg, .int .i64 o.ty.sz, .slice ka o.ty.kids.length kc, .int .i64 o.imp]] w (ObjGives B o.name (W.pkg o.pkg.toNat).path w) := by
  obtain ⟨S, vp, vn, vd, xs, ys, zs, hst, _, _, _⟩ := hL
  have hl1 := hk.len.1
  have hl2 := hk.len.2
  have hp1 := hf.lo
  have hp2 := hf.hi
  obtain ⟨W2, hW2⟩ : ∃ W2, W2 = (w.alloc (.cells #[.string o.kd, .int .i64 o.pkg, .bool o.top, .string o.name, .string o.ty.kd, .string o.ty.nm, .string o.ty.tg, .int .i64 o.ty.sz, .slice ka o.ty.kids.length kc, .int .i64 o.imp] 30)) := ⟨_, rfl⟩
  have hb : Below w.heap.size w W2 := by rw [hW2]; exact (Below.refl _ _).alloc (Nat.le_refl _) _
  have n0 : W2.cell? ⟨w.heap.size, 0, none⟩ = some (.string o.kd) := by rw [hW2]; simp
  have n1 : W2.cell? ⟨w.heap.size, 1, none⟩ = some (.int .i64 o.pkg) := by rw [hW2]; simp
  have n2 : W2.cell? ⟨w.heap.size, 2, none⟩ = some (.bool o.top) := by rw [hW2]; simp
  have n3 : W2.cell? ⟨w.heap.size, 3, none⟩ = some (.string o.name) := by rw [hW2]; simp
  have n4 : W2.cell? ⟨w.heap.size, 4, none⟩ = some (.string o.ty.kd) := by rw [hW2]; simp
  have n5 : W2.cell? ⟨w.heap.size, 5, none⟩ = some (.string o.ty.nm) := by rw [hW2]; simp
  have n6 : W2.cell? ⟨w.heap.size, 6, none⟩ = some (.string o.ty.tg) := by rw [hW2]; simp
  have n7 : W2.cell? ⟨w.heap.size, 7, none⟩ = some (.int .i64 o.ty.sz) := by rw [hW2]; simp
  have n8 : W2.cell? ⟨w.heap.size, 8, none⟩ = some (.slice ka o.ty.kids.length kc) := by rw [hW2]; simp
  have n9 : W2.cell? ⟨w.heap.size, 9, none⟩ = some (.int .i64 o.imp) := by rw [hW2]; simp
  have hst2 := hst.below hb
  have CP : Hid (Calls Tryz.prog 30 #[.pointer (some ⟨mb, 0, none⟩), .int .i64 o.pkg] (w.alloc (.cells #[.string o.kd, .int .i64 o.pkg, .bool o.top, .string o.name, .string o.ty.kd, .string o.ty.nm, .string o.ty.tg, .int .i64 o.ty.sz, .slice ka o.ty.kids.length kc, .int .i64 o.imp] 30)) fun e w' => ∃ q, e = .returned (.pointer q) ∧ (w.alloc (.cells #[.string o.kd, .int .i64 o.pkg, .bool o.top, .string o.name, .string o.ty.kd, .string o.ty.nm, .string o.ty.tg, .int .i64 o.ty.sz, .slice ka o.ty.kids.length kc, .int .i64 o.imp] 30)) = w' ∧ PkgQ W B W2 o.pkg q ∧ (o.pkg < 0 → q = none)) := by
    show Calls _ _ _ _ _
    rw [← hW2]
    exact pkg_any W B mb W.pkgs.length vp vn vd xs o.pkg hpk W2 hst2.m hst2.ox hst2.rx
  have HST2 := Lib.hid hst2
  have HW2 := Lib.hid hW2
  have HB := Lib.hid hb
  have HPOS := Lib.hid hpos
  have hs2 := hf.ty.lo
  have hs3 := hf.ty.hi
  obtain ⟨gn, capn, rfl, _, _⟩ := hst.oy.form (by omega)
  obtain ⟨ob, hob, hnm⟩ := hst2.ry o.ty.sz.toNat (by omega)
  have d1 : W2.drew.cell? ⟨mb, 1, none⟩ = some (.slice (some ⟨gn, 0, none⟩) W.decls.length capn) := hst2.m.c1
  have d2 : W2.drew.cell? ⟨gn, o.ty.sz.toNat, none⟩ = some (.pointer (some ⟨ob, 0, none⟩)) := (hst2.oy.cellAt o.ty.sz.toNat (by omega)).trans hob
  have d7 : W2.drew.cell? ⟨w.heap.size, 7, none⟩ = some (.int .i64 o.ty.sz) := n7
  have SH : Hid ((fun w' => w'.cell? ⟨mb, 1, none⟩ = some (.slice (some ⟨gn, 0, none⟩) W.decls.length capn) ∧ w'.cell? ⟨gn, o.ty.sz.toNat, none⟩ = some (.pointer (some ⟨ob, 0, none⟩)) ∧ w'.cell? ⟨w.heap.size, 7, none⟩ = some (.int .i64 o.ty.sz)) W2.drew) := ⟨d1, d2, d7⟩
  clear d1 d2 d7
  have HTOP := Lib.hid n2
  obtain ⟨cs, q2, a1, a2, a3, a4, a5, a6, a7, a8⟩ := hnm
  rw [hdp] at a6
  obtain ⟨pq, rfl, hpq⟩ := a6 hpos
  have HO := Lib.hid (show ObjH W2.drew ob (some ⟨pq, 0, none⟩) o.name from ⟨cs, 106, a1, by decide, by decide, a3, a4, by rw [a5, hdn]⟩)
  have HPQ := Lib.hid (hpq.below (Below.refl _ _).drew)
  have HOB := Lib.hid a7
  have HB4 := Lib.hid (show Below w.heap.size w W2.drew from hb.drew)
  clear n0 n1 n2 n3 n4 n5 n6 n7 n8 n9 hst hst2 hb hf _hpr hk hpos hob hW2 a1 a2 a3 a4 a5 a6 a7 a8 hpq hdp hdn
  go_enter Tryz.func17, Tryz.ntmps17
  go_wp2_with (go_at_call 30; refine CP.out.mono ?_; rintro e w' ⟨q, rfl, rfl, hq, _⟩; obtain ⟨pb, rfl, hpb⟩ := hq HPOS.out)
  rw [← HW2.out]
  have HPB := Lib.hid (hpb.below (Below.refl _ _).drew)
  clear hpb
  go_region_held3 (fun w' => w'.cell? ⟨mb, 1, none⟩ = some (.slice (some ⟨gn, 0, none⟩) W.decls.length capn) ∧ w'.cell? ⟨gn, o.ty.sz.toNat, none⟩ = some (.pointer (some ⟨ob, 0, none⟩)) ∧ w'.cell? ⟨w.heap.size, 7, none⟩ = some (.int .i64 o.ty.sz))
    (exact SH.out)
    (fail)
  have t5 := HTOP.out
  cases ht : o.top with
  | false =>
    rw [ht] at t5
    go_wp2
    go_ret
    go_light
    exact ⟨66, _, rfl, .inr (.inr (.inr (.inl rfl))), ⟨pq, HO.out.c2, HO.out.c3, HPQ.out.path⟩, HB4.out.mono hBw⟩
  | true =>
    rw [ht] at t5
    obtain ⟨cs, sb, c, a1, a2, a3, a4, a5, a6, a7⟩ := HPB.out
    have cS : W2.drew.cell? ⟨pb, 2, none⟩ = some (.pointer (some ⟨sb, 0, none⟩)) := by simp [World.cell?, a1, a3]
    have CI := Lib.hid (insert_any W B sb ob pb pq _ _ 66 (.inr (.inr (.inr rfl))) o.name W2.drew HO.out HOB.out ⟨cs, sb, c, a1, a2, a3, a4, a5, a6, a7⟩ HPQ.out cS)
    clear a1 a2 a3 a4 a5 a6 a7
    go_wp2_with (first | (go_at_call 44; refine (scope44_any pb _ _ cS).mono ?_; rintro e w' ⟨rfl, rfl⟩) | (go_at_call 45; refine CI.out.mono ?_; rintro e w7 ⟨rfl, hfa, hb7⟩))
    go_ret
    go_light
    exact ⟨66, _, rfl, .inr (.inr (.inr (.inl rfl))), hfa, (HB4.out.mono hBw).trans hb7⟩

/-- The contract of object, at every object of a package. -/
theorem object_any (W : WorldD) (B mb : Nat) (bc : Array Value) (o : ObjD) (ka : Option Addr) (kc : Nat) (w : World) (hL : L3 W B mb bc w W.decls.length) (hBw : B ≤ w.heap.size) (hpr : PropsAt w) (hk : KidsV w ka kc o.ty.kids) (hf : o.Fits) (hpos : 0 ≤ o.pkg) (ho : ObjOk W o) :
    Calls Tryz.prog 17 #[.pointer (some ⟨mb, 0, none⟩), .agg #[.string o.kd, .int .i64 o.pkg, .bool o.top, .string o.name, .string o.ty.kd, .string o.ty.nm, .string o.ty.tg, .int .i64 o.ty.sz, .slice ka o.ty.kids.length kc, .int .i64 o.imp]] w (ObjGives B o.name (W.pkg o.pkg.toNat).path w) := by
  rcases ho.kind with ⟨h, h1⟩ | ⟨h, h1, h2⟩ | ⟨h, h1, h2⟩ | ⟨h, h1⟩ | ⟨h, h1, h2⟩ | ⟨h, h1, h2, h3, h4, h5⟩ | ⟨h, h1⟩ | ⟨h, h1, h2, h3⟩
  · exact object_var W B mb bc o ka kc w hL hBw hpr hk hf hpos ho.hi h h1
  · exact object_param W B mb bc o ka kc w hL hBw hpr hk hf hpos ho.hi h h1 h2
  · exact object_field W B mb bc o ka kc w hL hBw hpr hk hf hpos ho.hi h h1 h2
  · exact object_const W B mb bc o ka kc w hL hBw hpr hk hf hpos ho.hi h h1
  · exact object_func W B mb bc o ka kc w hL hBw hpr hk hf hpos ho.hi h h2 h1
  · exact object_type W B mb bc o ka kc w hL hBw hpr hk hf hpos ho.hi h h1 h2 h4 h5
  · exact object_label W B mb bc o ka kc w hL hBw hpr hk hf hpos ho.hi h h1
  · exact object_package W B mb bc o ka kc w hL hBw hpr hk hf hpos ho.hi h h1 h2 h3

end Go.Proofs.YtipmpeekfajlcaaGreatDoor
