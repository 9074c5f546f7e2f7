/- What is proved: contracts of Exported and Id of an object of a package; the contract of impl's Tell. Conditions: the input lies in memory as trees, and is one. -/
import Derived.Test.YtipmpeekfajlcaaGreatDoorJc
namespace Go.Proofs.YtipmpeekfajlcaaGreatDoor
open Go.RowKit Go.Proofs Go.Sort Go.BigFrame

theorem exported_any (ob : Nat) (s : ByteArray) (hs : nameB s = true) (w : World) (hp : PropsAt w) (o3 : w.cell? ⟨ob, 3, none⟩ = some (.string s)) : Calls Tryz.prog 145 #[.pointer (some ⟨ob, 0, none⟩)] w fun e w' => e = .returned (.bool (bigB s)) ∧ w = w' := by
  have cE := isExported_any s hs w hp
  go_enter Tryz.func145, Tryz.ntmps145
  go_wp2_with (go_at_call 166; refine cE.mono ?_; rintro e w' ⟨rfl, rfl⟩)
  go_ret
  exact ⟨rfl, rfl⟩

attribute [local go_sem] Oper.semAt_some
set_option maxRecDepth 100000 in
set_option maxHeartbeats 1000000 in
theorem objIdP_any (s p : ByteArray) (hs : nameB s = true) (hp1 : 0 < p.size) (hp2 : p.size ≤ 1000) (ob pb : Nat) (w : World) (hp : PropsAt w) (c2 : w.cell? ⟨ob, 2, none⟩ = some (.pointer (some ⟨pb, 0, none⟩))) (c3 : w.cell? ⟨ob, 3, none⟩ = some (.string s)) (cp : w.cell? ⟨pb, 0, none⟩ = some (.string p)) :
    Calls Tryz.prog 134 #[.pointer (some ⟨ob, 0, none⟩)] w (Gives (.string (idB p s)) w) := by
  have hp' : PropsAt w.drew := hp.keep ((Below.refl _ _).drew)
  have cI := idPkg_any s p hs hp1 hp2 pb 0 w.drew hp' cp
  have CI := Lib.hid cI; clear cI
  go_enter Tryz.func134, Tryz.ntmps134
  go_wp2_with fail
  refine wp_region_still_lit (by kernel_rfl) (by kernel_rfl) ?_
  change wpStill _ _ w.drew _ _ _
  have d2 : w.drew.cell? ⟨ob, 2, none⟩ = some (.pointer (some ⟨pb, 0, none⟩)) := c2
  have d3 : w.drew.cell? ⟨ob, 3, none⟩ = some (.string s) := c3
  clear c2 c3 cp hp hp'
  generalize w.drew = w4 at *
  repeat (first | still_step | still_call ((CI.out).mono fun _ _ h => ⟨h.1, h.2.symm⟩))
  refine wpStill_nil ?_
  go_wp2
  go_ret
  exact ⟨rfl, (Below.refl _ _).drew⟩

theorem three_cells {w w' : World} {u0 u1 v0 v1 v2 v3 v4 v5 v6 v7 v8 v9 x0 x1 x2 : Value} (h : Below (((w.alloc (.cells #[u0, u1] 25)).alloc (.cells #[v0, v1, v2, v3, v4, v5, v6, v7, v8, v9] 30)).alloc (.cells #[x0, x1, x2] 35)).heap.size (((w.alloc (.cells #[u0, u1] 25)).alloc (.cells #[v0, v1, v2, v3, v4, v5, v6, v7, v8, v9] 30)).alloc (.cells #[x0, x1, x2] 35)) w') :
    (w'.cell? ⟨w.heap.size, 0, none⟩ = some u0 ∧ w'.cell? ⟨w.heap.size, 1, none⟩ = some u1 ∧ w'.cell? ⟨w.heap.size + 1, 0, none⟩ = some v0 ∧ w'.cell? ⟨w.heap.size + 1, 1, none⟩ = some v1 ∧ w'.cell? ⟨w.heap.size + 1, 2, none⟩ = some v2 ∧ w'.cell? ⟨w.heap.size + 1, 3, none⟩ = some v3 ∧
    w'.cell? ⟨w.heap.size + 1, 4, none⟩ = some v4 ∧ w'.cell? ⟨w.heap.size + 1, 5, none⟩ = some v5 ∧ w'.cell? ⟨w.heap.size + 1, 6, none⟩ = some v6 ∧ w'.cell? ⟨w.heap.size + 1, 7, none⟩ = some v7 ∧ w'.cell? ⟨w.heap.size + 1, 8, none⟩ = some v8 ∧ w'.cell? ⟨w.heap.size + 1, 9, none⟩ = some v9) ∧
    w'.heap[w.heap.size + 2]? = some (Obj.cells #[x0, x1, x2] 35 (0, 0)) := by
  have e0 : w'.heap[w.heap.size]? = some (Obj.cells #[u0, u1] 25 (0, 0)) := (h.block w.heap.size (by simp; omega)).trans ((Below.heap_alloc _ _ _ (by simp; omega)).trans (heap_two0 _ _ _))
  have e1 : w'.heap[w.heap.size + 1]? = some (Obj.cells #[v0, v1, v2, v3, v4, v5, v6, v7, v8, v9] 30 (0, 0)) := (h.block (w.heap.size + 1) (by simp)).trans ((Below.heap_alloc _ _ _ (by simp)).trans (heap_two _ _ _))
  have e2 : w'.heap[w.heap.size + 2]? = some (Obj.cells #[x0, x1, x2] 35 (0, 0)) := (h.block (w.heap.size + 2) (by simp)).trans (heap_three _ _ _ _)
  refine ⟨⟨?_, ?_, ?_, ?_, ?_, ?_, ?_, ?_, ?_, ?_, ?_, ?_⟩, e2⟩
  all_goals first | (simp [World.cell?, e0]; done) | (simp [World.cell?, e1]; done)

theorem res_at {w : World} {b : Nat} {x0 x1 x2 : Value} (h : w.heap[b]? = some (Obj.cells #[x0, x1, x2] 35 (0, 0))) : w.cell? ⟨b, 0, none⟩ = some x0 ∧ w.cell? ⟨b, 1, none⟩ = some x1 ∧ w.cell? ⟨b, 2, none⟩ = some x2 ∧ ∀ i, w.frozen? ⟨b, i, none⟩ = false := by
  refine ⟨?_, ?_, ?_, fun i => ?_⟩
  · simp [World.cell?, h]
  · simp [World.cell?, h]
  · simp [World.cell?, h]
  · simp [World.frozen?, h]

/-- The result's block, kept as a fact, and what is read of it. -/
theorem res_at' {w : World} {b : Nat} {x0 x1 x2 : Value} (h : w.heap[b]? = some (Obj.cells #[x0, x1, x2] 35 (0, 0))) : w.cell? ⟨b, 0, none⟩ = some x0 ∧ w.cell? ⟨b, 1, none⟩ = some x1 ∧ w.cell? ⟨b, 2, none⟩ = some x2 ∧ (∀ i, w.frozen? ⟨b, i, none⟩ = false) ∧ w.heap[b]? = some (Obj.cells #[x0, x1, x2] 35 (0, 0)) :=
  ⟨(res_at h).1, (res_at h).2.1, (res_at h).2.2.1, (res_at h).2.2.2, h⟩
theorem res_set {w : World} {b B : Nat} {x0 x1 x2 : Value} (h : w.heap[b]? = some (Obj.cells #[x0, x1, x2] 35 (0, 0))) (v0 v1 v2 : Value) (hB : B ≤ b) :
    (((w.setCell ⟨b, 0, none⟩ v0).setCell ⟨b, 1, none⟩ v1).setCell ⟨b, 2, none⟩ v2).cell? ⟨b, 0, none⟩ = some v0 ∧ (((w.setCell ⟨b, 0, none⟩ v0).setCell ⟨b, 1, none⟩ v1).setCell ⟨b, 2, none⟩ v2).cell? ⟨b, 1, none⟩ = some v1 ∧
    (((w.setCell ⟨b, 0, none⟩ v0).setCell ⟨b, 1, none⟩ v1).setCell ⟨b, 2, none⟩ v2).cell? ⟨b, 2, none⟩ = some v2 ∧ Below B w (((w.setCell ⟨b, 0, none⟩ v0).setCell ⟨b, 1, none⟩ v1).setCell ⟨b, 2, none⟩ v2) := by
  have e := setCell_heap_same _ b 2 v2 (setCell_heap_same _ b 1 v1 (setCell_heap_same w b 0 v0 h))
  have e3 := res_at (show _ = some (Obj.cells #[v0, v1, v2] 35 (0, 0)) from e)
  exact ⟨e3.1, e3.2.1, e3.2.2.1, (((Below.refl B w).setCell (p := ⟨b, 0, none⟩) hB v0).setCell (p := ⟨b, 1, none⟩) hB v1).setCell (p := ⟨b, 2, none⟩) hB v2⟩

set_option maxRecDepth 100000 in
set_option maxHeartbeats 16000000 in
theorem tell_any (W : WorldD) (pa da : Option Addr) (pc dc : Nat) (o : ObjD) (ka : Option Addr) (kc : Nat) (w : World) (hp : PkgsV w pa pc W.pkgs) (hd : DeclsV w da dc W.decls) (hW : WorldOk W) (hk : KidsV w ka kc o.ty.kids) (hf : o.Fits) (ho : ObjOk W o) (hpos : 0 ≤ o.pkg) (hpr : PropsAt w) :
    Calls Tryz.prog 8 #[.agg #[.slice pa W.pkgs.length pc, .slice da W.decls.length dc], .agg #[.string o.kd, .int .i64 o.pkg, .bool o.top, .string o.name, .string o.ty.kd, .string o.ty.nm, .string o.ty.tg, .int .i64 o.ty.sz, .slice ka o.ty.kids.length kc, .int .i64 o.imp]] w
      fun e w' => e = .returned (.agg #[.string o.name, .bool (bigB o.name), .string (idB (W.pkg o.pkg.toNat).path o.name)]) ∧ Below w.heap.size w w' := by
  have hl1 := hk.len.1
  have hl2 := hk.len.2
  have hl3 := hp.hcap
  have hl4 := hp.hmax
  have hl5 := hd.hcap
  have hl6 := hd.hmax
  have hp1 := hf.lo
  have hp2 := hf.hi
  have hpath := (hW.pkgs o.pkg.toNat (by have := ho.hi; omega)).1
  have hPO : PathOk (W.pkg o.pkg.toNat).path := by simpa [pathB] using hpath
  obtain ⟨W2, hW2⟩ : ∃ W2, W2 = ((w.alloc (.cells #[.slice pa W.pkgs.length pc, .slice da W.decls.length dc] 25)).alloc (.cells #[.string o.kd, .int .i64 o.pkg, .bool o.top, .string o.name, .string o.ty.kd, .string o.ty.nm, .string o.ty.tg, .int .i64 o.ty.sz, .slice ka o.ty.kids.length kc, .int .i64 o.imp] 30)).alloc (.cells #[.string ⟨#[]⟩, .bool false, .string ⟨#[]⟩] 35) := ⟨_, rfl⟩
  have hb2 : Below w.heap.size w W2 := by rw [hW2]; go_grown
  have h3c := three_cells (w' := W2) (by rw [hW2]; exact Below.refl _ _)
  have hsz : W2.heap.size = w.heap.size + 3 := by rw [hW2]; simp
  have HW2 := Lib.hid hW2; clear hW2
  have hbd : Below w.heap.size w W2.drew := hb2.drew
  have CB := Lib.hid (build_any W pa da pc dc W2.drew (hp.keep hbd) (hd.keep hbd) hW (hpr.keep hbd))
  have HOBJ : Hid (∀ (w1 : World) (mb : Nat) (bc : Array Value), Below W2.drew.heap.size W2.drew w1 → L3 W W2.drew.heap.size mb bc w1 W.decls.length →
      Calls Tryz.prog 17 #[.pointer (some ⟨mb, 0, none⟩), .agg #[.string o.kd, .int .i64 o.pkg, .bool o.top, .string o.name, .string o.ty.kd, .string o.ty.nm, .string o.ty.tg, .int .i64 o.ty.sz, .slice ka o.ty.kids.length kc, .int .i64 o.imp]] w1 (ObjGives W2.drew.heap.size o.name (W.pkg o.pkg.toNat).path w1)) := fun w1 mb bc h1 h2 => by
    have hb1 := hbd.trans (h1.mono hbd.size)
    exact object_any W W2.drew.heap.size mb bc o ka kc w1 h2 h1.size (hpr.keep hb1) (hk.keep hb1) hf hpos ho
  have HPRO : Hid (∀ w', Below w.heap.size w w' → PropsAt w') := fun w' h => hpr.keep h
  have HBD := Lib.hid hbd
  have SH : Hid (∀ w', Below W2.heap.size W2 w' → w'.cell? ⟨w.heap.size, 0, none⟩ = some (.slice pa W.pkgs.length pc) ∧ w'.cell? ⟨w.heap.size, 1, none⟩ = some (.slice da W.decls.length dc) ∧ w'.cell? ⟨w.heap.size + 1, 0, none⟩ = some (.string o.kd) ∧ w'.cell? ⟨w.heap.size + 1, 1, none⟩ = some (.int .i64 o.pkg) ∧ w'.cell? ⟨w.heap.size + 1, 2, none⟩ = some (.bool o.top) ∧ w'.cell? ⟨w.heap.size + 1, 3, none⟩ = some (.string o.name) ∧ w'.cell? ⟨w.heap.size + 1, 4, none⟩ = some (.string o.ty.kd) ∧ w'.cell? ⟨w.heap.size + 1, 5, none⟩ = some (.string o.ty.nm) ∧ w'.cell? ⟨w.heap.size + 1, 6, none⟩ = some (.string o.ty.tg) ∧ w'.cell? ⟨w.heap.size + 1, 7, none⟩ = some (.int .i64 o.ty.sz) ∧ w'.cell? ⟨w.heap.size + 1, 8, none⟩ = some (.slice ka o.ty.kids.length kc) ∧ w'.cell? ⟨w.heap.size + 1, 9, none⟩ = some (.int .i64 o.imp)) := fun w' h => by
    obtain ⟨⟨a0, a1, b0, b1, b2, b3, b4, b5, b6, b7, b8, b9⟩, _⟩ := h3c
    exact ⟨cell_below h a0, cell_below h a1, cell_below h b0, cell_below h b1, cell_below h b2, cell_below h b3, cell_below h b4, cell_below h b5, cell_below h b6, cell_below h b7, cell_below h b8, cell_below h b9⟩
  have HRES := Lib.hid h3c.2
  have HNM := Lib.hid ho.name
  have HPO := Lib.hid hPO
  have HSZ := Lib.hid hsz
  clear h3c hb2 hbd hp hd hW hk hf ho hpr hpath hPO hsz
  go_enter Tryz.func8, Tryz.ntmps8
  go_wp2_with fail
  rw [← HW2.out]
  go_region_held3 (fun w' => w'.cell? ⟨w.heap.size, 0, none⟩ = some (.slice pa W.pkgs.length pc) ∧ w'.cell? ⟨w.heap.size, 1, none⟩ = some (.slice da W.decls.length dc) ∧ w'.cell? ⟨w.heap.size + 1, 0, none⟩ = some (.string o.kd) ∧ w'.cell? ⟨w.heap.size + 1, 1, none⟩ = some (.int .i64 o.pkg) ∧ w'.cell? ⟨w.heap.size + 1, 2, none⟩ = some (.bool o.top) ∧ w'.cell? ⟨w.heap.size + 1, 3, none⟩ = some (.string o.name) ∧ w'.cell? ⟨w.heap.size + 1, 4, none⟩ = some (.string o.ty.kd) ∧ w'.cell? ⟨w.heap.size + 1, 5, none⟩ = some (.string o.ty.nm) ∧ w'.cell? ⟨w.heap.size + 1, 6, none⟩ = some (.string o.ty.tg) ∧ w'.cell? ⟨w.heap.size + 1, 7, none⟩ = some (.int .i64 o.ty.sz) ∧ w'.cell? ⟨w.heap.size + 1, 8, none⟩ = some (.slice ka o.ty.kids.length kc) ∧ w'.cell? ⟨w.heap.size + 1, 9, none⟩ = some (.int .i64 o.imp))
    (first | exact SH.out _ ((Below.refl _ _).drew) | exact SH.out _ ((Below.refl _ _).drew.trans hb1) | exact SH.out _ (((Below.refl _ _).drew.trans hb1).trans hb7))
    (first | (go_at_call 16; refine CB.out.mono ?_; rintro e w1 ⟨mb, bc, rfl, hb1, hmb, hl3'⟩) | (go_at_call 17; refine (HOBJ.out _ _ _ hb1 hl3').mono ?_; rintro e w7 ⟨T, ob, rfl, hT, ⟨pb, o2, o3, op⟩, hb7⟩))
  all_goals
    have hB1 := HBD.out.trans (hb1.mono HBD.out.size)
    have hB7 := hB1.trans (hb7.mono (Nat.le_trans HBD.out.size (Nat.le_refl _)))
    have hpr7 := HPRO.out w7 hB7
    have CE := Lib.hid (exported_any ob o.name HNM.out w7 hpr7 o3)
    have CI := Lib.hid (objIdP_any o.name (W.pkg o.pkg.toNat).path HNM.out (by have := HPO.out.2.1; omega) (by have := HPO.out.2.2; omega) ob pb w7 hpr7 o2 o3 op)
    have HB7 := Lib.hid hB7
    have hres7 : w7.heap[w.heap.size + 2]? = some (Obj.cells #[.string ⟨#[]⟩, .bool false, .string ⟨#[]⟩] 35 (0, 0)) := (hb7.block (w.heap.size + 2) (by have := HSZ.out; show _ < W2.heap.size; omega)).trans ((hb1.block (w.heap.size + 2) (by have := HSZ.out; show _ < W2.heap.size; omega)).trans HRES.out)
    have HR7 := Lib.hid hres7
    clear hB1 hB7 hpr7 hres7 o2 op
    rcases hT with rfl | rfl | rfl | rfl | rfl | rfl
    all_goals
      go_wp2_with (first | (go_at_call 184; refine (name184_any ob o.name _ o3).mono ?_; rintro e w' ⟨rfl, rfl⟩) | (go_at_call 145; refine CE.out.mono ?_; rintro e w' ⟨rfl, rfl⟩) | (go_at_call 134; refine CI.out.mono ?_; rintro e w8 ⟨rfl, hb8⟩; have hr8 := res_at' ((hb8.block _ (Array.getElem?_eq_some_iff.1 HR7.out).1).trans HR7.out); have r80 := hr8.1; have r81 := hr8.2.1; have r82 := hr8.2.2.1; have z8 := hr8.2.2.2.1; have z80 := z8 0; have z81 := z8 1; have z82 := z8 2; have HR8 := Lib.hid hr8.2.2.2.2; clear hr8 z8))
      obtain ⟨f0, f1, f2, hbl⟩ := res_set HR8.out (.string o.name) (.bool (bigB o.name)) (.string (idB (W.pkg o.pkg.toNat).path o.name)) (show w.heap.size ≤ w.heap.size + 1 + 1 by omega)
      clear r80 r81 r82 z80 z81 z82
      exact bodyPost_ret (v := .agg #[.string o.name, .bool (bigB o.name), .string (idB (W.pkg o.pkg.toNat).path o.name)]) (by simp [results, Tryz.results8, go_sem, f0, f1, f2]) rfl ⟨rfl, (HB7.out.trans (hb8.mono HB7.out.size)).trans hbl⟩

end Go.Proofs.YtipmpeekfajlcaaGreatDoor
