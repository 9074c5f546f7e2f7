/- What is proved: the contract of spec.Tell. Conditions: the package's number is one. -/
import Derived.Test.YtipmpeekfajlcaaGreatDoorWc
import Derived.StillTailTactics
namespace Go.Proofs.YtipmpeekfajlcaaGreatDoor
open Go.RowKit Go.Proofs

set_option maxRecDepth 100000 in
set_option maxHeartbeats 4000000 in
theorem specTell_any (W : WorldD) (pa da : Option Addr) (pc dc : Nat) (o : ObjD) (ka : Option Addr) (kc : Nat) (w : World) (hp : PkgsV w pa pc W.pkgs) (h0 : 0 ≤ o.pkg) (h1 : o.pkg < W.pkgs.length)
    (hs1 : (W.pkg o.pkg.toNat).path.size ≤ 1000) (hs2 : o.name.size ≤ 1000) :
    Calls Tryz.prog 9 #[.agg #[.slice pa W.pkgs.length pc, .slice da W.decls.length dc], .agg #[.string o.kd, .int .i64 o.pkg, .bool o.top, .string o.name, .string o.ty.kd, .string o.ty.nm, .string o.ty.tg, .int .i64 o.ty.sz, .slice ka o.ty.kids.length kc, .int .i64 o.imp]] w
      fun e w' => e = .returned (.agg #[.string o.name, .bool (bigB o.name), .string (idB (W.pkg o.pkg.toNat).path o.name)]) ∧ Below w.heap.size w w' := by
  have hl1 := hp.hcap
  have hl2 := hp.hmax
  obtain ⟨b, off, rfl, c0, c1, hf⟩ := hp.at_ o.pkg.toNat _ (pkg_at (by omega))
  have hbl := World.block_lt_of_cell? w _ c0
  simp only at hbl
  have hoff : o.pkg.toNat * 2 = o.pkg.toNat * 2 := rfl
  clear hp c1 hf
  have cI : ∀ w', Calls Tryz.prog 19 #[.string (W.pkg o.pkg.toNat).path, .string o.name] w' fun e w'' => e = .returned (.string (idB (W.pkg o.pkg.toNat).path o.name)) ∧ w' = w'' := fun w' => specId_any _ _ w' hs1 hs2
  have CI := Lib.hid cI
  have cB : ∀ w', Calls Tryz.prog 18 #[.string o.name] w' fun e w'' => e = .returned (.bool (bigB o.name)) ∧ w' = w'' := fun w' => isBig_any _ w'
  have CB := Lib.hid cB
  clear cI cB
  generalize (W.pkg o.pkg.toNat).path = pp at *
  obtain ⟨W2, hW2⟩ : ∃ W2, W2 = ((w.alloc (.cells #[.slice (some ⟨b, off, none⟩) W.pkgs.length pc, .slice da W.decls.length dc] 25)).alloc (.cells #[.string o.kd, .int .i64 o.pkg, .bool o.top, .string o.name, .string o.ty.kd, .string o.ty.nm, .string o.ty.tg, .int .i64 o.ty.sz, .slice ka o.ty.kids.length kc, .int .i64 o.imp] 30)) := ⟨_, rfl⟩
  have hb2 : Below w.heap.size w W2 := by rw [hW2]; exact twoNew _ _ _
  obtain ⟨e0, e1, e2, e3, e4, e5, e6, e7, e8, e9, k0, k1⟩ := objCells (w' := W2) (by rw [hW2]; exact Below.refl _ _)
  have hsz : W2.heap.size = w.heap.size + 1 + 1 := by rw [hW2]; simp
  have HW2 := Lib.hid hW2
  clear hW2
  have hdr : Below W2.heap.size W2 W2.drew := (Below.refl _ _).drew
  have x1 := cell_below hdr e1
  have x3 := cell_below hdr e3
  have y0 := cell_below hdr k0
  have d0 := cell_below hdr (cell_below hb2 c0)
  have hsz4 : W2.drew.heap.size = w.heap.size + 1 + 1 := hsz
  have HB4 := Lib.hid (hb2.trans (hdr.mono hb2.size))
  clear e0 e1 e2 e3 e4 e5 e6 e7 e8 e9 k0 k1 c0 hb2 hdr
  go_enter Tryz.func9, Tryz.ntmps9
  go_wp2_with fail
  rw [← HW2.out]
  refine wp_region_still_tail 16 (by kernel_rfl) (by kernel_rfl) ?_
  simp only [List.take_succ_cons, List.take_zero, List.drop_succ_cons, List.drop_zero]
  change wpStill _ _ (W2.drew.alloc (.cells #[.string ⟨#[]⟩, .bool false, .string ⟨#[]⟩] 35)) (fun a' => wpList _ _ _ _ a' (W2.drew.alloc (.cells #[.string ⟨#[]⟩, .bool false, .string ⟨#[]⟩] 35))) _ _
  rw [← hsz4]
  clear hsz
  generalize W2.drew = W4 at *
  have hbl4 : b < W4.heap.size := by omega
  have hbl5 : b < w.heap.size + 1 + 1 := by omega
  have hbl6 : b < w.heap.size + 2 := by omega
  have z0 : (W4.alloc (.cells #[.string ⟨#[]⟩, .bool false, .string ⟨#[]⟩] 35)).cell? ⟨b, off + o.pkg.toNat * 2, none⟩ = some (.string pp) := cell_below ((Below.refl _ _).alloc (Nat.le_refl _) _) d0
  repeat (first | still_step | still_call ((CB.out _).mono fun _ _ h => ⟨h.1, h.2.symm⟩) | still_call ((CI.out _).mono fun _ _ h => ⟨h.1, h.2.symm⟩))
  refine wpStill_nil ?_
  go_wp2
  have f0 : (W4.alloc (.cells #[.string o.name, .bool (bigB o.name), .string (idB pp o.name)] 35)).cell? ⟨w.heap.size + 1 + 1, 0, none⟩ = some (.string o.name) := by rw [← hsz4]; simp
  have f1 : (W4.alloc (.cells #[.string o.name, .bool (bigB o.name), .string (idB pp o.name)] 35)).cell? ⟨w.heap.size + 1 + 1, 1, none⟩ = some (.bool (bigB o.name)) := by rw [← hsz4]; simp
  have f2 : (W4.alloc (.cells #[.string o.name, .bool (bigB o.name), .string (idB pp o.name)] 35)).cell? ⟨w.heap.size + 1 + 1, 2, none⟩ = some (.string (idB pp o.name)) := by rw [← hsz4]; simp
  exact bodyPost_ret (v := .agg #[.string o.name, .bool (bigB o.name), .string (idB pp o.name)]) (by simp [results, Tryz.results9, go_sem, f0, f1, f2]) rfl ⟨rfl, HB4.out.trans (((Below.refl W4.heap.size W4).alloc (Nat.le_refl _) _).mono HB4.out.size)⟩
end Go.Proofs.YtipmpeekfajlcaaGreatDoor
