/- What is proved: the law FnTold returns true. Conditions: the input lies in memory as trees; the table of unicode's properties lies as laid. -/
import Derived.Laws.StructEq
import Derived.Test.YtipmpeekfajlcaaGreatDoorKa
import Derived.Test.YtipmpeekfajlcaaGreatDoorWe
import Derived.Test.YtipmpeekfajlcaaGreatDoorWf
namespace Go.Proofs.YtipmpeekfajlcaaGreatDoor
open Go.RowKit Go.Proofs Go.Sort Go.BigFrame

@[go_sem] theorem eq35 (a c : ByteArray) (b : Bool) (w : World) : (Op.equalIn 10000 35 (.agg #[.string a, .bool b, .string c]) (.agg #[.string a, .bool b, .string c])).run Tryz.prog w = .ok true w := by
  have u9 := Tryz.underlying9
  have u4 := Tryz.underlying4
  have a9 := Tryz.isAgg9
  have a4 := Tryz.isAgg4
  have z9 := Tryz.sizeOf9
  have z4 := Tryz.sizeOf4
  have hS : Tryz.prog.underlying 35 = some (.struct (Tryz.prog.fieldsOf 35)) := by kernel_rfl
  have hp : Tryz.prog.stoodInHeld 35 = false := by kernel_rfl
  rw [show (10000 : Nat) = 9999 + 1 from rfl, run_equalIn_agg w 9999 35 _ _ hS hp]
  simp only [Program.fieldsOf, Tryz.underlying35]
  go_simp
@[go_sem] theorem binEq35 (a c : ByteArray) (b : Bool) (w : World) : (binOp BinOp.eql 35 (.agg #[.string a, .bool b, .string c]) (.agg #[.string a, .bool b, .string c])).run Tryz.prog w = .ok (.bool true) w := by
  rw [run_eql_struct, eq35]
  rfl

theorem told_below {w w6 wA wB : World} (h0 : Below w.heap.size w w6) (h1 : Below w6.drew.heap.size w6.drew wA) (h2 : Below wA.heap.size wA wB) : Below w.heap.size w wB := by
  have a1 := h0.drew.trans (h1.mono h0.size)
  exact a1.trans (h2.mono a1.size)

set_option maxRecDepth 100000 in
set_option maxHeartbeats 16000000 in
theorem fnTold_any (W : WorldD) (pa da : Option Addr) (pc dc : Nat) (o : ObjD) (ka : Option Addr) (kc : Nat) (w : World) (hp : PkgsV w pa pc W.pkgs) (hd : DeclsV w da dc W.decls) (hk : KidsV w ka kc o.ty.kids) (hf : o.Fits) (hpr : PropsAt w) :
    Calls Tryz.prog 3 #[.agg #[.slice pa W.pkgs.length pc, .slice da W.decls.length dc], .agg #[.string o.kd, .int .i64 o.pkg, .bool o.top, .string o.name, .string o.ty.kd, .string o.ty.nm, .string o.ty.tg, .int .i64 o.ty.sz, .slice ka o.ty.kids.length kc, .int .i64 o.imp]] w fun e w' => e = .returned (.bool true) ∧ Below w.heap.size w w' := by
  have hl1 := hk.len.1
  have hl2 := hk.len.2
  have hl3 := hp.hcap
  have hl4 := hp.hmax
  have hl5 := hd.hcap
  have hl6 := hd.hmax
  have hp1 := hf.lo
  have hp2 := hf.hi
  have HP := Lib.hid hp
  have HD := Lib.hid hd
  have HK := Lib.hid hk
  have HF := Lib.hid hf
  have HPR := Lib.hid hpr
  have hb2 : Below w.heap.size w ((w.alloc (.cells #[.slice pa W.pkgs.length pc, .slice da W.decls.length dc] 25)).alloc (.cells #[.string o.kd, .int .i64 o.pkg, .bool o.top, .string o.name, .string o.ty.kd, .string o.ty.nm, .string o.ty.tg, .int .i64 o.ty.sz, .slice ka o.ty.kids.length kc, .int .i64 o.imp] 30)) := twoNew _ _ _
  have HB2 := Lib.hid hb2
  have C4 := Lib.hid (fits1_any pa da pc dc W.decls.length W.pkgs _ (hp.keep hb2))
  clear hp hd hk hf hpr hb2
  go_enter Tryz.func3, Tryz.ntmps3
  go_wp2_with fail
  refine C4.out.mono ?_
  rintro e w3 ⟨b4, rfl, hb3⟩
  have HB3 := Lib.hid (HB2.out.trans (hb3.mono HB2.out.size))
  obtain ⟨e0, e1, e2, e3, e4, e5, e6, e7, e8, e9, k0, k1⟩ := objCells hb3
  clear hb3 C4
  cases b4 with
  | false =>
    go_wp2_with fail
    go_ret
    go_light
    exact ⟨rfl, HB3.out⟩
  | true =>
    have C5 := Lib.hid (fits5_any o.kd o.name o.pkg o.imp o.top o.ty ka kc w3)
    go_wp2_with fail
    refine C5.out.mono ?_
    rintro e w4 ⟨b5, rfl, hb4⟩
    have HB4 := Lib.hid (HB3.out.trans (hb4.mono HB3.out.size))
    replace e0 := cell_below hb4 e0
    replace e1 := cell_below hb4 e1
    replace e2 := cell_below hb4 e2
    replace e3 := cell_below hb4 e3
    replace e4 := cell_below hb4 e4
    replace e5 := cell_below hb4 e5
    replace e6 := cell_below hb4 e6
    replace e7 := cell_below hb4 e7
    replace e8 := cell_below hb4 e8
    replace e9 := cell_below hb4 e9
    replace k0 := cell_below hb4 k0
    replace k1 := cell_below hb4 k1
    clear hb4 C5 HB3
    cases b5 with
    | false =>
      go_wp2_with fail
      go_ret
      go_light
      exact ⟨rfl, HB4.out⟩
    | true =>
      have C6 := Lib.hid (isWorld_any W pa da pc dc w4 (HP.out.keep HB4.out) (HD.out.keep HB4.out))
      go_wp2_with fail
      refine C6.out.mono ?_
      rintro e w5 ⟨b6, rfl, hW, hb5⟩
      have HB5 := Lib.hid (HB4.out.trans (hb5.mono HB4.out.size))
      replace e0 := cell_below hb5 e0
      replace e1 := cell_below hb5 e1
      replace e2 := cell_below hb5 e2
      replace e3 := cell_below hb5 e3
      replace e4 := cell_below hb5 e4
      replace e5 := cell_below hb5 e5
      replace e6 := cell_below hb5 e6
      replace e7 := cell_below hb5 e7
      replace e8 := cell_below hb5 e8
      replace e9 := cell_below hb5 e9
      replace k0 := cell_below hb5 k0
      replace k1 := cell_below hb5 k1
      have HW := Lib.hid hW
      clear hb5 C6 HB4 hW
      cases b6 with
      | false =>
        go_wp2_with fail
        go_ret
        go_light
        exact ⟨rfl, HB5.out⟩
      | true =>
        have C7 := Lib.hid (isObject_any W pa da pc dc o ka kc w5 (HD.out.keep HB5.out) (HK.out.keep HB5.out) HF.out)
        go_wp2_with fail
        refine C7.out.mono ?_
        rintro e w6 ⟨b7, rfl, hO, hb6⟩
        have HB6 := Lib.hid (HB5.out.trans (hb6.mono HB5.out.size))
        replace e0 := cell_below hb6 e0
        replace e1 := cell_below hb6 e1
        replace e2 := cell_below hb6 e2
        replace e3 := cell_below hb6 e3
        replace e4 := cell_below hb6 e4
        replace e5 := cell_below hb6 e5
        replace e6 := cell_below hb6 e6
        replace e7 := cell_below hb6 e7
        replace e8 := cell_below hb6 e8
        replace e9 := cell_below hb6 e9
        replace k0 := cell_below hb6 k0
        replace k1 := cell_below hb6 k1
        have HO := Lib.hid hO
        clear hb6 C7 HB5 hO
        cases b7 with
        | false =>
          go_wp2_with fail
          go_ret
          go_light
          exact ⟨rfl, HB6.out⟩
        | true =>
          by_cases hneg : o.pkg < 0
          · go_wp2_with fail
            go_ret
            go_light
            exact ⟨rfl, HB6.out⟩
          · have hW := HW.out (by simp)
            have hO := HO.out (by simp)
            have hpath : PathOk (W.pkg o.pkg.toNat).path := by simpa [pathB] using (hW.pkgs o.pkg.toNat (by have := hO.hi; omega)).1
            have hname : NameOk o.name := by simpa [nameB] using hO.name
            have CT : Hid (∀ w', Below w6.heap.size w6 w' → Calls Tryz.prog 8 #[.agg #[.slice pa W.pkgs.length pc, .slice da W.decls.length dc], .agg #[.string o.kd, .int .i64 o.pkg, .bool o.top, .string o.name, .string o.ty.kd, .string o.ty.nm, .string o.ty.tg, .int .i64 o.ty.sz, .slice ka o.ty.kids.length kc, .int .i64 o.imp]] w' fun e w'' => e = .returned (.agg #[.string o.name, .bool (bigB o.name), .string (idB (W.pkg o.pkg.toNat).path o.name)]) ∧ Below w'.heap.size w' w'') := fun w' h' => by
              have hb := HB6.out.trans (h'.mono HB6.out.size)
              exact tell_any W pa da pc dc o ka kc w' (HP.out.keep hb) (HD.out.keep hb) hW (HK.out.keep hb) HF.out hO (by omega) (HPR.out.keep hb)
            have CSp : Hid (∀ w', Below w6.heap.size w6 w' → Calls Tryz.prog 9 #[.agg #[.slice pa W.pkgs.length pc, .slice da W.decls.length dc], .agg #[.string o.kd, .int .i64 o.pkg, .bool o.top, .string o.name, .string o.ty.kd, .string o.ty.nm, .string o.ty.tg, .int .i64 o.ty.sz, .slice ka o.ty.kids.length kc, .int .i64 o.imp]] w' fun e w'' => e = .returned (.agg #[.string o.name, .bool (bigB o.name), .string (idB (W.pkg o.pkg.toNat).path o.name)]) ∧ Below w'.heap.size w' w'') := fun w' h' => by
              have hb := HB6.out.trans (h'.mono HB6.out.size)
              exact specTell_any W pa da pc dc o ka kc w' (HP.out.keep hb) (by omega) hO.hi (by have := hpath.2.2; omega) (by have := hname.2.2; omega)
            have SH : Hid (∀ w', Below w6.heap.size w6 w' → w'.cell? ⟨w.heap.size, 0, none⟩ = some (.slice pa W.pkgs.length pc) ∧ w'.cell? ⟨w.heap.size, 1, none⟩ = some (.slice da W.decls.length dc) ∧ w'.cell? ⟨w.heap.size + 1, 0, none⟩ = some (.string o.kd) ∧ w'.cell? ⟨w.heap.size + 1, 1, none⟩ = some (.int .i64 o.pkg) ∧ w'.cell? ⟨w.heap.size + 1, 2, none⟩ = some (.bool o.top) ∧ w'.cell? ⟨w.heap.size + 1, 3, none⟩ = some (.string o.name) ∧ w'.cell? ⟨w.heap.size + 1, 4, none⟩ = some (.string o.ty.kd) ∧ w'.cell? ⟨w.heap.size + 1, 5, none⟩ = some (.string o.ty.nm) ∧ w'.cell? ⟨w.heap.size + 1, 6, none⟩ = some (.string o.ty.tg) ∧ w'.cell? ⟨w.heap.size + 1, 7, none⟩ = some (.int .i64 o.ty.sz) ∧ w'.cell? ⟨w.heap.size + 1, 8, none⟩ = some (.slice ka o.ty.kids.length kc) ∧ w'.cell? ⟨w.heap.size + 1, 9, none⟩ = some (.int .i64 o.imp)) := fun w' h => ⟨cell_below h k0, cell_below h k1, cell_below h e0, cell_below h e1, cell_below h e2, cell_below h e3, cell_below h e4, cell_below h e5, cell_below h e6, cell_below h e7, cell_below h e8, cell_below h e9⟩
            clear hW hO hpath hname HW HO
            go_wp2_with fail
            go_region_held3 (fun w' => w'.cell? ⟨w.heap.size, 0, none⟩ = some (.slice pa W.pkgs.length pc) ∧ w'.cell? ⟨w.heap.size, 1, none⟩ = some (.slice da W.decls.length dc) ∧ w'.cell? ⟨w.heap.size + 1, 0, none⟩ = some (.string o.kd) ∧ w'.cell? ⟨w.heap.size + 1, 1, none⟩ = some (.int .i64 o.pkg) ∧ w'.cell? ⟨w.heap.size + 1, 2, none⟩ = some (.bool o.top) ∧ w'.cell? ⟨w.heap.size + 1, 3, none⟩ = some (.string o.name) ∧ w'.cell? ⟨w.heap.size + 1, 4, none⟩ = some (.string o.ty.kd) ∧ w'.cell? ⟨w.heap.size + 1, 5, none⟩ = some (.string o.ty.nm) ∧ w'.cell? ⟨w.heap.size + 1, 6, none⟩ = some (.string o.ty.tg) ∧ w'.cell? ⟨w.heap.size + 1, 7, none⟩ = some (.int .i64 o.ty.sz) ∧ w'.cell? ⟨w.heap.size + 1, 8, none⟩ = some (.slice ka o.ty.kids.length kc) ∧ w'.cell? ⟨w.heap.size + 1, 9, none⟩ = some (.int .i64 o.imp))
              (first | exact SH.out _ ((Below.refl _ _).drew) | exact SH.out _ ((Below.refl _ _).drew.trans hbA) | exact SH.out _ ((Below.refl _ _).drew.trans hbB) | exact SH.out _ (((Below.refl _ _).drew.trans hbA).trans (hbB.mono hbA.size)) | exact SH.out _ (((Below.refl _ _).drew.trans hbB).trans (hbA.mono hbB.size)))
              (first | (go_at_call 8; refine (CT.out _ ?_).mono ?_; (first | exact (Below.refl _ _).drew | exact (Below.refl _ _).drew.trans hbB); rintro e wA ⟨rfl, hbA⟩) | (go_at_call 9; refine (CSp.out _ ?_).mono ?_; (first | exact (Below.refl _ _).drew | exact (Below.refl _ _).drew.trans hbA); rintro e wB ⟨rfl, hbB⟩))
            all_goals
              go_wp2
              go_ret
              go_light
              first
              | exact ⟨rfl, told_below HB6.out hbA hbB⟩
              | exact ⟨rfl, told_below HB6.out hbB hbA⟩

end Go.Proofs.YtipmpeekfajlcaaGreatDoor
