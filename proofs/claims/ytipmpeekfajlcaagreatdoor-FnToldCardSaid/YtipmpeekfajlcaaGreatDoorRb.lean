/- What is proved: the two arguments of the law, opened: they lie in memory as plain data; the table of unicode's properties, read off the row's condition. Conditions: they can be read. -/
import Derived.Test.YtipmpeekfajlcaaGreatDoorRa
import Derived.Test.YtipmpeekfajlcaaGreatDoorWc
import Derived.Test.YtipmpeekfajlcaaGreatDoorGe
import Derived.Lib.LaidTab
import Derived.Lib.LaidU8
namespace Go.Proofs.YtipmpeekfajlcaaGreatDoor
open Go.RowKit Go.ChangeShapes Go.WideShapes Go.ChangeAt Go.Deep Go.Joins

section
variable {H : Type} {enc : TypeId × Value → H} {w : World} {base : Nat} {spare : Nat → Bool} {held : Bool}

set_option maxRecDepth 100000 in
theorem obj_of {fuel : Nat} {cs : List Value} {x : DataW H × List MemPlace} (h : DataW.trod enc Tryz.prog w base spare held fuel 30 cs = some x) :
    ∃ (o : ObjD) (ka : Option Addr) (kc : Nat), cs = [.string o.kd, .int .i64 o.pkg, .bool o.top, .string o.name, .string o.ty.kd, .string o.ty.nm, .string o.ty.tg, .int .i64 o.ty.sz, .slice ka o.ty.kids.length kc, .int .i64 o.imp] ∧ KidsV w ka kc o.ty.kids ∧ o.Fits := by
  obtain ⟨xs, n, rfl, _, hl, hlen, hf⟩ := DataW.trod_struct Tryz.underlying30 h
  rw [co30] at hl
  match cs, hl with
  | [c0, c1, c2, c3, c4, c5, c6, c7, c8, c9], _ =>
    match xs, hlen with
    | [y0, y1, y2, y3, y4, y5], _ =>
      have f0 : DataW.trod enc Tryz.prog w base spare held n 9 (List.take (Tryz.prog.cellsOf 9) (List.drop 0 [c0, c1, c2, c3, c4, c5, c6, c7, c8, c9])) = some y0 := hf 0 _ rfl
      have f1 : DataW.trod enc Tryz.prog w base spare held n 2 (List.take (Tryz.prog.cellsOf 2) (List.drop 1 [c0, c1, c2, c3, c4, c5, c6, c7, c8, c9])) = some y1 := hf 1 _ rfl
      have f2 : DataW.trod enc Tryz.prog w base spare held n 4 (List.take (Tryz.prog.cellsOf 4) (List.drop 2 [c0, c1, c2, c3, c4, c5, c6, c7, c8, c9])) = some y2 := hf 2 _ rfl
      have f3 : DataW.trod enc Tryz.prog w base spare held n 9 (List.take (Tryz.prog.cellsOf 9) (List.drop 3 [c0, c1, c2, c3, c4, c5, c6, c7, c8, c9])) = some y3 := hf 3 _ rfl
      have f4 : DataW.trod enc Tryz.prog w base spare held n 28 (List.take (Tryz.prog.cellsOf 28) (List.drop 4 [c0, c1, c2, c3, c4, c5, c6, c7, c8, c9])) = some y4 := hf 4 _ rfl
      have f5 : DataW.trod enc Tryz.prog w base spare held n 2 (List.take (Tryz.prog.cellsOf 2) (List.drop 9 [c0, c1, c2, c3, c4, c5, c6, c7, c8, c9])) = some y5 := hf 5 _ rfl
      rw [co9] at f0 f3
      rw [co2] at f1 f5
      rw [co4] at f2
      rw [co28] at f4
      obtain ⟨kd, e0, l0⟩ := trod_str (show DataW.trod enc Tryz.prog w base spare held n 9 [c0] = some y0 from f0)
      obtain ⟨pk, e1, l1, l2⟩ := trod_i64 (show DataW.trod enc Tryz.prog w base spare held n 2 [c1] = some y1 from f1)
      obtain ⟨tp, e2, _⟩ := DataW.trod_bool Tryz.underlying4 (show DataW.trod enc Tryz.prog w base spare held n 4 [c2] = some y2 from f2)
      obtain ⟨nm, e3, l3⟩ := trod_str (show DataW.trod enc Tryz.prog w base spare held n 9 [c3] = some y3 from f3)
      obtain ⟨im, e5, l4, l5⟩ := trod_i64 (show DataW.trod enc Tryz.prog w base spare held n 2 [c9] = some y5 from f5)
      obtain ⟨n', tk, tn, tg, sz, c8', y8, rfl, e4, m0, m1, m2, m3, m4, h4⟩ := type_of (show DataW.trod enc Tryz.prog w base spare held n 28 [c4, c5, c6, c7, c8] = some y4 from f4)
      obtain ⟨ka, kc, kids, e6, hk⟩ := kids_of n' h4
      simp only [List.cons.injEq, and_true] at e0 e1 e2 e3 e4 e5 e6
      obtain ⟨rfl, rfl, rfl, rfl, rfl⟩ := e4
      subst e0 e1 e2 e3 e5 e6
      exact ⟨⟨kd, pk, tp, nm, .mk tk tn tg sz kids, im⟩, ka, kc, rfl, hk, ⟨l0, l1, l2, l3, ⟨m0, m1, m2, m3, m4, Nat.le_trans hk.len.1 hk.len.2⟩, l4, l5⟩⟩

set_option maxRecDepth 100000 in
theorem open_world {d : DataW H} {p : List MemPlace} {v : Value} (hv : Value.okWide Tryz.prog w .any base 25 v) (h : DataW.Trod enc Tryz.prog w 0 spare held 25 v d p) :
    ∃ (W : WorldD) (pa da : Option Addr) (pc dc : Nat), v = .agg #[.slice pa W.pkgs.length pc, .slice da W.decls.length dc] ∧ PkgsV w pa pc W.pkgs ∧ DeclsV w da dc W.decls := by
  obtain ⟨c0, c1, y0, y1, n, rfl, _, _, h0, h1⟩ := open_agg2 Tryz.underlying25 (by kernel_rfl) co25 hv h
  obtain ⟨pa, pc, pkgs, e0, hp⟩ := pkgs_of h0
  obtain ⟨da, dc, decls, e1, hd⟩ := decls_of h1
  simp only [List.cons.injEq, and_true] at e0 e1
  subst e0 e1
  exact ⟨⟨pkgs, decls⟩, pa, da, pc, dc, rfl, hp, hd⟩
set_option maxRecDepth 100000 in
theorem open_obj {d : DataW H} {p : List MemPlace} {v : Value} (hv : Value.okWide Tryz.prog w .any base 30 v) (h : DataW.Trod enc Tryz.prog w 0 spare held 30 v d p) :
    ∃ (o : ObjD) (ka : Option Addr) (kc : Nat), v = .agg #[.string o.kd, .int .i64 o.pkg, .bool o.top, .string o.name, .string o.ty.kd, .string o.ty.nm, .string o.ty.tg, .int .i64 o.ty.sz, .slice ka o.ty.kids.length kc, .int .i64 o.imp] ∧ KidsV w ka kc o.ty.kids ∧ o.Fits := by
  obtain ⟨cs, rfl, _⟩ := okWide_struct Tryz.underlying30 hv
  obtain ⟨fuel, hf⟩ := h
  obtain ⟨o, ka, kc, e, hk, ho⟩ := obj_of (show DataW.trod enc Tryz.prog w 0 spare held fuel 30 cs.toList = some (d, p) from hf)
  refine ⟨o, ka, kc, ?_, hk, ho⟩
  congr 1
  exact Array.toList_inj.1 e
end

theorem gProps : Tryz.prog.globalNamed "unicode.properties" = some 3 := by kernel_rfl
theorem props_of {W : World} (h : Lib.VarReads Tryz.prog W "unicode.properties" (Lib.tabData .u8 Lib.propertiesTab)) : PropsAt W := fun c hc => by
  obtain ⟨g, t, cs, fuel, p, hg, ht, hv, hd⟩ := h
  obtain rfl := Option.some.inj (gProps.symm.trans hg)
  have htt : (Tryz.prog.globals[3]?).map (·.type) = some 391 := by kernel_rfl
  obtain rfl := Option.some.inj (htt.symm.trans ht)
  have hcs := Lib.cells_of_tab (n := 256) (e := 5) (show Tryz.prog.underlying 391 = some (.array 256 5) by kernel_rfl) Tryz.underlying5 (by kernel_rfl) (by kernel_rfl) hd
  have htab : Lib.TabIs Tryz.prog W "unicode.properties" .u8 Lib.propertiesTab := by
    unfold Lib.TabIs
    rw [hv, ← hcs]
  exact htab.cell gProps c (by rw [show Lib.propertiesTab.length = 256 from by kernel_rfl]; exact hc)

end Go.Proofs.YtipmpeekfajlcaaGreatDoor
