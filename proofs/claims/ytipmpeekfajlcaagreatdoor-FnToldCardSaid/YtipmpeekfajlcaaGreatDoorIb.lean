/- What is proved: the contract of impl's build. Conditions: the input lies in memory as trees, and the world is one. -/
import Derived.Test.YtipmpeekfajlcaaGreatDoorId
import Derived.Test.YtipmpeekfajlcaaGreatDoorHf
namespace Go.Proofs.YtipmpeekfajlcaaGreatDoor
open Go.RowKit Go.Proofs Go.Sort Go.BigFrame

theorem ty59 : Tryz.prog.underlying 59 = some (.slice 64) := u59
theorem ty60 : Tryz.prog.underlying 60 = some (.slice 66) := u60

/-- What holds behind k rounds over the packages. -/
def L1 (W : WorldD) (B mb : Nat) (bc : Array Value) (wr : World) (k : Nat) : Prop := wr.heap[B]? = some (Obj.cells bc 25 (0, 0)) ∧ ∃ vp xs, M3 wr mb vp (.slice none 0 0) (.slice none 0 0) ∧ wr.ownsRow B 64 1 vp k xs ∧ RowP wr xs k (PkgP W B)

theorem heap_three (w : World) (o1 o2 o3 : Obj) : (((w.alloc o1).alloc o2).alloc o3).heap[w.heap.size + 2]? = some o3 := by
  have h := heap_alloc_new ((w.alloc o1).alloc o2) o3
  simpa using h

theorem l1_m {W3 w2 : World} {mb B k : Nat} {vp a b : Value} {xs : List Value} {o1 o2 o3 : Obj} (hm : M3 W3 mb vp a b) (ho : W3.ownsRow B 64 1 vp k xs) (hg : ((((W3.alloc o1).alloc o2).alloc o3).drew).grownBy w2 vp.ownBlock) : M3 w2 mb vp a b :=
  (hm.fix (((Fix.alloc 64 W3 o1).trans (Fix.alloc 64 _ o2)).trans (Fix.alloc 64 _ o3)) (by decide)).fix (Fix.grown (w := (((W3.alloc o1).alloc o2).alloc o3).drew) ((((ho.alloc o1).alloc o2).alloc o3).drew) hg) (by decide)
theorem l1_below {w W3 w2 : World} {mb k : Nat} {vp v : Value} {xs : List Value} {o1 o2 o3 : Obj} (hb : Below w.heap.size w W3) (hmb : w.heap.size ≤ mb) (ho : W3.ownsRow w.heap.size 64 1 vp k xs) (hg : ((((W3.alloc o1).alloc o2).alloc o3).drew).grownBy w2 vp.ownBlock) :
    Below w.heap.size w (w2.setCell ⟨mb, 0, none⟩ v) := by
  have a3 := (((hb.alloc hb.size o1).alloc (Nat.le_trans hb.size (by simp)) o2).alloc (Nat.le_trans hb.size (by simp; omega)) o3).drew
  exact (a3.grown hg a3.size fun k hk => (ho.lt k hk).1).setCell (p := ⟨mb, 0, none⟩) hmb v
theorem l1_step {W : WorldD} {w W3 w2 : World} {mb k g cap : Nat} {vp : Value} {xs : List Value} {n : ByteArray} {bc : Array Value} (hx : W3.heap[w.heap.size]? = some (Obj.cells bc 25 (0, 0))) (hb : Below w.heap.size w W3) (hm : M3 W3 mb vp (.slice none 0 0) (.slice none 0 0)) (ho : W3.ownsRow w.heap.size 64 1 vp k xs) (hr : RowP W3 xs k (PkgP W w.heap.size))
    (hown2 : w2.ownsRow w.heap.size 64 1 (.slice (some ⟨g, 0, none⟩) (k + 1) cap) (k + 1) (xs ++ [.pointer (some ⟨W3.heap.size + 1, 0, none⟩)]))
    (hg : ((((W3.alloc (.cells #[.pointer none, .slice none 0 0, .int .i64 0, .map none, .int .i64 0, .int .i64 0, .string ⟨#[112, 97, 99, 107, 97, 103, 101]⟩, .bool false, .bool false] 164)).alloc
      (.cells #[.string (W.pkg k).path, .string n, .pointer (some ⟨W3.heap.size, 0, none⟩), .slice none 0 0, .bool false, .bool false, .bool false, .string ⟨#[]⟩] 101)).alloc (.cells #[.pointer (some ⟨W3.heap.size + 1, 0, none⟩)] 64)).drew).grownBy w2 vp.ownBlock) :
    L1 W w.heap.size mb bc (w2.setCell ⟨mb, 0, none⟩ (.slice (some ⟨g, 0, none⟩) (k + 1) cap)) (k + 1) := by
  have hm2 := l1_m hm ho hg
  have hfa := (((Fix.alloc 64 W3 (.cells #[.pointer none, .slice none 0 0, .int .i64 0, .map none, .int .i64 0, .int .i64 0, .string ⟨#[112, 97, 99, 107, 97, 103, 101]⟩, .bool false, .bool false] 164)).trans (Fix.alloc 64 _ (.cells #[.string (W.pkg k).path, .string n, .pointer (some ⟨W3.heap.size, 0, none⟩), .slice none 0 0, .bool false, .bool false, .bool false, .string ⟨#[]⟩] 101))).trans (Fix.alloc 64 _ (.cells #[.pointer (some ⟨W3.heap.size + 1, 0, none⟩)] 64)))
  have hfg := Fix.grown (w := ((((W3.alloc (.cells #[.pointer none, .slice none 0 0, .int .i64 0, .map none, .int .i64 0, .int .i64 0, .string ⟨#[112, 97, 99, 107, 97, 103, 101]⟩, .bool false, .bool false] 164)).alloc
      (.cells #[.string (W.pkg k).path, .string n, .pointer (some ⟨W3.heap.size, 0, none⟩), .slice none 0 0, .bool false, .bool false, .bool false, .string ⟨#[]⟩] 101)).alloc (.cells #[.pointer (some ⟨W3.heap.size + 1, 0, none⟩)] 64)).drew)) ((((ho.alloc _).alloc _).alloc _).drew) hg
  have hfs := Fix.setCell hm2 0 (.slice (some ⟨g, 0, none⟩) (k + 1) cap)
  have h1 : w2.heap[W3.heap.size]? = some (Obj.cells #[.pointer none, .slice none 0 0, .int .i64 0, .map none, .int .i64 0, .int .i64 0, .string ⟨#[112, 97, 99, 107, 97, 103, 101]⟩, .bool false, .bool false] 164) := hfg _ _ _ (Fix.alloc 64 _ _ _ _ _ (heap_two0 _ _ _) (by decide)) (by decide)
  have h2 : w2.heap[W3.heap.size + 1]? = some (Obj.cells #[.string (W.pkg k).path, .string n, .pointer (some ⟨W3.heap.size, 0, none⟩), .slice none 0 0, .bool false, .bool false, .bool false, .string ⟨#[]⟩] 101) := hfg _ _ _ (Fix.alloc 64 _ _ _ _ _ (heap_two _ _ _) (by decide)) (by decide)
  have hrow : RowP w2 (xs ++ [.pointer (some ⟨W3.heap.size + 1, 0, none⟩)]) (k + 1) (PkgP W w.heap.size) :=
    RowP.push (hr.keep fun j vb => PkgP.fix (hfa.trans hfg) (by decide) (by decide)) (by have := ho.1; omega) ⟨_, W3.heap.size, _, h2, rfl, rfl, h1, rfl, by have := hb.size; omega, hb.size⟩
  exact ⟨hfs _ _ _ ((hfa.trans hfg) _ _ _ hx (by decide)) (by decide), _, _, hm2.set0 _, own_setCell hown2 hm2 (by decide) 0 _, hrow.keep fun j vb => PkgP.fix hfs (by decide) (by decide)⟩

/-- What holds behind k rounds over the declarations, names and types made. -/
def L2 (W : WorldD) (B mb : Nat) (bc : Array Value) (wr : World) (k : Nat) : Prop := ∃ vp vn vd xs ys zs, St W B mb B bc (fun _ => False) (fun j => (W.decl j).ali = true) 0 k k wr vp vn vd xs ys zs
theorem heap_set_alloc (w : World) (a : Addr) (v : Value) (o : Obj) : ((w.setCell a v).alloc o).heap[w.heap.size]? = some o := by
  have h := heap_alloc_new (w.setCell a v) o
  rw [setCell_size] at h
  exact h
theorem box_at {w4 w5 : World} {b B k : Nat} {v0 v1 v2 v3 v4 v5 v6 v7 vn : Value} {ys : List Value} {o : Obj} (h : w4.heap[b]? = some (Obj.cells #[v0, v1, v2, v3, v4, v5, v6, v7] 42 (0, 0))) (ho : w4.ownsRow B 66 1 vn k ys) (hg : (w4.alloc o).grownBy w5 vn.ownBlock) : w5.cell? ⟨b, 2, none⟩ = some v2 := by
  have := ((Fix.alloc 66 w4 o).trans (Fix.grown (ho.alloc o) hg)) _ _ _ h (by decide)
  simp [World.cell?, this]
theorem l2_size {w w4 w5 : World} {B k : Nat} {vn : Value} {ys : List Value} {o : Obj} (hb : Below w.heap.size w w4) (_ho : w4.ownsRow B 66 1 vn k ys) (hg : (w4.alloc o).grownBy w5 vn.ownBlock) : w.heap.size ≤ w5.heap.size := by
  have h1 := hb.size
  have h2 := hg.size
  simp at h2
  omega
theorem l2_below {w w6 w7 w8 : World} {mb b0 k : Nat} {vd v : Value} {zs : List Value} {o : Obj} (hb6 : Below w.heap.size w w6) (h7g : w6.drew.grownBy w7 (some b0)) (hb0 : w.heap.size ≤ b0) (oz : w7.ownsRow w.heap.size 73 1 vd k zs) (hg8 : (w7.alloc o).grownBy w8 vd.ownBlock) (hmb : w.heap.size ≤ mb) :
    Below w.heap.size w (w8.setCell ⟨mb, 2, none⟩ v) :=
  (row_below1 (hb6.drew.grown h7g hb6.size fun k hk => by cases hk; exact hb0) oz hg8).setCell (p := ⟨mb, 2, none⟩) hmb v
theorem DeclR.fresh {W : WorldD} {B k : Nat} {S : Nat → Prop} {w : World} {zs : List Value} (h : DeclR W B S 0 w zs k) (j : Nat) (u : Value) (hj : j < k) (e : zs[j]? = some u) : blk u ≠ some w.heap.size := by
  intro hb
  cases ha : (W.decl j).ali with
  | true =>
    rw [((h j hj).2 ha).1 (Nat.zero_le _)] at e
    cases e
    cases hb
  | false =>
    obtain ⟨nb, ob, a1, _, a3⟩ := (h j hj).1 ha
    rw [a1] at e
    cases e
    simp only [blk, Option.some.injEq] at hb
    have := (Array.getElem?_eq_some_iff.1 (a3 (Nat.zero_le _))).1
    omega
theorem cell_of_box {w : World} {b : Nat} {v0 v1 v2 v3 v4 v5 v6 v7 : Value} (h : w.heap[b]? = some (Obj.cells #[v0, v1, v2, v3, v4, v5, v6, v7] 42 (0, 0))) : w.cell? ⟨b, 2, none⟩ = some v2 := by simp [World.cell?, h]
theorem l2_start {W : WorldD} {B mb : Nat} {bc : Array Value} {wr : World} (h : L1 W B mb bc wr W.pkgs.length) : L2 W B mb bc wr 0 := by
  obtain ⟨hbx, vp, xs, hm3, ho, hr⟩ := h
  exact ⟨vp, _, _, xs, [], [], hm3, hbx, ho, hr, World.ownsRow_nil _ _ _ _, RowP.nil _ _, Dist.nil, World.ownsRow_nil _ _ _ _, fun j hj => absurd hj (Nat.not_lt_zero _), Dist.nil⟩

/-- The values of the row lead to blocks that are there. -/
def InHeap (zs : List Value) (w : World) : Prop := ∀ (j : Nat) (u : Value) (b : Nat), zs[j]? = some u → blk u = some b → b < w.heap.size
theorem InHeap.size {zs : List Value} {w w' : World} (h : InHeap zs w) (hs : w.heap.size ≤ w'.heap.size) : InHeap zs w' := fun j u b e1 e2 => Nat.lt_of_lt_of_le (h j u b e1 e2) hs
theorem inHeap_set {zs : List Value} {w : World} {ab : Nat} (h : InHeap zs w) (hab : ab < w.heap.size) (k : Nat) {a : Addr} {v : Value} : InHeap (zs.set k (.iface 75 (.pointer (some ⟨ab, 0, none⟩)))) (w.setCell a v) := fun j u b e1 e2 => by
  rw [setCell_size]
  by_cases hjk : j = k
  · subst hjk
    have hl : j < zs.length := by have := (List.getElem?_eq_some_iff.1 e1).1; simpa using this
    rw [List.getElem?_set_self hl] at e1
    cases e1
    simp only [blk, Option.some.injEq] at e2
    omega
  · rw [List.getElem?_set_ne (fun h => hjk h.symm)] at e1
    exact h j u b e1 e2
/-- A store into a row of type e: what it leaves as it was. -/
theorem store_row {w : World} {B g n cap : Nat} {zs : List Value} (h : w.ownsRow B 73 1 (.slice (some ⟨g, 0, none⟩) n cap) n zs) (k : Nat) (u : Value) :
    (∀ (B' : Nat) (e : TypeId) (v : Value) (n' : Nat) (ys : List Value), w.ownsRow B' e 1 v n' ys → 73 ≠ e → (w.setCell ⟨g, k, none⟩ u).ownsRow B' e 1 v n' ys) ∧ Fix 73 w (w.setCell ⟨g, k, none⟩ u) := by
  have hrow : ∃ cur, w.heap[g]? = some (Obj.cells cur 73 (0, 0)) := by
    rcases h.2 with ⟨e, _⟩ | ⟨g', cap', cur, hv, _, hg2, _⟩
    · cases e
    · cases hv; exact ⟨cur, hg2⟩
  obtain ⟨cur, hcur⟩ := hrow
  exact ⟨fun B' e v n' ys ho he => own_setCell ho hcur he k u, Fix.setCell hcur k u⟩
/-- What holds behind k rounds over the declarations, types set. -/
def L3 (W : WorldD) (B mb : Nat) (bc : Array Value) (wr : World) (k : Nat) : Prop := ∃ S vp vn vd xs ys zs, St W B mb B bc S (fun j => (W.decl j).ali = true ∧ k ≤ j) k W.decls.length W.decls.length wr vp vn vd xs ys zs ∧ AliasesV wr S ∧ AliB B S wr ∧ InHeap zs wr
theorem l3_start {W : WorldD} {B mb : Nat} {bc : Array Value} {wr : World} (h : L2 W B mb bc wr W.decls.length) : L3 W B mb bc wr 0 := by
  obtain ⟨vp, vn, vd, xs, ys, zs, hst⟩ := h
  refine ⟨fun _ => False, vp, vn, vd, xs, ys, zs, hst.free fun j h => h.1, fun b h => h.elim, fun b h => h.elim, fun j u b e1 e2 => ?_⟩
  have hj : j < W.decls.length := by
    have h1 := (List.getElem?_eq_some_iff.1 e1).1
    have h2 := hst.oz.1
    omega
  cases ha : (W.decl j).ali with
  | true =>
    rw [((hst.rz j hj).2 ha).1 (Nat.zero_le _)] at e1
    cases e1
    cases e2
  | false =>
    obtain ⟨nb, ob, a1, _, a3⟩ := (hst.rz j hj).1 ha
    rw [a1] at e1
    cases e1
    simp only [blk, Option.some.injEq] at e2
    have := (Array.getElem?_eq_some_iff.1 (a3 (Nat.zero_le _))).1
    omega

set_option maxRecDepth 100000 in
set_option maxHeartbeats 16000000 in
theorem build_any (W : WorldD) (pa da : Option Addr) (pc dc : Nat) (w : World) (hp : PkgsV w pa pc W.pkgs) (hd : DeclsV w da dc W.decls) (hW : WorldOk W) (hpr : PropsAt w) :
    Calls Tryz.prog 16 #[.agg #[.slice pa W.pkgs.length pc, .slice da W.decls.length dc]] w fun e w' => ∃ mb bc, e = .returned (.pointer (some ⟨mb, 0, none⟩)) ∧ Below w.heap.size w w' ∧ w.heap.size ≤ mb ∧ L3 W w.heap.size mb bc w' W.decls.length := by
  have hl1 := hp.hcap
  have hl2 := hp.hmax
  have hl3 := hd.hcap
  have hl4 := hd.hmax
  have hnp := hW.np
  have hnd := hW.nd
  have HP := Lib.hid hp; clear hp
  have HD := Lib.hid hd; clear hd
  have HW := Lib.hid hW; clear hW
  have HPR := Lib.hid hpr; clear hpr
  have h00 : L1 W w.heap.size (w.heap.size + 1) #[.slice pa W.pkgs.length pc, .slice da W.decls.length dc] ((w.alloc (.cells #[.slice pa W.pkgs.length pc, .slice da W.decls.length dc] 25)).alloc (.cells #[.slice none 0 0, .slice none 0 0, .slice none 0 0] 63)) 0 :=
    ⟨heap_two0 _ _ _, .slice none 0 0, [], heap_two _ _ _, World.ownsRow_nil _ _ _ _, RowP.nil _ _⟩
  have hb0 : Below w.heap.size w ((w.alloc (.cells #[.slice pa W.pkgs.length pc, .slice da W.decls.length dc] 25)).alloc (.cells #[.slice none 0 0, .slice none 0 0, .slice none 0 0] 63)) := by go_grown
  have H00 := Lib.hid h00; clear h00
  have HB0 := Lib.hid hb0; clear hb0
  obtain ⟨i0, hi0, hz0, hz1, hz2⟩ := info_parts info64
  obtain ⟨j0, hj0, hy0, hy1, hy2⟩ := info_parts info66
  obtain ⟨l0, hl0, hx0, hx1, hx2⟩ := info_parts info73
  go_enter Tryz.func16, Tryz.ntmps16
  go_wp2_with fail
  generalize hW2 : ((w.alloc (.cells #[.slice pa W.pkgs.length pc, .slice da W.decls.length dc] 25)).alloc (.cells #[.slice none 0 0, .slice none 0 0, .slice none 0 0] 63)) = W2 at *
  clear hW2
  have hmbw : w.heap.size ≤ w.heap.size + 1 := by omega
  generalize w.heap.size + 1 = mb at *
  go_loopw [17] (fun i wr => ∃ (k : Nat), k ≤ W.pkgs.length ∧ i = .int .i64 k ∧ Below w.heap.size w wr ∧ Hid (L1 W w.heap.size mb #[.slice pa W.pkgs.length pc, .slice da W.decls.length dc] wr k)) (fun i _ => W.pkgs.length - (intOf i).toNat)
  case atStart => exact ⟨0, Nat.zero_le _, rfl, HB0.out, H00⟩
  case round =>
    clear H00 HB0
    obtain ⟨k, hk, rfl, hbw, hrl⟩ := hrel
    have HBr := Lib.hid hbw
    by_cases hlt : k < W.pkgs.length
    · obtain ⟨hbx, vp, xs, hm3, ho, hr⟩ := hrl.out
      obtain ⟨b, off, rfl, c0, c1, hf⟩ := HP.out.at_ k _ (pkg_at hlt)
      have d0 := cell_below hbw c0
      have d1 := cell_below hbw c1
      obtain ⟨W3, hW3, B3, n0, n1, hsz3⟩ := box2 wr (.string (W.pkg k).path) (.string (W.pkg k).name) 39
      have m3 := hm3.below B3
      have m0 : W3.cell? ⟨mb, 0, none⟩ = some vp := m3.c0
      have q0 : W3.cell? ⟨wr.heap.size, 0, none⟩ = some (.string (W.pkg k).path) := n0
      have q1 : W3.cell? ⟨wr.heap.size, 1, none⟩ = some (.string (W.pkg k).name) := n1
      have hml : mb < W3.heap.size := m3.lt
      have hml1 : mb < W3.heap.size + 1 := by omega
      have hml2 : mb < W3.heap.size + 1 + 1 := by omega
      have hsz4 : wr.heap.size < W3.heap.size + 1 := by omega
      have hsz5 : wr.heap.size < W3.heap.size + 1 + 1 := by omega
      have HO := Lib.hid (ownsRow_below ho B3)
      have HM := Lib.hid m3
      have HX := Lib.hid ((Fix.below (e := 0) B3) _ _ _ hbx (by decide))
      have HR0 := Lib.hid (show RowP W3 xs k (PkgP W w.heap.size) from hr.keep fun j vb => PkgP.fix (Fix.below (e := 0) B3) (by decide) (by decide))
      have HB3 := Lib.hid (hbw.trans (B3.mono hbw.size))
      clear hf hbw hrl ho hr hbx m3 hm3 c0 c1 n0 n1
      go_wp2_with fail
      rw [← hW3]
      clear hW3 d0 d1 B3
      go_region_law (first
        | (refine step_append_lies _ (by rfl) _ _ _ (by rfl) w.heap.size 64 i0 _ 1 8 ty59 hi0 hz0 hz1 hz2 rfl (by omega) vp k xs (by rfl) ((((HO.out.alloc _).alloc _).alloc _).drew) ⟨W3.heap.size + 1 + 1, 0, none⟩ 1 1 [.pointer (some ⟨W3.heap.size + 1, 0, none⟩)] (by rfl) (by rfl) (World.news_of_block (cs := #[.pointer (some ⟨W3.heap.size + 1, 0, none⟩)]) (t := 64) (fr := (0, 0)) (heap_three _ _ _ _)) (by simp [Value.oneCell']) (by omega) (by unfold maxLen; omega) (by omega) (by have h9 : w.heap.size ≤ W3.heap.size := HB3.out.size; simp; omega) (W3.heap.size + 1 + 1 + 1) (by simp) ?_; intro g cap w2 hown2 hgrow2 hat2 hlt2; have hm2 := l1_m HM.out HO.out hgrow2; have m02 := hm2.c0; have z02 := hm2.z 0)
        | (go_simp; go_at_call 28; refine (newPackage_any _ _ _).mono ?_; rintro e w' ⟨rfl, rfl⟩))
      all_goals
        clear m02 z02 hm2
        go_wp2
        go_roundw
        case rel =>
          go_light
          exact ⟨k + 1, by omega, by go_num, l1_below HB3.out hmbw HO.out hgrow2, Lib.hid (l1_step HX.out HB3.out HM.out HO.out HR0.out hown2 hgrow2)⟩
        case measure =>
          go_light
          simp [intOf]
          omega
    · obtain rfl : k = W.pkgs.length := by omega
      have HL0 := Lib.hid (l2_start hrl.out)
      have hwx : wr.cell? ⟨w.heap.size, 1, none⟩ = some (.slice da W.decls.length dc) := by simp [World.cell?, hrl.out.1]
      clear hrl hbw HP
      go_wp2_with fail
      generalize wr = W1 at *
      clear hwx
      go_loopw [39] (fun i wr => ∃ (k : Nat), k ≤ W.decls.length ∧ i = .int .i64 k ∧ Below w.heap.size w wr ∧ Hid (L2 W w.heap.size mb #[.slice pa W.pkgs.length pc, .slice da W.decls.length dc] wr k)) (fun i _ => W.decls.length - (intOf i).toNat)
      case atStart => exact ⟨0, Nat.zero_le _, rfl, HBr.out, HL0⟩
      case round =>
        clear HL0
        obtain ⟨k, hk, rfl, hbw, hrl⟩ := hrel
        have HBr := Lib.hid hbw
        by_cases hlt : k < W.decls.length
        · obtain ⟨vp, vn, vd, xs, ys, zs, hst⟩ := hrl.out
          obtain ⟨b, off, ka, kc, rfl, c0, c1, c2, c3, c4, c5, c6, c7, hf, hk'⟩ := HD.out.at_ k _ (decl_at hlt)
          have d0 := cell_below hbw c0
          have d1 := cell_below hbw c1
          have d2 := cell_below hbw c2
          have d3 := cell_below hbw c3
          have d4 := cell_below hbw c4
          have d5 := cell_below hbw c5
          have d6 := cell_below hbw c6
          have d7 := cell_below hbw c7
          obtain ⟨W3, hW3, B3, n0, n1, n2, n3, n4, n5, n6, n7, hsz3⟩ := box8 wr (.int .i64 (W.decl k).pkg) (.string (W.decl k).name) (.bool (W.decl k).ali) (.string (W.decl k).ty.kd) (.string (W.decl k).ty.nm) (.string (W.decl k).ty.tg) (.int .i64 (W.decl k).ty.sz) (.slice ka (W.decl k).ty.kids.length kc)
          have hbox : W3.heap[wr.heap.size]? = some (Obj.cells #[.int .i64 (W.decl k).pkg, .string (W.decl k).name, .bool (W.decl k).ali, .string (W.decl k).ty.kd, .string (W.decl k).ty.nm, .string (W.decl k).ty.tg, .int .i64 (W.decl k).ty.sz, .slice ka (W.decl k).ty.kids.length kc] 42 (0, 0)) := by rw [hW3]; exact World.alloc_heap_new _ _
          have HBX := Lib.hid hbox
          have HST3 := Lib.hid (hst.below B3)
          have hdk := HW.out.decls k hlt
          have CP := Lib.hid (pkg_any W w.heap.size mb W.pkgs.length vp vn vd xs (W.decl k).pkg hdk.2.1 W3.drew HST3.out.drew.m HST3.out.drew.ox HST3.out.drew.rx)
          have SH : Hid (∀ w', Below W3.heap.size W3 w' → w'.cell? ⟨wr.heap.size, 0, none⟩ = some (.int .i64 (W.decl k).pkg) ∧ w'.cell? ⟨wr.heap.size, 1, none⟩ = some (.string (W.decl k).name)) := fun w' h => ⟨cell_below h n0, cell_below h n1⟩
          have HB3 := Lib.hid (hbw.trans (B3.mono hbw.size))
          clear hf hbw hrl hst hk' c0 c1 c2 c3 c4 c5 c6 c7 n0 n1 n2 n3 n4 n5 n6 n7 hbox hdk
          go_wp2_with fail
          rw [← hW3]
          clear hW3 d0 d1 d2 d3 d4 d5 d6 d7 B3
          go_region_held3 (fun w' => w'.cell? ⟨wr.heap.size, 0, none⟩ = some (.int .i64 (W.decl k).pkg) ∧ w'.cell? ⟨wr.heap.size, 1, none⟩ = some (.string (W.decl k).name))
            (first | exact SH.out _ ((Below.refl _ _).drew) | exact SH.out _ ((Below.refl _ _).drew.trans hb4))
            (first | (go_at_call 30; refine CP.out.mono ?_; rintro e w' ⟨q, rfl, rfl, hq, hq2⟩) | (go_at_call 29; refine (newTypeName_b _ _ _).mono ?_; rintro e w4 ⟨rfl, hn4, hb4⟩))
          all_goals
            have HST4 := Lib.hid (HST3.out.drew.below hb4)
            have hN4 : NameP W w.heap.size (fun j => (W.decl j).ali = true) w4 k W3.heap.size := ⟨_, q, hn4, by simp, rfl, rfl, rfl, PkgQ.fix (Fix.below (e := 0) hb4) (by decide) (by decide) hq, HB3.out.size, fun _ => rfl⟩
            have HN4 := Lib.hid hN4; clear hN4
            have HNEW : Hid (∀ j vb, j < k → ys[j]? = some (.pointer (some ⟨vb, 0, none⟩)) → vb ≠ W3.heap.size) := fun j vb hj e h => by
              obtain ⟨vb', e', hp⟩ := HST3.out.ry j hj
              rw [e] at e'
              cases e'
              have := hp.lt
              omega
            have HB4 := Lib.hid (HB3.out.drew.trans (hb4.mono HB3.out.size))
            have HBX4 := Lib.hid ((Fix.below (e := 0) hb4) _ _ _ HBX.out (by decide))
            have HNC := Lib.hid hn4
            have m41 := HST4.out.m.c1
            have hvnl := HST4.out.oy.1
            clear hn4 hq hq2
            clear hb4
            cases hali : (W.decl k).ali with
            | true =>
              go_wp2_with (first
                | (at_builtin; refine wpList_append_lies _ rfl _ _ 60 rfl w.heap.size 66 j0 _ 1 8 ty60 hj0 hy0 hy1 hy2 rfl (by omega) vn k ys rfl (HST4.out.oy.alloc _) ⟨w4.heap.size, 0, none⟩ 1 1 [.pointer (some ⟨W3.heap.size, 0, none⟩)] rfl rfl (World.news_of_block (cs := #[.pointer (some ⟨W3.heap.size, 0, none⟩)]) (t := 66) (fr := (0, 0)) (heap_alloc_new w4 _)) (by simp [Value.oneCell']) (by omega) (by unfold maxLen; omega) (by omega) (by have h9 := HB4.out.size; simp; omega) (w4.heap.size + 1) (by simp) ?_; intro g5 cap5 w5 hown5 hgrow5 hat5 hlt5; have m5 := (HST4.out.name HN4.out HNEW.out hown5 hgrow5).1; have m51 := m5.c1; have z51 := m5.z 1; have bx5 := box_at HBX4.out HST4.out.oy hgrow5; rw [hali] at bx5; have m52 := m5.c2; have z52 := m5.z 2; have hsz5 := (l2_size HB4.out HST4.out.oy hgrow5))
                | (at_builtin; refine wpList_append_lies _ rfl _ _ 61 rfl w.heap.size 73 l0 _ 1 16 ty61 hl0 hx0 hx1 hx2 rfl (by omega) vd k zs rfl ((HST4.out.name HN4.out HNEW.out hown5 hgrow5).2.oz.alloc _) ⟨w5.heap.size, 0, none⟩ 1 1 [.nilIface] rfl rfl (World.news_of_block (cs := #[.nilIface]) (t := 73) (fr := (0, 0)) (heap_set_alloc w5 _ _ _)) (by simp [Value.oneCell']) (by omega) (by unfold maxLen; omega) (by omega) (by simp; omega) (w5.heap.size + 1) (by simp) ?_; intro g6 cap6 w6 hown6 hgrow6 hat6 hlt6; have hs6 := (HST4.out.name HN4.out HNEW.out hown5 hgrow5).2.decl ⟨fun h => absurd (hali.symm.trans h) (by simp), fun _ => rfl⟩ hown6 hgrow6; have m6 := hs6.1; have m62 := m6.c2; have z62 := m6.z 2))
              go_roundw
              case rel =>
                go_light
                exact ⟨k + 1, by omega, by go_num, (row_below1 ((row_below1 HB4.out HST4.out.oy hgrow5).setCell (p := ⟨mb, 1, none⟩) hmbw _) (HST4.out.name HN4.out HNEW.out hown5 hgrow5).2.oz hgrow6).setCell (p := ⟨mb, 2, none⟩) hmbw _, Lib.hid ⟨_, _, _, _, _, _, hs6.2⟩⟩
              case measure =>
                go_light
                simp [intOf]
                omega
            | false =>
              go_wp2_with (at_builtin; refine wpList_append_lies _ rfl _ _ 60 rfl w.heap.size 66 j0 _ 1 8 ty60 hj0 hy0 hy1 hy2 rfl (by omega) vn k ys rfl (HST4.out.oy.alloc _) ⟨w4.heap.size, 0, none⟩ 1 1 [.pointer (some ⟨W3.heap.size, 0, none⟩)] rfl rfl (World.news_of_block (cs := #[.pointer (some ⟨W3.heap.size, 0, none⟩)]) (t := 66) (fr := (0, 0)) (heap_alloc_new w4 _)) (by simp [Value.oneCell']) (by omega) (by unfold maxLen; omega) (by omega) (by have h9 := HB4.out.size; simp; omega) (w4.heap.size + 1) (by simp) ?_; intro g5 cap5 w5 hown5 hgrow5 hat5 hlt5; have m5 := (HST4.out.name HN4.out HNEW.out hown5 hgrow5).1; have m51 := m5.c1; have z51 := m5.z 1; have bx5 := box_at HBX4.out HST4.out.oy hgrow5; rw [hali] at bx5)
              have HS6 := Lib.hid (HST4.out.name HN4.out HNEW.out hown5 hgrow5).2
              have HN6 := Lib.hid ((Fix.setCell m5 1 (.slice (some ⟨g5, 0, none⟩) (k + 1) cap5)) _ _ _ (((Fix.alloc 66 w4 (.cells #[.pointer (some ⟨W3.heap.size, 0, none⟩)] 66)).trans (Fix.grown (HST4.out.oy.alloc _) hgrow5)) _ _ _ HNC.out (by decide)) (by decide))
              have HB6 := Lib.hid ((row_below1 HB4.out HST4.out.oy hgrow5).setCell (p := ⟨mb, 1, none⟩) hmbw (.slice (some ⟨g5, 0, none⟩) (k + 1) cap5))
              have HYK : Hid ((ys ++ [.pointer (some ⟨W3.heap.size, 0, none⟩)])[k]? = some (.pointer (some ⟨W3.heap.size, 0, none⟩))) := by
                show _ = _
                rw [List.getElem?_append_right (by omega)]
                simp [show k - ys.length = 0 from by omega]
              have HB03 := Lib.hid HB3.out.size
              clear m5 m51 z51 bx5 hown5 hgrow5 hat5 hlt5 m41
              generalize w5.setCell ⟨mb, 1, none⟩ (.slice (some ⟨g5, 0, none⟩) (k + 1) cap5) = w6 at *
              have m62 := HS6.out.m.c2
              have hml6 := HS6.out.m.lt
              have CN := Lib.hid (newNamed_b W3.heap.size _ w6.drew HN6.out rfl)
              go_region_law (first
                | (refine step_append_lies _ (by rfl) _ _ _ (by rfl) w.heap.size 73 l0 _ 1 16 ty61 hl0 hx0 hx1 hx2 rfl (by omega) vd k zs (by rfl) (HS7.out.oz.alloc _) ⟨w7.heap.size, 0, none⟩ 1 1 [.iface 70 (.pointer (some ⟨w6.heap.size, 0, none⟩))] (by rfl) (by rfl) (World.news_of_block (cs := #[.iface 70 (.pointer (some ⟨w6.heap.size, 0, none⟩))]) (t := 73) (fr := (0, 0)) (heap_alloc_new w7 _)) (by simp [Value.oneCell']) (by omega) (by unfold maxLen; omega) (by omega) (by have h9 : w6.heap.size ≤ w7.heap.size := h7g.size; have h8 := HB6.out.size; simp; omega) (w7.heap.size + 1) (by simp) ?_; intro g8 cap8 w8 hown8 hgrow8 hat8 hlt8; have hs8 := HS7.out.decl ⟨fun _ => ⟨w6.heap.size, W3.heap.size, rfl, HB6.out.size, h7a, HS6.out.rz.fresh⟩, fun h => absurd (hali.symm.trans h) (by simp)⟩ hown8 hgrow8; have m8 := hs8.1; have m82 := m8.c2; have z82 := m8.z 2)
                | (go_simp; go_at_call 31; refine CN.out.mono ?_; rintro e w7 ⟨rfl, h7a, h7g, h7o⟩; have HS7 := Lib.hid (HS6.out.drew.named (fr' := fun j => (W.decl j).ali = true) (Nat.lt_succ_self k) HYK.out HN6.out h7g h7o (fun _ _ h => h) (by rw [hali]; simp)); have m72 := HS7.out.m.c2; have hml7 := HS7.out.m.lt))
              all_goals
                clear m82 z82 m8
                go_wp2
                go_roundw
                case rel =>
                  go_light
                  exact ⟨k + 1, by omega, by go_num, l2_below HB6.out h7g HB03.out HS7.out.oz hgrow8 hmbw, Lib.hid ⟨_, _, _, _, _, _, hs8.2⟩⟩
                case measure =>
                  go_light
                  simp [intOf]
                  omega
        · obtain rfl : k = W.decls.length := by omega
          have HL0 := Lib.hid (l3_start hrl.out)
          have hwx : wr.cell? ⟨w.heap.size, 1, none⟩ = some (.slice da W.decls.length dc) := by
            obtain ⟨_, _, _, _, _, _, hst⟩ := hrl.out
            simp [World.cell?, hst.hx]
          clear hrl hbw
          go_wp2_with fail
          generalize wr = W5 at *
          clear hwx
          go_loopw [87] (fun i wr => ∃ (k : Nat), k ≤ W.decls.length ∧ i = .int .i64 k ∧ Below w.heap.size w wr ∧ Hid (L3 W w.heap.size mb #[.slice pa W.pkgs.length pc, .slice da W.decls.length dc] wr k)) (fun i _ => W.decls.length - (intOf i).toNat)
          case atStart => exact ⟨0, Nat.zero_le _, rfl, HBr.out, HL0⟩
          case round =>
            clear HL0
            obtain ⟨k, hk, rfl, hbw, hrl⟩ := hrel
            have HBr := Lib.hid hbw
            by_cases hlt : k < W.decls.length
            · obtain ⟨S, vp, vn, vd, xs, ys, zs, hst, hal, hab, hih⟩ := hrl.out
              obtain ⟨b, off, ka, kc, rfl, c0, c1, c2, c3, c4, c5, c6, c7, hf, hk'⟩ := HD.out.at_ k _ (decl_at hlt)
              have d0 := cell_below hbw c0
              have d1 := cell_below hbw c1
              have d2 := cell_below hbw c2
              have d3 := cell_below hbw c3
              have d4 := cell_below hbw c4
              have d5 := cell_below hbw c5
              have d6 := cell_below hbw c6
              have d7 := cell_below hbw c7
              obtain ⟨al, hali⟩ : ∃ al, (W.decl k).ali = al := ⟨_, rfl⟩
              rw [hali] at d2
              have B3 : Below wr.heap.size wr (wr.alloc (.cells #[.int .i64 (W.decl k).pkg, .string (W.decl k).name, .bool al, .string (W.decl k).ty.kd, .string (W.decl k).ty.nm, .string (W.decl k).ty.tg, .int .i64 (W.decl k).ty.sz, .slice ka (W.decl k).ty.kids.length kc] 42)) := (Below.refl _ _).alloc (Nat.le_refl _) _
              have hbox : (wr.alloc (.cells #[.int .i64 (W.decl k).pkg, .string (W.decl k).name, .bool al, .string (W.decl k).ty.kd, .string (W.decl k).ty.nm, .string (W.decl k).ty.tg, .int .i64 (W.decl k).ty.sz, .slice ka (W.decl k).ty.kids.length kc] 42)).heap[wr.heap.size]? = some (Obj.cells #[.int .i64 (W.decl k).pkg, .string (W.decl k).name, .bool al, .string (W.decl k).ty.kd, .string (W.decl k).ty.nm, .string (W.decl k).ty.tg, .int .i64 (W.decl k).ty.sz, .slice ka (W.decl k).ty.kids.length kc] 42 (0, 0)) := World.alloc_heap_new _ _
              have hdk := HW.out.decls k hlt
              obtain ⟨gd, capd, rfl, _, _⟩ := hst.oz.form (by omega)
              obtain ⟨gn, capn, rfl, _, _⟩ := hst.oy.form (by omega)
              have HST3 := Lib.hid (hst.below B3)
              have CT := Lib.hid ((typ_all W mb k (QS S) 8).1 (W.decl k).ty ka kc false (wr.alloc (.cells #[.int .i64 (W.decl k).pkg, .string (W.decl k).name, .bool al, .string (W.decl k).ty.kd, .string (W.decl k).ty.nm, .string (W.decl k).ty.tg, .int .i64 (W.decl k).ty.sz, .slice ka (W.decl k).ty.kids.length kc] 42)) hdk.2.2.2.2 ⟨HST3.out.declsAt, HPR.out.keep (hbw.trans (B3.mono hbw.size))⟩ ((hk'.keep hbw).keep B3) hf.ty)
              have HNK := Lib.hid hdk.2.2.2.1
              have HAL3 := Lib.hid (hal.fix hab (Fix.below (e := 0) B3) (by decide))
              have HAB3 := Lib.hid (hab.fix (Fix.below (e := 0) B3) (by decide))
              have HIH3 := Lib.hid (hih.size B3.size)
              have HBX := Lib.hid hbox
              have HB3 := Lib.hid (hbw.trans (B3.mono hbw.size))
              have hltI : (k : Int) < (W.decls.length : Int) := by omega
              clear hf hk' hbw hrl hst hal hab hih c0 c1 c2 c3 c4 c5 c6 c7 hbox hdk B3
              have HALI := Lib.hid hali; clear hali
              cases al with
              | true =>
                go_wp2_with (go_at_call 32; refine CT.out.mono ?_; rintro e w4 ⟨T, x, rfl, hT, hb4⟩; have bx4 := cell_of_box ((Fix.below (e := 0) hb4) _ _ _ HBX.out (by decide)))
                have HST4 := Lib.hid (HST3.out.below hb4)
                obtain ⟨ob, hobk, cs, q, a1, a2, a3, a4, a5, a6, a7, a8⟩ := HST4.out.ry k hlt
                have hzk := ((HST4.out.rz k hlt).2 HALI.out).1 (Nat.le_refl _)
                have hTc : (PlainT T ∨ T = 70) ∨ (T = 75 ∧ ∃ b', x = .pointer (some ⟨b', 0, none⟩) ∧ S b') := by
                  by_cases hn : (W.decl k).ty.kd.toList = [110, 97, 109, 101, 100]
                  · rcases hT.2.2 hn with h | h
                    · exact .inl (.inr h)
                    · exact .inr h
                  · exact .inl (.inl (hT.1 hn))
                have hab4 := HAB3.out.fix (Fix.below (e := 0) hb4) (by decide)
                have hal4 := HAL3.out.fix HAB3.out (Fix.below (e := 0) hb4) (by decide)
                have HB4 := Lib.hid (HB3.out.trans (hb4.mono HB3.out.size))
                have CA := Lib.hid (newAlias_b w.heap.size S ob cs T x w4.drew a1 (a8 ⟨HALI.out, Nat.le_refl _⟩) hal4 hab4 HB4.out.size hTc)
                have HOB := Lib.hid a1
                have HOBB := Lib.hid a7
                have HOBK := Lib.hid hobk
                have HIH4 := Lib.hid (HIH3.out.size hb4.size)
                have HZK := Lib.hid hzk
                have SH : Hid (∀ w', M3 w' mb vp (.slice (some ⟨gn, 0, none⟩) W.decls.length capn) (.slice (some ⟨gd, 0, none⟩) W.decls.length capd) → w'.ownsRow w.heap.size 66 1 (.slice (some ⟨gn, 0, none⟩) W.decls.length capn) W.decls.length ys → w'.cell? ⟨mb, 2, none⟩ = some (.slice (some ⟨gd, 0, none⟩) W.decls.length capd) ∧ w'.cell? ⟨mb, 1, none⟩ = some (.slice (some ⟨gn, 0, none⟩) W.decls.length capn) ∧ w'.cell? ⟨gn, k, none⟩ = some (.pointer (some ⟨ob, 0, none⟩))) :=
                  fun w' h1 h2 => ⟨h1.c2, h1.c1, (h2.cellAt k (by omega)).trans hobk⟩
                clear a1 a2 a3 a4 a5 a6 a7 a8 hobk hzk hTc hab4 hal4 hb4 hT
                go_region_held3 (fun w' => w'.cell? ⟨mb, 2, none⟩ = some (.slice (some ⟨gd, 0, none⟩) W.decls.length capd) ∧ w'.cell? ⟨mb, 1, none⟩ = some (.slice (some ⟨gn, 0, none⟩) W.decls.length capn) ∧ w'.cell? ⟨gn, k, none⟩ = some (.pointer (some ⟨ob, 0, none⟩)))
                  (first
                    | exact SH.out _ HST4.out.drew.m HST4.out.drew.oy
                    | exact SH.out _ (HST4.out.drew.m.fix (Fix.but (w := w4.drew) HOB.out hg5) (by decide)) (own_but (w := w4.drew) HST4.out.drew.oy HOB.out (by decide) hg5)
                    | exact SH.out _ ((HST4.out.drew.m.fix (Fix.but (w := w4.drew) HOB.out hg5) (by decide)).fix (hst5.2) (by decide)) (hst5.1 _ _ _ _ _ (own_but (w := w4.drew) HST4.out.drew.oy HOB.out (by decide) hg5) (by decide)))
                  (first | (go_at_call 33; refine CA.out.mono ?_; rintro e w5 ⟨rfl, hg5, ho5, hal5, hab5, hsz5⟩; have hown5 := own_but (w := w4.drew) HST4.out.drew.oz HOB.out (by decide) hg5; have s5 := (hown5.cellAt k (by omega)).trans HZK.out; have z5 := hown5.frozenAt k; have hst5 := store_row hown5 k (.iface 75 (.pointer (some ⟨w4.heap.size, 0, none⟩)))))
                all_goals
                  clear s5 z5
                  go_wp2
                  go_roundw
                  case rel =>
                    go_light
                    exact ⟨k + 1, by omega, by go_num, ((HB4.out.drew.grown hg5 HB4.out.size (fun j hj => by cases hj; exact HOBB.out)).setCell (p := ⟨gd, k, none⟩) (hown5.lt gd rfl).1 _), Lib.hid ⟨_, _, _, _, _, _, _, HST4.out.drew.ali hlt hlt HALI.out HOBK.out HOB.out hg5 ho5 (fun j u _ e1 e2 => Nat.lt_irrefl _ (HIH4.out j u _ e1 e2)), hal5.fix hab5 hst5.2 (by decide), hab5.fix hst5.2 (by decide), inHeap_set (HIH4.out.size (Nat.le_of_lt hsz5)) hsz5 k⟩⟩
                  case measure =>
                    go_light
                    simp [intOf]
                    omega
              | false =>
                obtain ⟨nb, ob, hz, hnbB, hnb⟩ := (HST3.out.rz k hlt).1 HALI.out
                have HNB := Lib.hid (hnb (Nat.le_refl _))
                have HZK := Lib.hid hz
                have HNBB := Lib.hid hnbB
                clear hnb hz hnbB
                go_wp2_with (first
                  | (go_at_call 32; refine CT.out.mono ?_; rintro e w4 ⟨T, x, rfl, hT, hb4⟩; have HST4 := Lib.hid (HST3.out.below hb4); have bx4 := cell_of_box ((Fix.below (e := 0) hb4) _ _ _ HBX.out (by decide)); have m42 := HST4.out.m.c2; have z4 := (HST4.out.oz.cellAt k (by omega)).trans HZK.out)
                  | (go_at_call 34; refine (setUnderlying_any nb T (hT.1 (fun e => absurd (HALI.out.symm.trans (HNK.out e)) (by simp))) x w4 (namedAt_of ((Fix.below (e := 0) hb4) _ _ _ HNB.out (by decide)))).mono ?_; rintro e w5 ⟨rfl, hg5⟩))
                go_roundw
                case rel =>
                  go_light
                  have HNB4 := (Fix.below (e := 0) hb4) _ _ _ HNB.out (by decide)
                  have hf5 := Fix.but HNB4 hg5
                  have hab4 := HAB3.out.fix (Fix.below (e := 0) hb4) (by decide)
                  have hal4 := HAL3.out.fix HAB3.out (Fix.below (e := 0) hb4) (by decide)
                  exact ⟨k + 1, by omega, by go_num, (HB3.out.trans (hb4.mono HB3.out.size)).grown hg5 (HB3.out.trans (hb4.mono HB3.out.size)).size (fun j hj => by cases hj; exact HNBB.out), Lib.hid ⟨S, _, _, _, _, _, _, (HST4.out.under hlt HALI.out HZK.out HNB4 hg5).free (fun j h => ⟨h.1, by omega⟩), hal4.fix hab4 hf5 (by decide), hab4.fix hf5 (by decide), (HIH3.out.size hb4.size).size hg5.size⟩⟩
                case measure =>
                  go_light
                  simp [intOf]
                  omega
            · obtain rfl : k = W.decls.length := by omega
              clear hbw
              go_wp2_with fail
              go_ret
              go_light
              exact ⟨mb, _, rfl, HBr.out, hmbw, hrl.out⟩

end Go.Proofs.YtipmpeekfajlcaaGreatDoor
