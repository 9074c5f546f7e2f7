/- What is proved: the contract of impl's structure, given that of typ one step deeper. Conditions: the input lies in memory as trees, and the struct is one. -/
import Derived.Test.YtipmpeekfajlcaaGreatDoorHa
import Derived.Test.YtipmpeekfajlcaaGreatDoorGg
import Derived.Test.YtipmpeekfajlcaaGreatDoorSf
namespace Go.Proofs.YtipmpeekfajlcaaGreatDoor
open Go.RowKit Go.Proofs Go.Sort Go.BigFrame

/-- A field of a struct lies: it has no package, and its name. -/
def FieldP (t : Ty) (w : World) (j vb : Nat) : Prop := ∃ cs, w.heap[vb]? = some (.cells cs 142 (0, 0)) ∧ cs[2]? = some (.pointer none) ∧ cs[3]? = some (.string (t.kid j).nm)
theorem FieldP.fix {t : Ty} {e : TypeId} {w w' : World} (hf : Fix e w w') (he : 142 ≠ e) (j vb : Nat) (h : FieldP t w j vb) : FieldP t w' j vb := by
  obtain ⟨cs, h1, h2, h3⟩ := h
  exact ⟨cs, hf _ _ _ h1 he, h2, h3⟩

/-- What holds behind k rounds of structure. -/
def StrRel (t : Ty) (B : Nat) (wr : World) (v u : Value) (k : Nat) : Prop := ∃ xs ys, wr.ownsRow B 78 1 v k xs ∧ RowP wr xs k (FieldP t) ∧ wr.ownsRow B 9 1 u k ys ∧ ∃ g c, v = .slice (some ⟨g, 0, none⟩) k c

theorem structB_len {W : WorldD} {rec : Ty → Bool} {t : Ty} (h : structB W rec t = true) : t.kids.length ≤ 8 := by
  simp only [structB, Bool.and_eq_true, decide_eq_true_eq] at h
  exact h.1.2
theorem structB_kid {W : WorldD} {rec : Ty → Bool} {t : Ty} (h : structB W rec t = true) {j : Nat} (hj : j < t.kids.length) : (t.kid j).kids.length = 1 ∧ rec ((t.kid j).kid 0) = true ∧ nameB (t.kid j).nm = true := by
  simp only [structB, Bool.and_eq_true, decide_eq_true_eq, List.all_eq_true, List.mem_range] at h
  have := (h.2 j hj).1
  simp only [fieldB, Bool.and_eq_true, beq_iff_eq] at this
  exact ⟨this.1.1.1.1.2, this.1.2, this.1.1.2⟩
theorem structB_dist {W : WorldD} {rec : Ty → Bool} {t : Ty} (h : structB W rec t = true) (i j : Nat) (hi : i < t.kids.length) (hj : j < i) (e : (t.kid i).nm = (t.kid j).nm) : (t.kid i).nm.toList = [95] := by
  simp only [structB, Bool.and_eq_true, decide_eq_true_eq, List.all_eq_true, List.mem_range] at h
  have := (h.2 i hi).2 j hj
  simpa [twiceB, e] using this

theorem str_end {t : Ty} {B n c : Nat} {a : Option Addr} {wr : World} {u : Value} (hn : n = t.kids.length) (h : StrRel t B wr (.slice a n c) u n) (ha : ∃ g, a = some ⟨g, 0, none⟩) : ∃ g, a = some ⟨g, 0, none⟩ ∧ FieldsV wr g 0 n fun j => (t.kid j).nm := by
  obtain ⟨g, rfl⟩ := ha
  obtain ⟨xs, ys, ho, hr, _, _⟩ := h
  refine ⟨g, rfl, fun i hi => ?_⟩
  obtain ⟨vb, h1, cs, h2, h3, h4⟩ := hr i hi
  refine ⟨vb, by rw [Nat.zero_add]; exact (ho.cellAt i (by omega)).trans h1, ?_, ?_⟩
  · simp [World.cell?, h2, h3]
  · simp [World.cell?, h2, h4]

theorem str_step {t : Ty} {B k g cap : Nat} {wr w1 w2 w3 : World} {v u : Value} {xs ys : List Value} {T : TypeId} {x : Value} {b : Bool} {g3 cap3 : Nat} (ho : wr.ownsRow B 78 1 v k xs) (hr : RowP wr xs k (FieldP t)) (hu : wr.ownsRow B 9 1 u k ys) (hb : Below wr.heap.size wr w1)
    (hown2 : w2.ownsRow B 78 1 (.slice (some ⟨g, 0, none⟩) (k + 1) cap) (k + 1) (xs ++ [.pointer (some ⟨w1.heap.size, 0, none⟩)]))
    (hgrow2 : ((w1.alloc (.cells #[.pointer none, .int .i64 0, .pointer none, .string (t.kid k).nm, .iface T x, .int .u32 0, .int .i64 0, .pointer none, .int .u8 6, .bool b] 142)).alloc (.cells #[.pointer (some ⟨w1.heap.size, 0, none⟩)] 78)).grownBy w2 v.ownBlock)
    (hown3 : w3.ownsRow B 9 1 (.slice (some ⟨g3, 0, none⟩) (k + 1) cap3) (k + 1) (ys ++ [.string (t.kid k).tg])) (hgrow3 : (w2.alloc (.cells #[.string (t.kid k).tg] 9)).grownBy w3 u.ownBlock) :
    StrRel t B w3 (.slice (some ⟨g, 0, none⟩) (k + 1) cap) (.slice (some ⟨g3, 0, none⟩) (k + 1) cap3) (k + 1) := by
  have ho1 := ownsRow_below ho hb
  have hu1 := ownsRow_below hu hb
  have hu2 := ((hu1.alloc (.cells #[.pointer none, .int .i64 0, .pointer none, .string (t.kid k).nm, .iface T x, .int .u32 0, .int .i64 0, .pointer none, .int .u8 6, .bool b] 142)).alloc (.cells #[.pointer (some ⟨w1.heap.size, 0, none⟩)] 78))
  have hu3 := hu2.kept hgrow2 (ownsRow_apart hu1 ho1 (by decide))
  have hf1 := ((Fix.below (e := 78) hb).trans (Fix.alloc 78 w1 (.cells #[.pointer none, .int .i64 0, .pointer none, .string (t.kid k).nm, .iface T x, .int .u32 0, .int .i64 0, .pointer none, .int .u8 6, .bool b] 142))).trans (Fix.alloc 78 _ (.cells #[.pointer (some ⟨w1.heap.size, 0, none⟩)] 78))
  have hg := Fix.grown ((ho1.alloc _).alloc _) hgrow2
  have hf3 := (Fix.alloc 9 w2 (.cells #[.string (t.kid k).tg] 9)).trans (Fix.grown (hu3.alloc _) hgrow3)
  have hrow : RowP w2 (xs ++ [.pointer (some ⟨w1.heap.size, 0, none⟩)]) (k + 1) (FieldP t) :=
    RowP.push (hr.keep fun j vb => FieldP.fix (hf1.trans hg) (by decide) j vb) (by have := ho.1; omega) ⟨_, hg _ _ _ (heap_two0 _ _ _) (by decide), rfl, rfl⟩
  exact ⟨_, _, (hown2.alloc _).kept hgrow3 (ownsRow_apart hown2 hu3 (by decide)), hrow.keep fun j vb => FieldP.fix hf3 (by decide) j vb, hown3, _, _, rfl⟩

theorem ownsRow_caps {w : World} {B n g c : Nat} {e : TypeId} {xs : List Value} (h : w.ownsRow B e 1 (.slice (some ⟨g, 0, none⟩) n c) n xs) : n ≤ c ∧ c ≤ 9223372036854775807 := by
  obtain ⟨a, c', e, h1, h2⟩ := ownsRow_shape h
  cases e
  exact ⟨h1, h2⟩
theorem tags_at {B k : Nat} {wr w1 w2 : World} {v u : Value} {xs ys : List Value} {o1 o2 : Obj} (ho : wr.ownsRow B 78 1 v k xs) (hu : wr.ownsRow B 9 1 u k ys) (hb : Below wr.heap.size wr w1) (hgrow2 : ((w1.alloc o1).alloc o2).grownBy w2 v.ownBlock) : w2.ownsRow B 9 1 u k ys :=
  ((ownsRow_below hu hb).alloc o1 |>.alloc o2).kept hgrow2 (ownsRow_apart (ownsRow_below hu hb) (ownsRow_below ho hb) (by decide))

theorem row_below1 {w w2 w3 : World} {u : Value} {e : TypeId} {n : Nat} {ys : List Value} {o : Obj} {wq : World} (h1 : Below w.heap.size w w2) (hu : wq.ownsRow w.heap.size e 1 u n ys) (hg : (w2.alloc o).grownBy w3 u.ownBlock) : Below w.heap.size w w3 := by
  have a3 := h1.alloc h1.size o
  exact a3.grown hg a3.size fun k hk => (hu.lt k hk).1

set_option maxRecDepth 100000 in
set_option maxHeartbeats 8000000 in
theorem structure_any (W : WorldD) (mb : Nat) (most : Int) (Q : TypeId → Value → Prop) (d : Nat) (hrec : TypG W mb most Q d)
    (t : Ty) (ka : Option Addr) (kc : Nat) (below : Bool) (w : World) (hB : structB W (fun k => isTypeB W most d k below) t = true) (hE : Env w mb W most Q) (hk : KidsV w ka kc t.kids) :
    Calls Tryz.prog 59 #[.pointer (some ⟨mb, 0, none⟩), .agg #[.string t.kd, .string t.nm, .string t.tg, .int .i64 t.sz, .slice ka t.kids.length kc]] w
      fun e w' => (∃ b, e = .returned (.pointer (some ⟨b, 0, none⟩))) ∧ Below w.heap.size w w' := by
  have hl1 := hk.len.1
  have hl2 := hk.len.2
  have hn8 := structB_len hB
  have HKID := Lib.hid (fun j hj => structB_kid hB (j := j) hj)
  have HDIST := Lib.hid (structB_dist hB)
  have HR := Lib.hid hrec; clear hrec
  have HE := Lib.hid hE; clear hE
  have HK := Lib.hid hk; clear hk
  clear hB
  have h00 : StrRel t w.heap.size (((w.alloc (.cells #[.string t.kd, .string t.nm, .string t.tg, .int .i64 t.sz, .slice ka t.kids.length kc] 28)).alloc (.cells #[] 78)).alloc (.cells #[] 9)) (.slice (some ⟨w.heap.size + 1, 0, none⟩) 0 0) (.slice (some ⟨w.heap.size + 2, 0, none⟩) 0 0) 0 := by
    have h := World.ownsRow_lit (base := w.heap.size) (e := 78) (size := 1) (w.alloc (.cells #[.string t.kd, .string t.nm, .string t.tg, .int .i64 t.sz, .slice ka t.kids.length kc] 28)) #[] 0 (by simp) (by decide) rfl
    have h' := World.ownsRow_lit (base := w.heap.size) (e := 9) (size := 1) ((w.alloc (.cells #[.string t.kd, .string t.nm, .string t.tg, .int .i64 t.sz, .slice ka t.kids.length kc] 28)).alloc (.cells #[] 78)) #[] 0 (by simp; omega) (by decide) rfl
    exact ⟨[], [], by simpa using h.alloc (.cells #[] 9), RowP.nil _ _, by simpa using h', _, _, rfl⟩
  have hb0 : Below w.heap.size w (((w.alloc (.cells #[.string t.kd, .string t.nm, .string t.tg, .int .i64 t.sz, .slice ka t.kids.length kc] 28)).alloc (.cells #[] 78)).alloc (.cells #[] 9)) := by go_grown
  have H00 := Lib.hid h00; clear h00
  have HB0 := Lib.hid hb0; clear hb0
  obtain ⟨i0, hi0, hz0, hz1, hz2⟩ := info_parts info78
  obtain ⟨j0, hj0, hy0, hy1, hy2⟩ := info_parts info9
  go_enter Tryz.func59, Tryz.ntmps59
  go_wp2_with fail
  generalize hW2 : (((w.alloc (.cells #[.string t.kd, .string t.nm, .string t.tg, .int .i64 t.sz, .slice ka t.kids.length kc] 28)).alloc (.cells #[] 78)).alloc (.cells #[] 9)) = W2 at *
  clear hW2
  go_loopw [5, 6, 14] (fun v u i wr => ∃ (k : Nat) (v' u' : Value), v' = v ∧ u' = u ∧ k ≤ t.kids.length ∧ i = .int .i64 k ∧ Below w.heap.size w wr ∧ Hid (StrRel t w.heap.size wr v u k)) (fun _ _ i _ => t.kids.length - (intOf i).toNat)
  case atStart => exact ⟨0, _, _, rfl, rfl, Nat.zero_le _, rfl, HB0.out, H00⟩
  case round =>
    clear H00 HB0
    obtain ⟨k, v, u, rfl, rfl, hk, rfl, hbw, hrl⟩ := hrel
    have HBr := Lib.hid hbw
    by_cases hlt : k < t.kids.length
    · obtain ⟨xs, ys, ho, hr, hu, _⟩ := hrl.out
      obtain ⟨b, off, a', c', rfl, c0, c1, c2, c3, c4, hf, hk'⟩ := HK.out.at (kid_at hlt)
      have hone := HKID.out k hlt
      have d0 := cell_below hbw c0
      have d1 := cell_below hbw c1
      have d2 := cell_below hbw c2
      have d3 := cell_below hbw c3
      have d4 := cell_below hbw c4
      obtain ⟨b2, off2, a2, c2', hb2, g0, g1, g2, g3, g4, hf2, hk2⟩ := hk'.at (kid_at (t := t.kid k) (i := 0) (by omega))
      subst hb2
      simp only [Nat.zero_mul, Nat.add_zero] at g0 g1 g2 g3 g4
      have hb2l : b2 < w.heap.size := World.block_lt_of_cell? _ _ g0
      have hone1 : 1 ≤ (t.kid k).kids.length := by omega
      have hone2 : 0 < (t.kid k).kids.length := by omega
      obtain ⟨W3, hW3, B3, n0, n1, n2, n3, n4⟩ := box5 wr (.string (t.kid k).kd) (.string (t.kid k).nm) (.string (t.kid k).tg) (.int .i64 (t.kid k).sz) (.slice (some ⟨b2, off2, none⟩) (t.kid k).kids.length c')
      have hE3 := (HE.out.keep hbw).keep B3
      have CT := Lib.hid (HR.out ((t.kid k).kid 0) a2 c2' below W3.drew hone.2.1 (hE3.keep (Below.refl _ _).drew) (((hk2.keep hbw).keep B3).keep (Below.refl _ _).drew) hf2)
      have hvo : ∀ g, v.ownBlock = some g → w.heap.size ≤ g ∧ g < wr.heap.size := ho.lt
      have hnb : some wr.heap.size ≠ v.ownBlock := fun e => by have := (hvo _ e.symm).2; omega
      have hnk : some b2 ≠ v.ownBlock := fun e => by
        have h1 := (hvo _ e.symm).1
        omega
      have SH : Hid (∀ w', Kp W3 v.ownBlock w' → w'.cell? ⟨wr.heap.size, 0, none⟩ = some (.string (t.kid k).kd) ∧ w'.cell? ⟨wr.heap.size, 1, none⟩ = some (.string (t.kid k).nm) ∧ w'.cell? ⟨wr.heap.size, 4, none⟩ = some (.slice (some ⟨b2, off2, none⟩) (t.kid k).kids.length c') ∧
          w'.cell? ⟨b2, off2, none⟩ = some (.string ((t.kid k).kid 0).kd) ∧ w'.cell? ⟨b2, off2 + 1, none⟩ = some (.string ((t.kid k).kid 0).nm) ∧ w'.cell? ⟨b2, off2 + 2, none⟩ = some (.string ((t.kid k).kid 0).tg) ∧
          w'.cell? ⟨b2, off2 + 3, none⟩ = some (.int .i64 ((t.kid k).kid 0).sz) ∧ w'.cell? ⟨b2, off2 + 4, none⟩ = some (.slice a2 ((t.kid k).kid 0).kids.length c2')) :=
        fun w' h => ⟨h.cell n0 hnb, h.cell n1 hnb, h.cell n4 hnb, h.cell (cell_below B3 (cell_below hbw g0)) hnk, h.cell (cell_below B3 (cell_below hbw g1)) hnk, h.cell (cell_below B3 (cell_below hbw g2)) hnk, h.cell (cell_below B3 (cell_below hbw g3)) hnk, h.cell (cell_below B3 (cell_below hbw g4)) hnk⟩
      have SH2 : Hid (∀ w', Kp W3 v.ownBlock w' → w'.cell? ⟨wr.heap.size, 2, none⟩ = some (.string (t.kid k).tg)) := fun w' h => h.cell n2 hnb
      have HO := Lib.hid (ownsRow_below (ownsRow_below ho B3) (Below.refl _ _).drew)
      have HO0 := Lib.hid ho
      have HR0 := Lib.hid hr
      have HU0 := Lib.hid hu
      have HB3 := Lib.hid B3
      clear hf hk' hk2 hf2 hone g0 g1 g2 g3 g4 n0 n1 n2 n3 n4 hbw hrl ho hr hu c0 c1 c2 c3 c4 hvo hnb hnk hE3 B3
      go_wp2_with fail
      rw [← hW3]
      clear hW3 d0 d1 d2 d3 d4
      go_region_held3 (fun w' => w'.cell? ⟨wr.heap.size, 0, none⟩ = some (.string (t.kid k).kd) ∧ w'.cell? ⟨wr.heap.size, 1, none⟩ = some (.string (t.kid k).nm) ∧ w'.cell? ⟨wr.heap.size, 4, none⟩ = some (.slice (some ⟨b2, off2, none⟩) (t.kid k).kids.length c') ∧
          w'.cell? ⟨b2, off2, none⟩ = some (.string ((t.kid k).kid 0).kd) ∧ w'.cell? ⟨b2, off2 + 1, none⟩ = some (.string ((t.kid k).kid 0).nm) ∧ w'.cell? ⟨b2, off2 + 2, none⟩ = some (.string ((t.kid k).kid 0).tg) ∧
          w'.cell? ⟨b2, off2 + 3, none⟩ = some (.int .i64 ((t.kid k).kid 0).sz) ∧ w'.cell? ⟨b2, off2 + 4, none⟩ = some (.slice a2 ((t.kid k).kid 0).kids.length c2'))
        (first | exact SH.out _ ((Kp.refl _ _).drew) | exact SH.out _ (((Kp.refl _ _).drew).below hb1) | exact SH.out _ ((((Kp.refl _ _).drew).below hb1).alloc _) | exact SH.out _ (((((Kp.refl _ _).drew).below hb1).alloc _).alloc _) | exact SH.out _ ((((((Kp.refl _ _).drew).below hb1).alloc _).alloc _).grown hgrow2))
        (first | (go_at_call 32; refine (CT.out).mono ?_; rintro e w1 ⟨T, x, rfl, hT, hb1⟩) | (go_at_call 37; refine (newField_any _ _ _ _ _ _).mono ?_; rintro e w' ⟨rfl, rfl⟩) | (refine step_append_lies _ (by rfl) _ _ _ (by rfl) w.heap.size 78 i0 _ 1 8 u177 hi0 hz0 hz1 hz2 rfl (by omega) v k xs (by rfl) (((ownsRow_below HO.out hb1).alloc _).alloc _) ⟨w1.heap.size + 1, 0, none⟩ 1 1 [.pointer (some ⟨w1.heap.size, 0, none⟩)] (by rfl) (by rfl) (World.news_of_block (cs := #[.pointer (some ⟨w1.heap.size, 0, none⟩)]) (t := 78) (fr := (0, 0)) (heap_two _ _ _)) (by simp [Value.oneCell']) (by omega) (by unfold maxLen; omega) (by omega) (by have h9 : W3.heap.size ≤ w1.heap.size := hb1.size; have h8 := HBr.out.size; have h7 := HB3.out.size; simp; omega) (w1.heap.size + 1 + 1) (by simp) ?_; intro g cap w2 hown2 hgrow2 hat2 hlt2))
      all_goals
        have q2 := SH2.out _ ((((((Kp.refl _ _).drew).below hb1).alloc _).alloc _).grown hgrow2)
        have HBw := Lib.hid (HB3.out.drew.trans (hb1.mono HB3.out.size))
        have HU2 := Lib.hid (tags_at HO0.out HU0.out HBw.out hgrow2)
        have HB2 := Lib.hid (row_below HBr.out HB3.out hb1 HO0.out hgrow2)
        go_wp2_with (at_builtin; refine wpList_append_lies _ rfl _ _ _ rfl w.heap.size 9 j0 _ 1 16 u178 hj0 hy0 hy1 hy2 rfl (by omega) u k ys rfl (HU2.out.alloc _) ⟨w2.heap.size, 0, none⟩ 1 1 [.string (t.kid k).tg] rfl rfl (World.news_of_block (cs := #[.string (t.kid k).tg]) (t := 9) (fr := (0, 0)) (heap_alloc_new w2 _)) (by simp [Value.oneCell']) (by omega) (by unfold maxLen; omega) (by omega) (by have h9 := HB2.out.size; simp; omega) (w2.heap.size + 1) (by simp) ?_; intro g3 cap3 w3 hown3 hgrow3 hat3 hlt3)
        go_roundw
        case rel =>
          go_light
          exact ⟨k + 1, _, _, rfl, rfl, by omega, by go_num, row_below1 HB2.out HU0.out hgrow3, Lib.hid (str_step HO0.out HR0.out HU0.out HBw.out hown2 hgrow2 hown3 hgrow3)⟩
        case measure =>
          go_light
          simp [intOf]
          omega
    · obtain rfl : k = t.kids.length := by omega
      obtain ⟨xs, ys, ho, hr, hu, g0, c, rfl⟩ := hrl.out
      obtain ⟨ha1, ha2⟩ := ownsRow_caps ho
      obtain ⟨a', c', rfl, _, _⟩ := ownsRow_shape hu
      clear hr hbw
      have hstr : Calls Tryz.prog 75 #[.slice (some ⟨g0, 0, none⟩) t.kids.length c, .slice a' t.kids.length c'] wr fun e w' => (∃ b, e = .returned (.pointer (some ⟨b, 0, none⟩))) ∧ Below wr.heap.size wr w' := by
        obtain ⟨g', e', hF⟩ := str_end rfl hrl.out ⟨g0, rfl⟩
        cases e'
        exact newStruct_any g0 0 t.kids.length c c' a' (fun j => (t.kid j).nm) wr hF (fun i hi => (HKID.out i hi).2.2) (fun i j h1 h2 h3 => HDIST.out i j h1 h2 h3) ((HE.out.props).keep HBr.out) ha1 ha2
      have CS := Lib.hid hstr
      clear ho hu hstr hrl
      go_wp2_with (go_at_call 75; refine CS.out.mono ?_; rintro e w1 ⟨⟨b, rfl⟩, hb1⟩)
      go_ret
      go_light
      exact ⟨⟨b, rfl⟩, HBr.out.trans (hb1.mono HBr.out.size)⟩

end Go.Proofs.YtipmpeekfajlcaaGreatDoor
