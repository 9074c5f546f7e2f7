/- What is proved: the contract of impl's tuple, given that of typ one step deeper. Conditions: the input lies in memory as trees, and the tuple is one. -/
import Derived.Test.YtipmpeekfajlcaaGreatDoorHa
import Derived.Test.YtipmpeekfajlcaaGreatDoorSf
import Derived.Test.YtipmpeekfajlcaaGreatDoorGa
namespace Go.Proofs.YtipmpeekfajlcaaGreatDoor
open Go.RowKit Go.Proofs Go.Sort Go.BigFrame

/-- A variable of a tuple lies: of the type that typ gave. -/
def ParamP (Q : TypeId → Value → Prop) (t : Ty) (w : World) (j vb : Nat) : Prop := ∃ cs T x, w.heap[vb]? = some (.cells cs 142 (0, 0)) ∧ cs[4]? = some (.iface T x) ∧ TyIs Q ((t.kid j).kid 0) T x
theorem ParamP.fix {Q : TypeId → Value → Prop} {t : Ty} {w w' : World} (hf : Fix 78 w w') (j vb : Nat) (h : ParamP Q t w j vb) : ParamP Q t w' j vb := by
  obtain ⟨cs, T, x, h1, h2, h3⟩ := h
  exact ⟨cs, T, x, hf _ _ _ h1 (by decide), h2, h3⟩

/-- What tuple gives: none, or a tuple of variables. -/
def TupP (Q : TypeId → Value → Prop) (t : Ty) (w' : World) (p : Option Addr) : Prop :=
  0 < t.kids.length → ∃ pb sb c, p = some ⟨pb, 0, none⟩ ∧ w'.cell? ⟨pb, 0, none⟩ = some (.slice (some ⟨sb, 0, none⟩) t.kids.length c) ∧
    ∀ j, j < t.kids.length → ∃ vb T x, w'.cell? ⟨sb, j, none⟩ = some (.pointer (some ⟨vb, 0, none⟩)) ∧ w'.cell? ⟨vb, 4, none⟩ = some (.iface T x) ∧ TyIs Q ((t.kid j).kid 0) T x
theorem TupP.keep {Q : TypeId → Value → Prop} {t : Ty} {w w' : World} {p : Option Addr} (h : TupP Q t w p) (hb : Below w.heap.size w w') : TupP Q t w' p := fun h0 => by
  obtain ⟨pb, sb, c, h1, h2, h3⟩ := h h0
  refine ⟨pb, sb, c, h1, cell_below hb h2, fun j hj => ?_⟩
  obtain ⟨vb, T, x, a1, a2, a3⟩ := h3 j hj
  exact ⟨vb, T, x, cell_below hb a1, cell_below hb a2, a3⟩
def TupGives (Q : TypeId → Value → Prop) (t : Ty) (w : World) (e : Ending) (w' : World) : Prop := ∃ p, e = .returned (.pointer p) ∧ TupP Q t w' p ∧ Below w.heap.size w w'

/-- What holds behind k rounds of tuple. -/
def TupRel (Q : TypeId → Value → Prop) (t : Ty) (B : Nat) (wr : World) (v : Value) (k : Nat) : Prop := ∃ xs, wr.ownsRow B 78 1 v k xs ∧ RowP wr xs k (ParamP Q t)

theorem tupleB_len {rec : Ty → Bool} {t : Ty} (h : tupleB rec t = true) : t.kids.length ≤ 8 := by
  simp only [tupleB, Bool.and_eq_true, decide_eq_true_eq] at h
  exact h.1.2
theorem tupleB_kid {rec : Ty → Bool} {t : Ty} (h : tupleB rec t = true) {j : Nat} (hj : j < t.kids.length) : (t.kid j).kids.length = 1 ∧ rec ((t.kid j).kid 0) = true := by
  simp only [tupleB, Bool.and_eq_true, decide_eq_true_eq, List.all_eq_true] at h
  have := h.2 (t.kid j) (List.mem_of_getElem? (kid_at hj))
  simp only [varB, Bool.and_eq_true, decide_eq_true_eq, beq_iff_eq] at this
  exact ⟨this.1.1.1.2, this.1.1.2⟩

theorem tup_end {Q : TypeId → Value → Prop} {t : Ty} {B c : Nat} {a : Option Addr} {wr : World} (hn : 0 < t.kids.length) (h : TupRel Q t B wr (.slice a t.kids.length c) t.kids.length) :
    TupP Q t (wr.alloc (.cells #[.slice a t.kids.length c] 235)) (some ⟨wr.heap.size, 0, none⟩) := fun _ => by
  obtain ⟨xs, ho, hr⟩ := h
  obtain ⟨g, cap, hv, _, _⟩ := ho.form hn
  cases hv
  refine ⟨wr.heap.size, g, c, rfl, by simp, fun j hj => ?_⟩
  obtain ⟨vb, h1, cs, T, x, h2, h3, h4⟩ := hr j hj
  have hb : Below wr.heap.size wr (wr.alloc (.cells #[.slice (some ⟨g, 0, none⟩) t.kids.length c] 235)) := (Below.refl _ _).alloc (Nat.le_refl _) _
  refine ⟨vb, T, x, cell_below hb ((ho.cellAt j (by omega)).trans h1), cell_below hb ?_, h4⟩
  simp [World.cell?, h2, h3]

theorem tup_step {Q : TypeId → Value → Prop} {t : Ty} {B k g cap : Nat} {wr w1 w2 : World} {v : Value} {xs : List Value} {T : TypeId} {x : Value} {nm : ByteArray} (ho : wr.ownsRow B 78 1 v k xs) (hr : RowP wr xs k (ParamP Q t)) (hb : Below wr.heap.size wr w1)
    (hT : TyIs Q ((t.kid k).kid 0) T x)
    (hown2 : w2.ownsRow B 78 1 (.slice (some ⟨g, 0, none⟩) (k + 1) cap) (k + 1) (xs ++ [.pointer (some ⟨w1.heap.size, 0, none⟩)]))
    (hgrow2 : ((w1.alloc (.cells #[.pointer none, .int .i64 0, .pointer none, .string nm, .iface T x, .int .u32 0, .int .i64 0, .pointer none, .int .u8 4, .bool false] 142)).alloc (.cells #[.pointer (some ⟨w1.heap.size, 0, none⟩)] 78)).grownBy w2 v.ownBlock) :
    TupRel Q t B w2 (.slice (some ⟨g, 0, none⟩) (k + 1) cap) (k + 1) := by
  have hf0 : Fix 78 wr w1 := Fix.below hb
  have ho1 := ownsRow_below ho hb
  have hf1 := (hf0.trans (Fix.alloc 78 w1 (.cells #[.pointer none, .int .i64 0, .pointer none, .string nm, .iface T x, .int .u32 0, .int .i64 0, .pointer none, .int .u8 4, .bool false] 142))).trans (Fix.alloc 78 _ (.cells #[.pointer (some ⟨w1.heap.size, 0, none⟩)] 78))
  have hg := Fix.grown ((ho1.alloc _).alloc _) hgrow2
  refine ⟨_, hown2, RowP.push (hr.keep fun j vb => ParamP.fix (hf1.trans hg) j vb) (by have := ho.1; omega) ⟨_, T, x, hg _ _ _ (heap_two0 _ _ _) (by decide), rfl, hT⟩⟩

theorem newTuple_any (a : Option Addr) (n c : Nat) (w : World) : Calls Tryz.prog 90 #[.slice a n c] w fun e w' => ∃ p, e = .returned (.pointer p) ∧ (n = 0 → p = none ∧ w = w') ∧ (0 < n → p = some ⟨w.heap.size, 0, none⟩ ∧ w.alloc (.cells #[.slice a n c] 235) = w') := by
  rcases Nat.eq_zero_or_pos n with rfl | h
  · exact (newTuple_none a c w).mono fun e w' ⟨h1, h2⟩ => ⟨none, h1, fun _ => ⟨rfl, h2⟩, fun h => absurd h (by omega)⟩
  · exact (newTuple_some a n c h w).mono fun e w' ⟨h1, h2⟩ => ⟨_, h1, fun h0 => absurd h (by omega), fun _ => ⟨rfl, h2⟩⟩

set_option maxRecDepth 100000 in
set_option maxHeartbeats 8000000 in
theorem tuple_any (W : WorldD) (mb : Nat) (most : Int) (Q : TypeId → Value → Prop) (d : Nat) (hrec : TypG W mb most Q d)
    (t : Ty) (ka : Option Addr) (kc : Nat) (below : Bool) (w : World) (hB : tupleB (fun k => isTypeB W most d k below) t = true) (hE : Env w mb W most Q) (hk : KidsV w ka kc t.kids) :
    Calls Tryz.prog 69 #[.pointer (some ⟨mb, 0, none⟩), .agg #[.string t.kd, .string t.nm, .string t.tg, .int .i64 t.sz, .slice ka t.kids.length kc]] w (TupGives Q t w) := by
  have hl1 := hk.len.1
  have hl2 := hk.len.2
  have hn8 := tupleB_len hB
  have hKID := fun j hj => tupleB_kid hB (j := j) hj
  have HKID := Lib.hid hKID; clear hKID
  have HR := Lib.hid hrec; clear hrec
  have HE := Lib.hid hE; clear hE
  have HK := Lib.hid hk; clear hk
  clear hB
  have h00 : TupRel Q t w.heap.size ((w.alloc (.cells #[.string t.kd, .string t.nm, .string t.tg, .int .i64 t.sz, .slice ka t.kids.length kc] 28)).alloc (.cells #[] 78)) (.slice (some ⟨w.heap.size + 1, 0, none⟩) 0 0) 0 := by
    have h := World.ownsRow_lit (base := w.heap.size) (e := 78) (size := 1) (w.alloc (.cells #[.string t.kd, .string t.nm, .string t.tg, .int .i64 t.sz, .slice ka t.kids.length kc] 28)) #[] 0 (by simp) (by decide) rfl
    exact ⟨[], by simpa using h, RowP.nil _ _⟩
  have hb0 : Below w.heap.size w ((w.alloc (.cells #[.string t.kd, .string t.nm, .string t.tg, .int .i64 t.sz, .slice ka t.kids.length kc] 28)).alloc (.cells #[] 78)) := by go_grown
  have H00 := Lib.hid h00; clear h00
  have HB0 := Lib.hid hb0; clear hb0
  obtain ⟨i0, hi0, hz0, hz1, hz2⟩ := info_parts info78
  go_enter Tryz.func69, Tryz.ntmps69
  go_wp2_with fail
  generalize hW2 : ((w.alloc (.cells #[.string t.kd, .string t.nm, .string t.tg, .int .i64 t.sz, .slice ka t.kids.length kc] 28)).alloc (.cells #[] 78)) = W2 at *
  clear hW2
  go_loopw [5, 12] (fun v i wr => ∃ (k : Nat) (v' : Value), v' = v ∧ k ≤ t.kids.length ∧ i = .int .i64 k ∧ Below w.heap.size w wr ∧ Hid (TupRel Q t w.heap.size wr v k)) (fun _ i _ => t.kids.length - (intOf i).toNat)
  case atStart => exact ⟨0, _, rfl, Nat.zero_le _, rfl, HB0.out, H00⟩
  case round =>
    clear H00 HB0
    obtain ⟨k, v, rfl, hk, rfl, hbw, hrl⟩ := hrel
    have HBr := Lib.hid hbw
    by_cases hlt : k < t.kids.length
    · obtain ⟨xs, ho, hr⟩ := hrl.out
      obtain ⟨b, off, a', c', rfl, c0, c1, c2, c3, c4, hf, hk'⟩ := HK.out.at (kid_at hlt)
      have hone := HKID.out k hlt
      have d0 := cell_below hbw c0
      have d1 := cell_below hbw c1
      have d2 := cell_below hbw c2
      have d3 := cell_below hbw c3
      have d4 := cell_below hbw c4
      obtain ⟨b2, off2, a2, c2', hb2, g0, g1, g2, g3, g4, hf2, hk2⟩ := hk'.at (kid_at (t := t.kid k) (i := 0) (by omega))
      subst hb2
      simp only [Nat.zero_mul, Nat.add_zero] at g0 g1 g2 g3 g4
      have hb2l : b2 < w.heap.size := World.block_lt_of_cell? _ _ g0
      have HT : Hid (isTypeB W most d ((t.kid k).kid 0) below = true) := Lib.hid hone.2
      have hone1 : 1 ≤ (t.kid k).kids.length := by omega
      have hone2 : 0 < (t.kid k).kids.length := by omega
      obtain ⟨W3, hW3, B3, n0, n1, n2, n3, n4⟩ := box5 wr (.string (t.kid k).kd) (.string (t.kid k).nm) (.string (t.kid k).tg) (.int .i64 (t.kid k).sz) (.slice (some ⟨b2, off2, none⟩) (t.kid k).kids.length c')
      have hE3 := (HE.out.keep hbw).keep B3
      have CT := Lib.hid (HR.out ((t.kid k).kid 0) a2 c2' below W3.drew HT.out (hE3.keep (Below.refl _ _).drew) (((hk2.keep hbw).keep B3).keep (Below.refl _ _).drew) hf2)
      have hvo : ∀ g, v.ownBlock = some g → w.heap.size ≤ g ∧ g < wr.heap.size := ho.lt
      have hnb : some wr.heap.size ≠ v.ownBlock := fun e => by have := (hvo _ e.symm).2; omega
      have hnk : some b2 ≠ v.ownBlock := fun e => by
        have h1 := (hvo _ e.symm).1
        omega
      have SH : Hid (∀ w', Kp W3 v.ownBlock w' → w'.cell? ⟨wr.heap.size, 1, none⟩ = some (.string (t.kid k).nm) ∧ w'.cell? ⟨wr.heap.size, 4, none⟩ = some (.slice (some ⟨b2, off2, none⟩) (t.kid k).kids.length c') ∧
          w'.cell? ⟨b2, off2, none⟩ = some (.string ((t.kid k).kid 0).kd) ∧ w'.cell? ⟨b2, off2 + 1, none⟩ = some (.string ((t.kid k).kid 0).nm) ∧ w'.cell? ⟨b2, off2 + 2, none⟩ = some (.string ((t.kid k).kid 0).tg) ∧
          w'.cell? ⟨b2, off2 + 3, none⟩ = some (.int .i64 ((t.kid k).kid 0).sz) ∧ w'.cell? ⟨b2, off2 + 4, none⟩ = some (.slice a2 ((t.kid k).kid 0).kids.length c2')) :=
        fun w' h => ⟨h.cell n1 hnb, h.cell n4 hnb, h.cell (cell_below B3 (cell_below hbw g0)) hnk, h.cell (cell_below B3 (cell_below hbw g1)) hnk, h.cell (cell_below B3 (cell_below hbw g2)) hnk, h.cell (cell_below B3 (cell_below hbw g3)) hnk, h.cell (cell_below B3 (cell_below hbw g4)) hnk⟩
      have HO := Lib.hid (ownsRow_below (ownsRow_below ho B3) (Below.refl _ _).drew)
      have HO0 := Lib.hid ho
      have HR0 := Lib.hid hr
      have HB3 := Lib.hid B3
      clear hf hk' hk2 hf2 hone g0 g1 g2 g3 g4 n0 n1 n2 n3 n4 hbw hrl ho hr c0 c1 c2 c3 c4 hvo hnb hnk hE3 B3
      go_wp2_with fail
      rw [← hW3]
      clear hW3 d0 d1 d2 d3 d4
      go_region_held3 (fun w' => w'.cell? ⟨wr.heap.size, 1, none⟩ = some (.string (t.kid k).nm) ∧ w'.cell? ⟨wr.heap.size, 4, none⟩ = some (.slice (some ⟨b2, off2, none⟩) (t.kid k).kids.length c') ∧
          w'.cell? ⟨b2, off2, none⟩ = some (.string ((t.kid k).kid 0).kd) ∧ w'.cell? ⟨b2, off2 + 1, none⟩ = some (.string ((t.kid k).kid 0).nm) ∧ w'.cell? ⟨b2, off2 + 2, none⟩ = some (.string ((t.kid k).kid 0).tg) ∧
          w'.cell? ⟨b2, off2 + 3, none⟩ = some (.int .i64 ((t.kid k).kid 0).sz) ∧ w'.cell? ⟨b2, off2 + 4, none⟩ = some (.slice a2 ((t.kid k).kid 0).kids.length c2'))
        (first | exact SH.out _ ((Kp.refl _ _).drew) | exact SH.out _ (((Kp.refl _ _).drew).below hb1) | exact SH.out _ ((((Kp.refl _ _).drew).below hb1).alloc _) | exact SH.out _ (((((Kp.refl _ _).drew).below hb1).alloc _).alloc _) | exact SH.out _ ((((((Kp.refl _ _).drew).below hb1).alloc _).alloc _).grown hgrow2))
        (first | (go_at_call 32; refine (CT.out).mono ?_; rintro e w1 ⟨T, x, rfl, hT, hb1⟩) | (go_at_call 36; refine (newParam_any _ _ _ _ _).mono ?_; rintro e w' ⟨rfl, rfl⟩) | (refine step_append_lies _ (by rfl) _ _ _ (by rfl) w.heap.size 78 i0 _ 1 8 u177 hi0 hz0 hz1 hz2 rfl (by omega) v k xs (by rfl) (((ownsRow_below HO.out hb1).alloc _).alloc _) ⟨w1.heap.size + 1, 0, none⟩ 1 1 [.pointer (some ⟨w1.heap.size, 0, none⟩)] (by rfl) (by rfl) (World.news_of_block (cs := #[.pointer (some ⟨w1.heap.size, 0, none⟩)]) (t := 78) (fr := (0, 0)) (heap_two _ _ _)) (by simp [Value.oneCell']) (by omega) (by unfold maxLen; omega) (by omega) (by have h9 : W3.heap.size ≤ w1.heap.size := hb1.size; have h8 := HBr.out.size; have h7 := HB3.out.size; simp; omega) (w1.heap.size + 1 + 1) (by simp) ?_; intro g cap w2 hown2 hgrow2 hat2 hlt2))
      all_goals
        go_wp2
        go_roundw
        case rel =>
          go_light
          exact ⟨k + 1, _, rfl, by omega, by go_num, row_below HBr.out HB3.out hb1 HO0.out hgrow2, Lib.hid (tup_step HO0.out HR0.out (HB3.out.drew.trans (hb1.mono HB3.out.size)) hT hown2 hgrow2)⟩
        case measure =>
          go_light
          simp [intOf]
          omega
    · obtain rfl : k = t.kids.length := by omega
      obtain ⟨xs, ho, hr⟩ := hrl.out
      obtain ⟨a, c, rfl, _, _⟩ := ownsRow_shape ho
      clear ho hr hbw
      go_wp2_with (go_at_call 90; refine (newTuple_any a _ c _).mono ?_; rintro e w1 ⟨p, rfl, h0, h1⟩)
      go_ret
      go_light
      rcases Nat.eq_zero_or_pos t.kids.length with hz | hz
      · obtain ⟨rfl, rfl⟩ := h0 hz
        exact ⟨_, rfl, fun h => absurd h (by omega), HBr.out⟩
      · obtain ⟨rfl, rfl⟩ := h1 hz
        exact ⟨_, rfl, tup_end hz hrl.out, HBr.out.alloc HBr.out.size _⟩

end Go.Proofs.YtipmpeekfajlcaaGreatDoor
