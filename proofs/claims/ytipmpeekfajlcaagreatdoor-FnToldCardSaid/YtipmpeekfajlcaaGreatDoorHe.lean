/- What is proved: the contract of impl's iface, given those of typ and signature one step deeper. Conditions: the input lies in memory as trees, and the interface is one. -/
import Derived.Test.YtipmpeekfajlcaaGreatDoorHd
import Derived.Test.YtipmpeekfajlcaaGreatDoorGp
import Derived.Test.YtipmpeekfajlcaaGreatDoorHc
namespace Go.Proofs.YtipmpeekfajlcaaGreatDoor
open Go.RowKit Go.Proofs Go.Sort Go.BigFrame

/-- A method of an interface lies: its name, its function type, which lies at or above B and has a receiver's cell. -/
def MethP (B : Nat) (t : Ty) (w : World) (j vb : Nat) : Prop := ∃ cs sb c r, w.heap[vb]? = some (Obj.cells cs 147 (0, 0)) ∧ cs[1]? = some (.int .i64 0) ∧ cs[2]? = some (.pointer none) ∧ cs[3]? = some (.string (t.kid j).nm) ∧
  cs[4]? = some (.iface 88 (.pointer (some ⟨sb, 0, none⟩))) ∧ w.heap[sb]? = some (Obj.cells c 205 (0, 0)) ∧ c[2]? = some (.pointer r) ∧ B ≤ sb
theorem MethP.fix {B : Nat} {t : Ty} {e : TypeId} {w w' : World} (hf : Fix e w w') (h1 : 147 ≠ e) (h2 : 205 ≠ e) (j vb : Nat) (h : MethP B t w j vb) : MethP B t w' j vb := by
  obtain ⟨cs, sb, c, r, a1, a2, a3, a4, a5, a6, a7, a8⟩ := h
  exact ⟨cs, sb, c, r, hf _ _ _ a1 h1, a2, a3, a4, a5, hf _ _ _ a6 h2, a7, a8⟩

theorem ty61 : Tryz.prog.underlying 61 = some (.slice 73) := u61
theorem ty180 : Tryz.prog.underlying 180 = some (.slice 181) := u180

def isMeth (t : Ty) (i : Nat) : Prop := (t.kid i).kd.toList = [109, 101, 116, 104, 111, 100]
/-- What holds behind k rounds of iface: m methods, k - m embedded types. -/
def IfRel (B : Nat) (t : Ty) (wr : World) (v u : Value) (k : Nat) : Prop := ∃ m xs ys, m ≤ k ∧ (m < k → ¬ isMeth t (k - 1)) ∧ (∀ j, j < m → isMeth t j) ∧ wr.ownsRow B 86 1 v m xs ∧ RowP wr xs m (MethP B t) ∧ wr.ownsRow B 73 1 u (k - m) ys ∧ ∃ g c, v = .slice (some ⟨g, 0, none⟩) m c

theorem ifaceB_len {rec : Ty → Bool → Bool} {t : Ty} {below : Bool} (h : ifaceB rec t below = true) : t.kids.length ≤ 8 := by
  simp only [ifaceB, Bool.and_eq_true, decide_eq_true_eq] at h
  exact h.1.2
theorem ifaceB_part {rec : Ty → Bool → Bool} {t : Ty} {below : Bool} (h : ifaceB rec t below = true) {i : Nat} (hi : i < t.kids.length) : partB rec below t i = true := by
  simp only [ifaceB, Bool.and_eq_true, decide_eq_true_eq, List.all_eq_true, List.mem_range] at h
  exact h.2 i hi
theorem part_meth {rec : Ty → Bool → Bool} {t : Ty} {below : Bool} {i : Nat} (h : partB rec below t i = true) (hm : isMeth t i) :
    (t.kid i).kids.length = 1 ∧ nameB (t.kid i).nm = true ∧ bigB (t.kid i).nm = true ∧ (i = 0 ∨ (isMeth t (i - 1) ∧ Op.bytesLess (t.kid (i - 1)).nm.toList (t.kid i).nm.toList = true)) ∧ isFuncB ((t.kid i).kid 0) = true ∧ rec ((t.kid i).kid 0) below = true := by
  unfold isMeth at hm
  simp only [partB, hm, if_true, Bool.and_eq_true, Bool.or_eq_true, decide_eq_true_eq, beq_iff_eq] at h
  exact ⟨h.2.1.1.1.1.1, h.2.1.1.1.1.2, h.2.1.1.1.2, h.2.1.1.2, h.2.1.2, h.2.2⟩
theorem part_emb {rec : Ty → Bool → Bool} {t : Ty} {below : Bool} {i : Nat} (h : partB rec below t i = true) (hm : (t.kid i).kd.toList = [101, 109, 98, 101, 100]) :
    (t.kid i).kids.length = 1 ∧ rec ((t.kid i).kid 0) false = true := by
  simp [partB, hm] at h
  exact ⟨h.2.1.1.2, h.2.2⟩
theorem part_union {rec : Ty → Bool → Bool} {t : Ty} {below : Bool} {i : Nat} (h : partB rec below t i = true) (h1 : ¬ isMeth t i) (h2 : ¬ (t.kid i).kd.toList = [101, 109, 98, 101, 100]) :
    2 ≤ (t.kid i).kids.length ∧ (t.kid i).kids.length ≤ 8 := by
  unfold isMeth at h1
  simp only [partB, h1, h2, if_false, Bool.and_eq_true] at h
  obtain ⟨_, h⟩ := h
  split at h
  · simp only [Bool.and_eq_true, unionB, decide_eq_true_eq] at h
    exact ⟨h.2.1.2, h.2.2⟩
  · cases h

/-- The methods, as NewInterfaceType wants them. -/
theorem if_end {B : Nat} {t : Ty} {wr : World} {g m c : Nat} {xs : List Value} (ho : wr.ownsRow B 86 1 (.slice (some ⟨g, 0, none⟩) m c) m xs) (hr : RowP wr xs m (MethP B t)) : FuncsV wr B g 0 m fun j => (t.kid j).nm := by
  rcases ho.2 with ⟨h, _⟩ | ⟨g', cap, cur, hv, hBg, hg, hmc, _, hcs, htake⟩
  · cases h
  · cases hv
    refine ⟨cur, 86, hg, by decide, fun i hi => ?_⟩
    obtain ⟨vb, h1, cs, sb, c', r, a1, a2, a3, a4, a5, a6, a7, a8⟩ := hr i hi
    refine ⟨vb, cs, sb, c', r, ?_, a1, a2, a3, a4, a5, a6, a7, a8⟩
    rw [← htake, List.getElem?_take, if_pos (by omega)] at h1
    rw [Nat.zero_add]
    simpa using h1

theorem if_meth {B k m g cap sb : Nat} {t : Ty} {wr w1 w2 : World} {v u : Value} {xs ys : List Value} {c : Array Value} {r : Option Addr} (hm : m = k) (hk : isMeth t k) (ho : wr.ownsRow B 86 1 v m xs) (hr : RowP wr xs m (MethP B t)) (hu : wr.ownsRow B 73 1 u (k - m) ys) (hall : ∀ j, j < m → isMeth t j) (hb : Below wr.heap.size wr w1)
    (hs : w1.heap[sb]? = some (Obj.cells c 205 (0, 0))) (hc : c[2]? = some (.pointer r)) (hsb : B ≤ sb)
    (hown2 : w2.ownsRow B 86 1 (.slice (some ⟨g, 0, none⟩) (m + 1) cap) (m + 1) (xs ++ [.pointer (some ⟨w1.heap.size, 0, none⟩)]))
    (hgrow2 : ((w1.alloc (.cells #[.pointer none, .int .i64 0, .pointer none, .string (t.kid k).nm, .iface 88 (.pointer (some ⟨sb, 0, none⟩)), .int .u32 0, .int .i64 0, .pointer none, .bool false, .bool false] 147)).alloc (.cells #[.pointer (some ⟨w1.heap.size, 0, none⟩)] 86)).grownBy w2 v.ownBlock) :
    IfRel B t w2 (.slice (some ⟨g, 0, none⟩) (m + 1) cap) u (k + 1) := by
  subst hm
  have ho1 := ownsRow_below ho hb
  have hu1 := ownsRow_below hu hb
  have hf1 := ((Fix.below (e := 86) hb).trans (Fix.alloc 86 w1 (.cells #[.pointer none, .int .i64 0, .pointer none, .string (t.kid m).nm, .iface 88 (.pointer (some ⟨sb, 0, none⟩)), .int .u32 0, .int .i64 0, .pointer none, .bool false, .bool false] 147))).trans (Fix.alloc 86 _ (.cells #[.pointer (some ⟨w1.heap.size, 0, none⟩)] 86))
  have hg := Fix.grown ((ho1.alloc _).alloc _) hgrow2
  have hfs := ((Fix.alloc 86 w1 (.cells #[.pointer none, .int .i64 0, .pointer none, .string (t.kid m).nm, .iface 88 (.pointer (some ⟨sb, 0, none⟩)), .int .u32 0, .int .i64 0, .pointer none, .bool false, .bool false] 147)).trans (Fix.alloc 86 _ (.cells #[.pointer (some ⟨w1.heap.size, 0, none⟩)] 86))).trans hg
  refine ⟨m + 1, _, ys, Nat.le_refl _, fun h => absurd h (Nat.lt_irrefl _), fun j hj => ?_, hown2, RowP.push (hr.keep fun j vb => MethP.fix (hf1.trans hg) (by decide) (by decide) j vb) (by have := ho.1; omega) ⟨_, sb, c, r, hg _ _ _ (heap_two0 _ _ _) (by decide), rfl, rfl, rfl, rfl, hfs _ _ _ hs (by decide), hc, hsb⟩, ?_, _, _, rfl⟩
  · rcases Nat.lt_or_ge j m with h | h
    · exact hall j h
    · rw [show j = m from by omega]; exact hk
  · have := (((hu1.alloc _).alloc _).kept hgrow2 (ownsRow_apart hu1 ho1 (by decide)))
    rw [show m + 1 - (m + 1) = m - m from by omega]
    exact this

theorem if_emb {B k m g cap : Nat} {t : Ty} {wr w1 w2 : World} {v u : Value} {xs ys : List Value} {e : Value} (hm : m ≤ k) (hk : ¬ isMeth t k) (ho : wr.ownsRow B 86 1 v m xs) (hr : RowP wr xs m (MethP B t)) (hu : wr.ownsRow B 73 1 u (k - m) ys) (hall : ∀ j, j < m → isMeth t j) (hv : ∃ g c, v = .slice (some ⟨g, 0, none⟩) m c) (hb : Below wr.heap.size wr w1)
    (hown2 : w2.ownsRow B 73 1 (.slice (some ⟨g, 0, none⟩) (k - m + 1) cap) (k - m + 1) (ys ++ [e])) (hgrow2 : (w1.alloc (.cells #[e] 73)).grownBy w2 u.ownBlock) :
    IfRel B t w2 v (.slice (some ⟨g, 0, none⟩) (k - m + 1) cap) (k + 1) := by
  have ho1 := ownsRow_below ho hb
  have hu1 := ownsRow_below hu hb
  have hf := ((Fix.below (e := 73) hb).trans (Fix.alloc 73 w1 (.cells #[e] 73))).trans (Fix.grown (hu1.alloc _) hgrow2)
  refine ⟨m, xs, ys ++ [e], by omega, fun _ => by rw [Nat.add_sub_cancel]; exact hk, hall, (ho1.alloc _).kept hgrow2 (ownsRow_apart ho1 hu1 (by decide)), hr.keep fun j vb => MethP.fix hf (by decide) (by decide) j vb, ?_, hv⟩
  rw [show k + 1 - m = k - m + 1 from by omega]
  exact hown2

theorem un_below {W1 wr W5 w1 w2 w3 : World} {v : Value} {e : TypeId} {n : Nat} {zs : List Value} {o : Obj} (h : Below W1.heap.size W1 wr) (h5 : Below wr.heap.size wr W5) (h1 : Below W5.drew.heap.size W5.drew w1) (h2 : Below w1.heap.size w1 w2) (hz : wr.ownsRow W1.heap.size e 1 v n zs)
    (hg : (w2.alloc o).grownBy w3 v.ownBlock) : Below W1.heap.size W1 w3 := by
  have a1 := (h.trans (h5.mono h.size)).drew
  have a2 := a1.trans (h1.mono a1.size)
  have a3 := a2.trans (h2.mono a2.size)
  exact row_below1 a3 hz hg

set_option maxRecDepth 100000 in
set_option maxHeartbeats 16000000 in
theorem iface_any (W : WorldD) (mb : Nat) (most : Int) (Q : TypeId → Value → Prop) (d : Nat) (hrec : TypG W mb most Q d) (hsig : SigG W mb most Q d)
    (t : Ty) (ka : Option Addr) (kc : Nat) (below : Bool) (w : World) (hB : ifaceB (fun k b => isTypeB W most d k b) t below = true) (hE : Env w mb W most Q) (hk : KidsV w ka kc t.kids) :
    Calls Tryz.prog 60 #[.pointer (some ⟨mb, 0, none⟩), .agg #[.string t.kd, .string t.nm, .string t.tg, .int .i64 t.sz, .slice ka t.kids.length kc]] w
      fun e w' => (∃ b, e = .returned (.pointer (some ⟨b, 0, none⟩))) ∧ Below w.heap.size w w' := by
  have hl1 := hk.len.1
  have hl2 := hk.len.2
  have hn8 := ifaceB_len hB
  have HPART := Lib.hid (fun j hj => ifaceB_part hB (i := j) hj)
  have HR := Lib.hid hrec; clear hrec
  have HS := Lib.hid hsig; clear hsig
  have HE := Lib.hid hE; clear hE
  have HK := Lib.hid hk; clear hk
  clear hB
  have h00 : IfRel w.heap.size t (((w.alloc (.cells #[.string t.kd, .string t.nm, .string t.tg, .int .i64 t.sz, .slice ka t.kids.length kc] 28)).alloc (.cells #[] 86)).alloc (.cells #[] 73)) (.slice (some ⟨w.heap.size + 1, 0, none⟩) 0 0) (.slice (some ⟨w.heap.size + 2, 0, none⟩) 0 0) 0 := by
    have h := World.ownsRow_lit (base := w.heap.size) (e := 86) (size := 1) (w.alloc (.cells #[.string t.kd, .string t.nm, .string t.tg, .int .i64 t.sz, .slice ka t.kids.length kc] 28)) #[] 0 (by simp) (by decide) rfl
    have h' := World.ownsRow_lit (base := w.heap.size) (e := 73) (size := 1) ((w.alloc (.cells #[.string t.kd, .string t.nm, .string t.tg, .int .i64 t.sz, .slice ka t.kids.length kc] 28)).alloc (.cells #[] 86)) #[] 0 (by simp; omega) (by decide) rfl
    exact ⟨0, [], [], Nat.le_refl _, fun h => absurd h (Nat.lt_irrefl _), fun j h => absurd h (Nat.not_lt_zero _), by simpa using h.alloc (.cells #[] 73), RowP.nil _ _, by simpa using h', _, _, rfl⟩
  have hb0 : Below w.heap.size w (((w.alloc (.cells #[.string t.kd, .string t.nm, .string t.tg, .int .i64 t.sz, .slice ka t.kids.length kc] 28)).alloc (.cells #[] 86)).alloc (.cells #[] 73)) := by go_grown
  have H00 := Lib.hid h00; clear h00
  have HB0 := Lib.hid hb0; clear hb0
  obtain ⟨i0, hi0, hz0, hz1, hz2⟩ := info_parts info86
  obtain ⟨j0, hj0, hy0, hy1, hy2⟩ := info_parts info73
  obtain ⟨l0, hl0, hx0, hx1, hx2⟩ := info_parts info181
  go_enter Tryz.func60, Tryz.ntmps60
  go_wp2_with fail
  generalize hW2 : (((w.alloc (.cells #[.string t.kd, .string t.nm, .string t.tg, .int .i64 t.sz, .slice ka t.kids.length kc] 28)).alloc (.cells #[] 86)).alloc (.cells #[] 73)) = W2 at *
  clear hW2
  go_loopw [5, 6, 17] (fun v u i wr => ∃ (k : Nat) (v' u' : Value), v' = v ∧ u' = u ∧ k ≤ t.kids.length ∧ i = .int .i64 k ∧ Below w.heap.size w wr ∧ Hid (IfRel w.heap.size t wr v u k)) (fun _ _ i _ => t.kids.length - (intOf i).toNat)
  case atStart => exact ⟨0, _, _, rfl, rfl, Nat.zero_le _, rfl, HB0.out, H00⟩
  case round =>
    clear H00 HB0
    obtain ⟨k, v, u, rfl, rfl, hk, rfl, hbw, hrl⟩ := hrel
    have HBr := Lib.hid hbw
    by_cases hlt : k < t.kids.length
    · obtain ⟨m, xs, ys, hmk, hmn, hall, ho, hr, hu, hv⟩ := hrl.out
      have hpart := HPART.out k hlt
      obtain ⟨b, off, a', c', rfl, c0, c1, c2, c3, c4, hf, hk'⟩ := HK.out.at (kid_at hlt)
      have d0 := cell_below hbw c0
      have d1 := cell_below hbw c1
      have d2 := cell_below hbw c2
      have d3 := cell_below hbw c3
      have d4 := cell_below hbw c4
      have HU0 := Lib.hid hu
      have HO0 := Lib.hid ho
      have HR0 := Lib.hid hr
      have HALL := Lib.hid hall
      have HV := Lib.hid hv
      clear hrl
      by_cases hm : isMeth t k
      · have hpm := part_meth hpart hm
        obtain rfl : m = k := by
          rcases hpm.2.2.2.1 with h | h
          · omega
          · rcases Nat.lt_or_ge m k with h2 | h2
            · exact absurd h.1 (hmn h2)
            · omega
        have HM := Lib.hid hm
        have hkd : (t.kid m).kd.toList = [109, 101, 116, 104, 111, 100] := hm
        obtain ⟨b2, off2, a2, c2', hb2, g0, g1, g2, g3, g4, hf2, hk2⟩ := hk'.at (kid_at (t := t.kid m) (i := 0) (by omega))
        subst hb2
        simp only [Nat.zero_mul, Nat.add_zero] at g0 g1 g2 g3 g4
        have hb2l : b2 < w.heap.size := World.block_lt_of_cell? _ _ g0
        have hone2 : 0 < (t.kid m).kids.length := by omega
        obtain ⟨W3, hW3, B3, n0, n1, n2, n3, n4⟩ := box5 wr (.string (t.kid m).kd) (.string (t.kid m).nm) (.string (t.kid m).tg) (.int .i64 (t.kid m).sz) (.slice (some ⟨b2, off2, none⟩) (t.kid m).kids.length c')
        have hE3 := (HE.out.keep hbw).keep B3
        have CT := Lib.hid (HS.out ((t.kid m).kid 0) a2 c2' below none W3.drew hpm.2.2.2.2.1 hpm.2.2.2.2.2 (hE3.keep (Below.refl _ _).drew) (((hk2.keep hbw).keep B3).keep (Below.refl _ _).drew))
        have hvo : ∀ g, v.ownBlock = some g → w.heap.size ≤ g ∧ g < wr.heap.size := ho.lt
        have hnb : some wr.heap.size ≠ v.ownBlock := fun e => by have := (hvo _ e.symm).2; omega
        have hnk : some b2 ≠ v.ownBlock := fun e => by
          have h1 := (hvo _ e.symm).1
          omega
        have SH : Hid (∀ w', Kp W3 v.ownBlock w' → w'.cell? ⟨wr.heap.size, 1, none⟩ = some (.string (t.kid m).nm) ∧ w'.cell? ⟨wr.heap.size, 4, none⟩ = some (.slice (some ⟨b2, off2, none⟩) (t.kid m).kids.length c') ∧
          w'.cell? ⟨b2, off2, none⟩ = some (.string ((t.kid m).kid 0).kd) ∧ w'.cell? ⟨b2, off2 + 1, none⟩ = some (.string ((t.kid m).kid 0).nm) ∧ w'.cell? ⟨b2, off2 + 2, none⟩ = some (.string ((t.kid m).kid 0).tg) ∧
          w'.cell? ⟨b2, off2 + 3, none⟩ = some (.int .i64 ((t.kid m).kid 0).sz) ∧ w'.cell? ⟨b2, off2 + 4, none⟩ = some (.slice a2 ((t.kid m).kid 0).kids.length c2')) :=
          fun w' h => ⟨h.cell n1 hnb, h.cell n4 hnb, h.cell (cell_below B3 (cell_below hbw g0)) hnk, h.cell (cell_below B3 (cell_below hbw g1)) hnk, h.cell (cell_below B3 (cell_below hbw g2)) hnk, h.cell (cell_below B3 (cell_below hbw g3)) hnk, h.cell (cell_below B3 (cell_below hbw g4)) hnk⟩
        have HO := Lib.hid (ownsRow_below (ownsRow_below ho B3) (Below.refl _ _).drew)
        have HB3 := Lib.hid B3
        clear hf hk' hk2 hf2 hpm hpart hm g0 g1 g2 g3 g4 n0 n1 n2 n3 n4 hbw ho hr hu hall hv c0 c1 c2 c3 c4 hvo hnb hnk hE3 B3 hmn
        go_wp2_with fail
        rw [← hW3]
        clear hW3 d0 d1 d2 d3 d4
        go_region_held3 (fun w' => w'.cell? ⟨wr.heap.size, 1, none⟩ = some (.string (t.kid m).nm) ∧ w'.cell? ⟨wr.heap.size, 4, none⟩ = some (.slice (some ⟨b2, off2, none⟩) (t.kid m).kids.length c') ∧
          w'.cell? ⟨b2, off2, none⟩ = some (.string ((t.kid m).kid 0).kd) ∧ w'.cell? ⟨b2, off2 + 1, none⟩ = some (.string ((t.kid m).kid 0).nm) ∧ w'.cell? ⟨b2, off2 + 2, none⟩ = some (.string ((t.kid m).kid 0).tg) ∧
          w'.cell? ⟨b2, off2 + 3, none⟩ = some (.int .i64 ((t.kid m).kid 0).sz) ∧ w'.cell? ⟨b2, off2 + 4, none⟩ = some (.slice a2 ((t.kid m).kid 0).kids.length c2'))
          (first | exact SH.out _ ((Kp.refl _ _).drew) | exact SH.out _ (((Kp.refl _ _).drew).below hb1) | exact SH.out _ ((((Kp.refl _ _).drew).below hb1).alloc _) | exact SH.out _ (((((Kp.refl _ _).drew).below hb1).alloc _).alloc _) | exact SH.out _ ((((((Kp.refl _ _).drew).below hb1).alloc _).alloc _).grown hgrow2))
          (first | (go_at_call 41; refine (CT.out).mono ?_; rintro e w1 ⟨sb, rfl, hsb, ⟨cs, h205, hsz, hc2⟩, hb1⟩) | (go_at_call 40; refine (newFunc_any _ _ _ _).mono ?_; rintro e w' ⟨rfl, rfl⟩) | (refine step_append_lies _ (by rfl) _ _ _ (by rfl) w.heap.size 86 i0 _ 1 8 u107 hi0 hz0 hz1 hz2 rfl (by omega) v m xs (by rfl) (((ownsRow_below HO.out hb1).alloc _).alloc _) ⟨w1.heap.size + 1, 0, none⟩ 1 1 [.pointer (some ⟨w1.heap.size, 0, none⟩)] (by rfl) (by rfl) (World.news_of_block (cs := #[.pointer (some ⟨w1.heap.size, 0, none⟩)]) (t := 86) (fr := (0, 0)) (heap_two _ _ _)) (by simp [Value.oneCell']) (by omega) (by unfold maxLen; omega) (by omega) (by have h9 : W3.heap.size ≤ w1.heap.size := hb1.size; have h8 := HBr.out.size; have h7 := HB3.out.size; simp; omega) (w1.heap.size + 1 + 1) (by simp) ?_; intro g cap w2 hown2 hgrow2 hat2 hlt2))
        all_goals
          go_wp2
          go_roundw
          case rel =>
            go_light
            exact ⟨m + 1, _, _, rfl, rfl, by omega, by go_num, row_below HBr.out HB3.out hb1 HO0.out hgrow2, Lib.hid (if_meth rfl HM.out HO0.out HR0.out HU0.out HALL.out (HB3.out.drew.trans (hb1.mono HB3.out.size)) h205 hc2 (by have h9 : W3.heap.size ≤ sb := hsb; have h8 := HBr.out.size; have h7 := HB3.out.size; omega) hown2 hgrow2)⟩
          case measure =>
            go_light
            simp [intOf]
            omega
      · have hm2 : ¬ (t.kid k).kd.toList = [109, 101, 116, 104, 111, 100] := hm
        by_cases he : (t.kid k).kd.toList = [101, 109, 98, 101, 100]
        · have hpe := part_emb hpart he
          have HM := Lib.hid hm
          obtain ⟨b2, off2, a2, c2', hb2, g0, g1, g2, g3, g4, hf2, hk2⟩ := hk'.at (kid_at (t := t.kid k) (i := 0) (by omega))
          subst hb2
          simp only [Nat.zero_mul, Nat.add_zero] at g0 g1 g2 g3 g4
          have hb2l : b2 < w.heap.size := World.block_lt_of_cell? _ _ g0
          have hb2r : b2 < wr.heap.size := Nat.lt_of_lt_of_le hb2l hbw.size
          have hone1 : 1 ≤ (t.kid k).kids.length := by omega
          have hone2 : 0 < (t.kid k).kids.length := by omega
          have B3 : Below wr.heap.size wr (wr.alloc (.cells #[.string (t.kid k).kd, .string (t.kid k).nm, .string (t.kid k).tg, .int .i64 (t.kid k).sz, .slice (some ⟨b2, off2, none⟩) (t.kid k).kids.length c'] 28)) := (Below.refl _ _).alloc (Nat.le_refl _) _
          have CT := Lib.hid (HR.out ((t.kid k).kid 0) a2 c2' false _ hpe.2 ((HE.out.keep hbw).keep B3) ((hk2.keep hbw).keep B3) hf2)
          have q0 := cell_below hbw g0
          have q1 := cell_below hbw g1
          have q2 := cell_below hbw g2
          have q3 := cell_below hbw g3
          have q4 := cell_below hbw g4
          have HB3 := Lib.hid B3
          have HUB := Lib.hid (ownsRow_below hu B3)
          clear hf hk' hk2 hf2 hpe hpart hm g0 g1 g2 g3 g4 hbw ho hr hu hall hv c0 c1 c2 c3 c4 B3 hmn
          go_wp2_with (first | (go_at_call 32; refine CT.out.mono ?_; rintro e w1 ⟨T, x, rfl, hT, hb1⟩; have hsz1 := Nat.le_trans HBr.out.size (Nat.le_trans HB3.out.size hb1.size)) | (at_builtin; refine wpList_append_lies _ rfl _ _ _ rfl w.heap.size 73 j0 _ 1 16 ty61 hj0 hy0 hy1 hy2 rfl (by omega) u (k - m) ys rfl ((ownsRow_below HUB.out hb1).alloc _) ⟨w1.heap.size, 0, none⟩ 1 1 [.iface T x] rfl rfl (World.news_of_block (cs := #[.iface T x]) (t := 73) (fr := (0, 0)) (heap_alloc_new w1 _)) (by simp [Value.oneCell']) (by omega) (by unfold maxLen; omega) (by omega) (by simp; omega) (w1.heap.size + 1) (by simp) ?_; intro g3 cap3 w3 hown3 hgrow3 hat3 hlt3))
          go_roundw
          case rel =>
            go_light
            have HBw := HB3.out.trans (hb1.mono HB3.out.size)
            exact ⟨k + 1, _, _, rfl, rfl, by omega, by go_num, row_below1 (HBr.out.trans (HBw.mono HBr.out.size)) HU0.out hgrow3, Lib.hid (if_emb hmk HM.out HO0.out HR0.out HU0.out HALL.out HV.out HBw hown3 hgrow3)⟩
          case measure =>
            go_light
            simp [intOf]
            omega
        · have hpu := part_union hpart hm he
          have e1 : ((t.kid k).kd.toList == [109, 101, 116, 104, 111, 100]) = false := by simp [hm2]
          have e2 : ((t.kid k).kd.toList == [101, 109, 98, 101, 100]) = false := by simp [he]
          have HM := Lib.hid hm
          have B3 : Below wr.heap.size wr ((wr.alloc (.cells #[.string (t.kid k).kd, .string (t.kid k).nm, .string (t.kid k).tg, .int .i64 (t.kid k).sz, .slice a' (t.kid k).kids.length c'] 28)).alloc (.cells #[] 181)) := by go_grown
          have hk3 := Lib.hid (hk'.keep hbw)
          have HB3 := Lib.hid B3
          have HUB := Lib.hid (ownsRow_below hu B3)
          have hin : wr.heap.size ≤ ((wr.alloc (.cells #[.string (t.kid k).kd, .string (t.kid k).nm, .string (t.kid k).tg, .int .i64 (t.kid k).sz, .slice a' (t.kid k).kids.length c'] 28)).alloc (.cells #[] 181)).heap.size := B3.size
          have hini : Hid (((wr.alloc (.cells #[.string (t.kid k).kd, .string (t.kid k).nm, .string (t.kid k).tg, .int .i64 (t.kid k).sz, .slice a' (t.kid k).kids.length c'] 28)).alloc (.cells #[] 181)).ownsRow wr.heap.size 181 1 (.slice (some ⟨wr.heap.size + 1, 0, none⟩) 0 0) 0 []) := by
            have h := World.ownsRow_lit (base := wr.heap.size) (e := 181) (size := 1) (wr.alloc (.cells #[.string (t.kid k).kd, .string (t.kid k).nm, .string (t.kid k).tg, .int .i64 (t.kid k).sz, .slice a' (t.kid k).kids.length c'] 28)) #[] 0 (by simp) (by decide) rfl
            show World.ownsRow _ _ _ _ _ _ _
            simpa using h
          have hkl := hk'.len
          have HKL := Lib.hid hkl
          have hl8 : (t.kid k).kids.length ≤ 8 := hpu.2
          have hl2' : 2 ≤ (t.kid k).kids.length := hpu.1
          clear hf hpu hpart hm hbw ho hr hu hall hv c0 c1 c2 c3 c4 hmn hk' hkl
          go_wp2_with fail
          generalize hW3 : (wr.alloc (.cells #[.string (t.kid k).kd, .string (t.kid k).nm, .string (t.kid k).tg, .int .i64 (t.kid k).sz, .slice a' (t.kid k).kids.length c'] 28)).alloc (.cells #[] 181) = W3 at *
          clear hW3 B3 d0 d1 d2 d3 d4
          generalize wr = W1 at *
          go_loopw [9, 27] (fun v9 i9 wr => ∃ (j : Nat) (v' : Value), v' = v9 ∧ j ≤ (t.kid k).kids.length ∧ i9 = .int .i64 j ∧ Below W1.heap.size W1 wr ∧ Hid (∃ zs, wr.ownsRow W1.heap.size 181 1 v9 j zs)) (fun _ i9 _ => (t.kid k).kids.length - (intOf i9).toNat)
          case atStart => exact ⟨0, _, rfl, Nat.zero_le _, rfl, HB3.out, _, hini.out⟩
          case round =>
            clear hini HUB
            obtain ⟨j, v9, rfl, hj, rfl, hbq, hzs⟩ := hrel
            have HBq := Lib.hid hbq
            by_cases hjl : j < (t.kid k).kids.length
            · obtain ⟨zs, hz⟩ := hzs.out
              obtain ⟨b3, off3, a3, c3, rfl, g0, g1, g2, g3, g4, hf3, hk4⟩ := hk3.out.at (kid_at hjl)
              have p0 := cell_below hbq g0
              have p1 := cell_below hbq g1
              have p2 := cell_below hbq g2
              have p3 := cell_below hbq g3
              have p4 := cell_below hbq g4
              obtain ⟨W5, hW5, B5, n0, n1, n2, n3, n4⟩ := box5 wr (.string ((t.kid k).kid j).kd) (.string ((t.kid k).kid j).nm) (.string ((t.kid k).kid j).tg) (.int .i64 ((t.kid k).kid j).sz) (.slice a3 ((t.kid k).kid j).kids.length c3)
              have hnb : some wr.heap.size ≠ v9.ownBlock := fun e => by have := (hz.lt _ e.symm).2; omega
              have SH : Hid (∀ w', Kp W5 v9.ownBlock w' → w'.cell? ⟨wr.heap.size, 0, none⟩ = some (.string ((t.kid k).kid j).kd) ∧ w'.cell? ⟨wr.heap.size, 1, none⟩ = some (.string ((t.kid k).kid j).nm)) := fun w' h => ⟨h.cell n0 hnb, h.cell n1 hnb⟩
              have HZ := Lib.hid (ownsRow_below (ownsRow_below hz B5) (Below.refl _ _).drew)
              have HZ0 := Lib.hid hz
              have HB5 := Lib.hid B5
              clear hzs hz hbq hf3 hk4 g0 g1 g2 g3 g4 n0 n1 n2 n3 n4 hnb B5
              go_wp2_with fail
              rw [← hW5]
              clear hW5 p0 p1 p2 p3 p4
              go_region_held3 (fun w' => w'.cell? ⟨wr.heap.size, 0, none⟩ = some (.string ((t.kid k).kid j).kd) ∧ w'.cell? ⟨wr.heap.size, 1, none⟩ = some (.string ((t.kid k).kid j).nm))
                (first | exact SH.out _ ((Kp.refl _ _).drew) | exact SH.out _ (((Kp.refl _ _).drew).below hb1) | exact SH.out _ ((((Kp.refl _ _).drew).below hb1).below hb2) | exact SH.out _ (((((Kp.refl _ _).drew).below hb1).below hb2).alloc _) | exact SH.out _ ((((((Kp.refl _ _).drew).below hb1).below hb2).alloc _).grown hgrow3))
                (first | (go_at_call 53; refine (basic_any _ _).mono ?_; rintro e w1 ⟨ad, rfl, hb1⟩) | (go_at_call 76; refine (newTerm_any _ _ _ _).mono ?_; rintro e w2 ⟨rfl, hb2⟩; have hsz2 := Nat.le_trans (Nat.le_trans HBq.out.size HB5.out.size) (Nat.le_trans hb1.size hb2.size)) | (refine step_append_lies _ (by rfl) _ _ _ (by rfl) W1.heap.size 181 l0 _ 1 8 ty180 hl0 hx0 hx1 hx2 rfl (by omega) v9 j zs (by rfl) ((ownsRow_below (ownsRow_below HZ.out hb1) hb2).alloc _) ⟨w2.heap.size, 0, none⟩ 1 1 [.pointer (some ⟨w1.heap.size, 0, none⟩)] (by rfl) (by rfl) (World.news_of_block (cs := #[.pointer (some ⟨w1.heap.size, 0, none⟩)]) (t := 181) (fr := (0, 0)) (heap_alloc_new _ _)) (by simp [Value.oneCell']) (by omega) (by unfold maxLen; omega) (by omega) (by simp; omega) (w2.heap.size + 1) (by simp) ?_; intro g cap w3 hown3 hgrow3 hat3 hlt3))
              all_goals
                go_wp2
                go_roundw
                case rel =>
                  go_light
                  exact ⟨j + 1, _, rfl, by omega, by go_num, un_below HBq.out HB5.out hb1 hb2 HZ0.out hgrow3, Lib.hid ⟨_, hown3⟩⟩
                case measure =>
                  go_light
                  simp [intOf]
                  omega
            · obtain rfl : j = (t.kid k).kids.length := by omega
              obtain ⟨zs, hz⟩ := hzs.out
              obtain ⟨a9, c9, rfl, _, _⟩ := ownsRow_shape hz
              clear hzs hz hbq
              have HUq := Lib.hid (ownsRow_below HU0.out HBq.out)
              go_wp2_with (first | (go_at_call 77; refine (newUnion_any a9 _ c9 (by omega) _).mono ?_; rintro e w1 ⟨rfl, hb1⟩; have hsz1 := Nat.le_trans HBr.out.size (Nat.le_trans HBq.out.size hb1.size)) | (at_builtin; refine wpList_append_lies _ rfl _ _ _ rfl w.heap.size 73 j0 _ 1 16 ty61 hj0 hy0 hy1 hy2 rfl (by omega) u (k - m) ys rfl ((ownsRow_below HUq.out hb1).alloc _) ⟨w1.heap.size, 0, none⟩ 1 1 [.iface 183 (.pointer (some ⟨wr.heap.size, 0, none⟩))] rfl rfl (World.news_of_block (cs := #[.iface 183 (.pointer (some ⟨wr.heap.size, 0, none⟩))]) (t := 73) (fr := (0, 0)) (heap_alloc_new w1 _)) (by simp [Value.oneCell']) (by omega) (by unfold maxLen; omega) (by omega) (by simp; omega) (w1.heap.size + 1) (by simp) ?_; intro g3 cap3 w3 hown3 hgrow3 hat3 hlt3))
              go_roundw
              case rel =>
                go_light
                have HBw := HBq.out.trans (hb1.mono HBq.out.size)
                exact ⟨k + 1, _, _, rfl, rfl, by omega, by go_num, row_below1 (HBr.out.trans (HBw.mono HBr.out.size)) HU0.out hgrow3, Lib.hid (if_emb hmk HM.out HO0.out HR0.out HU0.out HALL.out HV.out HBw hown3 hgrow3)⟩
              case measure =>
                go_light
                simp [intOf]
                omega
    · obtain rfl : k = t.kids.length := by omega
      obtain ⟨m, xs, ys, hmk, hmn, hall, ho, hr, hu, g, c, rfl⟩ := hrl.out
      obtain ⟨a', c', rfl, _, _⟩ := ownsRow_shape hu
      obtain ⟨ha1, ha2⟩ := ownsRow_caps ho
      have h3 : 3 < w.heap.size := by
        have := World.block_lt_of_cell? _ _ (HE.out.props 0 (by omega))
        exact this
      have CI := Lib.hid (newIface_any w.heap.size g m c (t.kids.length - m) c' a' (fun j => (t.kid j).nm) wr HBr.out.size h3 (by omega) ha1 ha2 (if_end ho hr) (HE.out.props.keep HBr.out)
        (fun i hi => by have := part_meth (HPART.out i (by omega)) (hall i hi); exact ⟨this.2.1, this.2.2.1⟩)
        (fun i hi => by
          have := (part_meth (HPART.out (i + 1) (by omega)) (hall (i + 1) hi)).2.2.2.1
          rcases this with h | h
          · omega
          · rw [Nat.add_sub_cancel] at h; exact h.2))
      clear hrl ho hr hu hall hmn hbw
      go_wp2_with (go_at_call 78; refine CI.out.mono ?_; rintro e w1 ⟨⟨b, rfl⟩, hb1⟩)
      go_ret
      go_light
      exact ⟨⟨b, rfl⟩, HBr.out.trans hb1⟩

end Go.Proofs.YtipmpeekfajlcaaGreatDoor
