/- What is proved: the contract of spec.isInterface, given that of isType one step deeper. Conditions: the input lies in memory as trees. -/
import Derived.Test.YtipmpeekfajlcaaGreatDoorSf
namespace Go.Proofs.YtipmpeekfajlcaaGreatDoor
open Go.RowKit Go.Proofs Go.Sort Go.BigFrame

theorem ifaceB_no {rec : Ty → Bool → Bool} {t : Ty} {below : Bool} {k : Nat} (hk : k < t.kids.length) (h : partB rec below t k = false) : ifaceB rec t below = false := by
  have : (List.range t.kids.length).all (partB rec below t) = false := by
    rw [List.all_eq_false]
    exact ⟨k, List.mem_range.2 hk, by simp [h]⟩
  simp [ifaceB, this]
theorem ifaceB_yes {rec : Ty → Bool → Bool} {t : Ty} {below : Bool} (e2 : t.nm.toList = []) (e3 : t.tg.toList = []) (e4 : t.sz = 0) (e5 : t.kids.length ≤ 8) (h : ∀ j, j < t.kids.length → partB rec below t j = true) : ifaceB rec t below = true := by
  have : (List.range t.kids.length).all (partB rec below t) = true := by
    rw [List.all_eq_true]
    intro i hi
    exact h i (List.mem_range.1 hi)
  simp [ifaceB, this, e2, e3, e4, e5]
theorem ifaceB_head {rec : Ty → Bool → Bool} {t : Ty} {below : Bool} (h : ¬ (t.nm.toList = [] ∧ t.tg.toList = [] ∧ t.sz = 0 ∧ t.kids.length ≤ 8)) : ifaceB rec t below = false := by
  rw [← Bool.not_eq_true]
  intro hh
  apply h
  simp only [ifaceB, Bool.and_eq_true, decide_eq_true_eq, List.isEmpty_iff, beq_iff_eq] at hh
  exact ⟨hh.1.1.1.1, hh.1.1.1.2, hh.1.1.2, hh.1.2⟩
theorem partB_any {rec : Ty → Bool → Bool} {t : Ty} {below : Bool} {k : Nat} (h : (¬ (t.kid k).tg.toList = []) ∨ (¬ (t.kid k).sz = 0)) : partB rec below t k = false := by
  rcases h with h | h <;> simp [partB, h]
theorem partB_none {rec : Ty → Bool → Bool} {t : Ty} {below : Bool} {k : Nat} (h1 : ¬ (t.kid k).kd.toList = [109, 101, 116, 104, 111, 100]) (h2 : ¬ (t.kid k).kd.toList = [101, 109, 98, 101, 100]) (h3 : ¬ (t.kid k).kd.toList = [117, 110, 105, 111, 110]) : partB rec below t k = false := by
  simp [partB, h1, h2, h3]
theorem partB_met {rec : Ty → Bool → Bool} {t : Ty} {below : Bool} {k : Nat} (h : (t.kid k).kd.toList = [109, 101, 116, 104, 111, 100])
    (no : ¬ (t.kid k).kids.length = 1 ∨ nameB (t.kid k).nm = false ∨ bigB (t.kid k).nm = false ∨ (¬ k = 0 ∧ ¬ (t.kid (k - 1)).kd.toList = [109, 101, 116, 104, 111, 100]) ∨ (¬ k = 0 ∧ Op.bytesLess (t.kid (k - 1)).nm.toList (t.kid k).nm.toList = false) ∨
      (¬ ((t.kid k).kid 0).kd.toList = [102, 117, 110, 99] ∧ ¬ ((t.kid k).kid 0).kd.toList = [118, 97, 114, 105, 97, 100, 105, 99]) ∨ rec ((t.kid k).kid 0) below = false) : partB rec below t k = false := by
  rcases no with h1 | h1 | h1 | ⟨h1, h2⟩ | ⟨h1, h2⟩ | ⟨h1, h2⟩ | h1 <;> simp [partB, isFuncB, *]
theorem partB_metY {rec : Ty → Bool → Bool} {t : Ty} {below : Bool} {k : Nat} (h : (t.kid k).kd.toList = [109, 101, 116, 104, 111, 100]) (a1 : (t.kid k).tg.toList = []) (a2 : (t.kid k).sz = 0)
    (h1 : (t.kid k).kids.length = 1) (h2 : nameB (t.kid k).nm = true) (h3 : bigB (t.kid k).nm = true) (h4 : k = 0 ∨ ((t.kid (k - 1)).kd.toList = [109, 101, 116, 104, 111, 100] ∧ Op.bytesLess (t.kid (k - 1)).nm.toList (t.kid k).nm.toList = true))
    (h5 : ((t.kid k).kid 0).kd.toList = [102, 117, 110, 99] ∨ ((t.kid k).kid 0).kd.toList = [118, 97, 114, 105, 97, 100, 105, 99]) (h6 : rec ((t.kid k).kid 0) below = true) : partB rec below t k = true := by
  rcases h4 with h4 | ⟨h4, h4'⟩
  · subst h4
    rcases h5 with h5 | h5 <;> simp [partB, isFuncB, *]
  · rcases h5 with h5 | h5 <;> simp [partB, isFuncB, *]
theorem partB_emb {rec : Ty → Bool → Bool} {t : Ty} {below : Bool} {k : Nat} (h : (t.kid k).kd.toList = [101, 109, 98, 101, 100])
    (no : ¬ (t.kid k).nm.toList = [] ∨ ¬ (t.kid k).kids.length = 1 ∨ ¬ ((t.kid k).kid 0).kd.toList = [110, 97, 109, 101, 100] ∨ rec ((t.kid k).kid 0) false = false) : partB rec below t k = false := by
  rcases no with h1 | h1 | h1 | h1 <;> simp [partB, *]
theorem partB_embY {rec : Ty → Bool → Bool} {t : Ty} {below : Bool} {k : Nat} (h : (t.kid k).kd.toList = [101, 109, 98, 101, 100]) (a1 : (t.kid k).tg.toList = []) (a2 : (t.kid k).sz = 0)
    (h1 : (t.kid k).nm.toList = []) (h2 : (t.kid k).kids.length = 1) (h3 : ((t.kid k).kid 0).kd.toList = [110, 97, 109, 101, 100]) (h4 : rec ((t.kid k).kid 0) false = true) : partB rec below t k = true := by
  simp [partB, *]
theorem partB_uni {rec : Ty → Bool → Bool} {t : Ty} {below : Bool} {k : Nat} (h : (t.kid k).kd.toList = [117, 110, 105, 111, 110]) (no : ¬ (t.kid k).nm.toList = [] ∨ unionB (t.kid k) = false) : partB rec below t k = false := by
  rcases no with h1 | h1 <;> simp [partB, *]
theorem partB_uniY {rec : Ty → Bool → Bool} {t : Ty} {below : Bool} {k : Nat} (h : (t.kid k).kd.toList = [117, 110, 105, 111, 110]) (a1 : (t.kid k).tg.toList = []) (a2 : (t.kid k).sz = 0) (h1 : (t.kid k).nm.toList = []) (h2 : unionB (t.kid k) = true) : partB rec below t k = true := by
  simp [partB, *]
theorem part_cases (t : Ty) : t.kd.toList = [109, 101, 116, 104, 111, 100] ∨ t.kd.toList = [101, 109, 98, 101, 100] ∨ t.kd.toList = [117, 110, 105, 111, 110] ∨ (¬ t.kd.toList = [109, 101, 116, 104, 111, 100] ∧ ¬ t.kd.toList = [101, 109, 98, 101, 100] ∧ ¬ t.kd.toList = [117, 110, 105, 111, 110]) := by
  by_cases h1 : t.kd.toList = [109, 101, 116, 104, 111, 100] <;> by_cases h2 : t.kd.toList = [101, 109, 98, 101, 100] <;> by_cases h3 : t.kd.toList = [117, 110, 105, 111, 110] <;> simp [*]

/-- The round of isInterface's loop at part k: what it finds there. -/
structure PartAt (w : World) (b off k : Nat) (t kk : Ty) (a' : Option Addr) (c' : Nat) : Prop where
  c0 : w.cell? ⟨b, off + k * 5, none⟩ = some (.string kk.kd)
  c1 : w.cell? ⟨b, off + k * 5 + 1, none⟩ = some (.string kk.nm)
  c2 : w.cell? ⟨b, off + k * 5 + 2, none⟩ = some (.string kk.tg)
  c3 : w.cell? ⟨b, off + k * 5 + 3, none⟩ = some (.int .i64 kk.sz)
  c4 : w.cell? ⟨b, off + k * 5 + 4, none⟩ = some (.slice a' kk.kids.length c')

set_option maxRecDepth 100000 in
set_option maxHeartbeats 20000000 in
theorem isIface_any (W : WorldD) (pa da : Option Addr) (pc dc np : Nat) (most : Int) (d : Nat) (hrec : TypeCalls W pa da pc dc np most d) (m : Int) (hm : m - 1 = d) (hd9 : d < 100)
    (t : Ty) (ka : Option Addr) (kc : Nat) (below : Bool) (w : World) (hd : DeclsV w da dc W.decls) (hk : KidsV w ka kc t.kids) :
    Calls Tryz.prog 27 #[.agg #[.slice pa np pc, .slice da W.decls.length dc, .int .i64 most], .agg #[.string t.kd, .string t.nm, .string t.tg, .int .i64 t.sz, .slice ka t.kids.length kc], .int .i64 m, .bool below] w
      (Gives (.bool (ifaceB (fun k b => isTypeB W most d k b) t below)) w) := by
  have hl1 := hk.len.1
  have hl2 := hk.len.2
  have HR := Lib.hid hrec; clear hrec
  by_cases hhead : t.nm.toList = [] ∧ t.tg.toList = [] ∧ t.sz = 0 ∧ t.kids.length ≤ 8
  · obtain ⟨e2, e3, e4, e5⟩ := hhead
    rw [e4]
    have hb : Below w.heap.size w ((w.alloc (.cells #[.slice pa np pc, .slice da W.decls.length dc, .int .i64 most] 44)).alloc (.cells #[.string t.kd, .string t.nm, .string t.tg, .int .i64 0, .slice ka t.kids.length kc] 28)) := by go_grown
    have hd2 := hd.keep hb
    have hk2 := hk.keep hb
    have HD := Lib.hid hd2
    have HK := Lib.hid hk2
    have HB := Lib.hid hb
    have q0 : ((w.alloc (.cells #[.slice pa np pc, .slice da W.decls.length dc, .int .i64 most] 44)).alloc (.cells #[.string t.kd, .string t.nm, .string t.tg, .int .i64 0, .slice ka t.kids.length kc] 28)).cell? ⟨w.heap.size, 0, none⟩ = some (.slice pa np pc) := by simp
    have q1 : ((w.alloc (.cells #[.slice pa np pc, .slice da W.decls.length dc, .int .i64 most] 44)).alloc (.cells #[.string t.kd, .string t.nm, .string t.tg, .int .i64 0, .slice ka t.kids.length kc] 28)).cell? ⟨w.heap.size, 1, none⟩ = some (.slice da W.decls.length dc) := by simp
    have q2 : ((w.alloc (.cells #[.slice pa np pc, .slice da W.decls.length dc, .int .i64 most] 44)).alloc (.cells #[.string t.kd, .string t.nm, .string t.tg, .int .i64 0, .slice ka t.kids.length kc] 28)).cell? ⟨w.heap.size, 2, none⟩ = some (.int .i64 most) := by simp
    have q3 : ((w.alloc (.cells #[.slice pa np pc, .slice da W.decls.length dc, .int .i64 most] 44)).alloc (.cells #[.string t.kd, .string t.nm, .string t.tg, .int .i64 0, .slice ka t.kids.length kc] 28)).cell? ⟨w.heap.size + 1, 4, none⟩ = some (.slice ka t.kids.length kc) := by simp
    have Q0 := Lib.hid q0
    have Q1 := Lib.hid q1
    have Q2 := Lib.hid q2
    have Q3 := Lib.hid q3
    clear hb hd2 hk2 hd hk q0 q1 q2 q3
    go_enter Tryz.func27, Tryz.ntmps27
    go_wp2
    generalize hW2 : ((w.alloc (.cells #[.slice pa np pc, .slice da W.decls.length dc, .int .i64 most] 44)).alloc (.cells #[.string t.kd, .string t.nm, .string t.tg, .int .i64 0, .slice ka t.kids.length kc] 28)) = W2 at *
    clear hW2
    go_loopw [34] (fun i wr => ∃ k : Nat, k ≤ t.kids.length ∧ i = .int .i64 k ∧ Hid (∀ j, j < k → partB (fun k b => isTypeB W most d k b) below t j = true) ∧ Below W2.heap.size W2 wr) (fun i _ => t.kids.length - (intOf i).toNat)
    case atStart => exact ⟨0, Nat.zero_le _, rfl, fun j h => by omega, Below.refl _ _⟩
    case round =>
      obtain ⟨k, hk, rfl, hj, hbw⟩ := hrel
      by_cases hlt : k < t.kids.length
      · obtain ⟨b, off, a', c', rfl, c0, c1, c2, c3, c4, hf, hk'⟩ := HK.out.at (kid_at hlt)
        have d0 := cell_below hbw c0
        have d1 := cell_below hbw c1
        have d2 := cell_below hbw c2
        have d3 := cell_below hbw c3
        have d4 := cell_below hbw c4
        have p0 := cell_below hbw Q0.out
        have p1 := cell_below hbw Q1.out
        have p2 := cell_below hbw Q2.out
        have p3 := cell_below hbw Q3.out
        have hDr := HD.out.keep hbw
        have hKr := hk'.keep hbw
        have hnm := hf.nm
        have HF := Lib.hid hf
        have HDr := Lib.hid hDr
        have HKr := Lib.hid hKr
        have HBr := Lib.hid hbw
        have hno : partB (fun k b => isTypeB W most d k b) below t k = false → Hid (false = ifaceB (fun k b => isTypeB W most d k b) t below) := fun h => (ifaceB_no hlt h).symm
        have hyes : partB (fun k b => isTypeB W most d k b) below t k = true → Hid (∀ j, j < k + 1 → partB (fun k b => isTypeB W most d k b) below t j = true) := fun h => all_more hj h
        have HNO := Lib.hid hno
        have HYES := Lib.hid hyes
        have A1 := Lib.hid (fun h => HNO.out (partB_any (rec := (fun k b => isTypeB W most d k b)) (below := below) (Or.inl h)))
        have A2 := Lib.hid (fun h => HNO.out (partB_any (rec := (fun k b => isTypeB W most d k b)) (below := below) (Or.inr h)))
        clear c0 c1 c2 c3 c4 hk' hf hbw hDr hKr hj hno hyes
        obtain ⟨W3, hW3, B3, n0, n1, n2, n3, n4⟩ := box5 wr (.string (t.kid k).kd) (.string (t.kid k).nm) (.string (t.kid k).tg) (.int .i64 (t.kid k).sz) (.slice a' (t.kid k).kids.length c')
        have B3b : Below w.heap.size w W3 := HB.out.trans ((HBr.out.trans (B3.mono HBr.out.size)).mono HB.out.size)
        have HB3b := Lib.hid B3b
        have HB3 := Lib.hid B3
        clear B3b B3
        rcases part_cases (t.kid k) with hkd | hkd | hkd | ⟨hkd1, hkd2, hkd3⟩
        · have M1 := Lib.hid (fun h => HNO.out (partB_met (rec := (fun k b => isTypeB W most d k b)) (below := below) hkd (Or.inl h)))
          have M2 := Lib.hid (fun h => HNO.out (partB_met (rec := (fun k b => isTypeB W most d k b)) (below := below) hkd (Or.inr (Or.inl h))))
          have M3 := Lib.hid (fun h => HNO.out (partB_met (rec := (fun k b => isTypeB W most d k b)) (below := below) hkd (Or.inr (Or.inr (Or.inl h)))))
          have M4 := Lib.hid (fun h h' => HNO.out (partB_met (rec := (fun k b => isTypeB W most d k b)) (below := below) hkd (Or.inr (Or.inr (Or.inr (Or.inl ⟨h, h'⟩))))))
          have M5 := Lib.hid (fun h h' => HNO.out (partB_met (rec := (fun k b => isTypeB W most d k b)) (below := below) hkd (Or.inr (Or.inr (Or.inr (Or.inr (Or.inl ⟨h, h'⟩)))))))
          have M6 := Lib.hid (fun h h' => HNO.out (partB_met (rec := (fun k b => isTypeB W most d k b)) (below := below) hkd (Or.inr (Or.inr (Or.inr (Or.inr (Or.inr (Or.inl ⟨h, h'⟩))))))))
          have M7 := Lib.hid (fun h => HNO.out (partB_met (rec := (fun k b => isTypeB W most d k b)) (below := below) hkd (Or.inr (Or.inr (Or.inr (Or.inr (Or.inr (Or.inr h))))))))
          have MY := Lib.hid (fun a1 a2 h1 h2 h3 h4 h5 h6 => HYES.out (partB_metY (rec := (fun k b => isTypeB W most d k b)) (below := below) hkd a1 a2 h1 h2 h3 h4 h5 h6))
          have cN : ∀ dd os, Calls Tryz.prog 12 #[.string (t.kid k).nm] (grow (redrawn W3 dd) os) fun e w'' => e = .returned (.bool (nameB (t.kid k).nm)) ∧ ∃ p : Regrown, w'' = grow (redrawn W3 p.d) p.os := fun dd os => Calls.regrown_same (isName_any (t.kid k).nm _ hnm)
          have CN := Lib.hid cN
          have cG : ∀ dd os, Calls Tryz.prog 18 #[.string (t.kid k).nm] (grow (redrawn W3 dd) os) fun e w'' => e = .returned (.bool (bigB (t.kid k).nm)) ∧ ∃ p : Regrown, w'' = grow (redrawn W3 p.d) p.os := fun dd os => Calls.regrown_same (isBig_any (t.kid k).nm _)
          have CG := Lib.hid cG
          clear cN cG
          by_cases hone : (t.kid k).kids.length = 1
          · skip
            have e1k := kid_at (t := t.kid k) (i := 0) (by omega)
            obtain ⟨b2, off2, a2, c2, rfl, g0, g1, g2, g3, g4, hf2, hk2⟩ := HKr.out.at e1k
            have HK3 := Lib.hid (hk2.keep HB3.out)
            have HD3 := Lib.hid (HDr.out.keep HB3.out)
            have HF2 := Lib.hid hf2
            simp only [Nat.zero_mul, Nat.add_zero] at g0 g1 g2 g3 g4
            have G0 := Lib.hid (cell_below HB3.out g0)
            have G1 := Lib.hid (cell_below HB3.out g1)
            have G2 := Lib.hid (cell_below HB3.out g2)
            have G3 := Lib.hid (cell_below HB3.out g3)
            have G4 := Lib.hid (cell_below HB3.out g4)
            clear g0 g1 g2 g3 g4 hf2 hk2 e1k
            have cT : ∀ V, Below W3.heap.size W3 V → ∀ dd os, Calls Tryz.prog 13 #[.agg #[.slice pa np pc, .slice da W.decls.length dc, .int .i64 most], .agg #[.string ((t.kid k).kid 0).kd, .string ((t.kid k).kid 0).nm, .string ((t.kid k).kid 0).tg, .int .i64 ((t.kid k).kid 0).sz, .slice a2 ((t.kid k).kid 0).kids.length c2], .int .i64 d, .bool below] (grow (redrawn V dd) os)
                fun e w'' => e = .returned (.bool (isTypeB W most d ((t.kid k).kid 0) below)) ∧ ∃ p : Regrown, w'' = grow (redrawn V p.d) p.os := fun V hw dd os =>
              Calls.regrown_of (HR.out ((t.kid k).kid 0) a2 c2 below _ ((HD3.out.keep hw).keep (below_regrown _ _ _)) ((HK3.out.keep hw).keep (below_regrown _ _ _)) HF2.out)
            have CT := Lib.hid cT
            clear cT
            have HONE := Lib.hid hone
            have hone' : ((t.kid k).kids.length : Int) = 1 := by omega
            have hkp : k - 1 < t.kids.length := by omega
            obtain ⟨bp, offp, ap, cp, hbbp, u0, u1, u2, u3, u4, hfp, hkp'⟩ := HK.out.at (kid_at (t := t) (i := k - 1) hkp)
            simp only [Option.some.injEq, Addr.mk.injEq, and_true] at hbbp
            obtain ⟨rfl, rfl⟩ := hbbp
            have v0 := cell_below HB3.out (cell_below HBr.out u0)
            have v1 := cell_below HB3.out (cell_below HBr.out u1)
            have v3p := cell_below HB3.out p3
            clear hone u0 u1 u2 u3 u4 hfp hkp' hkp
            generalize hk0 : (t.kid k).kid 0 = k0 at *
            have HK0 := Lib.hid hk0; clear hk0
            generalize hnn : nameB (t.kid k).nm = nn at *
            have HNN := Lib.hid hnn; clear hnn
            generalize hgg : bigB (t.kid k).nm = gg at *
            have HGG := Lib.hid hgg; clear hgg
            generalize hll : Op.bytesLess (t.kid (k - 1)).nm.toList (t.kid k).nm.toList = ll at *
            have HLL := Lib.hid hll
            generalize hkk : t.kid k = kk at *
            have HKK := Lib.hid hkk; clear hkk
            generalize hpp : t.kid (k - 1) = pp at *
            have HPP := Lib.hid hpp; clear hpp
            generalize hbb : isTypeB W most d k0 below = bb at *
            have HBB := Lib.hid hbb; clear hbb
            by_cases hsz : kk.sz = 0
            · by_cases htg : kk.tg.toList = []
              · have HY := Lib.hid (fun h2 h3 h4 h5 h6 => MY.out htg hsz HONE.out h2 h3 h4 h5 h6)
                have HSZ := Lib.hid hsz
                rw [hsz] at hW3 d3 n3
                clear hsz
                rcases Nat.eq_zero_or_pos k with hk0 | hkpos
                · have hk0' : decide ((0 : Int) < (k : Int)) = false := by simp; omega
                  have hk0b : decide (0 < k) = false := by simp; omega
                  have HKZ := Lib.hid hk0
                  clear hk0 v0 v1
                  go_wp2_with fail
                  rw [← hW3]
                  clear hW3
                  have x0 := cell_regrown n0
                  have x1 := cell_regrown n1
                  have x2 := cell_regrown n2
                  have x3 := cell_regrown n3
                  have x4 := cell_regrown n4
                  have r0 := cell_regrown (cell_below HB3.out p0)
                  have r1 := cell_regrown (cell_below HB3.out p1)
                  have r2 := cell_regrown (cell_below HB3.out p2)
                  have s0 := cell_regrown G0.out
                  have s1 := cell_regrown G1.out
                  have s2 := cell_regrown G2.out
                  have s3 := cell_regrown G3.out
                  have s4 := cell_regrown G4.out
                  refine wp_region_quiet_below (by kernel_rfl) (by kernel_rfl) ?_
                  repeat (any_goals (first | go_big_quiet_step ((first | exact CN.out _ _ | exact CG.out _ _)) | quiet_step ((first | exact CN.out _ _ | exact CG.out _ _)) | (refine wpQuiet_step (fun K hK => ?_); go_simp; split <;> (refine hK _ ?_; clear hK K))))
                  all_goals
                    refine wpQuiet_nil ?_
                    intro _ hw'
                    obtain ⟨⟨dq, osq⟩, hw''⟩ := hw'
                    subst hw''
                    have B4 := below_regrown W3 dq osq
                    generalize grow (redrawn W3 dq) osq = W4 at *
                  all_goals
                    have hT := CT.out W4 B4
                    have HT := Lib.hid hT
                    have K0 := cell_below B4 n0
                    have K4 := cell_below B4 n4
                    have L0 := cell_below B4 G0.out
                    clear hT
                    go_wp2_with fail
                  any_goals
                    go_ret
                    go_light
                    exact ⟨ret_bool (by
                      first
                      | exact (M3.out (by simpa using ‹¬ gg = true›)).out
                      | exact (M2.out (by simpa using ‹¬ nn = true›)).out
                      | exact (M4.out (by omega) ‹_›).out
                      | exact (M5.out (by omega) (by simpa using ‹(!ll) = true›)).out), HB3b.out.trans (B4.mono HB3b.out.size)⟩
                  have HNT := Lib.hid (show nn = true by assumption)
                  have HGT := Lib.hid (show gg = true by assumption)
                  have HPV : Hid (k = 0 ∨ (pp.kd.toList = [109, 101, 116, 104, 111, 100] ∧ ll = true)) := Or.inl HKZ.out
                  have X0 := cell_regrown K4
                  have R0 := cell_regrown (cell_below B4 (cell_below HB3.out p0))
                  have R1 := cell_regrown (cell_below B4 (cell_below HB3.out p1))
                  have R2 := cell_regrown (cell_below B4 (cell_below HB3.out p2))
                  have S0 := cell_regrown (cell_below B4 G0.out)
                  have S1 := cell_regrown (cell_below B4 G1.out)
                  have S2 := cell_regrown (cell_below B4 G2.out)
                  have S3 := cell_regrown (cell_below B4 G3.out)
                  have S4 := cell_regrown (cell_below B4 G4.out)
                  clear x0 x1 x2 x3 x4 r0 r1 r2 s0 s1 s2 s3 s4
                  refine wp_region_quiet_below (by kernel_rfl) (by kernel_rfl) ?_
                  repeat (any_goals (first | go_big_quiet_step ((exact HT.out _ _)) | quiet_step ((exact HT.out _ _)) | (refine wpQuiet_step (fun K hK => ?_); go_simp; split <;> (refine hK _ ?_; clear hK K))))
                  all_goals
                    refine wpQuiet_nil ?_
                    intro _ hw'
                    obtain ⟨⟨dq, osq⟩, hw''⟩ := hw'
                    subst hw''
                    have B5 := below_regrown W4 dq osq
                    generalize grow (redrawn W4 dq) osq = W5 at *
                  all_goals
                    go_wp2
                  all_goals first
                  | (go_ret
                     go_light
                     exact ⟨ret_bool (by
                       first
                       | exact (M7.out (by simpa using ‹(!bb) = true›)).out
                       | exact (M6.out ‹_› ‹_›).out), HB3b.out.trans ((B4.trans (B5.mono B4.size)).mono HB3b.out.size)⟩)
                  | (go_roundw
                     case rel =>
                       go_light
                       exact ⟨k + 1, by omega, by go_num, (HY.out HNT.out HGT.out HPV.out (by first | exact Or.inl ‹_› | exact Or.inr ‹_›) (by simpa using ‹(!bb) = false›)).out, HBr.out.trans ((HB3.out.trans ((B4.trans (B5.mono B4.size)).mono HB3.out.size)).mono HBr.out.size)⟩
                     case measure =>
                       go_light
                       simp [intOf]
                       omega)
                · have hk0' : (0 : Int) < (k : Int) := by omega
                  have hk1 : (0 : Int) ≤ (k : Int) - 1 := by omega
                  go_wp2_with fail
                  rw [← hW3]
                  clear hW3
                  have x0 := cell_regrown n0
                  have x1 := cell_regrown n1
                  have x2 := cell_regrown n2
                  have x3 := cell_regrown n3
                  have x4 := cell_regrown n4
                  have r0 := cell_regrown (cell_below HB3.out p0)
                  have r1 := cell_regrown (cell_below HB3.out p1)
                  have r2 := cell_regrown (cell_below HB3.out p2)
                  have s0 := cell_regrown G0.out
                  have s1 := cell_regrown G1.out
                  have s2 := cell_regrown G2.out
                  have s3 := cell_regrown G3.out
                  have s4 := cell_regrown G4.out
                  have y0 := cell_regrown v0
                  have y1 := cell_regrown v1
                  have y3 := cell_regrown v3p
                  refine wp_region_quiet_below (by kernel_rfl) (by kernel_rfl) ?_
                  repeat (any_goals (first | go_big_quiet_step ((first | exact CN.out _ _ | exact CG.out _ _)) | quiet_step ((first | exact CN.out _ _ | exact CG.out _ _)) | (refine wpQuiet_step (fun K hK => ?_); go_simp; split <;> (refine hK _ ?_; clear hK K))))
                  all_goals
                    refine wpQuiet_nil ?_
                    intro _ hw'
                    obtain ⟨⟨dq, osq⟩, hw''⟩ := hw'
                    subst hw''
                    have B4 := below_regrown W3 dq osq
                    generalize grow (redrawn W3 dq) osq = W4 at *
                  all_goals
                    have hT := CT.out W4 B4
                    have HT := Lib.hid hT
                    have K0 := cell_below B4 n0
                    have K4 := cell_below B4 n4
                    have L0 := cell_below B4 G0.out
                    clear hT
                    go_wp2_with fail
                  any_goals
                    go_ret
                    go_light
                    exact ⟨ret_bool (by
                      first
                      | exact (M3.out (by simpa using ‹¬ gg = true›)).out
                      | exact (M2.out (by simpa using ‹¬ nn = true›)).out
                      | exact (M4.out (by omega) ‹_›).out
                      | exact (M5.out (by omega) (by simpa using ‹(!ll) = true›)).out), HB3b.out.trans (B4.mono HB3b.out.size)⟩
                  have HNT := Lib.hid (show nn = true by assumption)
                  have HGT := Lib.hid (show gg = true by assumption)
                  have HPV : Hid (k = 0 ∨ (pp.kd.toList = [109, 101, 116, 104, 111, 100] ∧ ll = true)) := Or.inr ⟨by assumption, by simpa using ‹(!ll) = false›⟩
                  have X0 := cell_regrown K4
                  have R0 := cell_regrown (cell_below B4 (cell_below HB3.out p0))
                  have R1 := cell_regrown (cell_below B4 (cell_below HB3.out p1))
                  have R2 := cell_regrown (cell_below B4 (cell_below HB3.out p2))
                  have S0 := cell_regrown (cell_below B4 G0.out)
                  have S1 := cell_regrown (cell_below B4 G1.out)
                  have S2 := cell_regrown (cell_below B4 G2.out)
                  have S3 := cell_regrown (cell_below B4 G3.out)
                  have S4 := cell_regrown (cell_below B4 G4.out)
                  clear x0 x1 x2 x3 x4 r0 r1 r2 s0 s1 s2 s3 s4
                  refine wp_region_quiet_below (by kernel_rfl) (by kernel_rfl) ?_
                  repeat (any_goals (first | go_big_quiet_step ((exact HT.out _ _)) | quiet_step ((exact HT.out _ _)) | (refine wpQuiet_step (fun K hK => ?_); go_simp; split <;> (refine hK _ ?_; clear hK K))))
                  all_goals
                    refine wpQuiet_nil ?_
                    intro _ hw'
                    obtain ⟨⟨dq, osq⟩, hw''⟩ := hw'
                    subst hw''
                    have B5 := below_regrown W4 dq osq
                    generalize grow (redrawn W4 dq) osq = W5 at *
                  all_goals
                    go_wp2
                  all_goals first
                  | (go_ret
                     go_light
                     exact ⟨ret_bool (by
                       first
                       | exact (M7.out (by simpa using ‹(!bb) = true›)).out
                       | exact (M6.out ‹_› ‹_›).out), HB3b.out.trans ((B4.trans (B5.mono B4.size)).mono HB3b.out.size)⟩)
                  | (go_roundw
                     case rel =>
                       go_light
                       exact ⟨k + 1, by omega, by go_num, (HY.out HNT.out HGT.out HPV.out (by first | exact Or.inl ‹_› | exact Or.inr ‹_›) (by simpa using ‹(!bb) = false›)).out, HBr.out.trans ((HB3.out.trans ((B4.trans (B5.mono B4.size)).mono HB3.out.size)).mono HBr.out.size)⟩
                     case measure =>
                       go_light
                       simp [intOf]
                       omega)
              · have htg' : kk.tg.toList.isEmpty = false := by simp [htg]
                have HSZ := Lib.hid hsz
                have HN := A1.out htg
                have HNH := Lib.hid HN
                clear hsz HN
                go_wp2
                go_ret
                go_light
                rw [← hW3]
                exact ⟨ret_bool HNH.out.out, HB3b.out⟩
            · have hsz' : (kk.sz == 0) = false := by simp [hsz]
              have HN := A2.out hsz
              have HNH := Lib.hid HN
              clear HN
              go_wp2
              all_goals
                go_ret
                go_light
                rw [← hW3]
                exact ⟨ret_bool HNH.out.out, HB3b.out⟩
          · have HN := M1.out hone
            have HNH := Lib.hid HN
            clear HN
            have hone' : ¬ ((t.kid k).kids.length : Int) = 1 := by omega
            generalize hkk : t.kid k = kk at *
            have HKK := Lib.hid hkk; clear hkk
            by_cases hsz : kk.sz = 0
            · by_cases htg : kk.tg.toList = []
              · have HSZ := Lib.hid hsz
                rw [hsz] at hW3 d3 n3
                clear hsz
                go_wp2_with fail
                rw [← hW3]
                clear hW3
                have x0 := cell_regrown n0
                have x1 := cell_regrown n1
                have x2 := cell_regrown n2
                have x3 := cell_regrown n3
                have x4 := cell_regrown n4
                have r0 := cell_regrown (cell_below HB3.out p0)
                have r1 := cell_regrown (cell_below HB3.out p1)
                have r2 := cell_regrown (cell_below HB3.out p2)
                refine wp_region_quiet_below (by kernel_rfl) (by kernel_rfl) ?_
                repeat (any_goals (first | go_big_quiet_step (fail) | quiet_step (fail) | (refine wpQuiet_step (fun K hK => ?_); go_simp; split <;> (refine hK _ ?_; clear hK K))))
                all_goals
                  refine wpQuiet_nil ?_
                  intro _ hw'
                  obtain ⟨⟨dq, osq⟩, hw''⟩ := hw'
                  subst hw''
                  have B4 := below_regrown W3 dq osq
                  generalize grow (redrawn W3 dq) osq = W4 at *
                all_goals
                  go_wp2_with fail
                  go_ret
                  go_light
                  exact ⟨ret_bool HNH.out.out, HB3b.out.trans (B4.mono HB3b.out.size)⟩
              · have htg' : kk.tg.toList.isEmpty = false := by simp [htg]
                have HSZ := Lib.hid hsz
                have HN := A1.out htg
                have HNH := Lib.hid HN
                clear hsz HN
                go_wp2
                go_ret
                go_light
                rw [← hW3]
                exact ⟨ret_bool HNH.out.out, HB3b.out⟩
            · have hsz' : (kk.sz == 0) = false := by simp [hsz]
              have HN := A2.out hsz
              have HNH := Lib.hid HN
              clear HN
              go_wp2
              all_goals
                go_ret
                go_light
                rw [← hW3]
                exact ⟨ret_bool HNH.out.out, HB3b.out⟩
        · have E1 := Lib.hid (fun h => HNO.out (partB_emb (rec := (fun k b => isTypeB W most d k b)) (below := below) hkd (Or.inl h)))
          have E2 := Lib.hid (fun h => HNO.out (partB_emb (rec := (fun k b => isTypeB W most d k b)) (below := below) hkd (Or.inr (Or.inl h))))
          have E3 := Lib.hid (fun h => HNO.out (partB_emb (rec := (fun k b => isTypeB W most d k b)) (below := below) hkd (Or.inr (Or.inr (Or.inl h)))))
          have E4 := Lib.hid (fun h => HNO.out (partB_emb (rec := (fun k b => isTypeB W most d k b)) (below := below) hkd (Or.inr (Or.inr (Or.inr h)))))
          have EY := Lib.hid (fun a1 a2 h1 h2 h3 h4 => HYES.out (partB_embY (rec := (fun k b => isTypeB W most d k b)) (below := below) hkd a1 a2 h1 h2 h3 h4))
          by_cases hone : (t.kid k).kids.length = 1
          · skip
            have e1k := kid_at (t := t.kid k) (i := 0) (by omega)
            obtain ⟨b2, off2, a2, c2, rfl, g0, g1, g2, g3, g4, hf2, hk2⟩ := HKr.out.at e1k
            have HK3 := Lib.hid (hk2.keep HB3.out)
            have HD3 := Lib.hid (HDr.out.keep HB3.out)
            have HF2 := Lib.hid hf2
            simp only [Nat.zero_mul, Nat.add_zero] at g0 g1 g2 g3 g4
            have G0 := Lib.hid (cell_below HB3.out g0)
            have G1 := Lib.hid (cell_below HB3.out g1)
            have G2 := Lib.hid (cell_below HB3.out g2)
            have G3 := Lib.hid (cell_below HB3.out g3)
            have G4 := Lib.hid (cell_below HB3.out g4)
            clear g0 g1 g2 g3 g4 hf2 hk2 e1k
            have cT : ∀ V, Below W3.heap.size W3 V → ∀ dd os, Calls Tryz.prog 13 #[.agg #[.slice pa np pc, .slice da W.decls.length dc, .int .i64 most], .agg #[.string ((t.kid k).kid 0).kd, .string ((t.kid k).kid 0).nm, .string ((t.kid k).kid 0).tg, .int .i64 ((t.kid k).kid 0).sz, .slice a2 ((t.kid k).kid 0).kids.length c2], .int .i64 d, .bool false] (grow (redrawn V dd) os)
                fun e w'' => e = .returned (.bool (isTypeB W most d ((t.kid k).kid 0) false)) ∧ ∃ p : Regrown, w'' = grow (redrawn V p.d) p.os := fun V hw dd os =>
              Calls.regrown_of (HR.out ((t.kid k).kid 0) a2 c2 false _ ((HD3.out.keep hw).keep (below_regrown _ _ _)) ((HK3.out.keep hw).keep (below_regrown _ _ _)) HF2.out)
            have CT := Lib.hid cT
            clear cT
            have HONE := Lib.hid hone
            have hone' : ((t.kid k).kids.length : Int) = 1 := by omega
            clear hone
            generalize hk0 : (t.kid k).kid 0 = k0 at *
            have HK0 := Lib.hid hk0; clear hk0
            generalize hkk : t.kid k = kk at *
            have HKK := Lib.hid hkk; clear hkk
            generalize hbb : isTypeB W most d k0 false = bb at *
            have HBB := Lib.hid hbb; clear hbb
            by_cases hsz : kk.sz = 0
            · by_cases htg : kk.tg.toList = []
              · have HY := Lib.hid (fun h1 h3 h4 => EY.out htg hsz h1 HONE.out h3 h4)
                have HSZ := Lib.hid hsz
                rw [hsz] at hW3 d3 n3
                have hT := CT.out W3 (Below.refl _ _)
                have HT := Lib.hid hT
                clear hsz hT
                go_wp2_with fail
                rw [← hW3]
                clear hW3
                have x0 := cell_regrown n0
                have x1 := cell_regrown n1
                have x2 := cell_regrown n2
                have x3 := cell_regrown n3
                have x4 := cell_regrown n4
                have r0 := cell_regrown (cell_below HB3.out p0)
                have r1 := cell_regrown (cell_below HB3.out p1)
                have r2 := cell_regrown (cell_below HB3.out p2)
                have s0 := cell_regrown G0.out
                have s1 := cell_regrown G1.out
                have s2 := cell_regrown G2.out
                have s3 := cell_regrown G3.out
                have s4 := cell_regrown G4.out
                refine wp_region_quiet_below (by kernel_rfl) (by kernel_rfl) ?_
                repeat (any_goals (first | go_big_quiet_step ((exact HT.out _ _)) | quiet_step ((exact HT.out _ _)) | (refine wpQuiet_step (fun K hK => ?_); go_simp; split <;> (refine hK _ ?_; clear hK K))))
                all_goals
                  refine wpQuiet_nil ?_
                  intro _ hw'
                  obtain ⟨⟨dq, osq⟩, hw''⟩ := hw'
                  subst hw''
                  have B4 := below_regrown W3 dq osq
                  generalize grow (redrawn W3 dq) osq = W4 at *
                all_goals
                  go_wp2
                all_goals first
                | (go_ret
                   go_light
                   exact ⟨ret_bool (by
                     first
                     | exact (E4.out (by simpa using ‹(!bb) = true›)).out
                     | exact (E3.out ‹_›).out
                     | exact (E1.out ‹_›).out), HB3b.out.trans (B4.mono HB3b.out.size)⟩)
                | (go_roundw
                   case rel =>
                     go_light
                     exact ⟨k + 1, by omega, by go_num, (HY.out (by assumption) (by assumption) (by simpa using ‹(!bb) = false›)).out, HBr.out.trans ((HB3.out.trans (B4.mono HB3.out.size)).mono HBr.out.size)⟩
                   case measure =>
                     go_light
                     simp [intOf]
                     omega)
              · have htg' : kk.tg.toList.isEmpty = false := by simp [htg]
                have HSZ := Lib.hid hsz
                have HN := A1.out htg
                have HNH := Lib.hid HN
                clear hsz HN
                go_wp2
                go_ret
                go_light
                rw [← hW3]
                exact ⟨ret_bool HNH.out.out, HB3b.out⟩
            · have hsz' : (kk.sz == 0) = false := by simp [hsz]
              have HN := A2.out hsz
              have HNH := Lib.hid HN
              clear HN
              go_wp2
              all_goals
                go_ret
                go_light
                rw [← hW3]
                exact ⟨ret_bool HNH.out.out, HB3b.out⟩
          · have HN := E2.out hone
            have HNH := Lib.hid HN
            clear HN
            have hone' : ¬ ((t.kid k).kids.length : Int) = 1 := by omega
            generalize hkk : t.kid k = kk at *
            have HKK := Lib.hid hkk; clear hkk
            by_cases hsz : kk.sz = 0
            · by_cases htg : kk.tg.toList = []
              · have HSZ := Lib.hid hsz
                rw [hsz] at hW3 d3 n3
                clear hsz
                go_wp2_with fail
                rw [← hW3]
                clear hW3
                have x0 := cell_regrown n0
                have x1 := cell_regrown n1
                have x2 := cell_regrown n2
                have x3 := cell_regrown n3
                have x4 := cell_regrown n4
                have r0 := cell_regrown (cell_below HB3.out p0)
                have r1 := cell_regrown (cell_below HB3.out p1)
                have r2 := cell_regrown (cell_below HB3.out p2)
                refine wp_region_quiet_below (by kernel_rfl) (by kernel_rfl) ?_
                repeat (any_goals (first | go_big_quiet_step (fail) | quiet_step (fail) | (refine wpQuiet_step (fun K hK => ?_); go_simp; split <;> (refine hK _ ?_; clear hK K))))
                all_goals
                  refine wpQuiet_nil ?_
                  intro _ hw'
                  obtain ⟨⟨dq, osq⟩, hw''⟩ := hw'
                  subst hw''
                  have B4 := below_regrown W3 dq osq
                  generalize grow (redrawn W3 dq) osq = W4 at *
                all_goals
                  go_wp2_with fail
                  go_ret
                  go_light
                  exact ⟨ret_bool HNH.out.out, HB3b.out.trans (B4.mono HB3b.out.size)⟩
              · have htg' : kk.tg.toList.isEmpty = false := by simp [htg]
                have HSZ := Lib.hid hsz
                have HN := A1.out htg
                have HNH := Lib.hid HN
                clear hsz HN
                go_wp2
                go_ret
                go_light
                rw [← hW3]
                exact ⟨ret_bool HNH.out.out, HB3b.out⟩
            · have hsz' : (kk.sz == 0) = false := by simp [hsz]
              have HN := A2.out hsz
              have HNH := Lib.hid HN
              clear HN
              go_wp2
              all_goals
                go_ret
                go_light
                rw [← hW3]
                exact ⟨ret_bool HNH.out.out, HB3b.out⟩
        · have U1 := Lib.hid (fun h => HNO.out (partB_uni (rec := (fun k b => isTypeB W most d k b)) (below := below) hkd (Or.inl h)))
          have U2 := Lib.hid (fun h => HNO.out (partB_uni (rec := (fun k b => isTypeB W most d k b)) (below := below) hkd (Or.inr h)))
          have UY := Lib.hid (fun a1 a2 h1 h2 => HYES.out (partB_uniY (rec := (fun k b => isTypeB W most d k b)) (below := below) hkd a1 a2 h1 h2))
          have con : ∀ w', Below wr.heap.size wr w' → Calls Tryz.prog 49 #[.agg #[.string (t.kid k).kd, .string (t.kid k).nm, .string (t.kid k).tg, .int .i64 (t.kid k).sz, .slice a' (t.kid k).kids.length c']] w' (Gives (.bool (unionB (t.kid k))) w') := fun w' hw => isUnion_any _ _ _ _ (HKr.out.keep hw)
          have CON := Lib.hid con; clear con
          generalize hkk : t.kid k = kk at *
          have HKK := Lib.hid hkk; clear hkk
          generalize huu : unionB kk = uu at *
          have HUU := Lib.hid huu; clear huu
          by_cases hsz : kk.sz = 0
          · rw [hsz] at hW3 d3 CON
            by_cases htg : kk.tg.toList = []
            · by_cases hnn : kk.nm.toList = []
              · have HY := UY.out htg hsz hnn
                have HYH := Lib.hid HY
                have HSZ := Lib.hid hsz
                clear HY hsz
                go_wp2_with (go_at_call 49; rw [← hW3]; refine (CON.out _ HB3.out).mono ?_; rintro e w' ⟨rfl, hb4⟩)
                · go_ret
                  go_light
                  exact ⟨ret_bool (U2.out (by simpa using ‹(!uu) = true›)).out, HB3b.out.trans (hb4.mono HB3b.out.size)⟩
                · go_roundw
                  case rel =>
                    go_light
                    exact ⟨k + 1, by omega, by go_num, (HYH.out (by simpa using ‹(!uu) = false›)).out, HBr.out.trans ((HB3.out.trans (hb4.mono HB3.out.size)).mono HBr.out.size)⟩
                  case measure =>
                    go_light
                    simp [intOf]
                    omega
              · have hnn' : kk.nm.toList.isEmpty = false := by simp [hnn]
                have HSZ := Lib.hid hsz
                have HN := U1.out hnn
                have HNH := Lib.hid HN
                clear hsz HN
                go_wp2
                go_ret
                go_light
                rw [← hW3]
                exact ⟨ret_bool HNH.out.out, HB3b.out⟩
            · have htg' : kk.tg.toList.isEmpty = false := by simp [htg]
              have HSZ := Lib.hid hsz
              have HN := A1.out htg
              have HNH := Lib.hid HN
              clear hsz HN
              go_wp2
              go_ret
              go_light
              rw [← hW3]
              exact ⟨ret_bool HNH.out.out, HB3b.out⟩
          · have hsz' : (kk.sz == 0) = false := by simp [hsz]
            have HN := A2.out hsz
            have HNH := Lib.hid HN
            clear HN
            go_wp2
            all_goals
              go_ret
              go_light
              rw [← hW3]
              exact ⟨ret_bool HNH.out.out, HB3b.out⟩
        · have HN := Lib.hid (HNO.out (partB_none (rec := (fun k b => isTypeB W most d k b)) (below := below) hkd1 hkd2 hkd3))
          generalize hkk : t.kid k = kk at *
          have HKK := Lib.hid hkk; clear hkk
          have hkd1' : (kk.kd.toList == [109, 101, 116, 104, 111, 100]) = false := by simp [hkd1]
          have hkd2' : (kk.kd.toList == [101, 109, 98, 101, 100]) = false := by simp [hkd2]
          have hkd3' : (kk.kd.toList == [117, 110, 105, 111, 110]) = false := by simp [hkd3]
          go_wp2
          all_goals
            go_ret
            go_light
            rw [← hW3]
            exact ⟨ret_bool HN.out.out, HB3b.out⟩
      · have hks : k = t.kids.length := by omega
        have HE : Hid (true = ifaceB (fun k b => isTypeB W most d k b) t below) := by
          show _ = _
          rw [ifaceB_yes e2 e3 e4 e5 (fun j h => hj.out j (by omega))]
        clear hj
        go_wp2
        go_ret
        go_light
        exact ⟨ret_bool HE.out, HB.out.trans (hbw.mono HB.out.size)⟩
  · have HE : Hid (false = ifaceB (fun k b => isTypeB W most d k b) t below) := by
      show _ = _
      rw [ifaceB_head hhead]
    have HH := Lib.hid hhead; clear hhead
    go_enter Tryz.func27, Tryz.ntmps27
    go_wp2_with fail
    any_goals
      go_ret
      exact ⟨ret_bool HE.out, by go_grown⟩
    all_goals
      exfalso
      apply HH.out
      go_light
      exact ⟨by assumption, by assumption, by assumption, by omega⟩
end Go.Proofs.YtipmpeekfajlcaaGreatDoor
