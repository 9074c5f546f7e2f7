/- What is proved: the contract of impl's signature, given that of typ one step deeper. Conditions: the input lies in memory as trees, and the type is a function's. -/
import Derived.Test.YtipmpeekfajlcaaGreatDoorHb
import Derived.Test.YtipmpeekfajlcaaGreatDoorGd
namespace Go.Proofs.YtipmpeekfajlcaaGreatDoor
open Go.RowKit Go.Proofs Go.Sort Go.BigFrame

/-- The contract of signature at types of a depth. -/
def SigG (W : WorldD) (mb : Nat) (most : Int) (Q : TypeId → Value → Prop) (d : Nat) : Prop :=
  ∀ (t : Ty) (ka : Option Addr) (kc : Nat) (below : Bool) (rv : Option Addr) (w : World), isFuncB t = true → isTypeB W most d t below = true → Env w mb W most Q → KidsV w ka kc t.kids →
    Calls Tryz.prog 41 #[.pointer (some ⟨mb, 0, none⟩), .agg #[.string t.kd, .string t.nm, .string t.tg, .int .i64 t.sz, .slice ka t.kids.length kc], .pointer rv] w (SigGives w (.pointer rv))

theorem func_parts {W : WorldD} {most : Int} {d : Nat} {t : Ty} {below : Bool} (hf : isFuncB t = true) (h : isTypeB W most (d + 1) t below = true) :
    t.kids.length = 2 ∧ tupleB (fun k => isTypeB W most d k below) (t.kid 0) = true ∧ tupleB (fun k => isTypeB W most d k below) (t.kid 1) = true ∧ (t.kd.toList = [102, 117, 110, 99] ∨ (t.kd.toList = [118, 97, 114, 105, 97, 100, 105, 99] ∧ endsB (t.kid 0) = true)) := by
  simp only [isFuncB, Bool.or_eq_true, decide_eq_true_eq] at hf
  rcases hf with hk | hk
  · simp only [isTypeB, hk] at h
    simp [plainB] at h
    exact ⟨h.1.1.2, h.1.2, h.2, .inl hk⟩
  · simp only [isTypeB, hk] at h
    simp [plainB] at h
    exact ⟨h.1.1.1.2, h.1.1.2, h.1.2, .inr ⟨hk, h.2⟩⟩

/-- A new signature out of two tuples, variadic or not. -/
theorem newSig_tup (Q : TypeId → Value → Prop) (t : Ty) (p0 p1 rv : Option Addr) (b : Bool) (w : World) (h0 : TupP Q (t.kid 0) w p0) (hn : (t.kid 0).kids.length ≤ 8)
    (hb : b = true → endsB (t.kid 0) = true) :
    Calls Tryz.prog 68 #[.pointer rv, .slice none 0 0, .slice none 0 0, .pointer p0, .pointer p1, .bool b] w (SigGives w (.pointer rv)) := by
  cases b with
  | false => exact newSigPlain_any rv p0 p1 w
  | true =>
    have he := hb rfl
    simp only [endsB, Bool.and_eq_true, decide_eq_true_eq] at he
    obtain ⟨pb, sb, c, rfl, h1, h2⟩ := h0 he.1
    obtain ⟨vb, T, x, a1, a2, a3⟩ := h2 ((t.kid 0).kids.length - 1) (by omega)
    obtain ⟨rfl, sp, rfl⟩ := a3.2.1 he.2
    exact newSigVar_any rv pb sb 0 _ c vb 0 sp p1 w he.1 (by omega) h1 (by rw [Nat.zero_add]; exact a1) (by rw [Nat.zero_add]; exact a2)

theorem sig_below {w W2 wA wB wS : World} (h0 : Below w.heap.size w W2) (h1 : Below W2.drew.heap.size W2.drew wA) (h2 : Below wA.heap.size wA wB) (h3 : Below wB.heap.size wB wS) : Below w.heap.size w wS := by
  have a1 := h0.drew.trans (h1.mono h0.size)
  have a2 := a1.trans (h2.mono a1.size)
  exact a2.trans (h3.mono a2.size)
theorem sig_sizes {w W2 wA wB : World} {b : Nat} (h0 : Below w.heap.size w W2) (h1 : Below W2.drew.heap.size W2.drew wA) (h2 : Below wA.heap.size wA wB) (hb : wB.heap.size ≤ b) : w.heap.size ≤ b := by
  have a1 := h0.drew.trans (h1.mono h0.size)
  exact Nat.le_trans (a1.trans (h2.mono a1.size)).size hb

set_option maxRecDepth 100000 in
set_option maxHeartbeats 8000000 in
theorem signature_any (W : WorldD) (mb : Nat) (most : Int) (Q : TypeId → Value → Prop) (d : Nat) (hrec : TypG W mb most Q d) : SigG W mb most Q (d + 1) := by
  intro t ka kc below rv w hfun hty hE hk
  obtain ⟨hlen, hB0, hB1, hkd⟩ := func_parts hfun hty
  clear hfun hty
  have hl1 := hk.len.1
  have hl2 := hk.len.2
  have hn8 := tupleB_len hB0
  obtain ⟨W2, hW2⟩ : ∃ W2, W2 = w.alloc (.cells #[.string t.kd, .string t.nm, .string t.tg, .int .i64 t.sz, .slice ka t.kids.length kc] 28) := ⟨_, rfl⟩
  have hb : Below w.heap.size w W2 := by rw [hW2]; exact (Below.refl _ _).alloc (Nat.le_refl _) _
  have n0 : W2.cell? ⟨w.heap.size, 0, none⟩ = some (.string t.kd) := by rw [hW2]; simp
  have n4 : W2.cell? ⟨w.heap.size, 4, none⟩ = some (.slice ka t.kids.length kc) := by rw [hW2]; simp
  have HW2 := Lib.hid hW2; clear hW2
  have hk2 := hk.keep hb
  obtain ⟨bu, offu, au, cu, hbu, g0, g1, g2, g3, g4, hfu, hku⟩ := hk2.at (kid_at (t := t) (i := 0) (by omega))
  subst hbu
  obtain ⟨bv, offv, av, cv, hbv, f0, f1, f2, f3, f4, hfv, hkv⟩ := hk2.at (kid_at (t := t) (i := 1) (by omega))
  simp only [Option.some.injEq, Addr.mk.injEq, and_true] at hbv
  obtain ⟨rfl, rfl⟩ := hbv
  simp only [Nat.zero_mul, Nat.add_zero] at g0 g1 g2 g3 g4
  simp only [Nat.one_mul] at f0 f1 f2 f3 f4
  have hE2 := hE.keep hb
  have C0 : Hid (∀ w', Below W2.heap.size W2 w' → Calls Tryz.prog 69 #[.pointer (some ⟨mb, 0, none⟩), .agg #[.string (t.kid 0).kd, .string (t.kid 0).nm, .string (t.kid 0).tg, .int .i64 (t.kid 0).sz, .slice au (t.kid 0).kids.length cu]] w' (TupGives Q (t.kid 0) w')) :=
    fun w' h' => tuple_any W mb most Q d hrec (t.kid 0) au cu below w' hB0 (hE2.keep h') (hku.keep h')
  have C1 : Hid (∀ w', Below W2.heap.size W2 w' → Calls Tryz.prog 69 #[.pointer (some ⟨mb, 0, none⟩), .agg #[.string (t.kid 1).kd, .string (t.kid 1).nm, .string (t.kid 1).tg, .int .i64 (t.kid 1).sz, .slice av (t.kid 1).kids.length cv]] w' (TupGives Q (t.kid 1) w')) :=
    fun w' h' => tuple_any W mb most Q d hrec (t.kid 1) av cv below w' hB1 (hE2.keep h') (hkv.keep h')
  have CS : Hid (∀ (w' : World) (p0 p1 : Option Addr), TupP Q (t.kid 0) w' p0 → Calls Tryz.prog 68 #[.pointer rv, .slice none 0 0, .slice none 0 0, .pointer p0, .pointer p1, .bool (t.kd.toList == [118, 97, 114, 105, 97, 100, 105, 99])] w' (SigGives w' (.pointer rv))) :=
    fun w' p0 p1 h => newSig_tup Q t p0 p1 rv _ w' h hn8 (fun hb => by
      rcases hkd with e | ⟨_, e⟩
      · rw [e] at hb; cases hb
      · exact e)
  have SH : Hid (∀ w', Below W2.heap.size W2 w' → w'.cell? ⟨w.heap.size, 0, none⟩ = some (.string t.kd) ∧ w'.cell? ⟨w.heap.size, 4, none⟩ = some (.slice (some ⟨bu, offu, none⟩) t.kids.length kc) ∧
      w'.cell? ⟨bu, offu, none⟩ = some (.string (t.kid 0).kd) ∧ w'.cell? ⟨bu, offu + 1, none⟩ = some (.string (t.kid 0).nm) ∧ w'.cell? ⟨bu, offu + 2, none⟩ = some (.string (t.kid 0).tg) ∧ w'.cell? ⟨bu, offu + 3, none⟩ = some (.int .i64 (t.kid 0).sz) ∧ w'.cell? ⟨bu, offu + 4, none⟩ = some (.slice au (t.kid 0).kids.length cu) ∧
      w'.cell? ⟨bu, offu + 5, none⟩ = some (.string (t.kid 1).kd) ∧ w'.cell? ⟨bu, offu + 5 + 1, none⟩ = some (.string (t.kid 1).nm) ∧ w'.cell? ⟨bu, offu + 5 + 2, none⟩ = some (.string (t.kid 1).tg) ∧ w'.cell? ⟨bu, offu + 5 + 3, none⟩ = some (.int .i64 (t.kid 1).sz) ∧ w'.cell? ⟨bu, offu + 5 + 4, none⟩ = some (.slice av (t.kid 1).kids.length cv)) :=
    fun w' h => ⟨cell_below h n0, cell_below h n4, cell_below h g0, cell_below h g1, cell_below h g2, cell_below h g3, cell_below h g4, cell_below h f0, cell_below h f1, cell_below h f2, cell_below h f3, cell_below h f4⟩
  have HB := Lib.hid hb
  have hl3 : 0 < t.kids.length := by omega
  have hl4 : 1 < t.kids.length := by omega
  have hl5 : (1 : Int) < (t.kids.length : Int) := by omega
  clear hk hk2 hE hE2 hB0 hB1 hkd hlen hb hfu hfv hku hkv n0 n4 g0 g1 g2 g3 g4 f0 f1 f2 f3 f4 hrec hn8
  generalize t.kid 0 = k0 at *
  generalize t.kid 1 = k1 at *
  go_enter Tryz.func41, Tryz.ntmps41
  go_wp2_with fail
  rw [← HW2.out]
  go_region_held3 (fun w' => w'.cell? ⟨w.heap.size, 0, none⟩ = some (.string t.kd) ∧ w'.cell? ⟨w.heap.size, 4, none⟩ = some (.slice (some ⟨bu, offu, none⟩) t.kids.length kc) ∧
      w'.cell? ⟨bu, offu, none⟩ = some (.string k0.kd) ∧ w'.cell? ⟨bu, offu + 1, none⟩ = some (.string k0.nm) ∧ w'.cell? ⟨bu, offu + 2, none⟩ = some (.string k0.tg) ∧ w'.cell? ⟨bu, offu + 3, none⟩ = some (.int .i64 k0.sz) ∧ w'.cell? ⟨bu, offu + 4, none⟩ = some (.slice au k0.kids.length cu) ∧
      w'.cell? ⟨bu, offu + 5, none⟩ = some (.string k1.kd) ∧ w'.cell? ⟨bu, offu + 5 + 1, none⟩ = some (.string k1.nm) ∧ w'.cell? ⟨bu, offu + 5 + 2, none⟩ = some (.string k1.tg) ∧ w'.cell? ⟨bu, offu + 5 + 3, none⟩ = some (.int .i64 k1.sz) ∧ w'.cell? ⟨bu, offu + 5 + 4, none⟩ = some (.slice av k1.kids.length cv))
    (first | exact SH.out _ ((Below.refl _ _).drew) | exact SH.out _ ((Below.refl _ _).drew.trans hbA) | exact SH.out _ ((Below.refl _ _).drew.trans hbB) | exact SH.out _ (((Below.refl _ _).drew.trans hbA).trans (hbB.mono hbA.size)) | exact SH.out _ (((Below.refl _ _).drew.trans hbB).trans (hbA.mono hbB.size)) | exact SH.out _ ((((Below.refl _ _).drew.trans hbA).trans (hbB.mono hbA.size)).trans (hbS.mono (Nat.le_trans hbA.size hbB.size))) | exact SH.out _ ((((Below.refl _ _).drew.trans hbB).trans (hbA.mono hbB.size)).trans (hbS.mono (Nat.le_trans hbB.size hbA.size))))
    (first
      | (go_at_call_of 69 k0; refine (C0.out _ ?_).mono ?_; (first | exact (Below.refl _ _).drew | exact (Below.refl _ _).drew.trans hbB); rintro e wA ⟨p0, rfl, hpA, hbA⟩)
      | (go_at_call_of 69 k1; refine (C1.out _ ?_).mono ?_; (first | exact (Below.refl _ _).drew | exact (Below.refl _ _).drew.trans hbA); rintro e wB ⟨p1, rfl, hpB, hbB⟩)
      | (go_at_call 68; refine (CS.out _ _ _ ?_).mono ?_; (first | exact hpA.keep hbB | exact hpA); rintro e wS ⟨b, rfl, hbl, hcs, hbS⟩))
  all_goals
    go_wp2
    go_ret
    go_light
    first
    | exact ⟨b, rfl, sig_sizes HB.out hbA hbB hbl, hcs, sig_below HB.out hbA hbB hbS⟩
    | exact ⟨b, rfl, sig_sizes HB.out hbB hbA hbl, hcs, sig_below HB.out hbB hbA hbS⟩

end Go.Proofs.YtipmpeekfajlcaaGreatDoor
