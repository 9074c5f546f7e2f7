/- What is proved: the contracts of spec.known, endsInSlice, embeddedName and isUnion. Conditions: the input lies in memory as trees. -/
import Derived.Test.YtipmpeekfajlcaaGreatDoorSc
namespace Go.Proofs.YtipmpeekfajlcaaGreatDoor
open Go.RowKit Go.Proofs

theorem decl_at {W : WorldD} {i : Nat} (h : i < W.decls.length) : W.decls[i]? = some (W.decl i) := by
  simp [WorldD.decl, List.getD, h]
theorem kid_at {t : Ty} {i : Nat} (h : i < t.kids.length) : t.kids[i]? = some (t.kid i) := by
  simp [Ty.kid, List.getD, h]

set_option maxHeartbeats 1000000 in
theorem known_any (W : WorldD) (pa da : Option Addr) (pc dc np : Nat) (most : Int) (t : Ty) (ka : Option Addr) (kc : Nat) (below : Bool) (w : World) (hd : DeclsV w da dc W.decls) :
    Calls Tryz.prog 22 #[.agg #[.slice pa np pc, .slice da W.decls.length dc, .int .i64 most], .agg #[.string t.kd, .string t.nm, .string t.tg, .int .i64 t.sz, .slice ka t.kids.length kc], .bool below] w
      (Gives (.bool (knownB W most t below)) w) := by
  have h1 := hd.hcap
  have h2 := hd.hmax
  have HD := Lib.hid hd; clear hd
  by_cases hz : t.sz < 0
  · have H : Hid (false = knownB W most t below) := by show _ = _; simp [knownB, hz]
    go_enter Tryz.func22, Tryz.ntmps22
    go_wp2
    go_ret
    exact ⟨ret_bool H.out, ((Below.refl _ _).alloc (Nat.le_refl _) _).alloc (by simp) _⟩
  · have hz' : 0 ≤ t.sz := by omega
    by_cases hn : (W.decls.length : Int) ≤ t.sz
    · have H : Hid (false = knownB W most t below) := by show _ = _; simp [knownB, hn]
      go_enter Tryz.func22, Tryz.ntmps22
      go_wp2
      go_ret
      exact ⟨ret_bool H.out, ((Below.refl _ _).alloc (Nat.le_refl _) _).alloc (by simp) _⟩
    · have hn' : t.sz < (W.decls.length : Int) := by omega
      by_cases hm : t.sz < most
      · have H : Hid (true = knownB W most t below) := by show _ = _; simp [knownB, hm]; omega
        go_enter Tryz.func22, Tryz.ntmps22
        go_wp2
        go_ret
        exact ⟨ret_bool H.out, ((Below.refl _ _).alloc (Nat.le_refl _) _).alloc (by simp) _⟩
      · cases below
        · have H : Hid (false = knownB W most t false) := by show _ = _; simp [knownB, hm]
          go_enter Tryz.func22, Tryz.ntmps22
          go_wp2
          go_ret
          exact ⟨ret_bool H.out, ((Below.refl _ _).alloc (Nat.le_refl _) _).alloc (by simp) _⟩
        · have H : Hid ((!(W.decl t.sz.toNat).ali) = knownB W most t true) := by show _ = _; rw [Bool.eq_iff_iff]; simp [knownB, hm]; intro _; omega
          obtain ⟨b, off, ka', kc', hda, c0, c1, c2, c3, c4, c5, c6, c7, hf, hk⟩ := HD.out.at_ t.sz.toNat _ (decl_at (by omega))
          subst hda
          have hb := World.block_lt_of_cell? w _ c2
          simp only at hb
          clear c0 c1 c3 c4 c5 c6 c7 hf hk
          generalize (W.decl t.sz.toNat).ali = al at *
          go_enter Tryz.func22, Tryz.ntmps22
          go_wp2
          go_ret
          exact ⟨ret_bool H.out, ((Below.refl _ _).alloc (Nat.le_refl _) _).alloc (by simp) _⟩

set_option maxHeartbeats 1000000 in
theorem ends_any (t : Ty) (ka : Option Addr) (kc : Nat) (w : World) (hk : KidsV w ka kc t.kids) (h1 : ∀ k, k ∈ t.kids → k.kids.length = 1) :
    Calls Tryz.prog 26 #[.agg #[.string t.kd, .string t.nm, .string t.tg, .int .i64 t.sz, .slice ka t.kids.length kc]] w (Gives (.bool (endsB t)) w) := by
  have hlen := hk.len
  obtain ⟨hl1, hl2⟩ := hlen
  by_cases h0 : 0 < t.kids.length
  · have e1 := kid_at (t := t) (i := t.kids.length - 1) (by omega)
    obtain ⟨b, off, a', c', rfl, c0, c1, c2, c3, c4, hf, hk'⟩ := hk.at e1
    have hm := h1 _ (List.mem_of_getElem? e1)
    rw [hm] at c4
    have H : Hid (decide (((t.kid (t.kids.length - 1)).kid 0).kd.toList = [115, 108, 105, 99, 101]) = endsB t) := by show _ = _; simp [endsB, h0]
    have e2 := kid_at (t := t.kid (t.kids.length - 1)) (i := 0) (by omega)
    obtain ⟨b2, off2, a2, c2', rfl, d0, d1, d2, d3, d4, hf2, hk2⟩ := hk'.at e2
    clear c0 c1 c2 c3 hk hk' d1 d2 d3 d4 hf hf2 hk2 h1 e1 e2
    simp only [Nat.zero_mul, Nat.add_zero] at d0
    have hb := World.block_lt_of_cell? w _ c4
    have hb2 := World.block_lt_of_cell? w _ d0
    simp only at hb hb2
    generalize ((t.kid (t.kids.length - 1)).kid 0).kd = kk at *
    go_enter Tryz.func26, Tryz.ntmps26
    go_wp2
    go_ret
    exact ⟨ret_bool (by rw [← H.out, Bool.eq_iff_iff]; simp), (Below.refl _ _).alloc (Nat.le_refl _) _⟩
  · have H : Hid (false = endsB t) := by show _ = _; simp [endsB, h0]
    go_enter Tryz.func26, Tryz.ntmps26
    go_wp2
    go_ret
    exact ⟨ret_bool H.out, (Below.refl _ _).alloc (Nat.le_refl _) _⟩

theorem emb_cases (t : Ty) : (t.kd.toList = [112, 111, 105, 110, 116, 101, 114] ∧ t.kids.length = 1) ∨ (t.kd.toList = [112, 111, 105, 110, 116, 101, 114] ∧ ¬ t.kids.length = 1) ∨ ¬ t.kd.toList = [112, 111, 105, 110, 116, 101, 114] := by
  by_cases h : t.kd.toList = [112, 111, 105, 110, 116, 101, 114] <;> by_cases h2 : t.kids.length = 1 <;> simp [h, h2]
theorem sz_cases (t : Ty) (n : Nat) : ¬ t.kd.toList = [110, 97, 109, 101, 100] ∨ (t.kd.toList = [110, 97, 109, 101, 100] ∧ t.sz < 0) ∨ (t.kd.toList = [110, 97, 109, 101, 100] ∧ 0 ≤ t.sz ∧ ¬ t.sz < n) ∨ (t.kd.toList = [110, 97, 109, 101, 100] ∧ 0 ≤ t.sz ∧ t.sz < n) := by
  by_cases h : t.kd.toList = [110, 97, 109, 101, 100]
  · simp only [h, true_and, not_true_eq_false, false_or]; omega
  · exact Or.inl h

set_option maxHeartbeats 2000000 in
theorem emb_any (W : WorldD) (pa da : Option Addr) (pc dc np : Nat) (most : Int) (t : Ty) (ka : Option Addr) (kc : Nat) (w : World) (hd : DeclsV w da dc W.decls) (hk : KidsV w ka kc t.kids) :
    Calls Tryz.prog 48 #[.agg #[.slice pa np pc, .slice da W.decls.length dc, .int .i64 most], .agg #[.string t.kd, .string t.nm, .string t.tg, .int .i64 t.sz, .slice ka t.kids.length kc]] w
      (Gives (.string (embName W t)) w) := by
  have h1 := hd.hcap
  have h2 := hd.hmax
  have hl1 := hk.len.1
  have hl2 := hk.len.2
  have HD := Lib.hid hd; clear hd
  have HK := Lib.hid hk; clear hk
  rcases emb_cases t with ⟨e1, e2⟩ | ⟨e1, e2⟩ | e1
  · have hto : embTo t = t.kid 0 := by simp [embTo, e1, e2]
    obtain ⟨b, off, a', c', rfl, c0, c1, c2, c3, c4, hf, hk'⟩ := HK.out.at (kid_at (t := t) (i := 0) (by omega))
    have hb := World.block_lt_of_cell? w _ c0
    simp only [Nat.zero_mul, Nat.add_zero] at hb c0 c1 c2 c3 c4
    have E2 := Lib.hid e2
    have e2' : ((t.kids.length : Int) == 1) = true := by simp [e2]
    have e3 : 1 ≤ t.kids.length := by omega
    clear hf hk' HK e2
    rcases sz_cases (t.kid 0) W.decls.length with hn | ⟨hn, hz⟩ | ⟨hn, hz, hz2⟩ | ⟨hn, hz, hz2⟩
    · have H : Hid (ByteArray.empty = embName W t) := by show _ = _; simp [embName, hto, hn]
      have hn' : ((t.kid 0).kd.toList == [110, 97, 109, 101, 100]) = false := by simp [hn]
      clear hto
      generalize t.kid 0 = k0 at *
      go_enter Tryz.func48, Tryz.ntmps48
      go_wp2
      go_ret
      exact ⟨ret_str H.out, by go_grown⟩
    · have H : Hid (ByteArray.empty = embName W t) := by show _ = _; simp only [embName, hto, hn]; rw [if_neg]; omega
      clear hto
      generalize t.kid 0 = k0 at *
      go_enter Tryz.func48, Tryz.ntmps48
      go_wp2
      go_ret
      exact ⟨ret_str H.out, by go_grown⟩
    · have H : Hid (ByteArray.empty = embName W t) := by show _ = _; simp only [embName, hto, hn]; rw [if_neg]; omega
      clear hto
      generalize t.kid 0 = k0 at *
      go_enter Tryz.func48, Tryz.ntmps48
      go_wp2
      go_ret
      exact ⟨ret_str H.out, by go_grown⟩
    · have H : Hid ((W.decl (t.kid 0).sz.toNat).name = embName W t) := by show _ = _; simp only [embName, hto, hn]; rw [if_pos]; exact ⟨trivial, hz, hz2⟩
      obtain ⟨b2, off2, ka', kc', hda, d0, d1, d2, d3, d4, d5, d6, d7, hf, hk⟩ := HD.out.at_ (t.kid 0).sz.toNat _ (decl_at (by omega))
      subst hda
      have hb2 := World.block_lt_of_cell? w _ d1
      simp only at hb2
      clear d0 d2 d3 d4 d5 d6 d7 hf hk hto
      generalize t.kid 0 = k0 at *
      generalize (W.decl k0.sz.toNat).name = nn at *
      go_enter Tryz.func48, Tryz.ntmps48
      go_wp2
      go_ret
      exact ⟨ret_str H.out, by go_grown⟩
  all_goals
    have hto : embTo t = t := by simp [embTo, *]
    have e1' := e1
    clear HK
  · have e2' : ((t.kids.length : Int) == 1) = false := by simp; omega
    have hn : ¬ t.kd.toList = [110, 97, 109, 101, 100] := by rw [e1]; decide
    have H : Hid (ByteArray.empty = embName W t) := by show _ = _; simp [embName, hto, hn]
    clear hto hn e2
    go_enter Tryz.func48, Tryz.ntmps48
    go_wp2
    go_ret
    exact ⟨ret_str H.out, by go_grown⟩
  · have e1'' : (t.kd.toList == [112, 111, 105, 110, 116, 101, 114]) = false := by simp [e1]
    rcases sz_cases t W.decls.length with hn | ⟨hn, hz⟩ | ⟨hn, hz, hz2⟩ | ⟨hn, hz, hz2⟩
    · have H : Hid (ByteArray.empty = embName W t) := by show _ = _; simp [embName, hto, hn]
      have hn' : (t.kd.toList == [110, 97, 109, 101, 100]) = false := by simp [hn]
      clear hto
      go_enter Tryz.func48, Tryz.ntmps48
      go_wp2
      go_ret
      exact ⟨ret_str H.out, by go_grown⟩
    · have H : Hid (ByteArray.empty = embName W t) := by show _ = _; simp only [embName, hto, hn]; rw [if_neg]; omega
      clear hto
      go_enter Tryz.func48, Tryz.ntmps48
      go_wp2
      go_ret
      exact ⟨ret_str H.out, by go_grown⟩
    · have H : Hid (ByteArray.empty = embName W t) := by show _ = _; simp only [embName, hto, hn]; rw [if_neg]; omega
      clear hto
      go_enter Tryz.func48, Tryz.ntmps48
      go_wp2
      go_ret
      exact ⟨ret_str H.out, by go_grown⟩
    · have H : Hid ((W.decl t.sz.toNat).name = embName W t) := by show _ = _; simp only [embName, hto, hn]; rw [if_pos]; exact ⟨trivial, hz, hz2⟩
      obtain ⟨b2, off2, ka', kc', hda, d0, d1, d2, d3, d4, d5, d6, d7, hf, hk⟩ := HD.out.at_ t.sz.toNat _ (decl_at (by omega))
      subst hda
      have hb2 := World.block_lt_of_cell? w _ d1
      simp only at hb2
      clear d0 d2 d3 d4 d5 d6 d7 hf hk hto
      generalize (W.decl t.sz.toNat).name = nn at *
      go_enter Tryz.func48, Tryz.ntmps48
      go_wp2
      go_ret
      exact ⟨ret_str H.out, by go_grown⟩

end Go.Proofs.YtipmpeekfajlcaaGreatDoor
