/- What is proved: how made lies behind a round in which a declared type gets its type. Conditions: none. -/
import Derived.Test.YtipmpeekfajlcaaGreatDoorIc
import Derived.Test.YtipmpeekfajlcaaGreatDoorGl
namespace Go.Proofs.YtipmpeekfajlcaaGreatDoor
open Go.RowKit Go.Proofs

@[go_sem] theorem as70_70x (v : Value) (w : World) : (Instr.typeAssert (.iface 70 v) 73 70 false).run Tryz.prog w = .ok v w := by kernel_rfl

/-- The aliases' blocks. -/
def AliB (B : Nat) (S : Nat → Prop) (w : World) : Prop := ∀ b, S b → B ≤ b ∧ ∃ cs, w.heap[b]? = some (Obj.cells cs 188 (0, 0))
theorem AliB.fix {B : Nat} {S : Nat → Prop} {w w' : World} {e : TypeId} (h : AliB B S w) (hf : Fix e w w') (he : 188 ≠ e) : AliB B S w' := fun b hb => by
  obtain ⟨h1, cs, h2⟩ := h b hb
  exact ⟨h1, cs, hf _ _ _ h2 he⟩
theorem AliasesV.fix {B : Nat} {S : Nat → Prop} {w w' : World} {e : TypeId} (h : AliasesV w S) (ha : AliB B S w) (hf : Fix e w w') (he : 188 ≠ e) : AliasesV w' S := fun b hb => by
  obtain ⟨T, v, h1, h2⟩ := h b hb
  obtain ⟨_, cs, h3⟩ := ha b hb
  refine ⟨T, v, ?_, h2⟩
  have h4 := hf _ _ _ h3 he
  simp only [World.cell?, h3] at h1
  simp only [World.cell?, h4]
  exact h1

/-- What typ may give for a declared type that has been made. -/
def QS (S : Nat → Prop) (T : TypeId) (x : Value) : Prop := T = 70 ∨ (T = 75 ∧ ∃ b', x = .pointer (some ⟨b', 0, none⟩) ∧ S b')

section
variable {W : WorldD} {B mb bw : Nat} {bc : Array Value} {S fr fr' : Nat → Prop} {i kn kd : Nat} {w w' : World} {vp vn vd : Value} {xs ys zs : List Value}

theorem St.free (h : St W B mb bw bc S fr i kn kd w vp vn vd xs ys zs) (hf : ∀ j, fr' j → fr j) : St W B mb bw bc S fr' i kn kd w vp vn vd xs ys zs :=
  ⟨h.m, h.hx, h.ox, h.rx, h.oy, fun j hj => by obtain ⟨vb, e, cs, q, a1, a2, a3, a4, a5, a6, a7, a8⟩ := h.ry j hj; exact ⟨vb, e, cs, q, a1, a2, a3, a4, a5, a6, a7, fun h => a8 (hf j h)⟩, h.dy, h.oz, h.rz, h.dz⟩

theorem St.declsAt (h : St W B mb bw bc S fr i kn W.decls.length w vp vn vd xs ys zs) : DeclsAt w mb W i (QS S) := fun j hj hc => by
  obtain ⟨g, cap, hv, _, _⟩ := h.oz.form (by omega)
  have hoz := h.oz
  rw [hv] at hoz
  have hcell := hoz.cellAt j (by omega)
  cases ha : (W.decl j).ali with
  | false =>
    obtain ⟨nb, ob, a1, _, _⟩ := (h.rz j hj).1 ha
    exact ⟨g, cap, 70, _, by rw [← hv]; exact h.m.c2, hcell.trans a1, .inl rfl⟩
  | true =>
    have hi : j < i := by
      rcases hc with hc | hc
      · omega
      · rw [ha] at hc; cases hc
    obtain ⟨ab, a1, a2⟩ := ((h.rz j hj).2 ha).2 hi
    exact ⟨g, cap, 75, _, by rw [← hv]; exact h.m.c2, hcell.trans a1, .inr ⟨rfl, ab, rfl, a2⟩⟩

/-- A declared type that is no alias has got its type. -/
theorem St.under {k nb ob : Nat} (h : St W B mb bw bc S fr k kn kd w vp vn vd xs ys zs) (_hk : k < kd) (ha : (W.decl k).ali = false) (hz : zs[k]? = some (.iface 70 (.pointer (some ⟨nb, 0, none⟩)))) (hnb : w.heap[nb]? = some (Obj.cells (namedCells ob true) 119 (0, 0)))
    (hg : w.grownBy w' (some nb)) : St W B mb bw bc S fr (k + 1) kn kd w' vp vn vd xs ys zs := by
  have hf := Fix.but hnb hg
  refine ⟨h.m.fix hf (by decide), hf _ _ _ h.hx (by decide), own_but h.ox hnb (by decide) hg, h.rx.keep fun j vb => PkgP.fix hf (by decide) (by decide), own_but h.oy hnb (by decide) hg, h.ry.keep fun j vb => NameP.fix hf (by decide) (by decide) (by decide), h.dy, own_but h.oz hnb (by decide) hg, ?_, h.dz⟩
  intro j hj
  refine ⟨fun hj2 => ?_, fun hj2 => ⟨fun hi => ((h.rz j hj).2 hj2).1 (by omega), fun hi => ((h.rz j hj).2 hj2).2 ?_⟩⟩
  · obtain ⟨nb', ob', a1, a2, a3⟩ := (h.rz j hj).1 hj2
    refine ⟨nb', ob', a1, a2, fun hi => ?_⟩
    have h3 := a3 (by omega)
    refine (hg.block nb' (Array.getElem?_eq_some_iff.1 h3).1 ?_).trans h3
    intro e0
    cases e0
    exact h.dz j k _ _ nb (by omega) a1 hz rfl rfl
  · rcases Nat.lt_or_ge j k with h1 | h1
    · exact h1
    · obtain rfl : j = k := by omega
      rw [ha] at hj2
      cases hj2

/-- An alias has been made. -/
theorem St.ali {k ob gd cap ab : Nat} {cs : Array Value} {u : Value} (h : St W B mb bw bc S (fun j => (W.decl j).ali = true ∧ k ≤ j) k kn kd w vp vn (.slice (some ⟨gd, 0, none⟩) kd cap) xs ys zs) (hk : k < kd) (hkn : k < kn) (ha : (W.decl k).ali = true)
    (hob : ys[k]? = some (.pointer (some ⟨ob, 0, none⟩))) (hcs : w.heap[ob]? = some (Obj.cells cs 106 (0, 0))) (hg : w.grownBy w' (some ob)) (hh : w'.heap[ob]? = some (Obj.cells (cs.setIfInBounds 4 u) 106 (0, 0))) (hab : ∀ j u, j < kd → zs[j]? = some u → blk u ≠ some ab) :
    St W B mb bw bc (fun b => S b ∨ b = ab) (fun j => (W.decl j).ali = true ∧ k + 1 ≤ j) (k + 1) kn kd (w'.setCell ⟨gd, k, none⟩ (.iface 75 (.pointer (some ⟨ab, 0, none⟩)))) vp vn (.slice (some ⟨gd, 0, none⟩) kd cap) xs ys (zs.set k (.iface 75 (.pointer (some ⟨ab, 0, none⟩)))) := by
  have h1 := h.named (fr' := fun j => (W.decl j).ali = true ∧ k + 1 ≤ j) hkn hob hcs hg hh (fun j _ hj => ⟨hj.1, by omega⟩) (fun hj => by omega)
  obtain ⟨hst, hgs⟩ := h1.oz.stored k (.iface 75 (.pointer (some ⟨ab, 0, none⟩)))
  have hrow : ∃ cur, w'.heap[gd]? = some (Obj.cells cur 73 (0, 0)) := by
    rcases h1.oz.2 with ⟨e, _⟩ | ⟨g', cap', cur, hv, _, hg2, _⟩
    · cases e
    · cases hv; exact ⟨cur, hg2⟩
  obtain ⟨cur, hcur⟩ := hrow
  have hf := Fix.but hcur hgs
  have hzl : zs.length = kd := by have := h.oz.1; omega
  refine ⟨h1.m.fix hf (by decide), hf _ _ _ h1.hx (by decide), own_but h1.ox hcur (by decide) hgs, h1.rx.keep fun j vb => PkgP.fix hf (by decide) (by decide), own_but h1.oy hcur (by decide) hgs, h1.ry.keep fun j vb => NameP.fix hf (by decide) (by decide) (by decide), h1.dy, hst, ?_, ?_⟩
  · intro j hj
    by_cases e : j = k
    · subst e
      refine ⟨fun h2 => absurd (ha.symm.trans h2) (by simp), fun _ => ⟨fun hi => by omega, fun _ => ⟨ab, ?_, .inr rfl⟩⟩⟩
      rw [List.getElem?_set_self (by omega)]
    · have e2 : (zs.set k (.iface 75 (.pointer (some ⟨ab, 0, none⟩))))[j]? = zs[j]? := List.getElem?_set_ne (fun h => e h.symm)
      rw [e2]
      refine ⟨fun h2 => ?_, fun h2 => ⟨fun hi => ((h1.rz j hj).2 h2).1 (by omega), fun hi => ?_⟩⟩
      · obtain ⟨nb, ob', a1, a2, a3⟩ := (h1.rz j hj).1 h2
        exact ⟨nb, ob', a1, a2, fun hi => hf _ _ _ (a3 (by omega)) (by decide)⟩
      · obtain ⟨ab', a1, a2⟩ := ((h1.rz j hj).2 h2).2 (by omega)
        exact ⟨ab', a1, .inl a2⟩
  · intro j j' v v' b hne e1 e2 e3 e4
    have key : ∀ (j : Nat) (v : Value), (zs.set k (.iface 75 (.pointer (some ⟨ab, 0, none⟩))))[j]? = some v → (j = k ∧ blk v = some ab) ∨ (j ≠ k ∧ zs[j]? = some v) := fun j v e => by
      by_cases hjk : j = k
      · subst hjk
        rw [List.getElem?_set_self (by omega)] at e
        cases e
        exact .inl ⟨rfl, rfl⟩
      · rw [List.getElem?_set_ne (fun h => hjk h.symm)] at e
        exact .inr ⟨hjk, e⟩
    rcases key j v e1 with ⟨rfl, b1⟩ | ⟨n1, b1⟩
    · rcases key j' v' e2 with ⟨rfl, _⟩ | ⟨n2, b2⟩
      · exact hne rfl
      · rw [b1] at e3
        cases e3
        exact hab j' v' (by have := (List.getElem?_eq_some_iff.1 b2).1; omega) b2 e4
    · rcases key j' v' e2 with ⟨rfl, b2⟩ | ⟨n2, b2⟩
      · rw [b2] at e4
        cases e4
        exact hab j v (by have := (List.getElem?_eq_some_iff.1 b1).1; omega) b1 e3
      · exact h1.dz j j' v v' b hne b1 b2 e3 e4
end

/-- NewAlias, by what it leaves. -/
theorem newAlias_b (B : Nat) (S : Nat → Prop) (ob : Nat) (cs : Array Value) (T : TypeId) (v : Value) (w : World) (hcs : w.heap[ob]? = some (Obj.cells cs 106 (0, 0))) (h4 : cs[4]? = some .nilIface) (hS : AliasesV w S) (hA : AliB B S w) (hB : B ≤ w.heap.size)
    (hT : (PlainT T ∨ T = 70) ∨ (T = 75 ∧ ∃ b', v = .pointer (some ⟨b', 0, none⟩) ∧ S b')) :
    Calls Tryz.prog 33 #[.pointer (some ⟨ob, 0, none⟩), .iface T v] w fun e w' => e = .returned (.pointer (some ⟨w.heap.size, 0, none⟩)) ∧ w.grownBy w' (some ob) ∧
      w'.heap[ob]? = some (Obj.cells (cs.setIfInBounds 4 (.iface 75 (.pointer (some ⟨w.heap.size, 0, none⟩)))) 106 (0, 0)) ∧ AliasesV w' (fun b => S b ∨ b = w.heap.size) ∧ AliB B (fun b => S b ∨ b = w.heap.size) w' ∧ w.heap.size < w'.heap.size := by
  have hl := (Array.getElem?_eq_some_iff.1 hcs).1
  refine (newAlias_any S ob T v w (by simp [World.cell?, hcs, h4]) (by simp [World.frozen?, hcs]) (fun h => by obtain ⟨_, cs', h'⟩ := hA ob h; rw [hcs] at h'; cases h') hS hT).mono fun e w' ⟨h1, U, x, h2⟩ => ⟨h1, ?_⟩
  have hnew : (aliasWorld ob (.iface T v) .nilIface w).heap[w.heap.size]? = some (Obj.cells #[.pointer (some ⟨ob, 0, none⟩), .pointer (some ⟨w.heap.size, 0, none⟩), .pointer none, .pointer none, .iface T v, .nilIface] 188 (0, 0)) := by
    have h := World.alloc_heap_new (w.setCell ⟨ob, 4, none⟩ (.iface 75 (.pointer (some ⟨w.heap.size, 0, none⟩)))) (.cells #[.pointer (some ⟨ob, 0, none⟩), .pointer (some ⟨w.heap.size, 0, none⟩), .pointer none, .pointer none, .iface T v, .nilIface] 188)
    rw [setCell_size] at h
    exact h
  have hn2 : w'.heap[w.heap.size]? = some (Obj.cells (#[.pointer (some ⟨ob, 0, none⟩), .pointer (some ⟨w.heap.size, 0, none⟩), .pointer none, .pointer none, .iface T v, .nilIface].setIfInBounds 5 (.iface U x)) 188 (0, 0)) := by
    rw [← h2]
    exact setCell_heap_same _ _ 5 _ hnew
  have hother : ∀ k, k < w.heap.size → k ≠ ob → w'.heap[k]? = w.heap[k]? := fun k hk hne => by
    rw [← h2, Below.heap_setCell _ _ _ _ (by simp only; omega)]
    show ((w.setCell ⟨ob, 4, none⟩ _).alloc _).heap[k]? = _
    rw [Below.heap_alloc _ _ _ (by rw [setCell_size]; exact hk), Below.heap_setCell _ _ _ _ hne]
  have hsz : w'.heap.size = w.heap.size + 1 := by
    rw [← h2, setCell_size]
    simp [aliasWorld]
  refine ⟨⟨?_, ?_, ?_, by omega, fun k hk hne => hother k hk (fun e => hne (by rw [e]))⟩, ?_, ?_, ?_, by omega⟩
  · rw [← h2]; rfl
  · rw [← h2]; rfl
  · rw [← h2]; rfl
  · rw [← h2, Below.heap_setCell _ _ _ _ (by simp only; omega)]
    show ((w.setCell ⟨ob, 4, none⟩ _).alloc _).heap[ob]? = _
    rw [Below.heap_alloc _ _ _ (by rw [setCell_size]; exact hl)]
    exact setCell_heap_same w ob 4 _ hcs
  · intro b hb
    rcases hb with hb | rfl
    · obtain ⟨T', v', a1, a2⟩ := hS b hb
      obtain ⟨_, cs', h'⟩ := hA b hb
      have hbl := (Array.getElem?_eq_some_iff.1 h').1
      have hbo : b ≠ ob := fun e => by subst e; rw [hcs] at h'; cases h'
      refine ⟨T', v', (World.cell?_of_block (hother b hbl hbo)).trans a1, ?_⟩
      rcases a2 with a2 | ⟨a2, b', a3, a4, a5⟩
      · exact .inl a2
      · exact .inr ⟨a2, b', a3, a4, .inl a5⟩
    · refine ⟨T, v, by simp [World.cell?, hn2], ?_⟩
      rcases hT with hT | ⟨hT, b', hv, hb'⟩
      · exact .inl hT
      · obtain ⟨_, cs', h'⟩ := hA b' hb'
        exact .inr ⟨hT, b', hv, (Array.getElem?_eq_some_iff.1 h').1, .inl hb'⟩
  · intro b hb
    rcases hb with hb | rfl
    · obtain ⟨h0, cs', h'⟩ := hA b hb
      have hbl := (Array.getElem?_eq_some_iff.1 h').1
      have hbo : b ≠ ob := fun e => by subst e; rw [hcs] at h'; cases h'
      exact ⟨h0, cs', (hother b hbl hbo).trans h'⟩
    · exact ⟨hB, _, hn2⟩

theorem namedAt_of {w : World} {nb ob : Nat} (h : w.heap[nb]? = some (Obj.cells (namedCells ob true) 119 (0, 0))) : NamedAt w nb := by
  refine ⟨⟨true, ?_⟩, ?_, ?_, ?_, ?_, ?_, fun i => ?_⟩
  all_goals first | (simp [World.cell?, h, namedCells]; done) | (simp [World.frozen?, h]; done)

end Go.Proofs.YtipmpeekfajlcaaGreatDoor
