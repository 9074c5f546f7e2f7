/- What is proved: words for the names and the declared types that impl's build makes, and how they lie behind each step. Conditions: none. -/
import Derived.Test.YtipmpeekfajlcaaGreatDoorIa
import Derived.Test.YtipmpeekfajlcaaGreatDoorGn
namespace Go.Proofs.YtipmpeekfajlcaaGreatDoor
open Go.RowKit Go.Proofs

/-- The block that a value of a row leads to. -/
def blk : Value → Option Nat
  | .pointer (some a) => some a.block
  | .iface _ (.pointer (some a)) => some a.block
  | _ => none
/-- No two values of the row lead to one block. -/
def Dist (xs : List Value) : Prop := ∀ (j j' : Nat) (v v' : Value) (b : Nat), j ≠ j' → xs[j]? = some v → xs[j']? = some v' → blk v = some b → blk v' = some b → False
theorem Dist.nil : Dist [] := fun j j' v v' b _ h => by simp at h
theorem Dist.push {xs : List Value} {k : Nat} {v : Value} (h : Dist xs) (hl : xs.length = k) (hn : ∀ j u b, j < k → xs[j]? = some u → blk u = some b → blk v = some b → False) : Dist (xs ++ [v]) := by
  have at_ : ∀ j u, (xs ++ [v])[j]? = some u → (j < k ∧ xs[j]? = some u) ∨ (j = k ∧ u = v) := fun j u e => by
    rcases Nat.lt_or_ge j k with h1 | h1
    · rw [List.getElem?_append_left (by omega)] at e
      exact .inl ⟨h1, e⟩
    · rw [List.getElem?_append_right (by omega)] at e
      rcases Nat.lt_or_ge (j - xs.length) 1 with h2 | h2
      · have : j - xs.length = 0 := by omega
        rw [this] at e
        simp at e
        exact .inr ⟨by omega, e.symm⟩
      · rw [List.getElem?_eq_none (by simpa using h2)] at e
        cases e
  intro j j' u u' b hne h1 h2 h3 h4
  rcases at_ j u h1 with ⟨a1, a2⟩ | ⟨rfl, rfl⟩
  · rcases at_ j' u' h2 with ⟨b1, b2⟩ | ⟨rfl, rfl⟩
    · exact h j j' u u' b hne a2 b2 h3 h4
    · exact hn j u b a1 a2 h3 h4
  · rcases at_ j' u' h2 with ⟨b1, b2⟩ | ⟨rfl, rfl⟩
    · exact hn j' u' b b1 b2 h4 h3
    · exact hne rfl

/-- The name of a declared type lies; fresh: it has no type yet. -/
def NameP (W : WorldD) (B : Nat) (fresh : Nat → Prop) (w : World) (j vb : Nat) : Prop := ∃ cs q, w.heap[vb]? = some (Obj.cells cs 106 (0, 0)) ∧ 4 < cs.size ∧ cs[0]? = some (.pointer none) ∧ cs[2]? = some (.pointer q) ∧ cs[3]? = some (.string (W.decl j).name) ∧
  PkgQ W B w (W.decl j).pkg q ∧ B ≤ vb ∧ (fresh j → cs[4]? = some .nilIface)
theorem NameP.fix {W : WorldD} {B : Nat} {fr : Nat → Prop} {w w' : World} {e : TypeId} (hf : Fix e w w') (h0 : 106 ≠ e) (h1 : 101 ≠ e) (h2 : 164 ≠ e) {j vb : Nat} (h : NameP W B fr w j vb) : NameP W B fr w' j vb := by
  obtain ⟨cs, q, a1, a2, a3, a4, a5, a6, a7, a8⟩ := h
  exact ⟨cs, q, hf _ _ _ a1 h0, a2, a3, a4, a5, a6.fix hf h1 h2, a7, a8⟩
theorem NameP.lt {W : WorldD} {B : Nat} {fr : Nat → Prop} {w : World} {j vb : Nat} (h : NameP W B fr w j vb) : vb < w.heap.size := by
  obtain ⟨cs, q, a1, _⟩ := h
  exact (Array.getElem?_eq_some_iff.1 a1).1

/-- The declared types in their row, of which those below i are whole. -/
def DeclR (W : WorldD) (B : Nat) (S : Nat → Prop) (i : Nat) (w : World) (zs : List Value) (k : Nat) : Prop := ∀ j, j < k →
  ((W.decl j).ali = false → ∃ nb ob, zs[j]? = some (.iface 70 (.pointer (some ⟨nb, 0, none⟩))) ∧ B ≤ nb ∧ (i ≤ j → w.heap[nb]? = some (Obj.cells (namedCells ob true) 119 (0, 0)))) ∧
  ((W.decl j).ali = true → (i ≤ j → zs[j]? = some .nilIface) ∧ (j < i → ∃ ab, zs[j]? = some (.iface 75 (.pointer (some ⟨ab, 0, none⟩))) ∧ S ab))
theorem DeclR.fix {W : WorldD} {B : Nat} {S : Nat → Prop} {i : Nat} {w w' : World} {e : TypeId} {zs : List Value} {k : Nat} (h : DeclR W B S i w zs k) (hf : Fix e w w') (he : 119 ≠ e) : DeclR W B S i w' zs k := fun j hj => by
  refine ⟨fun ha => ?_, (h j hj).2⟩
  obtain ⟨nb, ob, a1, a2, a3⟩ := (h j hj).1 ha
  exact ⟨nb, ob, a1, a2, fun hi => hf _ _ _ (a3 hi) he⟩

/-- How made lies while it is being built: the packages; kn names; kd declared types, of which those below i are whole. -/
structure St (W : WorldD) (B mb bw : Nat) (bc : Array Value) (S fr : Nat → Prop) (i kn kd : Nat) (w : World) (vp vn vd : Value) (xs ys zs : List Value) : Prop where
  m : M3 w mb vp vn vd
  hx : w.heap[bw]? = some (Obj.cells bc 25 (0, 0))
  ox : w.ownsRow B 64 1 vp W.pkgs.length xs
  rx : RowP w xs W.pkgs.length (PkgP W B)
  oy : w.ownsRow B 66 1 vn kn ys
  ry : RowP w ys kn (NameP W B fr)
  dy : Dist ys
  oz : w.ownsRow B 73 1 vd kd zs
  rz : DeclR W B S i w zs kd
  dz : Dist zs
section
variable {W : WorldD} {B mb bw : Nat} {bc : Array Value} {S fr : Nat → Prop} {i kn kd : Nat} {w w' : World} {vp vn vd : Value} {xs ys zs : List Value}
theorem St.below (h : St W B mb bw bc S fr i kn kd w vp vn vd xs ys zs) (hb : Below w.heap.size w w') : St W B mb bw bc S fr i kn kd w' vp vn vd xs ys zs :=
  have hf := Fix.below (e := 0) hb
  ⟨h.m.below hb, hf _ _ _ h.hx (by decide), ownsRow_below h.ox hb, h.rx.keep fun j vb => PkgP.fix hf (by decide) (by decide), ownsRow_below h.oy hb, h.ry.keep fun j vb => NameP.fix hf (by decide) (by decide) (by decide), h.dy, ownsRow_below h.oz hb, h.rz.fix hf (by decide), h.dz⟩
theorem St.drew (h : St W B mb bw bc S fr i kn kd w vp vn vd xs ys zs) : St W B mb bw bc S fr i kn kd w.drew vp vn vd xs ys zs := h.below (Below.refl _ _).drew

/-- A name is appended to its row. -/
theorem St.name {w5 : World} {b0 g cap : Nat} (h : St W B mb bw bc S fr i kn kd w vp vn vd xs ys zs) (hn : NameP W B fr w kn b0) (hnew : ∀ j vb, j < kn → ys[j]? = some (.pointer (some ⟨vb, 0, none⟩)) → vb ≠ b0)
    (hown : w5.ownsRow B 66 1 (.slice (some ⟨g, 0, none⟩) (kn + 1) cap) (kn + 1) (ys ++ [.pointer (some ⟨b0, 0, none⟩)])) (hg : (w.alloc (.cells #[.pointer (some ⟨b0, 0, none⟩)] 66)).grownBy w5 vn.ownBlock) :
    M3 w5 mb vp vn vd ∧ St W B mb bw bc S fr i (kn + 1) kd (w5.setCell ⟨mb, 1, none⟩ (.slice (some ⟨g, 0, none⟩) (kn + 1) cap)) vp (.slice (some ⟨g, 0, none⟩) (kn + 1) cap) vd xs (ys ++ [.pointer (some ⟨b0, 0, none⟩)]) zs := by
  have hf := (Fix.alloc 66 w (.cells #[.pointer (some ⟨b0, 0, none⟩)] 66)).trans (Fix.grown (h.oy.alloc _) hg)
  have hm5 := h.m.fix hf (by decide)
  have hs := Fix.setCell hm5 1 (.slice (some ⟨g, 0, none⟩) (kn + 1) cap)
  have ox5 := (h.ox.alloc _).kept hg (ownsRow_apart h.ox h.oy (by decide))
  have oz5 := (h.oz.alloc _).kept hg (ownsRow_apart h.oz h.oy (by decide))
  refine ⟨hm5, hm5.set1 _, hs _ _ _ (hf _ _ _ h.hx (by decide)) (by decide), own_setCell ox5 hm5 (by decide) 1 _, h.rx.keep fun j vb a => (PkgP.fix hs (by decide) (by decide) (PkgP.fix hf (by decide) (by decide) a)), own_setCell hown hm5 (by decide) 1 _, ?_, ?_, own_setCell oz5 hm5 (by decide) 1 _, (h.rz.fix hf (by decide)).fix hs (by decide), h.dz⟩
  · exact (RowP.push (h.ry.keep fun j vb a => NameP.fix hf (by decide) (by decide) (by decide) a) (by have := h.oy.1; omega) (NameP.fix hf (by decide) (by decide) (by decide) hn)).keep fun j vb a => NameP.fix hs (by decide) (by decide) (by decide) a
  · refine h.dy.push (k := kn) (by have := h.oy.1; omega) fun j u b hj e1 e2 e3 => ?_
    obtain ⟨vb, e4, _⟩ := h.ry j hj
    rw [e4] at e1
    cases e1
    simp only [blk, Option.some.injEq] at e2 e3
    exact hnew j vb hj e4 (e2.trans e3.symm)

/-- A declared type, or nothing for an alias, is appended to its row. -/
theorem St.decl {w5 : World} {g cap : Nat} {v : Value} (h : St W B mb bw bc S fr 0 kn kd w vp vn vd xs ys zs)
    (hv : ((W.decl kd).ali = false → ∃ nb ob, v = .iface 70 (.pointer (some ⟨nb, 0, none⟩)) ∧ B ≤ nb ∧ w.heap[nb]? = some (Obj.cells (namedCells ob true) 119 (0, 0)) ∧ ∀ j u, j < kd → zs[j]? = some u → blk u ≠ some nb) ∧ ((W.decl kd).ali = true → v = .nilIface))
    (hown : w5.ownsRow B 73 1 (.slice (some ⟨g, 0, none⟩) (kd + 1) cap) (kd + 1) (zs ++ [v])) (hg : (w.alloc (.cells #[v] 73)).grownBy w5 vd.ownBlock) :
    M3 w5 mb vp vn vd ∧ St W B mb bw bc S fr 0 kn (kd + 1) (w5.setCell ⟨mb, 2, none⟩ (.slice (some ⟨g, 0, none⟩) (kd + 1) cap)) vp vn (.slice (some ⟨g, 0, none⟩) (kd + 1) cap) xs ys (zs ++ [v]) := by
  have hf := (Fix.alloc 73 w (.cells #[v] 73)).trans (Fix.grown (h.oz.alloc _) hg)
  have hm5 := h.m.fix hf (by decide)
  have hs := Fix.setCell hm5 2 (.slice (some ⟨g, 0, none⟩) (kd + 1) cap)
  have ox5 := (h.ox.alloc _).kept hg (ownsRow_apart h.ox h.oz (by decide))
  have oy5 := (h.oy.alloc _).kept hg (ownsRow_apart h.oy h.oz (by decide))
  have hl : zs.length = kd := by have := h.oz.1; omega
  refine ⟨hm5, hm5.set2 _, hs _ _ _ (hf _ _ _ h.hx (by decide)) (by decide), own_setCell ox5 hm5 (by decide) 2 _, h.rx.keep fun j vb a => (PkgP.fix hs (by decide) (by decide) (PkgP.fix hf (by decide) (by decide) a)), own_setCell oy5 hm5 (by decide) 2 _, ?_, h.dy, own_setCell hown hm5 (by decide) 2 _, ?_, ?_⟩
  · exact h.ry.keep fun j vb a => NameP.fix hs (by decide) (by decide) (by decide) (NameP.fix hf (by decide) (by decide) (by decide) a)
  · intro j hj
    rcases Nat.lt_or_ge j kd with h1 | h1
    · have h2 := (h.rz.fix hf (by decide)).fix hs (by decide) j h1
      refine ⟨fun ha => ?_, fun ha => ⟨fun hi => ?_, fun hi => absurd hi (Nat.not_lt_zero _)⟩⟩
      · obtain ⟨nb, ob, a1, a2, a3⟩ := h2.1 ha
        exact ⟨nb, ob, by rw [List.getElem?_append_left (by omega)]; exact a1, a2, a3⟩
      · rw [List.getElem?_append_left (by omega)]
        exact (h2.2 ha).1 hi
    · obtain rfl : j = kd := by omega
      have h3 : (zs ++ [v])[j]? = some v := by rw [List.getElem?_append_right (by omega)]; simp [hl]
      refine ⟨fun ha => ?_, fun ha => ⟨fun _ => ?_, fun hi => absurd hi (Nat.not_lt_zero _)⟩⟩
      · obtain ⟨nb, ob, rfl, a2, a3, _⟩ := hv.1 ha
        exact ⟨nb, ob, h3, a2, fun _ => hs _ _ _ (hf _ _ _ a3 (by decide)) (by decide)⟩
      · rw [h3, hv.2 ha]
  · refine h.dz.push hl fun j u b hj e1 e2 e3 => ?_
    cases ha : (W.decl kd).ali with
    | true => rw [hv.2 ha] at e3; cases e3
    | false =>
      obtain ⟨nb, ob, rfl, _, _, a4⟩ := hv.1 ha
      simp only [blk, Option.some.injEq] at e3
      exact a4 j u hj e1 (by rw [e2, e3])
end

/-- NewTypeName, by what it leaves. -/
theorem newTypeName_b (p : Option Addr) (n : ByteArray) (w : World) : Calls Tryz.prog 29 #[.int .i64 0, .pointer p, .string n, .nilIface] w fun e w' => e = .returned (.pointer (some ⟨w.heap.size, 0, none⟩)) ∧
    w'.heap[w.heap.size]? = some (Obj.cells #[.pointer none, .int .i64 0, .pointer p, .string n, .nilIface, .int .u32 0, .int .i64 0] 106) ∧ Below w.heap.size w w' :=
  (newTypeName_any p n w).mono fun e w' ⟨h1, h2⟩ => ⟨h1, by rw [← h2]; exact World.alloc_heap_new w _, by rw [← h2]; exact (Below.refl _ _).alloc (Nat.le_refl _) _⟩

theorem Fix.but {w w' : World} {b : Nat} {cs : Array Value} {e : TypeId} (h : w.heap[b]? = some (Obj.cells cs e (0, 0))) (hg : w.grownBy w' (some b)) : Fix e w w' := fun k cs' T hk hT => by
  refine (hg.block k (Array.getElem?_eq_some_iff.1 hk).1 ?_).trans hk
  intro e0
  cases e0
  rw [h] at hk
  cases hk
  exact hT rfl
theorem own_but {w w' : World} {b B n : Nat} {cs : Array Value} {e T : TypeId} {v : Value} {xs : List Value} (ho : w.ownsRow B e 1 v n xs) (h : w.heap[b]? = some (Obj.cells cs T (0, 0))) (hT : T ≠ e) (hg : w.grownBy w' (some b)) : w'.ownsRow B e 1 v n xs := by
  refine ho.kept hg ?_
  rcases ho.2 with ⟨rfl, _⟩ | ⟨g, cap, cur, rfl, _, hg2, _⟩
  · exact .inl rfl
  · right
    intro e0
    simp only [Value.ownBlock, Option.some.injEq] at e0
    subst e0
    rw [h] at hg2
    cases hg2
    exact hT rfl

/-- The type of the k-th name is set. -/
theorem St.named {W : WorldD} {B mb bw : Nat} {bc : Array Value} {S fr fr' : Nat → Prop} {i kn kd k ob : Nat} {w w' : World} {vp vn vd u : Value} {xs ys zs : List Value} {cs : Array Value} (h : St W B mb bw bc S fr i kn kd w vp vn vd xs ys zs) (hk : k < kn) (hob : ys[k]? = some (.pointer (some ⟨ob, 0, none⟩))) (hcs : w.heap[ob]? = some (Obj.cells cs 106 (0, 0)))
    (hg : w.grownBy w' (some ob)) (hh : w'.heap[ob]? = some (Obj.cells (cs.setIfInBounds 4 u) 106 (0, 0))) (hfr : ∀ j, j ≠ k → fr' j → fr j) (hfk : ¬ fr' k) : St W B mb bw bc S fr' i kn kd w' vp vn vd xs ys zs := by
  have hf := Fix.but hcs hg
  refine ⟨h.m.fix hf (by decide), hf _ _ _ h.hx (by decide), own_but h.ox hcs (by decide) hg, h.rx.keep fun j vb => PkgP.fix hf (by decide) (by decide), own_but h.oy hcs (by decide) hg, ?_, h.dy, own_but h.oz hcs (by decide) hg, h.rz.fix hf (by decide), h.dz⟩
  intro j hj
  obtain ⟨vb, e1, cs1, q, a1, a2, a3, a4, a5, a6, a7, a8⟩ := h.ry j hj
  by_cases e : j = k
  · subst e
    rw [hob] at e1
    cases e1
    rw [hcs] at a1
    cases a1
    exact ⟨ob, hob, _, q, hh, by simpa using a2, by simpa [Array.getElem?_setIfInBounds] using a3, by simpa [Array.getElem?_setIfInBounds] using a4, by simpa [Array.getElem?_setIfInBounds] using a5, a6.fix hf (by decide) (by decide), a7, fun h => absurd h hfk⟩
  · refine ⟨vb, e1, cs1, q, ?_, a2, a3, a4, a5, a6.fix hf (by decide) (by decide), a7, fun h => a8 (hfr j e h)⟩
    refine (hg.block vb (Array.getElem?_eq_some_iff.1 a1).1 ?_).trans a1
    intro e0
    cases e0
    exact h.dy j k _ _ ob e e1 hob rfl rfl

/-- NewNamed, by what it leaves. -/
theorem newNamed_b (ob : Nat) (cs : Array Value) (w : World) (hcs : w.heap[ob]? = some (Obj.cells cs 106 (0, 0))) (h4 : cs[4]? = some .nilIface) :
    Calls Tryz.prog 31 #[.pointer (some ⟨ob, 0, none⟩), .nilIface, .slice none 0 0] w fun e w' => e = .returned (.pointer (some ⟨w.heap.size, 0, none⟩)) ∧ w'.heap[w.heap.size]? = some (Obj.cells (namedCells ob true) 119 (0, 0)) ∧
      w.grownBy w' (some ob) ∧ w'.heap[ob]? = some (Obj.cells (cs.setIfInBounds 4 (.iface 70 (.pointer (some ⟨w.heap.size, 0, none⟩)))) 106 (0, 0)) := by
  have hl := (Array.getElem?_eq_some_iff.1 hcs).1
  refine (newNamed_any ob w (by simp [World.cell?, hcs, h4]) (by simp [World.frozen?, hcs])).mono fun e w' ⟨h1, h2⟩ => ⟨h1, ?_, ?_, ?_⟩
  · rw [← h2]
    have h := World.alloc_heap_new (w.setCell ⟨ob, 4, none⟩ (.iface 70 (.pointer (some ⟨w.heap.size, 0, none⟩)))) (.cells (namedCells ob true) 119)
    rw [setCell_size] at h
    exact h
  · rw [← h2]
    exact (but_setCell w ob 4 _).trans (World.grownBy_alloc _ _ _)
  · rw [← h2]
    show ((w.setCell ⟨ob, 4, none⟩ _).alloc _).heap[ob]? = _
    rw [Below.heap_alloc _ _ _ (by rw [setCell_size]; exact hl)]
    exact setCell_heap_same w ob 4 _ hcs

end Go.Proofs.YtipmpeekfajlcaaGreatDoor
