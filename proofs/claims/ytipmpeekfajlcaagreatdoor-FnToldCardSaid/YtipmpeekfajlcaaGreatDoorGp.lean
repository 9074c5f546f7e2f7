/- What is proved: the contract of NewInterfaceType. Conditions: the methods lie, with function types of their own, their names are exported and increase. -/
import Derived.Test.YtipmpeekfajlcaaGreatDoorGi
import Derived.Test.YtipmpeekfajlcaaGreatDoorGl
import Derived.StillTailTactics
import Derived.Test.YtipmpeekfajlcaaGreatDoorHa
namespace Go.Proofs.YtipmpeekfajlcaaGreatDoor
open Go.RowKit Go.Proofs Go.Sort Go.BigFrame

/-- The methods that are handed to NewInterfaceType: the row, the functions, their function types, which lie at or above B. -/
def FuncsV (w : World) (B fb fo n : Nat) (nm : Nat → ByteArray) : Prop :=
  ∃ cf Tf, w.heap[fb]? = some (.cells cf Tf (0, 0)) ∧ Tf ≠ 205 ∧ ∀ i, i < n → ∃ vb cs sb c r, cf[fo + i]? = some (.pointer (some ⟨vb, 0, none⟩)) ∧ w.heap[vb]? = some (.cells cs 147 (0, 0)) ∧
    cs[1]? = some (.int .i64 0) ∧ cs[2]? = some (.pointer none) ∧ cs[3]? = some (.string (nm i)) ∧ cs[4]? = some (.iface 88 (.pointer (some ⟨sb, 0, none⟩))) ∧ w.heap[sb]? = some (.cells c 205 (0, 0)) ∧ c[2]? = some (.pointer r) ∧ B ≤ sb

theorem FuncsV.keep {w w' : World} {B fb fo n : Nat} {nm : Nat → ByteArray} (h : FuncsV w B fb fo n nm) (hb : Below w.heap.size w w') : FuncsV w' B fb fo n nm := by
  obtain ⟨cf, Tf, h1, h2, h3⟩ := h
  have k : ∀ {b : Nat} {o : Obj}, w.heap[b]? = some o → w'.heap[b]? = some o := fun {b o} e => (hb.block b (Array.getElem?_eq_some_iff.1 e).1).trans e
  refine ⟨cf, Tf, k h1, h2, fun i hi => ?_⟩
  obtain ⟨vb, cs, sb, c, r, a1, a2, a3, a4, a5, a6, a7, a8, a9⟩ := h3 i hi
  exact ⟨vb, cs, sb, c, r, a1, k a2, a3, a4, a5, a6, k a7, a8, a9⟩

theorem setCell_same (w : World) (b i : Nat) (v : Value) {c : Array Value} {T : TypeId} (h : w.heap[b]? = some (.cells c T (0, 0))) : (w.setCell ⟨b, i, none⟩ v).heap[b]? = some (.cells (c.setIfInBounds i v) T (0, 0)) := by
  simp only [World.setCell, Array.getElem?_modify]
  simp [h]

/-- A function type's receiver is set: the methods lie as they did. -/
theorem FuncsV.set {w : World} {B fb fo n : Nat} {nm : Nat → ByteArray} (h : FuncsV w B fb fo n nm) (sb : Nat) (p : Option Addr) {c : Array Value} (hs : w.heap[sb]? = some (.cells c 205 (0, 0))) (hc : 2 < c.size) : FuncsV (w.setCell ⟨sb, 2, none⟩ (.pointer p)) B fb fo n nm := by
  obtain ⟨cf, Tf, h1, h2, h3⟩ := h
  have k : ∀ {b : Nat} {cc : Array Value} {T : TypeId}, w.heap[b]? = some (.cells cc T (0, 0)) → T ≠ 205 → (w.setCell ⟨sb, 2, none⟩ (.pointer p)).heap[b]? = some (.cells cc T (0, 0)) := fun {b cc T} e hT => by
    rw [Below.heap_setCell _ _ _ _ (fun e2 => hT (by rw [e2] at e; rw [hs] at e; cases e; rfl))]
    exact e
  refine ⟨cf, Tf, k h1 h2, h2, fun i hi => ?_⟩
  obtain ⟨vb, cs, sb', c', r, a1, a2, a3, a4, a5, a6, a7, a8, a9⟩ := h3 i hi
  by_cases e : sb' = sb
  · subst e
    refine ⟨vb, cs, sb', _, p, a1, k a2 (by decide), a3, a4, a5, a6, setCell_same w sb' 2 _ hs, ?_, a9⟩
    simp [hc]
  · exact ⟨vb, cs, sb', c', r, a1, k a2 (by decide), a3, a4, a5, a6, (Below.heap_setCell _ _ _ _ e).trans a7, a8, a9⟩

theorem FuncsV.meths {w : World} {B fb fo n : Nat} {nm : Nat → ByteArray} (h : FuncsV w B fb fo n nm) (hn : ∀ i, i < n → nameB (nm i) = true ∧ bigB (nm i) = true) (hl : ∀ i, i + 1 < n → Op.bytesLess (nm i).toList (nm (i + 1)).toList = true) : MethsV w fb fo n nm := by
  obtain ⟨cf, Tf, h1, h2, h3⟩ := h
  refine ⟨fun i hi => ?_, hn, hl⟩
  obtain ⟨vb, cs, sb, c, r, a1, a2, a3, a4, a5, a6, a7, a8, a9⟩ := h3 i hi
  exact ⟨vb, by simp [World.cell?, h1, a1], cs, 147, a2, a5⟩

theorem allTermlist_any (w : World) : Calls Tryz.prog 108 #[] w fun e w' => (∃ b, e = .returned (.slice (some ⟨b, 0, none⟩) 1 1)) ∧ Below w.heap.size w w' := by
  go_enter Tryz.func108, Tryz.ntmps108
  go_wp2
  go_ret
  exact ⟨⟨_, rfl⟩, by go_grown⟩
theorem topTypeSet_any (w : World) : Calls Tryz.prog 93 #[] w fun e w' => (∃ b, e = .returned (.pointer (some ⟨b, 0, none⟩))) ∧ Below w.heap.size w w' := by
  go_enter Tryz.func93, Tryz.ntmps93
  go_wp2_with (go_at_call 108; refine (allTermlist_any _).mono ?_; rintro e w' ⟨⟨b, rfl⟩, hb⟩)
  go_ret
  exact ⟨⟨_, rfl⟩, hb.alloc hb.size _⟩
def ifaceCells : Array Value := #[.bool false, .pointer none, .slice none 0 0, .slice none 0 0, .pointer none, .bool false, .bool false, .pointer none]
theorem newInterface_any (w : World) : Calls Tryz.prog 94 #[.pointer none] w fun e w' => e = .returned (.pointer (some ⟨w.heap.size, 0, none⟩)) ∧ w.alloc (.cells ifaceCells 224) = w' := by
  go_enter Tryz.func94, Tryz.ntmps94
  go_wp2
  go_ret
  exact ⟨rfl, rfl⟩

/-- What NewInterfaceType leaves: a new interface; below B nothing has turned. -/
def IfaceGives (B : Nat) (w : World) (e : Ending) (w' : World) : Prop := (∃ b, e = .returned (.pointer (some ⟨b, 0, none⟩))) ∧ Below B w w'

set_option maxRecDepth 100000 in
set_option maxHeartbeats 4000000 in
theorem newIface_none (B : Nat) (a1 a2 : Option Addr) (c m : Nat) (w : World) (hB : B ≤ w.heap.size) : Calls Tryz.prog 78 #[.slice a1 0 c, .slice a2 0 m] w (IfaceGives B w) := by
  go_enter Tryz.func78, Tryz.ntmps78
  go_wp2_with (go_at_call 93; refine (topTypeSet_any _).mono ?_; rintro e w' ⟨⟨b, rfl⟩, hb⟩)
  go_ret
  exact ⟨⟨_, rfl⟩, (hb.mono hB).alloc (Nat.le_trans hB hb.size) _⟩

theorem iface_at {wr w1 : World} {b : Nat} (hi : wr.heap[b]? = some (Obj.cells ifaceCells 224)) (hb : Below wr.heap.size wr w1) :
    w1.cell? ⟨b, 2, none⟩ = some (.slice none 0 0) ∧ w1.cell? ⟨b, 3, none⟩ = some (.slice none 0 0) ∧ w1.cell? ⟨b, 6, none⟩ = some (.bool false) ∧ ∀ i, w1.frozen? ⟨b, i, none⟩ = false := by
  have h := (hb.block b (Array.getElem?_eq_some_iff.1 hi).1).trans hi
  refine ⟨?_, ?_, ?_, fun i => ?_⟩
  · simp [World.cell?, h, ifaceCells]
  · simp [World.cell?, h, ifaceCells]
  · simp [World.cell?, h, ifaceCells]
  · simp [World.frozen?, h]

theorem iface_keep {wr : World} {b sb : Nat} {c : Array Value} (hi : wr.heap[b]? = some (Obj.cells ifaceCells 224)) (hs : wr.heap[sb]? = some (Obj.cells c 205 (0, 0))) (v : Value) (o : Obj) :
    (((wr.setCell ⟨sb, 2, none⟩ v).alloc o).drew).heap[b]? = some (Obj.cells ifaceCells 224) := by
  have hne : ¬ b = sb := fun e => by subst e; rw [hi] at hs; cases hs
  show ((wr.setCell ⟨sb, 2, none⟩ v).alloc o).heap[b]? = _
  rw [Below.heap_alloc _ _ _ (by rw [setCell_size]; exact (Array.getElem?_eq_some_iff.1 hi).1), Below.heap_setCell _ _ _ _ hne]
  exact hi

theorem Kp.setCell {w0 w1 : World} {b : Nat} (h : Kp w0 (some b) w1) (i : Nat) (v : Value) : Kp w0 (some b) (w1.setCell ⟨b, i, none⟩ v) := h.grown (but_setCell _ _ _ _)
theorem PropsAt.keepB {w w' : World} {B : Nat} (h : PropsAt w) (hb : Below B w w') (h3 : 3 < B) : PropsAt w' := fun c hc => (hb.cell (p := ⟨3, c, none⟩) h3).trans (h c hc)

set_option maxRecDepth 100000 in
set_option maxHeartbeats 8000000 in
theorem newIface_some (B fb n c m c2 : Nat) (a2 : Option Addr) (nm : Nat → ByteArray) (w : World) (hB : B ≤ w.heap.size) (h3 : 3 < B) (hn : n ≤ 8) (hc : n ≤ c) (hc2 : c ≤ 9223372036854775807) (hF : FuncsV w B fb 0 n nm) (hp : PropsAt w)
    (hnb : ∀ i, i < n → nameB (nm i) = true ∧ bigB (nm i) = true) (hl : ∀ i, i + 1 < n → Op.bytesLess (nm i).toList (nm (i + 1)).toList = true)
    (hg : ((decide (n = 0)) && (decide (m = 0))) = false) :
    Calls Tryz.prog 78 #[.slice (some ⟨fb, 0, none⟩) n c, .slice a2 m c2] w (IfaceGives B w) := by
  have HP := Lib.hid hp; clear hp
  have HNB := Lib.hid hnb; clear hnb
  have HL := Lib.hid hl; clear hl
  have hb0 : Below B w (w.alloc (.cells ifaceCells 224)) := (Below.refl _ _).alloc hB _
  have HB0 := Lib.hid hb0
  have HF0 := Lib.hid (hF.keep ((Below.refl _ _).alloc (Nat.le_refl _) (.cells ifaceCells 224)))
  have HI0 : Hid ((w.alloc (.cells ifaceCells 224)).heap[w.heap.size]? = some (.cells ifaceCells 224)) := World.alloc_heap_new w _
  clear hF hb0
  by_cases hz : n = 0
  · subst hz
    have hm : ¬ m = 0 := by simpa using hg
    have hm2 : ((m : Int) == 0) = false := by simp [hm]
    go_enter Tryz.func78, Tryz.ntmps78
    go_wp2_with (go_at_call 94; refine (newInterface_any _).mono ?_; rintro e w' ⟨rfl, rfl⟩)
    generalize hW2 : w.alloc (.cells ifaceCells 224) = W2 at *
    clear hW2
    go_loopw [23] (fun i wr => ∃ k : Nat, k ≤ 0 ∧ i = .int .i64 k ∧ Below B w wr ∧ Hid (FuncsV wr B fb 0 0 nm) ∧ Hid (wr.heap[w.heap.size]? = some (.cells ifaceCells 224))) (fun i _ => 0 - (intOf i).toNat)
    case atStart => exact ⟨0, Nat.zero_le _, rfl, HB0.out, HF0, HI0⟩
    case round =>
      clear HF0 HI0 HB0
      obtain ⟨k, hk, rfl, hb, hf, hi⟩ := hrel
      have HB := Lib.hid hb
      have HM := Lib.hid (hf.out.meths HNB.out HL.out)
      clear hb
      go_wp2_with (go_at_call 95; refine (sortMethods_any fb 0 0 c nm _ hn hc hc2 HM.out (HP.out.keepB HB.out h3)).mono ?_; rintro e w1 ⟨⟨v, rfl⟩, hb1⟩; have q := iface_at hi.out hb1; have q2 := q.1; have q3 := q.2.1; have q6 := q.2.2.1; have z2 := q.2.2.2 2; have z3 := q.2.2.2 3; have z6 := q.2.2.2 6; clear q)
      go_ret
      go_light
      exact ⟨⟨_, rfl⟩, (((HB.out.trans (hb1.mono (Nat.le_trans hB (Nat.le_trans HB.out.size (Nat.le_refl _))))).setCell (p := ⟨w.heap.size, 2, none⟩) hB _).setCell (p := ⟨w.heap.size, 3, none⟩) hB _).setCell (p := ⟨w.heap.size, 6, none⟩) hB _⟩
  · have hz' : (decide (n = 0)) = false := by simp [hz]
    go_enter Tryz.func78, Tryz.ntmps78
    go_wp2_with (go_at_call 94; refine (newInterface_any _).mono ?_; rintro e w' ⟨rfl, rfl⟩)
    generalize hW2 : w.alloc (.cells ifaceCells 224) = W2 at *
    clear hW2
    go_loopw [23] (fun i wr => ∃ k : Nat, k ≤ n ∧ i = .int .i64 k ∧ Below B w wr ∧ Hid (FuncsV wr B fb 0 n nm) ∧ Hid (wr.heap[w.heap.size]? = some (.cells ifaceCells 224))) (fun i _ => n - (intOf i).toNat)
    case atStart => exact ⟨0, Nat.zero_le _, rfl, HB0.out, HF0, HI0⟩
    case round =>
      clear HF0 HI0 HB0
      obtain ⟨k, hk, rfl, hb, hf, hi⟩ := hrel
      have HB := Lib.hid hb
      by_cases hlt : k < n
      · obtain ⟨cf, Tf, f1, f2, f3⟩ := hf.out
        obtain ⟨vb, cs, sb, cc, r, g1, g2, g3, g4, g5, g6, g7, g8, g9⟩ := f3 k hlt
        have c0 : wr.cell? ⟨fb, 0 + k, none⟩ = some (.pointer (some ⟨vb, 0, none⟩)) := by simp [World.cell?, f1]; simpa using g1
        rw [Nat.zero_add] at c0
        have c1 : wr.cell? ⟨vb, 1, none⟩ = some (.int .i64 0) := by simp [World.cell?, g2, g3]
        have c2 : wr.cell? ⟨vb, 2, none⟩ = some (.pointer none) := by simp [World.cell?, g2, g4]
        have c4 : wr.cell? ⟨vb, 4, none⟩ = some (.iface 88 (.pointer (some ⟨sb, 0, none⟩))) := by simp [World.cell?, g2, g6]
        have c5 : wr.cell? ⟨sb, 2, none⟩ = some (.pointer r) := by simp [World.cell?, g7, g8]
        have z5 : wr.frozen? ⟨sb, 2, none⟩ = false := by simp [World.frozen?, g7]
        have hsl : sb < wr.heap.size := (Array.getElem?_eq_some_iff.1 g7).1
        have hvs : ¬ vb = sb := fun e => by subst e; rw [g2] at g7; cases g7
        have G7 := Lib.hid g7
        have G9 := Lib.hid g9
        have GC := Lib.hid (show 2 < cc.size from (Array.getElem?_eq_some_iff.1 g8).1)
        clear f1 f2 f3 g1 g2 g3 g4 g5 g6 g7 g8 g9 hb
        cases r with
        | some r =>
          go_wp2
          go_roundw
          case rel =>
            go_light
            exact ⟨k + 1, by omega, by go_num, HB.out, hf, hi⟩
          case measure =>
            go_light
            simp [intOf]
            omega
        | none =>
          have SH : Hid (∀ w', Kp wr (some sb) w' → w'.cell? ⟨vb, 1, none⟩ = some (.int .i64 0) ∧ w'.cell? ⟨vb, 2, none⟩ = some (.pointer none)) := fun w' h => ⟨h.cell c1 (by simpa using hvs), h.cell c2 (by simpa using hvs)⟩
          go_wp2_with fail
          go_region_held3 (fun w' => w'.cell? ⟨vb, 1, none⟩ = some (.int .i64 0) ∧ w'.cell? ⟨vb, 2, none⟩ = some (.pointer none))
            (first | exact SH.out _ ((Kp.refl _ _).drew) | exact SH.out _ (((Kp.refl _ _).drew).alloc _) | exact SH.out _ ((((Kp.refl _ _).setCell _ _).alloc _).drew))
            (first | (go_at_call 67; refine (newVar_any _ _ _ _ _ _).mono ?_; rintro e w' ⟨rfl, rfl⟩))
          all_goals
            go_wp2
            go_roundw
            case rel =>
              go_light
              exact ⟨k + 1, by omega, by go_num, ((HB.out.setCell (p := ⟨sb, 2, none⟩) G9.out _).alloc (by rw [setCell_size]; exact Nat.le_trans hB HB.out.size) _).drew, Lib.hid ((hf.out.set sb (some ⟨wr.heap.size, 0, none⟩) G7.out GC.out).keep (((Below.refl _ _).alloc (Nat.le_refl _) _).drew)), Lib.hid (iface_keep hi.out G7.out _ _)⟩
            case measure =>
              go_light
              simp [intOf]
              omega
      · have HM := Lib.hid (hf.out.meths HNB.out HL.out)
        clear hb
        go_wp2_with (go_at_call 95; refine (sortMethods_any fb 0 n c nm _ hn hc hc2 HM.out (HP.out.keepB HB.out h3)).mono ?_; rintro e w1 ⟨⟨v, rfl⟩, hb1⟩; have q := iface_at hi.out hb1; have q2 := q.1; have q3 := q.2.1; have q6 := q.2.2.1; have z2 := q.2.2.2 2; have z3 := q.2.2.2 3; have z6 := q.2.2.2 6; clear q)
        go_ret
        go_light
        exact ⟨⟨_, rfl⟩, (((HB.out.trans (hb1.mono (Nat.le_trans hB (Nat.le_trans HB.out.size (Nat.le_refl _))))).setCell (p := ⟨w.heap.size, 2, none⟩) hB _).setCell (p := ⟨w.heap.size, 3, none⟩) hB _).setCell (p := ⟨w.heap.size, 6, none⟩) hB _⟩

theorem newIface_any (B fb n c m c2 : Nat) (a2 : Option Addr) (nm : Nat → ByteArray) (w : World) (hB : B ≤ w.heap.size) (h3 : 3 < B) (hn : n ≤ 8) (hc : n ≤ c) (hc2 : c ≤ 9223372036854775807) (hF : FuncsV w B fb 0 n nm) (hp : PropsAt w)
    (hnb : ∀ i, i < n → nameB (nm i) = true ∧ bigB (nm i) = true) (hl : ∀ i, i + 1 < n → Op.bytesLess (nm i).toList (nm (i + 1)).toList = true) :
    Calls Tryz.prog 78 #[.slice (some ⟨fb, 0, none⟩) n c, .slice a2 m c2] w (IfaceGives B w) := by
  by_cases h : n = 0 ∧ m = 0
  · obtain ⟨rfl, rfl⟩ := h
    exact newIface_none B _ a2 c c2 w hB
  · refine newIface_some B fb n c m c2 a2 nm w hB h3 hn hc hc2 hF hp hnb hl ?_
    by_cases h1 : n = 0
    · have : ¬ m = 0 := fun e => h ⟨h1, e⟩
      simp [this]
    · simp [h1]

end Go.Proofs.YtipmpeekfajlcaaGreatDoor
