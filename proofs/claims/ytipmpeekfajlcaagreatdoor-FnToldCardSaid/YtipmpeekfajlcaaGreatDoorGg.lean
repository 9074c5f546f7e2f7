/- What is proved: the contract of NewStruct. Conditions: the fields lie, their names are identifiers, and no two but blanks are one. -/
import Derived.Test.YtipmpeekfajlcaaGreatDoorGf
namespace Go.Proofs.YtipmpeekfajlcaaGreatDoor
open Go.RowKit Go.Proofs

/-- New variables lie in a row: their pointers; a variable has no package, and its name. -/
def FieldsV (w : World) (fb fo n : Nat) (nm : Nat → ByteArray) : Prop :=
  ∀ i, i < n → ∃ vb, w.cell? ⟨fb, fo + i, none⟩ = some (.pointer (some ⟨vb, 0, none⟩)) ∧ w.cell? ⟨vb, 2, none⟩ = some (.pointer none) ∧ w.cell? ⟨vb, 3, none⟩ = some (.string (nm i))
theorem FieldsV.keep {w w' : World} {fb fo n : Nat} {nm : Nat → ByteArray} (h : FieldsV w fb fo n nm) (hb : Below w.heap.size w w') : FieldsV w' fb fo n nm := fun i hi => by
  obtain ⟨vb, h1, h2, h3⟩ := h i hi
  exact ⟨vb, cell_below hb h1, cell_below hb h2, cell_below hb h3⟩

theorem dot_inj {s t : ByteArray} (h : (⟨#[95]⟩ : ByteArray) ++ ⟨#[46]⟩ ++ s = ⟨#[95]⟩ ++ ⟨#[46]⟩ ++ t) : s = t := by
  have h2 := congrArg (fun x : ByteArray => x.data.toList) h
  simp at h2
  exact ByteArray.ext h2
theorem frozen_new {W : World} {B : Nat} {v : Value} {t : TypeId} (h : W.heap[B]? = some (.cells #[v] t)) : W.frozen? ⟨B, 0, none⟩ = false := by simp [World.frozen?, h]
theorem id_inj {s t : ByteArray} (hs : nameB s = true) (ht : nameB t = true) (h : idB ⟨#[95]⟩ s = idB ⟨#[95]⟩ t) : s = t := by
  have key : ∀ {a b : ByteArray}, nameB a = true → bigB a = true → a ≠ (⟨#[95]⟩ : ByteArray) ++ ⟨#[46]⟩ ++ b := by
    intro a b ha hb e
    obtain ⟨h0, h1, h2⟩ := name_first ha
    rw [hb] at h2
    have h3 : 65 ≤ a[0].toNat ∧ a[0].toNat ≤ 90 := by simpa using h2.symm
    have h4 : a.data.toList = 95 :: 46 :: b.data.toList := by rw [e]; simp
    have h5 : a[0] = 95 := by
      have : a.data.toList[0]? = some 95 := by rw [h4]; rfl
      have h6 : a.data[0]? = some 95 := by simpa using this
      have h7 : a.data[0]? = some a[0] := by
        rw [Array.getElem?_eq_getElem (by have : a.data.size = a.size := rfl; omega)]
        rfl
      rw [h7] at h6
      exact Option.some.inj h6
    rw [h5] at h3
    simp at h3
  unfold idB at h
  split at h <;> split at h
  · exact h
  · rename_i a b
    exact absurd h (key hs a)
  · rename_i a b
    exact absurd h.symm (key ht b)
  · exact dot_inj h

@[go_sem] theorem eq177 (a : Addr) (n c : Nat) (w : World) : (binOp BinOp.eql 177 (.slice (some a) n c) (.slice none 0 0)).run Tryz.prog w = .ok (.bool false) w := by kernel_rfl
set_option maxRecDepth 100000 in
theorem markComplete_any (b fb fo n fc : Nat) (w : World) (h0 : w.cell? ⟨b, 0, none⟩ = some (.slice (some ⟨fb, fo, none⟩) n fc)) :
    Calls Tryz.prog 92 #[.pointer (some ⟨b, 0, none⟩)] w fun e w' => (∃ v, e = .returned v) ∧ w = w' := by
  go_enter Tryz.func92, Tryz.ntmps92
  go_wp2
  go_end0
  exact ⟨⟨_, rfl⟩, rfl⟩

/-- What the set of a struct's fields holds behind k rounds. -/
def SetState (w0 wr : World) (nm : Nat → ByteArray) (k : Nat) : Prop :=
  ∃ ids, (∀ x ∈ ids, ∃ j, j < k ∧ (nm j).toList ≠ [95] ∧ x = idB ⟨#[95]⟩ (nm j)) ∧ wr.frozen? ⟨w0.heap.size, 0, none⟩ = false ∧
    ((ids = [] ∧ wr.cell? ⟨w0.heap.size, 0, none⟩ = some (.map none)) ∨ ∃ m, wr.cell? ⟨w0.heap.size, 0, none⟩ = some (.map (some m)) ∧ SetAt wr m ids ∧ w0.heap.size ≤ m ∧ m ≠ w0.heap.size)

set_option maxRecDepth 100000 in
set_option maxHeartbeats 4000000 in
theorem newStruct_any (fb fo n fc tc : Nat) (ta : Option Addr) (nm : Nat → ByteArray) (w : World) (hF : FieldsV w fb fo n nm) (hname : ∀ i, i < n → nameB (nm i) = true)
    (hdist : ∀ i j, i < n → j < i → nm i = nm j → (nm i).toList = [95]) (hp : PropsAt w) (hfc : n ≤ fc) (hfc2 : fc ≤ 9223372036854775807) :
    Calls Tryz.prog 75 #[.slice (some ⟨fb, fo, none⟩) n fc, .slice ta n tc] w fun e w' => (∃ b, e = .returned (.pointer (some ⟨b, 0, none⟩))) ∧ Below w.heap.size w w' := by
  have HF := Lib.hid hF; clear hF
  have HN := Lib.hid hname; clear hname
  have HD := Lib.hid hdist; clear hdist
  have HP := Lib.hid hp; clear hp
  have hs0 : SetState w (w.alloc (.cells #[.map none] 213)) nm 0 := ⟨[], by simp, frozen_new (World.alloc_heap_new w _), .inl ⟨rfl, by simp⟩⟩
  have hb0 : Below w.heap.size w (w.alloc (.cells #[.map none] 213)) := by go_grown
  have HS0 := Lib.hid hs0; clear hs0
  have HB0 := Lib.hid hb0; clear hb0
  go_enter Tryz.func75, Tryz.ntmps75
  go_wp2
  generalize hW2 : w.alloc (.cells #[.map none] 213) = W2 at *
  clear hW2
  go_loopw [11] (fun i wr => ∃ k : Nat, k ≤ n ∧ i = .int .i64 k ∧ Below w.heap.size w wr ∧ Hid (SetState w wr nm k)) (fun i _ => n - (intOf i).toNat)
  case atStart => exact ⟨0, Nat.zero_le _, rfl, HB0.out, HS0⟩
  case round =>
    clear HS0 HB0
    obtain ⟨k, hk, rfl, hb, hst⟩ := hrel
    by_cases hlt : k < n
    · obtain ⟨vb, c0, c2, c3⟩ := HF.out k hlt
      have d0 := cell_below hb c0
      have d2 := cell_below hb c2
      have d3 := cell_below hb c3
      have hnk := HN.out k hlt
      have HPr := HP.out.keep hb
      have hbl := World.block_lt_of_cell? _ _ d0
      simp only at hbl
      have HBR := Lib.hid hb
      obtain ⟨ids, hids, hfz, hcase⟩ := hst.out
      by_cases hu : (nm k).toList = [95]
      · have hu2 : ((nm k).toList == [95]) = true := by simp [hu]
        have HST : Hid (SetState w wr nm (k + 1)) := Lib.hid ⟨ids, fun x hx => by obtain ⟨j, h1, h2⟩ := hids x hx; exact ⟨j, by omega, h2⟩, hfz, hcase⟩
        clear hids hcase hst hb c0 c2 c3 hnk HPr hu
        go_wp2
        go_roundw
        case rel =>
          go_light
          exact ⟨k + 1, by omega, by go_num, HBR.out, HST⟩
        case measure =>
          go_light
          simp [intOf]
          omega
      · have hu2 : ((nm k).toList == [95]) = false := by simp [hu]
        have cI : Calls Tryz.prog 91 #[.pointer (some ⟨w.heap.size, 0, none⟩), .iface 78 (.pointer (some ⟨vb, 0, none⟩))] wr (InsGives w.heap.size w.heap.size (ids ++ [idB ⟨#[95]⟩ (nm k)]) wr) := by
          rcases hcase with ⟨rfl, hc⟩ | ⟨m, hc, hset, hm1, hm2⟩
          · exact insert_first w.heap.size w.heap.size vb (nm k) hnk wr (Nat.le_refl _) HPr hc hfz d2 d3
          · refine insert_more w.heap.size w.heap.size vb m ids (nm k) hnk wr (Nat.le_refl _) hm1 hm2 HPr hc hfz hset ?_ d2 d3
            intro hmem
            obtain ⟨j, hj1, hj2, hj3⟩ := hids _ hmem
            have := id_inj hnk (HN.out j (by omega)) hj3
            exact hu (HD.out k j hlt hj1 this)
        have CI := Lib.hid cI
        have HIDS : Hid (∀ x ∈ ids ++ [idB ⟨#[95]⟩ (nm k)], ∃ j, j < k + 1 ∧ (nm j).toList ≠ [95] ∧ x = idB ⟨#[95]⟩ (nm j)) := Lib.hid (fun x hx => by
          rcases List.mem_append.1 hx with h | h
          · obtain ⟨j, h1, h2⟩ := hids x h; exact ⟨j, by omega, h2⟩
          · exact ⟨k, by omega, hu, by simpa using h⟩)
        clear hids hcase hst hb c0 c2 c3 hnk HPr hu cI
        go_wp2_with (go_at_call 91; refine (CI.out).mono ?_; rintro e w1 ⟨rfl, hb1, m, e1, e2, e3, e4, e5⟩)
        go_roundw
        case rel =>
          go_light
          exact ⟨k + 1, by omega, by go_num, HBR.out.trans hb1, Lib.hid ⟨_, HIDS.out, e2, .inr ⟨m, e1, e3, e4, e5⟩⟩⟩
        case measure =>
          go_light
          simp [intOf]
          omega
    · have HBR := Lib.hid hb
      clear hst hb
      go_wp2_with (go_at_call 92; refine (markComplete_any wr.heap.size fb fo n fc _ (by simp)).mono ?_; rintro e w1 ⟨⟨v, rfl⟩, rfl⟩)
      go_ret
      go_light
      exact ⟨⟨_, rfl⟩, HBR.out.alloc HBR.out.size _⟩

end Go.Proofs.YtipmpeekfajlcaaGreatDoor
