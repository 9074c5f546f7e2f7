/- What is proved: the contract of impl's typ at every depth. Conditions: the input lies in memory as trees, and the type is one. -/
import Derived.Test.YtipmpeekfajlcaaGreatDoorHc
import Derived.Test.YtipmpeekfajlcaaGreatDoorHd
import Derived.Test.YtipmpeekfajlcaaGreatDoorHe
namespace Go.Proofs.YtipmpeekfajlcaaGreatDoor
open Go.RowKit Go.Proofs Go.Sort Go.BigFrame

theorem tyIs_plain {Q : TypeId → Value → Prop} {t : Ty} {T : TypeId} {x : Value} (h : PlainT T) (h1 : ¬ t.kd.toList = [110, 97, 109, 101, 100]) (h2 : ¬ t.kd.toList = [115, 108, 105, 99, 101]) : TyIs Q t T x :=
  ⟨fun _ => h, fun e => absurd e h2, fun e => absurd e h1⟩

set_option maxRecDepth 100000 in
set_option maxHeartbeats 8000000 in
theorem typ_basic (W : WorldD) (mb : Nat) (most : Int) (Q : TypeId → Value → Prop) (d : Nat)
    (t : Ty) (ka : Option Addr) (kc : Nat) (below : Bool) (w : World) (_hty : isTypeB W most (d + 1) t below = true) (_hE : Env w mb W most Q) (hk : KidsV w ka kc t.kids) (hkd : t.kd.toList = [98, 97, 115, 105, 99]) :
    Calls Tryz.prog 32 #[.pointer (some ⟨mb, 0, none⟩), .agg #[.string t.kd, .string t.nm, .string t.tg, .int .i64 t.sz, .slice ka t.kids.length kc]] w (GivesT Q t w) := by
  have HP : Hid (∀ x, TyIs Q t 151 x) := fun x => tyIs_plain (.inl rfl) (by simp [hkd]) (by simp [hkd])
  clear _hty _hE
  have hl1 := hk.len.1
  have hl2 := hk.len.2
  clear hk
  go_enter Tryz.func32, Tryz.ntmps32
  go_wp2_with (go_at_call 53; refine (basic_any _ _).mono ?_; rintro e w1 ⟨a, rfl, hb1⟩)
  go_ret
  go_light
  exact ⟨151, _, rfl, HP.out _, ((Below.refl _ _).alloc (Nat.le_refl _) _).trans (hb1.mono (by simp))⟩

theorem newPointer_below (T : TypeId) (v : Value) (w : World) : Calls Tryz.prog 54 #[.iface T v] w fun e w' => e = .returned (.pointer (some ⟨w.heap.size, 0, none⟩)) ∧ Below w.heap.size w w' :=
  (newPointer_any T v w).mono fun e w' ⟨h1, h2⟩ => ⟨h1, by rw [← h2]; exact (Below.refl _ _).alloc (Nat.le_refl _) _⟩

set_option maxRecDepth 100000 in
set_option maxHeartbeats 8000000 in
theorem typ_pointer (W : WorldD) (mb : Nat) (most : Int) (Q : TypeId → Value → Prop) (d : Nat) (hrec : TypG W mb most Q d)
    (t : Ty) (ka : Option Addr) (kc : Nat) (below : Bool) (w : World) (hty : isTypeB W most (d + 1) t below = true) (hE : Env w mb W most Q) (hk : KidsV w ka kc t.kids) (hkd : t.kd.toList = [112, 111, 105, 110, 116, 101, 114]) :
    Calls Tryz.prog 32 #[.pointer (some ⟨mb, 0, none⟩), .agg #[.string t.kd, .string t.nm, .string t.tg, .int .i64 t.sz, .slice ka t.kids.length kc]] w (GivesT Q t w) := by
  have hp : plainB t 1 = true ∧ isTypeB W most d (t.kid 0) true = true := by simpa [isTypeB, hkd] using hty
  have hlen : t.kids.length = 1 := by have := hp.1; simp only [plainB, Bool.and_eq_true, beq_iff_eq] at this; exact this.2
  have hl1 := hk.len.1
  have hl2 := hk.len.2
  have hb : Below w.heap.size w (w.alloc (.cells #[.string t.kd, .string t.nm, .string t.tg, .int .i64 t.sz, .slice ka t.kids.length kc] 28)) := (Below.refl _ _).alloc (Nat.le_refl _) _
  obtain ⟨bu, offu, au, cu, hbu, g0, g1, g2, g3, g4, hfu, hku⟩ := hk.at (kid_at (t := t) (i := 0) (by omega))
  subst hbu
  simp only [Nat.zero_mul, Nat.add_zero] at g0 g1 g2 g3 g4
  have hbl := World.block_lt_of_cell? _ _ g0
  simp only at hbl
  have CT := Lib.hid (hrec (t.kid 0) au cu true _ hp.2 (hE.keep hb) (hku.keep hb) hfu)
  have HB := Lib.hid hb
  have HI : Hid (∀ x, TyIs Q t 121 x) := fun x => tyIs_plain (.inr (.inl rfl)) (by simp [hkd]) (by simp [hkd])
  have h1 : 1 ≤ t.kids.length := by omega
  clear hty hE hk hp hb hfu hku hlen hrec
  go_enter Tryz.func32, Tryz.ntmps32
  go_wp2_with (first | (go_at_call 32; refine CT.out.mono ?_; rintro e w1 ⟨T, x, rfl, hT, hb1⟩) | (go_at_call 54; refine (newPointer_below _ _ _).mono ?_; rintro e w2 ⟨rfl, hb2⟩))
  go_ret
  go_light
  exact ⟨121, _, rfl, HI.out _, HB.out.trans ((hb1.trans (hb2.mono hb1.size)).mono HB.out.size)⟩

set_option maxRecDepth 100000 in
set_option maxHeartbeats 8000000 in
theorem typ_slice (W : WorldD) (mb : Nat) (most : Int) (Q : TypeId → Value → Prop) (d : Nat) (hrec : TypG W mb most Q d)
    (t : Ty) (ka : Option Addr) (kc : Nat) (below : Bool) (w : World) (hty : isTypeB W most (d + 1) t below = true) (hE : Env w mb W most Q) (hk : KidsV w ka kc t.kids) (hkd : t.kd.toList = [115, 108, 105, 99, 101]) :
    Calls Tryz.prog 32 #[.pointer (some ⟨mb, 0, none⟩), .agg #[.string t.kd, .string t.nm, .string t.tg, .int .i64 t.sz, .slice ka t.kids.length kc]] w (GivesT Q t w) := by
  have hp : plainB t 1 = true ∧ isTypeB W most d (t.kid 0) below = true := by simpa [isTypeB, hkd] using hty
  have hlen : t.kids.length = 1 := by have := hp.1; simp only [plainB, Bool.and_eq_true, beq_iff_eq] at this; exact this.2
  have hl1 := hk.len.1
  have hl2 := hk.len.2
  have hb : Below w.heap.size w (w.alloc (.cells #[.string t.kd, .string t.nm, .string t.tg, .int .i64 t.sz, .slice ka t.kids.length kc] 28)) := (Below.refl _ _).alloc (Nat.le_refl _) _
  obtain ⟨bu, offu, au, cu, hbu, g0, g1, g2, g3, g4, hfu, hku⟩ := hk.at (kid_at (t := t) (i := 0) (by omega))
  subst hbu
  simp only [Nat.zero_mul, Nat.add_zero] at g0 g1 g2 g3 g4
  have hbl := World.block_lt_of_cell? _ _ g0
  simp only at hbl
  have CT := Lib.hid (hrec (t.kid 0) au cu below _ hp.2 (hE.keep hb) (hku.keep hb) hfu)
  have HB := Lib.hid hb
  have HI : Hid (∀ x, ∀ sp, x = .pointer (some ⟨sp, 0, none⟩) → TyIs Q t 123 x) := fun x sp hx => ⟨fun _ => .inr (.inr (.inl rfl)), fun _ => ⟨rfl, sp, hx⟩, fun e => absurd e (by simp [hkd])⟩
  have h1 : 1 ≤ t.kids.length := by omega
  clear hty hE hk hp hb hfu hku hlen hrec
  go_enter Tryz.func32, Tryz.ntmps32
  go_wp2_with (first | (go_at_call 32; refine CT.out.mono ?_; rintro e w1 ⟨T, x, rfl, hT, hb1⟩) | (go_at_call 55; refine (newSlice_any _ _ _).mono ?_; rintro e w2 ⟨rfl, hb2⟩))
  go_ret
  go_light
  exact ⟨123, _, rfl, HI.out _ _ rfl, HB.out.trans ((hb1.trans (hb2.mono hb1.size)).mono HB.out.size)⟩

set_option maxRecDepth 100000 in
set_option maxHeartbeats 8000000 in
theorem typ_chan (W : WorldD) (mb : Nat) (most : Int) (Q : TypeId → Value → Prop) (d : Nat) (hrec : TypG W mb most Q d)
    (t : Ty) (ka : Option Addr) (kc : Nat) (below : Bool) (w : World) (hty : isTypeB W most (d + 1) t below = true) (hE : Env w mb W most Q) (hk : KidsV w ka kc t.kids) (hkd : t.kd.toList = [99, 104, 97, 110]) :
    Calls Tryz.prog 32 #[.pointer (some ⟨mb, 0, none⟩), .agg #[.string t.kd, .string t.nm, .string t.tg, .int .i64 t.sz, .slice ka t.kids.length kc]] w (GivesT Q t w) := by
  have hp : plainB t 1 = true ∧ isTypeB W most d (t.kid 0) below = true := by simpa [isTypeB, hkd] using hty
  have hlen : t.kids.length = 1 := by have := hp.1; simp only [plainB, Bool.and_eq_true, beq_iff_eq] at this; exact this.2
  have hl1 := hk.len.1
  have hl2 := hk.len.2
  have hb : Below w.heap.size w (w.alloc (.cells #[.string t.kd, .string t.nm, .string t.tg, .int .i64 t.sz, .slice ka t.kids.length kc] 28)) := (Below.refl _ _).alloc (Nat.le_refl _) _
  obtain ⟨bu, offu, au, cu, hbu, g0, g1, g2, g3, g4, hfu, hku⟩ := hk.at (kid_at (t := t) (i := 0) (by omega))
  subst hbu
  simp only [Nat.zero_mul, Nat.add_zero] at g0 g1 g2 g3 g4
  have hbl := World.block_lt_of_cell? _ _ g0
  simp only at hbl
  have CT := Lib.hid (hrec (t.kid 0) au cu below _ hp.2 (hE.keep hb) (hku.keep hb) hfu)
  have HB := Lib.hid hb
  have HI : Hid (∀ x, TyIs Q t 129 x) := fun x => tyIs_plain (.inr (.inr (.inr (.inr (.inr (.inl rfl)))))) (by simp [hkd]) (by simp [hkd])
  have h1 : 1 ≤ t.kids.length := by omega
  clear hty hE hk hp hb hfu hku hlen hrec
  go_enter Tryz.func32, Tryz.ntmps32
  go_wp2_with (first | (go_at_call 32; refine CT.out.mono ?_; rintro e w1 ⟨T, x, rfl, hT, hb1⟩) | (go_at_call 58; refine (newChan_any _ _ _ _).mono ?_; rintro e w2 ⟨rfl, hb2⟩))
  go_ret
  go_light
  exact ⟨129, _, rfl, HI.out _, HB.out.trans ((hb1.trans (hb2.mono hb1.size)).mono HB.out.size)⟩

set_option maxRecDepth 100000 in
set_option maxHeartbeats 8000000 in
theorem typ_send (W : WorldD) (mb : Nat) (most : Int) (Q : TypeId → Value → Prop) (d : Nat) (hrec : TypG W mb most Q d)
    (t : Ty) (ka : Option Addr) (kc : Nat) (below : Bool) (w : World) (hty : isTypeB W most (d + 1) t below = true) (hE : Env w mb W most Q) (hk : KidsV w ka kc t.kids) (hkd : t.kd.toList = [115, 101, 110, 100]) :
    Calls Tryz.prog 32 #[.pointer (some ⟨mb, 0, none⟩), .agg #[.string t.kd, .string t.nm, .string t.tg, .int .i64 t.sz, .slice ka t.kids.length kc]] w (GivesT Q t w) := by
  have hp : plainB t 1 = true ∧ isTypeB W most d (t.kid 0) below = true := by simpa [isTypeB, hkd] using hty
  have hlen : t.kids.length = 1 := by have := hp.1; simp only [plainB, Bool.and_eq_true, beq_iff_eq] at this; exact this.2
  have hl1 := hk.len.1
  have hl2 := hk.len.2
  have hb : Below w.heap.size w (w.alloc (.cells #[.string t.kd, .string t.nm, .string t.tg, .int .i64 t.sz, .slice ka t.kids.length kc] 28)) := (Below.refl _ _).alloc (Nat.le_refl _) _
  obtain ⟨bu, offu, au, cu, hbu, g0, g1, g2, g3, g4, hfu, hku⟩ := hk.at (kid_at (t := t) (i := 0) (by omega))
  subst hbu
  simp only [Nat.zero_mul, Nat.add_zero] at g0 g1 g2 g3 g4
  have hbl := World.block_lt_of_cell? _ _ g0
  simp only at hbl
  have CT := Lib.hid (hrec (t.kid 0) au cu below _ hp.2 (hE.keep hb) (hku.keep hb) hfu)
  have HB := Lib.hid hb
  have HI : Hid (∀ x, TyIs Q t 129 x) := fun x => tyIs_plain (.inr (.inr (.inr (.inr (.inr (.inl rfl)))))) (by simp [hkd]) (by simp [hkd])
  have h1 : 1 ≤ t.kids.length := by omega
  clear hty hE hk hp hb hfu hku hlen hrec
  go_enter Tryz.func32, Tryz.ntmps32
  go_wp2_with (first | (go_at_call 32; refine CT.out.mono ?_; rintro e w1 ⟨T, x, rfl, hT, hb1⟩) | (go_at_call 58; refine (newChan_any _ _ _ _).mono ?_; rintro e w2 ⟨rfl, hb2⟩))
  go_ret
  go_light
  exact ⟨129, _, rfl, HI.out _, HB.out.trans ((hb1.trans (hb2.mono hb1.size)).mono HB.out.size)⟩

set_option maxRecDepth 100000 in
set_option maxHeartbeats 8000000 in
theorem typ_recv (W : WorldD) (mb : Nat) (most : Int) (Q : TypeId → Value → Prop) (d : Nat) (hrec : TypG W mb most Q d)
    (t : Ty) (ka : Option Addr) (kc : Nat) (below : Bool) (w : World) (hty : isTypeB W most (d + 1) t below = true) (hE : Env w mb W most Q) (hk : KidsV w ka kc t.kids) (hkd : t.kd.toList = [114, 101, 99, 118]) :
    Calls Tryz.prog 32 #[.pointer (some ⟨mb, 0, none⟩), .agg #[.string t.kd, .string t.nm, .string t.tg, .int .i64 t.sz, .slice ka t.kids.length kc]] w (GivesT Q t w) := by
  have hp : plainB t 1 = true ∧ isTypeB W most d (t.kid 0) below = true := by simpa [isTypeB, hkd] using hty
  have hlen : t.kids.length = 1 := by have := hp.1; simp only [plainB, Bool.and_eq_true, beq_iff_eq] at this; exact this.2
  have hl1 := hk.len.1
  have hl2 := hk.len.2
  have hb : Below w.heap.size w (w.alloc (.cells #[.string t.kd, .string t.nm, .string t.tg, .int .i64 t.sz, .slice ka t.kids.length kc] 28)) := (Below.refl _ _).alloc (Nat.le_refl _) _
  obtain ⟨bu, offu, au, cu, hbu, g0, g1, g2, g3, g4, hfu, hku⟩ := hk.at (kid_at (t := t) (i := 0) (by omega))
  subst hbu
  simp only [Nat.zero_mul, Nat.add_zero] at g0 g1 g2 g3 g4
  have hbl := World.block_lt_of_cell? _ _ g0
  simp only at hbl
  have CT := Lib.hid (hrec (t.kid 0) au cu below _ hp.2 (hE.keep hb) (hku.keep hb) hfu)
  have HB := Lib.hid hb
  have HI : Hid (∀ x, TyIs Q t 129 x) := fun x => tyIs_plain (.inr (.inr (.inr (.inr (.inr (.inl rfl)))))) (by simp [hkd]) (by simp [hkd])
  have h1 : 1 ≤ t.kids.length := by omega
  clear hty hE hk hp hb hfu hku hlen hrec
  go_enter Tryz.func32, Tryz.ntmps32
  go_wp2_with (first | (go_at_call 32; refine CT.out.mono ?_; rintro e w1 ⟨T, x, rfl, hT, hb1⟩) | (go_at_call 58; refine (newChan_any _ _ _ _).mono ?_; rintro e w2 ⟨rfl, hb2⟩))
  go_ret
  go_light
  exact ⟨129, _, rfl, HI.out _, HB.out.trans ((hb1.trans (hb2.mono hb1.size)).mono HB.out.size)⟩

set_option maxRecDepth 100000 in
set_option maxHeartbeats 8000000 in
theorem typ_struct (W : WorldD) (mb : Nat) (most : Int) (Q : TypeId → Value → Prop) (d : Nat) (hrec : TypG W mb most Q d)
    (t : Ty) (ka : Option Addr) (kc : Nat) (below : Bool) (w : World) (hty : isTypeB W most (d + 1) t below = true) (hE : Env w mb W most Q) (hk : KidsV w ka kc t.kids) (hkd : t.kd.toList = [115, 116, 114, 117, 99, 116]) :
    Calls Tryz.prog 32 #[.pointer (some ⟨mb, 0, none⟩), .agg #[.string t.kd, .string t.nm, .string t.tg, .int .i64 t.sz, .slice ka t.kids.length kc]] w (GivesT Q t w) := by
  have hp : structB W (fun k => isTypeB W most d k below) t = true := by simpa [isTypeB, hkd] using hty
  have hl1 := hk.len.1
  have hl2 := hk.len.2
  have hb : Below w.heap.size w (w.alloc (.cells #[.string t.kd, .string t.nm, .string t.tg, .int .i64 t.sz, .slice ka t.kids.length kc] 28)) := (Below.refl _ _).alloc (Nat.le_refl _) _
  have CT := Lib.hid (structure_any W mb most Q d hrec t ka kc below _ hp (hE.keep hb) (hk.keep hb))
  have HB := Lib.hid hb
  have HI : Hid (∀ x, TyIs Q t 132 x) := fun x => tyIs_plain (.inr (.inr (.inr (.inr (.inr (.inr (.inl rfl))))))) (by simp [hkd]) (by simp [hkd])
  clear hty hE hk hb hp hrec
  go_enter Tryz.func32, Tryz.ntmps32
  go_wp2_with (go_at_call 59; refine CT.out.mono ?_; rintro e w1 ⟨⟨b, rfl⟩, hb1⟩)
  go_ret
  go_light
  exact ⟨132, _, rfl, HI.out _, HB.out.trans (hb1.mono HB.out.size)⟩

set_option maxRecDepth 100000 in
set_option maxHeartbeats 8000000 in
theorem typ_interface (W : WorldD) (mb : Nat) (most : Int) (Q : TypeId → Value → Prop) (d : Nat) (hrec : TypG W mb most Q d) (hsig : SigG W mb most Q d)
    (t : Ty) (ka : Option Addr) (kc : Nat) (below : Bool) (w : World) (hty : isTypeB W most (d + 1) t below = true) (hE : Env w mb W most Q) (hk : KidsV w ka kc t.kids) (hkd : t.kd.toList = [105, 110, 116, 101, 114, 102, 97, 99, 101]) :
    Calls Tryz.prog 32 #[.pointer (some ⟨mb, 0, none⟩), .agg #[.string t.kd, .string t.nm, .string t.tg, .int .i64 t.sz, .slice ka t.kids.length kc]] w (GivesT Q t w) := by
  have hp : ifaceB (fun k b => isTypeB W most d k b) t below = true := by simpa [isTypeB, hkd] using hty
  have hl1 := hk.len.1
  have hl2 := hk.len.2
  have hb : Below w.heap.size w (w.alloc (.cells #[.string t.kd, .string t.nm, .string t.tg, .int .i64 t.sz, .slice ka t.kids.length kc] 28)) := (Below.refl _ _).alloc (Nat.le_refl _) _
  have CT := Lib.hid (iface_any W mb most Q d hrec hsig t ka kc below _ hp (hE.keep hb) (hk.keep hb))
  have HB := Lib.hid hb
  have HI : Hid (∀ x, TyIs Q t 134 x) := fun x => tyIs_plain (.inr (.inr (.inr (.inr (.inr (.inr (.inr (.inl rfl)))))))) (by simp [hkd]) (by simp [hkd])
  clear hty hE hk hb hp hrec hsig
  go_enter Tryz.func32, Tryz.ntmps32
  go_wp2_with (go_at_call 60; refine CT.out.mono ?_; rintro e w1 ⟨⟨b, rfl⟩, hb1⟩)
  go_ret
  go_light
  exact ⟨134, _, rfl, HI.out _, HB.out.trans (hb1.mono HB.out.size)⟩

set_option maxRecDepth 100000 in
set_option maxHeartbeats 8000000 in
theorem typ_func (W : WorldD) (mb : Nat) (most : Int) (Q : TypeId → Value → Prop) (d : Nat) (hrec : TypG W mb most Q d)
    (t : Ty) (ka : Option Addr) (kc : Nat) (below : Bool) (w : World) (hty : isTypeB W most (d + 1) t below = true) (hE : Env w mb W most Q) (hk : KidsV w ka kc t.kids) (hkd : t.kd.toList = [102, 117, 110, 99]) :
    Calls Tryz.prog 32 #[.pointer (some ⟨mb, 0, none⟩), .agg #[.string t.kd, .string t.nm, .string t.tg, .int .i64 t.sz, .slice ka t.kids.length kc]] w (GivesT Q t w) := by
  have hp : isFuncB t = true := by simp [isFuncB, hkd]
  have hl1 := hk.len.1
  have hl2 := hk.len.2
  have hb : Below w.heap.size w (w.alloc (.cells #[.string t.kd, .string t.nm, .string t.tg, .int .i64 t.sz, .slice ka t.kids.length kc] 28)) := (Below.refl _ _).alloc (Nat.le_refl _) _
  have CT := Lib.hid (signature_any W mb most Q d hrec t ka kc below none _ hp hty (hE.keep hb) (hk.keep hb))
  have HB := Lib.hid hb
  have HI : Hid (∀ x, TyIs Q t 88 x) := fun x => tyIs_plain (.inr (.inr (.inr (.inr (.inr (.inr (.inr (.inr rfl)))))))) (by simp [hkd]) (by simp [hkd])
  clear hty hE hk hb hp hrec
  go_enter Tryz.func32, Tryz.ntmps32
  go_wp2_with (go_at_call 41; refine CT.out.mono ?_; rintro e w1 ⟨b, rfl, _, _, hb1⟩)
  go_ret
  go_light
  exact ⟨88, _, rfl, HI.out _, HB.out.trans (hb1.mono HB.out.size)⟩

set_option maxRecDepth 100000 in
set_option maxHeartbeats 8000000 in
theorem typ_variadic (W : WorldD) (mb : Nat) (most : Int) (Q : TypeId → Value → Prop) (d : Nat) (hrec : TypG W mb most Q d)
    (t : Ty) (ka : Option Addr) (kc : Nat) (below : Bool) (w : World) (hty : isTypeB W most (d + 1) t below = true) (hE : Env w mb W most Q) (hk : KidsV w ka kc t.kids) (hkd : t.kd.toList = [118, 97, 114, 105, 97, 100, 105, 99]) :
    Calls Tryz.prog 32 #[.pointer (some ⟨mb, 0, none⟩), .agg #[.string t.kd, .string t.nm, .string t.tg, .int .i64 t.sz, .slice ka t.kids.length kc]] w (GivesT Q t w) := by
  have hp : isFuncB t = true := by simp [isFuncB, hkd]
  have hl1 := hk.len.1
  have hl2 := hk.len.2
  have hb : Below w.heap.size w (w.alloc (.cells #[.string t.kd, .string t.nm, .string t.tg, .int .i64 t.sz, .slice ka t.kids.length kc] 28)) := (Below.refl _ _).alloc (Nat.le_refl _) _
  have CT := Lib.hid (signature_any W mb most Q d hrec t ka kc below none _ hp hty (hE.keep hb) (hk.keep hb))
  have HB := Lib.hid hb
  have HI : Hid (∀ x, TyIs Q t 88 x) := fun x => tyIs_plain (.inr (.inr (.inr (.inr (.inr (.inr (.inr (.inr rfl)))))))) (by simp [hkd]) (by simp [hkd])
  clear hty hE hk hb hp hrec
  go_enter Tryz.func32, Tryz.ntmps32
  go_wp2_with (go_at_call 41; refine CT.out.mono ?_; rintro e w1 ⟨b, rfl, _, _, hb1⟩)
  go_ret
  go_light
  exact ⟨88, _, rfl, HI.out _, HB.out.trans (hb1.mono HB.out.size)⟩

set_option maxRecDepth 100000 in
set_option maxHeartbeats 8000000 in
theorem typ_named (W : WorldD) (mb : Nat) (most : Int) (Q : TypeId → Value → Prop) (d : Nat)
    (t : Ty) (ka : Option Addr) (kc : Nat) (below : Bool) (w : World) (hty : isTypeB W most (d + 1) t below = true) (hE : Env w mb W most Q) (hk : KidsV w ka kc t.kids) (hkd : t.kd.toList = [110, 97, 109, 101, 100]) :
    Calls Tryz.prog 32 #[.pointer (some ⟨mb, 0, none⟩), .agg #[.string t.kd, .string t.nm, .string t.tg, .int .i64 t.sz, .slice ka t.kids.length kc]] w (GivesT Q t w) := by
  have hp : t.nm.toList.isEmpty = true ∧ knownB W most t below = true := by
    simp [isTypeB, hkd] at hty
    exact ⟨by simpa using hty.1.1.1, hty.2⟩
  have hkn := hp.2
  simp only [knownB, Bool.and_eq_true, Bool.or_eq_true, Bool.not_eq_true', decide_eq_true_eq, decide_eq_false_iff_not, Bool.or_eq_false_iff] at hkn
  have hs0 : 0 ≤ t.sz := by omega
  have hs1 : t.sz < W.decls.length := by omega
  obtain ⟨db, cap, T, x, a1, a2, a3⟩ := hE.decls t.sz.toNat (by omega) (by
    rcases hkn.2 with h | h
    · exact .inl (by omega)
    · exact .inr h.2)
  have hl1 := hk.len.1
  have hl2 := hk.len.2
  obtain ⟨W2, hW2⟩ : ∃ W2, W2 = (w.alloc (.cells #[.string t.kd, .string t.nm, .string t.tg, .int .i64 t.sz, .slice ka t.kids.length kc] 28)) := ⟨_, rfl⟩
  have hb : Below w.heap.size w W2 := by rw [hW2]; exact (Below.refl _ _).alloc (Nat.le_refl _) _
  have n3 : W2.drew.cell? ⟨w.heap.size, 3, none⟩ = some (.int .i64 t.sz) := by show W2.cell? _ = _; rw [hW2]; simp
  have d1 : W2.drew.cell? ⟨mb, 2, none⟩ = some (.slice (some ⟨db, 0, none⟩) W.decls.length cap) := cell_below hb a1
  have d2 : W2.drew.cell? ⟨db, t.sz.toNat, none⟩ = some (.iface T x) := cell_below hb a2
  have HW2 := Lib.hid hW2
  have HI : Hid (TyIs Q t T x) := ⟨fun h => absurd hkd h, fun h => absurd (hkd.symm.trans h) (by simp), fun _ => a3⟩
  have HB := Lib.hid (show Below w.heap.size w W2.drew from hb.drew)
  clear hW2 hty hE hk hp hkn a1 a2 a3 hb
  go_enter Tryz.func32, Tryz.ntmps32
  go_wp2_with fail
  rw [← HW2.out]
  refine wp_region_still_lit (by kernel_rfl) (by kernel_rfl) ?_
  change wpStill _ _ W2.drew (fun a' => Exit.then _ _ Exit.normal a' W2.drew) _ _
  generalize W2.drew = W4 at *
  repeat still_step
  refine wpStill_nil ?_
  go_wp2
  go_ret
  exact ⟨T, x, rfl, HI.out, HB.out⟩

set_option maxRecDepth 100000 in
set_option maxHeartbeats 8000000 in
theorem typ_array (W : WorldD) (mb : Nat) (most : Int) (Q : TypeId → Value → Prop) (d : Nat) (hrec : TypG W mb most Q d)
    (t : Ty) (ka : Option Addr) (kc : Nat) (below : Bool) (w : World) (hty : isTypeB W most (d + 1) t below = true) (hE : Env w mb W most Q) (hk : KidsV w ka kc t.kids) (hkd : t.kd.toList = [97, 114, 114, 97, 121]) :
    Calls Tryz.prog 32 #[.pointer (some ⟨mb, 0, none⟩), .agg #[.string t.kd, .string t.nm, .string t.tg, .int .i64 t.sz, .slice ka t.kids.length kc]] w (GivesT Q t w) := by
  have hp : t.kids.length = 1 ∧ isTypeB W most d (t.kid 0) below = true := by
    simp [isTypeB, hkd] at hty
    exact ⟨hty.1.2, hty.2⟩
  obtain ⟨hlen, hp1⟩ := hp
  have hl1 := hk.len.1
  have hl2 := hk.len.2
  obtain ⟨W2, hW2⟩ : ∃ W2, W2 = (w.alloc (.cells #[.string t.kd, .string t.nm, .string t.tg, .int .i64 t.sz, .slice ka t.kids.length kc] 28)) := ⟨_, rfl⟩
  have hb : Below w.heap.size w W2 := by rw [hW2]; exact (Below.refl _ _).alloc (Nat.le_refl _) _
  have n3 : W2.cell? ⟨w.heap.size, 3, none⟩ = some (.int .i64 t.sz) := by rw [hW2]; simp
  have n4 : W2.cell? ⟨w.heap.size, 4, none⟩ = some (.slice ka t.kids.length kc) := by rw [hW2]; simp
  have HW2 := Lib.hid hW2; clear hW2
  have hk2 := hk.keep hb
  obtain ⟨bu, offu, au, cu, hbu, g0, g1, g2, g3, g4, hfu, hku⟩ := hk2.at (kid_at (t := t) (i := 0) (by omega))
  subst hbu
  simp only [Nat.zero_mul, Nat.add_zero] at g0 g1 g2 g3 g4
  have hE2 := hE.keep hb
  have HB := Lib.hid hb
  have C0 : Hid (∀ w', Below W2.heap.size W2 w' → Calls Tryz.prog 32 #[.pointer (some ⟨mb, 0, none⟩), .agg #[.string (t.kid 0).kd, .string (t.kid 0).nm, .string (t.kid 0).tg, .int .i64 (t.kid 0).sz, .slice au (t.kid 0).kids.length cu]] w' (GivesT Q (t.kid 0) w')) :=
    fun w' h' => hrec (t.kid 0) au cu below w' hp1 (hE2.keep h') (hku.keep h') hfu
  have SH : Hid (∀ w', Below W2.heap.size W2 w' → w'.cell? ⟨w.heap.size, 3, none⟩ = some (.int .i64 t.sz) ∧ w'.cell? ⟨w.heap.size, 4, none⟩ = some (.slice (some ⟨bu, offu, none⟩) t.kids.length kc) ∧ w'.cell? ⟨bu, offu, none⟩ = some (.string (t.kid 0).kd) ∧ w'.cell? ⟨bu, offu + 1, none⟩ = some (.string (t.kid 0).nm) ∧ w'.cell? ⟨bu, offu + 2, none⟩ = some (.string (t.kid 0).tg) ∧ w'.cell? ⟨bu, offu + 3, none⟩ = some (.int .i64 (t.kid 0).sz) ∧ w'.cell? ⟨bu, offu + 4, none⟩ = some (.slice au (t.kid 0).kids.length cu)) :=
    fun w' h => ⟨cell_below h n3, cell_below h n4, cell_below h g0, cell_below h g1, cell_below h g2, cell_below h g3, cell_below h g4⟩
  have HI : Hid (∀ x, TyIs Q t 125 x) := fun x => tyIs_plain (.inr (.inr (.inr (.inl rfl)))) (by simp [hkd]) (by simp [hkd])
  have hl3 : 0 < t.kids.length := by omega
  clear hty hE hk hk2 hE2 hfu hku hlen hb n3 n4 g0 g1 g2 g3 g4 hp1 hrec
  generalize t.kid 0 = k0 at *
  go_enter Tryz.func32, Tryz.ntmps32
  go_wp2_with fail
  rw [← HW2.out]
  go_region_held3 (fun w' => w'.cell? ⟨w.heap.size, 3, none⟩ = some (.int .i64 t.sz) ∧ w'.cell? ⟨w.heap.size, 4, none⟩ = some (.slice (some ⟨bu, offu, none⟩) t.kids.length kc) ∧ w'.cell? ⟨bu, offu, none⟩ = some (.string k0.kd) ∧ w'.cell? ⟨bu, offu + 1, none⟩ = some (.string k0.nm) ∧ w'.cell? ⟨bu, offu + 2, none⟩ = some (.string k0.tg) ∧ w'.cell? ⟨bu, offu + 3, none⟩ = some (.int .i64 k0.sz) ∧ w'.cell? ⟨bu, offu + 4, none⟩ = some (.slice au k0.kids.length cu))
    (first | exact SH.out _ ((Below.refl _ _).drew) | exact SH.out _ ((Below.refl _ _).drew.trans hbA) | exact SH.out _ (((Below.refl _ _).drew.trans hbA).trans (hbS.mono hbA.size)))
    (first | (go_at_call_of 32 k0; refine (C0.out _ ?_).mono ?_; exact (Below.refl _ _).drew; rintro e wA ⟨TA, xA, rfl, hTA, hbA⟩) | (go_at_call 56; refine (newArray_any _ _ _ _).mono ?_; rintro e wS ⟨rfl, hbS⟩))
  all_goals
    go_wp2
    go_ret
    go_light
    exact ⟨125, _, rfl, HI.out _, (HB.out.drew.trans (hbA.mono HB.out.size)).trans (hbS.mono (Nat.le_trans HB.out.size hbA.size))⟩

set_option maxRecDepth 100000 in
set_option maxHeartbeats 8000000 in
theorem typ_map (W : WorldD) (mb : Nat) (most : Int) (Q : TypeId → Value → Prop) (d : Nat) (hrec : TypG W mb most Q d)
    (t : Ty) (ka : Option Addr) (kc : Nat) (below : Bool) (w : World) (hty : isTypeB W most (d + 1) t below = true) (hE : Env w mb W most Q) (hk : KidsV w ka kc t.kids) (hkd : t.kd.toList = [109, 97, 112]) :
    Calls Tryz.prog 32 #[.pointer (some ⟨mb, 0, none⟩), .agg #[.string t.kd, .string t.nm, .string t.tg, .int .i64 t.sz, .slice ka t.kids.length kc]] w (GivesT Q t w) := by
  have hp : plainB t 2 = true ∧ isTypeB W most d (t.kid 0) below = true ∧ isTypeB W most d (t.kid 1) below = true := by
    simp [isTypeB, hkd] at hty
    exact ⟨hty.1.1, hty.1.2, hty.2⟩
  obtain ⟨hpl, hp1, hp2⟩ := hp
  have hlen : t.kids.length = 2 := by simp only [plainB, Bool.and_eq_true, beq_iff_eq] at hpl; exact hpl.2
  have hl1 := hk.len.1
  have hl2 := hk.len.2
  obtain ⟨W2, hW2⟩ : ∃ W2, W2 = (w.alloc (.cells #[.string t.kd, .string t.nm, .string t.tg, .int .i64 t.sz, .slice ka t.kids.length kc] 28)) := ⟨_, rfl⟩
  have hb : Below w.heap.size w W2 := by rw [hW2]; exact (Below.refl _ _).alloc (Nat.le_refl _) _
  have n3 : W2.cell? ⟨w.heap.size, 3, none⟩ = some (.int .i64 t.sz) := by rw [hW2]; simp
  have n4 : W2.cell? ⟨w.heap.size, 4, none⟩ = some (.slice ka t.kids.length kc) := by rw [hW2]; simp
  have HW2 := Lib.hid hW2; clear hW2
  have hk2 := hk.keep hb
  obtain ⟨bu, offu, au, cu, hbu, g0, g1, g2, g3, g4, hfu, hku⟩ := hk2.at (kid_at (t := t) (i := 0) (by omega))
  subst hbu
  simp only [Nat.zero_mul, Nat.add_zero] at g0 g1 g2 g3 g4
  obtain ⟨bv, offv, av, cv, hbv, f0, f1, f2, f3, f4, hfv, hkv⟩ := hk2.at (kid_at (t := t) (i := 1) (by omega))
  simp only [Option.some.injEq, Addr.mk.injEq, and_true] at hbv
  obtain ⟨rfl, rfl⟩ := hbv
  simp only [Nat.one_mul] at f0 f1 f2 f3 f4
  have hE2 := hE.keep hb
  have HB := Lib.hid hb
  have C0 : Hid (∀ w', Below W2.heap.size W2 w' → Calls Tryz.prog 32 #[.pointer (some ⟨mb, 0, none⟩), .agg #[.string (t.kid 0).kd, .string (t.kid 0).nm, .string (t.kid 0).tg, .int .i64 (t.kid 0).sz, .slice au (t.kid 0).kids.length cu]] w' (GivesT Q (t.kid 0) w')) :=
    fun w' h' => hrec (t.kid 0) au cu below w' hp1 (hE2.keep h') (hku.keep h') hfu
  have C1 : Hid (∀ w', Below W2.heap.size W2 w' → Calls Tryz.prog 32 #[.pointer (some ⟨mb, 0, none⟩), .agg #[.string (t.kid 1).kd, .string (t.kid 1).nm, .string (t.kid 1).tg, .int .i64 (t.kid 1).sz, .slice av (t.kid 1).kids.length cv]] w' (GivesT Q (t.kid 1) w')) :=
    fun w' h' => hrec (t.kid 1) av cv below w' hp2 (hE2.keep h') (hkv.keep h') hfv
  have SH : Hid (∀ w', Below W2.heap.size W2 w' → w'.cell? ⟨w.heap.size, 4, none⟩ = some (.slice (some ⟨bu, offu, none⟩) t.kids.length kc) ∧ w'.cell? ⟨bu, offu, none⟩ = some (.string (t.kid 0).kd) ∧ w'.cell? ⟨bu, offu + 1, none⟩ = some (.string (t.kid 0).nm) ∧ w'.cell? ⟨bu, offu + 2, none⟩ = some (.string (t.kid 0).tg) ∧ w'.cell? ⟨bu, offu + 3, none⟩ = some (.int .i64 (t.kid 0).sz) ∧ w'.cell? ⟨bu, offu + 4, none⟩ = some (.slice au (t.kid 0).kids.length cu) ∧ w'.cell? ⟨bu, offu + 5, none⟩ = some (.string (t.kid 1).kd) ∧ w'.cell? ⟨bu, offu + 5 + 1, none⟩ = some (.string (t.kid 1).nm) ∧ w'.cell? ⟨bu, offu + 5 + 2, none⟩ = some (.string (t.kid 1).tg) ∧ w'.cell? ⟨bu, offu + 5 + 3, none⟩ = some (.int .i64 (t.kid 1).sz) ∧ w'.cell? ⟨bu, offu + 5 + 4, none⟩ = some (.slice av (t.kid 1).kids.length cv)) :=
    fun w' h => ⟨cell_below h n4, cell_below h g0, cell_below h g1, cell_below h g2, cell_below h g3, cell_below h g4, cell_below h f0, cell_below h f1, cell_below h f2, cell_below h f3, cell_below h f4⟩
  have HI : Hid (∀ x, TyIs Q t 127 x) := fun x => tyIs_plain (.inr (.inr (.inr (.inr (.inl rfl))))) (by simp [hkd]) (by simp [hkd])
  have hl3 : 0 < t.kids.length := by omega
  have hl4 : 1 < t.kids.length := by omega
  have hl5 : (1 : Int) < (t.kids.length : Int) := by omega
  clear hty hE hk hk2 hE2 hfu hku hfv hkv hlen hpl hb n3 n4 g0 g1 g2 g3 g4 f0 f1 f2 f3 f4 hp1 hp2 hrec
  generalize t.kid 0 = k0 at *
  generalize t.kid 1 = k1 at *
  go_enter Tryz.func32, Tryz.ntmps32
  go_wp2_with fail
  rw [← HW2.out]
  go_region_held3 (fun w' => w'.cell? ⟨w.heap.size, 4, none⟩ = some (.slice (some ⟨bu, offu, none⟩) t.kids.length kc) ∧ w'.cell? ⟨bu, offu, none⟩ = some (.string k0.kd) ∧ w'.cell? ⟨bu, offu + 1, none⟩ = some (.string k0.nm) ∧ w'.cell? ⟨bu, offu + 2, none⟩ = some (.string k0.tg) ∧ w'.cell? ⟨bu, offu + 3, none⟩ = some (.int .i64 k0.sz) ∧ w'.cell? ⟨bu, offu + 4, none⟩ = some (.slice au k0.kids.length cu) ∧ w'.cell? ⟨bu, offu + 5, none⟩ = some (.string k1.kd) ∧ w'.cell? ⟨bu, offu + 5 + 1, none⟩ = some (.string k1.nm) ∧ w'.cell? ⟨bu, offu + 5 + 2, none⟩ = some (.string k1.tg) ∧ w'.cell? ⟨bu, offu + 5 + 3, none⟩ = some (.int .i64 k1.sz) ∧ w'.cell? ⟨bu, offu + 5 + 4, none⟩ = some (.slice av k1.kids.length cv))
    (first | exact SH.out _ ((Below.refl _ _).drew) | exact SH.out _ ((Below.refl _ _).drew.trans hbA) | exact SH.out _ ((Below.refl _ _).drew.trans hbB) | exact SH.out _ (((Below.refl _ _).drew.trans hbA).trans (hbB.mono hbA.size)) | exact SH.out _ (((Below.refl _ _).drew.trans hbB).trans (hbA.mono hbB.size)) | exact SH.out _ ((((Below.refl _ _).drew.trans hbA).trans (hbB.mono hbA.size)).trans (hbS.mono (Nat.le_trans hbA.size hbB.size))) | exact SH.out _ ((((Below.refl _ _).drew.trans hbB).trans (hbA.mono hbB.size)).trans (hbS.mono (Nat.le_trans hbB.size hbA.size))))
    (first | (go_at_call_of 32 k0; refine (C0.out _ ?_).mono ?_; (first | exact (Below.refl _ _).drew | exact (Below.refl _ _).drew.trans hbB); rintro e wA ⟨TA, xA, rfl, hTA, hbA⟩) | (go_at_call_of 32 k1; refine (C1.out _ ?_).mono ?_; (first | exact (Below.refl _ _).drew | exact (Below.refl _ _).drew.trans hbA); rintro e wB ⟨TB, xB, rfl, hTB, hbB⟩) | (go_at_call 57; refine (newMap_any _ _ _ _ _).mono ?_; rintro e wS ⟨rfl, hbS⟩))
  all_goals
    go_wp2
    go_ret
    go_light
    first
    | exact ⟨127, _, rfl, HI.out _, sig_below HB.out hbA hbB hbS⟩
    | exact ⟨127, _, rfl, HI.out _, sig_below HB.out hbB hbA hbS⟩


/-- The contracts of typ and signature, at every depth. -/
theorem typ_all (W : WorldD) (mb : Nat) (most : Int) (Q : TypeId → Value → Prop) (d : Nat) : TypG W mb most Q d ∧ SigG W mb most Q d := by
  induction d with
  | zero => exact ⟨fun t ka kc below w h => Bool.noConfusion h, fun t ka kc below rv w _ h => Bool.noConfusion h⟩
  | succ d ih =>
    refine ⟨?_, signature_any W mb most Q d ih.1⟩
    intro t ka kc below w hty hE hk hf
    by_cases h0 : t.kd.toList = [98, 97, 115, 105, 99]
    · exact typ_basic W mb most Q d t ka kc below w hty hE hk h0
    by_cases h1 : t.kd.toList = [110, 97, 109, 101, 100]
    · exact typ_named W mb most Q d t ka kc below w hty hE hk h1
    by_cases h2 : t.kd.toList = [112, 111, 105, 110, 116, 101, 114]
    · exact typ_pointer W mb most Q d ih.1 t ka kc below w hty hE hk h2
    by_cases h3 : t.kd.toList = [115, 108, 105, 99, 101]
    · exact typ_slice W mb most Q d ih.1 t ka kc below w hty hE hk h3
    by_cases h4 : t.kd.toList = [99, 104, 97, 110]
    · exact typ_chan W mb most Q d ih.1 t ka kc below w hty hE hk h4
    by_cases h5 : t.kd.toList = [115, 101, 110, 100]
    · exact typ_send W mb most Q d ih.1 t ka kc below w hty hE hk h5
    by_cases h6 : t.kd.toList = [114, 101, 99, 118]
    · exact typ_recv W mb most Q d ih.1 t ka kc below w hty hE hk h6
    by_cases h7 : t.kd.toList = [97, 114, 114, 97, 121]
    · exact typ_array W mb most Q d ih.1 t ka kc below w hty hE hk h7
    by_cases h8 : t.kd.toList = [109, 97, 112]
    · exact typ_map W mb most Q d ih.1 t ka kc below w hty hE hk h8
    by_cases h9 : t.kd.toList = [115, 116, 114, 117, 99, 116]
    · exact typ_struct W mb most Q d ih.1 t ka kc below w hty hE hk h9
    by_cases h10 : t.kd.toList = [102, 117, 110, 99]
    · exact typ_func W mb most Q d ih.1 t ka kc below w hty hE hk h10
    by_cases h11 : t.kd.toList = [118, 97, 114, 105, 97, 100, 105, 99]
    · exact typ_variadic W mb most Q d ih.1 t ka kc below w hty hE hk h11
    by_cases h12 : t.kd.toList = [105, 110, 116, 101, 114, 102, 97, 99, 101]
    · exact typ_interface W mb most Q d ih.1 ih.2 t ka kc below w hty hE hk h12
    simp [isTypeB, h0, h1, h2, h3, h4, h5, h6, h7, h8, h9, h10, h11, h12] at hty

end Go.Proofs.YtipmpeekfajlcaaGreatDoor
