/- What is proved: the contracts of spec.IsType and spec.IsObject (kinds other than a declared type). Conditions: the input lies in memory as trees. -/
import Derived.Test.YtipmpeekfajlcaaGreatDoorWa
namespace Go.Proofs.YtipmpeekfajlcaaGreatDoor
open Go.RowKit Go.Proofs

structure ObjD where
  kd : ByteArray
  pkg : Int
  top : Bool
  name : ByteArray
  ty : Ty
  imp : Int
instance : Inhabited ObjD := ⟨⟨ByteArray.empty, 0, false, ByteArray.empty, default, 0⟩⟩
structure ObjD.Fits (o : ObjD) : Prop where
  kd : o.kd.size ≤ 9223372036854775807
  lo : -9223372036854775808 ≤ o.pkg
  hi : o.pkg ≤ 9223372036854775807
  name : o.name.size ≤ 9223372036854775807
  ty : o.ty.Fits
  ilo : -9223372036854775808 ≤ o.imp
  ihi : o.imp ≤ 9223372036854775807

def KindOk (W : WorldD) (o : ObjD) : Prop :=
  (o.kd.toList = [118, 97, 114] ∧ isTypeB W W.decls.length 8 o.ty false = true) ∨
  (o.kd.toList = [112, 97, 114, 97, 109] ∧ isTypeB W W.decls.length 8 o.ty false = true ∧ o.top = false) ∨
  (o.kd.toList = [102, 105, 101, 108, 100] ∧ isTypeB W W.decls.length 8 o.ty false = true ∧ o.top = false) ∨
  (o.kd.toList = [99, 111, 110, 115, 116] ∧ isTypeB W W.decls.length 8 o.ty false = true) ∨
  (o.kd.toList = [102, 117, 110, 99] ∧ isFuncB o.ty = true ∧ isTypeB W W.decls.length 8 o.ty false = true) ∨
  (o.kd.toList = [116, 121, 112, 101] ∧ 0 ≤ o.ty.sz ∧ o.ty.sz < W.decls.length ∧ (W.decl o.ty.sz.toNat).ali = false ∧ (W.decl o.ty.sz.toNat).pkg = o.pkg ∧ (W.decl o.ty.sz.toNat).name = o.name) ∨
  (o.kd.toList = [108, 97, 98, 101, 108] ∧ o.top = false) ∨
  (o.kd.toList = [112, 97, 99, 107, 97, 103, 101] ∧ o.top = false ∧ 0 ≤ o.imp ∧ o.imp < W.pkgs.length)
structure ObjOk (W : WorldD) (o : ObjD) : Prop where
  lo : -1 ≤ o.pkg
  hi : o.pkg < W.pkgs.length
  name : nameB o.name = true
  und : ¬ o.name.toList = [95]
  top : o.top = true → 0 ≤ o.pkg
  kind : KindOk W o

theorem twoNew (w : World) (o1 o2 : Obj) : Below w.heap.size w ((w.alloc o1).alloc o2) := by go_grown
theorem twoThen {w w' : World} {o1 o2 : Obj} (h : Below ((w.alloc o1).alloc o2).heap.size ((w.alloc o1).alloc o2) w') : Below w.heap.size w w' :=
  (twoNew w o1 o2).trans (h.mono (twoNew w o1 o2).size)

theorem objCells {w w' : World} {u0 u1 v0 v1 v2 v3 v4 v5 v6 v7 v8 v9 : Value} (h : Below ((w.alloc (.cells #[u0, u1] 25)).alloc (.cells #[v0, v1, v2, v3, v4, v5, v6, v7, v8, v9] 30)).heap.size ((w.alloc (.cells #[u0, u1] 25)).alloc (.cells #[v0, v1, v2, v3, v4, v5, v6, v7, v8, v9] 30)) w') :
    w'.cell? ⟨w.heap.size + 1, 0, none⟩ = some v0 ∧ w'.cell? ⟨w.heap.size + 1, 1, none⟩ = some v1 ∧ w'.cell? ⟨w.heap.size + 1, 2, none⟩ = some v2 ∧ w'.cell? ⟨w.heap.size + 1, 3, none⟩ = some v3 ∧
    w'.cell? ⟨w.heap.size + 1, 4, none⟩ = some v4 ∧ w'.cell? ⟨w.heap.size + 1, 5, none⟩ = some v5 ∧ w'.cell? ⟨w.heap.size + 1, 6, none⟩ = some v6 ∧ w'.cell? ⟨w.heap.size + 1, 7, none⟩ = some v7 ∧
    w'.cell? ⟨w.heap.size + 1, 8, none⟩ = some v8 ∧ w'.cell? ⟨w.heap.size + 1, 9, none⟩ = some v9 ∧ w'.cell? ⟨w.heap.size, 0, none⟩ = some u0 ∧ w'.cell? ⟨w.heap.size, 1, none⟩ = some u1 :=
  ⟨cell_below h (by simp), cell_below h (by simp), cell_below h (by simp), cell_below h (by simp), cell_below h (by simp), cell_below h (by simp), cell_below h (by simp), cell_below h (by simp), cell_below h (by simp), cell_below h (by simp), cell_below h (by simp), cell_below h (by simp)⟩

abbrev wArg (W : WorldD) (pa da : Option Addr) (pc dc : Nat) : Value := .agg #[.slice pa W.pkgs.length pc, .slice da W.decls.length dc]

set_option maxRecDepth 100000 in
set_option maxHeartbeats 2000000 in
theorem isTypeTop_any (W : WorldD) (pa da : Option Addr) (pc dc : Nat) (np : Nat) (t : Ty) (ka : Option Addr) (kc : Nat) (w : World) (hd : DeclsV w da dc W.decls) (hk : KidsV w ka kc t.kids) (hf : t.Fits) :
    Calls Tryz.prog 14 #[.agg #[.slice pa np pc, .slice da W.decls.length dc], .agg #[.string t.kd, .string t.nm, .string t.tg, .int .i64 t.sz, .slice ka t.kids.length kc]] w
      (Gives (.bool (isTypeB W W.decls.length 8 t false)) w) := by
  have hl1 := hd.hcap
  have hl2 := hd.hmax
  have HD := Lib.hid hd; clear hd
  have HK := Lib.hid hk; clear hk
  have con : ∀ w', Below w.heap.size w w' → Calls Tryz.prog 13 #[.agg #[.slice pa np pc, .slice da W.decls.length dc, .int .i64 W.decls.length], .agg #[.string t.kd, .string t.nm, .string t.tg, .int .i64 t.sz, .slice ka t.kids.length kc], .int .i64 8, .bool false] w' (Gives (.bool (isTypeB W W.decls.length 8 t false)) w') := fun w' hw => isType_calls W pa da pc dc np W.decls.length 8 (by omega) t ka kc false w' (HD.out.keep hw) (HK.out.keep hw) hf
  have CON := Lib.hid con; clear con hf
  go_enter Tryz.func14, Tryz.ntmps14
  go_wp2_with (go_at_call 13; refine (CON.out _ (twoNew _ _ _)).mono ?_; rintro e w' ⟨rfl, hb4⟩)
  go_ret
  go_light
  exact ⟨rfl, twoThen hb4⟩

set_option maxRecDepth 100000 in
set_option maxHeartbeats 8000000 in
theorem isObject_head (W : WorldD) (pa da : Option Addr) (pc dc : Nat) (o : ObjD) (ka : Option Addr) (kc : Nat) (w : World) (hd : DeclsV w da dc W.decls) (hk : KidsV w ka kc o.ty.kids) (hf : o.Fits) (hbad : o.pkg < -1 ∨ (W.pkgs.length : Int) ≤ o.pkg ∨ nameB o.name = false ∨ o.name.toList = [95] ∨ (o.top = true ∧ o.pkg < 0)) :
    Calls Tryz.prog 7 #[.agg #[.slice pa W.pkgs.length pc, .slice da W.decls.length dc], .agg #[.string o.kd, .int .i64 o.pkg, .bool o.top, .string o.name, .string o.ty.kd, .string o.ty.nm, .string o.ty.tg, .int .i64 o.ty.sz, .slice ka o.ty.kids.length kc, .int .i64 o.imp]] w (BoolSuch (ObjOk W o) w) := by
  have hl1 := hd.hcap
  have hl2 := hd.hmax
  have hf1 := hf.kd
  have hf2 := hf.lo
  have hf3 := hf.hi
  have hf4 := hf.name
  have hf5 := hf.ilo
  have hf6 := hf.ihi
  have HFT := Lib.hid hf.ty
  have HD := Lib.hid hd; clear hd
  have HK := Lib.hid hk; clear hk hf
  have cN : ∀ w, Calls Tryz.prog 12 #[.string o.name] w fun e w' => e = .returned (.bool (nameB o.name)) ∧ w = w' := fun w => isName_any _ w hf4
  have CN := Lib.hid cN; clear cN
  generalize hnn : nameB o.name = b2 at *
  clear hnn
  by_cases g1 : o.pkg < -1
  · go_enter Tryz.func7, Tryz.ntmps7
    go_wp2
    go_ret
    go_light
    exact boolNo (twoNew _ _ _)
  by_cases g2 : (W.pkgs.length : Int) ≤ o.pkg
  · go_enter Tryz.func7, Tryz.ntmps7
    go_wp2
    go_ret
    go_light
    exact boolNo (twoNew _ _ _)
  cases b2
  · go_enter Tryz.func7, Tryz.ntmps7
    go_wp2_with (go_at_call 12; refine (CN.out _).mono ?_; rintro e w' ⟨rfl, rfl⟩)
    go_ret
    go_light
    exact boolNo (twoNew _ _ _)
  by_cases g4 : o.name.toList = [95]
  · have g5 : (o.name.toList == [95]) = true := by simp [g4]
    clear g4 hbad
    go_enter Tryz.func7, Tryz.ntmps7
    go_wp2_with (go_at_call 12; refine (CN.out _).mono ?_; rintro e w' ⟨rfl, rfl⟩)
    go_ret
    go_light
    exact boolNo (twoNew _ _ _)
  have g5 : (o.name.toList == [95]) = false := by simp [g4]
  have g6 : o.top = true ∧ o.pkg < 0 := by
    rcases hbad with h | h | h | h | h
    · exact absurd h g1
    · exact absurd h g2
    · cases h
    · exact absurd h g4
    · exact h
  obtain ⟨g6, g7⟩ := g6
  rw [g6]
  clear hbad g4 g6
  go_enter Tryz.func7, Tryz.ntmps7
  go_wp2_with (go_at_call 12; refine (CN.out _).mono ?_; rintro e w' ⟨rfl, rfl⟩)
  go_ret
  go_light
  exact boolNo (twoNew _ _ _)

set_option maxRecDepth 100000 in
set_option maxHeartbeats 8000000 in
theorem isObject_var (W : WorldD) (pa da : Option Addr) (pc dc : Nat) (o : ObjD) (ka : Option Addr) (kc : Nat) (w : World) (hd : DeclsV w da dc W.decls) (hk : KidsV w ka kc o.ty.kids) (hf : o.Fits) (h1 : ¬ o.pkg < -1) (h2 : o.pkg < W.pkgs.length) (h3 : nameB o.name = true) (h4 : ¬ o.name.toList = [95]) (h5 : ¬ (o.top = true ∧ o.pkg < 0)) (hkd : o.kd.toList = [118, 97, 114]) :
    Calls Tryz.prog 7 #[.agg #[.slice pa W.pkgs.length pc, .slice da W.decls.length dc], .agg #[.string o.kd, .int .i64 o.pkg, .bool o.top, .string o.name, .string o.ty.kd, .string o.ty.nm, .string o.ty.tg, .int .i64 o.ty.sz, .slice ka o.ty.kids.length kc, .int .i64 o.imp]] w (BoolSuch (ObjOk W o) w) := by
  have hl1 := hd.hcap
  have hl2 := hd.hmax
  have hf1 := hf.kd
  have hf2 := hf.lo
  have hf3 := hf.hi
  have hf4 := hf.name
  have hf5 := hf.ilo
  have hf6 := hf.ihi
  have HFT := Lib.hid hf.ty
  have HD := Lib.hid hd; clear hd
  have HK := Lib.hid hk; clear hk hf
  have cN : ∀ w, Calls Tryz.prog 12 #[.string o.name] w fun e w' => e = .returned (.bool (nameB o.name)) ∧ w = w' := fun w => isName_any _ w hf4
  have CN := Lib.hid cN; clear cN
  have g5 : (o.name.toList == [95]) = false := by simp [h4]
  have HOK : Hid (KindOk W o → ObjOk W o) := Lib.hid fun h => ⟨by omega, h2, h3, h4, fun ht => by
    by_cases hp : o.pkg < 0
    · exact absurd ⟨ht, hp⟩ h5
    · omega, h⟩
  rw [h3] at CN
  generalize htt : isTypeB W W.decls.length 8 o.ty false = tt
  have cT : ∀ w', Below w.heap.size w w' → Calls Tryz.prog 14 #[.agg #[.slice pa W.pkgs.length pc, .slice da W.decls.length dc], .agg #[.string o.ty.kd, .string o.ty.nm, .string o.ty.tg, .int .i64 o.ty.sz, .slice ka o.ty.kids.length kc]] w' (Gives (.bool tt) w') := fun w' hw => by
    rw [← htt]
    exact isTypeTop_any W pa da pc dc W.pkgs.length o.ty ka kc w' (HD.out.keep hw) (HK.out.keep hw) HFT.out
  have CT := Lib.hid cT; clear cT
  have HK1 : Hid (tt = true → True → KindOk W o) := Lib.hid fun a c => .inl ⟨hkd, htt.trans a⟩
  clear h3 h4 htt
  have hpos : o.top = true → ¬ o.pkg < 0 := fun a b => h5 ⟨a, b⟩
  have g6 : (o.kd.toList == [118, 97, 114]) = true := by simp [hkd]
  clear h5
  cases tt
  all_goals
    by_cases ht : o.top = true
    · have h6 := hpos ht
      rw [ht]
      go_enter Tryz.func7, Tryz.ntmps7
      go_wp2_with (first | (go_at_call 12; refine (CN.out _).mono ?_; rintro e w' ⟨rfl, rfl⟩) | (go_at_call 14; refine (CT.out _ (twoNew _ _ _)).mono ?_; rintro e w' ⟨rfl, hb4⟩; obtain ⟨e0, e1, e2, -⟩ := objCells hb4))
      go_ret
      go_light
      first | exact ⟨_, rfl, fun _ => HOK.out (HK1.out (by trivial) trivial), twoThen hb4⟩ | exact boolNo (twoThen hb4)
    · have ht2 : o.top = false := by simpa using ht
      rw [ht2]
      go_enter Tryz.func7, Tryz.ntmps7
      go_wp2_with (first | (go_at_call 12; refine (CN.out _).mono ?_; rintro e w' ⟨rfl, rfl⟩) | (go_at_call 14; refine (CT.out _ (twoNew _ _ _)).mono ?_; rintro e w' ⟨rfl, hb4⟩; obtain ⟨e0, e1, e2, -⟩ := objCells hb4))
      go_ret
      go_light
      first | exact ⟨_, rfl, fun _ => HOK.out (HK1.out (by trivial) trivial), twoThen hb4⟩ | exact boolNo (twoThen hb4)

set_option maxRecDepth 100000 in
set_option maxHeartbeats 8000000 in
theorem isObject_param (W : WorldD) (pa da : Option Addr) (pc dc : Nat) (o : ObjD) (ka : Option Addr) (kc : Nat) (w : World) (hd : DeclsV w da dc W.decls) (hk : KidsV w ka kc o.ty.kids) (hf : o.Fits) (h1 : ¬ o.pkg < -1) (h2 : o.pkg < W.pkgs.length) (h3 : nameB o.name = true) (h4 : ¬ o.name.toList = [95]) (h5 : ¬ (o.top = true ∧ o.pkg < 0)) (hkd : o.kd.toList = [112, 97, 114, 97, 109]) :
    Calls Tryz.prog 7 #[.agg #[.slice pa W.pkgs.length pc, .slice da W.decls.length dc], .agg #[.string o.kd, .int .i64 o.pkg, .bool o.top, .string o.name, .string o.ty.kd, .string o.ty.nm, .string o.ty.tg, .int .i64 o.ty.sz, .slice ka o.ty.kids.length kc, .int .i64 o.imp]] w (BoolSuch (ObjOk W o) w) := by
  have hl1 := hd.hcap
  have hl2 := hd.hmax
  have hf1 := hf.kd
  have hf2 := hf.lo
  have hf3 := hf.hi
  have hf4 := hf.name
  have hf5 := hf.ilo
  have hf6 := hf.ihi
  have HFT := Lib.hid hf.ty
  have HD := Lib.hid hd; clear hd
  have HK := Lib.hid hk; clear hk hf
  have cN : ∀ w, Calls Tryz.prog 12 #[.string o.name] w fun e w' => e = .returned (.bool (nameB o.name)) ∧ w = w' := fun w => isName_any _ w hf4
  have CN := Lib.hid cN; clear cN
  have g5 : (o.name.toList == [95]) = false := by simp [h4]
  have HOK : Hid (KindOk W o → ObjOk W o) := Lib.hid fun h => ⟨by omega, h2, h3, h4, fun ht => by
    by_cases hp : o.pkg < 0
    · exact absurd ⟨ht, hp⟩ h5
    · omega, h⟩
  rw [h3] at CN
  generalize htt : isTypeB W W.decls.length 8 o.ty false = tt
  have cT : ∀ w', Below w.heap.size w w' → Calls Tryz.prog 14 #[.agg #[.slice pa W.pkgs.length pc, .slice da W.decls.length dc], .agg #[.string o.ty.kd, .string o.ty.nm, .string o.ty.tg, .int .i64 o.ty.sz, .slice ka o.ty.kids.length kc]] w' (Gives (.bool tt) w') := fun w' hw => by
    rw [← htt]
    exact isTypeTop_any W pa da pc dc W.pkgs.length o.ty ka kc w' (HD.out.keep hw) (HK.out.keep hw) HFT.out
  have CT := Lib.hid cT; clear cT
  have HK1 : Hid (tt = true → o.top = false → KindOk W o) := Lib.hid fun a c => .inr (.inl ⟨hkd, htt.trans a, c⟩)
  clear h3 h4 htt
  have hpos : o.top = true → ¬ o.pkg < 0 := fun a b => h5 ⟨a, b⟩
  have g6 : (o.kd.toList == [112, 97, 114, 97, 109]) = true := by simp [hkd]
  clear h5
  cases tt
  all_goals
    by_cases ht : o.top = true
    · have h6 := hpos ht
      rw [ht]
      go_enter Tryz.func7, Tryz.ntmps7
      go_wp2_with (first | (go_at_call 12; refine (CN.out _).mono ?_; rintro e w' ⟨rfl, rfl⟩) | (go_at_call 14; refine (CT.out _ (twoNew _ _ _)).mono ?_; rintro e w' ⟨rfl, hb4⟩; obtain ⟨e0, e1, e2, -⟩ := objCells hb4))
      go_ret
      go_light
      exact boolNo (twoThen hb4)
    · have ht2 : o.top = false := by simpa using ht
      rw [ht2]
      go_enter Tryz.func7, Tryz.ntmps7
      go_wp2_with (first | (go_at_call 12; refine (CN.out _).mono ?_; rintro e w' ⟨rfl, rfl⟩) | (go_at_call 14; refine (CT.out _ (twoNew _ _ _)).mono ?_; rintro e w' ⟨rfl, hb4⟩; obtain ⟨e0, e1, e2, -⟩ := objCells hb4))
      go_ret
      go_light
      first | exact ⟨_, rfl, fun _ => HOK.out (HK1.out (by trivial) ht2), twoThen hb4⟩ | exact boolNo (twoThen hb4)

set_option maxRecDepth 100000 in
set_option maxHeartbeats 8000000 in
theorem isObject_field (W : WorldD) (pa da : Option Addr) (pc dc : Nat) (o : ObjD) (ka : Option Addr) (kc : Nat) (w : World) (hd : DeclsV w da dc W.decls) (hk : KidsV w ka kc o.ty.kids) (hf : o.Fits) (h1 : ¬ o.pkg < -1) (h2 : o.pkg < W.pkgs.length) (h3 : nameB o.name = true) (h4 : ¬ o.name.toList = [95]) (h5 : ¬ (o.top = true ∧ o.pkg < 0)) (hkd : o.kd.toList = [102, 105, 101, 108, 100]) :
    Calls Tryz.prog 7 #[.agg #[.slice pa W.pkgs.length pc, .slice da W.decls.length dc], .agg #[.string o.kd, .int .i64 o.pkg, .bool o.top, .string o.name, .string o.ty.kd, .string o.ty.nm, .string o.ty.tg, .int .i64 o.ty.sz, .slice ka o.ty.kids.length kc, .int .i64 o.imp]] w (BoolSuch (ObjOk W o) w) := by
  have hl1 := hd.hcap
  have hl2 := hd.hmax
  have hf1 := hf.kd
  have hf2 := hf.lo
  have hf3 := hf.hi
  have hf4 := hf.name
  have hf5 := hf.ilo
  have hf6 := hf.ihi
  have HFT := Lib.hid hf.ty
  have HD := Lib.hid hd; clear hd
  have HK := Lib.hid hk; clear hk hf
  have cN : ∀ w, Calls Tryz.prog 12 #[.string o.name] w fun e w' => e = .returned (.bool (nameB o.name)) ∧ w = w' := fun w => isName_any _ w hf4
  have CN := Lib.hid cN; clear cN
  have g5 : (o.name.toList == [95]) = false := by simp [h4]
  have HOK : Hid (KindOk W o → ObjOk W o) := Lib.hid fun h => ⟨by omega, h2, h3, h4, fun ht => by
    by_cases hp : o.pkg < 0
    · exact absurd ⟨ht, hp⟩ h5
    · omega, h⟩
  rw [h3] at CN
  generalize htt : isTypeB W W.decls.length 8 o.ty false = tt
  have cT : ∀ w', Below w.heap.size w w' → Calls Tryz.prog 14 #[.agg #[.slice pa W.pkgs.length pc, .slice da W.decls.length dc], .agg #[.string o.ty.kd, .string o.ty.nm, .string o.ty.tg, .int .i64 o.ty.sz, .slice ka o.ty.kids.length kc]] w' (Gives (.bool tt) w') := fun w' hw => by
    rw [← htt]
    exact isTypeTop_any W pa da pc dc W.pkgs.length o.ty ka kc w' (HD.out.keep hw) (HK.out.keep hw) HFT.out
  have CT := Lib.hid cT; clear cT
  have HK1 : Hid (tt = true → o.top = false → KindOk W o) := Lib.hid fun a c => .inr (.inr (.inl ⟨hkd, htt.trans a, c⟩))
  clear h3 h4 htt
  have hpos : o.top = true → ¬ o.pkg < 0 := fun a b => h5 ⟨a, b⟩
  have g6 : (o.kd.toList == [102, 105, 101, 108, 100]) = true := by simp [hkd]
  clear h5
  cases tt
  all_goals
    by_cases ht : o.top = true
    · have h6 := hpos ht
      rw [ht]
      go_enter Tryz.func7, Tryz.ntmps7
      go_wp2_with (first | (go_at_call 12; refine (CN.out _).mono ?_; rintro e w' ⟨rfl, rfl⟩) | (go_at_call 14; refine (CT.out _ (twoNew _ _ _)).mono ?_; rintro e w' ⟨rfl, hb4⟩; obtain ⟨e0, e1, e2, -⟩ := objCells hb4))
      go_ret
      go_light
      exact boolNo (twoThen hb4)
    · have ht2 : o.top = false := by simpa using ht
      rw [ht2]
      go_enter Tryz.func7, Tryz.ntmps7
      go_wp2_with (first | (go_at_call 12; refine (CN.out _).mono ?_; rintro e w' ⟨rfl, rfl⟩) | (go_at_call 14; refine (CT.out _ (twoNew _ _ _)).mono ?_; rintro e w' ⟨rfl, hb4⟩; obtain ⟨e0, e1, e2, -⟩ := objCells hb4))
      go_ret
      go_light
      first | exact ⟨_, rfl, fun _ => HOK.out (HK1.out (by trivial) ht2), twoThen hb4⟩ | exact boolNo (twoThen hb4)

set_option maxRecDepth 100000 in
set_option maxHeartbeats 8000000 in
theorem isObject_const (W : WorldD) (pa da : Option Addr) (pc dc : Nat) (o : ObjD) (ka : Option Addr) (kc : Nat) (w : World) (hd : DeclsV w da dc W.decls) (hk : KidsV w ka kc o.ty.kids) (hf : o.Fits) (h1 : ¬ o.pkg < -1) (h2 : o.pkg < W.pkgs.length) (h3 : nameB o.name = true) (h4 : ¬ o.name.toList = [95]) (h5 : ¬ (o.top = true ∧ o.pkg < 0)) (hkd : o.kd.toList = [99, 111, 110, 115, 116]) :
    Calls Tryz.prog 7 #[.agg #[.slice pa W.pkgs.length pc, .slice da W.decls.length dc], .agg #[.string o.kd, .int .i64 o.pkg, .bool o.top, .string o.name, .string o.ty.kd, .string o.ty.nm, .string o.ty.tg, .int .i64 o.ty.sz, .slice ka o.ty.kids.length kc, .int .i64 o.imp]] w (BoolSuch (ObjOk W o) w) := by
  have hl1 := hd.hcap
  have hl2 := hd.hmax
  have hf1 := hf.kd
  have hf2 := hf.lo
  have hf3 := hf.hi
  have hf4 := hf.name
  have hf5 := hf.ilo
  have hf6 := hf.ihi
  have HFT := Lib.hid hf.ty
  have HD := Lib.hid hd; clear hd
  have HK := Lib.hid hk; clear hk hf
  have cN : ∀ w, Calls Tryz.prog 12 #[.string o.name] w fun e w' => e = .returned (.bool (nameB o.name)) ∧ w = w' := fun w => isName_any _ w hf4
  have CN := Lib.hid cN; clear cN
  have g5 : (o.name.toList == [95]) = false := by simp [h4]
  have HOK : Hid (KindOk W o → ObjOk W o) := Lib.hid fun h => ⟨by omega, h2, h3, h4, fun ht => by
    by_cases hp : o.pkg < 0
    · exact absurd ⟨ht, hp⟩ h5
    · omega, h⟩
  rw [h3] at CN
  generalize htt : isTypeB W W.decls.length 8 o.ty false = tt
  have cT : ∀ w', Below w.heap.size w w' → Calls Tryz.prog 14 #[.agg #[.slice pa W.pkgs.length pc, .slice da W.decls.length dc], .agg #[.string o.ty.kd, .string o.ty.nm, .string o.ty.tg, .int .i64 o.ty.sz, .slice ka o.ty.kids.length kc]] w' (Gives (.bool tt) w') := fun w' hw => by
    rw [← htt]
    exact isTypeTop_any W pa da pc dc W.pkgs.length o.ty ka kc w' (HD.out.keep hw) (HK.out.keep hw) HFT.out
  have CT := Lib.hid cT; clear cT
  have HK1 : Hid (tt = true → KindOk W o) := Lib.hid fun a => .inr (.inr (.inr (.inl ⟨hkd, htt.trans a⟩)))
  clear h3 h4 htt
  have hpos : o.top = true → ¬ o.pkg < 0 := fun a b => h5 ⟨a, b⟩
  have g6 : (o.kd.toList == [99, 111, 110, 115, 116]) = true := by simp [hkd]
  clear h5
  have g7 : (o.ty.kd.toList == [98, 97, 115, 105, 99]) = true ∨ (o.ty.kd.toList == [98, 97, 115, 105, 99]) = false := by cases (o.ty.kd.toList == [98, 97, 115, 105, 99]) <;> simp
  rcases g7 with g7 | g7
  · cases tt
    all_goals
      by_cases ht : o.top = true
      · have h6 := hpos ht
        rw [ht]
        go_enter Tryz.func7, Tryz.ntmps7
        go_wp2_with (first | (go_at_call 12; refine (CN.out _).mono ?_; rintro e w' ⟨rfl, rfl⟩) | (go_at_call 14; refine (CT.out _ (twoNew _ _ _)).mono ?_; rintro e w' ⟨rfl, hb4⟩; obtain ⟨e0, e1, e2, -⟩ := objCells hb4))
        go_ret
        go_light
        first | exact ⟨_, rfl, fun _ => HOK.out (HK1.out (by trivial)), twoThen hb4⟩ | exact boolNo (twoThen hb4)
      · have ht2 : o.top = false := by simpa using ht
        rw [ht2]
        go_enter Tryz.func7, Tryz.ntmps7
        go_wp2_with (first | (go_at_call 12; refine (CN.out _).mono ?_; rintro e w' ⟨rfl, rfl⟩) | (go_at_call 14; refine (CT.out _ (twoNew _ _ _)).mono ?_; rintro e w' ⟨rfl, hb4⟩; obtain ⟨e0, e1, e2, -⟩ := objCells hb4))
        go_ret
        go_light
        first | exact ⟨_, rfl, fun _ => HOK.out (HK1.out (by trivial)), twoThen hb4⟩ | exact boolNo (twoThen hb4)
  · by_cases ht : o.top = true
    · have h6 := hpos ht
      rw [ht]
      go_enter Tryz.func7, Tryz.ntmps7
      go_wp2_with (first | (go_at_call 12; refine (CN.out _).mono ?_; rintro e w' ⟨rfl, rfl⟩) | (go_at_call 14; refine (CT.out _ (twoNew _ _ _)).mono ?_; rintro e w' ⟨rfl, hb4⟩; obtain ⟨e0, e1, e2, -⟩ := objCells hb4))
      go_ret
      go_light
      exact boolNo (twoNew _ _ _)
    · have ht2 : o.top = false := by simpa using ht
      rw [ht2]
      go_enter Tryz.func7, Tryz.ntmps7
      go_wp2_with (first | (go_at_call 12; refine (CN.out _).mono ?_; rintro e w' ⟨rfl, rfl⟩) | (go_at_call 14; refine (CT.out _ (twoNew _ _ _)).mono ?_; rintro e w' ⟨rfl, hb4⟩; obtain ⟨e0, e1, e2, -⟩ := objCells hb4))
      go_ret
      go_light
      exact boolNo (twoNew _ _ _)

set_option maxRecDepth 100000 in
set_option maxHeartbeats 8000000 in
theorem isObject_func (W : WorldD) (pa da : Option Addr) (pc dc : Nat) (o : ObjD) (ka : Option Addr) (kc : Nat) (w : World) (hd : DeclsV w da dc W.decls) (hk : KidsV w ka kc o.ty.kids) (hf : o.Fits) (h1 : ¬ o.pkg < -1) (h2 : o.pkg < W.pkgs.length) (h3 : nameB o.name = true) (h4 : ¬ o.name.toList = [95]) (h5 : ¬ (o.top = true ∧ o.pkg < 0)) (hkd : o.kd.toList = [102, 117, 110, 99]) :
    Calls Tryz.prog 7 #[.agg #[.slice pa W.pkgs.length pc, .slice da W.decls.length dc], .agg #[.string o.kd, .int .i64 o.pkg, .bool o.top, .string o.name, .string o.ty.kd, .string o.ty.nm, .string o.ty.tg, .int .i64 o.ty.sz, .slice ka o.ty.kids.length kc, .int .i64 o.imp]] w (BoolSuch (ObjOk W o) w) := by
  have hl1 := hd.hcap
  have hl2 := hd.hmax
  have hf1 := hf.kd
  have hf2 := hf.lo
  have hf3 := hf.hi
  have hf4 := hf.name
  have hf5 := hf.ilo
  have hf6 := hf.ihi
  have HFT := Lib.hid hf.ty
  have HD := Lib.hid hd; clear hd
  have HK := Lib.hid hk; clear hk hf
  have cN : ∀ w, Calls Tryz.prog 12 #[.string o.name] w fun e w' => e = .returned (.bool (nameB o.name)) ∧ w = w' := fun w => isName_any _ w hf4
  have CN := Lib.hid cN; clear cN
  have g5 : (o.name.toList == [95]) = false := by simp [h4]
  have HOK : Hid (KindOk W o → ObjOk W o) := Lib.hid fun h => ⟨by omega, h2, h3, h4, fun ht => by
    by_cases hp : o.pkg < 0
    · exact absurd ⟨ht, hp⟩ h5
    · omega, h⟩
  rw [h3] at CN
  generalize htt : isTypeB W W.decls.length 8 o.ty false = tt
  have cT : ∀ w', Below w.heap.size w w' → Calls Tryz.prog 14 #[.agg #[.slice pa W.pkgs.length pc, .slice da W.decls.length dc], .agg #[.string o.ty.kd, .string o.ty.nm, .string o.ty.tg, .int .i64 o.ty.sz, .slice ka o.ty.kids.length kc]] w' (Gives (.bool tt) w') := fun w' hw => by
    rw [← htt]
    exact isTypeTop_any W pa da pc dc W.pkgs.length o.ty ka kc w' (HD.out.keep hw) (HK.out.keep hw) HFT.out
  have CT := Lib.hid cT; clear cT
  have HK1 : Hid (isFuncB o.ty = true → tt = true → KindOk W o) := Lib.hid fun a c => .inr (.inr (.inr (.inr (.inl ⟨hkd, a, htt.trans c⟩))))
  clear h3 h4 htt
  have hpos : o.top = true → ¬ o.pkg < 0 := fun a b => h5 ⟨a, b⟩
  have g6 : (o.kd.toList == [102, 117, 110, 99]) = true := by simp [hkd]
  clear h5
  have cF : ∀ w', Calls Tryz.prog 15 #[.agg #[.string o.ty.kd, .string o.ty.nm, .string o.ty.tg, .int .i64 o.ty.sz, .slice ka o.ty.kids.length kc]] w' (Gives (.bool (isFuncB o.ty)) w') := fun w' => isFunc_any o.ty ka kc w'
  have CF := Lib.hid cF; clear cF
  generalize isFuncB o.ty = ff at *
  cases ff
  · by_cases ht : o.top = true
    · have h6 := hpos ht
      rw [ht]
      go_enter Tryz.func7, Tryz.ntmps7
      go_wp2_with (first | (go_at_call 12; refine (CN.out _).mono ?_; rintro e w' ⟨rfl, rfl⟩) | (go_at_call 15; refine (CF.out _).mono ?_; rintro e w5 ⟨rfl, hb5⟩; obtain ⟨e0, e1, e2, e3, e4, e5, e6, e7, e8, e9, k0, k1⟩ := objCells hb5) | (go_at_call 14; refine (CT.out _ (twoThen hb5)).mono ?_; rintro e w' ⟨rfl, hb4⟩; obtain ⟨f0, f1, f2, -⟩ := objCells (hb5.trans (hb4.mono hb5.size))))
      go_ret
      go_light
      exact boolNo (twoThen hb5)
    · have ht2 : o.top = false := by simpa using ht
      rw [ht2]
      go_enter Tryz.func7, Tryz.ntmps7
      go_wp2_with (first | (go_at_call 12; refine (CN.out _).mono ?_; rintro e w' ⟨rfl, rfl⟩) | (go_at_call 15; refine (CF.out _).mono ?_; rintro e w5 ⟨rfl, hb5⟩; obtain ⟨e0, e1, e2, e3, e4, e5, e6, e7, e8, e9, k0, k1⟩ := objCells hb5) | (go_at_call 14; refine (CT.out _ (twoThen hb5)).mono ?_; rintro e w' ⟨rfl, hb4⟩; obtain ⟨f0, f1, f2, -⟩ := objCells (hb5.trans (hb4.mono hb5.size))))
      go_ret
      go_light
      exact boolNo (twoThen hb5)
  cases tt
  all_goals
    by_cases ht : o.top = true
    · have h6 := hpos ht
      rw [ht]
      go_enter Tryz.func7, Tryz.ntmps7
      go_wp2_with (first | (go_at_call 12; refine (CN.out _).mono ?_; rintro e w' ⟨rfl, rfl⟩) | (go_at_call 15; refine (CF.out _).mono ?_; rintro e w5 ⟨rfl, hb5⟩; obtain ⟨e0, e1, e2, e3, e4, e5, e6, e7, e8, e9, k0, k1⟩ := objCells hb5) | (go_at_call 14; refine (CT.out _ (twoThen hb5)).mono ?_; rintro e w' ⟨rfl, hb4⟩; obtain ⟨f0, f1, f2, -⟩ := objCells (hb5.trans (hb4.mono hb5.size))))
      go_ret
      go_light
      first | exact ⟨_, rfl, fun _ => HOK.out (HK1.out (by trivial) (by trivial)), twoThen (hb5.trans (hb4.mono hb5.size))⟩ | exact boolNo (twoThen (hb5.trans (hb4.mono hb5.size)))
    · have ht2 : o.top = false := by simpa using ht
      rw [ht2]
      go_enter Tryz.func7, Tryz.ntmps7
      go_wp2_with (first | (go_at_call 12; refine (CN.out _).mono ?_; rintro e w' ⟨rfl, rfl⟩) | (go_at_call 15; refine (CF.out _).mono ?_; rintro e w5 ⟨rfl, hb5⟩; obtain ⟨e0, e1, e2, e3, e4, e5, e6, e7, e8, e9, k0, k1⟩ := objCells hb5) | (go_at_call 14; refine (CT.out _ (twoThen hb5)).mono ?_; rintro e w' ⟨rfl, hb4⟩; obtain ⟨f0, f1, f2, -⟩ := objCells (hb5.trans (hb4.mono hb5.size))))
      go_ret
      go_light
      first | exact ⟨_, rfl, fun _ => HOK.out (HK1.out (by trivial) (by trivial)), twoThen (hb5.trans (hb4.mono hb5.size))⟩ | exact boolNo (twoThen (hb5.trans (hb4.mono hb5.size)))

set_option maxRecDepth 100000 in
set_option maxHeartbeats 8000000 in
theorem isObject_label (W : WorldD) (pa da : Option Addr) (pc dc : Nat) (o : ObjD) (ka : Option Addr) (kc : Nat) (w : World) (hd : DeclsV w da dc W.decls) (hk : KidsV w ka kc o.ty.kids) (hf : o.Fits) (h1 : ¬ o.pkg < -1) (h2 : o.pkg < W.pkgs.length) (h3 : nameB o.name = true) (h4 : ¬ o.name.toList = [95]) (h5 : ¬ (o.top = true ∧ o.pkg < 0)) (hkd : o.kd.toList = [108, 97, 98, 101, 108]) :
    Calls Tryz.prog 7 #[.agg #[.slice pa W.pkgs.length pc, .slice da W.decls.length dc], .agg #[.string o.kd, .int .i64 o.pkg, .bool o.top, .string o.name, .string o.ty.kd, .string o.ty.nm, .string o.ty.tg, .int .i64 o.ty.sz, .slice ka o.ty.kids.length kc, .int .i64 o.imp]] w (BoolSuch (ObjOk W o) w) := by
  have hl1 := hd.hcap
  have hl2 := hd.hmax
  have hf1 := hf.kd
  have hf2 := hf.lo
  have hf3 := hf.hi
  have hf4 := hf.name
  have hf5 := hf.ilo
  have hf6 := hf.ihi
  have HFT := Lib.hid hf.ty
  have HD := Lib.hid hd; clear hd
  have HK := Lib.hid hk; clear hk hf
  have cN : ∀ w, Calls Tryz.prog 12 #[.string o.name] w fun e w' => e = .returned (.bool (nameB o.name)) ∧ w = w' := fun w => isName_any _ w hf4
  have CN := Lib.hid cN; clear cN
  have g5 : (o.name.toList == [95]) = false := by simp [h4]
  have HOK : Hid (KindOk W o → ObjOk W o) := Lib.hid fun h => ⟨by omega, h2, h3, h4, fun ht => by
    by_cases hp : o.pkg < 0
    · exact absurd ⟨ht, hp⟩ h5
    · omega, h⟩
  rw [h3] at CN
  generalize htt : isTypeB W W.decls.length 8 o.ty false = tt
  have cT : ∀ w', Below w.heap.size w w' → Calls Tryz.prog 14 #[.agg #[.slice pa W.pkgs.length pc, .slice da W.decls.length dc], .agg #[.string o.ty.kd, .string o.ty.nm, .string o.ty.tg, .int .i64 o.ty.sz, .slice ka o.ty.kids.length kc]] w' (Gives (.bool tt) w') := fun w' hw => by
    rw [← htt]
    exact isTypeTop_any W pa da pc dc W.pkgs.length o.ty ka kc w' (HD.out.keep hw) (HK.out.keep hw) HFT.out
  have CT := Lib.hid cT; clear cT
  have HK1 : Hid (o.top = false → KindOk W o) := Lib.hid fun a => .inr (.inr (.inr (.inr (.inr (.inr (.inl ⟨hkd, a⟩))))))
  clear h3 h4 htt
  have hpos : o.top = true → ¬ o.pkg < 0 := fun a b => h5 ⟨a, b⟩
  have g6 : (o.kd.toList == [108, 97, 98, 101, 108]) = true := by simp [hkd]
  clear h5
  by_cases ht : o.top = true
  · have h6 := hpos ht
    rw [ht]
    go_enter Tryz.func7, Tryz.ntmps7
    go_wp2_with (first | (go_at_call 12; refine (CN.out _).mono ?_; rintro e w' ⟨rfl, rfl⟩) | (go_at_call 14; refine (CT.out _ (twoNew _ _ _)).mono ?_; rintro e w' ⟨rfl, hb4⟩; obtain ⟨e0, e1, e2, -⟩ := objCells hb4))
    go_ret
    go_light
    exact boolNo (twoNew _ _ _)
  · have ht2 : o.top = false := by simpa using ht
    rw [ht2]
    go_enter Tryz.func7, Tryz.ntmps7
    go_wp2_with (first | (go_at_call 12; refine (CN.out _).mono ?_; rintro e w' ⟨rfl, rfl⟩) | (go_at_call 14; refine (CT.out _ (twoNew _ _ _)).mono ?_; rintro e w' ⟨rfl, hb4⟩; obtain ⟨e0, e1, e2, -⟩ := objCells hb4))
    go_ret
    go_light
    exact ⟨_, rfl, fun _ => HOK.out (HK1.out ht2), twoNew _ _ _⟩

set_option maxRecDepth 100000 in
set_option maxHeartbeats 8000000 in
theorem isObject_package (W : WorldD) (pa da : Option Addr) (pc dc : Nat) (o : ObjD) (ka : Option Addr) (kc : Nat) (w : World) (hd : DeclsV w da dc W.decls) (hk : KidsV w ka kc o.ty.kids) (hf : o.Fits) (h1 : ¬ o.pkg < -1) (h2 : o.pkg < W.pkgs.length) (h3 : nameB o.name = true) (h4 : ¬ o.name.toList = [95]) (h5 : ¬ (o.top = true ∧ o.pkg < 0)) (hkd : o.kd.toList = [112, 97, 99, 107, 97, 103, 101]) :
    Calls Tryz.prog 7 #[.agg #[.slice pa W.pkgs.length pc, .slice da W.decls.length dc], .agg #[.string o.kd, .int .i64 o.pkg, .bool o.top, .string o.name, .string o.ty.kd, .string o.ty.nm, .string o.ty.tg, .int .i64 o.ty.sz, .slice ka o.ty.kids.length kc, .int .i64 o.imp]] w (BoolSuch (ObjOk W o) w) := by
  have hl1 := hd.hcap
  have hl2 := hd.hmax
  have hf1 := hf.kd
  have hf2 := hf.lo
  have hf3 := hf.hi
  have hf4 := hf.name
  have hf5 := hf.ilo
  have hf6 := hf.ihi
  have HFT := Lib.hid hf.ty
  have HD := Lib.hid hd; clear hd
  have HK := Lib.hid hk; clear hk hf
  have cN : ∀ w, Calls Tryz.prog 12 #[.string o.name] w fun e w' => e = .returned (.bool (nameB o.name)) ∧ w = w' := fun w => isName_any _ w hf4
  have CN := Lib.hid cN; clear cN
  have g5 : (o.name.toList == [95]) = false := by simp [h4]
  have HOK : Hid (KindOk W o → ObjOk W o) := Lib.hid fun h => ⟨by omega, h2, h3, h4, fun ht => by
    by_cases hp : o.pkg < 0
    · exact absurd ⟨ht, hp⟩ h5
    · omega, h⟩
  rw [h3] at CN
  generalize htt : isTypeB W W.decls.length 8 o.ty false = tt
  have cT : ∀ w', Below w.heap.size w w' → Calls Tryz.prog 14 #[.agg #[.slice pa W.pkgs.length pc, .slice da W.decls.length dc], .agg #[.string o.ty.kd, .string o.ty.nm, .string o.ty.tg, .int .i64 o.ty.sz, .slice ka o.ty.kids.length kc]] w' (Gives (.bool tt) w') := fun w' hw => by
    rw [← htt]
    exact isTypeTop_any W pa da pc dc W.pkgs.length o.ty ka kc w' (HD.out.keep hw) (HK.out.keep hw) HFT.out
  have CT := Lib.hid cT; clear cT
  have HK1 : Hid (o.top = false → 0 ≤ o.imp → o.imp < W.pkgs.length → KindOk W o) := Lib.hid fun a b c => .inr (.inr (.inr (.inr (.inr (.inr (.inr (⟨hkd, a, b, c⟩)))))))
  clear h3 h4 htt
  have hpos : o.top = true → ¬ o.pkg < 0 := fun a b => h5 ⟨a, b⟩
  have g6 : (o.kd.toList == [112, 97, 99, 107, 97, 103, 101]) = true := by simp [hkd]
  clear h5
  by_cases ht : o.top = true
  · have h6 := hpos ht
    rw [ht]
    go_enter Tryz.func7, Tryz.ntmps7
    go_wp2_with (first | (go_at_call 12; refine (CN.out _).mono ?_; rintro e w' ⟨rfl, rfl⟩) | (go_at_call 14; refine (CT.out _ (twoNew _ _ _)).mono ?_; rintro e w' ⟨rfl, hb4⟩; obtain ⟨e0, e1, e2, -⟩ := objCells hb4))
    go_ret
    go_light
    exact boolNo (twoNew _ _ _)
  · have ht2 : o.top = false := by simpa using ht
    rw [ht2]
    by_cases hi1 : o.imp < 0
    · go_enter Tryz.func7, Tryz.ntmps7
      go_wp2_with (first | (go_at_call 12; refine (CN.out _).mono ?_; rintro e w' ⟨rfl, rfl⟩) | (go_at_call 14; refine (CT.out _ (twoNew _ _ _)).mono ?_; rintro e w' ⟨rfl, hb4⟩; obtain ⟨e0, e1, e2, -⟩ := objCells hb4))
      go_ret
      go_light
      exact boolNo (twoNew _ _ _)
    by_cases hi2 : o.imp < (W.pkgs.length : Int)
    · go_enter Tryz.func7, Tryz.ntmps7
      go_wp2_with (first | (go_at_call 12; refine (CN.out _).mono ?_; rintro e w' ⟨rfl, rfl⟩) | (go_at_call 14; refine (CT.out _ (twoNew _ _ _)).mono ?_; rintro e w' ⟨rfl, hb4⟩; obtain ⟨e0, e1, e2, -⟩ := objCells hb4))
      go_ret
      go_light
      exact ⟨_, rfl, fun _ => HOK.out (HK1.out ht2 (by omega) hi2), twoNew _ _ _⟩
    · go_enter Tryz.func7, Tryz.ntmps7
      go_wp2_with (first | (go_at_call 12; refine (CN.out _).mono ?_; rintro e w' ⟨rfl, rfl⟩) | (go_at_call 14; refine (CT.out _ (twoNew _ _ _)).mono ?_; rintro e w' ⟨rfl, hb4⟩; obtain ⟨e0, e1, e2, -⟩ := objCells hb4))
      go_ret
      go_light
      exact ⟨_, rfl, fun h => by
        have h' : o.imp < (W.pkgs.length : Int) := by simpa using h
        omega, twoNew _ _ _⟩

set_option maxRecDepth 100000 in
set_option maxHeartbeats 8000000 in
theorem isObject_other (W : WorldD) (pa da : Option Addr) (pc dc : Nat) (o : ObjD) (ka : Option Addr) (kc : Nat) (w : World) (hd : DeclsV w da dc W.decls) (hk : KidsV w ka kc o.ty.kids) (hf : o.Fits) (h1 : ¬ o.pkg < -1) (h2 : o.pkg < W.pkgs.length) (h3 : nameB o.name = true) (h4 : ¬ o.name.toList = [95]) (h5 : ¬ (o.top = true ∧ o.pkg < 0)) (h10 : ¬ o.kd.toList = [118, 97, 114]) (h11 : ¬ o.kd.toList = [112, 97, 114, 97, 109]) (h12 : ¬ o.kd.toList = [102, 105, 101, 108, 100]) (h13 : ¬ o.kd.toList = [99, 111, 110, 115, 116]) (h14 : ¬ o.kd.toList = [102, 117, 110, 99]) (h15 : ¬ o.kd.toList = [116, 121, 112, 101]) (h16 : ¬ o.kd.toList = [108, 97, 98, 101, 108]) (h17 : ¬ o.kd.toList = [112, 97, 99, 107, 97, 103, 101]) :
    Calls Tryz.prog 7 #[.agg #[.slice pa W.pkgs.length pc, .slice da W.decls.length dc], .agg #[.string o.kd, .int .i64 o.pkg, .bool o.top, .string o.name, .string o.ty.kd, .string o.ty.nm, .string o.ty.tg, .int .i64 o.ty.sz, .slice ka o.ty.kids.length kc, .int .i64 o.imp]] w (BoolSuch (ObjOk W o) w) := by
  have hl1 := hd.hcap
  have hl2 := hd.hmax
  have hf1 := hf.kd
  have hf2 := hf.lo
  have hf3 := hf.hi
  have hf4 := hf.name
  have hf5 := hf.ilo
  have hf6 := hf.ihi
  have HFT := Lib.hid hf.ty
  have HD := Lib.hid hd; clear hd
  have HK := Lib.hid hk; clear hk hf
  have cN : ∀ w, Calls Tryz.prog 12 #[.string o.name] w fun e w' => e = .returned (.bool (nameB o.name)) ∧ w = w' := fun w => isName_any _ w hf4
  have CN := Lib.hid cN; clear cN
  have g5 : (o.name.toList == [95]) = false := by simp [h4]
  have HOK : Hid (KindOk W o → ObjOk W o) := Lib.hid fun h => ⟨by omega, h2, h3, h4, fun ht => by
    by_cases hp : o.pkg < 0
    · exact absurd ⟨ht, hp⟩ h5
    · omega, h⟩
  rw [h3] at CN
  generalize htt : isTypeB W W.decls.length 8 o.ty false = tt
  have cT : ∀ w', Below w.heap.size w w' → Calls Tryz.prog 14 #[.agg #[.slice pa W.pkgs.length pc, .slice da W.decls.length dc], .agg #[.string o.ty.kd, .string o.ty.nm, .string o.ty.tg, .int .i64 o.ty.sz, .slice ka o.ty.kids.length kc]] w' (Gives (.bool tt) w') := fun w' hw => by
    rw [← htt]
    exact isTypeTop_any W pa da pc dc W.pkgs.length o.ty ka kc w' (HD.out.keep hw) (HK.out.keep hw) HFT.out
  have CT := Lib.hid cT; clear cT
  clear h3 h4 htt
  have hpos : o.top = true → ¬ o.pkg < 0 := fun a b => h5 ⟨a, b⟩
  have k0 : (o.kd.toList == [118, 97, 114]) = false := by simp [h10]
  have k1 : (o.kd.toList == [112, 97, 114, 97, 109]) = false := by simp [h11]
  have k2 : (o.kd.toList == [102, 105, 101, 108, 100]) = false := by simp [h12]
  have k3 : (o.kd.toList == [99, 111, 110, 115, 116]) = false := by simp [h13]
  have k4 : (o.kd.toList == [102, 117, 110, 99]) = false := by simp [h14]
  have k5 : (o.kd.toList == [116, 121, 112, 101]) = false := by simp [h15]
  have k6 : (o.kd.toList == [108, 97, 98, 101, 108]) = false := by simp [h16]
  have k7 : (o.kd.toList == [112, 97, 99, 107, 97, 103, 101]) = false := by simp [h17]
  clear h5
  by_cases ht : o.top = true
  · have h6 := hpos ht
    rw [ht]
    go_enter Tryz.func7, Tryz.ntmps7
    go_wp2_with (first | (go_at_call 12; refine (CN.out _).mono ?_; rintro e w' ⟨rfl, rfl⟩) | (go_at_call 14; refine (CT.out _ (twoNew _ _ _)).mono ?_; rintro e w' ⟨rfl, hb4⟩; obtain ⟨e0, e1, e2, -⟩ := objCells hb4))
    go_ret
    go_light
    exact boolNo (twoNew _ _ _)
  · have ht2 : o.top = false := by simpa using ht
    rw [ht2]
    go_enter Tryz.func7, Tryz.ntmps7
    go_wp2_with (first | (go_at_call 12; refine (CN.out _).mono ?_; rintro e w' ⟨rfl, rfl⟩) | (go_at_call 14; refine (CT.out _ (twoNew _ _ _)).mono ?_; rintro e w' ⟨rfl, hb4⟩; obtain ⟨e0, e1, e2, -⟩ := objCells hb4))
    go_ret
    go_light
    exact boolNo (twoNew _ _ _)

end Go.Proofs.YtipmpeekfajlcaaGreatDoor
