/- What is proved: the contract of spec.IsWorld: where it answers true, the world is one. Conditions: the input lies in memory as trees. -/
import Derived.Test.YtipmpeekfajlcaaGreatDoorTl
namespace Go.Proofs.YtipmpeekfajlcaaGreatDoor
open Go.RowKit Go.Proofs

/-- A call that answers a bool, and where it is true, p holds; of what was there nothing has turned. -/
def BoolSuch (p : Prop) (w : World) (e : Ending) (w' : World) : Prop := ∃ b, e = .returned (.bool b) ∧ (b = true → p) ∧ Below w.heap.size w w'
theorem boolNo {p : Prop} {w w' : World} (h : Below w.heap.size w w') : BoolSuch p w (.returned (.bool false)) w' := ⟨false, rfl, fun h => Bool.noConfusion h, h⟩

def PkgOk (p : PkgD) : Prop := pathB p.path = true ∧ nameB p.name = true
def DeclOk (W : WorldD) (i : Nat) (d : DeclD) : Prop := -1 ≤ d.pkg ∧ d.pkg < W.pkgs.length ∧ nameB d.name = true ∧ (d.ty.kd.toList = [110, 97, 109, 101, 100] → d.ali = true) ∧ isTypeB W i 8 d.ty false = true
structure WorldOk (W : WorldD) : Prop where
  np : W.pkgs.length ≤ 8
  nd : W.decls.length ≤ 12
  pkgs : ∀ i, i < W.pkgs.length → PkgOk (W.pkg i)
  decls : ∀ i, i < W.decls.length → DeclOk W i (W.decl i)

theorem pkg_at {W : WorldD} {i : Nat} (h : i < W.pkgs.length) : W.pkgs[i]? = some (W.pkg i) := by simp [WorldD.pkg, List.getD, h]

theorem box8 (wr : World) (v0 v1 v2 v3 v4 v5 v6 v7 : Value) : ∃ W3, W3 = wr.alloc (.cells #[v0, v1, v2, v3, v4, v5, v6, v7] 42) ∧ Below wr.heap.size wr W3 ∧ W3.cell? ⟨wr.heap.size, 0, none⟩ = some v0 ∧ W3.cell? ⟨wr.heap.size, 1, none⟩ = some v1 ∧ W3.cell? ⟨wr.heap.size, 2, none⟩ = some v2 ∧ W3.cell? ⟨wr.heap.size, 3, none⟩ = some v3 ∧
    W3.cell? ⟨wr.heap.size, 4, none⟩ = some v4 ∧ W3.cell? ⟨wr.heap.size, 5, none⟩ = some v5 ∧ W3.cell? ⟨wr.heap.size, 6, none⟩ = some v6 ∧ W3.cell? ⟨wr.heap.size, 7, none⟩ = some v7 ∧ wr.heap.size < W3.heap.size :=
  ⟨_, rfl, (Below.refl _ _).alloc (Nat.le_refl _) _, by simp, by simp, by simp, by simp, by simp, by simp, by simp, by simp, by simp⟩

theorem box2 (wr : World) (v0 v1 : Value) (T : TypeId) : ∃ W3, W3 = wr.alloc (.cells #[v0, v1] T) ∧ Below wr.heap.size wr W3 ∧ W3.cell? ⟨wr.heap.size, 0, none⟩ = some v0 ∧ W3.cell? ⟨wr.heap.size, 1, none⟩ = some v1 ∧ wr.heap.size < W3.heap.size :=
  ⟨_, rfl, (Below.refl _ _).alloc (Nat.le_refl _) _, by simp, by simp, by simp⟩

theorem noAlloc {p : Prop} {w w4 wq : World} (h : Below w.heap.size w w4) (hq : Below w4.heap.size w4 wq) (o : Obj) : BoolSuch p w (.returned (.bool false)) (wq.alloc o) :=
  boolNo (h.trans ((hq.trans (((Below.refl wq.heap.size wq).alloc (Nat.le_refl _) o).mono hq.size)).mono h.size))
theorem relAlloc {w4 wq : World} (hq : Below w4.heap.size w4 wq) (o : Obj) : Below w4.heap.size w4 (wq.alloc o) :=
  hq.trans (((Below.refl wq.heap.size wq).alloc (Nat.le_refl _) o).mono hq.size)

set_option maxRecDepth 100000 in
set_option maxHeartbeats 8000000 in
theorem isWorld_any (W : WorldD) (pa da : Option Addr) (pc dc : Nat) (w : World) (hp : PkgsV w pa pc W.pkgs)
    (hd : DeclsV w da dc W.decls) :
    Calls Tryz.prog 6 #[.agg #[.slice pa W.pkgs.length pc, .slice da W.decls.length dc]] w (BoolSuch (WorldOk W) w) := by
  have hl1 := hp.hcap
  have hl2 := hp.hmax
  have hl3 := hd.hcap
  have hl4 := hd.hmax
  by_cases hn : W.pkgs.length ≤ 8 ∧ W.decls.length ≤ 12
  · obtain ⟨hn1, hn2⟩ := hn
    have hb : Below w.heap.size w (w.alloc (.cells #[.slice pa W.pkgs.length pc, .slice da W.decls.length dc] 25)) := by go_grown
    have HP := Lib.hid (hp.keep hb)
    have HD := Lib.hid (hd.keep hb)
    have HB := Lib.hid hb
    have q0 : (w.alloc (.cells #[.slice pa W.pkgs.length pc, .slice da W.decls.length dc] 25)).cell? ⟨w.heap.size, 0, none⟩ = some (.slice pa W.pkgs.length pc) := by simp
    have q1 : (w.alloc (.cells #[.slice pa W.pkgs.length pc, .slice da W.decls.length dc] 25)).cell? ⟨w.heap.size, 1, none⟩ = some (.slice da W.decls.length dc) := by simp
    have Q0 := Lib.hid q0
    have Q1 := Lib.hid q1
    clear hb hp hd q0 q1
    go_enter Tryz.func6, Tryz.ntmps6
    go_wp2
    generalize hW2 : (w.alloc (.cells #[.slice pa W.pkgs.length pc, .slice da W.decls.length dc] 25)) = W2 at *
    clear hW2
    go_loopw [24] (fun i wr => ∃ k : Nat, k ≤ W.pkgs.length ∧ i = .int .i64 k ∧ Hid (∀ j, j < k → PkgOk (W.pkg j)) ∧ Below W2.heap.size W2 wr) (fun i _ => W.pkgs.length - (intOf i).toNat)
    case atStart => exact ⟨0, Nat.zero_le _, rfl, fun j h => by omega, Below.refl _ _⟩
    case round =>
      obtain ⟨k, hk, rfl, hj, hbw⟩ := hrel
      by_cases hlt : k < W.pkgs.length
      · obtain ⟨b, off, rfl, c0, c1, hf⟩ := HP.out.at_ k _ (pkg_at hlt)
        have d0 := cell_below hbw c0
        have d1 := cell_below hbw c1
        have p0 := cell_below hbw Q0.out
        have pb := World.block_lt_of_cell? _ _ p0
        simp only at pb
        have hf1 := hf.path
        have hf2 := hf.name
        have HBr := Lib.hid hbw
        have hmore : PkgOk (W.pkg k) → Hid (∀ j, j < k + 1 → PkgOk (W.pkg j)) := fun h => all_more hj h
        have HMORE := Lib.hid hmore
        have cP : ∀ w, Calls Tryz.prog 11 #[.string (W.pkg k).path] w fun e w' => e = .returned (.bool (pathB (W.pkg k).path)) ∧ w = w' := fun w => isPath_any _ w hf1
        have cN : ∀ w, Calls Tryz.prog 12 #[.string (W.pkg k).name] w fun e w' => e = .returned (.bool (nameB (W.pkg k).name)) ∧ w = w' := fun w => isName_any _ w hf2
        have CP := Lib.hid cP
        have CN := Lib.hid cN
        clear c0 c1 hf hbw hj hmore cP cN
        generalize hpp : pathB (W.pkg k).path = b1 at *
        have HPP := Lib.hid hpp; clear hpp
        generalize hnn : nameB (W.pkg k).name = b2 at *
        have HNN := Lib.hid hnn; clear hnn
        generalize hkp : W.pkg k = p at *
        have HKP := Lib.hid hkp; clear hkp
        obtain ⟨W3, hW3, B3, n0, n1, hsz3⟩ := box2 wr (.string p.path) (.string p.name) 39
        have HB3 := Lib.hid B3
        have HW3 := Lib.hid hW3
        have N0 := Lib.hid n0
        have HSZ := Lib.hid hsz3
        clear n0 n1 hW3 B3 hsz3
        cases b1
        · go_wp2_with (go_at_call 11; refine (CP.out _).mono ?_; rintro e w' ⟨rfl, rfl⟩)
          go_ret
          go_light
          rw [← HW3.out]
          exact boolNo (HB.out.trans ((HBr.out.trans (HB3.out.mono HBr.out.size)).mono HB.out.size))
        cases b2
        · go_wp2_with (first | (go_at_call 11; refine (CP.out _).mono ?_; rintro e w' ⟨rfl, rfl⟩) | (go_at_call 12; refine (CN.out _).mono ?_; rintro e w' ⟨rfl, rfl⟩))
          go_ret
          go_light
          rw [← HW3.out]
          exact boolNo (HB.out.trans ((HBr.out.trans (HB3.out.mono HBr.out.size)).mono HB.out.size))
        have hpok : PkgOk (W.pkg k) := by rw [HKP.out]; exact ⟨HPP.out, HNN.out⟩
        have HPOK := Lib.hid hpok
        clear hpok
        go_wp2_with (first | (go_at_call 11; refine (CP.out _).mono ?_; rintro e w' ⟨rfl, rfl⟩) | (go_at_call 12; refine (CN.out _).mono ?_; rintro e w' ⟨rfl, rfl⟩))
        rw [← HW3.out]
        have m0 := cell_below HB3.out p0
        have M0 := Lib.hid m0
        have HP3 := Lib.hid (HP.out.keep (HBr.out.trans (HB3.out.mono HBr.out.size)))
        clear p0 d0 d1 m0
        go_outline
        go_loopw [44] (fun i wq => ∃ j : Nat, j ≤ k ∧ i = .int .i64 j ∧ Below W3.heap.size W3 wq) (fun i _ => k - (intOf i).toNat)
        case atStart => exact ⟨0, Nat.zero_le _, rfl, Below.refl _ _⟩
        case round =>
          obtain ⟨j, hjk, rfl, hbq⟩ := hrel
          by_cases hjl : j < k
          · obtain ⟨b_, off_, hbb, u0, u1, hf6⟩ := HP3.out.at_ j _ (pkg_at (W := W) (i := j) (by omega))
            simp only [Option.some.injEq, Addr.mk.injEq, and_true] at hbb
            obtain ⟨rfl, rfl⟩ := hbb
            have v0 := cell_below hbq u0
            have v1 := cell_below hbq u1
            have vn := cell_below hbq N0.out
            have hvn := World.block_lt_of_cell? _ _ vn
            simp only at hvn
            have HBQ := Lib.hid hbq
            clear u0 u1 hf6 hbq
            generalize W.pkg j = pj at *
            go_wp2
            · go_ret
              go_light
              have hq := HBQ.out
              have hq2 := hq.trans (((Below.refl wr.heap.size wr).alloc (Nat.le_refl _) (.cells #[.string pj.path, .string pj.name] 39)).mono hq.size)
              exact boolNo (HB.out.trans ((HBr.out.trans ((HB3.out.trans (hq2.mono HB3.out.size)).mono HBr.out.size)).mono HB.out.size))
            · go_roundw
              case rel =>
                go_light
                have hq := HBQ.out
                have hq2 := hq.trans (((Below.refl wr.heap.size wr).alloc (Nat.le_refl _) (.cells #[.string pj.path, .string pj.name] 39)).mono hq.size)
                exact ⟨j + 1, by omega, by go_num, hq2⟩
              case measure =>
                go_light
                simp [intOf]
                omega
          · have HBQ := Lib.hid hbq
            clear hbq
            go_wp2
            go_roundw
            case rel =>
              go_light
              exact ⟨k + 1, by omega, by go_num, (HMORE.out (by rw [← HKP.out]; exact HPOK.out)).out, HBr.out.trans ((HB3.out.trans (HBQ.out.mono HB3.out.size)).mono HBr.out.size)⟩
            case measure =>
              go_light
              simp [intOf]
              omega
      · have hks : k = W.pkgs.length := by omega
        subst hks
        have HPS := Lib.hid hj.out
        have p1 := cell_below hbw Q1.out
        have HBr := Lib.hid hbw
        clear hbw
        go_wp2
        clear p1
        go_outline
        go_loopw [58] (fun i ws => ∃ k : Nat, k ≤ W.decls.length ∧ i = .int .i64 k ∧ Hid (∀ j, j < k → DeclOk W j (W.decl j)) ∧ Below W2.heap.size W2 ws) (fun i _ => W.decls.length - (intOf i).toNat)
        case atStart => exact ⟨0, Nat.zero_le _, rfl, fun j h => by omega, HBr.out⟩
        case round =>
          clear HBr
          obtain ⟨k, hk, rfl, hjd, hbw⟩ := hrel
          by_cases hlt : k < W.decls.length
          · obtain ⟨b, off, ka, kc, rfl, c0, c1, c2, c3, c4, c5, c6, c7, hf, hkv⟩ := HD.out.at_ k _ (decl_at hlt)
            have d0 := cell_below hbw c0
            have d1 := cell_below hbw c1
            have d2 := cell_below hbw c2
            have d3 := cell_below hbw c3
            have d4 := cell_below hbw c4
            have d5 := cell_below hbw c5
            have d6 := cell_below hbw c6
            have d7 := cell_below hbw c7
            have p0 := cell_below hbw Q0.out
            have p1 := cell_below hbw Q1.out
            have pb := World.block_lt_of_cell? _ _ p0
            simp only at pb
            have hf1 := hf.lo
            have hf2 := hf.hi
            have hf3 := hf.name
            have HF := Lib.hid hf.ty
            have HBr := Lib.hid hbw
            have hmore : DeclOk W k (W.decl k) → Hid (∀ j, j < k + 1 → DeclOk W j (W.decl j)) := fun h => all_more hjd h
            have HMORE := Lib.hid hmore
            have cN : ∀ w, Calls Tryz.prog 12 #[.string (W.decl k).name] w fun e w' => e = .returned (.bool (nameB (W.decl k).name)) ∧ w = w' := fun w => isName_any _ w hf3
            have CN := Lib.hid cN
            have HDs := Lib.hid (HD.out.keep hbw)
            have HKV := Lib.hid (hkv.keep hbw)
            clear c0 c1 c2 c3 c4 c5 c6 c7 hf hbw hjd hmore cN hkv
            generalize hkp : W.decl k = d at *
            have HKP := Lib.hid hkp; clear hkp
            generalize hnn : nameB d.name = b2 at *
            have HNN := Lib.hid hnn; clear hnn
            obtain ⟨W3, hW3, B3, n0, n1, n2, n3, n4, n5, n6, n7, hsz3⟩ := box8 wr (.int .i64 d.pkg) (.string d.name) (.bool d.ali) (.string d.ty.kd) (.string d.ty.nm) (.string d.ty.tg) (.int .i64 d.ty.sz) (.slice ka d.ty.kids.length kc)
            have HB3 := Lib.hid B3
            have HW3 := Lib.hid hW3
            have N0 := Lib.hid n0
            have N1 := Lib.hid n1
            have HSZ := Lib.hid hsz3
            clear n0 n1 n2 n3 n4 n5 n6 n7 hW3 B3 hsz3
            have hno : BoolSuch (WorldOk W) w (.returned (.bool false)) W3 := boolNo (HB.out.trans ((HBr.out.trans (HB3.out.mono HBr.out.size)).mono HB.out.size))
            have HNO := Lib.hid hno
            clear hno
            by_cases g1 : d.pkg < -1
            · go_wp2
              go_ret
              go_light
              rw [← HW3.out]
              exact HNO.out
            by_cases g2 : (W.pkgs.length : Int) ≤ d.pkg
            · go_wp2
              go_ret
              go_light
              rw [← HW3.out]
              exact HNO.out
            cases b2
            · go_wp2_with (go_at_call 12; refine (CN.out _).mono ?_; rintro e w' ⟨rfl, rfl⟩)
              go_ret
              go_light
              rw [← HW3.out]
              exact HNO.out
            by_cases g4 : d.ty.kd.toList = [110, 97, 109, 101, 100] ∧ d.ali = false
            · obtain ⟨g4, g5⟩ := g4
              have g6 : (d.ty.kd.toList == [110, 97, 109, 101, 100]) = true := by simp [g4]
              clear g4
              rw [g5] at d2
              have hw3' := HW3.out
              rw [g5] at hw3'
              have HW3' := Lib.hid hw3'
              clear hw3'
              go_wp2_with (go_at_call 12; refine (CN.out _).mono ?_; rintro e w' ⟨rfl, rfl⟩)
              go_ret
              go_light
              rw [← HW3'.out]
              exact HNO.out
            have g7 : (d.ty.kd.toList = [110, 97, 109, 101, 100] → d.ali = true) := by
              intro h
              cases ha : d.ali
              · exact absurd ⟨h, ha⟩ g4
              · rfl
            have H1 : -1 ≤ d.pkg ∧ d.pkg < W.pkgs.length := ⟨by omega, by omega⟩
            have hdok : isTypeB W k 8 d.ty false = true → DeclOk W k d := fun h => ⟨H1.1, H1.2, HNN.out, g7, h⟩
            have HDOK := Lib.hid hdok
            clear hdok g4 H1
            have cT : ∀ w', Below W3.heap.size W3 w' → Calls Tryz.prog 13 #[.agg #[.slice pa W.pkgs.length pc, .slice (some { block := b, off := off }) W.decls.length dc, .int .i64 k], .agg #[.string d.ty.kd, .string d.ty.nm, .string d.ty.tg, .int .i64 d.ty.sz, .slice ka d.ty.kids.length kc], .int .i64 8, .bool false] w' (Gives (.bool (isTypeB W k 8 d.ty false)) w') := fun w' hw =>
              isType_calls W pa _ pc dc W.pkgs.length k 8 (by omega) d.ty ka kc false w' ((HDs.out.keep HB3.out).keep hw) ((HKV.out.keep HB3.out).keep hw) HF.out
            have CT := Lib.hid cT
            clear cT
            generalize htt : isTypeB W k 8 d.ty false = tt at *
            have HTT := Lib.hid htt; clear htt
            by_cases g8 : d.ty.kd.toList = [110, 97, 109, 101, 100]
            · have g9 := g7 g8
              have g6 : (d.ty.kd.toList == [110, 97, 109, 101, 100]) = true := by simp [g8]
              have hw3' := HW3.out
              rw [g9] at hw3' d2
              have HW3' := Lib.hid hw3'
              clear hw3' g8 g7 g9
              go_wp2_with (go_at_call 12; refine (CN.out _).mono ?_; rintro e w' ⟨rfl, rfl⟩)
              rw [← HW3'.out]
              go_at_call 13; refine (CT.out _ (Below.refl _ _)).mono ?_; rintro e w4 ⟨rfl, hb4⟩
              have HB4 := Lib.hid hb4
              have hno4 : BoolSuch (WorldOk W) w (.returned (.bool false)) w4 := boolNo (HB.out.trans ((HBr.out.trans ((HB3.out.trans (hb4.mono HB3.out.size)).mono HBr.out.size)).mono HB.out.size))
              have HNO4 := Lib.hid hno4
              have HBW4 := Lib.hid (HB.out.trans ((HBr.out.trans ((HB3.out.trans (hb4.mono HB3.out.size)).mono HBr.out.size)).mono HB.out.size))
              clear hb4 hno4
              have q1 := cell_below HB4.out (cell_below HB3.out p1)
              have hdv4 := HDs.out.keep (HB3.out.trans (HB4.out.mono HB3.out.size))
              have HDV4 := Lib.hid hdv4
              have M0 := Lib.hid (cell_below HB4.out N0.out)
              have M1 := Lib.hid (cell_below HB4.out N1.out)
              clear p0 p1 d0 d1 d2 d3 d4 d5 d6 d7 hdv4
              cases tt
              · go_wp2
                go_ret
                go_light
                exact HNO4.out
              go_wp2
              clear q1
              go_outline
              go_loopw [103] (fun i wq => ∃ j : Nat, j ≤ k ∧ i = .int .i64 j ∧ Below w4.heap.size w4 wq) (fun i _ => k - (intOf i).toNat)
              case atStart => exact ⟨0, Nat.zero_le _, rfl, Below.refl _ _⟩
              case round =>
                obtain ⟨j, hjk, rfl, hbq⟩ := hrel
                by_cases hjl : j < k
                · obtain ⟨b_, off_, ka2, kc2, hbb, u0, u1, u2, u3, u4, u5, u6, u7, hf6, hkv6⟩ := HDV4.out.at_ j _ (decl_at (W := W) (i := j) (by omega))
                  simp only [Option.some.injEq, Addr.mk.injEq, and_true] at hbb
                  obtain ⟨rfl, rfl⟩ := hbb
                  have x0 := cell_below hbq u0
                  have x1 := cell_below hbq u1
                  have x2 := cell_below hbq u2
                  have x3 := cell_below hbq u3
                  have x4 := cell_below hbq u4
                  have x5 := cell_below hbq u5
                  have x6 := cell_below hbq u6
                  have x7 := cell_below hbq u7
                  have vn := cell_below hbq M0.out
                  have vm := cell_below hbq M1.out
                  have hvn := World.block_lt_of_cell? _ _ vn
                  simp only at hvn
                  have HBQ := Lib.hid hbq
                  clear u0 u1 u2 u3 u4 u5 u6 u7 hf6 hkv6 hbq
                  generalize W.decl j = dj at *
                  by_cases gp : dj.pkg = d.pkg
                  · rw [gp] at x0
                    clear gp
                    go_wp2
                    · go_ret
                      go_light
                      exact noAlloc HBW4.out HBQ.out _
                    · go_roundw
                      case rel =>
                        go_light
                        exact ⟨j + 1, by omega, by go_num, relAlloc HBQ.out _⟩
                      case measure =>
                        go_light
                        simp [intOf]
                        omega
                  · go_wp2
                    go_roundw
                    case rel =>
                      go_light
                      exact ⟨j + 1, by omega, by go_num, relAlloc HBQ.out _⟩
                    case measure =>
                      go_light
                      simp [intOf]
                      omega
                · have HBQ := Lib.hid hbq
                  clear hbq
                  go_wp2
                  go_roundw
                  case rel =>
                    go_light
                    exact ⟨k + 1, by omega, by go_num, HMORE.out (HDOK.out (by trivial)), HBr.out.trans ((HB3.out.trans ((HB4.out.trans (HBQ.out.mono HB4.out.size)).mono HB3.out.size)).mono HBr.out.size)⟩
                  case measure =>
                    go_light
                    simp [intOf]
                    omega
            · have g6 : (d.ty.kd.toList == [110, 97, 109, 101, 100]) = false := by simp [g8]
              have HW3' := HW3
              clear g8 g7
              go_wp2_with (go_at_call 12; refine (CN.out _).mono ?_; rintro e w' ⟨rfl, rfl⟩)
              rw [← HW3'.out]
              go_at_call 13; refine (CT.out _ (Below.refl _ _)).mono ?_; rintro e w4 ⟨rfl, hb4⟩
              have HB4 := Lib.hid hb4
              have hno4 : BoolSuch (WorldOk W) w (.returned (.bool false)) w4 := boolNo (HB.out.trans ((HBr.out.trans ((HB3.out.trans (hb4.mono HB3.out.size)).mono HBr.out.size)).mono HB.out.size))
              have HNO4 := Lib.hid hno4
              have HBW4 := Lib.hid (HB.out.trans ((HBr.out.trans ((HB3.out.trans (hb4.mono HB3.out.size)).mono HBr.out.size)).mono HB.out.size))
              clear hb4 hno4
              have q1 := cell_below HB4.out (cell_below HB3.out p1)
              have hdv4 := HDs.out.keep (HB3.out.trans (HB4.out.mono HB3.out.size))
              have HDV4 := Lib.hid hdv4
              have M0 := Lib.hid (cell_below HB4.out N0.out)
              have M1 := Lib.hid (cell_below HB4.out N1.out)
              clear p0 p1 d0 d1 d2 d3 d4 d5 d6 d7 hdv4
              cases tt
              · go_wp2
                go_ret
                go_light
                exact HNO4.out
              go_wp2
              clear q1
              go_outline
              go_loopw [103] (fun i wq => ∃ j : Nat, j ≤ k ∧ i = .int .i64 j ∧ Below w4.heap.size w4 wq) (fun i _ => k - (intOf i).toNat)
              case atStart => exact ⟨0, Nat.zero_le _, rfl, Below.refl _ _⟩
              case round =>
                obtain ⟨j, hjk, rfl, hbq⟩ := hrel
                by_cases hjl : j < k
                · obtain ⟨b_, off_, ka2, kc2, hbb, u0, u1, u2, u3, u4, u5, u6, u7, hf6, hkv6⟩ := HDV4.out.at_ j _ (decl_at (W := W) (i := j) (by omega))
                  simp only [Option.some.injEq, Addr.mk.injEq, and_true] at hbb
                  obtain ⟨rfl, rfl⟩ := hbb
                  have x0 := cell_below hbq u0
                  have x1 := cell_below hbq u1
                  have x2 := cell_below hbq u2
                  have x3 := cell_below hbq u3
                  have x4 := cell_below hbq u4
                  have x5 := cell_below hbq u5
                  have x6 := cell_below hbq u6
                  have x7 := cell_below hbq u7
                  have vn := cell_below hbq M0.out
                  have vm := cell_below hbq M1.out
                  have hvn := World.block_lt_of_cell? _ _ vn
                  simp only at hvn
                  have HBQ := Lib.hid hbq
                  clear u0 u1 u2 u3 u4 u5 u6 u7 hf6 hkv6 hbq
                  generalize W.decl j = dj at *
                  by_cases gp : dj.pkg = d.pkg
                  · rw [gp] at x0
                    clear gp
                    go_wp2
                    · go_ret
                      go_light
                      exact noAlloc HBW4.out HBQ.out _
                    · go_roundw
                      case rel =>
                        go_light
                        exact ⟨j + 1, by omega, by go_num, relAlloc HBQ.out _⟩
                      case measure =>
                        go_light
                        simp [intOf]
                        omega
                  · go_wp2
                    go_roundw
                    case rel =>
                      go_light
                      exact ⟨j + 1, by omega, by go_num, relAlloc HBQ.out _⟩
                    case measure =>
                      go_light
                      simp [intOf]
                      omega
                · have HBQ := Lib.hid hbq
                  clear hbq
                  go_wp2
                  go_roundw
                  case rel =>
                    go_light
                    exact ⟨k + 1, by omega, by go_num, HMORE.out (HDOK.out (by trivial)), HBr.out.trans ((HB3.out.trans ((HB4.out.trans (HBQ.out.mono HB4.out.size)).mono HB3.out.size)).mono HBr.out.size)⟩
                  case measure =>
                    go_light
                    simp [intOf]
                    omega
          · go_wp2
            go_ret
            go_light
            refine ⟨true, rfl, fun _ => ⟨hn1, hn2, HPS.out, ?_⟩, HB.out.trans (hbw.mono HB.out.size)⟩
            intro j hj'
            exact hjd.out j (by omega)
  · have H : Hid (BoolSuch (WorldOk W) w (.returned (.bool false)) (w.alloc (.cells #[.slice pa W.pkgs.length pc, .slice da W.decls.length dc] 25))) := boolNo (by go_grown)
    clear hp hd
    by_cases h8 : W.pkgs.length ≤ 8
    · have h12 : ¬ W.decls.length ≤ 12 := fun h => hn ⟨h8, h⟩
      go_enter Tryz.func6, Tryz.ntmps6
      go_wp2
      go_ret
      go_light
      exact H.out
    · go_enter Tryz.func6, Tryz.ntmps6
      go_wp2
      go_ret
      go_light
      exact H.out
end Go.Proofs.YtipmpeekfajlcaaGreatDoor
