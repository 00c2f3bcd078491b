/- What spec.Decode computes. -/
import Derived.Test.YtoeaiifmablbnaaAp
namespace Go.Proofs.Ytoeaiifmablbnaa
open Go.RowKit

/-- what spec.Decode gives: the code points and the verdict -/
def SdPost (R : Int × List Int) (w : World) (e : Ending) (w' : World) : Prop :=
  ∃ (ad : Option Addr) (cp : Nat), e = .returned (.tuple #[.slice ad R.2.length cp, .int .i64 R.1]) ∧ OwnI w.heap.size R.2 (.slice ad R.2.length cp) w' ∧ Below w.heap.size w w'

theorem sd_err {R : Int × List Int} {w w1 : World} {k : Int} (hR : R = (k, [])) (h1 : Below w.heap.size w w1) : SdPost R w (.returned (.tuple #[.slice none 0 0, .int .i64 k])) w1 := by
  subst hR
  exact ⟨none, 0, rfl, World.ownsRow_nil _ _ _ _, h1⟩

theorem boolf {p : Prop} [Decidable p] (h : ¬ p) : Value.bool (decide p) = .bool false := by simp [h]

/-- at the outer loop's head -/
def E2 (R : Int × List Int) (B : Nat) (w : World) (k : Nat) (sv o iv nv bv : Value) (wr : World) : Prop :=
  ∃ (bk : ByteArray) (out : List Int) (g cp : Nat) (i n b : Int), sv = .string bk ∧ o = .slice (some ⟨g, 0, none⟩) out.length cp ∧ iv = .int .i64 i ∧ nv = .int .i64 n ∧ bv = .int .i64 b ∧
    bk.size = k ∧ out.length + bk.size ≤ 100000 ∧ 0 ≤ i ∧ i ≤ out.length ∧ 128 ≤ n ∧ n ≤ 1114111 ∧ 0 ≤ b ∧ b ≤ 213 ∧ Pu.sd (Pu.bl bk) ⟨out, i, n, b⟩ = R ∧ OwnI B out (.slice (some ⟨g, 0, none⟩) out.length cp) wr ∧ Below B w wr

theorem bl_head (S : ByteArray) (h : 0 < S.size) : Pu.bl S = S[0] :: Pu.bl (S.extract 1 S.size) := by
  have := drop_byte S h
  rw [List.drop_zero] at this
  rw [this, Pu.bl_extract, List.take_of_length_le (by rw [List.length_drop, ← Pu.bl_size]; omega)]

theorem bl_empty_iff (S : ByteArray) : S.toList.isEmpty = decide (S.size = 0) := by
  rw [ByteArray.toList_eq]
  show (Pu.bl S).isEmpty = _
  rw [Pu.bl_size]
  cases Pu.bl S with
  | nil => rfl
  | cons a b => simp

set_option maxRecDepth 1000000 in
set_option maxHeartbeats 4000000 in
theorem specDecode_any (S : ByteArray) (w : World) (hs : S.size ≤ 100000) (hasc : ∀ c ∈ Pu.bl S, c.toNat < 128) :
    Calls Try.prog 22 #[.string S] w (SdPost (Pu.sp (Pu.bl S)) w) := by
  have hfb : Hid (Pu.sp (Pu.bl S) = Pu.sd (Pu.bl (backOf S)) ⟨Pu.cps (Pu.bl (frontOf S)), 0, 128, 72⟩ ∧ (∀ c ∈ Pu.bl (frontOf S), c.toNat < 128) ∧ (frontOf S).size + (backOf S).size ≤ 100000) := by
    show _ ∧ _ ∧ _
    have hr := Pu.hyp_rng (Pu.bl S) S.size
    have hz : S.size = (Pu.bl S).length := Pu.bl_size S
    unfold Pu.sp frontOf backOf
    rw [← hz]
    by_cases h : 0 < Pu.hyp (Pu.bl S) S.size
    · rw [if_pos h, if_pos h, if_pos h, Pu.bl_bs, Pu.bl_bs]
      refine ⟨?_, fun c hc => hasc c (List.mem_of_mem_take hc), ?_⟩
      · rw [show (Pu.hyp (Pu.bl S) S.size + 1).toNat = (Pu.hyp (Pu.bl S) S.size).toNat + 1 by omega]
      · rw [Pu.bs_size, Pu.bs_size, List.length_take, List.length_drop]; omega
    · rw [if_neg h, if_neg h, if_neg h, Pu.bl_bs]
      refine ⟨rfl, by simp, ?_⟩
      rw [Pu.bs_size]; simp; omega
  generalize Pu.sp (Pu.bl S) = R at *
  clear hasc
  go_enter Try.func22, Try.ntmps22
  go_wp2_with fail
  refine (split_any S _ (by omega)).mono ?_
  rintro e w1 ⟨rfl, nd, rfl⟩
  obtain ⟨hR, hfa, hfz⟩ := hfb.out
  generalize frontOf S = F at *
  generalize backOf S = bk0 at *
  obtain ⟨cap, W, hcv, hown, hbw, hWz⟩ := to_runes (w.drewN nd) F hfa (by omega)
  have hbw0 : Below w.heap.size w W := (below_drewN (Below.refl _ w) nd).trans hbw
  have hgz : (w.drewN nd).heap.size = w.heap.size := rfl
  rw [hgz] at hcv hown hWz
  have hl : (Pu.cps (Pu.bl F)).length = F.size := by rw [Pu.cps_len, Pu.bl_size]
  have R0 : E2 R w.heap.size w bk0.size (.string bk0) (.slice (some ⟨w.heap.size, 0, none⟩) F.size cap) (.int .i64 0) (.int .i64 128) (.int .i64 72) W :=
    ⟨bk0, Pu.cps (Pu.bl F), w.heap.size, cap, 0, 128, 72, rfl, by rw [hl], rfl, rfl, rfl, rfl, by omega, by omega, by omega, by omega, by omega, by omega, by omega, hR.symm, by rw [hl]; exact hown, hbw0⟩
  clear hR hfa hfz hfb hown hbw hbw0 hgz hl hWz
  go_wp2_with fail
  clear hcv
  go_loopg [5, 6, 7, 8, 9] bk0.size (fun k sv o iv nv bv wr => E2 R w.heap.size w k sv o iv nv bv wr)
  case atStart => exact R0
  case round =>
    clear R0
    obtain ⟨bk, out, g, cp, i, n, b, rfl, rfl, rfl, rfl, rfl, hk, hop, i0', i1, n0, n1, b0, b1, hR, hown, hbw⟩ := hrel
    have Hk := Lib.hid hk
    have hemp := bl_empty_iff bk
    clear hk
    by_cases hlt : 0 < bk.size
    · rw [show decide (bk.size = 0) = false from decide_eq_false (by omega)] at hemp
      obtain ⟨D, hD⟩ : ∃ D, Pu.dnum (Pu.bl bk) 36 b 1 i = D := ⟨_, rfl⟩
      have hgo := Lib.hid (Pu.sd_go (Pu.bl bk) ⟨out, i, n, b⟩)
      have hno := Lib.hid (Pu.sd_no (Pu.bl bk) ⟨out, i, n, b⟩ (by rw [bl_head bk hlt]; simp))
      rw [hR] at hgo hno
      simp only [hD] at hgo hno
      have HD := Lib.hid hD
      clear hD hR
      go_upto_block 2 with fail
      go_cut [5, 7] (fun sv iv w2 => ∃ (b2 : ByteArray) (j : Int), sv = .string b2 ∧ iv = .int .i64 j ∧ D = (1, j, Pu.bl b2) ∧ b2.size < bk.size ∧ i ≤ j ∧ j ≤ 2147483647 ∧ wr = w2)
      case first =>
        clear hgo
        go_wp2_with fail
        go_loopg [5, 7, 11, 12] bk.size (fun k sv iv wv kv w2 => ∃ (b1 : ByteArray) (j wt kk : Int), sv = .string b1 ∧ iv = .int .i64 j ∧ wv = .int .i64 wt ∧ kv = .int .i64 kk ∧ b1.size = k ∧ b1.size ≤ bk.size ∧ i ≤ j ∧ j ≤ 2147483647 ∧ 1 ≤ wt ∧ wt ≤ 2147483647 ∧ 36 ≤ kk ∧ kk + 36 * (b1.size : Int) ≤ 36 * 100002 ∧ Pu.dnum (Pu.bl b1) kk b wt j = D ∧ wr = w2)
        case atStart => exact ⟨bk, i, 1, 36, rfl, rfl, rfl, rfl, rfl, by omega, by omega, by omega, by omega, by omega, by omega, by omega, HD.out, rfl⟩
        case round =>
          clear HD hemp
          obtain ⟨b2, j, wt, kk, rfl, rfl, rfl, rfl, hk1, hps1, hij, hj, wt0, wt1, kk0, kk1, hD, rfl⟩ := hrel
          have Hk1 := Lib.hid hk1
          have hemp := bl_empty_iff b2
          clear hk1
          by_cases hlt1 : 0 < b2.size
          · rw [show decide (b2.size = 0) = false from decide_eq_false (by omega)] at hemp
            have hb3 : Hid ((b2.extract 1 b2.size).size = b2.size - 1) := by
              show _ = _
              rw [Pu.bl_size, Pu.bl_extract, List.length_take, List.length_drop, ← Pu.bl_size]; omega
            rw [bl_head b2 hlt1, Pu.dnum] at hD
            have hul := Pu.undig_lt b2[0]
            have hdy := Lib.hid (digit_any b2[0])
            obtain ⟨u, hu⟩ : ∃ u, Pu.undig b2[0] = u := ⟨_, rfl⟩
            rw [hu] at hD hul hdy
            obtain ⟨u0, u1⟩ := hul
            clear hu
            by_cases hu0 : u < 0
            · rw [if_pos hu0] at hD
              have hRn := Lib.hid (hno.out (by rw [← hD]; simp))
              rw [← hD] at hRn
              clear hD hno
              go_wp2_with fail
              refine (hdy.out _).mono ?_
              rintro e w' ⟨rfl, rfl⟩
              go_wp2
              go_ret2
              exact sd_err hRn.out hbw
            · rw [if_neg hu0] at hD
              have m0 : 0 ≤ u * wt := Int.mul_nonneg (by omega) (by omega)
              have m1 : u * wt ≤ 35 * 2147483647 := Int.mul_le_mul (by omega) (by omega) (by omega) (by omega)
              by_cases hov : 2147483647 < j + u * wt
              · rw [if_pos hov] at hD
                have hRn := Lib.hid (hno.out (by rw [← hD]; simp))
                rw [← hD] at hRn
                clear hD hno
                go_wp2_with fail
                refine (hdy.out _).mono ?_
                rintro e w' ⟨rfl, rfl⟩
                go_wp2
                go_ret2
                exact sd_err hRn.out hbw
              · rw [if_neg hov] at hD
                have HD := Lib.hid hD
                clear hD
                have ht := Pu.thr_bd kk b
                go_wp2_with fail
                refine (hdy.out _).mono ?_
                rintro e w' ⟨rfl, rfl⟩
                go_wp2_with fail
                refine (threshold_any kk b _ (by omega) (by omega) (by omega) (by omega)).mono ?_
                rintro e w' ⟨rfl, rfl⟩
                obtain ⟨T, hT⟩ : ∃ T, Pu.thr kk b = T := ⟨_, rfl⟩
                rw [hT] at ht HD ⊢
                clear hT
                obtain ⟨t0, t1⟩ := ht
                have hJ1 : i ≤ j + u * wt := by omega
                have hJ2 : j + u * wt ≤ 2147483647 := by omega
                generalize j + u * wt = J at *
                clear m0 m1 hov hdy hij hj
                by_cases hut : u < T
                · go_wp2
                  go_meet
                  have hD := HD.out
                  rw [if_pos hut] at hD
                  exact ⟨_, J, rfl, rfl, hD.symm, by have := hb3.out; omega, hJ1, hJ2, rfl⟩
                · have hD := HD.out
                  rw [if_neg hut] at hD
                  have q0 : 0 ≤ wt * (36 - T) := Int.mul_nonneg (by omega) (by omega)
                  have q1 : wt * (36 - T) ≤ 2147483647 * 35 := Int.mul_le_mul (by omega) (by omega) (by omega) (by omega)
                  have q2 : 1 ≤ wt * (36 - T) := by
                    have := Int.mul_le_mul wt0 (show (1 : Int) ≤ 36 - T by omega) (by omega) (by omega)
                    omega
                  by_cases hov : 2147483647 < wt * (36 - T)
                  · rw [if_pos hov] at hD
                    have hRn := Lib.hid (hno.out (by rw [← hD]; simp))
                    rw [← hD] at hRn
                    clear hD hno HD
                    go_wp2
                    go_ret2
                    exact sd_err hRn.out hbw
                  · rw [if_neg hov] at hD
                    have HD2 := Lib.hid hD
                    clear hD HD
                    go_wp2
                    go_roundg (b2.size - 1)
                    case measure => have := Hk1.out; omega
                    case rel => exact ⟨_, J, wt * (36 - T), kk + 36, rfl, rfl, rfl, rfl, hb3.out, by have := hb3.out; omega, hJ1, hJ2, q2, by omega, by omega, by have := hb3.out; omega, HD2.out, rfl⟩
          · rw [show decide (b2.size = 0) = true from decide_eq_true (by omega)] at hemp
            have e0 : Pu.bl b2 = [] := List.eq_nil_of_length_eq_zero (by rw [← Pu.bl_size]; omega)
            rw [e0, Pu.dnum] at hD
            have hRn := Lib.hid (hno.out (by rw [← hD]; simp))
            rw [← hD] at hRn
            clear hD hno e0
            go_wp2
            go_ret2
            exact sd_err hRn.out hbw
      case rest =>
        clear hno HD hemp
        obtain ⟨b2, j, rfl, rfl, hD, hpp, hij, hj, rfl⟩ := hcut
        have hR := hgo.out j _ hD
        clear hD hgo
        unfold Pu.dstep at hR
        simp only at hR
        have hdq := Pu.half_bd j ((out.length : Int) + 1) (by omega) (by omega)
        have hdr0 := Int.emod_nonneg j (show (out.length : Int) + 1 ≠ 0 by omega)
        have hdr1 := Int.emod_lt_of_pos j (show (0 : Int) < out.length + 1 by omega)
        obtain ⟨q, hq⟩ : ∃ q, j / ((out.length : Int) + 1) = q := ⟨_, rfl⟩
        obtain ⟨p0, hp0⟩ : ∃ p0 : Nat, j % ((out.length : Int) + 1) = p0 := ⟨(j % ((out.length : Int) + 1)).toNat, by omega⟩
        rw [hq] at hR hdq
        rw [hp0] at hR hdr0 hdr1
        have hp1 : p0 ≤ out.length := by omega
        obtain ⟨q0, q1⟩ := hdq
        have had := Pu.adapt_le (j - i) (out.length + 1) (i == 0) (by omega) (by omega) (by omega)
        obtain ⟨b', hb'⟩ : ∃ b', Pu.adapt (j - i) (out.length + 1) (i == 0) = b' := ⟨_, rfl⟩
        rw [hb'] at hR had
        have Hb' := Lib.hid hb'
        obtain ⟨b'0, b'1⟩ := had
        clear hb' hdr0 hdr1
        have HR := Lib.hid hR
        clear hR
        by_cases hov : 1114111 < n + q
        · have hR := HR.out
          rw [if_pos hov] at hR
          have hRn := Lib.hid hR
          clear hR HR
          go_wp2_with fail
          refine (adapted_any (j - i) (out.length + 1) (i == 0) _ (by omega) (by omega) (by omega) (by omega)).mono ?_
          rintro e w' ⟨rfl, rfl⟩
          go_wp2
          go_ret2
          exact sd_err hRn.out hbw
        by_cases hsu : 55296 ≤ n + q ∧ n + q < 57344
        · have hR := HR.out
          rw [if_neg hov, if_pos hsu] at hR
          have hRn := Lib.hid hR
          clear hR HR
          obtain ⟨hsu1, hsu2⟩ := hsu
          go_wp2_with fail
          refine (adapted_any (j - i) (out.length + 1) (i == 0) _ (by omega) (by omega) (by omega) (by omega)).mono ?_
          rintro e w' ⟨rfl, rfl⟩
          go_wp2
          go_ret2
          exact sd_err hRn.out hbw
        · have hR := HR.out
          rw [if_neg hov, if_neg hsu] at hR
          have HR2 := Lib.hid hR
          clear hR HR
          have hWz : w.heap.size ≤ wr.heap.size := hbw.size
          go_wp2_with fail
          refine (adapted_any (j - i) (out.length + 1) (i == 0) _ (by omega) (by omega) (by omega) (by omega)).mono ?_
          rintro e w' ⟨rfl, rfl⟩
          rw [Hb'.out]
          go_upto_region 28 with fail
          rw [hp0]
          clear hq hp0
          have hs' : (55296 ≤ n + q ∧ 57344 ≤ n + q) ∨ n + q < 55296 := by omega
          clear hsu
          have hcap : out.length ≤ cp := by
            rcases hown.2 with ⟨h1, _⟩ | ⟨g', cap', cur, h1, _, _, h2, _⟩
            · cases h1
            · simp only [Value.slice.injEq] at h1; omega
          have hop2 : out.length ≤ 100000 := by omega
          go_cut [81] (fun t w2 => t = .bool false ∧ wr = w2)
          case first =>
            rcases hs' with ⟨s1, s2⟩ | s1
            · go_wp2
              go_meet
              exact ⟨boolf (by omega), rfl⟩
            · go_wp2
              go_meet
              exact ⟨rfl, rfl⟩
          case rest =>
            obtain ⟨rfl, rfl⟩ := hcut
            clear hs'
            go_upto_region 30 with fail
            go_cut [6] (fun o w2 => ∃ (g2 cp2 : Nat), o = .slice (some ⟨g2, 0, none⟩) (out.length + 1) cp2 ∧ OwnI w.heap.size (Pu.put p0 (n + q) out) (.slice (some ⟨g2, 0, none⟩) (out.length + 1) cp2) w2 ∧ Below w.heap.size w w2)
            case first =>
              have hw1 : IntKind.i32.wrap (n + q) = n + q := IntWalk.i32_in _ (by omega)
              have hw2 : (0 : Int) ≤ (p0 : Int) := by omega
              have hw3 : (p0 : Int) ≤ (out.length : Int) := by omega
              have hw4 : (p0 : Int) ≤ (cp : Int) := by omega
              have hw5 : p0 ≤ cp := by omega
              have hcf := Lib.hid (fun w' (hb' : Below wr.heap.size wr w') => cells_front hown rfl hb' p0)
              have hcb := Lib.hid (fun w' (hb' : Below wr.heap.size wr w') => cells_back hown rfl hb' p0)
              have hbA : Below wr.heap.size wr wr.drew := Below.drew (Below.refl _ _)
              have hbB : Below wr.heap.size wr (wr.drew.alloc (.cells #[.int .i32 (n + q)] 21)) := Below.alloc (Below.drew (Below.refl _ _)) (Nat.le_refl _) _
              have hl1 : Hid ((out.take p0).length = p0) := by
                show _ = _
                rw [List.length_take]; omega
              have hl2 : Hid ((out.drop p0).length = out.length - p0) := List.length_drop
              by_cases hcc : cp = p0
              · have Hcc := Lib.hid hcc
                go_region_law (first
                  | (refine step_app (by rfl) (.const (.slice none 0 0)) (.tmp 84) (by rfl) wr.heap.size hbA (Nat.le_refl _) (.slice none 0 0) 0 [] (by rfl) (World.ownsRow_nil _ _ _ _) ⟨g, 0, none⟩ p0 p0 (out.take p0) (by simp [Act.eval, Act.put]) hl1.out (hcf.out _ hbA _ rfl) (by omega) ?_; intro v1 w2 hown2 hb2 hg2)
                  | (refine step_app (by rfl) (.const (.slice none 0 0)) (.tmp 84) (by rfl) wr.heap.size hbB (le_alloc (Nat.le_refl _) _) (.slice none 0 0) 0 [] (by rfl) (World.ownsRow_nil _ _ _ _) ⟨g, 0, none⟩ p0 p0 (out.take p0) (by simp [Act.eval]) hl1.out (hcf.out _ hbB _ rfl) (by omega) ?_; intro v1 w2 hown2 hb2 hg2; have hel := Lib.hid (show w2.heap[wr.heap.size]? = some (.cells #[.int .i32 (n + q)] 21 (0, 0)) from elem_kept (W := wr.drew) (m := n + q) hg2 rfl))
                  | (refine step_app (by rfl) (.tmp 85) (.tmp 88) (by rfl) wr.heap.size (hb2.alloc hb2.size _) (le_alloc hb2.size _) v1 (0 + p0) ([] ++ out.take p0) (by simp [Act.eval]) (hown2.alloc _) ⟨w2.heap.size, 0, none⟩ 1 1 [n + q] (by simp [Act.eval]) rfl (cell_elem (heap_alloc_new w2 _)) (by omega) ?_; intro v2 w3 hown3 hb3 hg3)
                  | (refine step_app (by rfl) (.tmp 89) (.tmp 92) (by rfl) wr.heap.size hb3 hb3.size v2 (0 + p0 + 1) (([] ++ out.take p0) ++ [n + q]) (by simp [Act.eval]) hown3 ⟨g, 0, none⟩ (out.length - p0) 0 (out.drop p0) (by simp [Act.eval]) hl2.out (hcb.out _ hb3 ⟨g, 0, none⟩ (by have := Hcc.out; omega)) (by omega) ?_; intro v3 w4 hown4 hb4 hg4)
                  | (refine step_app (by rfl) (.tmp 85) (.tmp 88) (by rfl) wr.heap.size hb2 hb2.size v1 (0 + p0) ([] ++ out.take p0) (by simp [Act.eval]) hown2 ⟨wr.heap.size, 0, none⟩ 1 1 [n + q] (by simp [Act.eval]) rfl (cell_elem hel.out) (by omega) ?_; intro v2 w3 hown3 hb3 hg3))
                all_goals
                  go_wp2_with fail
                  go_meet
                  obtain ⟨g2, cp2, e1, e2⟩ := three_own (B := w.heap.size) hWz hp1 hown4
                  exact ⟨g2, cp2, e1, e2, below_then hbw (Nat.le_refl _) hb4⟩
              · go_region_law (first
                  | (refine step_app (by rfl) (.const (.slice none 0 0)) (.tmp 84) (by rfl) wr.heap.size hbA (Nat.le_refl _) (.slice none 0 0) 0 [] (by rfl) (World.ownsRow_nil _ _ _ _) ⟨g, 0, none⟩ p0 cp (out.take p0) (by simp [Act.eval, Act.put]) hl1.out (hcf.out _ hbA _ rfl) (by omega) ?_; intro v1 w2 hown2 hb2 hg2)
                  | (refine step_app (by rfl) (.const (.slice none 0 0)) (.tmp 84) (by rfl) wr.heap.size hbB (le_alloc (Nat.le_refl _) _) (.slice none 0 0) 0 [] (by rfl) (World.ownsRow_nil _ _ _ _) ⟨g, 0, none⟩ p0 cp (out.take p0) (by simp [Act.eval]) hl1.out (hcf.out _ hbB _ rfl) (by omega) ?_; intro v1 w2 hown2 hb2 hg2; have hel := Lib.hid (show w2.heap[wr.heap.size]? = some (.cells #[.int .i32 (n + q)] 21 (0, 0)) from elem_kept (W := wr.drew) (m := n + q) hg2 rfl))
                  | (refine step_app (by rfl) (.tmp 85) (.tmp 88) (by rfl) wr.heap.size (hb2.alloc hb2.size _) (le_alloc hb2.size _) v1 (0 + p0) ([] ++ out.take p0) (by simp [Act.eval]) (hown2.alloc _) ⟨w2.heap.size, 0, none⟩ 1 1 [n + q] (by simp [Act.eval]) rfl (cell_elem (heap_alloc_new w2 _)) (by omega) ?_; intro v2 w3 hown3 hb3 hg3)
                  | (refine step_app (by rfl) (.tmp 89) (.tmp 92) (by rfl) wr.heap.size hb3 hb3.size v2 (0 + p0 + 1) (([] ++ out.take p0) ++ [n + q]) (by simp [Act.eval]) hown3 ⟨g, p0, none⟩ (out.length - p0) (cp - p0) (out.drop p0) (by simp [Act.eval]) hl2.out (hcb.out _ hb3 ⟨g, p0, none⟩ (fun _ => rfl)) (by omega) ?_; intro v3 w4 hown4 hb4 hg4)
                  | (refine step_app (by rfl) (.tmp 85) (.tmp 88) (by rfl) wr.heap.size hb2 hb2.size v1 (0 + p0) ([] ++ out.take p0) (by simp [Act.eval]) hown2 ⟨wr.heap.size, 0, none⟩ 1 1 [n + q] (by simp [Act.eval]) rfl (cell_elem hel.out) (by omega) ?_; intro v2 w3 hown3 hb3 hg3))
                all_goals
                  go_wp2_with fail
                  go_meet
                  obtain ⟨g2, cp2, e1, e2⟩ := three_own (B := w.heap.size) hWz hp1 hown4
                  exact ⟨g2, cp2, e1, e2, below_then hbw (Nat.le_refl _) hb4⟩
            case rest =>
              clear hown hbw hWz
              obtain ⟨g2, cp2, rfl, hown2, hbw2⟩ := hcut
              have hpl := Lib.hid (Pu.put_len p0 (n + q) out hp1)
              go_wp2
              go_roundg b2.size
              case measure => have := Hk.out; omega
              case rel =>
                refine ⟨b2, Pu.put p0 (n + q) out, g2, cp2, p0 + 1, n + q, b', rfl, by rw [hpl.out], rfl, rfl, rfl, rfl, by rw [hpl.out]; omega, by omega, by rw [hpl.out]; omega, by omega, by omega, b'0, b'1, ?_, ?_, hbw2⟩
                · rw [HR2.out, Int.toNat_natCast]
                · rw [hpl.out]; exact hown2
    · rw [show decide (bk.size = 0) = true from decide_eq_true (by omega)] at hemp
      have e0 : Pu.bl bk = [] := List.eq_nil_of_length_eq_zero (by rw [← Pu.bl_size]; omega)
      rw [e0, Pu.sd_nil] at hR
      have HR := Lib.hid hR
      clear hR e0
      go_wp2
      go_ret2
      rw [← HR.out]
      exact ⟨_, _, rfl, hown, hbw⟩

end Go.Proofs.Ytoeaiifmablbnaa
