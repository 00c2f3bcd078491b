/- What spec.Encode computes: the same plain encoder. -/
import Derived.Test.YtoeaiifmablbnaaSl
import Derived.Test.YtoeaiifmablbnaaEx
namespace Go.Proofs.Ytoeaiifmablbnaa
open Go.RowKit

theorem getD_lt (l : List Int) {j : Nat} (h : j < l.length) : l.getD j 0 = l[j] := by simp [List.getD, h]

/-- 'string([]byte{byte(c)})' -/
theorem one_byte (w : World) (c : Int) (h0 : 0 ≤ c) (h : c < 256) : (convert 36 9 (.slice (some ⟨w.heap.size, 0, none⟩) 1 1)).run Try.prog (w.alloc (.cells #[.int .u8 c] 5)) = .ok (.string (Pu.bs [Pu.byteOf c])) (w.alloc (.cells #[.int .u8 c] 5)) := by
  have hb : ((Pu.byteOf c).toNat : Int) = c := by unfold Pu.byteOf; simp only [UInt8.toNat_ofNat']; omega
  have := run_convert_bytes_back (P := Try.prog) (w.alloc (.cells #[.int .u8 c] 5)) 36 9 5 ⟨w.heap.size, 0, none⟩ 1 [Pu.byteOf c] Try.underlying36 Try.underlying5 Try.underlying9 (by
    intro j hj
    have h1 : j = 0 := by simp at hj; omega
    subst h1
    have := cell_one_new w (.int .u8 c) 5 0 (.int .u8 c) rfl
    simpa [hb] using this)
  exact this

/-- what is left of the text at a place -/
theorem drop_cons (l : List Int) {j : Nat} (h : j < l.length) : l.drop j = l.getD j 0 :: l.drop (j + 1) := by rw [List.drop_eq_getElem_cons h, getD_lt _ h]

def SePost (l : List Int) (w : World) (e : Ending) (w' : World) : Prop := e = .returned (.string (Pu.bs (Pu.enc l))) ∧ Below w.heap.size w w'

/-- at the outer loop's head -/
def Q2 (l : List Int) (b : Int) (wc : World) (k : Nat) (o dn bi de nw : Value) (wr : World) : Prop :=
  ∃ (q : ByteArray) (sd sb sh m : Int), o = .string q ∧ dn = .int .i64 sh ∧ bi = .int .i64 sb ∧ de = .int .i64 sd ∧ nw = .int .i32 m ∧
    Pu.EB ⟨Pu.bl q, sd, sb, sh⟩ ((m - 128) * 1002) ∧ sh = Pu.cnt m l ∧ 128 ≤ m ∧ m ≤ 1114112 ∧ l.length ≤ k + sh ∧ Pu.eloop b l k m ⟨Pu.bl q, sd, sb, sh⟩ = Pu.enc l ∧ wc = wr

/-- in the pass for the code point M -/
def Q4 (l : List Int) (nb M : Int) (F : Pu.ES) (wc : World) (k : Nat) (o dn bi de i : Value) (wr : World) : Prop :=
  ∃ (j : Nat) (q : ByteArray) (sd sb sh : Int), o = .string q ∧ dn = .int .i64 sh ∧ bi = .int .i64 sb ∧ de = .int .i64 sd ∧ i = .int .i64 j ∧ j + k = l.length ∧
    Pu.EB ⟨Pu.bl q, sd, sb, sh⟩ ((M - 128) * 1002 + j) ∧ Pu.epass nb M (l.drop j) ⟨Pu.bl q, sd, sb, sh⟩ = F ∧ wc = wr
def Q5 (M : Int) (F : Pu.ES) (wc : World) (o dn bi de : Value) (wr : World) : Prop :=
  ∃ (q : ByteArray), o = .string q ∧ dn = .int .i64 F.h ∧ bi = .int .i64 F.bias ∧ de = .int .i64 F.delta ∧ Pu.bl q = F.out ∧ Pu.EB F ((M - 128) * 1002 + 1001) ∧ wc = wr

theorem q2_start {l : List Int} {q : ByteArray} {wc : World} {nb : Int} (hl : l.length ≤ 1001) (hnb : nb = (Pu.basic l).length) (hq : Pu.bl q = Pu.front l) : Q2 l nb wc l.length (.string q) (.int .i64 nb) (.int .i64 72) (.int .i64 0) (.int .i32 128) wc := by
  have hf := Pu.front_le l
  refine ⟨q, 0, 72, nb, 128, rfl, rfl, rfl, rfl, rfl, ?_, by rw [hnb]; rfl, by omega, by omega, by omega, by rw [hnb, hq]; rfl, rfl⟩
  rw [hq]
  exact ⟨by simp, by simp, by simp, by simp, by simp; omega, by simp only; omega⟩

set_option maxRecDepth 1000000 in
set_option maxHeartbeats 4000000 in
theorem specEncode_any (l : List Int) (B : Nat) (ad : Option Addr) (cp : Nat) (w : World) (hown : OwnI B l (.slice ad l.length cp) w) (hl : l.length ≤ 1001) (hok : ∀ c ∈ l, Pu.okc c) :
    Calls Try.prog 18 #[.slice ad l.length cp] w (SePost l w) := by
  have hok' := Lib.hid hok
  clear hok
  go_enter Try.func18, Try.ntmps18
  go_upto_block 0 with fail
  go_cut [3] (fun o wr => ∃ F : ByteArray, o = .string F ∧ Pu.bl F = (Pu.basic l).map Pu.byteOf ∧ Below w.heap.size w wr)
  case first =>
    go_wp2_with fail
    go_loopg [3, 18] l.length (fun k o i wr => ∃ (j : Nat) (F : ByteArray), o = .string F ∧ i = .int .i64 j ∧ j + k = l.length ∧ Pu.bl F = (Pu.basic (l.take j)).map Pu.byteOf ∧ Below w.heap.size w wr)
    case atStart => exact ⟨0, ⟨#[]⟩, rfl, rfl, by simp, rfl, Below.refl _ _⟩
    case round =>
      obtain ⟨j, F, rfl, rfl, hjk, hF, hbw⟩ := hrel
      have hFz : F.size ≤ 1001 := by rw [Pu.bl_size, hF, List.length_map]; have := basic_len (l.take j); have := List.length_take_le j l; omega
      have HF := Lib.hid hF
      have Hjk := Lib.hid hjk
      have hj : j ≤ l.length := by omega
      clear hF hjk
      by_cases hlt : j < l.length
      · obtain ⟨g, hg1, hg2, hcp, rfl, hcell⟩ := own_cells (own_below hown hbw) (by omega)
        have hc := hcell j hlt
        have hcd : l.getD j 0 ∈ l := by rw [getD_lt _ hlt]; exact List.getElem_mem hlt
        have htk : l.take (j + 1) = l.take j ++ [l.getD j 0] := by rw [List.take_succ_eq_append_getElem hlt, getD_lt _ hlt]
        have hcok := hok'.out _ hcd
        have Htk := Lib.hid htk
        generalize l.getD j 0 = c at *
        have hc0 : 0 ≤ c ∧ c ≤ 1114111 := by unfold Pu.okc at hcok; omega
        obtain ⟨c0, c1⟩ := hc0
        have hWz : w.heap.size ≤ wr.heap.size := hbw.size
        clear hcell hcd hcok htk
        by_cases h128 : c < 128
        · have hcv := one_byte wr c c0 (by omega)
          have hX := Lib.hid (Pu.bl_bs [Pu.byteOf c])
          have hXz : (Pu.bs [Pu.byteOf c]).size ≤ 1 := by rw [Pu.bs_size]; simp
          generalize Pu.bs [Pu.byteOf c] = X at *
          go_wp2
          go_roundg (l.length - (j + 1))
          case measure => have := Hjk.out; omega
          case rel =>
            refine ⟨j + 1, _, rfl, by go_num, by omega, ?_, hbw.alloc (by omega) _⟩
            rw [Pu.bl_append, HF.out, Htk.out, basic_snoc_yes _ c h128, List.map_append, hX.out]
            rfl
        · go_wp2
          go_roundg (l.length - (j + 1))
          case measure => have := Hjk.out; omega
          case rel =>
            refine ⟨j + 1, F, rfl, by go_num, by omega, ?_, hbw⟩
            rw [HF.out, Htk.out, basic_snoc_no _ c (by omega)]
      · go_wp2
        go_meet
        refine ⟨F, rfl, ?_, hbw⟩
        rw [HF.out, List.take_of_length_le (by omega)]
  case rest =>
    obtain ⟨F, rfl, hF, hbw⟩ := hcut
    have hown2 := own_below hown hbw
    clear hown
    have hFz : F.size = (Pu.basic l).length := by rw [Pu.bl_size, hF, List.length_map]
    have hbl := basic_len l
    have HF := Lib.hid hF
    clear hF
    obtain ⟨nb, hnb⟩ : ∃ nb : Nat, (Pu.basic l).length = nb := ⟨_, rfl⟩
    rw [hnb] at hFz hbl
    have Hnb := Lib.hid hnb
    clear hnb
    have hFz1 : F.size ≤ 1001 := by omega
    go_upto_if 35 with fail
    go_cut [3] (fun o wr => ∃ q : ByteArray, o = .string q ∧ Pu.bl q = Pu.front l ∧ wc = wr)
    case first =>
      have HFz := Lib.hid hFz
      clear hFz
      by_cases hb0 : 0 < nb
      · go_wp2
        go_meet
        refine ⟨_, rfl, ?_, rfl⟩
        rw [Pu.bl_append, HF.out]; unfold Pu.front; rw [if_neg (by have := Hnb.out; omega)]; rfl
      · go_wp2
        go_meet
        refine ⟨_, rfl, ?_, rfl⟩
        rw [HF.out]; unfold Pu.front; rw [if_pos (by have := Hnb.out; omega)]; simp
    case rest =>
      obtain ⟨q, rfl, hq, rfl⟩ := hcut
      have R0 := q2_start (wc := wc) (nb := (nb : Int)) hl (by rw [Hnb.out]) hq
      clear hq hFz hFz1 HF
      go_wp2_with fail
      go_loopg [3, 6, 8, 9, 10] l.length (fun k o dn bi de nw wr => Q2 l nb wc k o dn bi de nw wr)
      case atStart => exact R0
      case round =>
        clear R0
        obtain ⟨q, sd, sb, sh, m, rfl, rfl, rfl, rfl, rfl, hEB, hcn, hm1, hm2, hfu, hloop, rfl⟩ := hrel
        have hcl := Pu.cnt_le m l
        by_cases hlt : sh < l.length
        · obtain ⟨g, rfl⟩ : ∃ g, gk = g + 1 := ⟨gk - 1, by omega⟩
          have hex : ∃ c ∈ l, m ≤ c := Pu.cnt_lt m l (by omega)
          have hle : ∀ c ∈ l, c ≤ 1114111 := fun c hc => by have := hok'.out c hc; unfold Pu.okc at this; omega
          obtain ⟨hMl, hMm, hMx, hMn⟩ := Pu.nextM_is m 1114112 l (by obtain ⟨c, hc, h1⟩ := hex; have := hle c hc; exact ⟨c, hc, h1, by omega⟩)
          have hst := hloop
          unfold Pu.eloop at hst
          rw [if_pos (by simp only; omega)] at hst
          unfold Pu.ebegin at hst
          simp only at hst
          obtain ⟨M, hM⟩ : ∃ M, Pu.nextM m 1114112 l = M := ⟨_, rfl⟩
          rw [hM] at hst hMl hMm hMx hMn
          have hcM := Pu.cnt_gap m M l hMm hMn
          have hcS := Pu.cnt_succ M l
          have hqp := Pu.cnq_pos M l hMl
          have hcl2 := Pu.cnt_le (M + 1) l
          obtain ⟨d0, d1, b0, b1, h0, o1⟩ := hEB
          simp only at d0 d1 b0 b1 h0 o1
          have hprod : (M - m) * (sh + 1) ≤ (M - m) * 1002 := Int.mul_le_mul_of_nonneg_left (by omega) (by omega)
          have hprod0 : 0 ≤ (M - m) * (sh + 1) := Int.mul_nonneg (by omega) (by omega)
          have HM := Lib.hid hM
          have A3 : Aside (sh = Pu.cnt m l ∧ Pu.eloop nb l g (M + 1) (Pu.eend (Pu.epass nb M l ⟨Pu.bl q, sd + (M - m) * (sh + 1), sb, sh⟩)) = Pu.enc l ∧ Pu.cnt M l = Pu.cnt m l ∧ Pu.cnt (M + 1) l = Pu.cnt M l + Pu.cnq M l) := ⟨hcn, hst, hcM, hcS⟩
          have hsh : sh ≤ 1000 := by omega
          have hql : q.size ≤ 2148000000000 := by rw [Pu.bl_size]; omega
          have hFh : sh + Pu.cnq M l ≤ 1001 := by omega
          clear hcn hst hcM hcS hloop hM hex hcl hcl2 hMn
          have hMn : 128 ≤ M := by omega
          go_upto_block 4 with fail
          go_cut [11] (fun mv wr => mv = .int .i32 M ∧ wc = wr)
          case first =>
            go_wp2_with fail
            go_loopg [11, 44] l.length (fun k mv i wr => ∃ (j : Nat) (x : Int), i = .int .i64 j ∧ j + k = l.length ∧ mv = .int .i32 x ∧ x = Pu.nextM m 1114112 (l.take j) ∧ wc = wr)
            case atStart => exact ⟨0, 1114112, rfl, by simp, rfl, rfl, rfl⟩
            case round =>
              obtain ⟨j, x, rfl, hjk, rfl, hx, rfl⟩ := hrel
              have Hjk := Lib.hid hjk
              have hj : j ≤ l.length := by omega
              clear hjk
              by_cases hlt : j < l.length
              · obtain ⟨g, hg1, hg2, hcp, rfl, hcell⟩ := own_cells hown2 (by omega)
                have hc := hcell j hlt
                have hcd : l.getD j 0 ∈ l := by rw [getD_lt _ hlt]; exact List.getElem_mem hlt
                have htk : l.take (j + 1) = l.take j ++ [l.getD j 0] := by rw [List.take_succ_eq_append_getElem hlt, getD_lt _ hlt]
                have hs := Pu.nextM_snoc m 1114112 (l.take j) (l.getD j 0)
                rw [← htk, ← hx] at hs
                have hcok := hok'.out _ hcd
                generalize l.getD j 0 = c at *
                have hc0 : 0 ≤ c ∧ c ≤ 1114111 := by unfold Pu.okc at hcok; omega
                obtain ⟨c0, c1⟩ := hc0
                have A5 := Lib.hid hs
                clear hcell hcd hcok htk hs hx
                by_cases h1 : c < x
                · by_cases h2 : m ≤ c
                  · go_wp2
                    go_roundg (l.length - (j + 1))
                    case measure => have := Hjk.out; omega
                    case rel => exact ⟨j + 1, c, by go_num, by omega, rfl, by rw [A5.out, if_pos ⟨h2, h1⟩], rfl⟩
                  · have h2' : decide (m ≤ c) = false := by simpa using h2
                    go_wp2
                    go_roundg (l.length - (j + 1))
                    case measure => have := Hjk.out; omega
                    case rel => exact ⟨j + 1, x, by go_num, by omega, rfl, by rw [A5.out, if_neg (by omega)], rfl⟩
                · by_cases h2 : m ≤ c
                  · go_wp2
                    go_roundg (l.length - (j + 1))
                    case measure => have := Hjk.out; omega
                    case rel => exact ⟨j + 1, x, by go_num, by omega, rfl, by rw [A5.out, if_neg (by omega)], rfl⟩
                  · go_wp2
                    go_roundg (l.length - (j + 1))
                    case measure => have := Hjk.out; omega
                    case rel => exact ⟨j + 1, x, by go_num, by omega, rfl, by rw [A5.out, if_neg (by omega)], rfl⟩
              · have A4 : Aside (x = M) := by
                  show x = M
                  rw [hx, ← HM.out, List.take_of_length_le (by omega)]
                clear hx
                go_wp2
                go_meet
                exact ⟨by rw [A4.out], rfl⟩
          case rest =>
            obtain ⟨rfl, rfl⟩ := hcut
            have dd : 0 ≤ sd + (M - m) * (sh + 1) ∧ sd + (M - m) * (sh + 1) ≤ (M - 128) * 1002 := by omega
            have A6 := A3.out.2
            have hF0 : (Pu.epass nb M l ⟨Pu.bl q, sd + (M - m) * (sh + 1), sb, sh⟩).h = sh + Pu.cnq M l := Pu.epass_h _ _ _ _
            have E0 : Pu.EB ⟨Pu.bl q, sd + (M - m) * (sh + 1), sb, sh⟩ ((M - 128) * 1002) := ⟨dd.1, dd.2, b0, b1, h0, o1⟩
            have hcn := A3.out.1
            obtain ⟨F, hF⟩ : ∃ F, Pu.epass nb M l ⟨Pu.bl q, sd + (M - m) * (sh + 1), sb, sh⟩ = F := ⟨_, rfl⟩
            rw [hF] at A6 hF0
            have A7 : Aside (sh = Pu.cnt m l ∧ Pu.eloop nb l g (M + 1) (Pu.eend F) = Pu.enc l ∧ Pu.cnt M l = Pu.cnt m l ∧ Pu.cnt (M + 1) l = Pu.cnt M l + Pu.cnq M l ∧ F.h = sh + Pu.cnq M l ∧ Pu.EB ⟨Pu.bl q, sd + (M - m) * (sh + 1), sb, sh⟩ ((M - 128) * 1002) ∧ Pu.epass nb M l ⟨Pu.bl q, sd + (M - m) * (sh + 1), sb, sh⟩ = F) := ⟨hcn, A6.1, A6.2.1, A6.2.2, hF0, E0, hF⟩
            clear A6 hF0 E0 hcn hF A3
            obtain ⟨dd0, dd1⟩ := dd
            go_upto_block 6 with fail
            go_cut [3, 6, 8, 9] (fun o dn bi de wr => Q5 M F wc o dn bi de wr)
            case first =>
              go_wp2_with fail
              go_loopg [3, 6, 8, 9, 69] l.length (fun k o dn bi de i wr => Q4 l nb M F wc k o dn bi de i wr)
              case atStart =>
                obtain ⟨hcn, _, _, _, _, E0, hF⟩ := A7.out
                exact ⟨0, q, _, sb, sh, rfl, rfl, rfl, rfl, rfl, by simp, by simpa using E0, by simpa using hF, rfl⟩
              case round =>
                have hFh2 : F.h ≤ l.length := by
                  obtain ⟨x1, _, x2, x3, x4, _, _⟩ := A7.out
                  have := Pu.cnt_le (M + 1) l
                  omega
                clear A7 hsh hql hFh b0 b1 h0 o1 dd0 dd1 d0 d1 hprod hprod0
                obtain ⟨j, q, sd, sb, sh, rfl, rfl, rfl, rfl, rfl, hjk, hEB, hF, rfl⟩ := hrel
                have Hjk := Lib.hid hjk
                have hj : j ≤ l.length := by omega
                clear hjk
                have hEB2 := hEB
                obtain ⟨d0, d1, b0, b1, h0, o1⟩ := hEB2
                simp only at d0 d1 b0 b1 h0 o1
                have hFe := Pu.epass_h nb M (l.drop j) ⟨Pu.bl q, sd, sb, sh⟩
                rw [hF] at hFe
                simp only at hFe
                have hsh : sh ≤ 1001 := by omega
                have hql : q.size ≤ 2152000000000 := by rw [Pu.bl_size]; omega
                by_cases hlt : j < l.length
                · obtain ⟨g, hg1, hg2, hcp, rfl, hcell⟩ := own_cells hown2 (by omega)
                  have hc := hcell j hlt
                  have hcd : l.getD j 0 ∈ l := by rw [getD_lt _ hlt]; exact List.getElem_mem hlt
                  rw [drop_cons l hlt, Pu.epass_cons] at hF
                  have hE2 := hEB.step nb M (l.getD j 0) (by omega) (by omega)
                  have hcok := hok'.out _ hcd
                  generalize l.getD j 0 = c at *
                  have hc0 : 0 ≤ c ∧ c ≤ 1114111 := by unfold Pu.okc at hcok; omega
                  obtain ⟨c0, c1⟩ := hc0
                  clear hcell hcd hcok hEB
                  by_cases h1 : c < M
                  · rw [Pu.estep_lt _ _ _ _ h1] at hF hE2
                    have A9 : Aside (Pu.EB ⟨Pu.bl q, sd + 1, sb, sh⟩ ((M - 128) * 1002 + (j + 1 : Nat)) ∧ Pu.epass nb M (l.drop (j + 1)) ⟨Pu.bl q, sd + 1, sb, sh⟩ = F) := ⟨hE2.mono (by omega), hF⟩
                    clear hE2 hF hFe
                    go_wp2
                    go_roundg (l.length - (j + 1))
                    case measure => have := Hjk.out; omega
                    case rel => exact ⟨j + 1, q, sd + 1, sb, sh, rfl, rfl, rfl, rfl, by go_num, by omega, A9.out.1, A9.out.2, rfl⟩
                  by_cases h2 : M < c
                  · rw [Pu.estep_gt _ _ _ _ h2] at hF hE2
                    have A9 : Aside (Pu.EB ⟨Pu.bl q, sd, sb, sh⟩ ((M - 128) * 1002 + (j + 1 : Nat)) ∧ Pu.epass nb M (l.drop (j + 1)) ⟨Pu.bl q, sd, sb, sh⟩ = F) := ⟨hE2.mono (by omega), hF⟩
                    have hne : (c == M) = false := by rw [beq_eq_false_iff_ne]; omega
                    clear hE2 hF hFe
                    go_wp2
                    go_roundg (l.length - (j + 1))
                    case measure => have := Hjk.out; omega
                    case rel => exact ⟨j + 1, q, sd, sb, sh, rfl, rfl, rfl, rfl, by go_num, by omega, A9.out.1, A9.out.2, rfl⟩
                  · obtain rfl : M = c := by omega
                    have hFe2 := Pu.epass_h nb M (l.drop (j + 1)) (Pu.estep nb M ⟨Pu.bl q, sd, sb, sh⟩ M)
                    rw [hF] at hFe2
                    rw [Pu.estep_eq] at hF hE2 hFe2
                    simp only at hF hE2 hFe2
                    have hsh2 : sh ≤ 1000 := by omega
                    have A9 : Aside (Pu.EB ⟨Pu.bl q ++ (Pu.num sd 36 sb).map Pu.dig, 0, Pu.adapt sd (sh + 1) (sh == nb), sh + 1⟩ ((M - 128) * 1002 + (j + 1 : Nat)) ∧ Pu.epass nb M (l.drop (j + 1)) ⟨Pu.bl q ++ (Pu.num sd 36 sb).map Pu.dig, 0, Pu.adapt sd (sh + 1) (sh == nb), sh + 1⟩ = F) := ⟨hE2.mono (by omega), hF⟩
                    have hsd : sd ≤ 2147483647 := by omega
                    have hns := Pu.num_short sd 36 sb d0 hsd
                    have hXz : (Pu.bs ((Pu.num sd 36 sb).map Pu.dig)).size ≤ 11 := by rw [Pu.bs_size, List.length_map]; omega
                    have hX := Lib.hid (Pu.bl_bs ((Pu.num sd 36 sb).map Pu.dig))
                    have hne : (M == M) = true := beq_self_eq_true _
                    clear hE2 hF hFe hFe2 h1 h2 hns
                    go_wp2_with fail
                    refine (number_any sd sb _ d0 hsd b0 (by omega)).mono ?_
                    rintro e w' ⟨rfl, rfl⟩
                    generalize Pu.bs ((Pu.num sd 36 sb).map Pu.dig) = X at *
                    go_wp2_with fail
                    refine (adapted_any sd (sh + 1) (sh == nb) _ d0 hsd (by omega) (by omega)).mono ?_
                    rintro e w' ⟨rfl, rfl⟩
                    go_wp2
                    go_roundg (l.length - (j + 1))
                    case measure => have := Hjk.out; omega
                    case rel =>
                      refine ⟨j + 1, q ++ X, 0, _, sh + 1, rfl, rfl, rfl, rfl, by go_num, by omega, ?_, ?_, rfl⟩
                      · rw [Pu.bl_append, hX.out]; exact A9.out.1
                      · rw [Pu.bl_append, hX.out]; exact A9.out.2
                · rw [List.drop_of_length_le (by omega), Pu.epass_nil] at hF
                  have A9 : Aside (Pu.EB ⟨Pu.bl q, sd, sb, sh⟩ ((M - 128) * 1002 + j) ∧ ⟨Pu.bl q, sd, sb, sh⟩ = F) := ⟨hEB, hF⟩
                  clear hEB hF hFe
                  go_wp2
                  go_meet
                  obtain ⟨hEB, hF⟩ := A9.out
                  rw [← hF]
                  exact ⟨q, rfl, rfl, rfl, rfl, rfl, hEB.mono (by omega), rfl⟩
            case rest =>
              obtain ⟨hcn, hen, hc1, hc2, hFh3, E0, hF⟩ := A7.out
              clear A7
              obtain ⟨q, rfl, rfl, rfl, rfl, hq, hEB, rfl⟩ := hcut
              have hEB2 := hEB
              obtain ⟨e0, e1, e2, e3, e4, e5⟩ := hEB2
              have A8 : Aside (Pu.bl q = F.out ∧ Pu.eloop nb l g (M + 1) (Pu.eend F) = Pu.enc l ∧ F.h = Pu.cnt (M + 1) l ∧ l.length ≤ g + F.h) := ⟨hq, hen, by omega, by omega⟩
              clear hen hc1 hc2 hFh3 E0 hF hq hEB hcn
              go_wp2
              go_roundg g
              case measure => omega
              case rel =>
                obtain ⟨hq, hen, hc, hf⟩ := A8.out
                refine ⟨q, F.delta + 1, F.bias, F.h, M + 1, rfl, rfl, rfl, rfl, rfl, ?_, hc, by omega, by omega, hf, ?_, rfl⟩
                · rw [hq]; exact ⟨by simp only; omega, by simp only; omega, e2, e3, e4, e5⟩
                · rw [hq]; exact hen
        · have A3 : Aside (q = Pu.bs (Pu.enc l)) := by
            show _ = _
            apply Pu.eq_bs
            rw [← hloop, eloop_end _ _ _ _ _ (by simp only; omega)]
          clear hEB hcn hm1 hm2 hfu hloop
          go_wp2
          go_ret
          exact ⟨by rw [A3.out]; rfl, hbw⟩
end Go.Proofs.Ytoeaiifmablbnaa
