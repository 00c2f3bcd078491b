/- What punycode.decode computes. -/
import Derived.Test.YtoeaiifmablbnaaSe
import Derived.Test.YtoeaiifmablbnaaDc
import Derived.StillTailTactics
namespace Go.Proofs.Ytoeaiifmablbnaa
open Go.RowKit

/-- what decode gives: the text, or an error -/
def DwPost (R : Option (List Int)) (w : World) (e : Ending) (w' : World) : Prop :=
  ((∃ l, R = some l ∧ e = .returned (.tuple #[.string (Pu.bs (Pu.utf l)), .nilIface])) ∨ (R = none ∧ ∃ p, e = .returned (.tuple #[.string ⟨#[]⟩, .iface 59 (.pointer (some p))]))) ∧ Below w.heap.size w w'

theorem dw_err {R : Option (List Int)} {w w1 w2 : World} {p : Addr} (hR : R = none) (h1 : Below w.heap.size w w1) (h2 : Below w1.heap.size w1 w2) : DwPost R w (.returned (.tuple #[.string ⟨#[]⟩, .iface 59 (.pointer (some p))])) w2 :=
  ⟨.inr ⟨hR, p, rfl⟩, below_then h1 (Nat.le_refl _) h2⟩

theorem dc_of {s : List UInt8} {P : Nat} (hne : s ≠ []) (hH : Pu.hyp s s.length = (P : Int) - 1) (h1 : P ≠ 1) : Pu.dc s = Pu.idc (s.drop P) ⟨Pu.cps (s.take (P - 1)), 0, 128, 72⟩ := by
  unfold Pu.dc
  rw [if_neg hne, if_neg (by omega), hH]
  rw [show ((P : Int) - 1 + 1).toNat = P by omega, show ((P : Int) - 1).toNat = P - 1 by omega]

set_option maxRecDepth 1000000 in
set_option maxHeartbeats 1000000 in
theorem decode_empty (w : World) : Calls Try.prog 32 #[.string ⟨#[]⟩] w (DwPost (Pu.dc []) w) := by
  go_enter Try.func32, Try.ntmps32
  go_wp2
  go_ret2
  exact ⟨.inl ⟨[], rfl, rfl⟩, Below.refl _ _⟩

set_option maxRecDepth 1000000 in
set_option maxHeartbeats 1000000 in
theorem decode_bare (S : ByteArray) (w : World) (hs : S.size ≤ 100000) (hne : Pu.bl S ≠ []) (hH : Pu.hyp (Pu.bl S) S.size = 0) : Calls Try.prog 32 #[.string S] w (DwPost (Pu.dc (Pu.bl S)) w) := by
  have hR : Hid (Pu.dc (Pu.bl S) = none) := by
    show _ = _
    rw [Pu.bl_size] at hH
    unfold Pu.dc; rw [if_neg hne, if_pos hH]
  generalize Pu.dc (Pu.bl S) = R at *
  have h0 : S.toList = [] ↔ False := by
    rw [ByteArray.toList_eq]; exact ⟨fun h => hne h, fun h => h.elim⟩
  have h0' : S.toList.isEmpty = false := by
    rw [ByteArray.toList_eq]
    show (Pu.bl S).isEmpty = false
    cases h : Pu.bl S with
    | nil => exact absurd h hne
    | cons a b => rfl
  have HH := Lib.hid hH
  have Hne := Lib.hid hne
  clear hH hne
  go_enter Try.func32, Try.ntmps32
  go_wp2_with fail
  refine (lastHyphen_any S _ (by omega)).mono ?_
  rintro e w' ⟨rfl, rfl⟩
  rw [HH.out]
  go_wp2_with fail
  refine (punyError_any S _).mono ?_
  rintro e w' ⟨rfl, hb⟩
  go_wp2
  go_ret2
  exact dw_err hR.out (Below.refl _ _) hb

set_option maxRecDepth 1000000 in
set_option maxHeartbeats 1000000 in
theorem decode_front (S : ByteArray) (w : World) (hs : S.size ≤ 100000) (hasc : ∀ c ∈ Pu.bl S, c.toNat < 128) (hP : 2 ≤ S.size) (hH : Pu.hyp (Pu.bl S) S.size = (S.size : Int) - 1) : Calls Try.prog 32 #[.string S] w (DwPost (Pu.dc (Pu.bl S)) w) := by
  have hne : Pu.bl S ≠ [] := by intro h; rw [Pu.bl_size, h] at hP; simp at hP
  have hR : Hid (∃ l, Pu.dc (Pu.bl S) = some l ∧ Pu.bs (Pu.utf l) = S.extract 0 (S.size - 1)) := by
    show ∃ _, _
    refine ⟨_, by rw [dc_of hne (P := S.size) (by rw [← Pu.bl_size]; exact hH) (by omega), List.drop_of_length_le (by rw [← Pu.bl_size]; omega), Pu.idc_nil], ?_⟩
    apply Pu.bl_inj
    rw [Pu.bl_bs, Pu.utf_cps _ (fun c hc => hasc c (List.mem_of_mem_take hc)), Pu.bl_extract]
    simp
  generalize Pu.dc (Pu.bl S) = R at *
  have h0' : S.toList.isEmpty = false := by
    rw [ByteArray.toList_eq]
    show (Pu.bl S).isEmpty = false
    cases h : Pu.bl S with
    | nil => exact absurd h hne
    | cons a b => rfl
  have HH := Lib.hid hH
  have Hasc := Lib.hid hasc
  clear hH hne hasc
  have hPe : (1 : Int) + ((S.size : Int) - 1) = S.size := by omega
  have h1 : ((S.size : Int) == 1) = false := by rw [beq_eq_false_iff_ne]; omega
  go_enter Try.func32, Try.ntmps32
  go_wp2_with fail
  refine (lastHyphen_any S _ (by omega)).mono ?_
  rintro e w' ⟨rfl, rfl⟩
  rw [HH.out]
  go_wp2
  go_ret2
  obtain ⟨l, e1, e2⟩ := hR.out
  refine ⟨.inl ⟨l, e1, ?_⟩, Below.refl _ _⟩
  rw [e2]
  rfl

/-- 'make([]rune, 0, n)' -/
theorem make_runes (w : World) (n : Nat) (hn : n ≤ 100000) :
    ∃ W0 : World, ((Instr.makeSlice 22 (.int .i64 0) (.int .i64 n)).run Try.prog w = .ok (.slice (some ⟨w.heap.size, 0, none⟩) 0 n) W0) ∧
      OwnI w.heap.size [] (.slice (some ⟨w.heap.size, 0, none⟩) 0 n) W0 ∧ Below w.heap.size w W0 ∧ W0.heap.size = w.heap.size + 1 := by
  obtain ⟨i0, hi, hz0, hz1, hz2⟩ := info_parts Try.info21
  have hm := run_make (P := Try.prog) w 22 21 i0 (.int .i32 0) Try.underlying22 hi hz0 .i64 .i64 0 n (by omega) (by omega) (by rw [hz2]; omega) (by omega)
  rw [hz1] at hm
  simp only [Int.toNat_natCast, Nat.mul_one, Int.toNat_zero] at hm
  refine ⟨_, hm, ?_, (Below.refl _ w).alloc (Nat.le_refl _) _, by simp⟩
  exact World.ownsRow_made w _ n (Nat.le_refl _) (by unfold maxLen; omega) (by rw [size_madeCells]; omega)

/-- behind 'append(out, c)' -/
theorem app_rune {w' : World} {B : Nat} {l : List Int} {v' : Value} {x : Int} (h : w'.ownsRow B 21 1 v' (l.length + 1) (l.map (Value.int .i32) ++ [.int .i32 x])) :
    ∃ q ad' cp', q = l ++ [x] ∧ v' = .slice ad' q.length cp' ∧ OwnI B q (.slice ad' q.length cp') w' := by
  obtain ⟨ad', cp', rfl⟩ := own_form h
  refine ⟨_, ad', cp', rfl, by simp, ?_⟩
  unfold OwnI
  simpa using h

/-- behind 'copy(out[i+1:], out[i:])': the row, and what it is once the place i is stored into -/
theorem shift_own {w4 : World} {B g cap : Nat} {cur : Array Value} {out : List Int} {p0 : Nat} (hgB : B ≤ g) (hG : w4.heap[g]? = some (.cells (splice cur.toList (p0 + 1) ((out.drop p0).map (Value.int .i32))).toArray 21 (0, 0)))
    (hnc : out.length + 1 ≤ cap) (hcm : cap ≤ maxLen) (hcs : cur.size = cap * 1) (htk : cur.toList.take ((out.length + 1) * 1) = out.map (Value.int .i32) ++ [.int .i32 0]) (hp : p0 ≤ out.length) :
    ∃ Y : List Value, w4.ownsRow B 21 1 (.slice (some ⟨g, 0, none⟩) (out.length + 1) cap) (out.length + 1) Y ∧ Y.length = out.length + 1 ∧ ∀ m, Y.set p0 (.int .i32 m) = (Pu.put p0 m out).map (Value.int .i32) := by
  rw [Nat.mul_one] at hcs htk
  have hcl : cur.toList.length = cap := by rw [Array.length_toList, hcs]
  have hdl : ((out.drop p0).map (Value.int .i32)).length = out.length - p0 := by simp
  have e1 : cur.toList.take (p0 + 1) = (out.map (Value.int .i32)).take p0 ++ [(out.map (Value.int .i32) ++ [.int .i32 0])[p0]'(by simp; omega)] := by
    have : cur.toList.take (p0 + 1) = (cur.toList.take (out.length + 1)).take (p0 + 1) := by rw [List.take_take, Nat.min_eq_left (by omega)]
    rw [this, htk, List.take_succ_eq_append_getElem (by simp; omega), List.take_append_of_le_length (by simp; omega)]
  have e2 : splice cur.toList (p0 + 1) ((out.drop p0).map (Value.int .i32)) = (cur.toList.take (p0 + 1) ++ (out.drop p0).map (Value.int .i32)) ++ cur.toList.drop (out.length + 1) := by
    unfold splice
    rw [hdl, show p0 + 1 + (out.length - p0) = out.length + 1 by omega, List.append_assoc]
  have hl1 : (cur.toList.take (p0 + 1) ++ (out.drop p0).map (Value.int .i32)).length = out.length + 1 := by
    rw [List.length_append, List.length_take, hdl, hcl]; omega
  refine ⟨cur.toList.take (p0 + 1) ++ (out.drop p0).map (Value.int .i32), ⟨by rw [hl1, Nat.mul_one], .inr ⟨g, cap, _, rfl, hgB, hG, hnc, hcm, ?_, ?_⟩⟩, hl1, fun m => ?_⟩
  · rw [List.size_toArray, e2, List.length_append, hl1, List.length_drop, hcl]; omega
  · rw [Nat.mul_one, e2, List.take_append_of_le_length (by omega), List.take_of_length_le (by omega)]
  · rw [e1, List.append_assoc, List.set_append_right _ _ (by rw [List.length_take]; omega)]
    unfold Pu.put
    have : p0 - ((out.map (Value.int .i32)).take p0).length = 0 := by rw [List.length_take, List.length_map]; omega
    rw [this]
    simp

theorem shift_src {w1 : World} {g p0 : Nat} {cur : Array Value} {out : List Int} (hgg : w1.heap[g]? = some (.cells cur 21 (0, 0))) (htk : cur.toList.take ((out.length + 1) * 1) = out.map (Value.int .i32) ++ [.int .i32 0]) :
    ∀ j v, ((out.drop p0).map (Value.int .i32))[j]? = some v → w1.cell? ((⟨g, p0, none⟩ : Addr).add j) = some v := by
  intro j v hv
  have hj : j < out.length - p0 := by have := (List.getElem?_eq_some_iff.1 hv).1; simpa using this
  have hadd : (⟨g, p0, none⟩ : Addr).add j = ⟨g, p0 + j, none⟩ := by unfold Addr.add; split <;> simp_all
  rw [hadd, cell_of_row w1 g (p0 + j) cur 21 (0, 0) hgg]
  rw [Nat.mul_one] at htk
  have e : (cur.toList.take (out.length + 1))[p0 + j]? = some v := by
    rw [htk, List.getElem?_append_left (by simp; omega), ← hv, List.map_drop, List.getElem?_drop]
  rw [List.getElem?_take_of_lt (by omega)] at e
  simpa using e

/-- at the outer loop's head -/
def D2 (S : ByteArray) (R : Option (List Int)) (B : Nat) (w : World) (k : Nat) (pv o iv nv bv : Value) (wr : World) : Prop :=
  ∃ (p : Nat) (out : List Int) (ad : Option Addr) (cp : Nat) (i n b : Int), pv = .int .i64 p ∧ o = .slice ad out.length cp ∧ iv = .int .i32 i ∧ nv = .int .i32 n ∧ bv = .int .i32 b ∧
    p + k = S.size ∧ out.length ≤ p ∧ 0 ≤ i ∧ i ≤ out.length ∧ 128 ≤ n ∧ n ≤ 1114111 ∧ 0 ≤ b ∧ b ≤ 213 ∧ Pu.idc ((Pu.bl S).drop p) ⟨out, i, n, b⟩ = R ∧ OwnI B out (.slice ad out.length cp) wr ∧ Below B w wr

theorem drop_byte (S : ByteArray) {p : Nat} (h : p < S.size) : (Pu.bl S).drop p = S[p] :: (Pu.bl S).drop (p + 1) := by
  have h' : p < (Pu.bl S).length := by rw [← Pu.bl_size]; exact h
  rw [List.drop_eq_getElem_cons h']
  congr 1

set_option maxRecDepth 1000000 in
set_option maxHeartbeats 4000000 in
theorem decode_main (S : ByteArray) (w : World) (P : Nat) (hs : S.size ≤ 100000) (hasc : ∀ c ∈ Pu.bl S, c.toNat < 128) (hP : P < S.size) (hP1 : P ≠ 1) (hH : Pu.hyp (Pu.bl S) S.size = (P : Int) - 1) : Calls Try.prog 32 #[.string S] w (DwPost (Pu.dc (Pu.bl S)) w) := by
  have hne : Pu.bl S ≠ [] := by intro h; rw [Pu.bl_size, h] at hP; simp at hP
  have hR : Pu.dc (Pu.bl S) = _ := dc_of hne (P := P) (by rw [← Pu.bl_size]; exact hH) hP1
  obtain ⟨R, hRR⟩ : ∃ R, Pu.dc (Pu.bl S) = R := ⟨_, rfl⟩
  rw [hRR] at hR ⊢
  clear hRR
  have h0' : S.toList.isEmpty = false := by
    rw [ByteArray.toList_eq]
    show (Pu.bl S).isEmpty = false
    cases h : Pu.bl S with
    | nil => exact absurd h hne
    | cons a b => rfl
  obtain ⟨i0, hi, hz0, hz1, hz2⟩ := info_parts Try.info21
  obtain ⟨W0, hmk, hown, hbw, hz⟩ := make_runes w S.size hs
  have hF : Hid (∃ F, Pu.cps ((Pu.bl S).take (P - 1)) = F ∧ F.length ≤ P ∧ (∀ c ∈ F, Pu.okc c) ∧ Pu.utf F = (Pu.bl S).take (P - 1)) :=
    ⟨_, rfl, by rw [Pu.cps_len, List.length_take]; omega, Pu.cps_ok (fun c hc => hasc c (List.mem_of_mem_take hc)), Pu.utf_cps _ (fun c hc => hasc c (List.mem_of_mem_take hc))⟩
  obtain ⟨F, hFe, hFl, hFok, hFu⟩ := hF.out
  rw [hFe] at hR
  have HR := Lib.hid hR
  have HH := Lib.hid hH
  have HFok := Lib.hid hFok
  have HFu := Lib.hid hFu
  have HFe := Lib.hid hFe
  have hsz1 : w.heap.size < W0.heap.size := by omega
  clear hR hH hne hF hFok hFu hFe hasc hz
  have hPe : (1 : Int) + ((P : Int) - 1) = P := by omega
  have h1 : ((P : Int) == 1) = false := by rw [beq_eq_false_iff_ne]; omega
  have h2 : ((P : Int) == (S.size : Int)) = false := by rw [beq_eq_false_iff_ne]; omega
  have h2' : (P == S.size) = false := by rw [beq_eq_false_iff_ne]; omega
  go_enter Try.func32, Try.ntmps32
  go_wp2_with fail
  refine (lastHyphen_any S _ (by omega)).mono ?_
  rintro e w' ⟨rfl, rfl⟩
  rw [HH.out]
  obtain ⟨zb, hzb⟩ : ∃ zb, ((P : Int) != 0) = zb := ⟨_, rfl⟩
  go_upto_if 41 with fail
  go_cut [5] (fun o wr => ∃ (ad : Option Addr) (cp : Nat), o = .slice ad F.length cp ∧ OwnI w.heap.size F (.slice ad F.length cp) wr ∧ Below w.heap.size w wr)
  case first =>
    clear hmk HR h0' h1 h2 h2' hPe
    have Hzb := Lib.hid hzb
    clear hzb
    cases zb
    · have e : F = [] := by
        have h := Hzb.out
        rw [bne_eq_false_iff_eq] at h
        rw [← HFe.out, show P = 0 by omega]; rfl
      subst e
      go_wp2
      go_meet
      exact ⟨_, _, rfl, hown, hbw⟩
    · have hP0 : P ≠ 0 := by
        have h := Hzb.out
        rw [bne_iff_ne] at h
        omega
      obtain ⟨p, hPp0⟩ : ∃ p, P = p + 1 := ⟨P - 1, by omega⟩
      have hT : Hid (Pu.bl (S.extract 0 p) = Pu.utf F) := by
        show _ = _
        rw [HFu.out, Pu.bl_extract, hPp0]; simp
      have hPp : (P : Int) - 1 = p := by omega
      have hpS : (p : Int) ≤ S.size := by omega
      clear hPp0
      go_wp2_with fail
      clear hPp
      generalize S.extract 0 p = T at *
      clear HH HFu HFe
      go_loopg [5] F.length (fun k o wr => ∃ (a t : List Int) (ad : Option Addr) (cp : Nat), F = a ++ t ∧ t.length = k ∧ wr.heap[W0.heap.size]? = some (.stringIter T (Pu.utf a).length) ∧ o = .slice ad a.length cp ∧ OwnI w.heap.size a (.slice ad a.length cp) wr ∧ Below w.heap.size w wr)
      case atStart => exact ⟨[], F, _, _, rfl, rfl, World.iter_heap W0 T 0, rfl, own_iter hown _ _, hbw.alloc (by omega) _⟩
      case round =>
        clear hown hbw
        obtain ⟨a, t, ad, cp, hla, hk, hit, rfl, hown, hbw⟩ := hrel
        have hal : a.length + t.length = F.length := by rw [hla]; simp
        have hal2 : a.length ≤ 100000 := by omega
        cases t with
        | nil =>
          have hnx := next_nil (a := a) (by rw [hT.out, hla]; simp) hit
          have A := Lib.hid hla
          clear hla hit hk hal
          go_wp2
          go_meet
          have e : F = a := by rw [A.out]; simp
          rw [e]
          exact ⟨ad, cp, rfl, hown, hbw⟩
        | cons c t =>
          have hc := HFok.out c (by rw [hla]; simp)
          obtain ⟨W, hnx, hit2, hown2, hbw2, hz2'⟩ := next_cons (r := t) (by rw [hT.out, hla]) hc hit hown hbw (by omega)
          have hWz : w.heap.size ≤ W.heap.size := by have := hbw2.size; omega
          have A : Aside (F = a ++ c :: t ∧ (c :: t).length = gk) := ⟨hla, hk⟩
          have hit2' := Lib.hid hit2
          clear hla hit hk hal hc hit2 hz2' hown hbw
          go_wp2_with (at_builtin; refine wpList_append_own _ rfl _ _ 22 rfl w.heap.size 21 i0 (.int .i32 0) 1 4 Try.underlying22 hi hz0 hz1 hz2 rfl (by decide) _ _ _ rfl (hown2.alloc _) ⟨W.heap.size, 0, none⟩ 1 1 [.int .i32 c] rfl rfl ?c1 ?c2 ?c3 ?c4 ?c5 ?_)
          case c1 => exact cell_one_new _ _ _
          case c2 => simp [Value.oneCell']
          case c3 => unfold maxLen; omega
          case c4 => omega
          case c5 => simp; omega
          intro v' w1 hown' hgrow hnil
          clear hnil
          obtain ⟨q', ad2, cp2, hq', hv, hown3⟩ := app_rune hown'
          have hit3 := Lib.hid (iter_grown (hown2.alloc _) hgrow ((Below.heap_alloc W _ _ (Array.getElem?_eq_some_iff.1 hit2'.out).1).trans hit2'.out))
          have hbw3 := below_grown (hown2.alloc _) hgrow (hbw2.alloc (by omega) _) (by omega) (by simp; omega)
          rw [hv]
          have A2 := Lib.hid hq'
          clear hv hq' hgrow hown'
          go_wp2
          go_roundg t.length
          case measure => have := A.out.2; simp at this; omega
          case rel =>
            obtain ⟨hla, hk⟩ := A.out
            refine ⟨q', t, ad2, cp2, by rw [A2.out, hla]; simp, rfl, ?_, rfl, hown3, hbw3⟩
            rw [A2.out]; exact hit3.out
  case rest =>
    clear hown hbw hmk hzb
    obtain ⟨ad, cp, rfl, hown, hbw⟩ := hcut
    have R0 : D2 S R w.heap.size w (S.size - P) (.int .i64 P) (.slice ad F.length cp) (.int .i32 0) (.int .i32 128) (.int .i32 72) wc :=
      ⟨P, F, ad, cp, 0, 128, 72, rfl, rfl, rfl, rfl, rfl, by omega, hFl, by omega, by omega, by omega, by omega, by omega, by omega, HR.out.symm, hown, hbw⟩
    clear hown hbw HR HFe HFok HFu HH h1 h2 h2' hPe h0'
    go_wp2_with fail
    go_loopg [4, 5, 8, 9, 10] (S.size - P) (fun k pv o iv nv bv wr => D2 S R w.heap.size w k pv o iv nv bv wr)
    case atStart => exact R0
    case round =>
      clear R0 hFl hP hP1 ad cp
      obtain ⟨p, out, ad, cp, i, n, b, rfl, rfl, rfl, rfl, rfl, hpk, hop, i0', i1, n0, n1, b0, b1, hR, hown, hbw⟩ := hrel
      have Hpk := Lib.hid hpk
      have hps : p ≤ S.size := by omega
      clear hpk
      by_cases hlt : p < S.size
      · have hdb := Lib.hid (drop_byte S hlt)
        obtain ⟨D, hD⟩ : ∃ D, Pu.dnum ((Pu.bl S).drop p) 36 b 1 i = D := ⟨_, rfl⟩
        have hgo := Lib.hid (Pu.idc_go ((Pu.bl S).drop p) ⟨out, i, n, b⟩)
        have hno := Lib.hid (Pu.idc_no ((Pu.bl S).drop p) ⟨out, i, n, b⟩ (by rw [hdb.out]; simp))
        rw [hR] at hgo hno
        simp only [hD] at hgo hno
        have HD := Lib.hid hD
        clear hD hR
        go_upto_block 4 with fail
        go_cut [4, 8] (fun pv iv w2 => ∃ (p1 : Nat) (j : Int), pv = .int .i64 p1 ∧ iv = .int .i32 j ∧ D = (1, j, (Pu.bl S).drop p1) ∧ p < p1 ∧ p1 ≤ S.size ∧ i ≤ j ∧ j ≤ 2147483647 ∧ wr = w2)
        case first =>
          clear hgo
          go_wp2_with fail
          go_loopg [4, 8, 13, 14] (S.size - p) (fun k pv iv wv kv w2 => ∃ (p1 : Nat) (j wt kk : Int), pv = .int .i64 p1 ∧ iv = .int .i32 j ∧ wv = .int .i32 wt ∧ kv = .int .i32 kk ∧ p1 + k = S.size ∧ p ≤ p1 ∧ i ≤ j ∧ j ≤ 2147483647 ∧ 1 ≤ wt ∧ wt ≤ 2147483647 ∧ 36 ≤ kk ∧ kk ≤ 36 * (p1 + 1 : Int) ∧ Pu.dnum ((Pu.bl S).drop p1) kk b wt j = D ∧ wr = w2)
          case atStart => exact ⟨p, i, 1, 36, rfl, rfl, rfl, rfl, by omega, by omega, by omega, by omega, by omega, by omega, by omega, by omega, HD.out, rfl⟩
          case round =>
            clear HD hdb
            obtain ⟨p1, j, wt, kk, rfl, rfl, rfl, rfl, hpk1, hpp, hij, hj, wt0, wt1, kk0, kk1, hD, rfl⟩ := hrel
            have Hpk1 := Lib.hid hpk1
            have hps1 : p1 ≤ S.size := by omega
            clear hpk1
            by_cases hlt1 : p1 < S.size
            · have hne1 : ((p1 : Int) == (S.size : Int)) = false := by rw [beq_eq_false_iff_ne]; omega
              have hne2 : (p1 == S.size) = false := by rw [beq_eq_false_iff_ne]; omega
              rw [drop_byte S hlt1, Pu.dnum] at hD
              have hul := Pu.undig_lt S[p1]
              have hdy := Lib.hid (decodeDigit_yes S[p1])
              have hdn := Lib.hid (decodeDigit_no S[p1])
              obtain ⟨u, hu⟩ : ∃ u, Pu.undig S[p1] = u := ⟨_, rfl⟩
              rw [hu] at hD hul hdy hdn
              obtain ⟨u0, u1⟩ := hul
              clear hu
              by_cases hu0 : u < 0
              · rw [if_pos hu0] at hD
                have hRn := Lib.hid (hno.out (by rw [← hD]; simp))
                clear hD hno
                go_wp2_with fail
                refine (hdn.out _ hu0).mono ?_
                rintro e w' ⟨rfl, rfl⟩
                go_wp2_with fail
                refine (punyError_any S _).mono ?_
                rintro e w' ⟨rfl, hb⟩
                go_wp2
                go_ret2
                exact dw_err hRn.out hbw hb
              · rw [if_neg hu0] at hD
                have m0 : 0 ≤ u * wt := Int.mul_nonneg (by omega) (by omega)
                have m1 : u * wt ≤ 35 * 2147483647 := Int.mul_le_mul (by omega) (by omega) (by omega) (by omega)
                by_cases hov : 2147483647 < j + u * wt
                · rw [if_pos hov] at hD
                  have hRn := Lib.hid (hno.out (by rw [← hD]; simp))
                  clear hD hno
                  go_wp2_with fail
                  refine (hdy.out _ (by omega)).mono ?_
                  rintro e w' ⟨rfl, rfl⟩
                  go_wp2_with fail
                  refine (madd_over j u wt _ (by omega) (by omega) (by omega) (by omega) (by omega) (by omega) m0 (by omega) hov).mono ?_
                  rintro e w' ⟨rfl, rfl⟩
                  go_wp2_with fail
                  refine (punyError_any S _).mono ?_
                  rintro e w' ⟨rfl, hb⟩
                  go_wp2
                  go_ret2
                  exact dw_err hRn.out hbw hb
                · rw [if_neg hov] at hD
                  go_wp2_with fail
                  refine (hdy.out _ (by omega)).mono ?_
                  rintro e w' ⟨rfl, rfl⟩
                  have HD := Lib.hid hD
                  clear hD
                  go_wp2_with fail
                  refine (madd_ok j u wt _ (by omega) (by omega) (by omega) (by omega) (by omega) (by omega) m0 (by omega)).mono ?_
                  rintro e w' ⟨rfl, rfl⟩
                  have ht := Pu.thr_bd kk b
                  obtain ⟨T, hT⟩ : ∃ T, Pu.thr kk b = T := ⟨_, rfl⟩
                  rw [hT] at ht HD
                  have HT := Lib.hid hT
                  clear hT
                  obtain ⟨t0, t1⟩ := ht
                  have hJ1 : i ≤ j + u * wt := by omega
                  have hJ2 : j + u * wt ≤ 2147483647 := by omega
                  generalize j + u * wt = J at *
                  clear m0 m1 hov hdy hdn hij hj
                  go_upto_if 95 with fail
                  go_cut [17] (fun tv w2 => tv = .int .i32 T ∧ wr = w2)
                  case first =>
                    have hTd := HT.out
                    unfold Pu.thr at hTd
                    by_cases k1 : kk ≤ b
                    · rw [if_pos k1] at hTd
                      have HTd := Lib.hid hTd
                      clear hTd
                      go_wp2
                      go_meet
                      exact ⟨by rw [HTd.out], rfl⟩
                    by_cases k2 : b + 26 ≤ kk
                    · rw [if_neg k1, if_pos k2] at hTd
                      have HTd := Lib.hid hTd
                      clear hTd
                      go_wp2
                      go_meet
                      exact ⟨by rw [HTd.out], rfl⟩
                    · rw [if_neg k1, if_neg k2] at hTd
                      have HTd := Lib.hid hTd
                      clear hTd
                      go_wp2
                      go_meet
                      exact ⟨by rw [HTd.out], rfl⟩
                  case rest =>
                    obtain ⟨rfl, rfl⟩ := hcut
                    by_cases hut : u < T
                    · go_wp2
                      go_meet
                      have hD := HD.out
                      rw [if_pos hut] at hD
                      exact ⟨p1 + 1, J, by go_num, rfl, hD.symm, by omega, by omega, hJ1, hJ2, rfl⟩
                    · have hD := HD.out
                      rw [if_neg hut] at hD
                      have q0 : 0 ≤ wt * (36 - T) := Int.mul_nonneg (by omega) (by omega)
                      have q1 : wt * (36 - T) ≤ 2147483647 * 35 := Int.mul_le_mul (by omega) (by omega) (by omega) (by omega)
                      have q2 : 1 ≤ wt * (36 - T) := by
                        have := Int.mul_le_mul wt0 (show (1 : Int) ≤ 36 - T by omega) (by omega) (by omega)
                        omega
                      by_cases hov : 2147483647 < wt * (36 - T)
                      · rw [if_pos hov] at hD
                        have hRn := Lib.hid (hno.out (by rw [← hD]; simp))
                        clear hD hno HD
                        go_wp2_with fail
                        refine (madd_over 0 wt (36 - T) _ (by omega) (by omega) (by omega) (by omega) (by omega) (by omega) q0 (by omega) (by omega)).mono ?_
                        rintro e w' ⟨rfl, rfl⟩
                        go_wp2_with fail
                        refine (punyError_any S _).mono ?_
                        rintro e w' ⟨rfl, hb⟩
                        go_wp2
                        go_ret2
                        exact dw_err hRn.out hbw hb
                      · rw [if_neg hov] at hD
                        have HD2 := Lib.hid hD
                        clear hD HD
                        go_wp2_with fail
                        refine (madd_ok 0 wt (36 - T) _ (by omega) (by omega) (by omega) (by omega) (by omega) (by omega) q0 (by omega)).mono ?_
                        rintro e w' ⟨rfl, rfl⟩
                        go_wp2
                        go_roundg (S.size - (p1 + 1))
                        case measure => have := Hpk1.out; omega
                        case rel => exact ⟨p1 + 1, J, wt * (36 - T), kk + 36, by go_num, rfl, by go_num, rfl, by omega, by omega, hJ1, hJ2, q2, by omega, by omega, by omega, HD2.out, rfl⟩
            · have hne1 : ((p1 : Int) == (S.size : Int)) = true := by rw [beq_iff_eq]; omega
              have hne2 : (p1 == S.size) = true := by rw [beq_iff_eq]; omega
              rw [List.drop_of_length_le (by rw [← Pu.bl_size]; omega), Pu.dnum] at hD
              have hRn := Lib.hid (hno.out (by rw [← hD]; simp))
              clear hD hno
              go_wp2_with fail
              refine (punyError_any S _).mono ?_
              rintro e w' ⟨rfl, hb⟩
              go_wp2
              go_ret2
              exact dw_err hRn.out hbw hb
        case rest =>
          clear hno HD hdb
          obtain ⟨p1, j, rfl, rfl, hD, hpp, hps1, hij, hj, rfl⟩ := hcut
          have hR := hgo.out j _ hD
          clear hD hgo
          by_cases h1024 : 1024 ≤ out.length
          · rw [if_pos h1024] at hR
            have hRn := Lib.hid hR
            clear hR
            go_wp2_with fail
            refine (punyError_any S _).mono ?_
            rintro e w' ⟨rfl, hb⟩
            go_wp2
            go_ret2
            exact dw_err hRn.out hbw hb
          · rw [if_neg h1024] at hR
            unfold Pu.dstep at hR
            simp only at hR
            have hdq := Pu.half_bd j ((out.length : Int) + 1) (by omega) (by omega)
            have hdr0 := Int.emod_nonneg j (show (out.length : Int) + 1 ≠ 0 by omega)
            have hdr1 := Int.emod_lt_of_pos j (show (0 : Int) < out.length + 1 by omega)
            obtain ⟨q, hq⟩ : ∃ q, j / ((out.length : Int) + 1) = q := ⟨_, rfl⟩
            obtain ⟨p0, hp0⟩ : ∃ p0 : Nat, j % ((out.length : Int) + 1) = p0 := ⟨(j % ((out.length : Int) + 1)).toNat, by omega⟩
            rw [hq] at hR hdq
            rw [hp0] at hR hdr0 hdr1
            have hp1 : p0 ≤ out.length := by omega
            obtain ⟨q0, q1⟩ := hdq
            have had := Pu.adapt_le (j - i) (out.length + 1) (i == 0) (by omega) (by omega) (by omega)
            obtain ⟨b', hb'⟩ : ∃ b', Pu.adapt (j - i) (out.length + 1) (i == 0) = b' := ⟨_, rfl⟩
            rw [hb'] at hR had
            have Hb' := Lib.hid hb'
            obtain ⟨b'0, b'1⟩ := had
            clear hb' hdr0 hdr1
            have HR := Lib.hid hR
            clear hR
            by_cases hov : 1114111 < n + q
            · have hR := HR.out
              rw [if_pos hov] at hR
              have hRn := Lib.hid hR
              clear hR HR
              by_cases hov2 : n + q ≤ 2147483647
              · go_wp2_with fail
                refine (adapt_any (j - i) (out.length + 1) (i == 0) _ (by omega) (by omega) (by omega) (by omega)).mono ?_
                rintro e w' ⟨rfl, rfl⟩
                go_wp2_with fail
                refine (punyError_any S _).mono ?_
                rintro e w' ⟨rfl, hb⟩
                go_wp2
                go_ret2
                exact dw_err hRn.out hbw hb
              · obtain ⟨Z, hZ⟩ : ∃ Z, wrap32 (n + q) = Z := ⟨_, rfl⟩
                have hZ0 : Z < 0 := by
                  rw [← hZ]; unfold wrap32; omega
                go_wp2_with fail
                refine (adapt_any (j - i) (out.length + 1) (i == 0) _ (by omega) (by omega) (by omega) (by omega)).mono ?_
                rintro e w' ⟨rfl, rfl⟩
                go_wp2_with fail
                refine (punyError_any S _).mono ?_
                rintro e w' ⟨rfl, hb⟩
                go_wp2
                go_ret2
                exact dw_err hRn.out hbw hb
            · have hR := HR.out
              rw [if_neg hov] at hR
              have HR2 := Lib.hid hR
              clear hR HR
              have hWz : w.heap.size ≤ wr.heap.size := hbw.size
              go_wp2_with fail
              refine (adapt_any (j - i) (out.length + 1) (i == 0) _ (by omega) (by omega) (by omega) (by omega)).mono ?_
              rintro e w' ⟨rfl, rfl⟩
              rw [Hb'.out]
              go_wp2_with (at_builtin; refine wpList_append_own _ rfl _ _ 22 rfl w.heap.size 21 i0 (.int .i32 0) 1 4 Try.underlying22 hi hz0 hz1 hz2 rfl (by decide) _ _ _ rfl (World.ownsRow.alloc hown _) ⟨wr.heap.size, 0, none⟩ 1 1 [.int .i32 0] rfl rfl ?c1 ?c2 ?c3 ?c4 ?c5 ?_)
              case c1 => exact cell_one_new _ _ _
              case c2 => simp [Value.oneCell']
              case c3 => unfold maxLen; omega
              case c4 => omega
              case c5 => simp; omega
              intro v' w1 hown' hgrow hnil
              clear hnil
              have hbw3 := below_grown (World.ownsRow.alloc hown _) hgrow (hbw.alloc (by omega) _) (by omega) (by simp; omega)
              rcases hown'.2 with ⟨_, h0⟩ | ⟨g, cap, cur, hv, hgB, hgg, hnc, hcm, hcs, htk⟩
              · omega
              rw [hv]
              clear hv hgrow hown'
              have Hgg := Lib.hid hgg
              have Hcs := Lib.hid hcs
              have Htk := Lib.hid htk
              clear hgg hcs htk hown hbw
              have hw1 : IntKind.i32.wrap ((p0 : Int) + 1) = (p0 : Int) + 1 := IntWalk.i32_in _ (by omega)
              have hw2 : (0 : Int) ≤ (p0 : Int) + 1 := by omega
              have hw3 : ((p0 : Int) + 1).toNat = p0 + 1 := by omega
              have hw4 : (p0 : Int) + 1 ≤ ((out.length + 1 : Nat) : Int) := by omega
              have hw5 : (0 : Int) ≤ (p0 : Int) := by omega
              have hw6 : (p0 : Int) ≤ ((out.length + 1 : Nat) : Int) := by omega
              have hw7 : p0 ≤ out.length + 1 := by omega
              have hw8 : (p0 : Int) ≤ (out.length : Int) + 1 := by omega
              go_wp2_with fail
              refine wp_region_still_tail 7 (by kernel_rfl) (by kernel_rfl) ?_
              simp only [List.take_succ_cons, List.take_zero, List.drop_succ_cons, List.drop_zero]
              still_step
              still_step
              still_step
              still_step
              still_step
              still_step
              still_step
              refine wpStill_nil ?_
              refine wpList_copy_splice rfl (.tmp 151) (.tmp 154) 22 22 rfl 21 Try.underlying22 (by rw [hi]; simp [hz1]) _ _ _ _ _ _ (by rfl) (by rfl) g (p0 + 1) cur.toList 21 ?g1 ((out.drop p0).map (Value.int .i32)) ?g2 ?g3 ?g4 ?g5 w.heap.size w ?g6 hgB ?_
              case g1 => exact Hgg.out
              case g2 => rw [List.length_map, List.length_drop]; exact (Nat.min_eq_right (by omega)).symm
              case g3 =>
                intro hpos
                rw [List.length_map, List.length_drop] at hpos
                rw [if_neg (by omega), if_neg (by omega)]
                exact ⟨rfl, _, rfl, shift_src Hgg.out Htk.out⟩
              case g4 => simp; have := Hcs.out; omega
              case g5 =>
                intro v hv
                obtain ⟨x, _, rfl⟩ := List.mem_map.1 hv
                rfl
              case g6 => exact hbw3.drew
              intro w4 HG4 hB4
              generalize (if cap = p0 + 1 then some (⟨g, 0, none⟩ : Addr) else some ⟨g, p0 + 1, none⟩) = X1
              generalize (if cap = p0 then some (⟨g, 0, none⟩ : Addr) else some ⟨g, p0, none⟩) = X2
              obtain ⟨Y, hY1, hY2, hY3⟩ := shift_own hgB HG4.out hnc hcm Hcs.out Htk.out hp1
              have hcell : w4.cell? ⟨g, p0, none⟩ = some Y[p0] := by
                rw [hY1.cellAt p0 (by omega), List.getElem?_eq_getElem]
              have hfro : w4.frozen? ⟨g, p0, none⟩ = false := hY1.frozenAt p0
              have hst := Lib.hid (hY1.stored p0 (.int .i32 (n + q))).1
              have HY3 := Lib.hid (hY3 (n + q))
              generalize Y[p0] = y at *
              clear hY1 hY2 hY3 HG4 Hgg Hcs Htk hw1 hw2 hw3
              go_wp2
              go_roundg (S.size - p1)
              case measure => have := Hpk.out; omega
              case rel =>
                have hpl := Pu.put_len p0 (n + q) out hp1
                refine ⟨p1, Pu.put p0 (n + q) out, some ⟨g, 0, none⟩, cap, p0 + 1, n + q, b', rfl, by rw [hpl], rfl, rfl, rfl, by omega, by omega, by omega, by omega, by omega, by omega, b'0, b'1, ?_, ?_, hB4.setCell hgB _⟩
                · rw [HR2.out, Int.toNat_natCast]
                · unfold OwnI
                  rw [hpl, ← HY3.out]
                  exact hst.out
      · have hcv := own_runes hown
        rw [List.drop_of_length_le (by rw [← Pu.bl_size]; omega), Pu.idc_nil] at hR
        have HR := Lib.hid hR
        clear hR
        go_wp2
        go_ret2
        exact ⟨.inl ⟨out, HR.out.symm, rfl⟩, hbw⟩

end Go.Proofs.Ytoeaiifmablbnaa
