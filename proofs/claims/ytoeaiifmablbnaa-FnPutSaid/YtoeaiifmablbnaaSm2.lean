/- What number, split, lastHyphen, errors.New, punyError, Plain compute. -/
import Derived.Test.YtoeaiifmablbnaaSm1
import Derived.Test.YtoeaiifmablbnaaStr
import Derived.BigQuiet
import Derived.Deep.QuietTactic
namespace Go.Proofs.Ytoeaiifmablbnaa
open Go.RowKit

theorem ret_str {s : ByteArray} {l : List UInt8} (h : Pu.bl s = l) : Ending.returned (.string s) = .returned (.string (Pu.bs l)) := by rw [Pu.eq_bs h]

set_option maxHeartbeats 800000 in
theorem number_any (n b : Int) (w : World) (h0 : 0 ≤ n) (h1 : n ≤ 2147483647) (hb0 : 0 ≤ b) (hb : b ≤ 1000) :
    Calls Try.prog 25 #[.int .i64 n, .int .i64 b] w fun e w' => e = .returned (.string (Pu.bs ((Pu.num n 36 b).map Pu.dig))) ∧ w = w' := by
  obtain ⟨R, hR⟩ : ∃ R, (Pu.num n 36 b).map Pu.dig = R := ⟨_, rfl⟩
  rw [hR]
  have HR := Lib.hid hR
  clear hR
  go_enter Try.func25, Try.ntmps25
  go_wp2
  go_loop [0, 5, 6] (fun q o k => ∃ (x y : Int) (S : ByteArray), q = .int .i64 x ∧ k = .int .i64 y ∧ o = .string S ∧ 0 ≤ x ∧ x ≤ 2147483647 ∧ 36 ≤ y ∧ y + 36 * x ≤ 77309411328 ∧ S.size ≤ y ∧ Pu.bl S ++ (Pu.num x y b).map Pu.dig = R) (fun q _ _ => (intOf q).toNat)
  case atStart => exact ⟨n, 36, _, rfl, rfl, rfl, h0, h1, by omega, by omega, by show ((0 : Nat) : Int) ≤ 36; omega, by rw [HR.out]; rfl⟩
  case round =>
    obtain ⟨x, y, S, rfl, rfl, rfl, hx0, hx1, hy, hxy, hS, hrel⟩ := hrel
    have HL := Lib.hid hrel
    clear hrel HR
    have ht := Pu.thr_bd y b
    by_cases hxt : x < Pu.thr y b
    · have HN := Lib.hid (Pu.num_last x y b hxt)
      obtain ⟨t, hth⟩ : ∃ t, Pu.thr y b = t := ⟨_, rfl⟩
      rw [hth] at ht hxt
      have HT := Lib.hid hth
      clear hth
      go_wp2_with fail
      refine (threshold_any y b _ (by omega) (by omega) (by omega) (by omega)).mono ?_
      rintro e w' ⟨rfl, rfl⟩
      rw [HT.out]
      go_wp2
      go_ret
      exact ⟨ret_str (by rw [Pu.bl_append, Pu.digits_cut x hx0 (by omega) _ _ rfl (by omega), ← HL.out, HN.out]; rfl), rfl⟩
    · have HN := Lib.hid (Pu.num_step x y b hxt)
      have hq := Pu.quo_bd x (Pu.thr y b) ht.1 ht.2 (by omega)
      have hm := Pu.rem_bd x (Pu.thr y b) ht.2
      obtain ⟨t, hth⟩ : ∃ t, Pu.thr y b = t := ⟨_, rfl⟩
      rw [hth] at ht hxt hq hm
      have HT := Lib.hid hth
      clear hth
      go_wp2_with fail
      refine (threshold_any y b _ (by omega) (by omega) (by omega) (by omega)).mono ?_
      rintro e w' ⟨rfl, rfl⟩
      rw [HT.out]
      go_wp2
      go_round
      case rel => 
        refine ⟨_, _, _, rfl, rfl, rfl, hq.1, by omega, by omega, by omega, ?_, ?_⟩
        · rw [Pu.bl_size, Pu.bl_append, Pu.digits_cut _ (by omega) (by omega) _ _ rfl (by omega), List.length_append, ← Pu.bl_size]
          simp; omega
        · rw [Pu.bl_append, Pu.digits_cut _ (by omega) (by omega) _ _ rfl (by omega), ← HL.out, HN.out, HT.out]
          simp
      case measure => simp [intOf]; omega

theorem hyp_yes (s : ByteArray) (k : Nat) (h : k < s.size) (e : (s[k].toNat : Int) = 45) : Pu.hyp (Pu.bl s) (k + 1) = k := by
  unfold Pu.hyp
  rw [Pu.bl_get s k h, if_pos]
  have : s[k] = 45 := by apply UInt8.toNat.inj; show s[k].toNat = 45; omega
  rw [this]
theorem hyp_no (s : ByteArray) (k : Nat) (h : k < s.size) (e : (s[k].toNat : Int) ≠ 45) : Pu.hyp (Pu.bl s) (k + 1) = Pu.hyp (Pu.bl s) k := by
  show (if (Pu.bl s)[k]? = some 45 then (k : Int) else Pu.hyp (Pu.bl s) k) = _
  rw [Pu.bl_get s k h, if_neg]
  intro h2
  apply e
  rw [Option.some.inj h2]; rfl

set_option maxHeartbeats 800000 in
theorem lastHyphen_any (s : ByteArray) (w : World) (hs : s.size ≤ 9223372036854775807) :
    Calls Try.prog 38 #[.string s] w fun e w' => e = .returned (.int .i64 (Pu.hyp (Pu.bl s) s.size)) ∧ w = w' := by
  obtain ⟨R, hR⟩ : ∃ R, Pu.hyp (Pu.bl s) s.size = R := ⟨_, rfl⟩
  rw [hR]
  have HR := Lib.hid hR
  clear hR
  go_enter Try.func38, Try.ntmps38
  go_wp2
  go_loop [3] (fun i => ∃ (j : Nat), i = .int .i64 ((j : Int) - 1) ∧ j ≤ s.size ∧ Pu.hyp (Pu.bl s) j = R) (fun i => (intOf i + 1).toNat)
  case atStart => exact ⟨s.size, rfl, Nat.le_refl _, HR.out⟩
  case round =>
    obtain ⟨j, rfl, hj, hrel⟩ := hrel
    have HL := Lib.hid hrel
    clear hrel HR
    cases j with
    | zero =>
      go_wp2
      go_ret
      exact ⟨ret_int HL.out, rfl⟩
    | succ k =>
      have hk : k < s.size := by omega
      rw [show (((k + 1 : Nat) : Int) - 1) = (k : Int) by omega]
      by_cases hc : (s[k].toNat : Int) = 45
      · have H2 := Lib.hid (hyp_yes s k hk hc)
        have hb : ((s[k].toNat : Int) == 45) = true := beq_iff_eq.2 hc
        clear hc
        go_wp2
        go_ret
        exact ⟨ret_int (by rw [← HL.out, H2.out]), rfl⟩
      · have H2 := Lib.hid (hyp_no s k hk hc)
        have hb : ((s[k].toNat : Int) == 45) = false := beq_eq_false_iff_ne.2 hc
        clear hc
        go_wp2
        go_round
        case rel => exact ⟨k, rfl, by omega, by rw [← H2.out, HL.out]⟩
        case measure => simp [intOf]

/-- what split gives: ahead of the last hyphen that is not at the beginning, and behind it -/
def frontOf (s : ByteArray) : ByteArray := if 0 < Pu.hyp (Pu.bl s) s.size then Pu.bs ((Pu.bl s).take (Pu.hyp (Pu.bl s) s.size).toNat) else Pu.bs []
def backOf (s : ByteArray) : ByteArray := if 0 < Pu.hyp (Pu.bl s) s.size then Pu.bs ((Pu.bl s).drop ((Pu.hyp (Pu.bl s) s.size).toNat + 1)) else s

theorem hyp_one (l : List UInt8) : ¬ 0 < Pu.hyp l 1 := by unfold Pu.hyp; split <;> simp [Pu.hyp]
theorem hyp_zero (l : List UInt8) : ¬ 0 < Pu.hyp l 0 := by simp [Pu.hyp]

theorem ret_str2 {a b c d : ByteArray} (h : a = c) (h2 : b = d) : Ending.returned (.tuple #[.string a, .string b]) = .returned (.tuple #[.string c, .string d]) := by rw [h, h2]
theorem split_no {s : ByteArray} (h : ¬ 0 < Pu.hyp (Pu.bl s) s.size) : frontOf s = ⟨#[]⟩ ∧ backOf s = s := by
  unfold frontOf backOf; rw [if_neg h, if_neg h]; exact ⟨rfl, rfl⟩
theorem split_yes {s : ByteArray} {k : Nat} (h : Pu.hyp (Pu.bl s) s.size = (k + 1 : Nat)) : frontOf s = s.extract 0 (k + 1) ∧ backOf s = s.extract (k + 1 + 1) s.size := by
  unfold frontOf backOf; rw [h, if_pos (by omega), if_pos (by omega)]
  constructor
  · apply Pu.bl_inj; rw [Pu.bl_bs, Pu.bl_extract]; simp
  · apply Pu.bl_inj; rw [Pu.bl_bs, Pu.bl_extract, Pu.bl_size]
    rw [List.take_of_length_le (by simp)]
    rfl

set_option maxHeartbeats 800000 in
theorem split_any (s : ByteArray) (w : World) (hs : s.size ≤ 9223372036854775807) :
    Calls Try.prog 28 #[.string s] w fun e w' => e = .returned (.tuple #[.string (frontOf s), .string (backOf s)]) ∧ ∃ n, w' = w.drewN n := by
  obtain ⟨R, hR⟩ : ∃ R, Pu.hyp (Pu.bl s) s.size = R := ⟨_, rfl⟩
  have HR := Lib.hid hR
  clear hR
  go_enter Try.func28, Try.ntmps28
  go_wp2
  go_loop [4] (fun i => ∃ (j : Nat), i = .int .i64 ((j : Int) - 1) ∧ j ≤ s.size ∧ Pu.hyp (Pu.bl s) j = R) (fun i => (intOf i + 1).toNat)
  case atStart => exact ⟨s.size, rfl, Nat.le_refl _, HR.out⟩
  case round =>
    obtain ⟨j, rfl, hj, hrel⟩ := hrel
    have HL := Lib.hid hrel
    clear hrel
    match j with
    | 0 =>
      have hn := Lib.hid (split_no (s := s) (by rw [HR.out, ← HL.out]; exact hyp_zero _))
      go_wp2
      go_ret2
      exact ⟨ret_str2 hn.out.1.symm hn.out.2.symm, 0, rfl⟩
    | 1 =>
      have hn := Lib.hid (split_no (s := s) (by rw [HR.out, ← HL.out]; exact hyp_one _))
      go_wp2
      go_ret2
      exact ⟨ret_str2 hn.out.1.symm hn.out.2.symm, 0, rfl⟩
    | k + 2 =>
      have hk : k + 1 < s.size := by omega
      rw [show (((k + 2 : Nat) : Int) - 1) = ((k + 1 : Nat) : Int) by omega]
      by_cases hc : (s[k + 1].toNat : Int) = 45
      · have H2 := Lib.hid (split_yes (s := s) (k := k) (by rw [HR.out, ← HL.out]; exact hyp_yes s (k + 1) hk hc))
        have hb : ((s[k + 1].toNat : Int) == 45) = true := beq_iff_eq.2 hc
        clear hc
        go_wp2
        go_quiet (fail)
        go_wp2
        go_ret2
        exact ⟨ret_str2 H2.out.1.symm H2.out.2.symm, _, rfl⟩
      · have H2 := Lib.hid (hyp_no s (k + 1) hk hc)
        have hb : ((s[k + 1].toNat : Int) == 45) = false := beq_eq_false_iff_ne.2 hc
        clear hc
        go_wp2
        go_round
        case rel => exact ⟨k + 1, by go_num, by omega, by rw [← H2.out, HL.out]⟩
        case measure => simp [intOf]; omega

set_option maxHeartbeats 400000 in
theorem errorsNew_any (s : ByteArray) (w : World) :
    Calls Try.prog 33 #[.string s] w fun e w' => e = .returned (.iface 59 (.pointer (some ⟨w.heap.size, 0, none⟩))) ∧ w' = w.alloc (.cells #[.string s] 61) := by
  go_enter Try.func33, Try.ntmps33
  go_wp2
  go_ret
  exact ⟨rfl, rfl⟩

set_option maxHeartbeats 400000 in
theorem punyError_any (s : ByteArray) (w : World) :
    Calls Try.prog 35 #[.string s] w fun e w' => e = .returned (.iface 59 (.pointer (some ⟨w.heap.size, 0, none⟩))) ∧ Below w.heap.size w w' := by
  go_enter Try.func35, Try.ntmps35
  go_wp2
  go_ret
  exact ⟨rfl, (Below.refl _ _).alloc (Nat.le_refl _) _⟩

end Go.Proofs.Ytoeaiifmablbnaa
