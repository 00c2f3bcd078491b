/- What the small functions of the package and of the reference compute: madd, encodeDigit, decodeDigit, adapt, threshold, digit, adapted. -/
import Derived.Test.YtoeaiifmablbnaaRows
import Derived.Test.YtoeaiifmablbnaaDefs
import Derived.WalkKit
import Derived.WalkSpells
import Derived.WalkLawsBesides
import Derived.Lib.Hide
namespace Go.Proofs.Ytoeaiifmablbnaa
open Go.RowKit

theorem ret_int {k : IntKind} {a b : Int} (h : a = b) : Ending.returned (.int k a) = .returned (.int k b) := by rw [h]

set_option maxHeartbeats 400000 in
theorem madd_ok (a b c : Int) (w : World) (ha0 : 0 ≤ a) (ha : a ≤ 2147483647) (hb0 : 0 ≤ b) (hb : b ≤ 2147483647) (hc0 : 0 ≤ c) (hc : c ≤ 2147483647) (hp0 : 0 ≤ b * c) (hp : a + b * c ≤ 2147483647) :
    Calls Try.prog 34 #[.int .i32 a, .int .i32 b, .int .i32 c] w fun e w' => e = .returned (.tuple #[.int .i32 (a + b * c), .bool false]) ∧ w = w' := by
  go_enter Try.func34, Try.ntmps34
  go_wp2
  go_ret2
  exact ⟨rfl, rfl⟩

set_option maxHeartbeats 400000 in
theorem madd_over (a b c : Int) (w : World) (ha0 : 0 ≤ a) (ha : a ≤ 2147483647) (hb0 : 0 ≤ b) (hb : b ≤ 2147483647) (hc0 : 0 ≤ c) (hc : c ≤ 2147483647) (hp0 : 0 ≤ b * c) (hpm : b * c ≤ 4611686014132420609) (hp : 2147483647 < a + b * c) :
    Calls Try.prog 34 #[.int .i32 a, .int .i32 b, .int .i32 c] w fun e w' => e = .returned (.tuple #[.int .i32 0, .bool true]) ∧ w = w' := by
  go_enter Try.func34, Try.ntmps34
  go_wp2
  go_ret2
  exact ⟨rfl, rfl⟩

set_option maxHeartbeats 400000 in
theorem encodeDigit_any (d : Int) (w : World) (h0 : 0 ≤ d) (h : d < 36) :
    Calls Try.prog 36 #[.int .i32 d] w fun e w' => e = .returned (.int .u8 (Pu.dig d).toNat) ∧ w = w' := by
  have hd := Lib.hid (Pu.dig_toNat d h0 h)
  by_cases h1 : d < 26
  · go_enter Try.func36, Try.ntmps36
    go_wp2
    go_ret
    exact ⟨ret_int (by rw [hd.out, if_pos h1]), rfl⟩
  · go_enter Try.func36, Try.ntmps36
    go_wp2
    go_ret
    exact ⟨ret_int (by rw [hd.out, if_neg (by omega)]), rfl⟩

set_option maxHeartbeats 400000 in
theorem threshold_any (k b : Int) (w : World) (hk0 : 0 ≤ k) (hk : k ≤ 1000000000000) (hb0 : 0 ≤ b) (hb : b ≤ 1000000) :
    Calls Try.prog 30 #[.int .i64 k, .int .i64 b] w fun e w' => e = .returned (.int .i64 (Pu.thr k b)) ∧ w = w' := by
  go_enter Try.func30, Try.ntmps30
  go_wp2
  all_goals go_ret
  all_goals refine ⟨ret_int ?_, rfl⟩
  all_goals (unfold Pu.thr; repeat' split)
  all_goals omega

theorem undigI_1 (x : Int) (h1 : 97 ≤ x) (h2 : x ≤ 122) : Pu.undigI x = x - 97 := by unfold Pu.undigI; rw [if_pos (by omega)]
theorem undigI_2 (x : Int) (h1 : 65 ≤ x) (h2 : x ≤ 90) : Pu.undigI x = x - 65 := by unfold Pu.undigI; rw [if_neg (by omega), if_pos (by omega)]
theorem undigI_3 (x : Int) (h1 : 48 ≤ x) (h2 : x ≤ 57) : Pu.undigI x = x - 22 := by unfold Pu.undigI; rw [if_neg (by omega), if_neg (by omega), if_pos (by omega)]
theorem undigI_4 (x : Int) (h : x < 48 ∨ (57 < x ∧ x < 65) ∨ (90 < x ∧ x < 97) ∨ 122 < x) : Pu.undigI x = -1 := by unfold Pu.undigI; rw [if_neg (by omega), if_neg (by omega), if_neg (by omega)]
theorem undigI_cases (x : Int) : (97 ≤ x ∧ x ≤ 122) ∨ (65 ≤ x ∧ x ≤ 90) ∨ (48 ≤ x ∧ x ≤ 57) ∨ (x < 48 ∨ (57 < x ∧ x < 65) ∨ (90 < x ∧ x < 97) ∨ 122 < x) := by omega

set_option maxRecDepth 100000 in
set_option maxHeartbeats 800000 in
theorem digit_int (x : Int) (w : World) (h0 : 0 ≤ x) (hb : x ≤ 255) :
    Calls Try.prog 29 #[.int .u8 x] w fun e w' => e = .returned (.int .i64 (Pu.undigI x)) ∧ w = w' := by
  rcases undigI_cases x with ⟨h1, h2⟩ | ⟨h1, h2⟩ | ⟨h1, h2⟩ | h
  · rw [undigI_1 x h1 h2]
    go_enter Try.func29, Try.ntmps29
    go_wp2
    go_ret
    exact ⟨rfl, rfl⟩
  · rw [undigI_2 x h1 h2]
    go_enter Try.func29, Try.ntmps29
    go_wp2
    go_ret
    exact ⟨rfl, rfl⟩
  · rw [undigI_3 x h1 h2]
    go_enter Try.func29, Try.ntmps29
    go_wp2
    go_ret
    exact ⟨ret_int (by omega), rfl⟩
  · rw [undigI_4 x h]
    rcases h with h | ⟨h, h'⟩ | ⟨h, h'⟩ | h
    all_goals
      go_enter Try.func29, Try.ntmps29
      go_wp2
      go_ret
      exact ⟨rfl, rfl⟩

theorem digit_any (c : UInt8) (w : World) :
    Calls Try.prog 29 #[.int .u8 c.toNat] w fun e w' => e = .returned (.int .i64 (Pu.undig c)) ∧ w = w' :=
  digit_int c.toNat w (by omega) (by have := c.toNat_lt; omega)

set_option maxRecDepth 100000 in
set_option maxHeartbeats 800000 in
theorem decodeDigit_int (x : Int) (w : World) (h0 : 0 ≤ x) (hb : x ≤ 255) :
    Calls Try.prog 39 #[.int .u8 x] w fun e w' => e = .returned (if Pu.undigI x < 0 then .tuple #[.int .i32 0, .bool false] else .tuple #[.int .i32 (Pu.undigI x), .bool true]) ∧ w = w' := by
  rcases undigI_cases x with ⟨h1, h2⟩ | ⟨h1, h2⟩ | ⟨h1, h2⟩ | h
  · rw [undigI_1 x h1 h2, if_neg (by omega)]
    go_enter Try.func39, Try.ntmps39
    go_wp2
    go_ret2
    exact ⟨rfl, rfl⟩
  · rw [undigI_2 x h1 h2, if_neg (by omega)]
    go_enter Try.func39, Try.ntmps39
    go_wp2
    go_ret2
    exact ⟨rfl, rfl⟩
  · rw [undigI_3 x h1 h2, if_neg (by omega)]
    go_enter Try.func39, Try.ntmps39
    go_wp2
    go_ret2
    exact ⟨rfl, rfl⟩
  · rw [undigI_4 x h, if_pos (by omega)]
    rcases h with h | ⟨h, h'⟩ | ⟨h, h'⟩ | h
    all_goals
      go_enter Try.func39, Try.ntmps39
      go_wp2
      go_ret2
      exact ⟨rfl, rfl⟩

theorem decodeDigit_yes (c : UInt8) (w : World) (hd : 0 ≤ Pu.undig c) :
    Calls Try.prog 39 #[.int .u8 c.toNat] w fun e w' => e = .returned (.tuple #[.int .i32 (Pu.undig c), .bool true]) ∧ w = w' :=
  (decodeDigit_int c.toNat w (by omega) (by have := c.toNat_lt; omega)).mono fun e w' ⟨h1, h2⟩ => ⟨by rw [h1, if_neg (by unfold Pu.undig at hd; omega)]; rfl, h2⟩

theorem decodeDigit_no (c : UInt8) (w : World) (hd : Pu.undig c < 0) :
    Calls Try.prog 39 #[.int .u8 c.toNat] w fun e w' => e = .returned (.tuple #[.int .i32 0, .bool false]) ∧ w = w' :=
  (decodeDigit_int c.toNat w (by omega) (by have := c.toNat_lt; omega)).mono fun e w' ⟨h1, h2⟩ => ⟨by rw [h1, if_pos (show Pu.undigI c.toNat < 0 from hd)], h2⟩

theorem quo_num (x n : Int) (h0 : 0 ≤ x) (hn : 1 ≤ n) : 0 ≤ x / n ∧ x / n ≤ x := Pu.half_bd x n h0 hn

set_option maxHeartbeats 800000 in
theorem adapt_any (delta n : Int) (first : Bool) (w : World) (h0 : 0 ≤ delta) (h1 : delta ≤ 2147483647) (hn : 1 ≤ n) (hn2 : n ≤ 2147483647) :
    Calls Try.prog 37 #[.int .i32 delta, .int .i32 n, .bool first] w fun e w' => e = .returned (.int .i32 (Pu.adapt delta n first)) ∧ w = w' := by
  cases first
  · have hq := quo_num (delta / 2) n (by omega) hn
    have hR : ∃ R, Pu.adapt delta n false = R := ⟨_, rfl⟩
    obtain ⟨R, hR⟩ := hR
    rw [hR]
    have hR' : Hid (Pu.adLoop (delta / 2 + delta / 2 / n).toNat (delta / 2 + delta / 2 / n) 0 = R) := hR
    clear hR
    go_enter Try.func37, Try.ntmps37
    go_wp2
    go_loop [0, 7] (fun d k => ∃ (x y : Int) (f : Nat), d = .int .i32 x ∧ k = .int .i32 y ∧ 0 ≤ x ∧ x ≤ 2147483647 ∧ x ≤ f ∧ 0 ≤ y ∧ y + x ≤ 2147483647 ∧ y ≤ 2147483300 ∧ Pu.adLoop f x y = R) (fun d _ => (intOf d).toNat)
    case atStart => exact ⟨_, 0, _, rfl, rfl, by omega, by omega, by omega, by omega, by omega, by omega, hR'.out⟩
    case round =>
      obtain ⟨x, y, f, rfl, rfl, hx0, hx1, hxf, hy0, hy1, hy2, hR⟩ := hrel
      by_cases hx : 455 < x
      · obtain ⟨g, rfl⟩ : ∃ g, f = g + 1 := ⟨f - 1, by omega⟩
        rw [Pu.adLoop_step g x y hx] at hR
        have HR := Lib.hid hR
        clear hR
        go_wp2
        go_round
        case rel => exact ⟨_, _, g, rfl, rfl, by omega, by omega, by omega, by omega, by omega, by omega, HR.out⟩
        case measure => simp [intOf]; omega
      · rw [Pu.adLoop_end f x y hx] at hR
        have HR := Lib.hid hR
        have hl := Pu.ad_last x hx0 (by omega)
        clear hR
        go_wp2
        go_ret
        exact ⟨ret_int HR.out, rfl⟩
  · have hq := quo_num (delta / 700) n (by omega) hn
    have hR : ∃ R, Pu.adapt delta n true = R := ⟨_, rfl⟩
    obtain ⟨R, hR⟩ := hR
    rw [hR]
    have hR' : Hid (Pu.adLoop (delta / 700 + delta / 700 / n).toNat (delta / 700 + delta / 700 / n) 0 = R) := hR
    clear hR
    go_enter Try.func37, Try.ntmps37
    go_wp2
    go_loop [0, 7] (fun d k => ∃ (x y : Int) (f : Nat), d = .int .i32 x ∧ k = .int .i32 y ∧ 0 ≤ x ∧ x ≤ 2147483647 ∧ x ≤ f ∧ 0 ≤ y ∧ y + x ≤ 2147483647 ∧ y ≤ 2147483300 ∧ Pu.adLoop f x y = R) (fun d _ => (intOf d).toNat)
    case atStart => exact ⟨_, 0, _, rfl, rfl, by omega, by omega, by omega, by omega, by omega, by omega, hR'.out⟩
    case round =>
      obtain ⟨x, y, f, rfl, rfl, hx0, hx1, hxf, hy0, hy1, hy2, hR⟩ := hrel
      by_cases hx : 455 < x
      · obtain ⟨g, rfl⟩ : ∃ g, f = g + 1 := ⟨f - 1, by omega⟩
        rw [Pu.adLoop_step g x y hx] at hR
        have HR := Lib.hid hR
        clear hR
        go_wp2
        go_round
        case rel => exact ⟨_, _, g, rfl, rfl, by omega, by omega, by omega, by omega, by omega, by omega, HR.out⟩
        case measure => simp [intOf]; omega
      · rw [Pu.adLoop_end f x y hx] at hR
        have HR := Lib.hid hR
        have hl := Pu.ad_last x hx0 (by omega)
        clear hR
        go_wp2
        go_ret
        exact ⟨ret_int HR.out, rfl⟩

set_option maxHeartbeats 800000 in
theorem adapted_any (delta n : Int) (first : Bool) (w : World) (h0 : 0 ≤ delta) (h1 : delta ≤ 2147483647) (hn : 1 ≤ n) (hn2 : n ≤ 2147483647) :
    Calls Try.prog 26 #[.int .i64 delta, .int .i64 n, .bool first] w fun e w' => e = .returned (.int .i64 (Pu.adapt delta n first)) ∧ w = w' := by
  cases first
  · have hq := quo_num (delta / 2) n (by omega) hn
    have hR : ∃ R, Pu.adapt delta n false = R := ⟨_, rfl⟩
    obtain ⟨R, hR⟩ := hR
    rw [hR]
    have hR' : Hid (Pu.adLoop (delta / 2 + delta / 2 / n).toNat (delta / 2 + delta / 2 / n) 0 = R) := hR
    clear hR
    go_enter Try.func26, Try.ntmps26
    go_wp2
    go_loop [0, 7] (fun d k => ∃ (x y : Int) (f : Nat), d = .int .i64 x ∧ k = .int .i64 y ∧ 0 ≤ x ∧ x ≤ 2147483647 ∧ x ≤ f ∧ 0 ≤ y ∧ y + x ≤ 2147483647 ∧ y ≤ 2147483300 ∧ Pu.adLoop f x y = R) (fun d _ => (intOf d).toNat)
    case atStart => exact ⟨_, 0, _, rfl, rfl, by omega, by omega, by omega, by omega, by omega, by omega, hR'.out⟩
    case round =>
      obtain ⟨x, y, f, rfl, rfl, hx0, hx1, hxf, hy0, hy1, hy2, hR⟩ := hrel
      by_cases hx : 455 < x
      · obtain ⟨g, rfl⟩ : ∃ g, f = g + 1 := ⟨f - 1, by omega⟩
        rw [Pu.adLoop_step g x y hx] at hR
        have HR := Lib.hid hR
        clear hR
        go_wp2
        go_round
        case rel => exact ⟨_, _, g, rfl, rfl, by omega, by omega, by omega, by omega, by omega, by omega, HR.out⟩
        case measure => simp [intOf]; omega
      · rw [Pu.adLoop_end f x y hx] at hR
        have HR := Lib.hid hR
        have hl := Pu.ad_last x hx0 (by omega)
        clear hR
        go_wp2
        go_ret
        exact ⟨ret_int HR.out, rfl⟩
  · have hq := quo_num (delta / 700) n (by omega) hn
    have hR : ∃ R, Pu.adapt delta n true = R := ⟨_, rfl⟩
    obtain ⟨R, hR⟩ := hR
    rw [hR]
    have hR' : Hid (Pu.adLoop (delta / 700 + delta / 700 / n).toNat (delta / 700 + delta / 700 / n) 0 = R) := hR
    clear hR
    go_enter Try.func26, Try.ntmps26
    go_wp2
    go_loop [0, 7] (fun d k => ∃ (x y : Int) (f : Nat), d = .int .i64 x ∧ k = .int .i64 y ∧ 0 ≤ x ∧ x ≤ 2147483647 ∧ x ≤ f ∧ 0 ≤ y ∧ y + x ≤ 2147483647 ∧ y ≤ 2147483300 ∧ Pu.adLoop f x y = R) (fun d _ => (intOf d).toNat)
    case atStart => exact ⟨_, 0, _, rfl, rfl, by omega, by omega, by omega, by omega, by omega, by omega, hR'.out⟩
    case round =>
      obtain ⟨x, y, f, rfl, rfl, hx0, hx1, hxf, hy0, hy1, hy2, hR⟩ := hrel
      by_cases hx : 455 < x
      · obtain ⟨g, rfl⟩ : ∃ g, f = g + 1 := ⟨f - 1, by omega⟩
        rw [Pu.adLoop_step g x y hx] at hR
        have HR := Lib.hid hR
        clear hR
        go_wp2
        go_round
        case rel => exact ⟨_, _, g, rfl, rfl, by omega, by omega, by omega, by omega, by omega, by omega, HR.out⟩
        case measure => simp [intOf]; omega
      · rw [Pu.adLoop_end f x y hx] at hR
        have HR := Lib.hid hR
        have hl := Pu.ad_last x hx0 (by omega)
        clear hR
        go_wp2
        go_ret
        exact ⟨ret_int HR.out, rfl⟩

end Go.Proofs.Ytoeaiifmablbnaa
