/- The plain functions that the code computes: thresholds, digits, the bias, the encoder and the decoder of Punycode over lists. No program in sight. -/
import GoSem.Core.Utf8
namespace Go.Proofs.Ytoeaiifmablbnaa.Pu

/-- the threshold at a place -/
def thr (k b : Int) : Int := if k ≤ b then 1 else if b + 26 ≤ k then 26 else k - b

theorem thr_bd (k b : Int) : 1 ≤ thr k b ∧ thr k b ≤ 26 := by
  unfold thr; split
  · omega
  · split <;> omega

/-- the loop of the bias, with fuel -/
def adLoop : Nat → Int → Int → Int
  | 0, d, k => k + 36 * d / (d + 38)
  | f + 1, d, k => if 455 < d then adLoop f (d / 35) (k + 36) else k + 36 * d / (d + 38)

def adapt (delta num : Int) (first : Bool) : Int :=
  adLoop ((if first then delta / 700 else delta / 2) + (if first then delta / 700 else delta / 2) / num).toNat
    ((if first then delta / 700 else delta / 2) + (if first then delta / 700 else delta / 2) / num) 0

theorem adLoop_end (f : Nat) (d k : Int) (h : ¬ 455 < d) : adLoop f d k = k + 36 * d / (d + 38) := by
  cases f with
  | zero => rfl
  | succ f => simp [adLoop, h]

theorem adLoop_step (f : Nat) (d k : Int) (h : 455 < d) : adLoop (f + 1) d k = adLoop f (d / 35) (k + 36) := by
  simp [adLoop, h]

/-- what fuel there is beyond d does nothing -/
theorem adLoop_fuel (f : Nat) : ∀ (g : Nat) (d k : Int), d ≤ f → d ≤ g → adLoop f d k = adLoop g d k := by
  induction f with
  | zero => intro g d k h1 h2; rw [adLoop_end 0 d k (by omega), adLoop_end g d k (by omega)]
  | succ f ih =>
    intro g d k h1 h2
    by_cases h : 455 < d
    · obtain ⟨g', rfl⟩ : ∃ g', g = g' + 1 := ⟨g - 1, by omega⟩
      rw [adLoop_step f d k h, adLoop_step g' d k h]
      exact ih g' (d / 35) (k + 36) (by omega) (by omega)
    · rw [adLoop_end _ d k h, adLoop_end _ d k h]

/-- the bias stays small -/
theorem ad_last (d : Int) (h0 : 0 ≤ d) (h : d ≤ 455) : 0 ≤ 36 * d / (d + 38) ∧ 36 * d / (d + 38) ≤ 33 := by
  constructor
  · exact Int.ediv_nonneg (by omega) (by omega)
  · have : 36 * d / (d + 38) < 34 := Int.ediv_lt_of_lt_mul (by omega) (by omega)
    omega

theorem adLoop_le (f : Nat) (d k : Int) (h0 : 0 ≤ d) (h : d ≤ 2147483647) (hf : d ≤ f) (hk : 0 ≤ k) : 0 ≤ adLoop f d k ∧ adLoop f d k ≤ k + 213 := by
  by_cases h1 : 455 < d
  · obtain ⟨f1, rfl⟩ : ∃ g, f = g + 1 := ⟨f - 1, by omega⟩
    rw [adLoop_step f1 d k h1]
    by_cases h2 : 455 < d / 35
    · obtain ⟨f2, rfl⟩ : ∃ g, f1 = g + 1 := ⟨f1 - 1, by omega⟩
      rw [adLoop_step f2 _ _ h2]
      by_cases h3 : 455 < d / 35 / 35
      · obtain ⟨f3, rfl⟩ : ∃ g, f2 = g + 1 := ⟨f2 - 1, by omega⟩
        rw [adLoop_step f3 _ _ h3]
        by_cases h4 : 455 < d / 35 / 35 / 35
        · obtain ⟨f4, rfl⟩ : ∃ g, f3 = g + 1 := ⟨f3 - 1, by omega⟩
          rw [adLoop_step f4 _ _ h4]
          by_cases h5 : 455 < d / 35 / 35 / 35 / 35
          · obtain ⟨f5, rfl⟩ : ∃ g, f4 = g + 1 := ⟨f4 - 1, by omega⟩
            rw [adLoop_step f5 _ _ h5, adLoop_end _ _ _ (by omega)]
            have := ad_last (d / 35 / 35 / 35 / 35 / 35) (by omega) (by omega)
            omega
          · rw [adLoop_end _ _ _ h5]; have := ad_last (d / 35 / 35 / 35 / 35) (by omega) (by omega); omega
        · rw [adLoop_end _ _ _ h4]; have := ad_last (d / 35 / 35 / 35) (by omega) (by omega); omega
      · rw [adLoop_end _ _ _ h3]; have := ad_last (d / 35 / 35) (by omega) (by omega); omega
    · rw [adLoop_end _ _ _ h2]; have := ad_last (d / 35) (by omega) (by omega); omega
  · rw [adLoop_end _ _ _ h1]; have := ad_last d h0 (by omega); omega

theorem half_bd (x num : Int) (h0 : 0 ≤ x) (hn : 1 ≤ num) : 0 ≤ x / num ∧ x / num ≤ x :=
  ⟨Int.ediv_nonneg h0 (by omega), Int.ediv_le_self _ h0⟩

theorem adapt_le (delta num : Int) (first : Bool) (h0 : 0 ≤ delta) (h1 : delta ≤ 2147483647) (hn : 1 ≤ num) : 0 ≤ adapt delta num first ∧ adapt delta num first ≤ 213 := by
  unfold adapt
  generalize hx : (if first then delta / 700 else delta / 2) = x
  have hb : 0 ≤ x ∧ x ≤ 1073741823 := by subst hx; split <;> omega
  have hd := half_bd x num hb.1 hn
  have := adLoop_le (x + x / num).toNat (x + x / num) 0 (by omega) (by omega) (by omega) (by omega)
  omega

/-- a number in digits, with fuel -/
def numD : Nat → Int → Int → Int → List Int
  | 0, _, _, _ => []
  | f + 1, n, k, b => if n < thr k b then [n] else (thr k b + (n - thr k b) % (36 - thr k b)) :: numD f ((n - thr k b) / (36 - thr k b)) (k + 36) b

def num (n k b : Int) : List Int := numD (n.toNat + 1) n k b

theorem quo_bd (n t : Int) (h1 : 1 ≤ t) (h2 : t ≤ 26) (h3 : t ≤ n) : 0 ≤ (n - t) / (36 - t) ∧ (n - t) / (36 - t) < n := by
  have a := Int.ediv_nonneg (a := n - t) (b := 36 - t) (by omega) (by omega)
  have b := Int.ediv_le_self (a := n - t) (36 - t) (by omega)
  omega

theorem rem_bd (n t : Int) (h2 : t ≤ 26) : 0 ≤ (n - t) % (36 - t) ∧ (n - t) % (36 - t) < 36 - t :=
  ⟨Int.emod_nonneg _ (by omega), Int.emod_lt_of_pos _ (by omega)⟩

theorem numD_fuel (f : Nat) : ∀ (g : Nat) (n k b : Int), 0 ≤ n → n < f → n < g → numD f n k b = numD g n k b := by
  induction f with
  | zero => intro g n k b h0 h1 h2; omega
  | succ f ih =>
    intro g n k b h0 h1 h2
    obtain ⟨g', rfl⟩ : ∃ g', g = g' + 1 := ⟨g - 1, by omega⟩
    have ht := thr_bd k b
    simp only [numD]
    by_cases h : n < thr k b
    · simp [h]
    · have := quo_bd n (thr k b) ht.1 ht.2 (by omega)
      rw [if_neg h, if_neg h, ih g' _ (k + 36) b (by omega) (by omega) (by omega)]

theorem num_last (n k b : Int) (h : n < thr k b) : num n k b = [n] := by
  unfold num; simp only [numD]; rw [if_pos h]

theorem num_step (n k b : Int) (h : ¬ n < thr k b) : num n k b = (thr k b + (n - thr k b) % (36 - thr k b)) :: num ((n - thr k b) / (36 - thr k b)) (k + 36) b := by
  have ht := thr_bd k b
  have := quo_bd n (thr k b) ht.1 ht.2 (by omega)
  unfold num
  rw [numD, if_neg h]
  congr 1
  exact numD_fuel _ _ _ _ _ (by omega) (by omega) (by omega)

/-- digits as bytes -/
def dig (d : Int) : UInt8 := UInt8.ofNat (if d < 26 then d + 97 else d + 22).toNat
/-- bytes as digits; below 0: none -/
def undigI (x : Int) : Int := if 97 ≤ x ∧ x ≤ 122 then x - 97 else if 65 ≤ x ∧ x ≤ 90 then x - 65 else if 48 ≤ x ∧ x ≤ 57 then x - 22 else -1
def undig (c : UInt8) : Int := undigI c.toNat

theorem dig_toNat (d : Int) (h0 : 0 ≤ d) (h : d < 36) : ((dig d).toNat : Int) = if d < 26 then d + 97 else d + 22 := by
  unfold dig
  simp only [UInt8.toNat_ofNat']
  split <;> omega

theorem undig_dig (d : Int) (h0 : 0 ≤ d) (h : d < 36) : undig (dig d) = d := by
  have e := dig_toNat d h0 h
  unfold undig undigI
  split at e <;> repeat' split
  all_goals omega

theorem undig_lt (c : UInt8) : -1 ≤ undig c ∧ undig c < 36 := by
  unfold undig undigI; repeat' split
  all_goals omega

/-! ### the encoder -/

structure ES where
  out : List UInt8
  delta : Int
  bias : Int
  h : Int

def estep (b m : Int) (s : ES) (c : Int) : ES :=
  if c < m then ⟨s.out, s.delta + 1, s.bias, s.h⟩
  else if c = m then ⟨s.out ++ (num s.delta 36 s.bias).map dig, 0, adapt s.delta (s.h + 1) (s.h == b), s.h + 1⟩
  else s

def nextM (n m0 : Int) (l : List Int) : Int := l.foldl (fun m c => if n ≤ c ∧ c < m then c else m) m0

/-- the pass for the next code point: what it begins with -/
def ebegin (l : List Int) (n : Int) (s : ES) : ES := ⟨s.out, s.delta + (nextM n 1114112 l - n) * (s.h + 1), s.bias, s.h⟩
def epass (b m : Int) (l : List Int) (s : ES) : ES := l.foldl (estep b m) s
def eend (s : ES) : ES := ⟨s.out, s.delta + 1, s.bias, s.h⟩

def eloop (b : Int) (l : List Int) : Nat → Int → ES → List UInt8
  | 0, _, s => s.out
  | f + 1, n, s => if s.h < l.length then eloop b l f (nextM n 1114112 l + 1) (eend (epass b (nextM n 1114112 l) l (ebegin l n s))) else s.out

def basic (l : List Int) : List Int := l.filter (· < 128)
def byteOf (c : Int) : UInt8 := UInt8.ofNat c.toNat
def front (l : List Int) : List UInt8 := (basic l).map byteOf ++ if (basic l).length = 0 then [] else [45]

def enc (l : List Int) : List UInt8 := eloop (basic l).length l l.length 128 ⟨front l, 0, 72, (basic l).length⟩

/-! ### the decoder -/

/-- one number off the front of a text: 1 and the new place and the rest; 2: none; 3: too great -/
def dnum : List UInt8 → Int → Int → Int → Int → Int × Int × List UInt8
  | [], _, _, _, _ => (2, 0, [])
  | c :: r, k, b, w, i =>
    if undig c < 0 then (2, 0, [])
    else if 2147483647 < i + undig c * w then (3, 0, [])
    else if undig c < thr k b then (1, i + undig c * w, r)
    else if 2147483647 < w * (36 - thr k b) then (3, 0, [])
    else dnum r (k + 36) b (w * (36 - thr k b)) (i + undig c * w)

structure DS where
  out : List Int
  i : Int
  n : Int
  bias : Int

def put (p : Nat) (c : Int) (l : List Int) : List Int := l.take p ++ c :: l.drop p

def dstep (s : DS) (i : Int) : DS :=
  ⟨put (i % (s.out.length + 1)).toNat (s.n + i / (s.out.length + 1)) s.out, i % (s.out.length + 1) + 1, s.n + i / (s.out.length + 1), adapt (i - s.i) (s.out.length + 1) (s.i == 0)⟩

/-- the decoder of the reference -/
def sdec : Nat → List UInt8 → DS → Int × List Int
  | 0, _, s => (1, s.out)
  | f + 1, back, s =>
    if back = [] then (1, s.out)
    else if (dnum back 36 s.bias 1 s.i).1 = 1 then
      if 1114111 < (dstep s (dnum back 36 s.bias 1 s.i).2.1).n then (2, [])
      else if 55296 ≤ (dstep s (dnum back 36 s.bias 1 s.i).2.1).n ∧ (dstep s (dnum back 36 s.bias 1 s.i).2.1).n < 57344 then (3, [])
      else sdec f (dnum back 36 s.bias 1 s.i).2.2 (dstep s (dnum back 36 s.bias 1 s.i).2.1)
    else ((dnum back 36 s.bias 1 s.i).1, [])

/-- the decoder of the package -/
def idec : Nat → List UInt8 → DS → Option (List Int)
  | 0, _, s => some s.out
  | f + 1, back, s =>
    if back = [] then some s.out
    else if (dnum back 36 s.bias 1 s.i).1 = 1 then
      if 1024 ≤ s.out.length then none
      else if 1114111 < (dstep s (dnum back 36 s.bias 1 s.i).2.1).n then none
      else idec f (dnum back 36 s.bias 1 s.i).2.2 (dstep s (dnum back 36 s.bias 1 s.i).2.1)
    else none

/-- the place of the last hyphen below j, or -1 -/
def hyp (s : List UInt8) : Nat → Int
  | 0 => -1
  | j + 1 => if s[j]? = some 45 then j else hyp s j

end Go.Proofs.Ytoeaiifmablbnaa.Pu
