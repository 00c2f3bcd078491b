/- What is encoded is decoded to the text: plain, over lists. -/
import Derived.Test.YtoeaiifmablbnaaEnl
namespace Go.Proofs.Ytoeaiifmablbnaa.Pu

/-- reading the digits of a number back: q from the place k on, each worth w -/
theorem dnum_num (f : Nat) : ∀ (q k b w i : Int) (rest : List UInt8), 0 ≤ q → q < f → 1 ≤ w → 0 ≤ i → i + q * w ≤ 2147483647 → 0 ≤ b → b ≤ 213 →
    (k = 36 ∧ w ≤ 1 ∨ k = 72 ∧ w ≤ 35 ∨ k = 108 ∧ w ≤ 1225 ∨ k = 144 ∧ w ≤ 42875 ∨ k = 180 ∧ w ≤ 1500625 ∨ k = 216 ∧ w ≤ 52521875 ∨ 252 ≤ k) →
    dnum ((num q k b).map dig ++ rest) k b w i = (1, i + q * w, rest) := by
  induction f with
  | zero => intro q k b w i rest h0 h1; omega
  | succ f ih =>
    intro q k b w i rest h0 h1 hw hi hq hb0 hb hk
    have ht := thr_bd k b
    by_cases h : q < thr k b
    · rw [num_last q k b h]
      simp only [List.map_cons, List.map_nil, List.cons_append, List.nil_append, dnum]
      rw [undig_dig q h0 (by omega), if_neg (by omega), if_neg (by omega), if_pos h]
    · have hqb := quo_bd q (thr k b) ht.1 ht.2 (by omega)
      have hrb := rem_bd q (thr k b) ht.2
      have hdm := Int.mul_ediv_add_emod (q - thr k b) (36 - thr k b)
      rw [num_step q k b h]
      simp only [List.map_cons, List.cons_append, dnum]
      rw [undig_dig _ (by omega) (by omega), if_neg (by omega)]
      -- the digit, and what is left
      have hthr : k ≤ 180 ∨ (k = 216 ∧ 3 ≤ thr k b) ∨ (252 ≤ k ∧ thr k b = 26) := by
        unfold thr
        rcases hk with h | h | h | h | h | h | h
        · omega
        · omega
        · omega
        · omega
        · omega
        · right; left; refine ⟨h.1, ?_⟩; rw [if_neg (by omega)]; split <;> omega
        · right; right; refine ⟨h, ?_⟩; rw [if_neg (by omega), if_pos (by omega)]
      generalize thr k b = t at *
      generalize (q - t) / (36 - t) = Q at *
      generalize (q - t) % (36 - t) = r at *
      have e1 : q * w = (t + r) * w + Q * (w * (36 - t)) := by
        have : q = (t + r) + (36 - t) * Q := by omega
        rw [this, Int.add_mul]
        congr 1
        rw [Int.mul_comm (36 - t) Q, Int.mul_assoc, Int.mul_comm w]
      have p1 : 0 ≤ (t + r) * w := Int.mul_nonneg (by omega) (by omega)
      have p0 : 0 ≤ w * (36 - t) := Int.mul_nonneg (by omega) (by omega)
      have p2 : 0 ≤ Q * (w * (36 - t)) := Int.mul_nonneg hqb.1 p0
      have p3 : 1 ≤ w * (36 - t) := by
        have := Int.mul_le_mul hw (show (1 : Int) ≤ 36 - t by omega) (by omega) (by omega)
        omega
      -- the next weight
      have hw2 : w * (36 - t) ≤ 2147483647 ∧ (k + 36 = 36 ∧ w * (36 - t) ≤ 1 ∨ k + 36 = 72 ∧ w * (36 - t) ≤ 35 ∨ k + 36 = 108 ∧ w * (36 - t) ≤ 1225 ∨ k + 36 = 144 ∧ w * (36 - t) ≤ 42875 ∨ k + 36 = 180 ∧ w * (36 - t) ≤ 1500625 ∨ k + 36 = 216 ∧ w * (36 - t) ≤ 52521875 ∨ 252 ≤ k + 36) := by
        have a35 : w * (36 - t) ≤ w * 35 := Int.mul_le_mul_of_nonneg_left (by omega) (by omega)
        rcases hthr with h | ⟨h, h3⟩ | ⟨h, h26⟩
        · omega
        · have a33 : w * (36 - t) ≤ w * 33 := Int.mul_le_mul_of_nonneg_left (by omega) (by omega)
          omega
        · subst h26
          have : 26 * w ≤ q * w := Int.mul_le_mul_of_nonneg_right (by omega) (by omega)
          omega
      rw [if_neg (by omega), if_neg (by omega), if_neg (by omega)]
      rw [ih Q (k + 36) b (w * (36 - t)) (i + (t + r) * w) rest hqb.1 (by omega) p3 (by omega) (by omega) hb0 hb hw2.2]
      rw [e1, Int.add_assoc]

theorem dnum_enc (q b i : Int) (rest : List UInt8) (h0 : 0 ≤ q) (hi : 0 ≤ i) (h : i + q ≤ 2147483647) (hb0 : 0 ≤ b) (hb : b ≤ 213) :
    dnum ((num q 36 b).map dig ++ rest) 36 b 1 i = (1, i + q, rest) := by
  have := dnum_num (q.toNat + 1) q 36 b 1 i rest h0 (by omega) (by omega) hi (by omega) hb0 hb (by omega)
  rw [this]; simp

/-! fuel -/
theorem dnum_shorter : ∀ (l : List UInt8) (k b w i : Int), (dnum l k b w i).1 = 1 → (dnum l k b w i).2.2.length < l.length
  | [], _, _, _, _, h => by simp [dnum] at h
  | c :: r, k, b, w, i, h => by
    unfold dnum at h ⊢
    by_cases h1 : undig c < 0
    · rw [if_pos h1] at h; simp at h
    rw [if_neg h1] at h ⊢
    by_cases h2 : 2147483647 < i + undig c * w
    · rw [if_pos h2] at h; simp at h
    rw [if_neg h2] at h ⊢
    by_cases h3 : undig c < thr k b
    · rw [if_pos h3]; simp
    rw [if_neg h3] at h ⊢
    by_cases h4 : 2147483647 < w * (36 - thr k b)
    · rw [if_pos h4] at h; simp at h
    rw [if_neg h4] at h ⊢
    have := dnum_shorter r _ _ _ _ h
    simp; omega

theorem sdec_fuel (f : Nat) : ∀ (g : Nat) (l : List UInt8) (s : DS), l.length ≤ f → l.length ≤ g → sdec f l s = sdec g l s := by
  induction f with
  | zero =>
    intro g l s h1 h2
    have : l = [] := List.eq_nil_of_length_eq_zero (by omega)
    subst this
    cases g <;> simp [sdec]
  | succ f ih =>
    intro g l s h1 h2
    cases g with
    | zero =>
      have : l = [] := List.eq_nil_of_length_eq_zero (by omega)
      subst this
      simp [sdec]
    | succ g =>
      unfold sdec
      split
      · rfl
      · split
        · rename_i h
          have := dnum_shorter l _ _ _ _ h
          rw [ih g _ _ (by omega) (by omega)]
        · rfl

/-- the decoder of the reference, with fuel enough -/
def sd (l : List UInt8) (s : DS) : Int × List Int := sdec l.length l s

theorem sd_nil (s : DS) : sd [] s = (1, s.out) := rfl
theorem sd_step (l : List UInt8) (s : DS) (i : Int) (r : List UInt8) (h : dnum l 36 s.bias 1 s.i = (1, i, r)) (h1 : (dstep s i).n ≤ 1114111) (h2 : ¬ (55296 ≤ (dstep s i).n ∧ (dstep s i).n < 57344)) :
    sd l s = sd r (dstep s i) := by
  have hne : l ≠ [] := by rintro rfl; simp [dnum] at h
  obtain ⟨n, hn⟩ : ∃ n, l.length = n + 1 := ⟨l.length - 1, by have := List.length_pos_iff.2 hne; omega⟩
  have hs := dnum_shorter l 36 s.bias 1 s.i (by rw [h])
  unfold sd
  rw [hn, sdec, if_neg hne, h]
  simp only
  rw [if_pos trivial, if_neg (by omega), if_neg h2]
  apply sdec_fuel
  · rw [h] at hs; simp only at hs; omega
  · omega

/-! the two side by side -/
def fle (m : Int) (l : List Int) : List Int := l.filter (· ≤ m)
def flt (m : Int) (l : List Int) : List Int := l.filter (· < m)

/-- in the pass for M, behind a, ahead of t -/
structure Sim (b M : Int) (a t : List Int) (s : ES) (d : DS) : Prop where
  out : d.out = fle M a ++ flt M t
  h : s.h = d.out.length
  delta : s.delta = (M - d.n) * (s.h + 1) + (fle M a).length - d.i
  bias : s.bias = d.bias
  i0 : 0 ≤ d.i
  n0 : d.n ≤ M
  first : (s.h = b ∧ d.i = 0) ∨ (b < s.h ∧ 1 ≤ d.i)

theorem fle_snoc_le (M c : Int) (a : List Int) (h : c ≤ M) : fle M (a ++ [c]) = fle M a ++ [c] := by simp [fle, h]
theorem fle_snoc_gt (M c : Int) (a : List Int) (h : M < c) : fle M (a ++ [c]) = fle M a := by simp [fle]; omega
theorem flt_cons_lt (M c : Int) (t : List Int) (h : c < M) : flt M (c :: t) = c :: flt M t := by simp [flt, h]
theorem flt_cons_ge (M c : Int) (t : List Int) (h : M ≤ c) : flt M (c :: t) = flt M t := by unfold flt; rw [List.filter_cons_of_neg (by simpa using h)]
theorem fle_le (M : Int) (l : List Int) : (fle M l).length ≤ l.length := List.length_filter_le _ _
theorem flt_le (M : Int) (l : List Int) : (flt M l).length ≤ l.length := List.length_filter_le _ _

theorem put_mid (x y : List Int) (c : Int) : put x.length c (x ++ y) = x ++ c :: y := by simp [put]

/-- one number: what the encoder writes for M, the decoder puts in its place -/
theorem Sim.emit {b M : Int} {a t : List Int} {s : ES} {d : DS} (h : Sim b M a (M :: t) s d) (hd0 : 0 ≤ s.delta) (hb0 : 0 ≤ s.bias) (hb1 : s.bias ≤ 213) (hM : okc M) (hn : 0 ≤ d.n) (hl : a.length + t.length ≤ 1001) :
    ∃ d', (∀ tail, sd ((num s.delta 36 s.bias).map dig ++ tail) d = sd tail d') ∧ Sim b M (a ++ [M]) t (estep b M s M) d' ∧ 0 ≤ d'.n := by
  obtain ⟨out, hh, delta, bias, i0, n0, first⟩ := h
  rw [flt_cons_ge M M t (by omega)] at out
  have hA := fle_le M a
  have hB := flt_le M t
  have hlen : (d.out.length : Int) = (fle M a).length + (flt M t).length := by rw [out]; simp
  have hM2 : M ≤ 1114111 ∧ ¬ (55296 ≤ M ∧ M < 57344) := by unfold okc at hM; omega
  have hpr : (M - d.n) * (s.h + 1) ≤ (M - d.n) * 1002 := Int.mul_le_mul_of_nonneg_left (by omega) (by omega)
  have hpr0 : 0 ≤ (M - d.n) * (s.h + 1) := Int.mul_nonneg (by omega) (by omega)
  have hi : d.i + s.delta = (fle M a).length + (s.h + 1) * (M - d.n) := by rw [delta, Int.mul_comm]; omega
  have hq : (d.i + s.delta) / (d.out.length + 1) = M - d.n := by
    rw [hi, ← hh, Int.add_mul_ediv_left _ _ (by omega), Int.ediv_eq_zero_of_lt (by omega) (by omega)]; omega
  have hr : (d.i + s.delta) % (d.out.length + 1) = (fle M a).length := by
    rw [hi, ← hh, Int.add_mul_emod_self_left, Int.emod_eq_of_lt (by omega) (by omega)]
  have hst : dstep d (d.i + s.delta) = ⟨fle M a ++ M :: flt M t, (fle M a).length + 1, M, adapt s.delta (s.h + 1) (s.h == b)⟩ := by
    unfold dstep
    rw [hq, hr, show d.n + (M - d.n) = M by omega, show d.i + s.delta - d.i = s.delta by omega, ← hh, Int.toNat_natCast, out, put_mid]
    congr 1
    congr 1
    rcases first with ⟨h1, h2⟩ | ⟨h1, h2⟩
    · rw [h1, h2]; simp
    · rw [beq_eq_false_iff_ne.2 (by omega), beq_eq_false_iff_ne.2 (by omega)]
  refine ⟨dstep d (d.i + s.delta), fun tail => ?_, ?_, ?_⟩
  · have hdn := dnum_enc s.delta s.bias d.i tail hd0 i0 (by omega) hb0 hb1
    rw [bias] at hdn
    rw [bias]
    refine sd_step _ _ _ _ hdn ?_ ?_
    · rw [hst]; exact hM2.1
    · rw [hst]; exact hM2.2
  · rw [hst, estep_eq]
    refine ⟨?_, ?_, ?_, rfl, by simp only; omega, by simp only; omega, ?_⟩
    · simp only; rw [fle_snoc_le M M a (by omega)]; simp
    · simp only [List.length_append, List.length_cons]; omega
    · simp only; rw [fle_snoc_le M M a (by omega)]; simp
    · right; simp only; rcases first with ⟨h1, h2⟩ | ⟨h1, h2⟩ <;> omega
  · rw [hst]; simp only; unfold okc at hM; omega

theorem Sim.pass {b M : Int} (hM : okc M) : ∀ (t a : List Int) (s : ES) (d : DS) (X : Int), Sim b M a t s d → EB s X → 0 ≤ X → X + t.length < 2147483647 → 0 ≤ d.n → a.length + t.length ≤ 1001 →
    ∃ r d', (epass b M t s).out = s.out ++ r ∧ (∀ tail, sd (r ++ tail) d = sd tail d') ∧ Sim b M (a ++ t) [] (epass b M t s) d' ∧ 0 ≤ d'.n
  | [], a, s, d, X, h, _, _, _, hn, _ => ⟨[], d, by simp [epass_nil], fun _ => rfl, by simpa [epass_nil] using h, hn⟩
  | c :: t, a, s, d, X, h, eb, hX0, hX, hn, hl => by
    have eb2 := eb.step b M c (by simp at hX; omega) hX0
    have ec : a ++ c :: t = (a ++ [c]) ++ t := by simp
    rw [epass_cons, ec]
    simp only [List.length_cons] at hX hl
    by_cases h1 : c < M
    · have h2 : Sim b M (a ++ [c]) t (estep b M s c) d := by
        obtain ⟨out, hh, delta, bias, i0, n0, first⟩ := h
        rw [estep_lt _ _ _ _ h1]
        refine ⟨?_, hh, ?_, bias, i0, n0, first⟩
        · rw [out, fle_snoc_le M c a (by omega), flt_cons_lt M c t h1]; simp
        · simp only; rw [delta, fle_snoc_le M c a (by omega)]; simp; omega
      obtain ⟨r, d', e1, e2, e3, e4⟩ := Sim.pass hM t (a ++ [c]) _ d (X + 1) h2 eb2 (by omega) (by omega) hn (by simp; omega)
      refine ⟨r, d', ?_, e2, e3, e4⟩
      rw [e1, estep_lt _ _ _ _ h1]
    · by_cases h3 : M < c
      · have h2 : Sim b M (a ++ [c]) t (estep b M s c) d := by
          obtain ⟨out, hh, delta, bias, i0, n0, first⟩ := h
          rw [estep_gt _ _ _ _ h3]
          refine ⟨?_, hh, ?_, bias, i0, n0, first⟩
          · rw [out, fle_snoc_gt M c a h3, flt_cons_ge M c t (by omega)]
          · rw [delta, fle_snoc_gt M c a h3]
        obtain ⟨r, d', e1, e2, e3, e4⟩ := Sim.pass hM t (a ++ [c]) _ d (X + 1) h2 eb2 (by omega) (by omega) hn (by simp; omega)
        refine ⟨r, d', ?_, e2, e3, e4⟩
        rw [e1, estep_gt _ _ _ _ h3]
      · obtain rfl : M = c := by omega
        obtain ⟨d1, f1, f2, f3⟩ := h.emit eb.d0 eb.b0 eb.b1 hM hn (by omega)
        obtain ⟨r, d', e1, e2, e3, e4⟩ := Sim.pass hM t (a ++ [M]) _ d1 (X + 1) f2 eb2 (by omega) (by omega) f3 (by simp; omega)
        refine ⟨(num s.delta 36 s.bias).map dig ++ r, d', ?_, ?_, e3, e4⟩
        · rw [e1, estep_eq]; simp
        · intro tail; rw [List.append_assoc, f1, e2]

/-- at the outer loop's head -/
structure Sio (b n : Int) (l : List Int) (s : ES) (d : DS) : Prop where
  out : d.out = flt n l
  h : s.h = d.out.length
  delta : s.delta = (n - d.n) * (s.h + 1) - d.i
  bias : s.bias = d.bias
  i0 : 0 ≤ d.i
  n0 : d.n ≤ n
  first : (s.h = b ∧ d.i = 0) ∨ (b < s.h ∧ 1 ≤ d.i)
  nn : 0 ≤ d.n

theorem flt_gap (n m : Int) (l : List Int) (hn : n ≤ m) (h : ∀ c ∈ l, n ≤ c → m ≤ c) : flt m l = flt n l := by
  unfold flt
  apply List.filter_congr
  intro c hc
  have := h c hc
  by_cases h1 : c < n
  · simp [h1]; omega
  · simp [h1]; omega
theorem fle_flt (m : Int) (l : List Int) : fle m l = flt (m + 1) l := by
  unfold flt fle
  apply List.filter_congr
  intro c hc
  by_cases h1 : c ≤ m
  · simp [h1]; omega
  · simp [h1]; omega

theorem eloop_sim (b : Int) (l : List Int) (hl : l.length ≤ 1001) (hok : ∀ c ∈ l, okc c) : ∀ (k : Nat) (n : Int) (s : ES) (d : DS), EH l n s → Sio b n l s d → (l.length : Int) ≤ k + s.h →
    ∃ r, eloop b l k n s = s.out ++ r ∧ sd r d = (1, l) := by
  have hle : ∀ c ∈ l, c ≤ 1114111 := fun c hc => by have := hok c hc; unfold okc at this; omega
  have fin : ∀ (n : Int) (s : ES) (d : DS), Sio b n l s d → ¬ s.h < l.length → d.out = l := by
    intro n s d h h1
    have h2 := h.h
    rw [h.out] at h2 ⊢
    unfold flt at h2 ⊢
    have h3 : (l.filter (· < n)).length = l.length := by have := List.length_filter_le (fun x : Int => decide (x < n)) l; omega
    exact List.filter_eq_self.2 (List.length_filter_eq_length_iff.1 h3)
  intro k
  induction k with
  | zero =>
    intro n s d eh h hk
    refine ⟨[], by simp [eloop], ?_⟩
    rw [sd_nil, fin n s d h (by omega)]
  | succ k ih =>
    intro n s d eh h hk
    unfold eloop
    by_cases hlt : s.h < l.length
    · rw [if_pos hlt]
      obtain ⟨hMl, hMm, hMx, hMn, E0, E1, E2⟩ := eh.next (b := b) hl hle hlt
      have hMk := hok _ hMl
      have hn0 := eh.n0
      have hS : Sim b (nextM n 1114112 l) [] l (ebegin l n s) d := by
        obtain ⟨out, hh, delta, bias, i0, n0, first, nn⟩ := h
        refine ⟨?_, hh, ?_, bias, i0, by omega, first⟩
        · rw [out, flt_gap n _ l hMm hMn]; simp [fle]
        · unfold ebegin
          simp only
          rw [delta]
          have : (nextM n 1114112 l - d.n) * (s.h + 1) = (nextM n 1114112 l - n) * (s.h + 1) + (n - d.n) * (s.h + 1) := by rw [← Int.add_mul]; congr 1; omega
          rw [this]; simp [fle]; omega
      obtain ⟨r, d', e1, e2, e3, e4⟩ := Sim.pass hMk l [] _ d _ hS E0 (by omega) (by omega) h.nn (by simpa using hl)
      rw [List.nil_append] at e3
      generalize nextM n 1114112 l = M at *
      generalize epass b M l (ebegin l n s) = F at *
      have hS2 : Sio b (M + 1) l (eend F) d' := by
        obtain ⟨out, hh, delta, bias, i0, n0, first⟩ := e3
        have ho : d'.out = fle M l := by rw [out]; simp [flt]
        refine ⟨by rw [ho, fle_flt], hh, ?_, bias, i0, by omega, first, e4⟩
        unfold eend
        simp only
        rw [delta, ← ho, ← hh]
        have : (M + 1 - d'.n) * (F.h + 1) = (M - d'.n) * (F.h + 1) + (F.h + 1) := by
          rw [show M + 1 - d'.n = (M - d'.n) + 1 by omega, Int.add_mul]; omega
        rw [this]; omega
      obtain ⟨r2, f1, f2⟩ := ih (M + 1) (eend F) d' E1 hS2 (by omega)
      refine ⟨r ++ r2, ?_, ?_⟩
      · rw [f1]
        show F.out ++ r2 = _
        rw [e1]; simp [ebegin]
      · rw [e2, f2]
    · rw [if_neg hlt]
      refine ⟨[], by simp, ?_⟩
      rw [sd_nil, fin n s d h hlt]

/-- WHAT IS ENCODED IS DECODED TO THE TEXT -/
theorem enc_dec (l : List Int) (hl : l.length ≤ 1001) (hok : ∀ c ∈ l, okc c) : ∃ r, enc l = front l ++ r ∧ sd r ⟨basic l, 0, 128, 72⟩ = (1, l) := by
  unfold enc
  exact eloop_sim (basic l).length l hl hok l.length 128 _ ⟨basic l, 0, 128, 72⟩ (EH.start l hl) ⟨rfl, rfl, by simp, rfl, by simp, by simp, .inl ⟨rfl, rfl⟩, by simp⟩ (by simp only; omega)

end Go.Proofs.Ytoeaiifmablbnaa.Pu
