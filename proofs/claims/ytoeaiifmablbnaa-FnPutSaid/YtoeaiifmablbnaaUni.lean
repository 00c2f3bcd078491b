/- Decoding then encoding gives the text back, with small letters: plain, over lists. -/
import Derived.Test.YtoeaiifmablbnaaInj
namespace Go.Proofs.Ytoeaiifmablbnaa.Pu

/-- a great letter as a small one -/
def low (c : UInt8) : UInt8 := if 65 ≤ c.toNat ∧ c.toNat ≤ 90 then UInt8.ofNat (c.toNat + 32) else c

theorem low_toNat (c : UInt8) : ((low c).toNat : Int) = if 65 ≤ (c.toNat : Int) ∧ (c.toNat : Int) ≤ 90 then (c.toNat : Int) + 32 else c.toNat := by
  unfold low
  have hc := c.toNat_lt
  by_cases h : 65 ≤ c.toNat ∧ c.toNat ≤ 90
  · rw [if_pos h, if_pos (by omega)]
    simp only [UInt8.toNat_ofNat']
    omega
  · rw [if_neg h, if_neg (by omega)]

theorem dig_undig (c : UInt8) (h : ¬ undig c < 0) : dig (undig c) = low c := by
  have hb := undig_lt c
  have hd := dig_toNat (undig c) (by omega) hb.2
  have hl := low_toNat c
  have hc := c.toNat_lt
  apply UInt8.toNat.inj
  have : ((dig (undig c)).toNat : Int) = ((low c).toNat : Int) := by
    rw [hd, hl]
    unfold undig undigI at *
    clear hd hl
    repeat' split
    all_goals (try split at h)
    all_goals (try split at h)
    all_goals (try split at h)
    all_goals omega
  omega

theorem low_dig (d : Int) (h0 : 0 ≤ d) (h : d < 36) : low (dig d) = dig d := by
  have := dig_toNat d h0 h
  unfold low
  rw [if_neg]
  split at this <;> omega

/-- what is read as a number is that number's digits -/
theorem dnum_is : ∀ (r : List UInt8) (k b w i j : Int) (rest : List UInt8), 1 ≤ w → dnum r k b w i = (1, j, rest) → ∃ q, 0 ≤ q ∧ j = i + q * w ∧ r.map low = (num q k b).map dig ++ rest.map low
  | [], k, b, w, i, j, rest, hw, h => by simp [dnum] at h
  | c :: r, k, b, w, i, j, rest, hw, h => by
    have ht := thr_bd k b
    have hu := undig_lt c
    unfold dnum at h
    by_cases h1 : undig c < 0
    · rw [if_pos h1] at h; simp at h
    rw [if_neg h1] at h
    by_cases h2 : 2147483647 < i + undig c * w
    · rw [if_pos h2] at h; simp at h
    rw [if_neg h2] at h
    have hdl := dig_undig c h1
    by_cases h3 : undig c < thr k b
    · rw [if_pos h3] at h
      simp only [Prod.mk.injEq, true_and] at h
      obtain ⟨rfl, rfl⟩ := h
      refine ⟨undig c, by omega, rfl, ?_⟩
      rw [num_last _ _ _ h3]
      simp [hdl]
    rw [if_neg h3] at h
    by_cases h4 : 2147483647 < w * (36 - thr k b)
    · rw [if_pos h4] at h; simp at h
    rw [if_neg h4] at h
    have p3 : 1 ≤ w * (36 - thr k b) := by
      have := Int.mul_le_mul hw (show (1 : Int) ≤ 36 - thr k b by omega) (by omega) (by omega)
      omega
    obtain ⟨q, q0, hj, hr⟩ := dnum_is r _ _ _ _ _ _ p3 h
    have hqq : 0 ≤ (36 - thr k b) * q := Int.mul_nonneg (by omega) q0
    refine ⟨undig c + (36 - thr k b) * q, by omega, ?_, ?_⟩
    · rw [hj, Int.add_mul, Int.add_assoc]
      congr 2
      rw [Int.mul_comm (36 - thr k b) q, Int.mul_assoc, Int.mul_comm w]
    · have e1 : undig c + (36 - thr k b) * q - thr k b = (undig c - thr k b) + (36 - thr k b) * q := by omega
      rw [num_step _ _ _ (by omega), e1, Int.add_mul_emod_self_left, Int.emod_eq_of_lt (by omega) (by omega), Int.add_mul_ediv_left _ _ (by omega), Int.ediv_eq_zero_of_lt (by omega) (by omega)]
      rw [show thr k b + (undig c - thr k b) = undig c by omega, Int.zero_add]
      simp only [List.map_cons, List.cons_append, hr, hdl]

/-! the decoder's run, as a relation -/
theorem sd_cases (l : List UInt8) (s : DS) (out : List Int) (h : sd l s = (1, out)) : (l = [] ∧ out = s.out) ∨ ∃ i r, dnum l 36 s.bias 1 s.i = (1, i, r) ∧ (dstep s i).n ≤ 1114111 ∧ ¬ (55296 ≤ (dstep s i).n ∧ (dstep s i).n < 57344) ∧ sd r (dstep s i) = (1, out) ∧ r.length < l.length := by
  by_cases hl : l = []
  · left; subst hl; rw [sd_nil] at h; exact ⟨rfl, ((Prod.mk.inj h).2).symm⟩
  · right
    have hg := h
    obtain ⟨n, hn⟩ : ∃ n, l.length = n + 1 := ⟨l.length - 1, by have := List.length_pos_iff.2 hl; omega⟩
    unfold sd at h
    rw [hn, sdec, if_neg hl] at h
    by_cases h1 : (dnum l 36 s.bias 1 s.i).1 = 1
    · have hs := dnum_shorter l 36 s.bias 1 s.i h1
      rw [if_pos h1] at h
      have he : dnum l 36 s.bias 1 s.i = (1, (dnum l 36 s.bias 1 s.i).2.1, (dnum l 36 s.bias 1 s.i).2.2) := Prod.ext h1 rfl
      generalize (dnum l 36 s.bias 1 s.i).2.1 = i at *
      generalize (dnum l 36 s.bias 1 s.i).2.2 = r at *
      by_cases h2 : 1114111 < (dstep s i).n
      · rw [if_pos h2] at h; simp at h
      rw [if_neg h2] at h
      by_cases h3 : 55296 ≤ (dstep s i).n ∧ (dstep s i).n < 57344
      · rw [if_pos h3] at h; simp at h
      refine ⟨i, r, he, by omega, h3, ?_, hs⟩
      rw [← hg]
      exact (sd_step l s i r he (by omega) h3).symm
    · rw [if_neg h1] at h
      exact absurd (Prod.mk.inj h).1 h1

/-- what holds of a state: what stands ahead of the place is at most n, what stands behind it less -/
structure DI (s : DS) : Prop where
  pre : ∀ c ∈ s.out.take s.i.toNat, c ≤ s.n
  suf : ∀ c ∈ s.out.drop s.i.toNat, c < s.n
  i0 : 0 ≤ s.i
  i1 : s.i ≤ s.out.length
  n0 : 128 ≤ s.n

theorem DI.all {s : DS} (h : DI s) : ∀ c ∈ s.out, c ≤ s.n := by
  intro c hc
  rw [← List.take_append_drop s.i.toNat s.out] at hc
  rcases List.mem_append.1 hc with hc | hc
  · exact h.pre c hc
  · have := h.suf c hc; omega

/-- the next state, written out -/
theorem step_parts {s : DS} (h : DI s) {j : Int} (hj : s.i ≤ j) :
    ∃ (p : Nat) (m : Int), dstep s j = ⟨put p m s.out, p + 1, m, adapt (j - s.i) (s.out.length + 1) (s.i == 0)⟩ ∧ p ≤ s.out.length ∧ j = (m - s.n) * (s.out.length + 1) + p ∧ s.n ≤ m ∧ (m = s.n → s.i ≤ p) := by
  have h0 := h.i0
  have hm := Int.emod_nonneg j (show (s.out.length + 1 : Int) ≠ 0 by omega)
  have hm2 := Int.emod_lt_of_pos j (show (0 : Int) < s.out.length + 1 by omega)
  have hd := Int.mul_ediv_add_emod j (s.out.length + 1)
  have hq := Int.ediv_nonneg (a := j) (b := s.out.length + 1) (by omega) (by omega)
  refine ⟨(j % (s.out.length + 1)).toNat, s.n + j / (s.out.length + 1), ?_, by omega, ?_, by omega, ?_⟩
  · unfold dstep
    congr 1
    omega
  · rw [show s.n + j / (s.out.length + 1) - s.n = j / (s.out.length + 1) by omega, Int.mul_comm]; omega
  · intro e
    have e2 : j / (s.out.length + 1) = 0 := by omega
    rw [e2] at hd
    omega

theorem put_take (p : Nat) (m : Int) (o : List Int) (hp : p ≤ o.length) : (put p m o).take (p + 1) = o.take p ++ [m] := by
  unfold put
  rw [List.take_append, List.length_take, Nat.min_eq_left hp, List.take_take, show p + 1 - p = 1 by omega, Nat.min_eq_right (by omega)]
  rfl
theorem put_drop (p : Nat) (m : Int) (o : List Int) (hp : p ≤ o.length) : (put p m o).drop (p + 1) = o.drop p := by
  unfold put
  rw [List.drop_append, List.length_take, Nat.min_eq_left hp, List.drop_of_length_le (by rw [List.length_take]; omega), show p + 1 - p = 1 by omega]
  rfl
theorem put_len (p : Nat) (m : Int) (o : List Int) (hp : p ≤ o.length) : (put p m o).length = o.length + 1 := by
  unfold put; simp; omega

theorem DI.step {s : DS} (h : DI s) {p : Nat} {m : Int} {b : Int} (hp : p ≤ s.out.length) (hm : s.n ≤ m) (hpi : m = s.n → s.i ≤ p) : DI ⟨put p m s.out, p + 1, m, b⟩ := by
  have hall := h.all
  have e : ((p : Int) + 1).toNat = p + 1 := by omega
  refine ⟨?_, ?_, by simp only; omega, by simp only; rw [put_len _ _ _ hp]; omega, by have := h.n0; simp only; omega⟩
  · simp only [e]
    rw [put_take _ _ _ hp]
    intro c hc
    rcases List.mem_append.1 hc with hc | hc
    · have := hall c (List.mem_of_mem_take hc); omega
    · simp at hc; omega
  · simp only [e]
    rw [put_drop _ _ _ hp]
    intro c hc
    by_cases hmn : m = s.n
    · have := hpi hmn
      have hc2 : c ∈ s.out.drop s.i.toNat := by
        have e3 : s.out.drop p = (s.out.drop s.i.toNat).drop (p - s.i.toNat) := by rw [List.drop_drop]; congr 1; omega
        rw [e3] at hc
        exact List.mem_of_mem_drop hc
      have := h.suf c hc2
      omega
    · have := hall c (List.mem_of_mem_drop hc); omega

theorem flt_put_ge (n : Int) (p : Nat) (m : Int) (o : List Int) (h : n ≤ m) : flt n (put p m o) = flt n o := by
  unfold put flt
  rw [List.filter_append, List.filter_cons_of_neg (by simpa using h), ← List.filter_append, List.take_append_drop]

theorem fle_of_lt (n m : Int) (l : List Int) (h : n < m) : fle n l = fle n (flt m l) := by
  unfold fle flt
  rw [List.filter_filter]
  apply List.filter_congr
  intro c hc
  by_cases h1 : c ≤ n <;> simp [h1]; omega
theorem flt_of_le (n m : Int) (l : List Int) (h : n ≤ m) : flt n l = flt n (flt m l) := by
  unfold flt
  rw [List.filter_filter]
  apply List.filter_congr
  intro c hc
  by_cases h1 : c < n <;> simp [h1]; omega
theorem fle_all (n : Int) (l : List Int) (h : ∀ c ∈ l, c ≤ n) : fle n l = l := List.filter_eq_self.2 (fun c hc => by simpa using h c hc)
theorem flt_all (n : Int) (l : List Int) (h : ∀ c ∈ l, c < n) : flt n l = l := List.filter_eq_self.2 (fun c hc => by simpa using h c hc)

theorem dnum_ge (r : List UInt8) (k b w i j : Int) (rest : List UInt8) (hw : 1 ≤ w) (h : dnum r k b w i = (1, j, rest)) : i ≤ j := by
  obtain ⟨q, q0, hj, _⟩ := dnum_is r k b w i j rest hw h
  have : 0 ≤ q * w := Int.mul_nonneg q0 (by omega)
  omega

/-- what a run keeps -/
theorem sd_keeps (f : Nat) : ∀ (r : List UInt8) (s : DS) (l : List Int), r.length ≤ f → DI s → sd r s = (1, l) → flt s.n l = flt s.n s.out ∧ (fle s.n l).take s.i.toNat = s.out.take s.i.toNat ∧ s.out.length ≤ l.length := by
  induction f with
  | zero =>
    intro r s l hr hd h
    have : r = [] := List.eq_nil_of_length_eq_zero (by omega)
    subst this
    rw [sd_nil] at h
    obtain rfl := (Prod.mk.inj h).2
    exact ⟨rfl, by rw [fle_all _ _ hd.all], by omega⟩
  | succ f ih =>
    intro r s l hr hd h
    rcases sd_cases r s l h with ⟨_, rfl⟩ | ⟨j, r2, h1, h2, h3, h4, h5⟩
    · exact ⟨rfl, by rw [fle_all _ _ hd.all], by omega⟩
    · obtain ⟨p, m, e, hp, hjm, hm, hpi⟩ := step_parts hd (dnum_ge _ _ _ _ _ _ _ (by omega) h1)
      rw [e] at h4
      obtain ⟨k1, k2, k3⟩ := ih r2 _ l (by omega) (hd.step hp hm hpi) h4
      simp only at k1 k2 k3
      rw [flt_put_ge m p m _ (by omega)] at k1
      rw [put_len _ _ _ hp] at k3
      by_cases hmn : m = s.n
      · subst hmn
        refine ⟨k1, ?_, by omega⟩
        have hi := hpi rfl
        have e2 : ((p : Int) + 1).toNat = p + 1 := by omega
        rw [e2, put_take _ _ _ hp] at k2
        have k4 := congrArg (List.take s.i.toNat) k2
        rw [List.take_take, Nat.min_eq_left (by omega)] at k4
        rw [k4, List.take_append_of_le_length (by rw [List.length_take]; omega), List.take_take, Nat.min_eq_left (by omega)]
      · have hall : ∀ c ∈ s.out, c < m := fun c hc => by have := hd.all c hc; omega
        rw [flt_all m s.out hall] at k1
        refine ⟨?_, ?_, by omega⟩
        · rw [flt_of_le s.n m l hm, k1]
        · rw [fle_of_lt s.n m l (by omega), k1, fle_all _ _ hd.all]

theorem put_get (p : Nat) (m : Int) (o : List Int) (hp : p ≤ o.length) : (put p m o)[p]? = some m := by
  unfold put
  rw [List.getElem?_append_right (by rw [List.length_take]; omega), List.length_take, Nat.min_eq_left hp, Nat.sub_self]
  rfl

/-- two runs from one state to one list take the same first step -/
theorem no_less {s : DS} (hd : DI s) {j1 j2 : Int} {r1 r2 : List UInt8} {l : List Int} (h1 : s.i ≤ j1) (h2 : s.i ≤ j2) (k1 : sd r1 (dstep s j1) = (1, l)) (k2 : sd r2 (dstep s j2) = (1, l)) : ¬ j1 < j2 := by
  intro hlt
  obtain ⟨p1, m1, e1, hp1, hj1, hm1, hi1⟩ := step_parts hd h1
  obtain ⟨p2, m2, e2, hp2, hj2, hm2, hi2⟩ := step_parts hd h2
  rw [e1] at k1
  rw [e2] at k2
  obtain ⟨a1, a2, a3⟩ := sd_keeps _ r1 _ l (Nat.le_refl _) (hd.step hp1 hm1 hi1) k1
  obtain ⟨b1, b2, b3⟩ := sd_keeps _ r2 _ l (Nat.le_refl _) (hd.step hp2 hm2 hi2) k2
  simp only at a1 a2 a3 b1 b2 b3
  have ep1 : ((p1 : Int) + 1).toNat = p1 + 1 := by omega
  have ep2 : ((p2 : Int) + 1).toNat = p2 + 1 := by omega
  rw [ep1, put_take _ _ _ hp1] at a2
  rw [ep2, put_take _ _ _ hp2] at b2
  have hA : (fle m1 l)[p1]? = some m1 := by
    have : ((fle m1 l).take (p1 + 1))[p1]? = (s.out.take p1 ++ [m1])[p1]? := by rw [a2]
    rw [List.getElem?_take_of_lt (by omega), List.getElem?_append_right (by rw [List.length_take]; omega), List.length_take, Nat.min_eq_left hp1, Nat.sub_self] at this
    exact this
  by_cases hmm : m1 = m2
  · subst hmm
    have hpp : p1 < p2 := by omega
    have hB : ((fle m1 l).take (p2 + 1))[p1]? = (s.out.take p2 ++ [m1])[p1]? := by rw [b2]
    rw [List.getElem?_take_of_lt (by omega), List.getElem?_append_left (by rw [List.length_take]; omega), List.getElem?_take_of_lt hpp, hA] at hB
    have hmem : m1 ∈ s.out.drop p1 := by
      apply List.mem_of_getElem? (i := 0)
      rw [List.getElem?_drop, Nat.add_zero, ← hB]
    by_cases hmn : m1 = s.n
    · have hi := hi1 hmn
      have e3 : s.out.drop p1 = (s.out.drop s.i.toNat).drop (p1 - s.i.toNat) := by rw [List.drop_drop]; congr 1; omega
      rw [e3] at hmem
      have := hd.suf m1 (List.mem_of_mem_drop hmem)
      omega
    · have := hd.all m1 (List.mem_of_mem_drop hmem)
      omega
  · have hm12 : m1 < m2 := by
      rcases Int.lt_or_le m1 m2 with h | h
      · exact h
      · have h3 : m2 + 1 ≤ m1 := by omega
        have h4 : (m2 - s.n + 1) * (s.out.length + 1 : Int) ≤ (m1 - s.n) * (s.out.length + 1) := Int.mul_le_mul_of_nonneg_right (by omega) (by omega)
        rw [Int.add_mul] at h4
        omega
    have hmem : m1 ∈ fle m1 l := List.mem_of_getElem? hA
    rw [fle_of_lt m1 m2 l hm12, b1, flt_put_ge m2 p2 m2 _ (by omega)] at hmem
    have hcnt : (fle m1 l) = fle m1 s.out := by
      rw [fle_of_lt m1 m2 l hm12, b1, flt_put_ge m2 p2 m2 _ (by omega), ← fle_of_lt m1 m2 _ hm12]
    have hout : fle m1 s.out = s.out := fle_all _ _ (fun c hc => by have := hd.all c hc; omega)
    rw [hcnt, hout] at hA a2
    have hmem2 : m1 ∈ s.out.drop p1 := by
      apply List.mem_of_getElem? (i := 0)
      rw [List.getElem?_drop, Nat.add_zero, hA]
    by_cases hmn : m1 = s.n
    · have hi := hi1 hmn
      have e3 : s.out.drop p1 = (s.out.drop s.i.toNat).drop (p1 - s.i.toNat) := by rw [List.drop_drop]; congr 1; omega
      rw [e3] at hmem2
      have := hd.suf m1 (List.mem_of_mem_drop hmem2)
      omega
    · have := hd.all m1 (List.mem_of_mem_drop hmem2)
      omega

theorem sd_once (f : Nat) : ∀ (r1 r2 : List UInt8) (s : DS) (l : List Int), r1.length ≤ f → DI s → sd r1 s = (1, l) → sd r2 s = (1, l) → r1.map low = r2.map low := by
  have more : ∀ (r : List UInt8) (s : DS) (j : Int) (l : List Int), DI s → s.i ≤ j → sd r (dstep s j) = (1, l) → l.length ≠ s.out.length := by
    intro r s j l hd hj h
    obtain ⟨p, m, e, hp, hjm, hm, hpi⟩ := step_parts hd hj
    rw [e] at h
    have := (sd_keeps _ r _ l (Nat.le_refl _) (hd.step hp hm hpi) h).2.2
    simp only at this
    rw [put_len _ _ _ hp] at this
    omega
  induction f with
  | zero =>
    intro r1 r2 s l hf hd h1 h2
    have : r1 = [] := List.eq_nil_of_length_eq_zero (by omega)
    subst this
    rw [sd_nil] at h1
    obtain rfl := (Prod.mk.inj h1).2
    rcases sd_cases r2 s _ h2 with ⟨rfl, _⟩ | ⟨j, r, k1, _, _, k4, _⟩
    · rfl
    · exact absurd rfl (more r s j _ hd (dnum_ge _ _ _ _ _ _ _ (by omega) k1) k4)
  | succ f ih =>
    intro r1 r2 s l hf hd h1 h2
    rcases sd_cases r1 s _ h1 with ⟨rfl, e1⟩ | ⟨j1, q1, k1, _, _, k4, k5⟩
    · rcases sd_cases r2 s _ h2 with ⟨rfl, _⟩ | ⟨j, r, m1, _, _, m4, _⟩
      · rfl
      · exact absurd (by rw [e1]) (more r s j _ hd (dnum_ge _ _ _ _ _ _ _ (by omega) m1) m4)
    · rcases sd_cases r2 s _ h2 with ⟨rfl, e2⟩ | ⟨j2, q2, m1, _, _, m4, m5⟩
      · exact absurd (by rw [e2]) (more q1 s j1 _ hd (dnum_ge _ _ _ _ _ _ _ (by omega) k1) k4)
      · have g1 := dnum_ge _ _ _ _ _ _ _ (by omega) k1
        have g2 := dnum_ge _ _ _ _ _ _ _ (by omega) m1
        have n1 := no_less hd g1 g2 k4 m4
        have n2 := no_less hd g2 g1 m4 k4
        obtain rfl : j1 = j2 := by omega
        obtain ⟨x1, _, y1, z1⟩ := dnum_is _ _ _ _ _ _ _ (by omega) k1
        obtain ⟨x2, _, y2, z2⟩ := dnum_is _ _ _ _ _ _ _ (by omega) m1
        obtain rfl : x1 = x2 := by omega
        obtain ⟨p, m, e, hp, hjm, hm, hpi⟩ := step_parts hd g1
        rw [e] at k4 m4
        rw [z1, z2, ih q1 q2 _ l (by omega) (hd.step hp hm hpi) k4 m4]

/-- what is decoded are code points -/
theorem sd_okc (f : Nat) : ∀ (r : List UInt8) (s : DS) (l : List Int), r.length ≤ f → DI s → (∀ c ∈ s.out, okc c) → sd r s = (1, l) → (∀ c ∈ l, okc c) ∧ l.length ≤ s.out.length + r.length := by
  induction f with
  | zero =>
    intro r s l hr hd ho h
    have : r = [] := List.eq_nil_of_length_eq_zero (by omega)
    subst this
    rw [sd_nil] at h
    obtain rfl := (Prod.mk.inj h).2
    exact ⟨ho, by omega⟩
  | succ f ih =>
    intro r s l hr hd ho h
    rcases sd_cases r s l h with ⟨_, rfl⟩ | ⟨j, r2, h1, h2, h3, h4, h5⟩
    · exact ⟨ho, by omega⟩
    · obtain ⟨p, m, e, hp, hjm, hm, hpi⟩ := step_parts hd (dnum_ge _ _ _ _ _ _ _ (by omega) h1)
      rw [e] at h4 h2 h3
      simp only at h2 h3
      have hn := hd.n0
      obtain ⟨k1, k2⟩ := ih r2 _ l (by omega) (hd.step hp hm hpi) (by
        intro c hc
        simp only at hc
        unfold put at hc
        rcases List.mem_append.1 hc with hc | hc
        · exact ho c (List.mem_of_mem_take hc)
        · rcases List.mem_cons.1 hc with rfl | hc
          · unfold okc; omega
          · exact ho c (List.mem_of_mem_drop hc)) h4
      simp only at k2
      rw [put_len _ _ _ hp] at k2
      exact ⟨k1, by omega⟩

theorem DI.start (F : List Int) (h : ∀ c ∈ F, c < 128) : DI ⟨F, 0, 128, 72⟩ :=
  ⟨by simp, by simpa using h, by simp, by simp, by simp⟩

/-- WHAT IS DECODED IS ENCODED TO THE TEXT, with small letters -/
theorem dec_enc (F : List Int) (r : List UInt8) (l : List Int) (hF : ∀ c ∈ F, 0 ≤ c ∧ c < 128) (hlen : F.length + r.length ≤ 1001) (h : sd r ⟨F, 0, 128, 72⟩ = (1, l)) : enc l = front l ++ r.map low ∧ basic l = F ∧ (∀ c ∈ l, okc c) ∧ l.length ≤ F.length + r.length := by
  have hd := DI.start F (fun c hc => (hF c hc).2)
  obtain ⟨hok, hll⟩ := sd_okc _ r _ l (Nat.le_refl _) hd (fun c hc => by have := hF c hc; unfold okc; simp only at *; omega) h
  simp only at hll
  have hk := (sd_keeps _ r _ l (Nat.le_refl _) hd h).1
  simp only at hk
  have hb : basic l = F := by
    show flt 128 l = F
    rw [hk, flt_all _ _ (fun c hc => (hF c hc).2)]
  obtain ⟨q, e, s1⟩ := enc_dec l (by omega) hok
  obtain ⟨q', e', g⟩ := enc_out l (by omega) (fun c hc => by have := hok c hc; unfold okc at this; omega)
  obtain rfl : q = q' := List.append_cancel_left (e.symm.trans e')
  rw [hb] at s1
  have hq := sd_once _ q r _ l (Nat.le_refl _) hd s1 h
  have hlow : q.map low = q := by
    rw [List.map_congr_left (g := id), List.map_id]
    intro c hc
    obtain ⟨d, d0, d1, rfl⟩ := g c hc
    exact low_dig d d0 d1
  refine ⟨?_, hb, hok, hll⟩
  rw [e, ← hlow, hq]

end Go.Proofs.Ytoeaiifmablbnaa.Pu
