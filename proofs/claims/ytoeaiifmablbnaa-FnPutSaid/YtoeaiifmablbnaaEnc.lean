/- The plain encoder: its numbers stay small; how many code points it has done. -/
import Derived.Test.YtoeaiifmablbnaaUtf
namespace Go.Proofs.Ytoeaiifmablbnaa.Pu

theorem num_len (f : Nat) : ∀ (n k b : Int), 0 ≤ n → n < f → ((num n k b).length : Int) ≤ n + 1 := by
  induction f with
  | zero => intro n k b h0 h1; omega
  | succ f ih =>
    intro n k b h0 h1
    by_cases h : n < thr k b
    · rw [num_last n k b h]; simp; omega
    · have ht := thr_bd k b
      have hq := quo_bd n (thr k b) ht.1 ht.2 (by omega)
      rw [num_step n k b h, List.length_cons]
      have := ih ((n - thr k b) / (36 - thr k b)) (k + 36) b hq.1 (by omega)
      omega
theorem num_le (n k b : Int) (h0 : 0 ≤ n) : ((num n k b).length : Int) ≤ n + 1 := num_len (n.toNat + 1) n k b h0 (by omega)

theorem num_dig (f : Nat) : ∀ (n k b : Int), 0 ≤ n → n < f → ∀ d ∈ num n k b, 0 ≤ d ∧ d < 36 := by
  induction f with
  | zero => intro n k b h0 h1; omega
  | succ f ih =>
    intro n k b h0 h1 d hd
    have ht := thr_bd k b
    by_cases h : n < thr k b
    · rw [num_last n k b h] at hd; simp at hd; omega
    · have hq := quo_bd n (thr k b) ht.1 ht.2 (by omega)
      have hr := rem_bd n (thr k b) ht.2
      rw [num_step n k b h] at hd
      rcases List.mem_cons.1 hd with rfl | hd
      · omega
      · exact ih _ _ _ hq.1 (by omega) d hd
theorem num_digits (n k b : Int) (h0 : 0 ≤ n) : ∀ d ∈ num n k b, 0 ≤ d ∧ d < 36 := num_dig (n.toNat + 1) n k b h0 (by omega)

/-! the next code point -/
theorem nextM_snoc (n m0 : Int) (a : List Int) (c : Int) : nextM n m0 (a ++ [c]) = if n ≤ c ∧ c < nextM n m0 a then c else nextM n m0 a := by
  unfold nextM; rw [List.foldl_append]; rfl

theorem nextM_cases (n : Int) : ∀ (l : List Int) (m0 : Int), (nextM n m0 l = m0 ∧ ∀ c ∈ l, n ≤ c → m0 ≤ c) ∨ (nextM n m0 l ∈ l ∧ n ≤ nextM n m0 l ∧ nextM n m0 l < m0 ∧ ∀ c ∈ l, n ≤ c → nextM n m0 l ≤ c)
  | [], m0 => .inl ⟨rfl, by simp⟩
  | x :: l, m0 => by
    have hs : nextM n m0 (x :: l) = nextM n (if n ≤ x ∧ x < m0 then x else m0) l := rfl
    rw [hs]
    by_cases hx : n ≤ x ∧ x < m0
    · rw [if_pos hx]
      rcases nextM_cases n l x with ⟨e, h⟩ | ⟨e, h1, h2, h3⟩
      · right
        rw [e]
        refine ⟨by simp, hx.1, hx.2, fun c hc hn => ?_⟩
        rcases List.mem_cons.1 hc with rfl | hc
        · omega
        · exact h c hc hn
      · right
        refine ⟨by simp [e], h1, by omega, fun c hc hn => ?_⟩
        rcases List.mem_cons.1 hc with rfl | hc
        · omega
        · exact h3 c hc hn
    · rw [if_neg hx]
      rcases nextM_cases n l m0 with ⟨e, h⟩ | ⟨e, h1, h2, h3⟩
      · left
        refine ⟨e, fun c hc hn => ?_⟩
        rcases List.mem_cons.1 hc with rfl | hc
        · omega
        · exact h c hc hn
      · right
        refine ⟨by simp [e], h1, h2, fun c hc hn => ?_⟩
        rcases List.mem_cons.1 hc with rfl | hc
        · omega
        · exact h3 c hc hn

theorem nextM_is (n m0 : Int) (l : List Int) (h : ∃ c ∈ l, n ≤ c ∧ c < m0) : nextM n m0 l ∈ l ∧ n ≤ nextM n m0 l ∧ nextM n m0 l < m0 ∧ ∀ c ∈ l, n ≤ c → nextM n m0 l ≤ c := by
  obtain ⟨c, hc, h1, h2⟩ := h
  rcases nextM_cases n l m0 with ⟨e, hh⟩ | hh
  · have := hh c hc h1; omega
  · exact hh

theorem nextM_same (n m0 m1 : Int) (l : List Int) (h : ∃ c ∈ l, n ≤ c ∧ c < m0 ∧ c < m1) : nextM n m0 l = nextM n m1 l := by
  obtain ⟨c, hc, h1, h2, h3⟩ := h
  obtain ⟨a1, a2, a3, a4⟩ := nextM_is n m0 l ⟨c, hc, h1, h2⟩
  obtain ⟨b1, b2, b3, b4⟩ := nextM_is n m1 l ⟨c, hc, h1, h3⟩
  have := a4 _ b1 b2
  have := b4 _ a1 a2
  omega

/-! how many are below -/
def cnt (n : Int) (l : List Int) : Nat := (l.filter (· < n)).length
def cnq (m : Int) (l : List Int) : Nat := (l.filter (· = m)).length

theorem cnt_le (n : Int) (l : List Int) : cnt n l ≤ l.length := List.length_filter_le _ _
theorem cnt_cons (n c : Int) (l : List Int) : cnt n (c :: l) = (if c < n then 1 else 0) + cnt n l := by
  unfold cnt; rw [List.filter_cons]; by_cases h : c < n <;> simp [h]; omega
theorem cnq_cons (m c : Int) (l : List Int) : cnq m (c :: l) = (if c = m then 1 else 0) + cnq m l := by
  unfold cnq; rw [List.filter_cons]; by_cases h : c = m <;> simp [h]; omega
theorem cnt_succ (m : Int) (l : List Int) : cnt (m + 1) l = cnt m l + cnq m l := by
  induction l with
  | nil => rfl
  | cons c l ih =>
    rw [cnt_cons, cnt_cons, cnq_cons, ih]
    by_cases h1 : c < m
    · rw [if_pos h1, if_pos (by omega), if_neg (by omega)]; omega
    · by_cases h2 : c = m
      · rw [if_neg h1, if_pos (by omega), if_pos h2]; omega
      · rw [if_neg h1, if_neg (by omega), if_neg h2]; omega
theorem cnt_gap (n m : Int) (l : List Int) (hn : n ≤ m) (h : ∀ c ∈ l, n ≤ c → m ≤ c) : cnt m l = cnt n l := by
  induction l with
  | nil => rfl
  | cons c l ih =>
    rw [cnt_cons, cnt_cons, ih (fun d hd => h d (by simp [hd]))]
    have := h c (by simp)
    by_cases h1 : c < n
    · rw [if_pos h1, if_pos (by omega)]
    · rw [if_neg h1, if_neg (by omega)]
theorem cnq_pos (m : Int) (l : List Int) (h : m ∈ l) : 1 ≤ cnq m l := by
  unfold cnq
  exact List.length_pos_of_mem (List.mem_filter.2 ⟨h, by simp⟩)
theorem cnt_lt (n : Int) (l : List Int) (h : cnt n l < l.length) : ∃ c ∈ l, n ≤ c := by
  induction l with
  | nil => simp [cnt] at h
  | cons c l ih =>
    by_cases h1 : n ≤ c
    · exact ⟨c, by simp, h1⟩
    · rw [cnt_cons, if_pos (by omega), List.length_cons] at h
      obtain ⟨d, hd, h2⟩ := ih (by omega)
      exact ⟨d, by simp [hd], h2⟩

/-! the pass -/
theorem epass_nil (b m : Int) (s : ES) : epass b m [] s = s := rfl
theorem epass_cons (b m c : Int) (l : List Int) (s : ES) : epass b m (c :: l) s = epass b m l (estep b m s c) := rfl
theorem estep_lt (b m c : Int) (s : ES) (h : c < m) : estep b m s c = ⟨s.out, s.delta + 1, s.bias, s.h⟩ := by unfold estep; rw [if_pos h]
theorem estep_eq (b m : Int) (s : ES) : estep b m s m = ⟨s.out ++ (num s.delta 36 s.bias).map dig, 0, adapt s.delta (s.h + 1) (s.h == b), s.h + 1⟩ := by unfold estep; rw [if_neg (by omega), if_pos rfl]
theorem estep_gt (b m c : Int) (s : ES) (h : m < c) : estep b m s c = s := by unfold estep; rw [if_neg (by omega), if_neg (by omega)]

theorem epass_h (b m : Int) (l : List Int) : ∀ s, (epass b m l s).h = s.h + cnq m l := by
  induction l with
  | nil => intro s; simp [epass_nil, cnq]
  | cons c l ih =>
    intro s
    rw [epass_cons, ih, cnq_cons]
    by_cases h1 : c < m
    · rw [estep_lt _ _ _ _ h1, if_neg (by omega)]; simp
    · by_cases h2 : c = m
      · subst h2; rw [estep_eq, if_pos rfl]; simp; omega
      · rw [estep_gt _ _ _ _ (by omega), if_neg h2]; simp

/-- what holds of the encoder's numbers: X bounds delta -/
structure EB (s : ES) (X : Int) : Prop where
  d0 : 0 ≤ s.delta
  d1 : s.delta ≤ X
  b0 : 0 ≤ s.bias
  b1 : s.bias ≤ 213
  h0 : 0 ≤ s.h
  o1 : (s.out.length : Int) ≤ 2000 + s.h * 2147483648

theorem EB.mono {s : ES} {X Y : Int} (h : EB s X) (hXY : X ≤ Y) : EB s Y := ⟨h.d0, by have := h.d1; omega, h.b0, h.b1, h.h0, h.o1⟩
theorem EB.step {s : ES} {X : Int} (h : EB s X) (b m c : Int) (hX : X < 2147483647) (hX0 : 0 ≤ X) : EB (estep b m s c) (X + 1) := by
  obtain ⟨d0, d1, b0, b1, h0, o1⟩ := h
  by_cases h1 : c < m
  · rw [estep_lt _ _ _ _ h1]; exact ⟨by simp; omega, by simp; omega, b0, b1, h0, o1⟩
  · by_cases h2 : c = m
    · subst h2
      rw [estep_eq]
      have ha := adapt_le s.delta (s.h + 1) (s.h == b) d0 (by omega) (by omega)
      have hn := num_le s.delta 36 s.bias d0
      refine ⟨by simp, by simp; omega, ha.1, ha.2, by simp; omega, ?_⟩
      simp only [List.length_append, List.length_map]
      omega
    · rw [estep_gt _ _ _ _ (by omega)]; exact ⟨d0, by omega, b0, b1, h0, o1⟩

theorem num_len10 (f : Nat) : ∀ (n k b : Int), 0 ≤ n → n < 10 ^ f → (num n k b).length ≤ f + 1 := by
  induction f with
  | zero =>
    intro n k b h0 h1
    have ht := thr_bd k b
    have hn : n = 0 := by have : (10 : Int) ^ 0 = 1 := rfl; omega
    rw [num_last n k b (by omega)]; simp
  | succ f ih =>
    intro n k b h0 h1
    have ht := thr_bd k b
    by_cases h : n < thr k b
    · rw [num_last n k b h]; simp
    · have hq := quo_bd n (thr k b) ht.1 ht.2 (by omega)
      rw [num_step n k b h, List.length_cons]
      have hp : (10 : Int) ^ (f + 1) = 10 ^ f * 10 := Int.pow_succ 10 f
      have h10 : (0 : Int) ≤ 10 ^ f := Int.le_of_lt (Int.pow_pos (by omega))
      have hm : (10 : Int) ^ f * 10 ≤ 10 ^ f * (36 - thr k b) := Int.mul_le_mul_of_nonneg_left (by omega) h10
      have := ih ((n - thr k b) / (36 - thr k b)) (k + 36) b hq.1 (Int.ediv_lt_of_lt_mul (by omega) (by omega))
      omega
theorem num_short (n k b : Int) (h0 : 0 ≤ n) (h1 : n ≤ 2147483647) : (num n k b).length ≤ 11 := num_len10 10 n k b h0 (by have h : (10 : Int) ^ 10 = 10000000000 := (by decide); omega)
theorem num_one (n k b : Int) : 1 ≤ (num n k b).length := by
  by_cases h : n < thr k b
  · rw [num_last n k b h]; simp
  · rw [num_step n k b h]; simp

end Go.Proofs.Ytoeaiifmablbnaa.Pu
