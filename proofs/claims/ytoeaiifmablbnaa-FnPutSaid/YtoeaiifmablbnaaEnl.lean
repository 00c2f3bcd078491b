/- How long what is encoded can be; its bytes are of ASCII. -/
import Derived.Test.YtoeaiifmablbnaaEnc
namespace Go.Proofs.Ytoeaiifmablbnaa.Pu

theorem EB.pass {b m : Int} (t : List Int) : ∀ {s : ES} {X : Int}, EB s X → 0 ≤ X → X + t.length < 2147483647 → EB (epass b m t s) (X + t.length) := by
  induction t with
  | nil => intro s X h _ _; rw [epass_nil]; simpa using h
  | cons c t ih =>
    intro s X h h0 h1
    rw [epass_cons]
    simp only [List.length_cons] at h1 ⊢
    exact (ih (h.step b m c (by omega) h0) (by omega) (by omega)).mono (by omega)

/-- what holds at the outer loop's head -/
structure EH (l : List Int) (n : Int) (s : ES) : Prop where
  eb : EB s ((n - 128) * 1002)
  hh : s.h = cnt n l
  n0 : 128 ≤ n
  n1 : n ≤ 1114112

theorem EH.next {b : Int} {l : List Int} {n : Int} {s : ES} (h : EH l n s) (hl : l.length ≤ 1001) (hle : ∀ c ∈ l, c ≤ 1114111) (hlt : s.h < l.length) :
    nextM n 1114112 l ∈ l ∧ n ≤ nextM n 1114112 l ∧ nextM n 1114112 l < 1114112 ∧ (∀ c ∈ l, n ≤ c → nextM n 1114112 l ≤ c) ∧
    EB (ebegin l n s) ((nextM n 1114112 l - 128) * 1002) ∧
    EH l (nextM n 1114112 l + 1) (eend (epass b (nextM n 1114112 l) l (ebegin l n s))) ∧ s.h < (eend (epass b (nextM n 1114112 l) l (ebegin l n s))).h := by
  obtain ⟨eb, hh, n0, n1⟩ := h
  have hex : ∃ c ∈ l, n ≤ c := cnt_lt n l (by omega)
  obtain ⟨hMl, hMm, hMx, hMn⟩ := nextM_is n 1114112 l (by obtain ⟨c, hc, h1⟩ := hex; have := hle c hc; exact ⟨c, hc, h1, by omega⟩)
  unfold ebegin
  generalize nextM n 1114112 l = M at *
  have hcM := cnt_gap n M l hMm hMn
  have hcS := cnt_succ M l
  have hqp := cnq_pos M l hMl
  have hcl2 := cnt_le (M + 1) l
  obtain ⟨d0, d1, b0, b1, h0, o1⟩ := eb
  have hprod : (M - n) * (s.h + 1) ≤ (M - n) * 1002 := Int.mul_le_mul_of_nonneg_left (by omega) (by omega)
  have hprod0 : 0 ≤ (M - n) * (s.h + 1) := Int.mul_nonneg (by omega) (by omega)
  have E0 : EB ⟨s.out, s.delta + (M - n) * (s.h + 1), s.bias, s.h⟩ ((M - 128) * 1002) := ⟨by simp only; omega, by simp only; omega, b0, b1, h0, o1⟩
  have E1 := E0.pass (b := b) (m := M) l (by omega) (by omega)
  have hH := epass_h b M l ⟨s.out, s.delta + (M - n) * (s.h + 1), s.bias, s.h⟩
  simp only at hH
  refine ⟨hMl, hMm, hMx, hMn, E0, ⟨⟨?_, ?_, E1.b0, E1.b1, E1.h0, E1.o1⟩, ?_, by omega, by omega⟩, ?_⟩
  · have := E1.d0; unfold eend; simp only; omega
  · have := E1.d1; unfold eend; simp only; omega
  · unfold eend; simp only; rw [hH]; omega
  · unfold eend; simp only; rw [hH]; omega

theorem eloop_len (b : Int) (l : List Int) (hl : l.length ≤ 1001) (hle : ∀ c ∈ l, c ≤ 1114111) : ∀ (k : Nat) (n : Int) (s : ES), EH l n s → ((eloop b l k n s).length : Int) ≤ 2000 + 1001 * 2147483648 := by
  intro k
  induction k with
  | zero => intro n s h; have := h.eb.o1; have := h.hh; have := cnt_le n l; show (s.out.length : Int) ≤ _; omega
  | succ k ih =>
    intro n s h
    unfold eloop
    split
    · rename_i hlt
      exact ih _ _ (h.next hl hle hlt).2.2.2.2.2.1
    · have := h.eb.o1; have := h.hh; have := cnt_le n l; omega

theorem front_le (l : List Int) : (front l).length ≤ l.length + 1 := by
  unfold front
  have : (basic l).length ≤ l.length := List.length_filter_le _ _
  split <;> simp <;> omega

theorem EH.start (l : List Int) (hl : l.length ≤ 1001) : EH l 128 ⟨front l, 0, 72, (basic l).length⟩ := by
  have hf := front_le l
  exact ⟨⟨by simp, by simp, by simp, by simp, by simp, by simp only; omega⟩, rfl, by omega, by omega⟩

theorem enc_len (l : List Int) (hl : l.length ≤ 1001) (hle : ∀ c ∈ l, c ≤ 1114111) : ((enc l).length : Int) ≤ 2149631133648 := by
  have := eloop_len (basic l).length l hl hle l.length 128 _ (EH.start l hl)
  unfold enc
  omega

/-! the bytes are of ASCII, the front first -/
theorem dig_lt (d : Int) (h0 : 0 ≤ d) (h : d < 36) : (dig d).toNat < 128 ∧ (dig d).toNat ≠ 45 := by
  have e := dig_toNat d h0 h
  split at e <;> omega

/-- what the encoder adds are digits -/
def isDig (c : UInt8) : Prop := ∃ d : Int, 0 ≤ d ∧ d < 36 ∧ c = dig d

theorem epass_out (b m : Int) (t : List Int) : ∀ (s : ES) (X : Int), EB s X → 0 ≤ X → X + t.length < 2147483647 → ∃ r, (epass b m t s).out = s.out ++ r ∧ ∀ c ∈ r, isDig c := by
  induction t with
  | nil => intro s X _ _ _; exact ⟨[], by simp [epass_nil], by simp⟩
  | cons c t ih =>
    intro s X h h0 h1
    simp only [List.length_cons] at h1
    obtain ⟨r, hr, hd⟩ := ih (estep b m s c) (X + 1) (h.step b m c (by omega) h0) (by omega) (by omega)
    rw [epass_cons, hr]
    by_cases h1 : c < m
    · rw [estep_lt _ _ _ _ h1]; exact ⟨r, rfl, hd⟩
    · by_cases h2 : c = m
      · subst h2
        rw [estep_eq]
        refine ⟨(num s.delta 36 s.bias).map dig ++ r, by simp, ?_⟩
        intro c hc
        rcases List.mem_append.1 hc with hc | hc
        · obtain ⟨d, hd1, rfl⟩ := List.mem_map.1 hc
          have := num_digits s.delta 36 s.bias h.d0 d hd1
          exact ⟨d, this.1, this.2, rfl⟩
        · exact hd c hc
      · rw [estep_gt _ _ _ _ (by omega)]; exact ⟨r, rfl, hd⟩

theorem eloop_out (b : Int) (l : List Int) (hl : l.length ≤ 1001) (hle : ∀ c ∈ l, c ≤ 1114111) : ∀ (k : Nat) (n : Int) (s : ES), EH l n s → ∃ r, eloop b l k n s = s.out ++ r ∧ ∀ c ∈ r, isDig c := by
  intro k
  induction k with
  | zero => intro n s h; exact ⟨[], by simp [eloop], by simp⟩
  | succ k ih =>
    intro n s h
    unfold eloop
    split
    · rename_i hlt
      have hn := h.next (b := b) hl hle hlt
      obtain ⟨r1, e1, d1⟩ := ih _ _ hn.2.2.2.2.2.1
      have := hn.2.2.1
      have := h.n0
      have := hn.2.1
      obtain ⟨r2, e2, d2⟩ := epass_out b (nextM n 1114112 l) l (ebegin l n s) _ hn.2.2.2.2.1 (by omega) (by omega)
      refine ⟨r2 ++ r1, ?_, ?_⟩
      · rw [e1]
        show (epass b (nextM n 1114112 l) l (ebegin l n s)).out ++ r1 = _
        rw [e2]; simp [ebegin]
      · intro c hc
        rcases List.mem_append.1 hc with hc | hc
        · exact d2 c hc
        · exact d1 c hc
    · exact ⟨[], by simp, by simp⟩

theorem enc_out (l : List Int) (hl : l.length ≤ 1001) (hle : ∀ c ∈ l, c ≤ 1114111) : ∃ r, enc l = front l ++ r ∧ ∀ c ∈ r, isDig c :=
  eloop_out (basic l).length l hl hle l.length 128 _ (EH.start l hl)

end Go.Proofs.Ytoeaiifmablbnaa.Pu
