/- Unlike texts are encoded unlike; where the last hyphen of what is encoded stands. -/
import Derived.Test.YtoeaiifmablbnaaDec
namespace Go.Proofs.Ytoeaiifmablbnaa.Pu

theorem isDig_ne {r : List UInt8} (h : ∀ c ∈ r, isDig c) : ∀ c ∈ r, c ≠ 45 := by
  intro c hc e
  obtain ⟨d, d0, d1, rfl⟩ := h c hc
  have := (dig_lt d d0 d1).2
  rw [e] at this
  exact this rfl

/-- a text parts at its last hyphen in one way -/
theorem part_once {x1 x2 r1 r2 : List UInt8} (h : x1 ++ 45 :: r1 = x2 ++ 45 :: r2) (h1 : ∀ c ∈ r1, c ≠ 45) (h2 : ∀ c ∈ r2, c ≠ 45) : x1 = x2 ∧ r1 = r2 := by
  rcases List.append_eq_append_iff.1 h with ⟨z, e1, e2⟩ | ⟨z, e1, e2⟩
  · cases z with
    | nil => simp at e1 e2; exact ⟨e1.symm, e2⟩
    | cons y z =>
      simp only [List.cons_append, List.cons.injEq] at e2
      exact absurd rfl (h1 45 (by rw [e2.2]; simp))
  · cases z with
    | nil => simp at e1 e2; exact ⟨e1, e2.symm⟩
    | cons y z =>
      simp only [List.cons_append, List.cons.injEq] at e2
      exact absurd rfl (h2 45 (by rw [e2.2]; simp))

theorem byteOf_inj {c d : Int} (hc : 0 ≤ c) (hc2 : c < 128) (hd : 0 ≤ d) (hd2 : d < 128) (h : byteOf c = byteOf d) : c = d := by
  have := congrArg UInt8.toNat h
  unfold byteOf at this
  simp only [UInt8.toNat_ofNat'] at this
  omega

theorem map_byteOf_inj : ∀ (a b : List Int), (∀ c ∈ a, 0 ≤ c ∧ c < 128) → (∀ c ∈ b, 0 ≤ c ∧ c < 128) → a.map byteOf = b.map byteOf → a = b
  | [], [], _, _, _ => rfl
  | [], _ :: _, _, _, h => by simp at h
  | _ :: _, [], _, _, h => by simp at h
  | c :: a, d :: b, ha, hb, h => by
    simp only [List.map_cons, List.cons.injEq] at h
    have h1 := ha c (by simp)
    have h2 := hb d (by simp)
    rw [byteOf_inj h1.1 h1.2 h2.1 h2.2 h.1, map_byteOf_inj a b (fun x hx => ha x (by simp [hx])) (fun x hx => hb x (by simp [hx])) h.2]

theorem basic_rng {l : List Int} (hok : ∀ c ∈ l, okc c) : ∀ c ∈ basic l, 0 ≤ c ∧ c < 128 := by
  intro c hc
  have h1 := List.mem_filter.1 hc
  have h2 : c < 128 := by simpa using h1.2
  have h3 := hok c h1.1
  unfold okc at h3
  omega

theorem front_some {l : List Int} (h : (basic l).length ≠ 0) : front l = (basic l).map byteOf ++ [45] := by unfold front; rw [if_neg h]
theorem front_none {l : List Int} (h : (basic l).length = 0) : front l = [] := by unfold front; rw [if_pos h, List.eq_nil_of_length_eq_zero h]; rfl

theorem enc_inj (l m : List Int) (hl : l.length ≤ 1001) (hm : m.length ≤ 1001) (hok : ∀ c ∈ l, okc c) (hok2 : ∀ c ∈ m, okc c) (h : enc l = enc m) : l = m := by
  have hle : ∀ c ∈ l, c ≤ 1114111 := fun c hc => by have := hok c hc; unfold okc at this; omega
  have hle2 : ∀ c ∈ m, c ≤ 1114111 := fun c hc => by have := hok2 c hc; unfold okc at this; omega
  obtain ⟨r1, e1, s1⟩ := enc_dec l hl hok
  obtain ⟨r2, e2, s2⟩ := enc_dec m hm hok2
  obtain ⟨q1, f1, g1⟩ := enc_out l hl hle
  obtain ⟨q2, f2, g2⟩ := enc_out m hm hle2
  obtain rfl : r1 = q1 := List.append_cancel_left (e1.symm.trans f1)
  obtain rfl : r2 = q2 := List.append_cancel_left (e2.symm.trans f2)
  have n1 := isDig_ne g1
  have n2 := isDig_ne g2
  rw [e1, e2] at h
  have hb : basic l = basic m ∧ r1 = r2 := by
    by_cases hx : (basic l).length = 0
    · by_cases hy : (basic m).length = 0
      · rw [front_none hx, front_none hy] at h
        exact ⟨by rw [List.eq_nil_of_length_eq_zero hx, List.eq_nil_of_length_eq_zero hy], by simpa using h⟩
      · rw [front_none hx, front_some hy] at h
        simp only [List.nil_append] at h
        exact absurd rfl (n1 45 (by rw [h]; simp))
    · by_cases hy : (basic m).length = 0
      · rw [front_some hx, front_none hy] at h
        simp only [List.nil_append] at h
        exact absurd rfl (n2 45 (by rw [← h]; simp))
      · rw [front_some hx, front_some hy, List.append_assoc, List.append_assoc] at h
        obtain ⟨h1, h2⟩ := part_once h n1 n2
        exact ⟨map_byteOf_inj _ _ (basic_rng hok) (basic_rng hok2) h1, h2⟩
  rw [hb.1, hb.2, s2] at s1
  exact ((Prod.mk.inj s1).2).symm

theorem utf_inj (l m : List Int) (hok : ∀ c ∈ l, okc c) (hok2 : ∀ c ∈ m, okc c) (h : utf l = utf m) : l = m := by
  have h1 := scan_utf (bs (utf l)) l [] (l.length + m.length) hok (by rw [bl_bs]; rfl) (by omega)
  have h2 := scan_utf (bs (utf l)) m [] (l.length + m.length) hok2 (by rw [bl_bs, h]; rfl) (by omega)
  rw [← h1, h2]

end Go.Proofs.Ytoeaiifmablbnaa.Pu
