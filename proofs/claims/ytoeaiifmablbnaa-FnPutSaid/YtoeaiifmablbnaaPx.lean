/- What the laws need of the two plain coders: what is encoded is short, and the package's decoder gives it back; a last byte that is no digit; great letters. -/
import Derived.Test.YtoeaiifmablbnaaDc
namespace Go.Proofs.Ytoeaiifmablbnaa.Pu

theorem epass_short (b m : Int) (t : List Int) : ∀ (s : ES) (X : Int), EB s X → 0 ≤ X → X + t.length < 2147483647 → ((epass b m t s).out.length : Int) - 11 * (epass b m t s).h ≤ s.out.length - 11 * s.h := by
  induction t with
  | nil => intro s X _ _ _; rw [epass_nil]; omega
  | cons c t ih =>
    intro s X h h0 h1
    simp only [List.length_cons] at h1
    have := ih (estep b m s c) (X + 1) (h.step b m c (by omega) h0) (by omega) (by omega)
    rw [epass_cons]
    by_cases h1 : c < m
    · rw [estep_lt _ _ _ _ h1] at this ⊢; exact this
    · by_cases h2 : c = m
      · subst h2
        rw [estep_eq] at this ⊢
        have hn := num_short s.delta 36 s.bias h.d0 (by have := h.d1; omega)
        simp only [List.length_append, List.length_map] at this
        omega
      · rw [estep_gt _ _ _ _ (by omega)] at this ⊢; exact this

theorem eloop_short (b : Int) (l : List Int) (hl : l.length ≤ 1001) (hle : ∀ c ∈ l, c ≤ 1114111) : ∀ (k : Nat) (n : Int) (s : ES), EH l n s → ((eloop b l k n s).length : Int) ≤ s.out.length - 11 * s.h + 11 * l.length := by
  intro k
  induction k with
  | zero => intro n s h; have := h.hh; have := cnt_le n l; show (s.out.length : Int) ≤ _; omega
  | succ k ih =>
    intro n s h
    have hc := h.hh
    have hcl := cnt_le n l
    unfold eloop
    split
    · rename_i hlt
      have hn := h.next (b := b) hl hle hlt
      have h1 := hn.2.1
      have h2 := hn.2.2.1
      have h3 := h.n0
      have hp := epass_short b (nextM n 1114112 l) l (ebegin l n s) _ hn.2.2.2.2.1 (by omega) (by omega)
      have := ih _ _ hn.2.2.2.2.2.1
      have e1 : (eend (epass b (nextM n 1114112 l) l (ebegin l n s))).out = (epass b (nextM n 1114112 l) l (ebegin l n s)).out := rfl
      have e2 : (eend (epass b (nextM n 1114112 l) l (ebegin l n s))).h = (epass b (nextM n 1114112 l) l (ebegin l n s)).h := rfl
      rw [e1, e2] at this
      have e3 : (ebegin l n s).out = s.out := rfl
      have e4 : (ebegin l n s).h = s.h := rfl
      rw [e3, e4] at hp
      omega
    · omega

theorem enc_short (l : List Int) (hl : l.length ≤ 1001) (hle : ∀ c ∈ l, c ≤ 1114111) : (enc l).length ≤ 1 + 12 * l.length := by
  have h := eloop_short (basic l).length l hl hle l.length 128 _ (EH.start l hl)
  have hf := front_le l
  simp only at h
  unfold enc
  omega

/-- the front of Punycode -/
def fr (x : List Int) : List UInt8 := x.map byteOf ++ if x.length = 0 then [] else [45]
theorem front_fr (l : List Int) : front l = fr (basic l) := rfl
theorem fr_some {x : List Int} (h : x.length ≠ 0) : fr x = x.map byteOf ++ [45] := by unfold fr; rw [if_neg h]
theorem fr_none {x : List Int} (h : x.length = 0) : fr x = [] := by unfold fr; rw [if_pos h, List.eq_nil_of_length_eq_zero h]; rfl

theorem cps_byteOf : ∀ (x : List Int), (∀ c ∈ x, 0 ≤ c ∧ c < 128) → cps (x.map byteOf) = x
  | [], _ => rfl
  | c :: x, h => by
    have hc := h c (by simp)
    show ((byteOf c).toNat : Int) :: cps (x.map byteOf) = _
    rw [cps_byteOf x (fun d hd => h d (by simp [hd]))]
    congr 1
    unfold byteOf
    simp only [UInt8.toNat_ofNat']
    omega

theorem hyp_fr_some {x : List Int} (h : x.length ≠ 0) (r : List UInt8) (hr : ∀ c ∈ r, c ≠ 45) : hyp (fr x ++ r) (fr x ++ r).length = x.length := by
  rw [fr_some h, List.append_assoc]
  have := hyp_at (x.map byteOf) r hr
  rw [List.length_map] at this
  exact this

theorem dc_split (x : List Int) (r : List UInt8) (hx : ∀ c ∈ x, 0 ≤ c ∧ c < 128) (hr : ∀ c ∈ r, c ≠ 45) : dc (fr x ++ r) = idc r ⟨x, 0, 128, 72⟩ := by
  by_cases h : x.length = 0
  · obtain rfl : x = [] := List.eq_nil_of_length_eq_zero h
    rw [fr_none rfl, List.nil_append]
    unfold dc
    by_cases h0 : r = []
    · subst h0; rw [if_pos rfl, idc_nil]
    · rw [if_neg h0, hyp_none r hr, if_neg (by omega)]
      rfl
  · have hh := hyp_fr_some h r hr
    unfold dc
    rw [if_neg (by rw [fr_some h]; simp), hh, if_neg (by omega)]
    rw [show ((x.length : Int) + 1).toNat = x.length + 1 by omega, Int.toNat_natCast, fr_some h]
    have e1 : (x.map byteOf ++ [45] ++ r).drop (x.length + 1) = r := by
      have : (x.map byteOf ++ [45]).length = x.length + 1 := by simp
      rw [← this, List.drop_left]
    have e2 : (x.map byteOf ++ [45] ++ r).take x.length = x.map byteOf := by
      have : (x.map byteOf).length = x.length := by simp
      rw [List.append_assoc, ← this, List.take_left]
    rw [e1, e2, cps_byteOf x hx]

theorem sd_idc_yes (f : Nat) : ∀ (r : List UInt8) (s : DS) (o : List Int), r.length ≤ f → DI s → o.length ≤ 1024 → sd r s = (1, o) → idc r s = some o := by
  induction f with
  | zero =>
    intro r s o hr hd ho h
    have : r = [] := List.eq_nil_of_length_eq_zero (by omega)
    subst this
    rw [sd_nil] at h
    rw [idc_nil, (Prod.mk.inj h).2]
  | succ f ih =>
    intro r s o hr hd ho h
    rcases sd_cases r s o h with ⟨rfl, rfl⟩ | ⟨j, r2, h1, h2, h3, h4, h5⟩
    · exact idc_nil s
    · obtain ⟨p, m, e, hp, hjm, hm, hpi⟩ := step_parts hd (dnum_ge _ _ _ _ _ _ _ (by omega) h1)
      rw [e] at h4 h2
      have hk := (sd_keeps _ r2 _ o (Nat.le_refl _) (hd.step hp hm hpi) h4).2.2
      simp only at hk h2
      rw [put_len _ _ _ hp] at hk
      rw [idc_go r s j r2 h1, if_neg (by omega), e, if_neg (by simp only; omega)]
      exact ih r2 _ o (by omega) (hd.step hp hm hpi) ho h4

/-- what is encoded: the front, and digits that are decoded to the text -/
theorem enc_parts (l : List Int) (hl : l.length ≤ 1001) (hok : ∀ c ∈ l, okc c) : ∃ r, enc l = fr (basic l) ++ r ∧ (∀ c ∈ r, isDig c) ∧ idc r ⟨basic l, 0, 128, 72⟩ = some l := by
  obtain ⟨r, e, h⟩ := enc_dec l hl hok
  obtain ⟨r', e', g⟩ := enc_out l hl (fun c hc => by have := hok c hc; unfold okc at this; omega)
  obtain rfl : r = r' := List.append_cancel_left (e.symm.trans e')
  exact ⟨r, e, g, sd_idc_yes _ r _ l (Nat.le_refl _) (DI.start _ (fun c hc => (basic_rng hok c hc).2)) (by omega) h⟩

/-- WHAT IS ENCODED THE PACKAGE DECODES TO THE TEXT -/
theorem dc_enc (l : List Int) (hl : l.length ≤ 1001) (hok : ∀ c ∈ l, okc c) : dc (enc l) = some l := by
  obtain ⟨r, e, g, h⟩ := enc_parts l hl hok
  rw [e, dc_split _ _ (basic_rng hok) (isDig_ne g), h]

theorem enc_asc (l : List Int) (hl : l.length ≤ 1001) (hok : ∀ c ∈ l, okc c) : ∀ c ∈ enc l, c.toNat < 128 := by
  obtain ⟨r, e, hd⟩ := enc_out l hl (fun c hc => by have := hok c hc; unfold okc at this; omega)
  intro c hc
  rw [e] at hc
  unfold front at hc
  rcases List.mem_append.1 hc with hc | hc
  · rcases List.mem_append.1 hc with hc | hc
    · obtain ⟨x, hx, rfl⟩ := List.mem_map.1 hc
      have h1 := basic_rng hok x hx
      unfold byteOf
      simp only [UInt8.toNat_ofNat']
      omega
    · split at hc
      · simp at hc
      · simp at hc; subst hc; decide
  · obtain ⟨d, d0, d1, rfl⟩ := hd c hc
    exact (dig_lt d d0 d1).1

/-! ASCII alone -/
theorem enc_ascii_only (x : List Int) (hx : ∀ c ∈ x, 0 ≤ c ∧ c < 128) : enc x = fr x := by
  have hb : basic x = x := List.filter_eq_self.2 (fun c hc => by simpa using (hx c hc).2)
  unfold enc
  rw [hb, front_fr, hb]
  cases h : x.length with
  | zero => rfl
  | succ k => unfold eloop; rw [if_neg (by simp only; omega)]
theorem dc_fr (x : List Int) (hx : ∀ c ∈ x, 0 ≤ c ∧ c < 128) : dc (fr x) = some x := by
  have := dc_split x [] hx (by simp)
  rw [List.append_nil] at this
  rw [this, idc_nil]
theorem dc_bare (r : List UInt8) (hr : ∀ c ∈ r, c ≠ 45) : dc (45 :: r) = none := by
  have : hyp (45 :: r) (45 :: r).length = 0 := hyp_at [] r hr
  unfold dc
  rw [if_neg (by simp), if_pos this]

/-! a last byte that is no digit -/
theorem dnum_tail (c : UInt8) (hc : undig c < 0) : ∀ (r : List UInt8) (k b w i j : Int) (rest : List UInt8), dnum (r ++ [c]) k b w i = (1, j, rest) → ∃ y, rest = y ++ [c]
  | [], k, b, w, i, j, rest, h => by
    rw [List.nil_append, dnum, if_pos hc] at h
    simp at h
  | d :: r, k, b, w, i, j, rest, h => by
    rw [List.cons_append, dnum] at h
    by_cases h1 : undig d < 0
    · rw [if_pos h1] at h; simp at h
    rw [if_neg h1] at h
    by_cases h2 : 2147483647 < i + undig d * w
    · rw [if_pos h2] at h; simp at h
    rw [if_neg h2] at h
    by_cases h3 : undig d < thr k b
    · rw [if_pos h3] at h
      simp only [Prod.mk.injEq, true_and] at h
      exact ⟨r, h.2.symm⟩
    rw [if_neg h3] at h
    by_cases h4 : 2147483647 < w * (36 - thr k b)
    · rw [if_pos h4] at h; simp at h
    rw [if_neg h4] at h
    exact dnum_tail c hc r _ _ _ _ _ _ h

theorem idc_tail (c : UInt8) (hc : undig c < 0) (f : Nat) : ∀ (r : List UInt8) (s : DS), r.length ≤ f → idc (r ++ [c]) s = none := by
  have base : ∀ (r : List UInt8) (s : DS), (∀ (y : List UInt8) (s' : DS), y.length < r.length → idc (y ++ [c]) s' = none) → idc (r ++ [c]) s = none := by
    intro r s ih
    by_cases h : (dnum (r ++ [c]) 36 s.bias 1 s.i).1 = 1
    · have hs := dnum_shorter (r ++ [c]) _ _ _ _ h
      have he : dnum (r ++ [c]) 36 s.bias 1 s.i = (1, (dnum (r ++ [c]) 36 s.bias 1 s.i).2.1, (dnum (r ++ [c]) 36 s.bias 1 s.i).2.2) := Prod.ext h rfl
      generalize (dnum (r ++ [c]) 36 s.bias 1 s.i).2.1 = j at *
      generalize (dnum (r ++ [c]) 36 s.bias 1 s.i).2.2 = rest at *
      obtain ⟨y, rfl⟩ := dnum_tail c hc r _ _ _ _ _ _ he
      rw [idc_go _ _ _ _ he]
      split
      · rfl
      · split
        · rfl
        · exact ih y _ (by simp at hs; omega)
    · exact idc_no _ _ (by simp) h
  induction f with
  | zero => intro r s hr; exact base r s (fun y s' hy => by omega)
  | succ f ih => intro r s hr; exact base r s (fun y s' hy => ih y s' (by omega))

/-! great letters -/
theorem dnum_alike : ∀ (r q : List UInt8) (k b w i : Int), r.map undig = q.map undig → (dnum r k b w i).1 = (dnum q k b w i).1 ∧ (dnum r k b w i).2.1 = (dnum q k b w i).2.1 ∧ (dnum r k b w i).2.2.map undig = (dnum q k b w i).2.2.map undig
  | [], [], _, _, _, _, _ => ⟨rfl, rfl, rfl⟩
  | [], _ :: _, _, _, _, _, h => by simp at h
  | _ :: _, [], _, _, _, _, h => by simp at h
  | c :: r, d :: q, k, b, w, i, h => by
    simp only [List.map_cons, List.cons.injEq] at h
    obtain ⟨h1, h2⟩ := h
    rw [dnum, dnum, h1]
    repeat' split
    · exact ⟨rfl, rfl, rfl⟩
    · exact ⟨rfl, rfl, rfl⟩
    · exact ⟨rfl, rfl, h2⟩
    · exact ⟨rfl, rfl, rfl⟩
    · exact dnum_alike r q _ _ _ _ h2

theorem idc_alike (f : Nat) : ∀ (r q : List UInt8) (s : DS), r.length ≤ f → r.map undig = q.map undig → idc r s = idc q s := by
  induction f with
  | zero =>
    intro r q s hr h
    obtain rfl : r = [] := List.eq_nil_of_length_eq_zero (by omega)
    obtain rfl : q = [] := by cases q with | nil => rfl | cons _ _ => simp at h
    rfl
  | succ f ih =>
    intro r q s hr h
    cases r with
    | nil =>
      obtain rfl : q = [] := by cases q with | nil => rfl | cons _ _ => simp at h
      rfl
    | cons c r =>
      cases q with
      | nil => simp at h
      | cons d q =>
        obtain ⟨a1, a2, a3⟩ := dnum_alike (c :: r) (d :: q) 36 s.bias 1 s.i h
        by_cases h1 : (dnum (c :: r) 36 s.bias 1 s.i).1 = 1
        · have hs := dnum_shorter (c :: r) _ _ _ _ h1
          have e1 : dnum (c :: r) 36 s.bias 1 s.i = (1, (dnum (c :: r) 36 s.bias 1 s.i).2.1, (dnum (c :: r) 36 s.bias 1 s.i).2.2) := Prod.ext h1 rfl
          have e2 : dnum (d :: q) 36 s.bias 1 s.i = (1, (dnum (c :: r) 36 s.bias 1 s.i).2.1, (dnum (d :: q) 36 s.bias 1 s.i).2.2) := Prod.ext (a1 ▸ h1) (Prod.ext a2.symm rfl)
          rw [idc_go _ _ _ _ e1, idc_go _ _ _ _ e2, ih _ (dnum (d :: q) 36 s.bias 1 s.i).2.2 _ (by simp at hs hr; omega) a3]
        · rw [idc_no _ _ (by simp) h1, idc_no _ _ (by simp) (by rw [← a1]; exact h1)]

end Go.Proofs.Ytoeaiifmablbnaa.Pu
