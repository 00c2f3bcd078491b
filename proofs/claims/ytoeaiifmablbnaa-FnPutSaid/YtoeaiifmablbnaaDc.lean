/- The package's decoder, plain: fuel, steps; against the reference's; where the last hyphen stands. -/
import Derived.Test.YtoeaiifmablbnaaUni
namespace Go.Proofs.Ytoeaiifmablbnaa.Pu

theorem idec_fuel (f : Nat) : ∀ (g : Nat) (l : List UInt8) (s : DS), l.length ≤ f → l.length ≤ g → idec f l s = idec g l s := by
  induction f with
  | zero =>
    intro g l s h1 h2
    have : l = [] := List.eq_nil_of_length_eq_zero (by omega)
    subst this
    cases g <;> simp [idec]
  | succ f ih =>
    intro g l s h1 h2
    cases g with
    | zero =>
      have : l = [] := List.eq_nil_of_length_eq_zero (by omega)
      subst this
      simp [idec]
    | succ g =>
      unfold idec
      split
      · rfl
      · split
        · rename_i h
          have := dnum_shorter l _ _ _ _ h
          rw [ih g _ _ (by omega) (by omega)]
        · rfl

/-- the package's decoder, with fuel enough -/
def idc (l : List UInt8) (s : DS) : Option (List Int) := idec l.length l s

theorem idc_nil (s : DS) : idc [] s = some s.out := rfl
theorem idc_go (l : List UInt8) (s : DS) (i : Int) (r : List UInt8) (h : dnum l 36 s.bias 1 s.i = (1, i, r)) :
    idc l s = if 1024 ≤ s.out.length then none else if 1114111 < (dstep s i).n then none else idc r (dstep s i) := by
  have hne : l ≠ [] := by rintro rfl; simp [dnum] at h
  obtain ⟨n, hn⟩ : ∃ n, l.length = n + 1 := ⟨l.length - 1, by have := List.length_pos_iff.2 hne; omega⟩
  have hs := dnum_shorter l 36 s.bias 1 s.i (by rw [h])
  rw [h] at hs
  simp only at hs
  unfold idc
  rw [hn, idec, if_neg hne, h]
  simp only
  rw [if_pos trivial, idec_fuel n r.length r _ (by omega) (by omega)]
theorem idc_no (l : List UInt8) (s : DS) (hne : l ≠ []) (h : (dnum l 36 s.bias 1 s.i).1 ≠ 1) : idc l s = none := by
  obtain ⟨n, hn⟩ : ∃ n, l.length = n + 1 := ⟨l.length - 1, by have := List.length_pos_iff.2 hne; omega⟩
  unfold idc
  rw [hn, idec, if_neg hne, if_neg h]

/-- bytes as code points -/
def cps (l : List UInt8) : List Int := l.map (fun c => (c.toNat : Int))

theorem utf_cps : ∀ (l : List UInt8), (∀ c ∈ l, c.toNat < 128) → utf (cps l) = l
  | [], _ => rfl
  | c :: l, h => by
    have hc := h c (by simp)
    show utf ((c.toNat : Int) :: cps l) = _
    rw [utf_cons, ub_1 _ (by omega) (by omega), utf_cps l (fun d hd => h d (by simp [hd]))]
    simp
theorem cps_len (l : List UInt8) : (cps l).length = l.length := by simp [cps]
theorem cps_rng {l : List UInt8} (h : ∀ c ∈ l, c.toNat < 128) : ∀ c ∈ cps l, 0 ≤ c ∧ c < 128 := by
  intro c hc
  obtain ⟨d, hd, rfl⟩ := List.mem_map.1 hc
  have := h d hd
  omega
theorem cps_ok {l : List UInt8} (h : ∀ c ∈ l, c.toNat < 128) : ∀ c ∈ cps l, okc c := fun c hc => by have := cps_rng h c hc; unfold okc; omega
theorem map_byteOf_cps (l : List UInt8) : (cps l).map byteOf = l := by
  unfold cps
  rw [List.map_map, List.map_congr_left (g := id), List.map_id]
  intro c _
  simp [byteOf]

/-- the package's decoder, from the text on -/
def dc (s : List UInt8) : Option (List Int) :=
  if s = [] then some []
  else if hyp s s.length = 0 then none
  else idc (s.drop (hyp s s.length + 1).toNat) ⟨cps (s.take (hyp s s.length).toNat), 0, 128, 72⟩

theorem hyp_rng (s : List UInt8) : ∀ j, -1 ≤ hyp s j ∧ hyp s j < j
  | 0 => by simp [hyp]
  | j + 1 => by
    unfold hyp
    have := hyp_rng s j
    split <;> omega

/-- no hyphen from the place on -/
theorem hyp_skip (s : List UInt8) : ∀ (j k : Nat), (∀ m, k ≤ m → m < j → s[m]? ≠ some 45) → k ≤ j → hyp s j = hyp s k
  | 0, k, _, hk => by rw [show k = 0 by omega]
  | j + 1, k, h, hk => by
    by_cases e : k = j + 1
    · rw [e]
    · rw [hyp, if_neg (h j (by omega) (by omega))]
      exact hyp_skip s j k (fun m h1 h2 => h m h1 (by omega)) (by omega)

theorem hyp_at (x r : List UInt8) (h : ∀ c ∈ r, c ≠ 45) : hyp (x ++ 45 :: r) (x ++ 45 :: r).length = x.length := by
  rw [hyp_skip _ _ (x.length + 1) ?_ (by simp)]
  · rw [hyp, if_pos]
    rw [List.getElem?_append_right (by omega), Nat.sub_self]
    rfl
  · intro m h1 h2 h3
    rw [List.getElem?_append_right (by omega), show m - x.length = (m - x.length - 1) + 1 by omega, List.getElem?_cons_succ] at h3
    exact h 45 (List.mem_of_getElem? h3) rfl

theorem hyp_none (r : List UInt8) (h : ∀ c ∈ r, c ≠ 45) : hyp r r.length = -1 := by
  rw [hyp_skip _ _ 0 ?_ (by omega)]
  · rfl
  · intro m h1 h2 h3
    exact h 45 (List.mem_of_getElem? h3) rfl

theorem hyp_is (s : List UInt8) (p : Nat) (h : hyp s s.length = p) : ∃ r, s = s.take p ++ 45 :: r ∧ r = s.drop (p + 1) ∧ ∀ c ∈ r, c ≠ 45 := by
  have key : ∀ j, j ≤ s.length → hyp s j = p → p < j ∧ s[p]? = some 45 ∧ ∀ m, p < m → m < j → s[m]? ≠ some 45 := by
    intro j
    induction j with
    | zero => intro _ h; simp [hyp] at h
    | succ j ih =>
      intro hj h
      unfold hyp at h
      split at h
      · rename_i h1
        obtain rfl : j = p := by omega
        exact ⟨by omega, h1, fun m h1 h2 => by omega⟩
      · rename_i h1
        obtain ⟨a, b, c⟩ := ih (by omega) h
        refine ⟨by omega, b, fun m h2 h3 => ?_⟩
        by_cases e : m = j
        · rw [e]; exact h1
        · exact c m h2 (by omega)
  obtain ⟨h1, h2, h3⟩ := key s.length (Nat.le_refl _) h
  refine ⟨s.drop (p + 1), ?_, rfl, ?_⟩
  · have : s.drop p = 45 :: s.drop (p + 1) := by
      rw [List.drop_eq_getElem_cons h1]
      rw [List.getElem?_eq_getElem h1] at h2
      rw [Option.some.inj h2]
    rw [← this, List.take_append_drop]
  · intro c hc e
    subst e
    obtain ⟨m, hm⟩ := List.getElem?_of_mem hc
    rw [List.getElem?_drop] at hm
    have hlt := (List.getElem?_eq_some_iff.1 hm).1
    exact h3 (p + 1 + m) (by omega) hlt hm

theorem hyp_isnone (s : List UInt8) (h : hyp s s.length = -1) : ∀ c ∈ s, c ≠ 45 := by
  have key : ∀ j, j ≤ s.length → hyp s j = -1 → ∀ m, m < j → s[m]? ≠ some 45 := by
    intro j
    induction j with
    | zero => intro _ _ m hm; omega
    | succ j ih =>
      intro hj h m hm
      unfold hyp at h
      split at h
      · omega
      · rename_i h1
        by_cases e : m = j
        · rw [e]; exact h1
        · exact ih (by omega) h m (by omega)
  intro c hc e
  subst e
  obtain ⟨m, hm⟩ := List.getElem?_of_mem hc
  exact key s.length (Nat.le_refl _) h m (List.getElem?_eq_some_iff.1 hm).1 hm

/-! the two decoders -/
theorem sdec_idec (f : Nat) : ∀ (l : List UInt8) (s : DS), s.out.length + l.length ≤ 1024 → l.length ≤ f → DI s →
    (∀ o, sdec f l s = (1, o) → idec f l s = some o) ∧ ((sdec f l s).1 = 2 → idec f l s = none) := by
  induction f with
  | zero =>
    intro l s h1 h2 hd
    have : l = [] := List.eq_nil_of_length_eq_zero (by omega)
    subst this
    refine ⟨fun o h => ?_, fun h => ?_⟩
    · simp only [sdec, Prod.mk.injEq, true_and] at h; simp [idec, h]
    · simp [sdec] at h
  | succ f ih =>
    intro l s h1 h2 hd
    by_cases hl : l = []
    · subst hl
      refine ⟨fun o h => ?_, fun h => ?_⟩
      · simp only [sdec, if_true, Prod.mk.injEq, true_and] at h; simp [idec, h]
      · simp [sdec] at h
    · have hp := List.length_pos_iff.2 hl
      unfold sdec idec
      rw [if_neg hl, if_neg hl]
      by_cases hn : (dnum l 36 s.bias 1 s.i).1 = 1
      · have hs := dnum_shorter l _ _ _ _ hn
        have he : dnum l 36 s.bias 1 s.i = (1, (dnum l 36 s.bias 1 s.i).2.1, (dnum l 36 s.bias 1 s.i).2.2) := Prod.ext hn rfl
        have hge := dnum_ge _ _ _ _ _ _ _ (by omega) he
        rw [if_pos hn, if_pos hn, if_neg (show ¬ 1024 ≤ s.out.length by omega)]
        generalize (dnum l 36 s.bias 1 s.i).2.1 = j at *
        generalize (dnum l 36 s.bias 1 s.i).2.2 = r at *
        by_cases h3 : 1114111 < (dstep s j).n
        · rw [if_pos h3, if_pos h3]
          exact ⟨fun o h => by simp at h, fun _ => rfl⟩
        · rw [if_neg h3, if_neg h3]
          by_cases h4 : 55296 ≤ (dstep s j).n ∧ (dstep s j).n < 57344
          · rw [if_pos h4]
            exact ⟨fun o h => by simp at h, fun h => by simp at h⟩
          · rw [if_neg h4]
            obtain ⟨p, m, e, hp2, hjm, hm, hpi⟩ := step_parts hd hge
            rw [e]
            apply ih
            · simp only; rw [put_len _ _ _ hp2]; omega
            · omega
            · exact hd.step hp2 hm hpi
      · rw [if_neg hn, if_neg hn]
        refine ⟨fun o h => absurd (Prod.mk.inj h).1 hn, fun _ => rfl⟩

theorem sd_idc (l : List UInt8) (s : DS) (h1 : s.out.length + l.length ≤ 1024) (hd : DI s) : (∀ o, sd l s = (1, o) → idc l s = some o) ∧ ((sd l s).1 = 2 → idc l s = none) :=
  sdec_idec l.length l s h1 (Nat.le_refl _) hd

/-- the reference's decoder, from the text on: the verdict and the code points -/
def sp (s : List UInt8) : Int × List Int := if 0 < hyp s s.length then sd (s.drop (hyp s s.length + 1).toNat) ⟨cps (s.take (hyp s s.length).toNat), 0, 128, 72⟩ else sd s ⟨[], 0, 128, 72⟩

theorem undig_45 : undig 45 = -1 := by decide

/-- WHAT THE REFERENCE CALLS WHOLE THE PACKAGE DECODES SO; WHAT IT CALLS BROKEN, NOT -/
theorem sp_dc (s : List UInt8) (hs : ∀ c ∈ s, c.toNat < 128) (hl : s.length ≤ 1000) : (∀ o, sp s = (1, o) → dc s = some o) ∧ ((sp s).1 = 2 → dc s = none) := by
  have hr := hyp_rng s s.length
  unfold sp dc
  by_cases h0 : s = []
  · subst h0
    rw [if_pos rfl]
    have : ¬ (0 : Int) < hyp [] ([] : List UInt8).length := by simp [hyp]
    rw [if_neg this, sd_nil]
    exact ⟨fun o h => by have h2 : ([] : List Int) = o := (Prod.mk.inj h).2
                         rw [h2], fun h => by simp at h⟩
  · rw [if_neg h0]
    by_cases h1 : hyp s s.length = 0
    · rw [if_pos h1, if_neg (by omega)]
      obtain ⟨r, e1, e2, e3⟩ := hyp_is s 0 (by rw [h1]; rfl)
      rw [List.take_zero, List.nil_append] at e1
      refine ⟨fun o h => ?_, fun _ => rfl⟩
      rcases sd_cases s _ o h with ⟨e, _⟩ | ⟨i, r', k, _⟩
      · exact absurd e h0
      · rw [e1, dnum, if_pos (by rw [undig_45]; omega)] at k
        simp at k
    · rw [if_neg h1]
      by_cases h2 : 0 < hyp s s.length
      · rw [if_pos h2]
        apply sd_idc
        · simp only [cps_len, List.length_take, List.length_drop]; omega
        · exact DI.start _ (fun c hc => (cps_rng (fun d hd => hs d (List.mem_of_mem_take hd)) c hc).2)
      · rw [if_neg h2]
        have e : hyp s s.length = -1 := by omega
        rw [e]
        show (∀ o, sd s ⟨[], 0, 128, 72⟩ = (1, o) → idc (s.drop 0) ⟨cps (s.take 0), 0, 128, 72⟩ = some o) ∧ _
        rw [List.drop_zero, List.take_zero]
        exact sd_idc s ⟨[], 0, 128, 72⟩ (by simp; omega) (DI.start [] (by simp))

end Go.Proofs.Ytoeaiifmablbnaa.Pu
