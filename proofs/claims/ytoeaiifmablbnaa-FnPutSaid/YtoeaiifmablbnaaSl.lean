/- A slice of code points of the call's own: kept, read. What is encoded is at least as long as the text. -/
import Derived.Test.YtoeaiifmablbnaaFr
import Derived.Test.YtoeaiifmablbnaaEnl
namespace Go.Proofs.Ytoeaiifmablbnaa
open Go.RowKit

theorem own_below {w w' : World} {B : Nat} {e : TypeId} {sz : Nat} {v : Value} {n : Nat} {xs : List Value} (h : w.ownsRow B e sz v n xs) (hb : Below w.heap.size w w') : w'.ownsRow B e sz v n xs := by
  refine ⟨h.1, ?_⟩
  rcases h.2 with h2 | ⟨g, cap, cur, rfl, hB, hg, r⟩
  · exact .inl h2
  · refine .inr ⟨g, cap, cur, rfl, hB, ?_, r⟩
    rw [hb.block g (Array.getElem?_eq_some_iff.1 hg).1]
    exact hg

/-- the cells of a slice that is not empty -/
theorem own_cells {w : World} {B : Nat} {R : List Int} {ad : Option Addr} {cp : Nat} (h : OwnI B R (.slice ad R.length cp) w) (hne : 0 < R.length) :
    ∃ g, B ≤ g ∧ g < w.heap.size ∧ R.length ≤ cp ∧ ad = some ⟨g, 0, none⟩ ∧ ∀ j, j < R.length → w.cell? ⟨g, j, none⟩ = some (.int .i32 (R.getD j 0)) := by
  have h0 := h
  rcases h.2 with ⟨h1, h2⟩ | ⟨g, cap, cur, h1, hB, hg, hle, _⟩
  · omega
  · simp only [Value.slice.injEq] at h1
    obtain ⟨rfl, -, rfl⟩ := h1
    refine ⟨g, hB, (Array.getElem?_eq_some_iff.1 hg).1, hle, rfl, fun j hj => ?_⟩
    have hc := h0.cells (g := g) (by simp [Value.ownBlock]) j (.int .i32 (R.getD j 0)) (by simp [hj])
    have hadd : (⟨g, 0, none⟩ : Addr).add j = ⟨g, j, none⟩ := by simp [Addr.add]; omega
    rw [hadd] at hc
    exact hc

end Go.Proofs.Ytoeaiifmablbnaa
namespace Go.Proofs.Ytoeaiifmablbnaa.Pu

theorem epass_long (b m : Int) (t : List Int) : ∀ s : ES, s.h ≤ s.out.length → (epass b m t s).h ≤ (epass b m t s).out.length := by
  induction t with
  | nil => intro s h; exact h
  | cons c t ih =>
    intro s h
    rw [epass_cons]
    apply ih
    by_cases h1 : c < m
    · rw [estep_lt _ _ _ _ h1]; exact h
    · by_cases h2 : c = m
      · subst h2
        rw [estep_eq]
        have := num_one s.delta 36 s.bias
        simp only [List.length_append, List.length_map]
        omega
      · rw [estep_gt _ _ _ _ (by omega)]; exact h

theorem eloop_long (b : Int) (l : List Int) (hl : l.length ≤ 1001) (hle : ∀ c ∈ l, c ≤ 1114111) : ∀ (k : Nat) (n : Int) (s : ES), EH l n s → s.h ≤ s.out.length → (l.length : Int) ≤ k + s.h → l.length ≤ (eloop b l k n s).length := by
  intro k
  induction k with
  | zero => intro n s _ h1 h2; show l.length ≤ s.out.length; omega
  | succ k ih =>
    intro n s h h1 h2
    unfold eloop
    split
    · rename_i hlt
      have hn := h.next (b := b) hl hle hlt
      have hp := epass_long b (nextM n 1114112 l) l (ebegin l n s) h1
      exact ih _ _ hn.2.2.2.2.2.1 hp (by have := hn.2.2.2.2.2.2; omega)
    · omega

theorem enc_long (l : List Int) (hl : l.length ≤ 1001) (hle : ∀ c ∈ l, c ≤ 1114111) : l.length ≤ (enc l).length := by
  refine eloop_long _ l hl hle l.length 128 _ (EH.start l hl) ?_ (by simp only; omega)
  simp only
  unfold front
  rw [List.length_append, List.length_map]
  omega

theorem enc_ascii (l : List Int) (hl : l.length ≤ 1001) (hok : ∀ c ∈ l, okc c) : ∀ c ∈ enc l, c.toNat < 128 := by
  obtain ⟨r, e, hd⟩ := enc_out l hl (fun c hc => by have := hok c hc; unfold okc at this; omega)
  intro c hc
  rw [e] at hc
  unfold front at hc
  rcases List.mem_append.1 hc with hc | hc
  · rcases List.mem_append.1 hc with hc | hc
    · obtain ⟨x, hx, rfl⟩ := List.mem_map.1 hc
      have h1 := List.mem_filter.1 hx
      have h2 : x < 128 := by simpa using h1.2
      have h3 := hok x h1.1
      unfold okc at h3
      unfold byteOf
      simp only [UInt8.toNat_ofNat']
      omega
    · split at hc
      · simp at hc
      · simp at hc; subst hc; decide
  · obtain ⟨d, d0, d1, rfl⟩ := hd c hc
    exact (dig_lt d d0 d1).1

end Go.Proofs.Ytoeaiifmablbnaa.Pu
