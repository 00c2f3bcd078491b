/- One code point as a text: what Runes makes of it. -/
import Derived.Test.YtoeaiifmablbnaaPl
namespace Go.Proofs.Ytoeaiifmablbnaa
open Go.RowKit

theorem runesOf_utf (S : ByteArray) (l : List Int) (many : Nat) (hS : Pu.bl S = Pu.utf l) (hok : ∀ c ∈ l, Pu.okc c) : RunesOf S many = (l.filter (· ≠ 65533)).take many := by
  unfold RunesOf
  have hz := Pu.utf_len l
  have := Pu.scan_utf S l [] S.size hok (by rw [hS]; rfl) (by rw [Pu.bl_size, hS]; omega)
  rw [List.length_nil] at this
  rw [this]

/-- a code point that is encoded, or not -/
theorem runesOf_one (c : Int) : (Pu.okc c ∧ c ≠ 65533 ∧ (RunesOf (Utf8.encode c) 1).length = 1) ∨ (¬ (Pu.okc c ∧ c ≠ 65533) ∧ (RunesOf (Utf8.encode c) 1).length = 0) := by
  by_cases h : Pu.okc c
  · have e := runesOf_utf (Utf8.encode c) [c] 1 (by rw [Pu.utf_cons, Pu.utf_nil, List.append_nil]; rfl) (by simpa using h)
    rw [e]
    by_cases h2 : c = 65533
    · right
      refine ⟨fun h => h.2 h2, ?_⟩
      rw [List.filter_cons_of_neg (by simpa using h2)]; rfl
    · left
      refine ⟨h, h2, ?_⟩
      rw [List.filter_cons_of_pos (by simpa using h2)]; rfl
  · right
    refine ⟨fun h2 => h h2.1, ?_⟩
    have e := runesOf_utf (Utf8.encode c) [65533] 1 (by rw [Pu.utf_cons, Pu.utf_nil, List.append_nil, ← Pu.ub_bad c h]; rfl) (by simp [Pu.okc])
    rw [e]; rfl

theorem encode_small (c : Int) : (Utf8.encode c).size ≤ 4 := by
  rw [Pu.bl_size]; exact (Pu.ub_pos c).2

end Go.Proofs.Ytoeaiifmablbnaa
