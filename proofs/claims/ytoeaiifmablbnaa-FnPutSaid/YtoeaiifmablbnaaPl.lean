/- What spec.Plain gives: a text of ASCII, of at most so many bytes. -/
import Derived.Test.YtoeaiifmablbnaaLx
namespace Go.Proofs.Ytoeaiifmablbnaa
open Go.RowKit

theorem bl_one (s : ByteArray) (j : Nat) (h : j < s.size) : Pu.bl (s.extract j (j + 1)) = [s[j]] := by
  rw [Pu.bl_extract, show j + 1 - j = 1 by omega]
  have h' : j < (Pu.bl s).length := by rw [← Pu.bl_size]; exact h
  rw [List.drop_eq_getElem_cons h']
  simp only [List.take_succ_cons, List.take_zero]
  congr 1

def PlPost (many : Nat) (w : World) (e : Ending) (w' : World) : Prop := ∃ T : ByteArray, e = .returned (.string T) ∧ (∀ c ∈ Pu.bl T, c.toNat < 128) ∧ T.size ≤ many ∧ w = w'

set_option maxRecDepth 100000 in
set_option maxHeartbeats 1000000 in
theorem plain_any (s : ByteArray) (many : Nat) (w : World) (hs : s.size ≤ 140737488351232) (hm : many ≤ 1000000) :
    Calls Try.prog 21 #[.string s, .int .i64 many] w (PlPost many w) := by
  go_enter Try.func21, Try.ntmps21
  go_wp2_with fail
  go_loopg [5, 9] s.size (fun k t i wr => ∃ (j : Nat) (T : ByteArray), t = .string T ∧ i = .int .i64 j ∧ j + k = s.size ∧ (∀ c ∈ Pu.bl T, c.toNat < 128) ∧ T.size ≤ many ∧ w = wr)
  case atStart => exact ⟨0, _, rfl, rfl, by simp, by simp [Pu.bl], by show 0 ≤ many; omega, rfl⟩
  case round =>
    obtain ⟨j, T, rfl, rfl, hjk, hr, hz, rfl⟩ := hrel
    have Hjk := Lib.hid hjk
    have Hr := Lib.hid hr
    have hj : j ≤ s.size := by omega
    clear hjk hr
    by_cases hlt : j < s.size
    · have hc := Lib.hid (bl_one s j hlt)
      have hXz : (s.extract j (j + 1)).size ≤ 1 := by rw [Pu.bl_size, hc.out]; simp
      by_cases h2 : (s[j].toNat : Int) < 128
      · by_cases h3 : T.size < many
        · go_wp2
          go_roundg (s.size - (j + 1))
          case measure => have := Hjk.out; omega
          case rel =>
            refine ⟨j + 1, _, rfl, by go_num, by omega, ?_, ?_, rfl⟩
            · intro c h
              rw [Pu.bl_append, hc.out] at h
              rcases List.mem_append.1 h with h | h
              · exact Hr.out c h
              · simp at h
                subst h
                omega
            · rw [Pu.bl_size, Pu.bl_append, List.length_append, ← Pu.bl_size, hc.out]; simp; omega
        · go_wp2
          go_roundg (s.size - (j + 1))
          case measure => have := Hjk.out; omega
          case rel => exact ⟨j + 1, T, rfl, by go_num, by omega, Hr.out, hz, rfl⟩
      · go_wp2
        go_roundg (s.size - (j + 1))
        case measure => have := Hjk.out; omega
        case rel => exact ⟨j + 1, T, rfl, by go_num, by omega, Hr.out, hz, rfl⟩
    · go_wp2
      go_ret
      exact ⟨T, rfl, Hr.out, hz, rfl⟩

/-- a text of ASCII: its code points, encoded -/
theorem asc_code {T : ByteArray} (h : ∀ c ∈ Pu.bl T, c.toNat < 128) : Pu.bl T = Pu.utf (Pu.cps (Pu.bl T)) ∧ (∀ c ∈ Pu.cps (Pu.bl T), Pu.okc c ∧ c ≠ 65533) ∧ (Pu.cps (Pu.bl T)).length = T.size :=
  ⟨(Pu.utf_cps _ h).symm, fun c hc => ⟨Pu.cps_ok h c hc, by have := Pu.cps_rng h c hc; omega⟩, by rw [Pu.cps_len, Pu.bl_size]⟩

end Go.Proofs.Ytoeaiifmablbnaa
