/- Small joints that several laws use. -/
import Derived.Test.YtoeaiifmablbnaaDx
import Derived.Test.YtoeaiifmablbnaaPx
namespace Go.Proofs.Ytoeaiifmablbnaa
open Go.RowKit

theorem utf_97 : Pu.bs (Pu.utf [97]) = ⟨#[97]⟩ := by
  rw [Pu.utf_cons, Pu.utf_nil, Pu.ub_1 97 (by omega) (by omega)]; rfl

/-- 'impl.Decode("a-")' -/
theorem decode_a (w : World) : Calls Try.prog 19 #[.string ⟨#[97, 45]⟩] w fun e w' => e = .returned (.tuple #[.string ⟨#[97]⟩, .bool true]) ∧ Below w.heap.size w w' := by
  have h := implDecode_yes ⟨#[97, 45]⟩ [97] w (by show 2 ≤ _; omega) (by decide) (Pu.dc_fr [97] (by simp))
  rw [utf_97] at h
  exact h

theorem enc_97 : Pu.enc [97] = [97, 45] := Pu.enc_ascii_only [97] (by simp)

/-- 'impl.Encode(p, "a")' -/
theorem encode_a (p : ByteArray) (w : World) (hp : p.size ≤ 140737488351232) : Calls Try.prog 17 #[.string p, .string ⟨#[97]⟩] w fun e w' => e = .returned (.tuple #[.string (p ++ ⟨#[97, 45]⟩), .bool true]) ∧ Below w.heap.size w w' := by
  refine (implEncode_any p ⟨#[97]⟩ [97] w hp (by rw [← utf_97, Pu.bl_bs]) (by simp) (by simp [Pu.okc])).mono ?_
  rintro e w' ⟨rfl, hb⟩
  refine ⟨?_, hb⟩
  rw [enc_97]
  have : Pu.bs (Pu.bl p ++ [97, 45]) = p ++ ⟨#[97, 45]⟩ := by apply Pu.bl_inj; rw [Pu.bl_bs, Pu.bl_append]; rfl
  rw [this]

/-- 'impl.Encode("", s)', s in UTF-8 -/
theorem encode_plain (S : ByteArray) (l : List Int) (w : World) (hS : Pu.bl S = Pu.utf l) (hl : l.length ≤ 1001) (hok : ∀ c ∈ l, Pu.okc c ∧ c ≠ 65533) :
    Calls Try.prog 17 #[.string ⟨#[]⟩, .string S] w fun e w' => e = .returned (.tuple #[.string (Pu.bs (Pu.enc l)), .bool true]) ∧ Below w.heap.size w w' := by
  refine (implEncode_any ⟨#[]⟩ S l w (by show 0 ≤ _; omega) hS hl hok).mono ?_
  rintro e w' ⟨rfl, hb⟩
  rw [Pu.bl_nil, List.nil_append]
  exact ⟨rfl, hb⟩

/-- 'impl.Decode' of what is encoded -/
theorem decode_enc (E : ByteArray) (l : List Int) (w : World) (hE : Pu.bl E = Pu.enc l) (hl : l.length ≤ 1001) (hok : ∀ c ∈ l, Pu.okc c) :
    Calls Try.prog 19 #[.string E] w fun e w' => e = .returned (.tuple #[.string (Pu.bs (Pu.utf l)), .bool true]) ∧ Below w.heap.size w w' := by
  have hz := Pu.enc_short l hl (fun c hc => by have := hok c hc; unfold Pu.okc at this; omega)
  exact implDecode_yes E l w (by rw [Pu.bl_size, hE]; omega) (by rw [hE]; exact Pu.enc_asc l hl hok) (by rw [hE]; exact Pu.dc_enc l hl hok)

theorem enc_size (l : List Int) (hl : l.length ≤ 1001) (hok : ∀ c ∈ l, Pu.okc c) : (Pu.bs (Pu.enc l)).size ≤ 1 + 12 * l.length := by
  rw [Pu.bs_size]
  exact Pu.enc_short l hl (fun c hc => by have := hok c hc; unfold Pu.okc at this; omega)

end Go.Proofs.Ytoeaiifmablbnaa
