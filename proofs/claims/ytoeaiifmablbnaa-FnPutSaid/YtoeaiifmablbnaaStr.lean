/- Strings as lists of bytes: small facts. -/
import GoSem.Core.Utf8
import Derived.Test.YtoeaiifmablbnaaDefs
namespace Go.Proofs.Ytoeaiifmablbnaa.Pu

/-- a list of bytes as a string -/
def bs (l : List UInt8) : ByteArray := ⟨l.toArray⟩
/-- a string's bytes -/
def bl (s : ByteArray) : List UInt8 := s.data.toList

theorem bl_bs (l : List UInt8) : bl (bs l) = l := by simp [bl, bs]
theorem bs_bl (s : ByteArray) : bs (bl s) = s := by cases s; simp [bl, bs]
theorem bl_append (s t : ByteArray) : bl (s ++ t) = bl s ++ bl t := by simp [bl, ByteArray.data_append]
theorem bl_inj {s t : ByteArray} (h : bl s = bl t) : s = t := by rw [← bs_bl s, ← bs_bl t, h]
theorem bl_size (s : ByteArray) : s.size = (bl s).length := by cases s; rfl
theorem bl_extract (s : ByteArray) (a b : Nat) : bl (s.extract a b) = ((bl s).drop a).take (b - a) := by
  simp [bl, ByteArray.data_extract]
theorem bl_get (s : ByteArray) (i : Nat) (h : i < s.size) : (bl s)[i]? = some s[i] := by
  have h' : i < s.data.size := h
  simp only [bl, Array.getElem?_toList]
  rw [Array.getElem?_eq_getElem h']
  rfl
theorem bs_append (a b : List UInt8) : bs a ++ bs b = bs (a ++ b) := by apply bl_inj; rw [bl_append, bl_bs, bl_bs, bl_bs]
theorem bs_size (l : List UInt8) : (bs l).size = l.length := by rw [bl_size, bl_bs]
theorem eq_bs {s : ByteArray} {l : List UInt8} (h : bl s = l) : s = bs l := by rw [← h, bs_bl]
theorem bl_empty : bl ByteArray.empty = [] := rfl
theorem bl_nil : bl ⟨#[]⟩ = [] := rfl

theorem digits_at : ∀ d : Fin 36, (((([97, 98, 99, 100, 101, 102, 103, 104, 105, 106, 107, 108, 109, 110, 111, 112, 113, 114, 115, 116, 117, 118, 119, 120, 121, 122, 48, 49, 50, 51, 52, 53, 54, 55, 56, 57] : List UInt8).drop d.val).take 1) = [dig d.val]) := by decide

theorem digits_cut (d : Int) (h0 : 0 ≤ d) (h : d < 36) (a b : Nat) (ha : a = d.toNat) (hb : b = d.toNat + 1) :
    bl (ByteArray.extract ⟨#[97, 98, 99, 100, 101, 102, 103, 104, 105, 106, 107, 108, 109, 110, 111, 112, 113, 114, 115, 116, 117, 118, 119, 120, 121, 122, 48, 49, 50, 51, 52, 53, 54, 55, 56, 57]⟩ a b) = [dig d] := by
  subst ha hb
  rw [bl_extract]
  have := digits_at ⟨d.toNat, by omega⟩
  have e : ((d.toNat : Nat) : Int) = d := by omega
  simp only [e] at this
  rw [← this]
  have e2 : d.toNat + 1 - d.toNat = 1 := by omega
  rw [e2]
  rfl

end Go.Proofs.Ytoeaiifmablbnaa.Pu
