/- impl.Encode, out of punycode.encode. -/
import Derived.Test.YtoeaiifmablbnaaEw
namespace Go.Proofs.Ytoeaiifmablbnaa
open Go.RowKit

set_option maxHeartbeats 400000 in
theorem Encode24_any (p S : ByteArray) (l : List Int) (w : World) (hp : p.size ≤ 140737488351232) (hS : Pu.bl S = Pu.utf l) (hl : l.length ≤ 1001) (hok : ∀ c ∈ l, Pu.okc c ∧ c ≠ 65533) :
    Calls Try.prog 24 #[.string p, .string S] w (EncPost p l w) := by
  have H := Lib.hid (encode_any p S l w hp hS hl hok)
  clear hS hok
  go_enter Try.func24, Try.ntmps24
  go_wp2_with fail
  refine H.out.mono ?_
  rintro e w' ⟨rfl, hb⟩
  go_wp2
  go_ret2
  exact ⟨rfl, hb⟩

def ImpPost (p : ByteArray) (l : List Int) (w : World) (e : Ending) (w' : World) : Prop := e = .returned (.tuple #[.string (Pu.bs (Pu.bl p ++ Pu.enc l)), .bool true]) ∧ Below w.heap.size w w'

set_option maxHeartbeats 400000 in
theorem implEncode_any (p S : ByteArray) (l : List Int) (w : World) (hp : p.size ≤ 140737488351232) (hS : Pu.bl S = Pu.utf l) (hl : l.length ≤ 1001) (hok : ∀ c ∈ l, Pu.okc c ∧ c ≠ 65533) :
    Calls Try.prog 17 #[.string p, .string S] w (ImpPost p l w) := by
  have H := Lib.hid (Encode24_any p S l w hp hS hl hok)
  clear hS hok
  go_enter Try.func17, Try.ntmps17
  go_wp2_with fail
  refine H.out.mono ?_
  rintro e w' ⟨rfl, hb⟩
  go_wp2
  go_quiet (fail)
  go_wp2
  go_ret2
  exact ⟨rfl, below_drewN hb _⟩

end Go.Proofs.Ytoeaiifmablbnaa
