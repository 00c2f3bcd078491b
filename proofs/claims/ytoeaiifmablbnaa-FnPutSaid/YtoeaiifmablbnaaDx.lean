/- impl.Decode, out of punycode.decode. -/
import Derived.Test.YtoeaiifmablbnaaDw
namespace Go.Proofs.Ytoeaiifmablbnaa
open Go.RowKit

theorem decode_any (S : ByteArray) (w : World) (hs : S.size ≤ 100000) (hasc : ∀ c ∈ Pu.bl S, c.toNat < 128) : Calls Try.prog 32 #[.string S] w (DwPost (Pu.dc (Pu.bl S)) w) := by
  have hz : S.size = (Pu.bl S).length := Pu.bl_size S
  have hr := Pu.hyp_rng (Pu.bl S) S.size
  by_cases h0 : Pu.bl S = []
  · have : S = ⟨#[]⟩ := by apply Pu.bl_inj; rw [h0]; rfl
    subst this
    exact decode_empty w
  have hpos := List.length_pos_iff.2 h0
  by_cases h1 : Pu.hyp (Pu.bl S) S.size = 0
  · exact decode_bare S w hs h0 h1
  by_cases h2 : Pu.hyp (Pu.bl S) S.size = (S.size : Int) - 1
  · exact decode_front S w hs hasc (by omega) h2
  · exact decode_main S w (Pu.hyp (Pu.bl S) S.size + 1).toNat hs hasc (by omega) (by omega) (by omega)

set_option maxHeartbeats 400000 in
theorem Decode27_any (S : ByteArray) (w : World) (hs : S.size ≤ 100000) (hasc : ∀ c ∈ Pu.bl S, c.toNat < 128) : Calls Try.prog 27 #[.string S] w (DwPost (Pu.dc (Pu.bl S)) w) := by
  have H := Lib.hid (decode_any S w hs hasc)
  clear hasc
  generalize Pu.dc (Pu.bl S) = R at *
  go_enter Try.func27, Try.ntmps27
  go_wp2_with fail
  refine H.out.mono ?_
  rintro e w' ⟨⟨l, hl, rfl⟩ | ⟨hn, p, rfl⟩, hb⟩
  · have Hl := Lib.hid hl
    clear hl
    go_wp2
    go_ret2
    exact ⟨.inl ⟨l, Hl.out, rfl⟩, hb⟩
  · have Hn := Lib.hid hn
    clear hn
    go_wp2
    go_ret2
    exact ⟨.inr ⟨Hn.out, p, rfl⟩, hb⟩

def IdPost (R : Option (List Int)) (w : World) (e : Ending) (w' : World) : Prop :=
  ((∃ l, R = some l ∧ e = .returned (.tuple #[.string (Pu.bs (Pu.utf l)), .bool true])) ∨ (R = none ∧ e = .returned (.tuple #[.string ⟨#[]⟩, .bool false]))) ∧ Below w.heap.size w w'

set_option maxHeartbeats 400000 in
theorem implDecode_any (S : ByteArray) (w : World) (hs : S.size ≤ 100000) (hasc : ∀ c ∈ Pu.bl S, c.toNat < 128) : Calls Try.prog 19 #[.string S] w (IdPost (Pu.dc (Pu.bl S)) w) := by
  have H := Lib.hid (Decode27_any S w hs hasc)
  clear hasc
  generalize Pu.dc (Pu.bl S) = R at *
  go_enter Try.func19, Try.ntmps19
  go_wp2_with fail
  refine H.out.mono ?_
  rintro e w' ⟨⟨l, hl, rfl⟩ | ⟨hn, p, rfl⟩, hb⟩
  · have Hl := Lib.hid hl
    clear hl
    go_wp2
    go_quiet (fail)
    go_wp2
    go_ret2
    exact ⟨.inl ⟨l, Hl.out, rfl⟩, below_drewN hb _⟩
  · have Hn := Lib.hid hn
    clear hn
    go_wp2
    go_quiet (fail)
    go_wp2
    go_ret2
    exact ⟨.inr ⟨Hn.out, rfl⟩, below_drewN hb _⟩

theorem implDecode_yes (S : ByteArray) (l : List Int) (w : World) (hs : S.size ≤ 100000) (hasc : ∀ c ∈ Pu.bl S, c.toNat < 128) (h : Pu.dc (Pu.bl S) = some l) :
    Calls Try.prog 19 #[.string S] w fun e w' => e = .returned (.tuple #[.string (Pu.bs (Pu.utf l)), .bool true]) ∧ Below w.heap.size w w' :=
  (implDecode_any S w hs hasc).mono fun e w' ⟨h1, hb⟩ => by
    rcases h1 with ⟨l', e1, e2⟩ | ⟨e1, _⟩
    · rw [h] at e1
      rw [Option.some.inj e1]
      exact ⟨e2, hb⟩
    · rw [h] at e1; cases e1
theorem implDecode_no (S : ByteArray) (w : World) (hs : S.size ≤ 100000) (hasc : ∀ c ∈ Pu.bl S, c.toNat < 128) (h : Pu.dc (Pu.bl S) = none) :
    Calls Try.prog 19 #[.string S] w fun e w' => e = .returned (.tuple #[.string ⟨#[]⟩, .bool false]) ∧ Below w.heap.size w w' :=
  (implDecode_any S w hs hasc).mono fun e w' ⟨h1, hb⟩ => by
    rcases h1 with ⟨l', e1, e2⟩ | ⟨_, e2⟩
    · rw [h] at e1; cases e1
    · exact ⟨e2, hb⟩

end Go.Proofs.Ytoeaiifmablbnaa
