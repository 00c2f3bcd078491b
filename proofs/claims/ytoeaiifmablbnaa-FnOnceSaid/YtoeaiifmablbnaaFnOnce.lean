/- FnOnce: for all texts of ASCII that are Punycode (not of U+FFFD), what they stand for is encoded to them, with small letters behind the last hyphen. Conditions: none but the form's own. -/
import Derived.Test.YtoeaiifmablbnaaSd
import Derived.Test.YtoeaiifmablbnaaRu
namespace Go.Proofs.Ytoeaiifmablbnaa.fnOnce
open Go.ChangeShapes Go.WideShapes Go.ChangeAt Go.RowKit
open Go.ChangeMaps (open_string shut_string)
set_option linter.unusedVariables false

/-- a text that is decoded to l and encoded again to itself, with small letters -/
structure Good (T : ByteArray) (l : List Int) : Prop where
  asc : ∀ c ∈ Pu.bl T, c.toNat < 128
  size : T.size ≤ 300
  dec : Pu.dc (Pu.bl T) = some l
  ok : ∀ c ∈ l, Pu.okc c ∧ c ≠ 65533
  len : l.length ≤ 1001
  low : Pu.enc l = lowered T

theorem good_a : Good ⟨#[97, 45]⟩ [97] where
  asc := by decide
  size := by decide
  dec := Pu.dc_fr [97] (by simp)
  ok := by simp [Pu.okc]
  len := by simp
  low := by rw [enc_97]; decide

theorem take_mid (x r : List UInt8) : (x ++ 45 :: r).take (x.length + 1) = x ++ [45] := by
  rw [List.take_append, show x.length + 1 - x.length = 1 by omega, List.take_of_length_le (by omega)]
  rfl

theorem good_of {T : ByteArray} {l : List Int} (hT : ∀ c ∈ Pu.bl T, c.toNat < 128) (hz : T.size ≤ 300) (h : Pu.sp (Pu.bl T) = (1, l)) (hl : ∀ c ∈ l, c ≠ 65533) : Good T l := by
  have hlen : T.size = (Pu.bl T).length := Pu.bl_size T
  have hr := Pu.hyp_rng (Pu.bl T) T.size
  have hdc := (Pu.sp_dc (Pu.bl T) hT (by omega)).1 l h
  have key : (∀ c ∈ l, Pu.okc c) ∧ l.length ≤ 301 ∧ Pu.enc l = lowered T := by
    unfold Pu.sp at h
    unfold lowered backOf
    rw [← hlen] at h
    by_cases hh : 0 < Pu.hyp (Pu.bl T) T.size
    · rw [if_pos hh] at h
      rw [if_pos hh]
      obtain ⟨p, hp⟩ : ∃ p : Nat, Pu.hyp (Pu.bl T) T.size = p := ⟨(Pu.hyp (Pu.bl T) T.size).toNat, by omega⟩
      rw [hp] at h hh hr ⊢
      rw [show ((p : Int) + 1).toNat = p + 1 by omega, Int.toNat_natCast] at h
      rw [Int.toNat_natCast, Pu.bl_bs, Pu.bs_size, List.length_drop]
      obtain ⟨r, e1, e2, e3⟩ := Pu.hyp_is (Pu.bl T) p (by rw [← hlen]; exact hp)
      have htl : ((Pu.bl T).take p).length = p := by rw [List.length_take]; omega
      obtain ⟨k1, k2, k3, k4⟩ := Pu.dec_enc _ _ l (Pu.cps_rng (fun c hc => hT c (List.mem_of_mem_take hc))) (by rw [Pu.cps_len, htl, List.length_drop]; omega) h
      refine ⟨k3, by rw [Pu.cps_len, htl, List.length_drop] at k4; omega, ?_⟩
      rw [k1, Pu.front_fr, k2, Pu.fr_some (by rw [Pu.cps_len, htl]; omega), Pu.map_byteOf_cps]
      congr 1
      rw [show T.size - ((Pu.bl T).length - (p + 1)) = p + 1 by omega]
      have : (Pu.bl T).take (p + 1) = ((Pu.bl T).take p ++ 45 :: r).take (p + 1) := by rw [← e1]
      have hm := take_mid ((Pu.bl T).take p) r
      rw [htl] at hm
      rw [this, hm]
    · rw [if_neg hh] at h
      rw [if_neg hh, Nat.sub_self, List.take_zero, List.nil_append]
      obtain ⟨k1, k2, k3, k4⟩ := Pu.dec_enc [] (Pu.bl T) l (by simp) (by simp; omega) h
      refine ⟨k3, by simp at k4; omega, ?_⟩
      rw [k1, Pu.front_fr, k2, Pu.fr_none rfl, List.nil_append]
  exact ⟨hT, hz, hdc, fun c hc => ⟨key.1 c hc, hl c hc⟩, by omega, key.2.2⟩

theorem all_in {S : ByteArray} {l : List Int} (hS : Pu.bl S = Pu.utf l) (hok : ∀ c ∈ l, Pu.okc c) (h : ¬ (RunesOf S 1000).length < l.length) : ∀ c ∈ l, c ≠ 65533 := by
  rw [runesOf_utf S l 1000 hS hok, List.length_take] at h
  have h2 := List.length_filter_le (fun c : Int => decide (c ≠ 65533)) l
  have h3 : (l.filter (fun c : Int => decide (c ≠ 65533))).length = l.length := by omega
  intro c hc
  have := List.length_filter_eq_length_iff.1 h3 c hc
  simpa using this

theorem sp_okc {T : ByteArray} {l : List Int} (hT : ∀ c ∈ Pu.bl T, c.toNat < 128) (hz : T.size ≤ 300) (h : Pu.sp (Pu.bl T) = (1, l)) : ∀ c ∈ l, Pu.okc c := by
  unfold Pu.sp at h
  have hlen : T.size = (Pu.bl T).length := Pu.bl_size T
  split at h
  · exact (Pu.dec_enc _ _ l (Pu.cps_rng (fun c hc => hT c (List.mem_of_mem_take hc))) (by rw [Pu.cps_len, List.length_take, List.length_drop]; omega) h).2.2.1
  · exact (Pu.dec_enc [] (Pu.bl T) l (by simp) (by simp; omega) h).2.2.1

set_option maxRecDepth 100000 in
set_option maxHeartbeats 1000000 in
theorem walk (a0 : ByteArray) (w0 : a0.size ≤ 140737488351232) (w : World) :
    Calls Try.prog 13 #[.string a0] w fun e w' => e = .returned (.bool true) ∧ Below w.heap.size w w' := by
  go_enter Try.func13, Try.ntmps13
  go_wp2_with fail
  refine (plain_any a0 300 _ w0 (by omega)).mono ?_
  rintro e w1 ⟨T, rfl, hT, hz, rfl⟩
  have hsp := Lib.hid (fun w => specDecode_any T w (by omega) hT)
  have hgo := Lib.hid (fun l (h : Pu.sp (Pu.bl T) = (1, l)) (hl : ∀ c ∈ l, c ≠ 65533) => good_of hT hz h hl)
  have hok := Lib.hid (fun l (h : Pu.sp (Pu.bl T) = (1, l)) => sp_okc hT hz h)
  obtain ⟨R, hR⟩ : ∃ R, Pu.sp (Pu.bl T) = R := ⟨_, rfl⟩
  rw [hR] at hsp hgo hok
  clear hR hT
  go_wp2_with fail
  refine (hsp.out _).mono ?_
  rintro e w2 ⟨ad, cp, rfl, hown, hb2⟩
  have hcv := own_runes hown
  have hS := Lib.hid (Pu.bl_bs (Pu.utf R.2))
  generalize Pu.bs (Pu.utf R.2) = S at *
  have hRl : R.2.length ≤ 9223372036854775807 := by
    rcases hown.2 with ⟨_, h0⟩ | ⟨g, cap, cur, _, _, _, h1, h2, _⟩
    · omega
    · unfold maxLen at h2; omega
  go_upto_region 3 with fail
  go_cut [26] (fun t wr => (t = .bool true ∨ (t = .bool false ∧ Good T R.2)) ∧ Below w.heap.size w wr)
  case first =>
    by_cases h1 : R.1 = 1
    · have hb : (R.1 != 1) = false := by simp [h1]
      have HR := Lib.hid (show R = (1, R.2) from Prod.ext h1 rfl)
      clear h1
      go_wp2_with fail
      refine (runes_any S 1000 _ (by omega)).mono ?_
      rintro e w3 ⟨v, rfl, hown3, hb3⟩
      obtain ⟨ad3, cp3, rfl⟩ := own_form hown3
      have hrl := runesOf_len S 1000
      have hall := Lib.hid (fun (h : ¬ (RunesOf S 1000).length < R.2.length) => all_in hS.out (hok.out R.2 HR.out) h)
      obtain ⟨L, hL⟩ : ∃ L, (RunesOf S 1000).length = L := ⟨_, rfl⟩
      rw [hL] at hall hrl ⊢
      clear hL hown3
      by_cases hlt : L < R.2.length
      · have hd : decide (L < R.2.length) = true := decide_eq_true hlt
        go_wp2
        go_meet
        exact ⟨.inl rfl, below_then hb2 (Nat.le_refl _) hb3⟩
      · have hd : decide (L < R.2.length) = false := decide_eq_false hlt
        have hg := Lib.hid (hgo.out R.2 HR.out (hall.out hlt))
        go_wp2
        go_meet
        exact ⟨.inr ⟨rfl, hg.out⟩, below_then hb2 (Nat.le_refl _) hb3⟩
    · have hb : (R.1 != 1) = true := by rw [bne_iff_ne]; exact h1
      clear h1
      go_wp2
      go_meet
      exact ⟨.inl rfl, hb2⟩
  case rest =>
    obtain ⟨ht, hbw⟩ := hcut
    clear hcv hb2 hown hS hgo hok hsp hRl
    go_upto_if 26 with fail
    go_cut [0] (fun s wr => ∃ (T' : ByteArray) (l : List Int), s = .string T' ∧ Good T' l ∧ Below w.heap.size w wr)
    case first =>
      rcases ht with rfl | ⟨rfl, hg⟩
      · go_wp2
        go_meet
        exact ⟨_, [97], rfl, good_a, hbw⟩
      · have Hg := Lib.hid hg
        clear hg
        go_wp2
        go_meet
        exact ⟨T, R.2, rfl, Hg.out, hbw⟩
    case rest =>
      clear hbw ht
      obtain ⟨T', l, rfl, hg, hbw⟩ := hcut
      have hdec := Lib.hid (fun w => implDecode_yes T' l w (by have := hg.size; omega) hg.asc hg.dec)
      have henc := Lib.hid (fun S w (hS : Pu.bl S = Pu.utf l) => encode_plain S l w hS hg.len hg.ok)
      have hlow := Lib.hid (fun w => lowered_any T' w (by have := hg.size; omega))
      rw [hg.low] at henc
      clear hg
      have hS := Lib.hid (Pu.bl_bs (Pu.utf l))
      generalize Pu.bs (lowered T') = E at *
      go_wp2_with fail
      refine (hdec.out _).mono ?_
      rintro e w4 ⟨rfl, hb4⟩
      generalize Pu.bs (Pu.utf l) = S2 at *
      go_wp2_with fail
      refine (henc.out S2 _ hS.out).mono ?_
      rintro e w5 ⟨rfl, hb5⟩
      go_wp2_with fail
      refine (hlow.out _).mono ?_
      rintro e w6 ⟨rfl, hb6⟩
      go_wp2
      go_ret
      exact ⟨rfl, below_then (below_then (below_then hbw (Nat.le_refl _) hb4) (Nat.le_refl _) hb5) (Nat.le_refl _) hb6⟩

/-! ### the row's step -/
set_option maxRecDepth 100000 in
theorem lifted (os : Os) (started : os.Started) (H : Type) (enc : TypeId × Value → H) :
    ReturnsInHanded {} Try.checked os 13 .any (Rows.fnOnceSpec.pre6 enc Try.prog Try.f13 Rows.fnOnceRow.domain false) (Rows.fnOnceSpec.post enc Try.prog Try.f13 false true false false) := by
  refine returnsInHanded_of_change_sized (C := Try.checked) Try.own started (by kernel_rfl) Try.func13
    (ChangeSpec.witness6 (enc := enc) (C := Try.checked) false ⟨#[], #[.string ByteArray.empty], []⟩ 8 (by kernel_rfl) (by kernel_rfl) (by kernel_rfl) (by kernel_rfl)) ?_
  intro W base args ds gs before hval0 hW hcnd hsz0 _
  have hval : ∀ (j : Nat) t v, Try.f13.params[j]? = some t → args[j]? = some v → Value.okWide Try.prog W .any base t v := hval0
  have hsz : (DataW.weightsEach Try.prog (Try.f13.params.toList ++ Rows.fnOnceSpec.plain.varTypes Try.prog) (ds ++ gs)).all (· ≤ reachBytes) = true := hsz0
  have hW' := hW
  obtain ⟨p, q, hA0, hV, rfl, hfz, hnd⟩ := hW
  have hA : DataW.TrodAll enc Try.prog W 0 (fun _ => true) true Try.f13.params.toList args.toList ds p := hA0
  rw [Try.params13] at hA hval hsz
  obtain ⟨v0, vs0, d0, ds0, p0, q0, hargs, rfl, rfl, h0, r0⟩ := trodAll_cons hA
  obtain ⟨rfl, rfl, rfl⟩ := trodAll_nil r0
  obtain rfl : args = #[v0] := by cases args; simp_all
  obtain ⟨rfl, rfl⟩ := trodVars_none hV
  obtain ⟨a0, rfl, rfl, rfl, w0⟩ := open_string Try.underlying9 (hval 0 9 v0 rfl rfl) h0
  have s0 : a0.size ≤ 140737488351232 := sized_string hsz (j := 0) (t := 9) (bytes := a0.data.toList) rfl rfl
  clear hA0 hval0 hsz0 hsz
  simp only [List.append_nil] at hW'
  refine (walk a0 s0 W).mono fun e W' ⟨he, hg⟩ => ?_
  subst he
  exact ⟨_, rfl, post_of_below (pa := []) (pv := []) hW' (fun _ _ _ => (trodAll_cons_mk (shut_bool Try.underlying4 _) trodAll_mk0)) (fun sp _ => (trodAll_cons_mk (shut_string Try.underlying9 w0) trodAll_mk0)) (fun _ _ => rfl) rfl
    hg (ok_one (by kernel_rfl) rfl (okWide_bool_mk Try.underlying4 _))⟩

theorem over : Rows.fnOnceRow.holds Try.pinned (OpenSpec.ofChange Rows.fnOnceSpec) :=
  OpenClaim.holds_of_wide 13 Try.f13 rfl rfl rfl rfl rfl rfl rfl ⟨rfl, rfl, rfl, rfl, rfl⟩ rfl rfl rfl rfl rfl (by kernel_rfl) Try.func13 (by kernel_rfl)
    (of_decide_eq_true (by kernel_rfl)) (by unfold Func.isWrapper; first | (rw [if_pos (by decide +kernel)]; kernel_rfl) | (rw [if_neg (by decide +kernel)]; exact ⟨rfl, rfl⟩))
    (fun os started H enc _ => lifted os started H enc)

/-- the statement -/
theorem proved : Rows.FnOnceSaid :=
  over
#print axioms proved
end Go.Proofs.Ytoeaiifmablbnaa.fnOnce
