/- FnApart: for all texts of UTF-8, unlike ones are encoded unlike, and like ones alike. Conditions: none but the form's own. -/
import Derived.Test.YtoeaiifmablbnaaEx
import Derived.Test.YtoeaiifmablbnaaSl
import Derived.Test.YtoeaiifmablbnaaInj
import Derived.Deep.RegionWith
namespace Go.Proofs.Ytoeaiifmablbnaa.fnApart
open Go.ChangeShapes Go.WideShapes Go.ChangeAt Go.RowKit
open Go.ChangeMaps (open_string shut_string)
set_option linter.unusedVariables false

/-- Runes, and what its result gives as a string in every later world -/
theorem runes_kept (s : ByteArray) (w : World) : Calls Try.prog 16 #[.string s, .int .i64 1000] w fun e w' =>
    ∃ ad cp, e = .returned (.slice ad (RunesOf s 1000).length cp) ∧ (∀ W, Below w'.heap.size w' W → (convert 22 9 (.slice ad (RunesOf s 1000).length cp)).run Try.prog W = .ok (.string (Pu.bs (Pu.utf (RunesOf s 1000)))) W) ∧ Below w.heap.size w w' := by
  refine (runes_any s 1000 w (by omega)).mono ?_
  rintro e w' ⟨v, rfl, hown, hb⟩
  obtain ⟨ad, cp, rfl⟩ := own_form hown
  exact ⟨ad, cp, rfl, fun W hW => own_runes (own_below hown hW), hb⟩

theorem two_below {w wa wb : World} (h1 : Below w.drew.heap.size w.drew wa) (h2 : Below wa.heap.size wa wb) : Below w.heap.size w wb :=
  below_then (Below.trans (Below.drew (Below.refl _ w)) h1) (Nat.le_refl _) h2

set_option maxHeartbeats 2000000 in
theorem walk (a0 a1 : ByteArray) (w0 : a0.size ≤ 140737488351232) (w1 : a1.size ≤ 140737488351232) (w : World) :
    Calls Try.prog 4 #[.string a0, .string a1] w fun e w' => e = .returned (.bool true) ∧ Below w.heap.size w w' := by
  have k0 := Lib.hid (runes_kept a0)
  have k1 := Lib.hid (runes_kept a1)
  have hl0 := runesOf_len a0 1000
  have hl1 := runesOf_len a1 1000
  have ok0 := Lib.hid (runesOf_ok a0 1000)
  have ok1 := Lib.hid (runesOf_ok a1 1000)
  generalize RunesOf a0 1000 = l0 at *
  generalize RunesOf a1 1000 = l1 at *
  have hS0 := Lib.hid (Pu.bl_bs (Pu.utf l0))
  have hS1 := Lib.hid (Pu.bl_bs (Pu.utf l1))
  generalize Pu.bs (Pu.utf l0) = S0 at *
  generalize Pu.bs (Pu.utf l1) = S1 at *
  go_enter Try.func4, Try.ntmps4
  go_upto_region 1 with fail
  go_cut [0, 1] (fun s t wr => s = .string S0 ∧ t = .string S1 ∧ Below w.heap.size w wr)
  case first =>
    go_region_with (first
      | (go_at_call_of 16 (Value.string a0); refine (k0.out _).mono ?_; rintro e wa ⟨ad0, cp0, rfl, hcA, hbA⟩; have hcA0 := hcA wa (Below.refl _ _); have HcA := Lib.hid hcA; clear hcA; try (have hcBA := HcB.out wa (hbA.mono (Nat.le_refl _))))
      | (go_at_call_of 16 (Value.string a1); refine (k1.out _).mono ?_; rintro e wb ⟨ad1, cp1, rfl, hcB, hbB⟩; have hcB0 := hcB wb (Below.refl _ _); have HcB := Lib.hid hcB; clear hcB; try (have hcAB := HcA.out wb (hbB.mono (Nat.le_refl _)))))
    all_goals go_wp2_with fail
    all_goals go_meet
    all_goals refine ⟨rfl, rfl, ?_⟩
    all_goals first | exact two_below hbA hbB | exact two_below hbB hbA
  case rest =>
    obtain ⟨rfl, rfl, hb0⟩ := hcut
    go_wp2_with fail
    refine (implEncode_any ⟨#[]⟩ S0 l0 _ (by show 0 ≤ _; omega) hS0.out (by omega) ok0.out).mono ?_
    rintro e w2 ⟨rfl, hb2⟩
    go_wp2_with fail
    refine (implEncode_any ⟨#[]⟩ S1 l1 _ (by show 0 ≤ _; omega) hS1.out (by omega) ok1.out).mono ?_
    rintro e w3 ⟨rfl, hb3⟩
    have hb4 := below_then (below_then hb0 (Nat.le_refl _) hb2) (Nat.le_refl _) hb3
    have hE0 := Lib.hid (show Pu.bl (Pu.bs (Pu.bl ⟨#[]⟩ ++ Pu.enc l0)) = Pu.enc l0 by rw [Pu.bl_bs, Pu.bl_nil, List.nil_append])
    have hE1 := Lib.hid (show Pu.bl (Pu.bs (Pu.bl ⟨#[]⟩ ++ Pu.enc l1)) = Pu.enc l1 by rw [Pu.bl_bs, Pu.bl_nil, List.nil_append])
    generalize Pu.bs (Pu.bl ⟨#[]⟩ ++ Pu.enc l0) = E0 at *
    generalize Pu.bs (Pu.bl ⟨#[]⟩ ++ Pu.enc l1) = E1 at *
    have hiff : Hid ((E0.toList == E1.toList) = (S0.toList == S1.toList)) := by
      show _ = _
      rw [Bool.eq_iff_iff, beq_iff_eq, beq_iff_eq, ByteArray.toList_eq, ByteArray.toList_eq, ByteArray.toList_eq, ByteArray.toList_eq]
      show Pu.bl E0 = Pu.bl E1 ↔ Pu.bl S0 = Pu.bl S1
      rw [hE0.out, hE1.out, hS0.out, hS1.out]
      constructor
      · intro h; rw [Pu.enc_inj l0 l1 (by omega) (by omega) (fun c hc => (ok0.out c hc).1) (fun c hc => (ok1.out c hc).1) h]
      · intro h; rw [Pu.utf_inj l0 l1 (fun c hc => (ok0.out c hc).1) (fun c hc => (ok1.out c hc).1) h]
    go_wp2
    go_ret
    exact ⟨ret_true (by rw [hiff.out]; simp), hb4⟩
/-! ### the row's step -/
set_option maxRecDepth 100000 in
theorem lifted (os : Os) (started : os.Started) (H : Type) (enc : TypeId × Value → H) :
    ReturnsInHanded {} Try.checked os 4 .any (Rows.fnApartSpec.pre6 enc Try.prog Try.f4 Rows.fnApartRow.domain false) (Rows.fnApartSpec.post enc Try.prog Try.f4 false true false false) := by
  refine returnsInHanded_of_change_sized (C := Try.checked) Try.own started (by kernel_rfl) Try.func4
    (ChangeSpec.witness6 (enc := enc) (C := Try.checked) false ⟨#[], #[.string ByteArray.empty, .string ByteArray.empty], []⟩ 8 (by kernel_rfl) (by kernel_rfl) (by kernel_rfl) (by kernel_rfl)) ?_
  intro W base args ds gs before hval0 hW hcnd hsz0 _
  have hval : ∀ (j : Nat) t v, Try.f4.params[j]? = some t → args[j]? = some v → Value.okWide Try.prog W .any base t v := hval0
  have hsz : (DataW.weightsEach Try.prog (Try.f4.params.toList ++ Rows.fnApartSpec.plain.varTypes Try.prog) (ds ++ gs)).all (· ≤ reachBytes) = true := hsz0
  have hW' := hW
  obtain ⟨p, q, hA0, hV, rfl, hfz, hnd⟩ := hW
  have hA : DataW.TrodAll enc Try.prog W 0 (fun _ => true) true Try.f4.params.toList args.toList ds p := hA0
  rw [Try.params4] at hA hval hsz
  obtain ⟨v0, vs0, d0, ds0, p0, q0, hargs, rfl, rfl, h0, r0⟩ := trodAll_cons hA
  obtain ⟨v1, vs1, d1, ds1, p1, q1, rfl, rfl, rfl, h1, r1⟩ := trodAll_cons r0
  obtain ⟨rfl, rfl, rfl⟩ := trodAll_nil r1
  obtain rfl : args = #[v0, v1] := by cases args; simp_all
  obtain ⟨rfl, rfl⟩ := trodVars_none hV
  obtain ⟨a0, rfl, rfl, rfl, w0⟩ := open_string Try.underlying9 (hval 0 9 v0 rfl rfl) h0
  obtain ⟨a1, rfl, rfl, rfl, w1⟩ := open_string Try.underlying9 (hval 1 9 v1 rfl rfl) h1
  have s0 : a0.size ≤ 140737488351232 := sized_string hsz (j := 0) (t := 9) (bytes := a0.data.toList) rfl rfl
  have s1 : a1.size ≤ 140737488351232 := sized_string hsz (j := 1) (t := 9) (bytes := a1.data.toList) rfl rfl
  clear hA0 hval0 hsz0 hsz
  simp only [List.append_nil] at hW'
  refine (walk a0 a1 s0 s1 W).mono fun e W' ⟨he, hg⟩ => ?_
  subst he
  exact ⟨_, rfl, post_of_below (pa := []) (pv := []) hW' (fun _ _ _ => (trodAll_cons_mk (shut_bool Try.underlying4 _) trodAll_mk0)) (fun sp _ => (trodAll_cons_mk (shut_string Try.underlying9 w0) (trodAll_cons_mk (shut_string Try.underlying9 w1) trodAll_mk0))) (fun _ _ => rfl) rfl
    hg (ok_one (by kernel_rfl) rfl (okWide_bool_mk Try.underlying4 _))⟩

theorem over : Rows.fnApartRow.holds Try.pinned (OpenSpec.ofChange Rows.fnApartSpec) :=
  OpenClaim.holds_of_wide 4 Try.f4 rfl rfl rfl rfl rfl rfl rfl ⟨rfl, rfl, rfl, rfl, rfl⟩ rfl rfl rfl rfl rfl (by kernel_rfl) Try.func4 (by kernel_rfl)
    (of_decide_eq_true (by kernel_rfl)) (by unfold Func.isWrapper; first | (rw [if_pos (by decide +kernel)]; kernel_rfl) | (rw [if_neg (by decide +kernel)]; exact ⟨rfl, rfl⟩))
    (fun os started H enc _ => lifted os started H enc)

/-- the statement -/
theorem proved : Rows.FnApartSaid :=
  over
#print axioms proved
end Go.Proofs.Ytoeaiifmablbnaa.fnApart
