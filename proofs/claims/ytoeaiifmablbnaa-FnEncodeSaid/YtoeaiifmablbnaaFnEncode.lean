/- FnEncode: for all prefixes and all texts of UTF-8, the text is encoded as the standard says, behind the prefix. Conditions: none but the form's own. -/
import Derived.Test.YtoeaiifmablbnaaSe
namespace Go.Proofs.Ytoeaiifmablbnaa.fnEncode
open Go.ChangeShapes Go.WideShapes Go.ChangeAt Go.RowKit
open Go.ChangeMaps (open_string shut_string)
set_option linter.unusedVariables false

set_option maxHeartbeats 1000000 in
theorem walk (a0 a1 : ByteArray) (w0 : a0.size ≤ 140737488351232) (w1 : a1.size ≤ 140737488351232) (w : World) :
    Calls Try.prog 5 #[.string a0, .string a1] w fun e w' => e = .returned (.bool true) ∧ Below w.heap.size w w' := by
  go_enter Try.func5, Try.ntmps5
  go_wp2_with fail
  refine (runes_any a1 1000 _ (by omega)).mono ?_
  rintro e w1 ⟨v, rfl, hown, hb1⟩
  obtain ⟨ad, cp, rfl⟩ := own_form hown
  have hcv := own_runes hown
  have hl := runesOf_len a1 1000
  have hok := Lib.hid (runesOf_ok a1 1000)
  generalize RunesOf a1 1000 = l at *
  have hS := Lib.hid (Pu.bl_bs (Pu.utf l))
  generalize Pu.bs (Pu.utf l) = S at *
  go_wp2_with fail
  refine (implEncode_any a0 S l _ w0 hS.out (by omega) hok.out).mono ?_
  rintro e w2 ⟨rfl, hb2⟩
  have hown2 := own_below hown hb2
  have hAB : Pu.bs (Pu.bl a0 ++ Pu.enc l) = a0 ++ Pu.bs (Pu.enc l) := by
    apply Pu.bl_inj; rw [Pu.bl_append, Pu.bl_bs, Pu.bl_bs]
  have hsz : (Pu.bs (Pu.enc l)).size ≤ 2149631133648 := by
    have := Pu.enc_len l (by omega) (okc_le hok.out)
    rw [Pu.bs_size]; omega
  generalize Pu.bs (Pu.bl a0 ++ Pu.enc l) = A at *
  have HAB := Lib.hid hAB
  clear hAB hcv hown
  go_wp2_with fail
  refine (specEncode_any l w.heap.size ad cp _ hown2 (by omega) (fun c hc => (hok.out c hc).1)).mono ?_
  rintro e w3 ⟨rfl, hb3⟩
  generalize Pu.bs (Pu.enc l) = E at *
  go_wp2
  go_ret
  exact ⟨ret_true (by rw [HAB.out]; exact beq_self_eq_true _), below_then (below_then hb1 (Nat.le_refl _) hb2) (Nat.le_refl _) hb3⟩

/-! ### the row's step -/
set_option maxRecDepth 100000 in
theorem lifted (os : Os) (started : os.Started) (H : Type) (enc : TypeId × Value → H) :
    ReturnsInHanded {} Try.checked os 5 .any (Rows.fnEncodeSpec.pre6 enc Try.prog Try.f5 Rows.fnEncodeRow.domain false) (Rows.fnEncodeSpec.post enc Try.prog Try.f5 false true false false) := by
  refine returnsInHanded_of_change_sized (C := Try.checked) Try.own started (by kernel_rfl) Try.func5
    (ChangeSpec.witness6 (enc := enc) (C := Try.checked) false ⟨#[], #[.string ByteArray.empty, .string ByteArray.empty], []⟩ 8 (by kernel_rfl) (by kernel_rfl) (by kernel_rfl) (by kernel_rfl)) ?_
  intro W base args ds gs before hval0 hW hcnd hsz0 _
  have hval : ∀ (j : Nat) t v, Try.f5.params[j]? = some t → args[j]? = some v → Value.okWide Try.prog W .any base t v := hval0
  have hsz : (DataW.weightsEach Try.prog (Try.f5.params.toList ++ Rows.fnEncodeSpec.plain.varTypes Try.prog) (ds ++ gs)).all (· ≤ reachBytes) = true := hsz0
  have hW' := hW
  obtain ⟨p, q, hA0, hV, rfl, hfz, hnd⟩ := hW
  have hA : DataW.TrodAll enc Try.prog W 0 (fun _ => true) true Try.f5.params.toList args.toList ds p := hA0
  rw [Try.params5] at hA hval hsz
  obtain ⟨v0, vs0, d0, ds0, p0, q0, hargs, rfl, rfl, h0, r0⟩ := trodAll_cons hA
  obtain ⟨v1, vs1, d1, ds1, p1, q1, rfl, rfl, rfl, h1, r1⟩ := trodAll_cons r0
  obtain ⟨rfl, rfl, rfl⟩ := trodAll_nil r1
  obtain rfl : args = #[v0, v1] := by cases args; simp_all
  obtain ⟨rfl, rfl⟩ := trodVars_none hV
  obtain ⟨a0, rfl, rfl, rfl, w0⟩ := open_string Try.underlying9 (hval 0 9 v0 rfl rfl) h0
  obtain ⟨a1, rfl, rfl, rfl, w1⟩ := open_string Try.underlying9 (hval 1 9 v1 rfl rfl) h1
  have s0 : a0.size ≤ 140737488351232 := sized_string hsz (j := 0) (t := 9) (bytes := a0.data.toList) rfl rfl
  have s1 : a1.size ≤ 140737488351232 := sized_string hsz (j := 1) (t := 9) (bytes := a1.data.toList) rfl rfl
  clear hA0 hval0 hsz0 hsz
  simp only [List.append_nil] at hW'
  refine (walk a0 a1 s0 s1 W).mono fun e W' ⟨he, hg⟩ => ?_
  subst he
  exact ⟨_, rfl, post_of_below (pa := []) (pv := []) hW' (fun _ _ _ => (trodAll_cons_mk (shut_bool Try.underlying4 _) trodAll_mk0)) (fun sp _ => (trodAll_cons_mk (shut_string Try.underlying9 w0) (trodAll_cons_mk (shut_string Try.underlying9 w1) trodAll_mk0))) (fun _ _ => rfl) rfl
    hg (ok_one (by kernel_rfl) rfl (okWide_bool_mk Try.underlying4 _))⟩

theorem over : Rows.fnEncodeRow.holds Try.pinned (OpenSpec.ofChange Rows.fnEncodeSpec) :=
  OpenClaim.holds_of_wide 5 Try.f5 rfl rfl rfl rfl rfl rfl rfl ⟨rfl, rfl, rfl, rfl, rfl⟩ rfl rfl rfl rfl rfl (by kernel_rfl) Try.func5 (by kernel_rfl)
    (of_decide_eq_true (by kernel_rfl)) (by unfold Func.isWrapper; first | (rw [if_pos (by decide +kernel)]; kernel_rfl) | (rw [if_neg (by decide +kernel)]; exact ⟨rfl, rfl⟩))
    (fun os started H enc _ => lifted os started H enc)

/-- the statement -/
theorem proved : Rows.FnEncodeSaid :=
  over
#print axioms proved
end Go.Proofs.Ytoeaiifmablbnaa.fnEncode
