/- FnDecode: for all texts of ASCII, Punycode is decoded as the standard says, and an error is told for what is none. Conditions: none but the form's own. -/
import Derived.Test.YtoeaiifmablbnaaSd
namespace Go.Proofs.Ytoeaiifmablbnaa.fnDecode
open Go.ChangeShapes Go.WideShapes Go.ChangeAt Go.RowKit
open Go.ChangeMaps (open_string shut_string)
set_option linter.unusedVariables false

set_option maxRecDepth 100000 in
set_option maxHeartbeats 1000000 in
theorem walk (a0 : ByteArray) (w0 : a0.size ≤ 140737488351232) (w : World) :
    Calls Try.prog 8 #[.string a0] w fun e w' => e = .returned (.bool true) ∧ Below w.heap.size w w' := by
  go_enter Try.func8, Try.ntmps8
  go_wp2_with fail
  refine (plain_any a0 1000 _ w0 (by omega)).mono ?_
  rintro e w1 ⟨T, rfl, hT, hz, rfl⟩
  have hsp := Lib.hid (fun w => specDecode_any T w (by omega) hT)
  have hid := Lib.hid (fun w => implDecode_any T w (by omega) hT)
  obtain ⟨hy, hn⟩ := Pu.sp_dc (Pu.bl T) hT (by rw [← Pu.bl_size]; omega)
  obtain ⟨R, hR⟩ : ∃ R, Pu.sp (Pu.bl T) = R := ⟨_, rfl⟩
  obtain ⟨D, hD⟩ : ∃ D, Pu.dc (Pu.bl T) = D := ⟨_, rfl⟩
  rw [hR] at hsp hy hn
  rw [hD] at hid hy hn
  have Hy := Lib.hid hy
  have Hn := Lib.hid hn
  clear hy hn hR hD hT
  go_wp2_with fail
  refine (hsp.out _).mono ?_
  rintro e w2 ⟨ad, cp, rfl, hown, hb2⟩
  go_wp2_with fail
  refine (hid.out _).mono ?_
  rintro e w3 ⟨hcase, hb3⟩
  have hcv := own_runes (own_below hown hb3)
  have hb23 : Below w.heap.size w w3 := below_then hb2 (Nat.le_refl _) hb3
  by_cases h1 : R.1 = 1
  · have hd := Hy.out R.2 (Prod.ext h1 rfl)
    rcases hcase with ⟨l, e1, rfl⟩ | ⟨e1, _⟩
    · rw [hd] at e1
      obtain rfl := Option.some.inj e1
      have hb : (R.1 == 1) = true := beq_iff_eq.2 h1
      clear h1 e1 hd hcv
      go_wp2_with fail
      refine (decode_a _).mono ?_
      rintro e w4 ⟨rfl, hb4⟩
      have hcv := own_runes (own_below (own_below hown hb3) hb4)
      generalize Pu.bs (Pu.utf R.2) = S at *
      go_wp2
      go_ret
      exact ⟨rfl, below_then hb23 (Nat.le_refl _) hb4⟩
    · rw [hd] at e1; cases e1
  · have hb : (R.1 == 1) = false := beq_eq_false_iff_ne.2 h1
    by_cases h2 : R.1 = 2
    · have hd := Hn.out h2
      rcases hcase with ⟨l, e1, rfl⟩ | ⟨e1, rfl⟩
      · rw [hd] at e1; cases e1
      · have hb' : (R.1 == 2) = true := beq_iff_eq.2 h2
        clear h1 h2 e1 hd hcv
        go_wp2_with fail
        refine (decode_a _).mono ?_
        rintro e w4 ⟨rfl, hb4⟩
        go_wp2
        go_ret
        exact ⟨rfl, below_then hb23 (Nat.le_refl _) hb4⟩
    · have hb' : (R.1 == 2) = false := beq_eq_false_iff_ne.2 h2
      clear h1 h2 hcv
      rcases hcase with ⟨l, e1, rfl⟩ | ⟨e1, rfl⟩
      all_goals
        clear e1
        go_wp2_with fail
        refine (decode_a _).mono ?_
        rintro e w4 ⟨rfl, hb4⟩
        go_wp2
        go_ret
        exact ⟨rfl, below_then hb23 (Nat.le_refl _) hb4⟩

/-! ### the row's step -/
set_option maxRecDepth 100000 in
theorem lifted (os : Os) (started : os.Started) (H : Type) (enc : TypeId × Value → H) :
    ReturnsInHanded {} Try.checked os 8 .any (Rows.fnDecodeSpec.pre6 enc Try.prog Try.f8 Rows.fnDecodeRow.domain false) (Rows.fnDecodeSpec.post enc Try.prog Try.f8 false true false false) := by
  refine returnsInHanded_of_change_sized (C := Try.checked) Try.own started (by kernel_rfl) Try.func8
    (ChangeSpec.witness6 (enc := enc) (C := Try.checked) false ⟨#[], #[.string ByteArray.empty], []⟩ 8 (by kernel_rfl) (by kernel_rfl) (by kernel_rfl) (by kernel_rfl)) ?_
  intro W base args ds gs before hval0 hW hcnd hsz0 _
  have hval : ∀ (j : Nat) t v, Try.f8.params[j]? = some t → args[j]? = some v → Value.okWide Try.prog W .any base t v := hval0
  have hsz : (DataW.weightsEach Try.prog (Try.f8.params.toList ++ Rows.fnDecodeSpec.plain.varTypes Try.prog) (ds ++ gs)).all (· ≤ reachBytes) = true := hsz0
  have hW' := hW
  obtain ⟨p, q, hA0, hV, rfl, hfz, hnd⟩ := hW
  have hA : DataW.TrodAll enc Try.prog W 0 (fun _ => true) true Try.f8.params.toList args.toList ds p := hA0
  rw [Try.params8] at hA hval hsz
  obtain ⟨v0, vs0, d0, ds0, p0, q0, hargs, rfl, rfl, h0, r0⟩ := trodAll_cons hA
  obtain ⟨rfl, rfl, rfl⟩ := trodAll_nil r0
  obtain rfl : args = #[v0] := by cases args; simp_all
  obtain ⟨rfl, rfl⟩ := trodVars_none hV
  obtain ⟨a0, rfl, rfl, rfl, w0⟩ := open_string Try.underlying9 (hval 0 9 v0 rfl rfl) h0
  have s0 : a0.size ≤ 140737488351232 := sized_string hsz (j := 0) (t := 9) (bytes := a0.data.toList) rfl rfl
  clear hA0 hval0 hsz0 hsz
  simp only [List.append_nil] at hW'
  refine (walk a0 s0 W).mono fun e W' ⟨he, hg⟩ => ?_
  subst he
  exact ⟨_, rfl, post_of_below (pa := []) (pv := []) hW' (fun _ _ _ => (trodAll_cons_mk (shut_bool Try.underlying4 _) trodAll_mk0)) (fun sp _ => (trodAll_cons_mk (shut_string Try.underlying9 w0) trodAll_mk0)) (fun _ _ => rfl) rfl
    hg (ok_one (by kernel_rfl) rfl (okWide_bool_mk Try.underlying4 _))⟩

theorem over : Rows.fnDecodeRow.holds Try.pinned (OpenSpec.ofChange Rows.fnDecodeSpec) :=
  OpenClaim.holds_of_wide 8 Try.f8 rfl rfl rfl rfl rfl rfl rfl ⟨rfl, rfl, rfl, rfl, rfl⟩ rfl rfl rfl rfl rfl (by kernel_rfl) Try.func8 (by kernel_rfl)
    (of_decide_eq_true (by kernel_rfl)) (by unfold Func.isWrapper; first | (rw [if_pos (by decide +kernel)]; kernel_rfl) | (rw [if_neg (by decide +kernel)]; exact ⟨rfl, rfl⟩))
    (fun os started H enc _ => lifted os started H enc)

/-- the statement -/
theorem proved : Rows.FnDecodeSaid :=
  over
#print axioms proved
end Go.Proofs.Ytoeaiifmablbnaa.fnDecode
