/- FnASCII: for all texts of ASCII, encoded they are as they are, and a hyphen behind, if there are any. Conditions: none but the form's own. -/
import Derived.Test.YtoeaiifmablbnaaPl
namespace Go.Proofs.Ytoeaiifmablbnaa.fnASCII
open Go.ChangeShapes Go.WideShapes Go.ChangeAt Go.RowKit
open Go.ChangeMaps (open_string shut_string)
set_option linter.unusedVariables false

theorem hxa : (⟨#[120]⟩ : ByteArray) ++ ⟨#[97, 45]⟩ = ⟨#[120, 97, 45]⟩ := by apply Pu.bl_inj; rw [Pu.bl_append]; rfl

set_option maxRecDepth 100000 in
set_option maxHeartbeats 1000000 in
theorem walk (a0 : ByteArray) (w0 : a0.size ≤ 140737488351232) (w : World) :
    Calls Try.prog 11 #[.string a0] w fun e w' => e = .returned (.bool true) ∧ Below w.heap.size w w' := by
  go_enter Try.func11, Try.ntmps11
  go_wp2_with fail
  refine (plain_any a0 1000 _ w0 (by omega)).mono ?_
  rintro e w1 ⟨T, rfl, hT, hz, rfl⟩
  obtain ⟨hu, hok, hl⟩ := asc_code hT
  have hrng := Pu.cps_rng hT
  have hen : Pu.enc (Pu.cps (Pu.bl T)) = Pu.fr (Pu.cps (Pu.bl T)) := Pu.enc_ascii_only _ hrng
  have hdc := Pu.dc_fr _ hrng
  have hmb := Pu.map_byteOf_cps (Pu.bl T)
  generalize Pu.cps (Pu.bl T) = l at *
  have hW : ∃ W : ByteArray, Pu.bl W = Pu.fr l := ⟨Pu.bs (Pu.fr l), Pu.bl_bs _⟩
  obtain ⟨W, hW⟩ := hW
  have hWz : W.size ≤ 1001 := by
    rw [Pu.bl_size, hW]; unfold Pu.fr; split <;> simp <;> omega
  have henc := Lib.hid (fun w => encode_plain T l w hu (by omega) hok)
  rw [hen] at henc
  rw [show Pu.bs (Pu.fr l) = W from (Pu.eq_bs hW).symm] at henc
  have hdec := Lib.hid (fun w => implDecode_yes W l w (by omega) (by
    rw [hW]; unfold Pu.fr
    intro c hc
    rcases List.mem_append.1 hc with hc | hc
    · rw [hmb] at hc; exact hT c hc
    · split at hc
      · simp at hc
      · simp at hc; subst hc; decide) (by rw [hW]; exact hdc))
  rw [show Pu.bs (Pu.utf l) = T from (Pu.eq_bs hu).symm] at hdec
  have hcase : Hid ((T.toList.isEmpty = true ∧ W = T) ∨ (T.toList.isEmpty = false ∧ W = T ++ ⟨#[45]⟩)) := by
    show _ ∨ _
    rw [ByteArray.toList_eq]
    by_cases h0 : l.length = 0
    · left
      have : Pu.bl T = [] := by apply List.eq_nil_of_length_eq_zero; rw [← Pu.bl_size]; omega
      refine ⟨by show (Pu.bl T).isEmpty = true; rw [this]; rfl, ?_⟩
      apply Pu.bl_inj; rw [hW, Pu.fr_none h0, this]
    · right
      refine ⟨?_, ?_⟩
      · show (Pu.bl T).isEmpty = false
        cases h : Pu.bl T with
        | nil => rw [Pu.bl_size, h, List.length_nil] at hl; omega
        | cons a b => rfl
      · apply Pu.bl_inj; rw [hW, Pu.fr_some h0, hmb, Pu.bl_append]; rfl
  clear hu hok hen hdc hmb hW hrng hT hl
  rcases hcase.out with ⟨h1, rfl⟩ | ⟨h1, hWT⟩
  · go_wp2_with fail
    refine (henc.out _).mono ?_
    rintro e w2 ⟨rfl, hb2⟩
    go_wp2_with fail
    refine (hdec.out _).mono ?_
    rintro e w3 ⟨rfl, hb3⟩
    go_wp2_with fail
    refine (encode_a ⟨#[120]⟩ _ (by show 1 ≤ _; omega)).mono ?_
    rintro e w4 ⟨rfl, hb4⟩
    rw [hxa]
    go_wp2
    go_ret
    exact ⟨rfl, below_then (below_then hb2 (Nat.le_refl _) hb3) (Nat.le_refl _) hb4⟩
  · have HWT := Lib.hid hWT
    clear hWT hcase
    go_upto_region 5 with fail
    rw [← HWT.out]
    go_wp2_with fail
    refine (henc.out _).mono ?_
    rintro e w2 ⟨rfl, hb2⟩
    go_wp2_with fail
    refine (hdec.out _).mono ?_
    rintro e w3 ⟨rfl, hb3⟩
    go_wp2_with fail
    refine (encode_a ⟨#[120]⟩ _ (by show 1 ≤ _; omega)).mono ?_
    rintro e w4 ⟨rfl, hb4⟩
    rw [hxa]
    go_wp2
    go_ret
    exact ⟨rfl, below_then (below_then hb2 (Nat.le_refl _) hb3) (Nat.le_refl _) hb4⟩

/-! ### the row's step -/
set_option maxRecDepth 100000 in
theorem lifted (os : Os) (started : os.Started) (H : Type) (enc : TypeId × Value → H) :
    ReturnsInHanded {} Try.checked os 11 .any (Rows.fnASCIISpec.pre6 enc Try.prog Try.f11 Rows.fnASCIIRow.domain false) (Rows.fnASCIISpec.post enc Try.prog Try.f11 false true false false) := by
  refine returnsInHanded_of_change_sized (C := Try.checked) Try.own started (by kernel_rfl) Try.func11
    (ChangeSpec.witness6 (enc := enc) (C := Try.checked) false ⟨#[], #[.string ByteArray.empty], []⟩ 8 (by kernel_rfl) (by kernel_rfl) (by kernel_rfl) (by kernel_rfl)) ?_
  intro W base args ds gs before hval0 hW hcnd hsz0 _
  have hval : ∀ (j : Nat) t v, Try.f11.params[j]? = some t → args[j]? = some v → Value.okWide Try.prog W .any base t v := hval0
  have hsz : (DataW.weightsEach Try.prog (Try.f11.params.toList ++ Rows.fnASCIISpec.plain.varTypes Try.prog) (ds ++ gs)).all (· ≤ reachBytes) = true := hsz0
  have hW' := hW
  obtain ⟨p, q, hA0, hV, rfl, hfz, hnd⟩ := hW
  have hA : DataW.TrodAll enc Try.prog W 0 (fun _ => true) true Try.f11.params.toList args.toList ds p := hA0
  rw [Try.params11] at hA hval hsz
  obtain ⟨v0, vs0, d0, ds0, p0, q0, hargs, rfl, rfl, h0, r0⟩ := trodAll_cons hA
  obtain ⟨rfl, rfl, rfl⟩ := trodAll_nil r0
  obtain rfl : args = #[v0] := by cases args; simp_all
  obtain ⟨rfl, rfl⟩ := trodVars_none hV
  obtain ⟨a0, rfl, rfl, rfl, w0⟩ := open_string Try.underlying9 (hval 0 9 v0 rfl rfl) h0
  have s0 : a0.size ≤ 140737488351232 := sized_string hsz (j := 0) (t := 9) (bytes := a0.data.toList) rfl rfl
  clear hA0 hval0 hsz0 hsz
  simp only [List.append_nil] at hW'
  refine (walk a0 s0 W).mono fun e W' ⟨he, hg⟩ => ?_
  subst he
  exact ⟨_, rfl, post_of_below (pa := []) (pv := []) hW' (fun _ _ _ => (trodAll_cons_mk (shut_bool Try.underlying4 _) trodAll_mk0)) (fun sp _ => (trodAll_cons_mk (shut_string Try.underlying9 w0) trodAll_mk0)) (fun _ _ => rfl) rfl
    hg (ok_one (by kernel_rfl) rfl (okWide_bool_mk Try.underlying4 _))⟩

theorem over : Rows.fnASCIIRow.holds Try.pinned (OpenSpec.ofChange Rows.fnASCIISpec) :=
  OpenClaim.holds_of_wide 11 Try.f11 rfl rfl rfl rfl rfl rfl rfl ⟨rfl, rfl, rfl, rfl, rfl⟩ rfl rfl rfl rfl rfl (by kernel_rfl) Try.func11 (by kernel_rfl)
    (of_decide_eq_true (by kernel_rfl)) (by unfold Func.isWrapper; first | (rw [if_pos (by decide +kernel)]; kernel_rfl) | (rw [if_neg (by decide +kernel)]; exact ⟨rfl, rfl⟩))
    (fun os started H enc _ => lifted os started H enc)

/-- the statement -/
theorem proved : Rows.FnASCIISaid :=
  over
#print axioms proved
end Go.Proofs.Ytoeaiifmablbnaa.fnASCII
