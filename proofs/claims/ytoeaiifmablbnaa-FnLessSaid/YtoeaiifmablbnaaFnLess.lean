/- FnLess: for all texts of ASCII that have no hyphen but at the beginning, one there is none of Punycode. Conditions: none but the form's own. -/
import Derived.Test.YtoeaiifmablbnaaLx
namespace Go.Proofs.Ytoeaiifmablbnaa.fnLess
open Go.ChangeShapes Go.WideShapes Go.ChangeAt Go.RowKit
open Go.ChangeMaps (open_string shut_string)
set_option linter.unusedVariables false

theorem bl_one (s : ByteArray) (j : Nat) (h : j < s.size) : Pu.bl (s.extract j (j + 1)) = [s[j]] := by
  rw [Pu.bl_extract, show j + 1 - j = 1 by omega]
  have h' : j < (Pu.bl s).length := by rw [← Pu.bl_size]; exact h
  rw [List.drop_eq_getElem_cons h']
  simp only [List.take_succ_cons, List.take_zero]
  congr 1

set_option maxRecDepth 100000 in
set_option maxHeartbeats 1000000 in
theorem walk (a0 : ByteArray) (w0 : a0.size ≤ 140737488351232) (w : World) :
    Calls Try.prog 9 #[.string a0] w fun e w' => e = .returned (.bool true) ∧ Below w.heap.size w w' := by
  go_enter Try.func9, Try.ntmps9
  go_upto_block 0 with fail
  go_cut [3] (fun t wr => ∃ (T : ByteArray) (r : List UInt8), t = .string T ∧ Pu.bl T = 45 :: r ∧ (∀ c ∈ r, c ≠ 45 ∧ c.toNat < 128) ∧ T.size ≤ 1000 ∧ w = wr)
  case first =>
    go_wp2_with fail
    go_loopg [3, 11] a0.size (fun k t i wr => ∃ (j : Nat) (T : ByteArray) (r : List UInt8), t = .string T ∧ i = .int .i64 j ∧ j + k = a0.size ∧ Pu.bl T = 45 :: r ∧ (∀ c ∈ r, c ≠ 45 ∧ c.toNat < 128) ∧ T.size ≤ 1000 ∧ w = wr)
    case atStart => exact ⟨0, _, [], rfl, rfl, by simp, rfl, by simp, by show 1 ≤ 1000; omega, rfl⟩
    case round =>
      obtain ⟨j, T, r, rfl, rfl, hjk, hT, hr, hz, rfl⟩ := hrel
      have Hjk := Lib.hid hjk
      have HT := Lib.hid hT
      have Hr := Lib.hid hr
      have hj : j ≤ a0.size := by omega
      clear hjk hT hr
      by_cases hlt : j < a0.size
      · have hc := Lib.hid (bl_one a0 j hlt)
        have hXz : (a0.extract j (j + 1)).size ≤ 1 := by rw [Pu.bl_size, hc.out]; simp
        by_cases h1 : (a0[j].toNat : Int) = 45
        · have hb : ((a0[j].toNat : Int) != 45) = false := by simp [h1]
          clear h1
          go_wp2
          go_roundg (a0.size - (j + 1))
          case measure => have := Hjk.out; omega
          case rel => exact ⟨j + 1, T, r, rfl, by go_num, by omega, HT.out, Hr.out, hz, rfl⟩
        · have hb : ((a0[j].toNat : Int) != 45) = true := by rw [bne_iff_ne]; exact h1
          have H1 := Lib.hid h1
          clear h1
          by_cases h2 : (a0[j].toNat : Int) < 128
          · by_cases h3 : T.size < 1000
            · go_wp2
              go_roundg (a0.size - (j + 1))
              case measure => have := Hjk.out; omega
              case rel =>
                refine ⟨j + 1, _, r ++ [a0[j]], rfl, by go_num, by omega, ?_, ?_, ?_, rfl⟩
                · rw [Pu.bl_append, HT.out, hc.out]; rfl
                · intro c hc
                  rcases List.mem_append.1 hc with hc | hc
                  · exact Hr.out c hc
                  · simp at hc
                    subst hc
                    exact ⟨fun e => H1.out (by rw [e]; rfl), by omega⟩
                · rw [Pu.bl_size, Pu.bl_append, List.length_append, ← Pu.bl_size, hc.out]; simp; omega
            · go_wp2
              go_roundg (a0.size - (j + 1))
              case measure => have := Hjk.out; omega
              case rel => exact ⟨j + 1, T, r, rfl, by go_num, by omega, HT.out, Hr.out, hz, rfl⟩
          · go_wp2
            go_roundg (a0.size - (j + 1))
            case measure => have := Hjk.out; omega
            case rel => exact ⟨j + 1, T, r, rfl, by go_num, by omega, HT.out, Hr.out, hz, rfl⟩
      · go_wp2
        go_meet
        exact ⟨T, r, rfl, HT.out, Hr.out, hz, rfl⟩
  case rest =>
    obtain ⟨T, r, rfl, hT, hr, hz, rfl⟩ := hcut
    have hno := Lib.hid (implDecode_no T w (by omega) (by rw [hT]; intro c hc; rcases List.mem_cons.1 hc with rfl | hc; exact (by decide); exact (hr c hc).2) (by rw [hT]; exact Pu.dc_bare r (fun c hc => (hr c hc).1)))
    clear hT hr
    go_wp2_with fail
    refine hno.out.mono ?_
    rintro e w1 ⟨rfl, hb1⟩
    go_wp2_with fail
    refine (decode_a _).mono ?_
    rintro e w2 ⟨rfl, hb2⟩
    go_wp2
    go_ret
    exact ⟨rfl, below_then hb1 (Nat.le_refl _) hb2⟩

/-! ### the row's step -/
set_option maxRecDepth 100000 in
theorem lifted (os : Os) (started : os.Started) (H : Type) (enc : TypeId × Value → H) :
    ReturnsInHanded {} Try.checked os 9 .any (Rows.fnLessSpec.pre6 enc Try.prog Try.f9 Rows.fnLessRow.domain false) (Rows.fnLessSpec.post enc Try.prog Try.f9 false true false false) := by
  refine returnsInHanded_of_change_sized (C := Try.checked) Try.own started (by kernel_rfl) Try.func9
    (ChangeSpec.witness6 (enc := enc) (C := Try.checked) false ⟨#[], #[.string ByteArray.empty], []⟩ 8 (by kernel_rfl) (by kernel_rfl) (by kernel_rfl) (by kernel_rfl)) ?_
  intro W base args ds gs before hval0 hW hcnd hsz0 _
  have hval : ∀ (j : Nat) t v, Try.f9.params[j]? = some t → args[j]? = some v → Value.okWide Try.prog W .any base t v := hval0
  have hsz : (DataW.weightsEach Try.prog (Try.f9.params.toList ++ Rows.fnLessSpec.plain.varTypes Try.prog) (ds ++ gs)).all (· ≤ reachBytes) = true := hsz0
  have hW' := hW
  obtain ⟨p, q, hA0, hV, rfl, hfz, hnd⟩ := hW
  have hA : DataW.TrodAll enc Try.prog W 0 (fun _ => true) true Try.f9.params.toList args.toList ds p := hA0
  rw [Try.params9] at hA hval hsz
  obtain ⟨v0, vs0, d0, ds0, p0, q0, hargs, rfl, rfl, h0, r0⟩ := trodAll_cons hA
  obtain ⟨rfl, rfl, rfl⟩ := trodAll_nil r0
  obtain rfl : args = #[v0] := by cases args; simp_all
  obtain ⟨rfl, rfl⟩ := trodVars_none hV
  obtain ⟨a0, rfl, rfl, rfl, w0⟩ := open_string Try.underlying9 (hval 0 9 v0 rfl rfl) h0
  have s0 : a0.size ≤ 140737488351232 := sized_string hsz (j := 0) (t := 9) (bytes := a0.data.toList) rfl rfl
  clear hA0 hval0 hsz0 hsz
  simp only [List.append_nil] at hW'
  refine (walk a0 s0 W).mono fun e W' ⟨he, hg⟩ => ?_
  subst he
  exact ⟨_, rfl, post_of_below (pa := []) (pv := []) hW' (fun _ _ _ => (trodAll_cons_mk (shut_bool Try.underlying4 _) trodAll_mk0)) (fun sp _ => (trodAll_cons_mk (shut_string Try.underlying9 w0) trodAll_mk0)) (fun _ _ => rfl) rfl
    hg (ok_one (by kernel_rfl) rfl (okWide_bool_mk Try.underlying4 _))⟩

theorem over : Rows.fnLessRow.holds Try.pinned (OpenSpec.ofChange Rows.fnLessSpec) :=
  OpenClaim.holds_of_wide 9 Try.f9 rfl rfl rfl rfl rfl rfl rfl ⟨rfl, rfl, rfl, rfl, rfl⟩ rfl rfl rfl rfl rfl (by kernel_rfl) Try.func9 (by kernel_rfl)
    (of_decide_eq_true (by kernel_rfl)) (by unfold Func.isWrapper; first | (rw [if_pos (by decide +kernel)]; kernel_rfl) | (rw [if_neg (by decide +kernel)]; exact ⟨rfl, rfl⟩))
    (fun os started H enc _ => lifted os started H enc)

/-- the statement -/
theorem proved : Rows.FnLessSaid :=
  over
#print axioms proved
end Go.Proofs.Ytoeaiifmablbnaa.fnLess
