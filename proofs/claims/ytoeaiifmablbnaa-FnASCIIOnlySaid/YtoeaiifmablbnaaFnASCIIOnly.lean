/- FnASCIIOnly: for all texts of UTF-8, what is encoded has bytes of ASCII alone, and the text's own ones of ASCII first, in their order. Conditions: none but the form's own. -/
import Derived.Test.YtoeaiifmablbnaaEx
import Derived.Test.YtoeaiifmablbnaaSl
namespace Go.Proofs.Ytoeaiifmablbnaa.fnASCIIOnly
open Go.ChangeShapes Go.WideShapes Go.ChangeAt Go.RowKit
open Go.ChangeMaps (open_string shut_string)
set_option linter.unusedVariables false

theorem getD_lt (l : List Int) {j : Nat} (h : j < l.length) : l.getD j 0 = l[j] := by simp [List.getD, h]

set_option maxRecDepth 100000 in
set_option maxHeartbeats 1000000 in
theorem walk (a0 : ByteArray) (w0 : a0.size ≤ 140737488351232) (w : World) :
    Calls Try.prog 3 #[.string a0] w fun e w' => e = .returned (.bool true) ∧ Below w.heap.size w w' := by
  go_enter Try.func3, Try.ntmps3
  go_wp2_with fail
  refine (runes_any a0 1000 _ (by omega)).mono ?_
  rintro e w1 ⟨v, rfl, hown, hb1⟩
  obtain ⟨ad, cp, rfl⟩ := own_form hown
  have hcv := own_runes hown
  have hl := runesOf_len a0 1000
  have hok := Lib.hid (runesOf_ok a0 1000)
  generalize RunesOf a0 1000 = l at *
  have hS := Lib.hid (Pu.bl_bs (Pu.utf l))
  generalize Pu.bs (Pu.utf l) = S at *
  go_wp2_with fail
  refine (implEncode_any ⟨#[]⟩ S l _ (by show 0 ≤ _; omega) hS.out (by omega) hok.out).mono ?_
  rintro e w2 ⟨rfl, hb2⟩
  have hown2 : OwnI w.heap.size l (.slice ad l.length cp) w2 := own_below hown hb2
  have hB := Lib.hid (show Pu.bl (Pu.bs (Pu.bl ⟨#[]⟩ ++ Pu.enc l)) = Pu.enc l by rw [Pu.bl_bs, Pu.bl_nil, List.nil_append])
  generalize Pu.bs (Pu.bl ⟨#[]⟩ ++ Pu.enc l) = E at *
  have hEz : E.size ≤ 2149631133648 := by
    have := Pu.enc_len l (by omega) (okc_le hok.out)
    rw [Pu.bl_size, hB.out]; omega
  have hbw : Below w.heap.size w w2 := below_then hb1 (Nat.le_refl _) hb2
  clear hcv hown hb1 hb2 w1 hS
  go_upto_block 0 with fail
  go_cut [6] (fun f wr => ∃ F : ByteArray, f = .string F ∧ Pu.bl F = (Pu.basic l).map Pu.byteOf ∧ wr = w2)
  case first =>
    go_wp2_with fail
    go_loopg [6, 20] l.length (fun k f i wr => ∃ (j : Nat) (F : ByteArray), f = .string F ∧ i = .int .i64 j ∧ j + k = l.length ∧ Pu.bl F = (Pu.basic (l.take j)).map Pu.byteOf ∧ wr = w2)
    case atStart => exact ⟨0, ⟨#[]⟩, rfl, rfl, by simp, rfl, rfl⟩
    case round =>
      obtain ⟨j, F, rfl, rfl, hjk, hF, rfl⟩ := hrel
      have hFz : F.size ≤ 1000 := by rw [Pu.bl_size, hF, List.length_map]; have := basic_len (l.take j); have := List.length_take_le j l; omega
      have HF := Lib.hid hF
      have Hjk := Lib.hid hjk
      have hj : j ≤ l.length := by omega
      clear hF hjk
      by_cases hlt : j < l.length
      · obtain ⟨g, hg1, hg2, hcp, rfl, hcell⟩ := own_cells hown2 (by omega)
        have hc := hcell j hlt
        have hcd : l.getD j 0 ∈ l := by rw [getD_lt _ hlt]; exact List.getElem_mem hlt
        have htk : l.take (j + 1) = l.take j ++ [l.getD j 0] := by rw [List.take_succ_eq_append_getElem hlt, getD_lt _ hlt]
        have hcok := (hok.out _ hcd).1
        have Htk := Lib.hid htk
        generalize l.getD j 0 = c at *
        have hc0 : 0 ≤ c ∧ c ≤ 1114111 := by unfold Pu.okc at hcok; omega
        obtain ⟨c0, c1⟩ := hc0
        clear hcell hcd hcok htk
        by_cases h128 : c < 128
        · have hez : (Utf8.encode c).size = 1 := by rw [Pu.bl_size]; show (Pu.ub c).length = 1; rw [Pu.ub_1 c c0 h128]; rfl
          have Hez := Lib.hid hez
          have hez2 : (Utf8.encode c).size ≤ 4 := by omega
          clear hez
          go_wp2
          go_roundg (l.length - (j + 1))
          case measure => have := Hjk.out; omega
          case rel =>
            refine ⟨j + 1, _, rfl, by go_num, by omega, ?_, rfl⟩
            rw [Pu.bl_append, HF.out, Htk.out, basic_snoc_yes _ c h128, List.map_append]
            show _ ++ Pu.ub c = _
            rw [Pu.ub_1 c c0 h128]; rfl
        · go_wp2
          go_roundg (l.length - (j + 1))
          case measure => have := Hjk.out; omega
          case rel =>
            refine ⟨j + 1, F, rfl, by go_num, by omega, ?_, rfl⟩
            rw [HF.out, Htk.out, basic_snoc_no _ c (by omega)]
      · go_wp2
        go_meet
        refine ⟨F, rfl, ?_, rfl⟩
        rw [HF.out, List.take_of_length_le (by omega)]
  case rest =>
    obtain ⟨F, rfl, hF, rfl⟩ := hcut
    obtain ⟨r, hEr, _⟩ := Pu.enc_out l (by omega) (okc_le hok.out)
    have hE2 : Pu.bl E = Pu.bl F ++ ((if (Pu.basic l).length = 0 then [] else [45]) ++ r) := by
      rw [hB.out, hEr, hF]; unfold Pu.front; simp
    have hFE : F.size ≤ E.size := by rw [Pu.bl_size, Pu.bl_size E, hE2, List.length_append]; omega
    have hpre : ((E.extract 0 F.size).toList == F.toList) = true := by
      have : E.extract 0 F.size = F := by
        apply Pu.bl_inj; rw [Pu.bl_extract, hE2, Pu.bl_size F]; simp
      rw [this]; simp
    have hasc := Lib.hid (Pu.enc_ascii l (by omega) (fun c hc => (hok.out c hc).1))
    have hlong := Lib.hid (Pu.enc_long l (by omega) (okc_le hok.out))
    have hdec : decide (E.size < F.size) = false := by simp; omega
    clear hE2 hEr hF
    go_upto_block 2 with fail
    clear hdec hpre hFE
    go_cut [50] (fun f wr => wr = wc)
    case first =>
      go_wp2_with fail
      go_loopg [50] E.size (fun k i wr => ∃ (j : Nat), i = .int .i64 j ∧ j + k = E.size ∧ wr = wc)
      case atStart => exact ⟨0, rfl, by simp, rfl⟩
      case round =>
        obtain ⟨j, rfl, hjk, rfl⟩ := hrel
        have Hjk := Lib.hid hjk
        have hj : j ≤ E.size := by omega
        clear hjk
        by_cases hlt : j < E.size
        · have hb : (E[j].toNat : Int) ≤ 127 := by
            have h1 := Pu.bl_get E j hlt
            rw [hB.out] at h1
            have := hasc.out _ (List.mem_of_getElem? h1)
            omega
          go_wp2
          go_roundg (E.size - (j + 1))
          case measure => have := Hjk.out; omega
          case rel => exact ⟨j + 1, by go_num, by omega, rfl⟩
        · go_wp2
          go_meet
          rfl
    case rest =>
      obtain rfl := hcut
      by_cases hl0 : l.length = 0
      · have h1 : ((l.length : Int) == 0) = true := by simp [hl0]
        go_wp2
        go_ret
        exact ⟨rfl, hbw⟩
      · have h1 : ((l.length : Int) == 0) = false := by rw [beq_eq_false_iff_ne]; omega
        have h2 : E.toList.isEmpty = false := by
          rw [ByteArray.toList_eq]
          have : Pu.bl E = Pu.enc l := hB.out
          show (Pu.bl E).isEmpty = false
          rw [this]
          have := hlong.out
          cases h : Pu.enc l with
          | nil => rw [h, List.length_nil] at this; omega
          | cons a b => rfl
        clear hl0
        go_wp2
        go_ret
        exact ⟨rfl, hbw⟩

/-! ### the row's step -/
set_option maxRecDepth 100000 in
theorem lifted (os : Os) (started : os.Started) (H : Type) (enc : TypeId × Value → H) :
    ReturnsInHanded {} Try.checked os 3 .any (Rows.fnASCIIOnlySpec.pre6 enc Try.prog Try.f3 Rows.fnASCIIOnlyRow.domain false) (Rows.fnASCIIOnlySpec.post enc Try.prog Try.f3 false true false false) := by
  refine returnsInHanded_of_change_sized (C := Try.checked) Try.own started (by kernel_rfl) Try.func3
    (ChangeSpec.witness6 (enc := enc) (C := Try.checked) false ⟨#[], #[.string ByteArray.empty], []⟩ 8 (by kernel_rfl) (by kernel_rfl) (by kernel_rfl) (by kernel_rfl)) ?_
  intro W base args ds gs before hval0 hW hcnd hsz0 _
  have hval : ∀ (j : Nat) t v, Try.f3.params[j]? = some t → args[j]? = some v → Value.okWide Try.prog W .any base t v := hval0
  have hsz : (DataW.weightsEach Try.prog (Try.f3.params.toList ++ Rows.fnASCIIOnlySpec.plain.varTypes Try.prog) (ds ++ gs)).all (· ≤ reachBytes) = true := hsz0
  have hW' := hW
  obtain ⟨p, q, hA0, hV, rfl, hfz, hnd⟩ := hW
  have hA : DataW.TrodAll enc Try.prog W 0 (fun _ => true) true Try.f3.params.toList args.toList ds p := hA0
  rw [Try.params3] at hA hval hsz
  obtain ⟨v0, vs0, d0, ds0, p0, q0, hargs, rfl, rfl, h0, r0⟩ := trodAll_cons hA
  obtain ⟨rfl, rfl, rfl⟩ := trodAll_nil r0
  obtain rfl : args = #[v0] := by cases args; simp_all
  obtain ⟨rfl, rfl⟩ := trodVars_none hV
  obtain ⟨a0, rfl, rfl, rfl, w0⟩ := open_string Try.underlying9 (hval 0 9 v0 rfl rfl) h0
  have s0 : a0.size ≤ 140737488351232 := sized_string hsz (j := 0) (t := 9) (bytes := a0.data.toList) rfl rfl
  clear hA0 hval0 hsz0 hsz
  simp only [List.append_nil] at hW'
  refine (walk a0 s0 W).mono fun e W' ⟨he, hg⟩ => ?_
  subst he
  exact ⟨_, rfl, post_of_below (pa := []) (pv := []) hW' (fun _ _ _ => (trodAll_cons_mk (shut_bool Try.underlying4 _) trodAll_mk0)) (fun sp _ => (trodAll_cons_mk (shut_string Try.underlying9 w0) trodAll_mk0)) (fun _ _ => rfl) rfl
    hg (ok_one (by kernel_rfl) rfl (okWide_bool_mk Try.underlying4 _))⟩

theorem over : Rows.fnASCIIOnlyRow.holds Try.pinned (OpenSpec.ofChange Rows.fnASCIIOnlySpec) :=
  OpenClaim.holds_of_wide 3 Try.f3 rfl rfl rfl rfl rfl rfl rfl ⟨rfl, rfl, rfl, rfl, rfl⟩ rfl rfl rfl rfl rfl (by kernel_rfl) Try.func3 (by kernel_rfl)
    (of_decide_eq_true (by kernel_rfl)) (by unfold Func.isWrapper; first | (rw [if_pos (by decide +kernel)]; kernel_rfl) | (rw [if_neg (by decide +kernel)]; exact ⟨rfl, rfl⟩))
    (fun os started H enc _ => lifted os started H enc)

/-- the statement -/
theorem proved : Rows.FnASCIIOnlySaid :=
  over
#print axioms proved
end Go.Proofs.Ytoeaiifmablbnaa.fnASCIIOnly
