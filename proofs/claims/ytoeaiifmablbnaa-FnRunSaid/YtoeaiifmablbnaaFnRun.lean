/- FnRun: for all code points, so many (0 to 200) of one, between texts of ASCII, come back. Conditions: none but the form's own. -/
import Derived.Test.YtoeaiifmablbnaaRu
import Derived.DataShut
namespace Go.Proofs.Ytoeaiifmablbnaa.fnRun
open Go.ChangeShapes Go.WideShapes Go.ChangeAt Go.RowKit
open Go.ChangeMaps (open_string shut_string)
set_option linter.unusedVariables false

theorem hxa : (⟨#[]⟩ : ByteArray) ++ ⟨#[97, 45]⟩ = ⟨#[97, 45]⟩ := by apply Pu.bl_inj; rw [Pu.bl_append]; rfl

set_option maxRecDepth 100000 in
set_option maxHeartbeats 2000000 in
theorem walk (a0 a1 : Int) (a2 a3 : ByteArray) (w0 : (Lit.int .i32 a0).wf = true) (w1 : (Lit.int .i64 a1).wf = true) (w2 : a2.size ≤ 140737488351232) (w3 : a3.size ≤ 140737488351232) (w : World) :
    Calls Try.prog 15 #[.int .i32 a0, .int .i64 a1, .string a2, .string a3] w fun e w' => e = .returned (.bool true) ∧ Below w.heap.size w w' := by
  obtain ⟨x1, x2⟩ : -2147483648 ≤ a0 ∧ a0 ≤ 2147483647 := by have := (Lit.wf_int_iff _ _).1 w0; exact this
  obtain ⟨y1, y2⟩ : -9223372036854775808 ≤ a1 ∧ a1 ≤ 9223372036854775807 := by have := (Lit.wf_int_iff _ _).1 w1; exact this
  clear w0 w1
  have hone := Lib.hid (runesOf_one a0)
  have hez := encode_small a0
  have hr1 : -200 ≤ a1.tmod 201 ∧ a1.tmod 201 ≤ 200 := by
    constructor
    · have := Int.lt_tmod_of_pos a1 (show (0 : Int) < 201 by omega); omega
    · have := Int.tmod_lt_of_pos a1 (show (0 : Int) < 201 by omega); omega
  obtain ⟨r1, hr⟩ : ∃ r1, a1.tmod 201 = r1 := ⟨_, rfl⟩
  rw [hr] at hr1
  obtain ⟨r10, r11⟩ := hr1
  obtain ⟨K, hK⟩ : ∃ K : Nat, (r1 + 201) % 201 = K := ⟨((r1 + 201) % 201).toNat, by omega⟩
  have hK2 : K ≤ 200 := by omega
  have HK := Lib.hid hK
  clear hK
  go_enter Try.func15, Try.ntmps15
  go_wp2_with fail
  refine (runes_any (Utf8.encode a0) 1 _ (by omega)).mono ?_
  rintro e w1 ⟨v, rfl, hown, hb1⟩
  obtain ⟨ad, cp, rfl⟩ := own_form hown
  clear hown
  obtain ⟨L, hL⟩ : ∃ L, (RunesOf (Utf8.encode a0) 1).length = L := ⟨_, rfl⟩
  rw [hL] at hone ⊢
  clear hL
  obtain ⟨zb, hzb⟩ : ∃ zb, ((L : Int) == 0) = zb := ⟨_, rfl⟩
  go_upto_if 22 with fail
  go_cut [0] (fun cv wr => ∃ c : Int, cv = .int .i32 c ∧ Pu.okc c ∧ c ≠ 65533 ∧ w1 = wr)
  case first =>
    have Hzb := Lib.hid hzb
    clear hzb hr
    cases zb
    · go_wp2
      go_meet
      rcases hone.out with ⟨h1, h2, h3⟩ | ⟨h1, h2⟩
      · exact ⟨a0, rfl, h1, h2, rfl⟩
      · have := Hzb.out; rw [h2] at this; simp at this
    · go_wp2
      go_meet
      exact ⟨98, rfl, by unfold Pu.okc; omega, by omega, rfl⟩
  case rest =>
    obtain ⟨c, rfl, hc1, hc2, rfl⟩ := hcut
    have Hc := Lib.hid (show Pu.okc c ∧ c ≠ 65533 from ⟨hc1, hc2⟩)
    have hc3 : 0 ≤ c ∧ c ≤ 1114111 := by unfold Pu.okc at hc1; omega
    obtain ⟨c0, c1⟩ := hc3
    have hcz := encode_small c
    clear hc1 hc2 hone hez hzb
    go_wp2_with fail
    refine (plain_any a2 50 _ w2 (by omega)).mono ?_
    rintro e wp ⟨T, rfl, hT, hz, rfl⟩
    obtain ⟨hu, hok, hl⟩ := asc_code hT
    generalize Pu.cps (Pu.bl T) = x at *
    have Hx := Lib.hid (show Pu.bl T = Pu.utf x ∧ (∀ c ∈ x, Pu.okc c ∧ c ≠ 65533) ∧ x.length = T.size from ⟨hu, hok, hl⟩)
    clear hT hu hok hl
    go_upto_block 0 with fail
    rw [HK.out]
    clear hr HK r10 r11 x1 x2 y1 y2
    go_cut [10] (fun sv wr => ∃ F : ByteArray, sv = .string F ∧ Pu.bl F = Pu.utf (x ++ List.replicate K c) ∧ F.size ≤ 1000 ∧ w1 = wr)
    case first =>
      go_wp2_with fail
      go_loopg [10, 29] K (fun k sv i wr => ∃ (j : Nat) (F : ByteArray), sv = .string F ∧ i = .int .i64 j ∧ j + k = K ∧ Pu.bl F = Pu.utf (x ++ List.replicate j c) ∧ F.size ≤ 50 + 4 * j ∧ w1 = wr)
      case atStart => exact ⟨0, T, rfl, rfl, by simp, by simpa using Hx.out.1, by omega, rfl⟩
      case round =>
        obtain ⟨j, F, rfl, rfl, hjk, hF, hFz, rfl⟩ := hrel
        have Hjk := Lib.hid hjk
        have HF := Lib.hid hF
        have hj : j ≤ K := by omega
        clear hjk hF
        by_cases hlt : j < K
        · go_wp2
          go_roundg (K - (j + 1))
          case measure => have := Hjk.out; omega
          case rel =>
            refine ⟨j + 1, _, rfl, by go_num, by omega, ?_, ?_, rfl⟩
            · rw [Pu.bl_append, HF.out, List.replicate_succ', ← List.append_assoc, Pu.utf_append (x ++ List.replicate j c), Pu.utf_cons, Pu.utf_nil, List.append_nil]; rfl
            · rw [Pu.bl_size, Pu.bl_append, List.length_append, ← Pu.bl_size, ← Pu.bl_size]; omega
        · go_wp2
          go_meet
          obtain rfl : j = K := by omega
          exact ⟨F, rfl, HF.out, by omega, rfl⟩
    case rest =>
      obtain ⟨F, rfl, hF, hFz, rfl⟩ := hcut
      have HF := Lib.hid hF
      clear hF
      go_wp2_with fail
      refine (plain_any a3 50 _ w3 (by omega)).mono ?_
      rintro e wp ⟨T2, rfl, hT, hz2, rfl⟩
      obtain ⟨hu, hok, hl⟩ := asc_code hT
      generalize Pu.cps (Pu.bl T2) = y at *
      have hS : Pu.bl (F ++ T2) = Pu.utf (x ++ List.replicate K c ++ y) := by rw [Pu.bl_append, HF.out, hu, Pu.utf_append (x ++ List.replicate K c)]
      have hok2 : ∀ d ∈ x ++ List.replicate K c ++ y, Pu.okc d ∧ d ≠ 65533 := by
        intro d hd
        rcases List.mem_append.1 hd with hd | hd
        · rcases List.mem_append.1 hd with hd | hd
          · exact Hx.out.2.1 d hd
          · rw [List.eq_of_mem_replicate hd]; exact Hc.out
        · exact hok d hd
      have hll : (x ++ List.replicate K c ++ y).length ≤ 300 := by
        have := Hx.out.2.2
        simp only [List.length_append, List.length_replicate]; omega
      generalize x ++ List.replicate K c ++ y = l at *
      clear hu hok hl hT
      have HS := Lib.hid hS
      have Hok2 := Lib.hid hok2
      clear hS hok2
      go_upto_region 10 with fail
      generalize F ++ T2 = S at *
      go_wp2_with fail
      refine (encode_plain S l _ HS.out (by omega) Hok2.out).mono ?_
      rintro e w4 ⟨rfl, hb4⟩
      have hE := Lib.hid (Pu.bl_bs (Pu.enc l))
      generalize Pu.bs (Pu.enc l) = E at *
      go_wp2_with fail
      refine (decode_enc E l _ hE.out (by omega) (fun c hc => (Hok2.out c hc).1)).mono ?_
      rintro e w5 ⟨rfl, hb5⟩
      rw [show Pu.bs (Pu.utf l) = S from (Pu.eq_bs HS.out).symm]
      go_wp2_with fail
      refine (encode_a ⟨#[]⟩ _ (by show 0 ≤ _; omega)).mono ?_
      rintro e w6 ⟨rfl, hb6⟩
      rw [hxa]
      go_wp2
      go_ret
      exact ⟨rfl, below_then (below_then (below_then hb1 (Nat.le_refl _) hb4) (Nat.le_refl _) hb5) (Nat.le_refl _) hb6⟩

/-! ### the row's step -/
set_option maxRecDepth 100000 in
theorem lifted (os : Os) (started : os.Started) (H : Type) (enc : TypeId × Value → H) :
    ReturnsInHanded {} Try.checked os 15 .any (Rows.fnRunSpec.pre6 enc Try.prog Try.f15 Rows.fnRunRow.domain false) (Rows.fnRunSpec.post enc Try.prog Try.f15 false true false false) := by
  refine returnsInHanded_of_change_sized (C := Try.checked) Try.own started (by kernel_rfl) Try.func15
    (ChangeSpec.witness6 (enc := enc) (C := Try.checked) false ⟨#[], #[.int .i32 0, .int .i64 0, .string ByteArray.empty, .string ByteArray.empty], []⟩ 8 (by kernel_rfl) (by kernel_rfl) (by kernel_rfl) (by kernel_rfl)) ?_
  intro W base args ds gs before hval0 hW hcnd hsz0 _
  have hval : ∀ (j : Nat) t v, Try.f15.params[j]? = some t → args[j]? = some v → Value.okWide Try.prog W .any base t v := hval0
  have hsz : (DataW.weightsEach Try.prog (Try.f15.params.toList ++ Rows.fnRunSpec.plain.varTypes Try.prog) (ds ++ gs)).all (· ≤ reachBytes) = true := hsz0
  have hW' := hW
  obtain ⟨p, q, hA0, hV, rfl, hfz, hnd⟩ := hW
  have hA : DataW.TrodAll enc Try.prog W 0 (fun _ => true) true Try.f15.params.toList args.toList ds p := hA0
  rw [Try.params15] at hA hval hsz
  obtain ⟨v0, vs0, d0, ds0, p0, q0, hargs, rfl, rfl, h0, r0⟩ := trodAll_cons hA
  obtain ⟨v1, vs1, d1, ds1, p1, q1, rfl, rfl, rfl, h1, r1⟩ := trodAll_cons r0
  obtain ⟨v2, vs2, d2, ds2, p2, q2, rfl, rfl, rfl, h2, r2⟩ := trodAll_cons r1
  obtain ⟨v3, vs3, d3, ds3, p3, q3, rfl, rfl, rfl, h3, r3⟩ := trodAll_cons r2
  obtain ⟨rfl, rfl, rfl⟩ := trodAll_nil r3
  obtain rfl : args = #[v0, v1, v2, v3] := by cases args; simp_all
  obtain ⟨rfl, rfl⟩ := trodVars_none hV
  obtain ⟨a0, rfl, rfl, rfl, w0⟩ := open_int Try.underlying21 (hval 0 21 v0 rfl rfl) h0
  obtain ⟨a1, rfl, rfl, rfl, w1⟩ := open_int Try.underlying3 (hval 1 3 v1 rfl rfl) h1
  obtain ⟨a2, rfl, rfl, rfl, w2⟩ := open_string Try.underlying9 (hval 2 9 v2 rfl rfl) h2
  obtain ⟨a3, rfl, rfl, rfl, w3⟩ := open_string Try.underlying9 (hval 3 9 v3 rfl rfl) h3
  have s2 : a2.size ≤ 140737488351232 := sized_string hsz (j := 2) (t := 9) (bytes := a2.data.toList) rfl rfl
  have s3 : a3.size ≤ 140737488351232 := sized_string hsz (j := 3) (t := 9) (bytes := a3.data.toList) rfl rfl
  clear hA0 hval0 hsz0 hsz
  simp only [List.append_nil] at hW'
  refine (walk a0 a1 a2 a3 w0 w1 s2 s3 W).mono fun e W' ⟨he, hg⟩ => ?_
  subst he
  exact ⟨_, rfl, post_of_below (pa := []) (pv := []) hW' (fun _ _ _ => (trodAll_cons_mk (shut_bool Try.underlying4 _) trodAll_mk0)) (fun sp _ => (trodAll_cons_mk (shut_int Try.underlying21 w0) (trodAll_cons_mk (shut_int Try.underlying3 w1) (trodAll_cons_mk (shut_string Try.underlying9 w2) (trodAll_cons_mk (shut_string Try.underlying9 w3) trodAll_mk0))))) (fun _ _ => rfl) rfl
    hg (ok_one (by kernel_rfl) rfl (okWide_bool_mk Try.underlying4 _))⟩

theorem over : Rows.fnRunRow.holds Try.pinned (OpenSpec.ofChange Rows.fnRunSpec) :=
  OpenClaim.holds_of_wide 15 Try.f15 rfl rfl rfl rfl rfl rfl rfl ⟨rfl, rfl, rfl, rfl, rfl⟩ rfl rfl rfl rfl rfl (by kernel_rfl) Try.func15 (by kernel_rfl)
    (of_decide_eq_true (by kernel_rfl)) (by unfold Func.isWrapper; first | (rw [if_pos (by decide +kernel)]; kernel_rfl) | (rw [if_neg (by decide +kernel)]; exact ⟨rfl, rfl⟩))
    (fun os started H enc _ => lifted os started H enc)

/-- the statement -/
theorem proved : Rows.FnRunSaid :=
  over
#print axioms proved
end Go.Proofs.Ytoeaiifmablbnaa.fnRun
