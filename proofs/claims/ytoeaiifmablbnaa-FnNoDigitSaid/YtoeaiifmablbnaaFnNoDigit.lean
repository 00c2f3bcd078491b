/- FnNoDigit: for all texts of UTF-8, what is encoded with a byte behind it that is no digit and no hyphen is none. Conditions: none but the form's own. -/
import Derived.Test.YtoeaiifmablbnaaPl
import Derived.DataShut
namespace Go.Proofs.Ytoeaiifmablbnaa.fnNoDigit
open Go.ChangeShapes Go.WideShapes Go.ChangeAt Go.RowKit
open Go.ChangeMaps (open_string shut_string)
set_option linter.unusedVariables false

/-- no digit, no hyphen, of ASCII -/
def Odd (c : Int) : Prop := 0 ≤ c ∧ c ≤ 127 ∧ c ≠ 45 ∧ (c < 48 ∨ (57 < c ∧ c < 65) ∨ (90 < c ∧ c < 97) ∨ 122 < c)

theorem odd_none {l : List Int} {c : Int} (hl : l.length ≤ 1001) (hok : ∀ c ∈ l, Pu.okc c) (h : Odd c) : Pu.dc (Pu.enc l ++ [Pu.byteOf c]) = none ∧ (∀ d ∈ Pu.enc l ++ [Pu.byteOf c], d.toNat < 128) := by
  obtain ⟨h0, h1, h2, h3⟩ := h
  have hb : ((Pu.byteOf c).toNat : Int) = c := byteOf_toNat c h0 (by omega)
  have hu : Pu.undig (Pu.byteOf c) < 0 := by
    unfold Pu.undig
    rw [hb, undigI_4 c h3]; omega
  obtain ⟨r, e, g, hd⟩ := Pu.enc_parts l hl hok
  constructor
  · rw [e, List.append_assoc, Pu.dc_split _ _ (Pu.basic_rng hok) ?_]
    · exact Pu.idc_tail _ hu _ r _ (Nat.le_refl _)
    · intro d hd
      rcases List.mem_append.1 hd with hd | hd
      · exact Pu.isDig_ne g d hd
      · simp at hd
        rw [hd]
        intro e
        rw [e] at hb
        exact h2 hb.symm
  · intro d hd
    rcases List.mem_append.1 hd with hd | hd
    · exact Pu.enc_asc l hl hok d hd
    · simp at hd
      rw [hd]
      omega

theorem boolf {p : Prop} [Decidable p] (h : ¬ p) : Value.bool (decide p) = .bool false := by simp [h]

set_option maxRecDepth 100000 in
set_option maxHeartbeats 2000000 in
theorem walk (a0 : ByteArray) (a1 : Int) (w0 : a0.size ≤ 140737488351232) (w1 : (Lit.int .u8 a1).wf = true) (w : World) :
    Calls Try.prog 10 #[.string a0, .int .u8 a1] w fun e w' => e = .returned (.bool true) ∧ Below w.heap.size w w' := by
  obtain ⟨x1, x2⟩ : 0 ≤ a1 ∧ a1 ≤ 255 := by have := (Lit.wf_int_iff _ _).1 w1; exact this
  clear w1
  go_enter Try.func10, Try.ntmps10
  go_upto_region 1 with fail
  go_cut [1, 40] (fun cv tv wr => cv = .int .u8 a1 ∧ (tv = .bool true ∨ (tv = .bool false ∧ Odd a1)) ∧ w = wr)
  case first =>
    by_cases h1 : 48 ≤ a1
    · by_cases h2 : a1 ≤ 57
      · go_wp2
        go_meet
        exact ⟨rfl, .inl rfl, rfl⟩
      · by_cases h3 : 97 ≤ a1
        · by_cases h4 : a1 ≤ 122
          · go_wp2
            go_meet
            exact ⟨rfl, .inl rfl, rfl⟩
          · have hne : (a1 == 45) = false := by rw [beq_eq_false_iff_ne]; omega
            by_cases h5 : 127 < a1
            · go_wp2
              go_meet
              exact ⟨rfl, .inl rfl, rfl⟩
            · go_wp2
              go_meet
              exact ⟨rfl, .inr ⟨boolf (by omega), by unfold Odd; omega⟩, rfl⟩
        · have hne : (a1 == 45) = false := by rw [beq_eq_false_iff_ne]; omega
          by_cases h4 : 65 ≤ a1
          · by_cases h5 : a1 ≤ 90
            · go_wp2
              go_meet
              exact ⟨rfl, .inl rfl, rfl⟩
            · go_wp2
              go_meet
              exact ⟨rfl, .inr ⟨boolf (by omega), by unfold Odd; omega⟩, rfl⟩
          · go_wp2
            go_meet
            exact ⟨rfl, .inr ⟨boolf (by omega), by unfold Odd; omega⟩, rfl⟩
    · by_cases h2 : a1 = 45
      · subst h2
        go_wp2
        go_meet
        exact ⟨rfl, .inl rfl, rfl⟩
      · have hne : (a1 == 45) = false := by rw [beq_eq_false_iff_ne]; exact h2
        have H2 := Lib.hid h2
        clear h2
        go_wp2
        go_meet
        exact ⟨rfl, .inr ⟨boolf (by omega), by have := H2.out; unfold Odd; omega⟩, rfl⟩
  case rest =>
    obtain ⟨rfl, ht, rfl⟩ := hcut
    go_upto_if 40 with fail
    go_cut [1] (fun cv wr => ∃ c, cv = .int .u8 c ∧ Odd c ∧ w = wr)
    case first =>
      rcases ht with rfl | ⟨rfl, ho⟩
      · go_wp2
        go_meet
        exact ⟨95, rfl, by unfold Odd; omega, rfl⟩
      · have Ho := Lib.hid ho
        clear ho
        go_wp2
        go_meet
        exact ⟨a1, rfl, Ho.out, rfl⟩
    case rest =>
      obtain ⟨c, rfl, ho, rfl⟩ := hcut
      have Ho := Lib.hid ho
      have hc : 0 ≤ c ∧ c ≤ 127 := ⟨ho.1, ho.2.1⟩
      obtain ⟨c0, c1⟩ := hc
      clear ho ht x1 x2
      go_wp2_with fail
      refine (runes_any a0 200 _ (by omega)).mono ?_
      rintro e w1 ⟨v, rfl, hown, hb1⟩
      obtain ⟨ad, cp, rfl⟩ := own_form hown
      have hl := runesOf_len a0 200
      have hok := Lib.hid (runesOf_ok a0 200)
      generalize RunesOf a0 200 = l at *
      go_wp2_with fail
      refine (specEncode_any l w.heap.size ad cp _ hown (by omega) (fun c hc => (hok.out c hc).1)).mono ?_
      rintro e w2 ⟨rfl, hb2⟩
      have hE := Lib.hid (Pu.bl_bs (Pu.enc l))
      have hEz := enc_size l (by omega) (fun c hc => (hok.out c hc).1)
      generalize Pu.bs (Pu.enc l) = E at *
      have hcv := one_byte w2 c c0 (by omega)
      have hX := Lib.hid (Pu.bl_bs [Pu.byteOf c])
      have hXz : (Pu.bs [Pu.byteOf c]).size ≤ 1 := by rw [Pu.bs_size]; simp
      generalize Pu.bs [Pu.byteOf c] = X at *
      have hon := Lib.hid (odd_none (l := l) (by omega) (fun c hc => (hok.out c hc).1) Ho.out)
      have hEX : Hid (Pu.bl (E ++ X) = Pu.enc l ++ [Pu.byteOf c]) := by
        show _ = _
        rw [Pu.bl_append, hE.out, hX.out]
      go_wp2_with fail
      refine (implDecode_no (E ++ X) _ (by rw [Pu.bl_size, hEX.out, List.length_append, ← hE.out, ← Pu.bl_size]; simp; omega) (by rw [hEX.out]; exact hon.out.2) (by rw [hEX.out]; exact hon.out.1)).mono ?_
      rintro e w3 ⟨rfl, hb3⟩
      clear hcv
      go_wp2_with fail
      refine (decode_enc E l _ hE.out (by omega) (fun c hc => (hok.out c hc).1)).mono ?_
      rintro e w4 ⟨rfl, hb4⟩
      have hb2' : Below w1.heap.size w1 (w2.alloc (.cells #[.int .u8 c] 5)) := hb2.alloc hb2.size _
      have hb5 : Below w1.heap.size w1 w4 := below_then (below_then hb2' (Nat.le_refl _) hb3) (Nat.le_refl _) hb4
      have hcv := own_runes (own_below hown hb5)
      go_wp2
      go_ret
      exact ⟨rfl, below_then hb1 (Nat.le_refl _) hb5⟩

/-! ### the row's step -/
set_option maxRecDepth 100000 in
theorem lifted (os : Os) (started : os.Started) (H : Type) (enc : TypeId × Value → H) :
    ReturnsInHanded {} Try.checked os 10 .any (Rows.fnNoDigitSpec.pre6 enc Try.prog Try.f10 Rows.fnNoDigitRow.domain false) (Rows.fnNoDigitSpec.post enc Try.prog Try.f10 false true false false) := by
  refine returnsInHanded_of_change_sized (C := Try.checked) Try.own started (by kernel_rfl) Try.func10
    (ChangeSpec.witness6 (enc := enc) (C := Try.checked) false ⟨#[], #[.string ByteArray.empty, .int .u8 0], []⟩ 8 (by kernel_rfl) (by kernel_rfl) (by kernel_rfl) (by kernel_rfl)) ?_
  intro W base args ds gs before hval0 hW hcnd hsz0 _
  have hval : ∀ (j : Nat) t v, Try.f10.params[j]? = some t → args[j]? = some v → Value.okWide Try.prog W .any base t v := hval0
  have hsz : (DataW.weightsEach Try.prog (Try.f10.params.toList ++ Rows.fnNoDigitSpec.plain.varTypes Try.prog) (ds ++ gs)).all (· ≤ reachBytes) = true := hsz0
  have hW' := hW
  obtain ⟨p, q, hA0, hV, rfl, hfz, hnd⟩ := hW
  have hA : DataW.TrodAll enc Try.prog W 0 (fun _ => true) true Try.f10.params.toList args.toList ds p := hA0
  rw [Try.params10] at hA hval hsz
  obtain ⟨v0, vs0, d0, ds0, p0, q0, hargs, rfl, rfl, h0, r0⟩ := trodAll_cons hA
  obtain ⟨v1, vs1, d1, ds1, p1, q1, rfl, rfl, rfl, h1, r1⟩ := trodAll_cons r0
  obtain ⟨rfl, rfl, rfl⟩ := trodAll_nil r1
  obtain rfl : args = #[v0, v1] := by cases args; simp_all
  obtain ⟨rfl, rfl⟩ := trodVars_none hV
  obtain ⟨a0, rfl, rfl, rfl, w0⟩ := open_string Try.underlying9 (hval 0 9 v0 rfl rfl) h0
  obtain ⟨a1, rfl, rfl, rfl, w1⟩ := open_int Try.underlying5 (hval 1 5 v1 rfl rfl) h1
  have s0 : a0.size ≤ 140737488351232 := sized_string hsz (j := 0) (t := 9) (bytes := a0.data.toList) rfl rfl
  clear hA0 hval0 hsz0 hsz
  simp only [List.append_nil] at hW'
  refine (walk a0 a1 s0 w1 W).mono fun e W' ⟨he, hg⟩ => ?_
  subst he
  exact ⟨_, rfl, post_of_below (pa := []) (pv := []) hW' (fun _ _ _ => (trodAll_cons_mk (shut_bool Try.underlying4 _) trodAll_mk0)) (fun sp _ => (trodAll_cons_mk (shut_string Try.underlying9 w0) (trodAll_cons_mk (shut_int Try.underlying5 w1) trodAll_mk0))) (fun _ _ => rfl) rfl
    hg (ok_one (by kernel_rfl) rfl (okWide_bool_mk Try.underlying4 _))⟩

theorem over : Rows.fnNoDigitRow.holds Try.pinned (OpenSpec.ofChange Rows.fnNoDigitSpec) :=
  OpenClaim.holds_of_wide 10 Try.f10 rfl rfl rfl rfl rfl rfl rfl ⟨rfl, rfl, rfl, rfl, rfl⟩ rfl rfl rfl rfl rfl (by kernel_rfl) Try.func10 (by kernel_rfl)
    (of_decide_eq_true (by kernel_rfl)) (by unfold Func.isWrapper; first | (rw [if_pos (by decide +kernel)]; kernel_rfl) | (rw [if_neg (by decide +kernel)]; exact ⟨rfl, rfl⟩))
    (fun os started H enc _ => lifted os started H enc)

/-- the statement -/
theorem proved : Rows.FnNoDigitSaid :=
  over
#print axioms proved
end Go.Proofs.Ytoeaiifmablbnaa.fnNoDigit
