/- FnCase: for all texts of UTF-8, great letters behind the last hyphen change nothing. Conditions: none but the form's own. -/
import Derived.Test.YtoeaiifmablbnaaRa
import Derived.Carry
namespace Go.Proofs.Ytoeaiifmablbnaa.fnCase
open Go.ChangeShapes Go.WideShapes Go.ChangeAt Go.RowKit
open Go.ChangeMaps (open_string shut_string)
set_option linter.unusedVariables false

theorem way_below {wa : Option Addr} {wl : Nat} {w w' : World} (h : Way wa wl w) (hb : Below w.heap.size w w') : Way wa wl w' := by
  rcases h with h | ⟨b, off, zs, h1, h2, h3, h4⟩
  · exact .inl h
  · refine .inr ⟨b, off, zs, h1, by have := hb.size; omega, h3, fun i hi => ?_⟩
    rw [hb.cell h2]; exact h4 i hi

/-- where Punycode parts -/
theorem back_fr {E : ByteArray} {x : List Int} {r : List UInt8} (hE : Pu.bl E = Pu.fr x ++ r) (hr : ∀ c ∈ r, c ≠ 45) : Pu.bl (backOf E) = r ∧ (Pu.bl E).take (E.size - (backOf E).size) = Pu.fr x := by
  have hb : Pu.bl (backOf E) = r := by
    unfold backOf
    rw [Pu.bl_size, hE]
    by_cases h : x.length = 0
    · rw [Pu.fr_none h, List.nil_append, Pu.hyp_none r hr, if_neg (by omega), hE, Pu.fr_none h, List.nil_append]
    · rw [Pu.hyp_fr_some h r hr, if_pos (by omega), Pu.bl_bs, Int.toNat_natCast, Pu.fr_some h]
      have : (x.map Pu.byteOf ++ [45]).length = x.length + 1 := by simp
      rw [← this, List.drop_left]
  refine ⟨hb, ?_⟩
  rw [Pu.bl_size E, Pu.bl_size (backOf E), hb, hE, List.length_append, Nat.add_sub_cancel, List.take_left]

set_option maxRecDepth 100000 in
set_option maxHeartbeats 1000000 in
theorem walk (a0 : ByteArray) (wa : Option Addr) (wl wcap : Nat) (w0 : a0.size ≤ 140737488351232) (w : World) (hway : Way wa wl w) :
    Calls Try.prog 7 #[.string a0, .slice wa wl wcap] w fun e w' => e = .returned (.bool true) ∧ Below w.heap.size w w' := by
  have Hway := Lib.hid hway
  clear hway
  go_enter Try.func7, Try.ntmps7
  go_wp2_with fail
  refine (runes_any a0 300 _ (by omega)).mono ?_
  rintro e w1 ⟨v, rfl, hown, hb1⟩
  obtain ⟨ad, cp, rfl⟩ := own_form hown
  have hl := runesOf_len a0 300
  have hok := Lib.hid (runesOf_ok a0 300)
  generalize RunesOf a0 300 = l at *
  go_wp2_with fail
  refine (specEncode_any l w.heap.size ad cp _ hown (by omega) (fun c hc => (hok.out c hc).1)).mono ?_
  rintro e w2 ⟨rfl, hb2⟩
  have hok1 : ∀ c ∈ l, Pu.okc c := fun c hc => (hok.out c hc).1
  have hE := Pu.bl_bs (Pu.enc l)
  have hEz := enc_size l (by omega) hok1
  have hasc := Pu.enc_asc l (by omega) hok1
  generalize Pu.bs (Pu.enc l) = E at *
  obtain ⟨r, e1, g, hd⟩ := Pu.enc_parts l (by omega) hok1
  rw [e1] at hE hasc
  obtain ⟨hbk, htk⟩ := back_fr hE (Pu.isDig_ne g)
  have hr : ∀ c ∈ r, c ≠ 45 ∧ c.toNat < 128 := fun c hc => ⟨Pu.isDig_ne g c hc, hasc c (by simp [hc])⟩
  have hra := Lib.hid (fun w' (hw' : Way wa wl w') => raised_any E wa wl wcap w' (by omega) hw' (by rw [hbk]; exact hr))
  have hX : ∀ r', Alike r r' → Pu.dc (Pu.fr (Pu.basic l) ++ r') = some l ∧ (∀ c ∈ Pu.fr (Pu.basic l) ++ r', c.toNat < 128) ∧ (Pu.fr (Pu.basic l) ++ r').length = E.size := by
    intro r' ha
    refine ⟨?_, ?_, ?_⟩
    · rw [Pu.dc_split _ _ (Pu.basic_rng hok1) (fun c hc => (ha.ok c hc).1), Pu.idc_alike _ r' r _ (Nat.le_refl _) ha.und, hd]
    · intro c hc
      rcases List.mem_append.1 hc with hc | hc
      · exact hasc c (by simp [hc])
      · exact (ha.ok c hc).2
    · rw [Pu.bl_size, hE, List.length_append, List.length_append, ha.len]
  have HX := Lib.hid hX
  have Hbk := Lib.hid hbk
  have Htk := Lib.hid htk
  have hb12 : Below w.heap.size w w2 := below_then hb1 (Nat.le_refl _) hb2
  have hw2 := Lib.hid (way_below Hway.out hb12)
  clear hX hbk htk hE hasc hok1 e1 g hd hr
  go_wp2_with fail
  refine (hra.out _ hw2.out).mono ?_
  rintro e w3 ⟨r', rfl, hal, hb3⟩
  rw [Hbk.out] at hal
  rw [Htk.out]
  obtain ⟨y1, y2, y3⟩ := HX.out r' hal
  have hdec := Lib.hid (fun w => implDecode_yes (Pu.bs (Pu.fr (Pu.basic l) ++ r')) l w (by rw [Pu.bs_size]; omega) (by rw [Pu.bl_bs]; exact y2) (by rw [Pu.bl_bs]; exact y1))
  clear y1 y2 y3 hal HX hra
  generalize Pu.bs (Pu.fr (Pu.basic l) ++ r') = X at *
  go_wp2_with fail
  refine (hdec.out _).mono ?_
  rintro e w4 ⟨rfl, hb4⟩
  have hb5 : Below w1.heap.size w1 w4 := below_then (below_then hb2 (Nat.le_refl _) hb3) (Nat.le_refl _) hb4
  have hcv := own_runes (own_below hown hb5)
  generalize Pu.bs (Pu.utf l) = S at *
  go_wp2
  go_ret
  exact ⟨rfl, below_then hb1 (Nat.le_refl _) hb5⟩

/-! ### the row's step -/
theorem Try.laidOut : laidOutB Try.prog = true := by kernel_rfl
theorem Try.cells3 : Try.prog.cellsOf 3 = 1 := by kernel_rfl
theorem Try.bytes3 : Try.prog.bytesOf 3 = 8 := by kernel_rfl

set_option maxRecDepth 100000 in
theorem lifted (os : Os) (started : os.Started) (H : Type) (enc : TypeId × Value → H) :
    ReturnsInHanded {} Try.checked os 7 .any (Rows.fnCaseSpec.pre6 enc Try.prog Try.f7 Rows.fnCaseRow.domain false) (Rows.fnCaseSpec.post enc Try.prog Try.f7 false true false false) := by
  refine returnsInHanded_of_change_sized (C := Try.checked) Try.own started (by kernel_rfl) Try.func7
    (ChangeSpec.witness6 (enc := enc) (C := Try.checked) false ⟨#[], #[.string ByteArray.empty, .slice none 0 0], []⟩ 8 (by kernel_rfl) (by kernel_rfl) (by kernel_rfl) (by kernel_rfl)) ?_
  intro W base args ds gs before hval0 hW hcnd hsz0 _
  have hval : ∀ (j : Nat) t v, Try.f7.params[j]? = some t → args[j]? = some v → Value.okWide Try.prog W .any base t v := hval0
  have hsz : (DataW.weightsEach Try.prog (Try.f7.params.toList ++ Rows.fnCaseSpec.plain.varTypes Try.prog) (ds ++ gs)).all (· ≤ reachBytes) = true := hsz0
  have hW' := hW
  obtain ⟨p, q, hA0, hV, rfl, hfz, hnd⟩ := hW
  have hA : DataW.TrodAll enc Try.prog W 0 (fun _ => true) true Try.f7.params.toList args.toList ds p := hA0
  rw [Try.params7] at hA hval hsz
  obtain ⟨v0, vs0, d0, ds0, p0, q0, hargs, rfl, rfl, h0, r0⟩ := trodAll_cons hA
  obtain ⟨v1, vs1, d1, ds1, p1, q1, rfl, rfl, rfl, h1, r1⟩ := trodAll_cons r0
  obtain ⟨rfl, rfl, rfl⟩ := trodAll_nil r1
  obtain rfl : args = #[v0, v1] := by cases args; simp_all
  obtain ⟨rfl, rfl⟩ := trodVars_none hV
  obtain ⟨a0, rfl, rfl, rfl, w0⟩ := open_string Try.underlying9 (hval 0 9 v0 rfl rfl) h0
  have s0 : a0.size ≤ 140737488351232 := sized_string hsz (j := 0) (t := 9) (bytes := a0.data.toList) rfl rfl
  obtain ⟨wa, wl, wcap, rfl⟩ := okWide_slice Try.underlying29 (hval 1 29 v1 rfl rfl)
  have h1k := h1
  obtain ⟨fuel1, hf⟩ := h1
  have hlt : ∀ x ∈ p1, x.block < W.heap.size := fun x hx => hW'.lt x (by simp [hx])
  have hway : Way wa wl W := by
    rcases open_ints Try.underlying29 Try.underlying3 Try.cells3 hf with ⟨hcs, hx⟩ | ⟨a, len', cap', zs, hcs, _, hl, hm, hz, hx, hcell, hwz⟩
    · simp [Value.cells] at hcs
      exact .inl hcs.2.1
    · simp [Value.cells] at hcs
      obtain ⟨rfl, rfl, rfl⟩ := hcs
      simp only [Prod.mk.injEq] at hx
      obtain ⟨rfl, rfl⟩ := hx
      simp only [if_true] at hz
      by_cases hl0 : wl = 0
      · exact .inl hl0
      · have hreach : wl * 8 ≤ 140737488351232 := by
          have := sized_slice hsz (j := 1) (t := 29) (e := 3) rfl rfl Try.underlying29
          rw [Try.bytes3] at this
          simp only [lits, List.length_map, List.length_take, List.length_drop, reachBytes] at this
          omega
        obtain ⟨b, off, spot⟩ := a
        have hspot : spot = none := by simpa [Addr.add] using World.cell?_spot (hcell 0 (by omega))
        subst hspot
        have hc0 := hcell 0 (by omega)
        refine .inr ⟨b, off, zs, rfl, World.block_lt_of_cell? W _ hc0, by omega, fun i hi => ?_⟩
        have := hcell i (by omega)
        have hadd : (⟨b, off, none⟩ : Addr).add i = ⟨b, off + i, none⟩ := by unfold Addr.add; split <;> simp_all
        rw [hadd] at this
        exact this
  clear hA0 hval0 hsz0 hsz
  simp only [List.append_nil] at hW'
  refine (walk a0 wa wl wcap s0 W hway).mono fun e W' ⟨he, hg⟩ => ?_
  subst he
  exact ⟨_, rfl, post_of_below (pa := p1) (pv := []) hW' (fun _ _ _ => (trodAll_cons_mk (shut_bool Try.underlying4 _) trodAll_mk0))
    (fun sp hsp => by
      have := trodAll_cons_mk (shut_string Try.underlying9 w0) (trodAll_cons_mk (WideElems.Trod_stays Try.laidOut (by kernel_rfl) (of_decide_eq_true (by kernel_rfl)) h1k (fun x hx => hg.same (hlt x hx)) (fun x hx => hsp x (by simpa using hx))) trodAll_mk0)
      simp only [List.append_nil, List.nil_append] at this
      exact this)
    (fun _ _ => rfl) (by simp)
    hg (ok_one (by kernel_rfl) rfl (okWide_bool_mk Try.underlying4 _))⟩

theorem over : Rows.fnCaseRow.holds Try.pinned (OpenSpec.ofChange Rows.fnCaseSpec) :=
  OpenClaim.holds_of_wide 7 Try.f7 rfl rfl rfl rfl rfl rfl rfl ⟨rfl, rfl, rfl, rfl, rfl⟩ rfl rfl rfl rfl rfl (by kernel_rfl) Try.func7 (by kernel_rfl)
    (of_decide_eq_true (by kernel_rfl)) (by unfold Func.isWrapper; first | (rw [if_pos (by decide +kernel)]; kernel_rfl) | (rw [if_neg (by decide +kernel)]; exact ⟨rfl, rfl⟩))
    (fun os started H enc _ => lifted os started H enc)

/-- the statement -/
theorem proved : Rows.FnCaseSaid :=
  over
#print axioms proved
end Go.Proofs.Ytoeaiifmablbnaa.fnCase
