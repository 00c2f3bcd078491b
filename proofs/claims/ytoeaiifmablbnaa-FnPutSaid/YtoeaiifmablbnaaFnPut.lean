/- FnPut: for all texts of UTF-8, one code point more at any place comes back there. Conditions: none but the form's own. -/
import Derived.Test.YtoeaiifmablbnaaAp
import Derived.Test.YtoeaiifmablbnaaRu
import Derived.DataShut
namespace Go.Proofs.Ytoeaiifmablbnaa.fnPut
open Go.ChangeShapes Go.WideShapes Go.ChangeAt Go.RowKit
open Go.ChangeMaps (open_string shut_string)
set_option linter.unusedVariables false

/-- an append of nothing, as a step -/
theorem step_app_none {ops : Array Oper} {o : Oper} {a : Act} {w : World} {K : Act → World → Prop} {Q : Exit → Act → World → Prop} {E : Prop} (hgd : o.guard = none) (s x : Operand)
    (ho : o.op = .call { callee := .builtin .append, args := #[s, x], argTypes := #[22, 22] }) (H : Nat) (v : Value) (n : Nat) (xs : List Value) (hs : a.eval s = v) (hown : w.ownsRow H 21 1 v n xs) (hx : a.eval x = .slice none 0 0)
    (h : K (a.put o.dst v) w) : if Region.wanted o (yielded ops a.tmps) = true then Oper.wp Try.prog o a w K Q else E := by
  obtain ⟨i0, hi, hz0, hz1, hz2⟩ := info_parts Try.info21
  have hw : Region.wanted o (yielded ops a.tmps) = true := by simp [Region.wanted, hgd]
  rw [if_pos hw]
  have hrun := run_append_owned_none (P := Try.prog) (w := w) H 22 o.type 21 i0 1 Try.underlying22 hi v n xs hown
  unfold Oper.wp
  simp [execOp, ho, resolve, invoke, builtin, hs, hx, hrun, Result.andThen]
  exact h

theorem one_own {w4 : World} {B H : Nat} {v : Value} {c : Int} (hBH : B ≤ H) (h : w4.ownsRow H 21 1 v (0 + 1) ((([] : List Int) ++ [c]).map (Value.int .i32))) :
    ∃ g2 cp2 : Nat, v = .slice (some ⟨g2, 0, none⟩) (([] : List Int).length + 1) cp2 ∧ OwnI B (Pu.put 0 c []) (.slice (some ⟨g2, 0, none⟩) (([] : List Int).length + 1) cp2) w4 := by
  have h' := h
  rcases h.2 with ⟨_, h0⟩ | ⟨g2, cp2, cur, rfl, _⟩
  · omega
  · exact ⟨g2, cp2, rfl, ownsRow_down h' hBH⟩

theorem put_ok {l : List Int} {k : Nat} {c : Int} (hl : ∀ d ∈ l, Pu.okc d ∧ d ≠ 65533) (hc : Pu.okc c ∧ c ≠ 65533) : ∀ d ∈ Pu.put k c l, Pu.okc d ∧ d ≠ 65533 := by
  intro d hd
  unfold Pu.put at hd
  rcases List.mem_append.1 hd with hd | hd
  · exact hl d (List.mem_of_mem_take hd)
  · rcases List.mem_cons.1 hd with rfl | hd
    · exact hc
    · exact hl d (List.mem_of_mem_drop hd)

set_option maxRecDepth 100000 in
set_option maxHeartbeats 2000000 in
theorem walk (a0 : ByteArray) (a1 a2 : Int) (w0 : a0.size ≤ 140737488351232) (w1 : (Lit.int .i32 a1).wf = true) (w2 : (Lit.int .i64 a2).wf = true) (w : World) :
    Calls Try.prog 14 #[.string a0, .int .i32 a1, .int .i64 a2] w fun e w' => e = .returned (.bool true) ∧ Below w.heap.size w w' := by
  obtain ⟨x1, x2⟩ : -2147483648 ≤ a1 ∧ a1 ≤ 2147483647 := by have := (Lit.wf_int_iff _ _).1 w1; exact this
  obtain ⟨y1, y2⟩ : -9223372036854775808 ≤ a2 ∧ a2 ≤ 9223372036854775807 := by have := (Lit.wf_int_iff _ _).1 w2; exact this
  clear w1 w2
  have hone := Lib.hid (runesOf_one a1)
  have hez := encode_small a1
  go_enter Try.func14, Try.ntmps14
  go_wp2_with fail
  refine (runes_any a0 200 _ (by omega)).mono ?_
  rintro e w1 ⟨v, rfl, hown, hb1⟩
  have hl := runesOf_len a0 200
  have hok := Lib.hid (runesOf_ok a0 200)
  obtain ⟨ad, cp, rfl⟩ := own_form hown
  generalize RunesOf a0 200 = l at *
  go_wp2_with fail
  refine (runes_any (Utf8.encode a1) 1 _ (by omega)).mono ?_
  rintro e w2 ⟨v, rfl, hownx, hb2⟩
  obtain ⟨adx, cpx, rfl⟩ := own_form hownx
  clear hownx
  have hown2 : OwnI w.heap.size l (.slice ad l.length cp) w2 := own_below hown hb2
  have hbw : Below w.heap.size w w2 := below_then hb1 (Nat.le_refl _) hb2
  clear hown hb1 hb2
  obtain ⟨L, hL⟩ : ∃ L, (RunesOf (Utf8.encode a1) 1).length = L := ⟨_, rfl⟩
  rw [hL] at hone ⊢
  clear hL
  obtain ⟨zb, hzb⟩ : ∃ zb, ((L : Int) == 0) = zb := ⟨_, rfl⟩
  go_upto_if 22 with fail
  go_cut [1] (fun cv wr => ∃ c : Int, cv = .int .i32 c ∧ Pu.okc c ∧ c ≠ 65533 ∧ w2 = wr)
  case first =>
    have Hzb := Lib.hid hzb
    clear hzb
    cases zb
    · go_wp2
      go_meet
      rcases hone.out with ⟨h1, h2, h3⟩ | ⟨h1, h2⟩
      · exact ⟨a1, rfl, h1, h2, rfl⟩
      · have := Hzb.out; rw [h2] at this; simp at this
    · go_wp2
      go_meet
      exact ⟨98, rfl, by unfold Pu.okc; omega, by omega, rfl⟩
  case rest =>
    obtain ⟨c, rfl, hc1, hc2, rfl⟩ := hcut
    have Hc := Lib.hid (show Pu.okc c ∧ c ≠ 65533 from ⟨hc1, hc2⟩)
    have hc3 : 0 ≤ c ∧ c ≤ 1114111 := by unfold Pu.okc at hc1; omega
    obtain ⟨c0, c1⟩ := hc3
    clear hc1 hc2 hone hez hzb
    have hr1 : -(l.length : Int) ≤ a2.tmod ((l.length : Int) + 1) ∧ a2.tmod ((l.length : Int) + 1) ≤ l.length := by
      constructor
      · have := Int.lt_tmod_of_pos a2 (show (0 : Int) < (l.length : Int) + 1 by omega); omega
      · have := Int.tmod_lt_of_pos a2 (show (0 : Int) < (l.length : Int) + 1 by omega); omega
    obtain ⟨r1, hr⟩ : ∃ r1, a2.tmod ((l.length : Int) + 1) = r1 := ⟨_, rfl⟩
    rw [hr] at hr1
    obtain ⟨r10, r11⟩ := hr1
    have hm0 := Int.emod_nonneg (r1 + l.length + 1) (show (l.length : Int) + 1 ≠ 0 by omega)
    have hm1 := Int.emod_lt_of_pos (r1 + l.length + 1) (show (0 : Int) < (l.length : Int) + 1 by omega)
    obtain ⟨k, hK⟩ : ∃ k : Nat, (r1 + l.length + 1) % ((l.length : Int) + 1) = k := ⟨((r1 + l.length + 1) % ((l.length : Int) + 1)).toNat, by omega⟩
    rw [hK] at hm0 hm1
    have hk : k ≤ l.length := by omega
    have HK := Lib.hid hK
    clear hK hm0 hm1
    obtain ⟨wr, rfl⟩ : ∃ wr : World, wr = w2 := ⟨_, rfl⟩
    have hWz : w.heap.size ≤ wr.heap.size := hbw.size
    go_upto_region 6 with fail
    rw [HK.out]
    clear hr HK r10 r11 x1 x2 y1 y2
    go_cut [10] (fun o w2 => ∃ (g2 cp2 : Nat), o = .slice (some ⟨g2, 0, none⟩) (l.length + 1) cp2 ∧ OwnI w.heap.size (Pu.put k c l) (.slice (some ⟨g2, 0, none⟩) (l.length + 1) cp2) w2 ∧ Below w.heap.size w w2)
    case first =>
      rcases hown2.2 with ⟨h1, h2⟩ | ⟨g, cap', cur, h1, _, _, hcap, _⟩
      · simp only [Value.slice.injEq] at h1
        obtain ⟨rfl, _, rfl⟩ := h1
        obtain rfl : l = [] := List.eq_nil_of_length_eq_zero h2
        obtain rfl : k = 0 := by simpa using hk
        have hbA : Below wr.heap.size wr (wr.drew.alloc (.cells #[.int .i32 c] 21)) := Below.alloc (Below.drew (Below.refl _ _)) (Nat.le_refl _) _
        go_region_law (first
          | (refine step_app_none (by rfl) (.const (.slice none 0 0)) (.tmp 38) (by rfl) wr.heap.size (.slice none 0 0) 0 [] (by rfl) (World.ownsRow_nil _ _ _ _) (by simp [Act.eval, Act.put]) ?_)
          | (refine step_app (by rfl) (.tmp 39) (.tmp 41) (by rfl) wr.heap.size hbA (le_alloc (Nat.le_refl _) _) (.slice none 0 0) 0 [] (by simp [Act.eval]) (World.ownsRow_nil _ _ _ _) ⟨wr.heap.size, 0, none⟩ 1 1 [c] (by simp [Act.eval]) rfl (cell_elem (heap_alloc_new wr.drew _)) (by omega) ?_; intro v2 w3 hown3 hb3 hg3)
          | (refine step_app_none (by rfl) (.tmp 42) (.tmp 45) (by rfl) wr.heap.size v2 (0 + 1) _ (by simp [Act.eval]) hown3 (by simp [Act.eval]) ?_))
        all_goals
          go_wp2_with fail
          go_meet
          obtain ⟨g2, cp2, e1, e2⟩ := one_own (B := w.heap.size) hWz hown3
          exact ⟨g2, cp2, e1, e2, below_then hbw (Nat.le_refl _) hb3⟩
      · simp only [Value.slice.injEq] at h1
        obtain ⟨rfl, _, rfl⟩ := h1
        have hw2 : (0 : Int) ≤ (k : Int) := by omega
        have hw3 : (k : Int) ≤ (l.length : Int) := by omega
        have hw4 : (k : Int) ≤ (cp : Int) := by omega
        have hw5 : k ≤ cp := by omega
        have hcf := Lib.hid (fun w' (hb' : Below wr.heap.size wr w') => cells_front hown2 rfl hb' k)
        have hcb := Lib.hid (fun w' (hb' : Below wr.heap.size wr w') => cells_back hown2 rfl hb' k)
        have hbA : Below wr.heap.size wr wr.drew := Below.drew (Below.refl _ _)
        have hbB : Below wr.heap.size wr (wr.drew.alloc (.cells #[.int .i32 c] 21)) := Below.alloc (Below.drew (Below.refl _ _)) (Nat.le_refl _) _
        have hl1 : Hid ((l.take k).length = k) := by
          show _ = _
          rw [List.length_take]; omega
        have hl2 : Hid ((l.drop k).length = l.length - k) := List.length_drop
        by_cases hcc : cp = k
        · subst hcc
          go_region_law (first
            | (refine step_app (by rfl) (.const (.slice none 0 0)) (.tmp 38) (by rfl) wr.heap.size hbA (Nat.le_refl _) (.slice none 0 0) 0 [] (by rfl) (World.ownsRow_nil _ _ _ _) ⟨g, 0, none⟩ cp cp (l.take cp) (by simp [Act.eval, Act.put]) hl1.out (hcf.out _ hbA _ rfl) (by omega) ?_; intro v1 w2 hown2 hb2 hg2)
            | (refine step_app (by rfl) (.const (.slice none 0 0)) (.tmp 38) (by rfl) wr.heap.size hbB (le_alloc (Nat.le_refl _) _) (.slice none 0 0) 0 [] (by rfl) (World.ownsRow_nil _ _ _ _) ⟨g, 0, none⟩ cp cp (l.take cp) (by simp [Act.eval]) hl1.out (hcf.out _ hbB _ rfl) (by omega) ?_; intro v1 w2 hown2 hb2 hg2; have hel := Lib.hid (show w2.heap[wr.heap.size]? = some (.cells #[.int .i32 c] 21 (0, 0)) from elem_kept (W := wr.drew) (m := c) hg2 rfl))
            | (refine step_app (by rfl) (.tmp 39) (.tmp 41) (by rfl) wr.heap.size (hb2.alloc hb2.size _) (le_alloc hb2.size _) v1 (0 + cp) ([] ++ l.take cp) (by simp [Act.eval]) (hown2.alloc _) ⟨w2.heap.size, 0, none⟩ 1 1 [c] (by simp [Act.eval]) rfl (cell_elem (heap_alloc_new w2 _)) (by omega) ?_; intro v2 w3 hown3 hb3 hg3)
            | (refine step_app (by rfl) (.tmp 42) (.tmp 45) (by rfl) wr.heap.size hb3 hb3.size v2 (0 + cp + 1) (([] ++ l.take cp) ++ [c]) (by simp [Act.eval]) hown3 ⟨g, 0, none⟩ (l.length - cp) 0 (l.drop cp) (by simp [Act.eval]; omega) hl2.out (hcb.out _ hb3 ⟨g, 0, none⟩ (fun h => absurd h (by omega))) (by omega) ?_; intro v3 w4 hown4 hb4 hg4)
            | (refine step_app (by rfl) (.tmp 39) (.tmp 41) (by rfl) wr.heap.size hb2 hb2.size v1 (0 + cp) ([] ++ l.take cp) (by simp [Act.eval]) hown2 ⟨wr.heap.size, 0, none⟩ 1 1 [c] (by simp [Act.eval]) rfl (cell_elem hel.out) (by omega) ?_; intro v2 w3 hown3 hb3 hg3))
          all_goals
            go_wp2_with fail
            go_meet
            obtain ⟨g2, cp2, e1, e2⟩ := three_own (B := w.heap.size) hWz hk hown4
            exact ⟨g2, cp2, e1, e2, below_then hbw (Nat.le_refl _) hb4⟩
        · go_region_law (first
            | (refine step_app (by rfl) (.const (.slice none 0 0)) (.tmp 38) (by rfl) wr.heap.size hbA (Nat.le_refl _) (.slice none 0 0) 0 [] (by rfl) (World.ownsRow_nil _ _ _ _) ⟨g, 0, none⟩ k cp (l.take k) (by simp [Act.eval, Act.put]) hl1.out (hcf.out _ hbA _ rfl) (by omega) ?_; intro v1 w2 hown2 hb2 hg2)
            | (refine step_app (by rfl) (.const (.slice none 0 0)) (.tmp 38) (by rfl) wr.heap.size hbB (le_alloc (Nat.le_refl _) _) (.slice none 0 0) 0 [] (by rfl) (World.ownsRow_nil _ _ _ _) ⟨g, 0, none⟩ k cp (l.take k) (by simp [Act.eval]) hl1.out (hcf.out _ hbB _ rfl) (by omega) ?_; intro v1 w2 hown2 hb2 hg2; have hel := Lib.hid (show w2.heap[wr.heap.size]? = some (.cells #[.int .i32 c] 21 (0, 0)) from elem_kept (W := wr.drew) (m := c) hg2 rfl))
            | (refine step_app (by rfl) (.tmp 39) (.tmp 41) (by rfl) wr.heap.size (hb2.alloc hb2.size _) (le_alloc hb2.size _) v1 (0 + k) ([] ++ l.take k) (by simp [Act.eval]) (hown2.alloc _) ⟨w2.heap.size, 0, none⟩ 1 1 [c] (by simp [Act.eval]) rfl (cell_elem (heap_alloc_new w2 _)) (by omega) ?_; intro v2 w3 hown3 hb3 hg3)
            | (refine step_app (by rfl) (.tmp 42) (.tmp 45) (by rfl) wr.heap.size hb3 hb3.size v2 (0 + k + 1) (([] ++ l.take k) ++ [c]) (by simp [Act.eval]) hown3 ⟨g, k, none⟩ (l.length - k) (cp - k) (l.drop k) (by simp [Act.eval]) hl2.out (hcb.out _ hb3 ⟨g, k, none⟩ (fun _ => rfl)) (by omega) ?_; intro v3 w4 hown4 hb4 hg4)
            | (refine step_app (by rfl) (.tmp 39) (.tmp 41) (by rfl) wr.heap.size hb2 hb2.size v1 (0 + k) ([] ++ l.take k) (by simp [Act.eval]) hown2 ⟨wr.heap.size, 0, none⟩ 1 1 [c] (by simp [Act.eval]) rfl (cell_elem hel.out) (by omega) ?_; intro v2 w3 hown3 hb3 hg3))
          all_goals
            go_wp2_with fail
            go_meet
            obtain ⟨g2, cp2, e1, e2⟩ := three_own (B := w.heap.size) hWz hk hown4
            exact ⟨g2, cp2, e1, e2, below_then hbw (Nat.le_refl _) hb4⟩
    case rest =>
      clear hown2 hbw hWz
      obtain ⟨g2, cp2, rfl, hown3, hbw⟩ := hcut
      have hpl := Pu.put_len k c l hk
      have hpok := Lib.hid (put_ok (k := k) hok.out Hc.out)
      rw [← hpl] at hown3 ⊢
      have hml : (Pu.put k c l).length ≤ 201 := by omega
      clear hpl hok Hc
      generalize Pu.put k c l = m at *
      have hcv := own_runes hown3
      have hS := Lib.hid (Pu.bl_bs (Pu.utf m))
      generalize Pu.bs (Pu.utf m) = S at *
      go_wp2_with fail
      refine (encode_plain S m _ hS.out (by omega) hpok.out).mono ?_
      rintro e w4 ⟨rfl, hb4⟩
      have hE := Lib.hid (Pu.bl_bs (Pu.enc m))
      have hse := Lib.hid (fun B (ad : Option Addr) cp w (h : OwnI B m (.slice ad m.length cp) w) => specEncode_any m B ad cp w h (by omega) (fun c hc => (hpok.out c hc).1))
      unfold SePost at hse
      generalize Pu.bs (Pu.enc m) = E at *
      clear hcv
      go_wp2_with fail
      refine (decode_enc E m _ hE.out (by omega) (fun c hc => (hpok.out c hc).1)).mono ?_
      rintro e w5 ⟨rfl, hb5⟩
      rw [show Pu.bs (Pu.utf m) = S from (Pu.eq_bs hS.out).symm]
      have hown5 := own_below (own_below hown3 hb4) hb5
      have hcv : (convert 22 9 (.slice (some ⟨g2, 0, none⟩) m.length cp2)).run Try.prog w5 = .ok (.string S) w5 := by
        rw [own_runes hown5, show Pu.bs (Pu.utf m) = S from (Pu.eq_bs hS.out).symm]
      go_wp2_with fail
      refine (hse.out w.heap.size _ _ _ hown5).mono ?_
      rintro e w6 ⟨rfl, hb6⟩
      go_wp2
      go_ret
      exact ⟨rfl, below_then (below_then (below_then hbw (Nat.le_refl _) hb4) (Nat.le_refl _) hb5) (Nat.le_refl _) hb6⟩

/-! ### the row's step -/
set_option maxRecDepth 100000 in
theorem lifted (os : Os) (started : os.Started) (H : Type) (enc : TypeId × Value → H) :
    ReturnsInHanded {} Try.checked os 14 .any (Rows.fnPutSpec.pre6 enc Try.prog Try.f14 Rows.fnPutRow.domain false) (Rows.fnPutSpec.post enc Try.prog Try.f14 false true false false) := by
  refine returnsInHanded_of_change_sized (C := Try.checked) Try.own started (by kernel_rfl) Try.func14
    (ChangeSpec.witness6 (enc := enc) (C := Try.checked) false ⟨#[], #[.string ByteArray.empty, .int .i32 0, .int .i64 0], []⟩ 8 (by kernel_rfl) (by kernel_rfl) (by kernel_rfl) (by kernel_rfl)) ?_
  intro W base args ds gs before hval0 hW hcnd hsz0 _
  have hval : ∀ (j : Nat) t v, Try.f14.params[j]? = some t → args[j]? = some v → Value.okWide Try.prog W .any base t v := hval0
  have hsz : (DataW.weightsEach Try.prog (Try.f14.params.toList ++ Rows.fnPutSpec.plain.varTypes Try.prog) (ds ++ gs)).all (· ≤ reachBytes) = true := hsz0
  have hW' := hW
  obtain ⟨p, q, hA0, hV, rfl, hfz, hnd⟩ := hW
  have hA : DataW.TrodAll enc Try.prog W 0 (fun _ => true) true Try.f14.params.toList args.toList ds p := hA0
  rw [Try.params14] at hA hval hsz
  obtain ⟨v0, vs0, d0, ds0, p0, q0, hargs, rfl, rfl, h0, r0⟩ := trodAll_cons hA
  obtain ⟨v1, vs1, d1, ds1, p1, q1, rfl, rfl, rfl, h1, r1⟩ := trodAll_cons r0
  obtain ⟨v2, vs2, d2, ds2, p2, q2, rfl, rfl, rfl, h2, r2⟩ := trodAll_cons r1
  obtain ⟨rfl, rfl, rfl⟩ := trodAll_nil r2
  obtain rfl : args = #[v0, v1, v2] := by cases args; simp_all
  obtain ⟨rfl, rfl⟩ := trodVars_none hV
  obtain ⟨a0, rfl, rfl, rfl, w0⟩ := open_string Try.underlying9 (hval 0 9 v0 rfl rfl) h0
  obtain ⟨a1, rfl, rfl, rfl, w1⟩ := open_int Try.underlying21 (hval 1 21 v1 rfl rfl) h1
  obtain ⟨a2, rfl, rfl, rfl, w2⟩ := open_int Try.underlying3 (hval 2 3 v2 rfl rfl) h2
  have s0 : a0.size ≤ 140737488351232 := sized_string hsz (j := 0) (t := 9) (bytes := a0.data.toList) rfl rfl
  clear hA0 hval0 hsz0 hsz
  simp only [List.append_nil] at hW'
  refine (walk a0 a1 a2 s0 w1 w2 W).mono fun e W' ⟨he, hg⟩ => ?_
  subst he
  exact ⟨_, rfl, post_of_below (pa := []) (pv := []) hW' (fun _ _ _ => (trodAll_cons_mk (shut_bool Try.underlying4 _) trodAll_mk0)) (fun sp _ => (trodAll_cons_mk (shut_string Try.underlying9 w0) (trodAll_cons_mk (shut_int Try.underlying21 w1) (trodAll_cons_mk (shut_int Try.underlying3 w2) trodAll_mk0)))) (fun _ _ => rfl) rfl
    hg (ok_one (by kernel_rfl) rfl (okWide_bool_mk Try.underlying4 _))⟩

theorem over : Rows.fnPutRow.holds Try.pinned (OpenSpec.ofChange Rows.fnPutSpec) :=
  OpenClaim.holds_of_wide 14 Try.f14 rfl rfl rfl rfl rfl rfl rfl ⟨rfl, rfl, rfl, rfl, rfl⟩ rfl rfl rfl rfl rfl (by kernel_rfl) Try.func14 (by kernel_rfl)
    (of_decide_eq_true (by kernel_rfl)) (by unfold Func.isWrapper; first | (rw [if_pos (by decide +kernel)]; kernel_rfl) | (rw [if_neg (by decide +kernel)]; exact ⟨rfl, rfl⟩))
    (fun os started H enc _ => lifted os started H enc)

/-- the statement -/
theorem proved : Rows.FnPutSaid :=
  over
#print axioms proved
end Go.Proofs.Ytoeaiifmablbnaa.fnPut
