/- 'append(append(append([]rune(nil), out[:p]...), c), out[p:]...)': the three appends as steps of a region that draws its order. -/
import Derived.Test.YtoeaiifmablbnaaRb
import Derived.Deep.RegionLaw
namespace Go.Proofs.Ytoeaiifmablbnaa
open Go.RowKit

theorem cells_one (l : List Int) : ∀ u ∈ l.map (Value.int .i32), u.oneCell' = true := by
  intro u hu
  obtain ⟨x, _, rfl⟩ := List.mem_map.1 hu
  rfl

/-- an append to a row of the call's own, as a step -/
theorem step_app {ops : Array Oper} {o : Oper} {a : Act} {w w1 : World} {K : Act → World → Prop} {Q : Exit → Act → World → Prop} {E : Prop} (hgd : o.guard = none) (s x : Operand)
    (ho : o.op = .call { callee := .builtin .append, args := #[s, x], argTypes := #[22, 22] }) (H : Nat) (hb : Below H w1 w) (hH : H ≤ w.heap.size)
    (v : Value) (n : Nat) (xs : List Int) (hs : a.eval s = v) (hown : w.ownsRow H 21 1 v n (xs.map (Value.int .i32))) (A : Addr) (m c : Nat) (ys : List Int) (hx : a.eval x = .slice (some A) m c) (hl : ys.length = m)
    (hnews : ∀ j u, (ys.map (Value.int .i32))[j]? = some u → w.cell? (A.add j) = some u) (hbound : n + m ≤ 1000000)
    (h : ∀ v1 w2, w2.ownsRow H 21 1 v1 (n + m) ((xs ++ ys).map (Value.int .i32)) → Below H w1 w2 → w.grownBy w2 v.ownBlock → K (a.put o.dst v1) w2) :
    if Region.wanted o (yielded ops a.tmps) = true then Oper.wp Try.prog o a w K Q else E := by
  obtain ⟨i0, hi, hz0, hz1, hz2⟩ := info_parts Try.info21
  have hw : Region.wanted o (yielded ops a.tmps) = true := by simp [Region.wanted, hgd]
  rw [if_pos hw]
  refine wp_append_own w s x 22 ho H 21 i0 (.int .i32 0) 1 4 Try.underlying22 hi hz0 hz1 hz2 rfl (by decide) v n _ hs hown A m c (ys.map (Value.int .i32)) hx (by rw [List.length_map, hl, Nat.mul_one]) hnews (cells_one ys) (by unfold maxLen; omega) (by omega) hH ?_
  intro v1 w2 h1 h2 _
  rw [← List.map_append] at h1
  exact h v1 w2 h1 (hb.grown h2 hH (fun k hk => (hown.lt k hk).1)) h2

/-- the cells of a row's front and back, in every later world -/
theorem cells_front {w1 w : World} {B g cp H : Nat} {out : List Int} (hown : w1.ownsRow B 21 1 (.slice (some ⟨g, 0, none⟩) out.length cp) out.length (out.map (Value.int .i32))) (hH : H = w1.heap.size) (hb : Below H w1 w) (p : Nat) (A : Addr) (hA : A = ⟨g, 0, none⟩) :
    ∀ j u, ((out.take p).map (Value.int .i32))[j]? = some u → w.cell? (A.add j) = some u := by
  subst hH hA
  intro j u hu
  refine (own_below hown hb).cells (by simp [Value.ownBlock]) j u ?_
  rw [List.map_take] at hu
  rw [List.getElem?_take] at hu
  split at hu
  · exact hu
  · cases hu
theorem cells_back {w1 w : World} {B g cp H : Nat} {out : List Int} (hown : w1.ownsRow B 21 1 (.slice (some ⟨g, 0, none⟩) out.length cp) out.length (out.map (Value.int .i32))) (hH : H = w1.heap.size) (hb : Below H w1 w) (p : Nat) (A : Addr) (hA : p < out.length → A = ⟨g, p, none⟩) :
    ∀ j u, ((out.drop p).map (Value.int .i32))[j]? = some u → w.cell? (A.add j) = some u := by
  subst hH
  intro j u hu
  have hlt : j < out.length - p := by have := (List.getElem?_eq_some_iff.1 hu).1; simpa using this
  rw [hA (by omega)]
  have := (own_below hown hb).cells (g := g) (by simp [Value.ownBlock]) (p + j) u (by rw [← hu, List.map_drop, List.getElem?_drop])
  have e1 : (⟨g, 0, none⟩ : Addr).add (p + j) = ⟨g, p + j, none⟩ := by unfold Addr.add; split <;> simp_all
  have e2 : (⟨g, p, none⟩ : Addr).add j = ⟨g, p + j, none⟩ := by unfold Addr.add; split <;> simp_all
  rw [e2, ← e1]
  exact this
theorem cell_elem {w : World} {eb : Nat} {m : Int} (h : w.heap[eb]? = some (.cells #[.int .i32 m] 21 (0, 0))) : ∀ j u, (([m] : List Int).map (Value.int .i32))[j]? = some u → w.cell? ((⟨eb, 0, none⟩ : Addr).add j) = some u := by
  intro j u hu
  have hj : j = 0 := by have := (List.getElem?_eq_some_iff.1 hu).1; simp at this; omega
  subst hj
  have e1 : (⟨eb, 0, none⟩ : Addr).add 0 = ⟨eb, 0, none⟩ := by unfold Addr.add; split <;> simp_all
  rw [e1, cell_of_row w eb 0 _ 21 _ h]
  simpa using hu

theorem le_alloc {H : Nat} {w : World} (h : H ≤ w.heap.size) (o : Obj) : H ≤ (w.alloc o).heap.size := by simp; omega

theorem elem_kept {W w2 : World} {m : Int} {row : Option Nat} (hg : (W.alloc (.cells #[.int .i32 m] 21)).grownBy w2 row) (hr : row = none) : w2.heap[W.heap.size]? = some (.cells #[.int .i32 m] 21 (0, 0)) := by
  rw [hg.block W.heap.size (by simp) (by rw [hr]; simp)]
  exact heap_alloc_new W _

/-- what the three appends leave -/
theorem three_own {w4 : World} {B H p : Nat} {v : Value} {m : Int} {out : List Int} (hBH : B ≤ H) (hp : p ≤ out.length) (h : w4.ownsRow H 21 1 v (0 + p + 1 + (out.length - p)) ((([] ++ out.take p) ++ [m] ++ out.drop p).map (Value.int .i32))) :
    ∃ g2 cp2 : Nat, v = .slice (some ⟨g2, 0, none⟩) (out.length + 1) cp2 ∧ OwnI B (Pu.put p m out) (.slice (some ⟨g2, 0, none⟩) (out.length + 1) cp2) w4 := by
  have e : 0 + p + 1 + (out.length - p) = out.length + 1 := by omega
  have e2 : ([] ++ out.take p) ++ [m] ++ out.drop p = Pu.put p m out := by simp [Pu.put]
  rw [e, e2] at h
  have h' := h
  rcases h.2 with ⟨_, h0⟩ | ⟨g2, cp2, cur, rfl, _⟩
  · omega
  · refine ⟨g2, cp2, rfl, ?_⟩
    unfold OwnI
    rw [Pu.put_len _ _ _ hp]
    exact ownsRow_down h' hBH

/-! '[]rune(s)' -/
theorem runesFrom_scan (s : ByteArray) : ∀ (f i : Nat) (acc : Array Value), (Conv.runesFrom s f i acc).toList = acc.toList ++ (Pu.scan s f i).map (Value.int .i32)
  | 0, _, acc => by simp [Conv.runesFrom, Pu.scan]
  | f + 1, i, acc => by
    unfold Conv.runesFrom Pu.scan
    split
    · rw [runesFrom_scan s f _ _]; simp
    · simp

/-- '[]rune(s)', s of ASCII -/
theorem to_runes (w : World) (F : ByteArray) (hF : ∀ c ∈ Pu.bl F, c.toNat < 128) (hz : F.size ≤ 100000) : ∃ (cap : Nat) (W : World), (convert 9 22 (.string F)).run Try.prog w = .ok (.slice (some ⟨w.heap.size, 0, none⟩) F.size cap) W ∧
    OwnI w.heap.size (Pu.cps (Pu.bl F)) (.slice (some ⟨w.heap.size, 0, none⟩) F.size cap) W ∧ Below w.heap.size w W ∧ w.heap.size < W.heap.size := by
  have hsc : Pu.scan F F.size 0 = Pu.cps (Pu.bl F) := by
    have := Pu.scan_utf F (Pu.cps (Pu.bl F)) [] F.size (Pu.cps_ok hF) (by rw [Pu.utf_cps _ hF]; rfl) (by rw [Pu.cps_len, Pu.bl_size]; omega)
    simpa using this
  have hl : (Conv.runesFrom F F.size 0 #[]).toList = (Pu.cps (Pu.bl F)).map (Value.int .i32) := by rw [runesFrom_scan, hsc]; simp
  have hn : (Conv.runesFrom F F.size 0 #[]).size = F.size := by rw [← Array.length_toList, hl, List.length_map, Pu.cps_len, Pu.bl_size]
  have hr := run_runes_of_string (P := Try.prog) w 9 22 21 F Try.underlying9 Try.underlying22 Try.underlying21 (by omega)
  rw [hn] at hr
  have hge := grownCap_ge w F.size 0 21
  have hle := grownCap_le_maxLen w F.size 0 21 (by unfold maxLen; omega)
  refine ⟨_, _, hr, ?_, Below.alloc (Below.drew (Below.refl _ w)) (Nat.le_refl _) _, by simp⟩
  refine ⟨by rw [List.length_map, Nat.mul_one], .inr ⟨w.heap.size, _, _, ?_, Nat.le_refl _, heap_alloc_new w.drew _, ?_, hle, ?_, ?_⟩⟩
  · rw [Pu.cps_len, ← Pu.bl_size]
  · rw [Pu.cps_len, ← Pu.bl_size]; exact hge
  · rw [Array.size_append, hn, Array.size_replicate]; omega
  · rw [Nat.mul_one, Array.toList_append, List.take_append_of_le_length (by rw [hl, List.length_map]; exact Nat.le_refl _), hl, List.take_of_length_le (by simp)]

end Go.Proofs.Ytoeaiifmablbnaa
namespace Go.Proofs.Ytoeaiifmablbnaa.Pu

theorem sd_go (l : List UInt8) (s : DS) (i : Int) (r : List UInt8) (h : dnum l 36 s.bias 1 s.i = (1, i, r)) :
    sd l s = if 1114111 < (dstep s i).n then (2, []) else if 55296 ≤ (dstep s i).n ∧ (dstep s i).n < 57344 then (3, []) else sd r (dstep s i) := by
  have hne : l ≠ [] := by rintro rfl; simp [dnum] at h
  obtain ⟨n, hn⟩ : ∃ n, l.length = n + 1 := ⟨l.length - 1, by have := List.length_pos_iff.2 hne; omega⟩
  have hs := dnum_shorter l 36 s.bias 1 s.i (by rw [h])
  rw [h] at hs
  simp only at hs
  unfold sd
  rw [hn, sdec, if_neg hne, h]
  simp only
  rw [if_pos trivial, sdec_fuel n r.length r _ (by omega) (by omega)]
theorem sd_no (l : List UInt8) (s : DS) (hne : l ≠ []) (h : (dnum l 36 s.bias 1 s.i).1 ≠ 1) : sd l s = ((dnum l 36 s.bias 1 s.i).1, []) := by
  obtain ⟨n, hn⟩ : ∃ n, l.length = n + 1 := ⟨l.length - 1, by have := List.length_pos_iff.2 hne; omega⟩
  unfold sd
  rw [hn, sdec, if_neg hne, if_neg h]

end Go.Proofs.Ytoeaiifmablbnaa.Pu
