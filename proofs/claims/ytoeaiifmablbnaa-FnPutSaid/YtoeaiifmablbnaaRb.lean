/- A row of bytes that '[]byte(s)' made: read, written, turned back; spec.Lowered. -/
import Derived.Test.YtoeaiifmablbnaaPl
import Derived.Laws.IdiomStrings
namespace Go.Proofs.Ytoeaiifmablbnaa
open Go.RowKit

/-- the bytes q lie at the head of block g, made by a conversion -/
def RowB (g : Nat) (q : List UInt8) (w : World) : Prop := ∃ cs : Array Value, w.heap[g]? = some (.cells cs 5 (cs.size, cs.size + 1)) ∧ q.length ≤ cs.size ∧ cs.toList.take q.length = Lib.byteCells q

theorem rowB_new (w : World) (S : ByteArray) : ∃ (cap : Nat) (W : World), (convert 9 36 (.string S)).run Try.prog w = .ok (.slice (some ⟨w.heap.size, 0, none⟩) S.size cap) W ∧ S.size ≤ cap ∧ RowB w.heap.size (Pu.bl S) W ∧ Below w.heap.size w W := by
  have h := run_bytes_of_string (P := Try.prog) w 9 36 5 S Try.underlying9 Try.underlying36 Try.underlying5
  have hge := grownCap_ge w S.size 0 5
  refine ⟨_, _, h, hge, ⟨_, heap_alloc_new w.drew _, ?_, ?_⟩, Below.alloc (Below.drew (Below.refl _ w)) (Nat.le_refl _) _⟩
  · unfold bytesRow
    rw [← Pu.bl_size]
    simp
  · unfold bytesRow
    rw [← Pu.bl_size]
    rw [Array.toList_append, List.take_append_of_le_length (by simp), List.take_of_length_le (by simp)]
    simp [Lib.byteCells, Pu.bl]

theorem rowB_cell {g : Nat} {q : List UInt8} {w : World} (h : RowB g q w) {j : Nat} {b : UInt8} (hj : q[j]? = some b) : w.cell? ⟨g, j, none⟩ = some (.int .u8 b.toNat) := by
  obtain ⟨cs, h1, h2, h3⟩ := h
  have hlt := (List.getElem?_eq_some_iff.1 hj).1
  have e : cs.toList[j]? = some (.int .u8 b.toNat) := by
    have : (cs.toList.take q.length)[j]? = (Lib.byteCells q)[j]? := by rw [h3]
    rw [List.getElem?_take_of_lt hlt] at this
    rw [this]
    simp [Lib.byteCells, hj]
  rw [cell_of_row w g j cs 5 _ h1]
  simpa using e

theorem rowB_frozen {g : Nat} {q : List UInt8} {w : World} (h : RowB g q w) {j : Nat} (hj : j < q.length) : w.frozen? ⟨g, j, none⟩ = false := by
  obtain ⟨cs, h1, h2, h3⟩ := h
  simp [World.frozen?, h1]
  omega

theorem rowB_set {g : Nat} {q : List UInt8} {w : World} (h : RowB g q w) (j : Nat) (b : UInt8) : RowB g (q.set j b) (w.setCell ⟨g, j, none⟩ (.int .u8 b.toNat)) := by
  obtain ⟨cs, h1, h2, h3⟩ := h
  refine ⟨cs.setIfInBounds j (.int .u8 b.toNat), ?_, ?_, ?_⟩
  · rw [setCell_eq_setRow w g j cs 5 _ _ h1, setRow_heap w g cs _ 5 _ h1]
    simp
  · simpa using h2
  · rw [Array.toList_setIfInBounds, List.length_set, List.take_set, h3]
    simp [Lib.byteCells]

theorem rowB_string {g : Nat} {q : List UInt8} {w : World} (h : RowB g q w) (cap : Nat) : (convert 36 9 (.slice (some ⟨g, 0, none⟩) q.length cap)).run Try.prog w = .ok (.string (Pu.bs q)) w := by
  rw [run_convert_bytes_back w 36 9 5 ⟨g, 0, none⟩ cap q Try.underlying36 Try.underlying5 Try.underlying9]
  · rfl
  · intro j hj
    have hadd : (⟨g, 0, none⟩ : Addr).add j = ⟨g, j, none⟩ := by unfold Addr.add; split <;> simp_all
    rw [hadd]
    exact rowB_cell h (List.getElem?_eq_getElem hj)

/-- how long what stands behind the last hyphen is -/
theorem back_len (s : ByteArray) : (backOf s).size ≤ s.size ∧ Pu.bl s = (Pu.bl s).take (s.size - (backOf s).size) ++ Pu.bl (backOf s) := by
  have hr := Pu.hyp_rng (Pu.bl s) s.size
  have hz : s.size = (Pu.bl s).length := Pu.bl_size s
  unfold backOf
  split
  · rw [Pu.bs_size, List.length_drop, Pu.bl_bs]
    refine ⟨by omega, ?_⟩
    have : s.size - ((Pu.bl s).length - ((Pu.hyp (Pu.bl s) s.size).toNat + 1)) = (Pu.hyp (Pu.bl s) s.size).toNat + 1 := by omega
    rw [this, List.take_append_drop]
  · refine ⟨Nat.le_refl _, ?_⟩
    rw [Nat.sub_self]; simp

/-- the text with small letters behind the last hyphen -/
def lowered (s : ByteArray) : List UInt8 := (Pu.bl s).take (s.size - (backOf s).size) ++ (Pu.bl (backOf s)).map Pu.low

theorem low_id {c : UInt8} (h : ¬ (65 ≤ (c.toNat : Int) ∧ (c.toNat : Int) ≤ 90)) : Pu.low c = c := by unfold Pu.low; rw [if_neg (by omega)]
theorem low_up {c : UInt8} (h : 65 ≤ (c.toNat : Int) ∧ (c.toNat : Int) ≤ 90) : ((Pu.low c).toNat : Int) = (c.toNat : Int) - 65 + 97 := by
  rw [Pu.low_toNat, if_pos h]; omega

theorem set_mid (a b : List UInt8) (c d : UInt8) : (a ++ c :: b).set a.length d = a ++ d :: b := by
  rw [List.set_append_right _ _ (Nat.le_refl _), Nat.sub_self]; rfl

set_option maxRecDepth 100000 in
set_option maxHeartbeats 1000000 in
theorem lowered_any (s : ByteArray) (w : World) (hs : s.size ≤ 100000) :
    Calls Try.prog 23 #[.string s] w fun e w' => e = .returned (.string (Pu.bs (lowered s))) ∧ Below w.heap.size w w' := by
  obtain ⟨hbl, hsp⟩ := back_len s
  have hsz := Pu.bl_size s
  have hbz := Pu.bl_size (backOf s)
  unfold lowered
  generalize hB : backOf s = bk at *
  have HB := Lib.hid hB
  obtain ⟨x, hx⟩ : ∃ x, (Pu.bl s).take (s.size - bk.size) = x := ⟨_, rfl⟩
  rw [hx] at hsp ⊢
  obtain ⟨r, hr⟩ : ∃ r, Pu.bl bk = r := ⟨_, rfl⟩
  rw [hr] at hsp hbz ⊢
  have hxl : x.length = s.size - bk.size := by rw [← hx, List.length_take]; omega
  have hxl2 : ((s.size : Int) - (bk.size : Int)) = x.length := by omega
  have Hsp := Lib.hid hsp
  have Hsz : Hid (s.size = x.length + r.length) := by
    show _ = _
    rw [hsz, hsp, List.length_append]
  have hxs : x.length ≤ s.size := by omega
  clear hx hr hB hsp hsz hbz hxl
  go_enter Try.func23, Try.ntmps23
  go_wp2_with fail
  refine (split_any s _ (by omega)).mono ?_
  rintro e w1 ⟨rfl, nd, rfl⟩
  rw [HB.out]
  obtain ⟨cap, W, hcv, hcap, hrow, hbw⟩ := rowB_new (w.drewN nd) s
  have hbw0 : Below w.heap.size w W := (below_drewN (Below.refl _ w) nd).trans hbw
  have hgz : (w.drewN nd).heap.size = w.heap.size := rfl
  rw [hgz] at hcv hrow
  clear hbw hgz
  go_wp2_with fail
  clear hxl2 hcv
  go_loopg [6] r.length (fun k i wr => ∃ (p rest : List UInt8), r = p ++ rest ∧ rest.length = k ∧ i = .int .i64 ((x.length + p.length : Nat) : Int) ∧ RowB w.heap.size (x ++ p.map Pu.low ++ rest) wr ∧ Below w.heap.size w wr)
  case atStart => exact ⟨[], r, rfl, rfl, by simp, by rw [Hsp.out] at hrow; simpa using hrow, hbw0⟩
  case round =>
    clear hrow hbw0
    obtain ⟨p, rest, hpr, hk, rfl, hrow, hbw⟩ := hrel
    have Hpr := Lib.hid hpr
    have Hk := Lib.hid hk
    have hlen : Hid (s.size = x.length + p.length + rest.length) := by
      show _ = _
      have := Hsz.out
      rw [this, hpr, List.length_append]; omega
    clear hpr hk
    obtain ⟨j, hj⟩ : ∃ j, x.length + p.length = j := ⟨_, rfl⟩
    rw [hj]
    have Hj := Lib.hid hj
    clear hj
    cases rest with
    | nil =>
      have hjs : ¬ j < s.size := by have h1 := hlen.out; have h2 := Hj.out; simp at h1; omega
      have hjs2 : s.size ≤ j := by omega
      have hql : (x ++ p.map Pu.low ++ []).length = s.size := by
        have h1 := hlen.out
        simp at h1 ⊢; omega
      have hcv2 := rowB_string hrow cap
      rw [hql] at hcv2
      have Hq : Hid (x ++ p.map Pu.low ++ [] = x ++ r.map Pu.low) := by
        show _ = _
        rw [Hpr.out]; simp
      rw [Hq.out] at hcv2
      clear hql
      go_wp2
      go_ret
      exact ⟨rfl, hbw⟩
    | cons c rest =>
      have hjs : j < s.size := by have h1 := hlen.out; have h2 := Hj.out; simp at h1; omega
      have hqj : (x ++ p.map Pu.low ++ c :: rest)[j]? = some c := by
        rw [List.getElem?_append_right (by have := Hj.out; simp; omega)]
        have : j - (x ++ p.map Pu.low).length = 0 := by have := Hj.out; simp; omega
        rw [this]; rfl
      have hcell := rowB_cell hrow hqj
      have hfro := rowB_frozen hrow (j := j) (List.getElem?_eq_some_iff.1 hqj).1
      have hc0 : 0 ≤ (c.toNat : Int) ∧ (c.toNat : Int) ≤ 255 := by have := c.toNat_lt; omega
      obtain ⟨c0, c1⟩ := hc0
      have hset := Lib.hid (rowB_set hrow j (Pu.low c))
      have hsm : Hid ((x ++ p.map Pu.low ++ c :: rest).set j (Pu.low c) = x ++ (p ++ [c]).map Pu.low ++ rest) := by
        show _ = _
        have e : j = (x ++ p.map Pu.low).length := by have := Hj.out; simp; omega
        rw [e, set_mid]; simp
      have Hlu := Lib.hid (low_up (c := c))
      have Hli := Lib.hid (low_id (c := c))
      have Hrow := Lib.hid hrow
      clear hqj hrow
      obtain ⟨y, hy⟩ : ∃ y : Int, (c.toNat : Int) = y := ⟨_, rfl⟩
      rw [hy] at hcell c0 c1 Hlu Hli
      clear hy
      by_cases h1 : 65 ≤ y
      · by_cases h2 : y ≤ 90
        · go_wp2
          go_roundg rest.length
          case measure => have := Hk.out; simp at this; omega
          case rel =>
            refine ⟨p ++ [c], rest, by rw [Hpr.out]; simp, rfl, ?_, ?_, hbw.setCell (Nat.le_refl _) _⟩
            · have := Hj.out
              congr 1
              simp
              omega
            · have e := Hlu.out ⟨h1, h2⟩
              rw [← hsm.out, ← e]
              exact hset.out
        · go_wp2
          go_roundg rest.length
          case measure => have := Hk.out; simp at this; omega
          case rel =>
            refine ⟨p ++ [c], rest, by rw [Hpr.out]; simp, rfl, ?_, ?_, hbw⟩
            · have := Hj.out
              congr 1
              simp
              omega
            · have e := Hli.out (by omega)
              have e2 : x ++ (p ++ [c]).map Pu.low ++ rest = x ++ p.map Pu.low ++ c :: rest := by simp [e]
              rw [e2]
              exact Hrow.out
      · go_wp2
        go_roundg rest.length
        case measure => have := Hk.out; simp at this; omega
        case rel =>
          refine ⟨p ++ [c], rest, by rw [Hpr.out]; simp, rfl, ?_, ?_, hbw⟩
          · have := Hj.out
            congr 1
            simp
            omega
          · have e := Hli.out (by omega)
            have e2 : x ++ (p ++ [c]).map Pu.low ++ rest = x ++ p.map Pu.low ++ c :: rest := by simp [e]
            rw [e2]
            exact Hrow.out

end Go.Proofs.Ytoeaiifmablbnaa
