/- spec.Raised: great letters here and there behind the last hyphen. -/
import Derived.Test.YtoeaiifmablbnaaRb
namespace Go.Proofs.Ytoeaiifmablbnaa
open Go.RowKit

/-- a small letter as a great one -/
def up (c : UInt8) : UInt8 := UInt8.ofNat (c.toNat - 32)

theorem up_is {c : UInt8} (h1 : 97 ≤ (c.toNat : Int)) (h2 : (c.toNat : Int) ≤ 122) : ((up c).toNat : Int) = (c.toNat : Int) - 97 + 65 ∧ Pu.undig (up c) = Pu.undig c ∧ up c ≠ 45 ∧ (up c).toNat < 128 := by
  have e : ((up c).toNat : Int) = (c.toNat : Int) - 97 + 65 := by
    unfold up
    simp only [UInt8.toNat_ofNat']
    omega
  refine ⟨e, ?_, ?_, by omega⟩
  · unfold Pu.undig
    rw [e, undigI_2 _ (by omega) (by omega), undigI_1 _ h1 h2]; omega
  · intro h
    rw [h] at e
    have : ((45 : UInt8).toNat : Int) = 45 := rfl
    omega

/-- a slice of numbers that came in -/
def Way (wa : Option Addr) (wl : Nat) (w : World) : Prop := wl = 0 ∨ ∃ (b off : Nat) (zs : List Int), wa = some ⟨b, off, none⟩ ∧ b < w.heap.size ∧ wl ≤ 17592186043904 ∧ ∀ i, i < wl → w.cell? ⟨b, off + i, none⟩ = some (.int .i64 (zs.getD i 0))

/-- how bytes may differ -/
structure Alike (p p' : List UInt8) : Prop where
  len : p'.length = p.length
  und : p'.map Pu.undig = p.map Pu.undig
  ok : ∀ c ∈ p', c ≠ 45 ∧ c.toNat < 128

theorem Alike.snoc {p p' : List UInt8} (h : Alike p p') {c d : UInt8} (hu : Pu.undig d = Pu.undig c) (hd : d ≠ 45 ∧ d.toNat < 128) : Alike (p ++ [c]) (p' ++ [d]) :=
  ⟨by simp [h.len], by simp [h.und, hu], fun e he => by
    rcases List.mem_append.1 he with he | he
    · exact h.ok e he
    · simp at he; rw [he]; exact hd⟩

def RaPost (s : ByteArray) (w : World) (e : Ending) (w' : World) : Prop := ∃ r', e = .returned (.string (Pu.bs ((Pu.bl s).take (s.size - (backOf s).size) ++ r'))) ∧ Alike (Pu.bl (backOf s)) r' ∧ Below w.heap.size w w'

set_option maxRecDepth 100000 in
set_option maxHeartbeats 2000000 in
theorem raised_any (s : ByteArray) (wa : Option Addr) (wl wcap : Nat) (w : World) (hs : s.size ≤ 100000) (hway : Way wa wl w) (hok : ∀ c ∈ Pu.bl (backOf s), c ≠ 45 ∧ c.toNat < 128) :
    Calls Try.prog 20 #[.string s, .slice wa wl wcap] w (RaPost s w) := by
  obtain ⟨hbl, hsp⟩ := back_len s
  have hsz := Pu.bl_size s
  have hbz := Pu.bl_size (backOf s)
  unfold RaPost
  generalize hB : backOf s = bk at *
  have HB := Lib.hid hB
  obtain ⟨x, hx⟩ : ∃ x, (Pu.bl s).take (s.size - bk.size) = x := ⟨_, rfl⟩
  rw [hx] at hsp ⊢
  obtain ⟨r, hr⟩ : ∃ r, Pu.bl bk = r := ⟨_, rfl⟩
  rw [hr] at hsp hbz hok ⊢
  have hxl : x.length = s.size - bk.size := by rw [← hx, List.length_take]; omega
  have hxl2 : ((s.size : Int) - (bk.size : Int)) = x.length := by omega
  have Hsp := Lib.hid hsp
  have Hok := Lib.hid hok
  have Hway := Lib.hid hway
  have Hsz : Hid (s.size = x.length + r.length) := by
    show _ = _
    rw [hsz, hsp, List.length_append]
  have hxs : x.length ≤ s.size := by omega
  have hwl0 : wl ≤ 17592186043904 := by
    rcases hway with h | ⟨_, _, _, _, _, h, _⟩ <;> omega
  obtain ⟨Q, hQ⟩ : ∃ Q : Ending → World → Prop, Q = fun e w' => ∃ r', e = .returned (.string (Pu.bs (x ++ r'))) ∧ Alike r r' ∧ Below w.heap.size w w' := ⟨_, rfl⟩
  have HQ := Lib.hid hQ
  show Calls Try.prog 20 #[.string s, .slice wa wl wcap] w fun e w' => ∃ r', e = .returned (.string (Pu.bs (x ++ r'))) ∧ Alike r r' ∧ Below w.heap.size w w'
  rw [← hQ]
  clear hx hr hB hsp hsz hbz hxl hok hway hQ
  go_enter Try.func20, Try.ntmps20
  go_wp2_with fail
  refine (split_any s _ (by omega)).mono ?_
  rintro e w1 ⟨rfl, nd, rfl⟩
  rw [HB.out]
  obtain ⟨cap, W, hcv, hcap, hrow, hbw⟩ := rowB_new (w.drewN nd) s
  have hbw0 : Below w.heap.size w W := (below_drewN (Below.refl _ w) nd).trans hbw
  have hgz : (w.drewN nd).heap.size = w.heap.size := rfl
  rw [hgz] at hcv hrow
  clear hbw hgz
  go_wp2_with fail
  clear hxl2 hcv
  go_loopg [8] r.length (fun k i wr => ∃ (p p' rest : List UInt8), r = p ++ rest ∧ rest.length = k ∧ Alike p p' ∧ i = .int .i64 ((x.length + p.length : Nat) : Int) ∧ RowB w.heap.size (x ++ p' ++ rest) wr ∧ Below w.heap.size w wr)
  case atStart => exact ⟨[], [], r, rfl, rfl, ⟨rfl, rfl, by simp⟩, by simp, by rw [Hsp.out] at hrow; simpa using hrow, hbw0⟩
  case round =>
    clear hrow hbw0
    obtain ⟨p, p', rest, hpr, hk, hal, rfl, hrow, hbw⟩ := hrel
    have Hpr := Lib.hid hpr
    have Hk := Lib.hid hk
    have Hal := Lib.hid hal
    have hlen : Hid (s.size = x.length + p.length + rest.length) := by
      show _ = _
      have := Hsz.out
      rw [this, hpr, List.length_append]; omega
    have hpl : Hid (p'.length = p.length) := hal.len
    clear hpr hk hal
    obtain ⟨j, hj⟩ : ∃ j, x.length + p.length = j := ⟨_, rfl⟩
    rw [hj]
    have Hj := Lib.hid hj
    clear hj
    cases rest with
    | nil =>
      have hjs : ¬ j < s.size := by have h1 := hlen.out; have h2 := Hj.out; simp at h1; omega
      have hjs2 : s.size ≤ j := by omega
      have hql : (x ++ p' ++ []).length = s.size := by
        have h1 := hlen.out
        have h2 := hpl.out
        simp at h1 ⊢; omega
      have hcv2 := rowB_string hrow cap
      rw [hql] at hcv2
      rw [List.append_nil] at hcv2
      clear hql
      go_wp2
      rw [HQ.out]
      exact ⟨p', rfl, by have := Hpr.out; rw [List.append_nil] at this; rw [this]; exact Hal.out, hbw⟩
    | cons c rest =>
      have hjs : j < s.size := by have h1 := hlen.out; have h2 := Hj.out; simp at h1; omega
      have hcok := Lib.hid (Hok.out c (by rw [Hpr.out]; simp))
      have hqj : (x ++ p' ++ c :: rest)[j]? = some c := by
        rw [List.getElem?_append_right (by have := Hj.out; have := hpl.out; simp; omega)]
        have : j - (x ++ p').length = 0 := by have := Hj.out; have := hpl.out; simp; omega
        rw [this]; rfl
      have hcell := rowB_cell hrow hqj
      have hfro := rowB_frozen hrow (j := j) (List.getElem?_eq_some_iff.1 hqj).1
      have hc0 : 0 ≤ (c.toNat : Int) ∧ (c.toNat : Int) ≤ 255 := by have := c.toNat_lt; omega
      obtain ⟨c0, c1⟩ := hc0
      have hset := Lib.hid (rowB_set hrow j (up c))
      have hsm : Hid ((x ++ p' ++ c :: rest).set j (up c) = x ++ (p' ++ [up c]) ++ rest) := by
        show _ = _
        have e : j = (x ++ p').length := by have := Hj.out; have := hpl.out; simp; omega
        rw [e, set_mid]; simp
      have Hup := Lib.hid (up_is (c := c))
      have Hrow := Lib.hid hrow
      have keep : Hid (∃ (q q' rest' : List UInt8), r = q ++ rest' ∧ rest'.length = rest.length ∧ Alike q q' ∧ Value.int .i64 ((j : Int) + 1) = .int .i64 ((x.length + q.length : Nat) : Int) ∧ RowB w.heap.size (x ++ q' ++ rest') wr ∧ Below w.heap.size w wr) := by
        refine ⟨p ++ [c], p' ++ [c], rest, by rw [Hpr.out]; simp, rfl, Hal.out.snoc rfl hcok.out, ?_, by simpa using hrow, hbw⟩
        have := Hj.out
        congr 1
        simp
        omega
      clear hqj hrow
      obtain ⟨y, hy⟩ : ∃ y : Int, (c.toNat : Int) = y := ⟨_, rfl⟩
      rw [hy] at hcell c0 c1 Hup
      clear hy
      rcases Hway.out with hw0 | ⟨b, off, zs, rfl, hbz, _, hwc⟩
      · subst hw0
        go_wp2
        go_roundg rest.length
        case measure => have := Hk.out; simp at this; omega
        case rel => exact keep.out
      · by_cases hwl : 0 < wl
        · have hmod : j % wl < wl := Nat.mod_lt _ hwl
          have hwcell : wr.cell? ⟨b, off + j % wl, none⟩ = some (.int .i64 (zs.getD (j % wl) 0)) := by
            rw [hbw.cell hbz]; exact hwc _ hmod
          clear hwc
          generalize zs.getD (j % wl) 0 = z at *
          obtain ⟨m, hm⟩ : ∃ m, j % wl = m := ⟨_, rfl⟩
          have hm2 : (j : Int) % (wl : Int) = m := by rw [← hm]; exact (Int.natCast_emod j wl).symm
          rw [hm] at hmod hwcell
          obtain ⟨zb, hzb⟩ : ∃ zb, (z.tmod 2 != 0) = zb := ⟨_, rfl⟩
          cases zb
          · go_wp2
            go_roundg rest.length
            case measure => have := Hk.out; simp at this; omega
            case rel => exact keep.out
          · by_cases h1 : 97 ≤ y
            · by_cases h2 : y ≤ 122
              · go_wp2
                go_roundg rest.length
                case measure => have := Hk.out; simp at this; omega
                case rel =>
                  have hu := Hup.out h1 h2
                  refine ⟨p ++ [c], p' ++ [up c], rest, by rw [Hpr.out]; simp, rfl, Hal.out.snoc hu.2.1 hu.2.2, ?_, ?_, hbw.setCell (Nat.le_refl _) _⟩
                  · have := Hj.out
                    congr 1
                    simp
                    omega
                  · rw [← hsm.out, ← hu.1]
                    exact hset.out
              · go_wp2
                go_roundg rest.length
                case measure => have := Hk.out; simp at this; omega
                case rel => exact keep.out
            · go_wp2
              go_roundg rest.length
              case measure => have := Hk.out; simp at this; omega
              case rel => exact keep.out
        · obtain rfl : wl = 0 := by omega
          go_wp2
          go_roundg rest.length
          case measure => have := Hk.out; simp at this; omega
          case rel => exact keep.out

end Go.Proofs.Ytoeaiifmablbnaa
