/- What punycode.encode computes. -/
import Derived.Test.YtoeaiifmablbnaaMem
import Derived.Laws.CopyOwn
namespace Go.Proofs.Ytoeaiifmablbnaa
open Go.RowKit

/-- 'output := make([]byte, len(prefix), ..); copy(output, prefix)' -/
theorem enc_start (p : ByteArray) (w : World) (c : Nat) (C : Int) (hC : C = c) (hc : p.size ≤ c) (hb : c ≤ 281474976710656) :
    ∃ W0 W1 : World, ((Instr.makeSlice 36 (.int .i64 p.size) (.int .i64 C)).run Try.prog w = .ok (.slice (some ⟨w.heap.size, 0, none⟩) p.size c) W0) ∧
      (∀ ty, (Builtin.copy_ #[36, 9] ty #[.slice (some ⟨w.heap.size, 0, none⟩) p.size c, .string p]).run Try.prog W0 = .ok (goInt p.size) W1) ∧
      OwnB w.heap.size (Pu.bl p) (some ⟨w.heap.size, 0, none⟩) c W1 ∧ Below w.heap.size w W1 ∧ W1.heap.size = w.heap.size + 1 := by
  subst hC
  obtain ⟨i0, hi, hz0, hz1, hz2⟩ := info_parts Try.info5
  have hm := run_make (P := Try.prog) w 36 5 i0 (.int .u8 0) Try.underlying36 hi hz0 .i64 .i64 p.size c (by omega) (by omega) (by rw [hz2]; omega) (by omega)
  rw [hz1] at hm
  simp only [Int.toNat_natCast, Nat.mul_one] at hm
  have hg : (w.alloc (.cells (madeCells (Value.cells (.int .u8 0)) c) 5)).heap[w.heap.size]? = some (.cells (madeCells (Value.cells (.int .u8 0)) c) 5 (0, 0)) := heap_alloc_new w _
  refine ⟨_, _, hm, fun ty => Lib.run_copy_row_string _ 36 9 ty 5 w.heap.size 0 p.size c p _ 5 Try.underlying36 (by rw [hi]; simp [hz1]) hg (Nat.le_refl _) (by rw [size_madeCells]; omega), ?_, ?_, ?_⟩
  · have hl : (Pu.bl p).length = p.size := (Pu.bl_size p).symm
    unfold OwnB
    rw [hl]
    refine ⟨by rw [Lib.byteCells_length, hl]; omega, .inr ⟨w.heap.size, c, _, rfl, Nat.le_refl _, setRow_heap _ _ _ _ _ _ hg, hc, by unfold maxLen; omega, ?_, ?_⟩⟩
    · simp only [List.size_toArray, List.length_append, List.length_take, List.length_drop, Array.length_toList, size_madeCells, Lib.byteCells_length]
      have h2 : p.data.size = p.size := rfl
      rw [h2]
      omega
    · simp only [List.take_zero, List.nil_append]
      rw [List.take_append_of_le_length (by rw [Lib.byteCells_length]; show _ ≤ (Pu.bl p).length; omega), List.take_of_length_le (by rw [Lib.byteCells_length]; show (Pu.bl p).length ≤ _; omega)]
      rfl
  · exact Go.below_setRow ((Below.refl _ w).alloc (Nat.le_refl _) _) (Nat.le_refl _) _
  · simp [World.setRow]

def EncPost (p : ByteArray) (l : List Int) (w : World) (e : Ending) (w' : World) : Prop := e = .returned (.tuple #[.string (Pu.bs (Pu.bl p ++ Pu.enc l)), .nilIface]) ∧ Below w.heap.size w w'

/-- behind so many code points of the first loop: the bytes of ASCII, how many, how many others -/
def R1 (p : ByteArray) (B : Nat) (w : World) (a : List Int) (o b r : Value) (wr : World) : Prop :=
  ∃ (q : List UInt8) (ad : Option Addr) (cp : Nat) (nb nr : Int), o = .slice ad q.length cp ∧ b = .int .i32 nb ∧ r = .int .i32 nr ∧ q = Pu.bl p ++ (Pu.basic a).map Pu.byteOf ∧ nb = (Pu.basic a).length ∧ nr = a.length - (Pu.basic a).length ∧ OwnB B q ad cp wr ∧ Below B w wr

theorem basic_snoc_yes (a : List Int) (c : Int) (h : c < 128) : Pu.basic (a ++ [c]) = Pu.basic a ++ [c] := by simp [Pu.basic, h]
theorem basic_snoc_no (a : List Int) (c : Int) (h : ¬ c < 128) : Pu.basic (a ++ [c]) = Pu.basic a := by simp [Pu.basic]; omega
theorem basic_len (a : List Int) : (Pu.basic a).length ≤ a.length := List.length_filter_le _ _
theorem byteOf_toNat (c : Int) (h0 : 0 ≤ c) (h : c < 256) : ((Pu.byteOf c).toNat : Int) = c := by unfold Pu.byteOf; simp only [UInt8.toNat_ofNat']; omega

/-- at the outer loop's head -/
def R2 (p : ByteArray) (B : Nat) (w : World) (l : List Int) (b : Int) (k : Nat) (o d n bi rm h : Value) (wr : World) : Prop :=
  ∃ (q : List UInt8) (ad : Option Addr) (cp : Nat) (so : List UInt8) (sd sb sh : Int) (m r : Int), o = .slice ad q.length cp ∧ d = .int .i32 sd ∧ n = .int .i32 m ∧ bi = .int .i32 sb ∧ rm = .int .i32 r ∧ h = .int .i32 sh ∧
    q = Pu.bl p ++ so ∧ r = l.length - sh ∧ Pu.EB ⟨so, sd, sb, sh⟩ ((m - 128) * 1002) ∧ sh = Pu.cnt m l ∧ 128 ≤ m ∧ m ≤ 1114112 ∧ l.length ≤ k + sh ∧ Pu.eloop b l k m ⟨so, sd, sb, sh⟩ = Pu.enc l ∧ OwnB B q ad cp wr ∧ Below B w wr

/-- in the pass for the code point M -/
def R4 (p : ByteArray) (B : Nat) (w : World) (l : List Int) (nb M : Int) (F : Pu.ES) (a t : List Int) (o d bi rm h : Value) (wr : World) : Prop :=
  ∃ (q : List UInt8) (ad : Option Addr) (cp : Nat) (so : List UInt8) (sd sb sh : Int) (r : Int), o = .slice ad q.length cp ∧ d = .int .i32 sd ∧ bi = .int .i32 sb ∧ rm = .int .i32 r ∧ h = .int .i32 sh ∧
    q = Pu.bl p ++ so ∧ r = l.length - sh ∧ Pu.EB ⟨so, sd, sb, sh⟩ ((M - 128) * 1002 + a.length) ∧ Pu.epass nb M t ⟨so, sd, sb, sh⟩ = F ∧ OwnB B q ad cp wr ∧ Below B w wr
/-- behind that pass -/
def R5 (p : ByteArray) (B : Nat) (w : World) (l : List Int) (M : Int) (F : Pu.ES) (o d bi rm h : Value) (wr : World) : Prop :=
  ∃ (q : List UInt8) (ad : Option Addr) (cp : Nat) (r : Int), o = .slice ad q.length cp ∧ d = .int .i32 F.delta ∧ bi = .int .i32 F.bias ∧ rm = .int .i32 r ∧ h = .int .i32 F.h ∧
    q = Pu.bl p ++ F.out ∧ r = l.length - F.h ∧ Pu.EB F ((M - 128) * 1002 + 1001) ∧ OwnB B q ad cp wr ∧ Below B w wr

theorem front_len (l : List Int) : (Pu.front l).length ≤ l.length + 1 := by
  unfold Pu.front
  have := basic_len l
  split <;> simp <;> omega

theorem basic_cnt (l : List Int) : (Pu.basic l).length = Pu.cnt 128 l := rfl

theorem r2_start {p : ByteArray} {B : Nat} {w : World} {l : List Int} {nb nr : Int} {q : List UInt8} {ad : Option Addr} {cp : Nat} {wr : World} (hl : l.length ≤ 1001) (hnb : nb = (Pu.basic l).length) (hnr : nr = l.length - (Pu.basic l).length)
    (hq : q = Pu.bl p ++ Pu.front l) (hown : OwnB B q ad cp wr) (hbw : Below B w wr) : R2 p B w l nb l.length (.slice ad q.length cp) (.int .i32 0) (.int .i32 128) (.int .i32 72) (.int .i32 nr) (.int .i32 nb) wr := by
  have hf := front_len l
  refine ⟨q, ad, cp, Pu.front l, 0, 72, nb, 128, nr, rfl, rfl, rfl, rfl, rfl, rfl, hq, by rw [hnr, hnb], ⟨by simp, by simp, by simp, by simp, by simp; omega, by simp only; omega⟩, by rw [hnb, basic_cnt], by omega, by omega, by omega, by rw [hnb]; rfl, hown, hbw⟩

theorem eloop_end (b : Int) (l : List Int) (k : Nat) (m : Int) (s : Pu.ES) (h : ¬ s.h < l.length) : Pu.eloop b l k m s = s.out := by
  cases k with
  | zero => rfl
  | succ k => unfold Pu.eloop; rw [if_neg h]

/-- 'string(output)' -/
theorem own_string {B : Nat} {q : List UInt8} {ad : Option Addr} {cp : Nat} {w : World} (h : OwnB B q ad cp w) : (convert 36 9 (.slice ad q.length cp)).run Try.prog w = .ok (.string (Pu.bs q)) w := by
  cases ad with
  | none =>
    have hq : q = [] := by
      rcases h.2 with ⟨h1, h2⟩ | ⟨g, cap, cur, h1, _⟩
      · exact List.eq_nil_of_length_eq_zero h2
      · cases h1
    subst hq
    rw [run_convert_bytes_string w 36 9 5 none _ _ Try.underlying36 Try.underlying5 Try.underlying9]
    rfl
  | some a =>
    rw [run_convert_bytes_back w 36 9 5 a cp q Try.underlying36 Try.underlying5 Try.underlying9]
    · rfl
    · intro j hj
      have hc := h.cells (g := a.block) (by simp [Value.ownBlock]) j (.int .u8 (q[j].toNat : Int)) (by simp [Lib.byteCells, hj])
      rcases h.2 with ⟨h1, h2⟩ | ⟨g, cap, cur, h1, _⟩
      · cases h1
      · have ha : a = ⟨g, 0, none⟩ := by
          simp only [Value.slice.injEq, Option.some.injEq] at h1
          exact h1.1
        rw [ha] at hc ⊢
        exact hc

set_option maxRecDepth 1000000 in
set_option maxHeartbeats 4000000 in
theorem encode_any (p S : ByteArray) (l : List Int) (w : World) (hp : p.size ≤ 140737488351232) (hS : Pu.bl S = Pu.utf l) (hl : l.length ≤ 1001) (hok : ∀ c ∈ l, Pu.okc c ∧ c ≠ 65533) :
    Calls Try.prog 31 #[.string p, .string S] w (EncPost p l w) := by
  have hsz : S.size ≤ 4004 := by rw [Pu.bl_size, hS]; have := Pu.utf_len l; omega
  obtain ⟨i0, hi, hz0, hz1, hz2⟩ := info_parts Try.info5
  obtain ⟨W0, W1, hmk, hcp, hown, hbw, hz⟩ := enc_start p w (p.size + 1 + 2 * S.size) ((p.size : Int) + 1 + 2 * (S.size : Int)) (by omega) (by omega) (by omega)
  have hsz1 : w.heap.size < W1.heap.size := by omega
  have HS := Lib.hid hS
  have hok' := Lib.hid hok
  clear hz hS hok
  go_enter Try.func31, Try.ntmps31
  go_upto_block 0 with fail
  go_cut [6, 10, 11] (fun o b r wr => R1 p w.heap.size w l o b r wr)
  case first =>
    clear hmk hcp
    go_wp2_with fail
    go_loopg [6, 10, 11] l.length (fun k o b r wr => ∃ a t : List Int, l = a ++ t ∧ t.length = k ∧ wr.heap[W1.heap.size]? = some (.stringIter S (Pu.utf a).length) ∧ R1 p w.heap.size w a o b r wr)
    case atStart => 
      refine ⟨[], l, rfl, rfl, World.iter_heap W1 S 0, Pu.bl p, _, _, 0, 0, ?_, rfl, rfl, by simp [Pu.basic], by simp [Pu.basic], by simp [Pu.basic], hown.iter _ _, hbw.alloc (by omega) _⟩
      rw [Pu.bl_size]
    case round =>
      obtain ⟨a, t, hla, hk, hit, q, ad, cp, nb, nr, rfl, rfl, rfl, hq, hnb, hnr, hown, hbw⟩ := hrel
      have hbl := basic_len a
      have hal : a.length + t.length = l.length := by rw [hla]; simp
      cases t with
      | nil =>
        have hnx := next_nil (a := a) (by rw [HS.out, hla]; simp) hit
        have A : Aside (l = a ++ [] ∧ q = Pu.bl p ++ (Pu.basic a).map Pu.byteOf ∧ nb = (Pu.basic a).length ∧ nr = a.length - (Pu.basic a).length) := ⟨hla, hq, hnb, hnr⟩
        clear hla hq hnb hnr hit hk hal
        go_wp2
        go_meet
        obtain ⟨hla, hq, hnb, hnr⟩ := A.out
        have e : l = a := by rw [hla]; simp
        rw [e]
        exact ⟨q, ad, cp, nb, nr, rfl, rfl, rfl, hq, hnb, hnr, hown, hbw⟩
      | cons c t =>
        have hc := hok'.out c (by rw [hla]; simp)
        obtain ⟨W, hnx, hit2, hown2, hbw2, hz2'⟩ := next_cons (r := t) (by rw [HS.out, hla]) hc.1 hit hown hbw (by omega)
        have hc1 : 0 ≤ c ∧ c ≤ 1114111 := by have := hc.1; unfold Pu.okc at this; omega
        have hc2 : (c == 65533) = false := beq_eq_false_iff_ne.2 hc.2
        have hWz : w.heap.size ≤ W.heap.size := by have := hbw2.size; omega
        have A : Aside (l = a ++ c :: t ∧ q = Pu.bl p ++ (Pu.basic a).map Pu.byteOf ∧ nb = (Pu.basic a).length ∧ nr = a.length - (Pu.basic a).length ∧ (c :: t).length = gk) := ⟨hla, hq, hnb, hnr, hk⟩
        have hit2' := Lib.hid hit2
        have B1 : 0 ≤ nb ∧ nb ≤ 1001 ∧ 0 ≤ nr ∧ nr ≤ 1001 := by omega
        have B2 : q.length ≤ 140737488352233 := by rw [hq, List.length_append, List.length_map, ← Pu.bl_size]; omega
        clear hla hq hnb hnr hit hk hal hc hit2 hz2' hown hbw hbl
        obtain ⟨c0, c3⟩ := hc1
        obtain ⟨nb0, nb1, nr0, nr1⟩ := B1
        by_cases h128 : c < 128
        · go_wp2_with (at_builtin; refine wpList_append_own_wide _ rfl _ _ 36 rfl w.heap.size 5 i0 (.int .u8 0) 1 1 Try.underlying36 hi hz0 hz1 hz2 rfl (by decide) _ _ _ rfl (hown2.alloc _) ⟨W.heap.size, 0, none⟩ 1 1 [.int .u8 c] rfl rfl ?c1 ?c2 ?c3 ?c4 ?c5 ?_)
          case c1 => exact cell_one_new _ _ _
          case c2 => simp [Value.oneCell']
          case c3 => unfold maxLen; omega
          case c4 => omega
          case c5 => simp; omega
          intro v' w1 hown' hgrow hnil
          clear hnil
          obtain ⟨q', ad2, cp2, hq', hv, hown3⟩ := app_step (Pu.byteOf c) (byteOf_toNat c c0 (by omega)) hown'
          have hit3 := Lib.hid (iter_grown (hown2.alloc _) hgrow ((Below.heap_alloc W _ _ (Array.getElem?_eq_some_iff.1 hit2'.out).1).trans hit2'.out))
          have hbw3 := below_grown (hown2.alloc _) hgrow (hbw2.alloc (by omega) _) (by omega) (by simp; omega)
          rw [hv]
          have A2 := Lib.hid hq'
          clear hv hq' hgrow hown'
          go_wp2
          go_roundg t.length
          case measure => have := A.out.2.2.2.2; simp at this; omega
          case rel =>
            obtain ⟨hla, hq, hnb, hnr, hk⟩ := A.out
            refine ⟨a ++ [c], t, by rw [hla]; simp, rfl, hit3.out, q', ad2, cp2, _, _, rfl, rfl, rfl, ?_, ?_, ?_, hown3, hbw3⟩
            · rw [A2.out, hq, basic_snoc_yes a c h128]; simp
            · rw [basic_snoc_yes a c h128, hnb]; simp
            · rw [basic_snoc_yes a c h128, hnr]; simp; omega
        · go_wp2
          go_roundg t.length
          case measure => have := A.out.2.2.2.2; simp at this; omega
          case rel =>
            obtain ⟨hla, hq, hnb, hnr, hk⟩ := A.out
            refine ⟨a ++ [c], t, by rw [hla]; simp, rfl, hit2'.out, q, ad, cp, _, _, rfl, rfl, rfl, ?_, ?_, ?_, hown2, hbw2⟩
            · rw [hq, basic_snoc_no a c (by omega)]
            · rw [basic_snoc_no a c (by omega), hnb]
            · rw [basic_snoc_no a c (by omega), hnr]; simp; omega
  case rest =>
    clear hown hbw hmk hcp
    obtain ⟨q, ad, cp, nb, nr, rfl, rfl, rfl, hq, hnb, hnr, hown, hbw⟩ := hcut
    have hbl := basic_len l
    have A : Aside (q = Pu.bl p ++ (Pu.basic l).map Pu.byteOf ∧ nb = (Pu.basic l).length ∧ nr = l.length - (Pu.basic l).length) := ⟨hq, hnb, hnr⟩
    have B1 : 0 ≤ nb ∧ nb ≤ 1001 ∧ 0 ≤ nr ∧ nr ≤ 1001 := by omega
    have B2 : q.length ≤ 140737488352233 := by rw [hq, List.length_append, List.length_map, ← Pu.bl_size]; omega
    obtain ⟨nb0, nb1, nr0, nr1⟩ := B1
    have hWz : w.heap.size ≤ wc.heap.size := by have := hbw.size; omega
    clear hq hnb hnr hbl
    go_upto_if 61 with fail
    go_cut [6] (fun o wr => ∃ (q : List UInt8) (ad : Option Addr) (cp : Nat), o = .slice ad q.length cp ∧ q = Pu.bl p ++ Pu.front l ∧ OwnB w.heap.size q ad cp wr ∧ Below w.heap.size w wr)
    case first =>
      by_cases hb0 : 0 < nb
      · go_wp2_with (at_builtin; refine wpList_append_own_wide _ rfl _ _ 36 rfl w.heap.size 5 i0 (.int .u8 0) 1 1 Try.underlying36 hi hz0 hz1 hz2 rfl (by decide) _ _ _ rfl (World.ownsRow.alloc hown _) ⟨wc.heap.size, 0, none⟩ 1 1 [.int .u8 45] rfl rfl ?c1 ?c2 ?c3 ?c4 ?c5 ?_)
        case c1 => exact cell_one_new _ _ _
        case c2 => simp [Value.oneCell']
        case c3 => unfold maxLen; omega
        case c4 => omega
        case c5 => simp; omega
        intro v' w1 hown' hgrow hnil
        clear hnil
        obtain ⟨q', ad2, cp2, hq', hv, hown3⟩ := app_step 45 rfl hown'
        have hbw3 := below_grown (World.ownsRow.alloc hown _) hgrow (hbw.alloc (by omega) _) (by omega) (by simp; omega)
        rw [hv]
        have A2 := Lib.hid hq'
        clear hv hq' hgrow hown'
        go_wp2
        go_meet
        obtain ⟨hq, hnb, hnr⟩ := A.out
        refine ⟨q', ad2, cp2, rfl, ?_, hown3, hbw3⟩
        rw [A2.out, hq]; unfold Pu.front; rw [if_neg (by omega)]; simp
      · go_wp2
        go_meet
        obtain ⟨hq, hnb, hnr⟩ := A.out
        refine ⟨q, ad, cp, rfl, ?_, hown, hbw⟩
        rw [hq]; unfold Pu.front; rw [if_pos (by omega)]; simp
    case rest =>
      clear hown hbw hWz
      obtain ⟨q, ad, cp, rfl, hq, hown, hbw⟩ := hcut
      obtain ⟨hq0, hnb, hnr⟩ := A.out
      have R0 : R2 p w.heap.size w l nb l.length (Value.slice ad q.length cp) (.int .i32 0) (.int .i32 128) (.int .i32 72) (.int .i32 nr) (.int .i32 nb) wc :=
        r2_start hl hnb hnr hq hown hbw
      have A := Lib.hid hnb
      clear hq0 hnb hnr hq hown hbw
      go_wp2_with fail
      go_loopg [6, 7, 8, 9, 11, 14] l.length (fun k o d n bi rm h wr => R2 p w.heap.size w l nb k o d n bi rm h wr)
      case atStart => exact R0
      case round =>
        clear R0 ad cp q
        obtain ⟨q, ad, cp, so, sd, sb, sh, m, r, rfl, rfl, rfl, rfl, rfl, rfl, hq, hr, hEB, hcn, hm1, hm2, hfu, hloop, hown, hbw⟩ := hrel
        have hcl := Pu.cnt_le m l
        have hWz : w.heap.size ≤ wr.heap.size := hbw.size
        by_cases hr0 : r = 0
        · have hcv := own_string hown
          have A3 : Aside (q = Pu.bl p ++ Pu.enc l) := by
            show _ = _
            rw [hq, ← hloop, eloop_end _ _ _ _ _ (by simp only; omega)]
          have hb : (r != 0) = false := by simp [hr0]
          clear hq hr hEB hcn hm1 hm2 hfu hloop hown hr0
          go_wp2
          go_ret2
          exact ⟨by rw [A3.out]; rfl, hbw⟩
        · have hlt : sh < l.length := by omega
          obtain ⟨g, rfl⟩ : ∃ g, gk = g + 1 := ⟨gk - 1, by omega⟩
          have hex : ∃ c ∈ l, m ≤ c := Pu.cnt_lt m l (by omega)
          have hle : ∀ c ∈ l, c ≤ 1114111 := fun c hc => by have := (hok'.out c hc).1; unfold Pu.okc at this; omega
          have hM : Pu.nextM m 2147483647 l = Pu.nextM m 1114112 l := Pu.nextM_same _ _ _ _ (by obtain ⟨c, hc, h1⟩ := hex; have := hle c hc; exact ⟨c, hc, h1, by omega, by omega⟩)
          obtain ⟨hMl, hMm, hMx, hMn⟩ := Pu.nextM_is m 1114112 l (by obtain ⟨c, hc, h1⟩ := hex; have := hle c hc; exact ⟨c, hc, h1, by omega⟩)
          have hst := hloop
          unfold Pu.eloop at hst
          rw [if_pos (by simp only; omega)] at hst
          unfold Pu.ebegin at hst
          simp only at hst
          generalize Pu.nextM m 1114112 l = M at *
          have hcM := Pu.cnt_gap m M l hMm hMn
          have hcS := Pu.cnt_succ M l
          have hqp := Pu.cnq_pos M l hMl
          have hcl2 := Pu.cnt_le (M + 1) l
          have hb : (r != 0) = true := by rw [bne_iff_ne]; exact hr0
          obtain ⟨d0, d1, b0, b1, h0, o1⟩ := hEB
          simp only at d0 d1 b0 b1 h0 o1
          have hprod : (M - m) * (sh + 1) ≤ (M - m) * 1002 := Int.mul_le_mul_of_nonneg_left (by omega) (by omega)
          have hprod0 : 0 ≤ (M - m) * (sh + 1) := Int.mul_nonneg (by omega) (by omega)
          have HM := Lib.hid hM
          have A3 : Aside (q = Pu.bl p ++ so ∧ r = l.length - sh ∧ sh = Pu.cnt m l ∧ Pu.eloop nb l g (M + 1) (Pu.eend (Pu.epass nb M l ⟨so, sd + (M - m) * (sh + 1), sb, sh⟩)) = Pu.enc l ∧ Pu.cnt M l = Pu.cnt m l ∧ Pu.cnt (M + 1) l = Pu.cnt M l + Pu.cnq M l) := ⟨hq, hr, hcn, hst, hcM, hcS⟩
          have hr1 : 0 < r ∧ r ≤ 1001 := by omega
          have hsh : sh ≤ 1000 := by omega
          have hql : q.length ≤ 140737488355328 + 2148000000000 := by rw [hq, List.length_append, ← Pu.bl_size]; omega
          have hFh : sh + Pu.cnq M l ≤ 1001 := by omega
          clear hq hr hcn hst hcM hcS hloop hM hr0 hex hcl hcl2 hlt hMn
          have hMn : 128 ≤ M := by omega
          go_upto_block 4 with fail
          go_cut [16] (fun mv wr => mv = .int .i32 M ∧ OwnB w.heap.size q ad cp wr ∧ Below w.heap.size w wr)
          case first =>
            obtain ⟨wo, rfl⟩ : ∃ wo : World, wo = wr := ⟨_, rfl⟩
            go_wp2_with fail
            go_loopg [16] l.length (fun k mv wr => ∃ (a t : List Int) (x : Int), l = a ++ t ∧ t.length = k ∧ wr.heap[wo.heap.size]? = some (.stringIter S (Pu.utf a).length) ∧ mv = .int .i32 x ∧ x = Pu.nextM m 2147483647 a ∧ OwnB w.heap.size q ad cp wr ∧ Below w.heap.size w wr)
            case atStart => exact ⟨[], l, 2147483647, rfl, rfl, World.iter_heap wo S 0, rfl, rfl, hown.iter _ _, hbw.alloc (by omega) _⟩
            case round =>
              clear hown hbw
              obtain ⟨a, t, x, hla, hk, hit, rfl, hx, hown, hbw⟩ := hrel
              cases t with
              | nil =>
                have hnx := next_nil (a := a) (by rw [HS.out, hla]; simp) hit
                have A4 : Aside (x = M) := by
                  show x = M
                  rw [hx, ← HM.out, hla]; simp
                clear hla hx hit hk
                go_wp2
                go_meet
                exact ⟨by rw [A4.out], hown, hbw⟩
              | cons c t =>
                have hc := hok'.out c (by rw [hla]; simp)
                obtain ⟨W, hnx, hit2, hown2, hbw2, hz2'⟩ := next_cons (r := t) (by rw [HS.out, hla]) hc.1 hit hown hbw (by omega)
                have hc1 : 0 ≤ c ∧ c ≤ 1114111 := by have := hc.1; unfold Pu.okc at this; omega
                have A4 : Aside (l = a ++ c :: t ∧ x = Pu.nextM m 2147483647 a ∧ (c :: t).length = gk ∧ W.heap[wo.heap.size]? = some (.stringIter S (Pu.utf (a ++ [c])).length)) := ⟨hla, hx, hk, hit2⟩
                have hs := Pu.nextM_snoc m 2147483647 a c
                rw [← hx] at hs
                have A5 := Lib.hid hs
                clear hla hx hit hk hit2 hc hs hz2' hown hbw
                obtain ⟨c0, c3⟩ := hc1
                by_cases h1 : c < x
                · by_cases h2 : m ≤ c
                  · go_wp2
                    go_roundg t.length
                    case measure => have := A4.out.2.2.1; simp at this; omega
                    case rel => 
                      obtain ⟨hla, hx, hk, hit2⟩ := A4.out
                      exact ⟨a ++ [c], t, c, by rw [hla]; simp, rfl, hit2, rfl, by rw [A5.out, if_pos ⟨h2, h1⟩], hown2, hbw2⟩
                  · go_wp2
                    go_roundg t.length
                    case measure => have := A4.out.2.2.1; simp at this; omega
                    case rel => 
                      obtain ⟨hla, hx, hk, hit2⟩ := A4.out
                      exact ⟨a ++ [c], t, x, by rw [hla]; simp, rfl, hit2, rfl, by rw [A5.out, if_neg (by omega)], hown2, hbw2⟩
                · go_wp2
                  go_roundg t.length
                  case measure => have := A4.out.2.2.1; simp at this; omega
                  case rel => 
                    obtain ⟨hla, hx, hk, hit2⟩ := A4.out
                    exact ⟨a ++ [c], t, x, by rw [hla]; simp, rfl, hit2, rfl, by rw [A5.out, if_neg (by omega)], hown2, hbw2⟩
          case rest =>
            clear hown hbw
            obtain ⟨rfl, hown, hbw⟩ := hcut
            have hWz2 : w.heap.size ≤ wc.heap.size := hbw.size
            go_wp2_with fail
            refine (madd_ok sd (M - m) (sh + 1) _ d0 (by omega) (by omega) (by omega) (by omega) (by omega) hprod0 (by omega)).mono ?_
            rintro e w' ⟨rfl, rfl⟩
            have dd : 0 ≤ sd + (M - m) * (sh + 1) ∧ sd + (M - m) * (sh + 1) ≤ (M - 128) * 1002 := by omega
            have A6 := A3.out.2.2.2
            have hF0 : (Pu.epass nb M l ⟨so, sd + (M - m) * (sh + 1), sb, sh⟩).h = sh + Pu.cnq M l := Pu.epass_h _ _ _ _
            have E0 : Pu.EB ⟨so, sd + (M - m) * (sh + 1), sb, sh⟩ ((M - 128) * 1002) := ⟨dd.1, dd.2, b0, b1, h0, o1⟩
            obtain ⟨hqs, hrs, hcn, -⟩ := A3.out
            generalize sd + (M - m) * (sh + 1) = sd' at *
            generalize hF : Pu.epass nb M l ⟨so, sd', sb, sh⟩ = F at *
            have A7 : Aside (q = Pu.bl p ++ so ∧ r = l.length - sh ∧ sh = Pu.cnt m l ∧ Pu.eloop nb l g (M + 1) (Pu.eend F) = Pu.enc l ∧ Pu.cnt M l = Pu.cnt m l ∧ Pu.cnt (M + 1) l = Pu.cnt M l + Pu.cnq M l ∧ F.h = sh + Pu.cnq M l ∧ Pu.EB ⟨so, sd', sb, sh⟩ ((M - 128) * 1002) ∧ Pu.epass nb M l ⟨so, sd', sb, sh⟩ = F) := ⟨hqs, hrs, hcn, A6.1, A6.2.1, A6.2.2, hF0, E0, hF⟩
            clear A6 hF0 E0 hqs hrs hcn hF A3 d0 d1 hprod hprod0
            go_upto_block 6 with fail
            go_cut [6, 7, 9, 11, 14] (fun o d bi rm h wr => R5 p w.heap.size w l M F o d bi rm h wr)
            case first =>
              obtain ⟨wo, rfl⟩ : ∃ wo : World, wo = wc := ⟨_, rfl⟩
              go_wp2_with fail
              go_loopg [6, 7, 9, 11, 14] l.length (fun k o d bi rm h wr => ∃ (a t : List Int), l = a ++ t ∧ t.length = k ∧ wr.heap[wo.heap.size]? = some (.stringIter S (Pu.utf a).length) ∧ R4 p w.heap.size w l nb M F a t o d bi rm h wr)
              case atStart =>
                obtain ⟨hqs, hrs, hcn, _, _, _, _, E0, hF⟩ := A7.out
                exact ⟨[], l, rfl, rfl, World.iter_heap wo S 0, q, ad, cp, so, sd', sb, sh, r, rfl, rfl, rfl, rfl, rfl, hqs, hrs, by simpa using E0, hF, hown.iter _ _, hbw.alloc (by omega) _⟩
              case round =>
                have hFh2 : F.h ≤ l.length := by
                  obtain ⟨_, _, x1, _, x2, x3, x4, _, _⟩ := A7.out
                  have := Pu.cnt_le (M + 1) l
                  omega
                clear A7 hown hbw hr1 hsh hql hFh hb dd b0 b1 h0 o1
                obtain ⟨a, t, hla, hk, hit, q, ad, cp, so, sd, sb, sh, r, rfl, rfl, rfl, rfl, rfl, hq, hr, hEB, hF, hown, hbw⟩ := hrel
                have hal : a.length + t.length = l.length := by rw [hla]; simp
                have hEB2 := hEB
                obtain ⟨d0, d1, b0, b1, h0, o1⟩ := hEB2
                simp only at d0 d1 b0 b1 h0 o1
                have hFe := Pu.epass_h nb M t ⟨so, sd, sb, sh⟩
                rw [hF] at hFe
                simp only at hFe
                have hsh : sh ≤ 1001 := by omega
                have hql : q.length ≤ 140737488355328 + 2152000000000 := by rw [hq, List.length_append, ← Pu.bl_size]; omega
                cases t with
                | nil =>
                  have hnx := next_nil (a := a) (by rw [HS.out, hla]; simp) hit
                  have A9 : Aside (q = Pu.bl p ++ so ∧ r = l.length - sh ∧ Pu.EB ⟨so, sd, sb, sh⟩ ((M - 128) * 1002 + a.length) ∧ ⟨so, sd, sb, sh⟩ = F) := ⟨hq, hr, hEB, hF⟩
                  clear hla hq hr hEB hF hit hk hFe
                  go_wp2
                  go_meet
                  obtain ⟨hq, hr, hEB, hF⟩ := A9.out
                  rw [← hF]
                  exact ⟨q, ad, cp, r, rfl, rfl, rfl, rfl, rfl, hq, hr, hEB.mono (by simp at hal; omega), hown, hbw⟩
                | cons c t =>
                  have hc := hok'.out c (by rw [hla]; simp)
                  obtain ⟨W, hnx, hit2, hown2, hbw2, hz2'⟩ := next_cons (r := t) (by rw [HS.out, hla]) hc.1 hit hown hbw (by omega)
                  have hc1 : 0 ≤ c ∧ c ≤ 1114111 := by have := hc.1; unfold Pu.okc at this; omega
                  have hWz3 : w.heap.size ≤ W.heap.size := by have := hbw2.size; omega
                  rw [List.length_cons] at hal hk
                  have hE2 := hEB.step nb M c (by omega) (by omega)
                  rw [Pu.epass_cons] at hF
                  have hla2 : l = (a ++ [c]) ++ t := by rw [hla]; simp
                  have hl2 : ((a ++ [c]).length : Int) = a.length + 1 := by simp
                  have hit2' := Lib.hid hit2
                  clear hc hit hown hbw hEB hz2' hit2
                  obtain ⟨c0, c3⟩ := hc1
                  by_cases h1 : c < M
                  · rw [Pu.estep_lt _ _ _ _ h1] at hF hE2
                    have A9 : Aside (q = Pu.bl p ++ so ∧ r = l.length - sh ∧ Pu.EB ⟨so, sd + 1, sb, sh⟩ ((M - 128) * 1002 + (a ++ [c]).length) ∧ Pu.epass nb M t ⟨so, sd + 1, sb, sh⟩ = F ∧ l = (a ++ [c]) ++ t) := ⟨hq, hr, hE2.mono (by omega), hF, hla2⟩
                    clear hla hla2 hq hr hE2 hF hFe hl2
                    go_wp2
                    go_roundg t.length
                    case measure => omega
                    case rel =>
                      obtain ⟨hq, hr, hE, hF, hla2⟩ := A9.out
                      exact ⟨a ++ [c], t, hla2, rfl, hit2'.out, q, ad, cp, so, sd + 1, sb, sh, r, rfl, rfl, rfl, rfl, rfl, hq, hr, hE, hF, hown2, hbw2⟩
                  by_cases h2 : M < c
                  · rw [Pu.estep_gt _ _ _ _ h2] at hF hE2
                    have A9 : Aside (q = Pu.bl p ++ so ∧ r = l.length - sh ∧ Pu.EB ⟨so, sd, sb, sh⟩ ((M - 128) * 1002 + (a ++ [c]).length) ∧ Pu.epass nb M t ⟨so, sd, sb, sh⟩ = F ∧ l = (a ++ [c]) ++ t) := ⟨hq, hr, hE2.mono (by omega), hF, hla2⟩
                    clear hla hla2 hq hr hE2 hF hFe hl2
                    go_wp2
                    go_roundg t.length
                    case measure => omega
                    case rel =>
                      obtain ⟨hq, hr, hE, hF, hla2⟩ := A9.out
                      exact ⟨a ++ [c], t, hla2, rfl, hit2'.out, q, ad, cp, so, sd, sb, sh, r, rfl, rfl, rfl, rfl, rfl, hq, hr, hE, hF, hown2, hbw2⟩
                  · obtain rfl : M = c := by omega
                    have hFe2 := Pu.epass_h nb M t (Pu.estep nb M ⟨so, sd, sb, sh⟩ M)
                    rw [hF] at hFe2
                    rw [Pu.estep_eq] at hF hE2 hFe2
                    simp only at hF hE2 hFe2
                    have hsh2 : sh ≤ 1000 := by omega
                    have A9 : Aside (q = Pu.bl p ++ so ∧ r = l.length - sh ∧ Pu.EB ⟨so ++ (Pu.num sd 36 sb).map Pu.dig, 0, Pu.adapt sd (sh + 1) (sh == nb), sh + 1⟩ ((M - 128) * 1002 + (a ++ [M]).length) ∧ Pu.epass nb M t ⟨so ++ (Pu.num sd 36 sb).map Pu.dig, 0, Pu.adapt sd (sh + 1) (sh == nb), sh + 1⟩ = F ∧ l = (a ++ [M]) ++ t) := ⟨hq, hr, hE2.mono (by omega), hF, hla2⟩
                    have hrr : r ≤ 1001 ∧ 0 ≤ r := by omega
                    clear hla hla2 hq hr hE2 hF hFe hFe2 hl2 h1 h2
                    obtain ⟨r1, r0⟩ := hrr
                    have hsd : sd ≤ 2147483647 := by omega
                    go_upto_block 8 with fail
                    go_cut [6, 21] (fun o x wr => ∃ (q' : List UInt8) (ad : Option Addr) (cp : Nat) (y : Int), o = .slice ad q'.length cp ∧ x = .int .i32 y ∧ 0 ≤ y ∧ y < 36 ∧ q' ++ [Pu.dig y] = q ++ (Pu.num sd 36 sb).map Pu.dig ∧ wr.heap[wo.heap.size]? = some (.stringIter S (Pu.utf (a ++ [M])).length) ∧ OwnB w.heap.size q' ad cp wr ∧ Below w.heap.size w wr)
                    case first =>
                      clear A9 hnx
                      go_wp2_with fail
                      go_loopg [6, 21, 22] sd.toNat (fun k o x kk wr => ∃ (q' : List UInt8) (ad : Option Addr) (cp : Nat) (y kv : Int), o = .slice ad q'.length cp ∧ x = .int .i32 y ∧ kk = .int .i32 kv ∧ 0 ≤ y ∧ y ≤ 2147483647 ∧ y.toNat = k ∧ 36 ≤ kv ∧ kv + 36 * ((Pu.num y kv sb).length : Int) ≤ 500 ∧ q' ++ (Pu.num y kv sb).map Pu.dig = q ++ (Pu.num sd 36 sb).map Pu.dig ∧ wr.heap[wo.heap.size]? = some (.stringIter S (Pu.utf (a ++ [M])).length) ∧ OwnB w.heap.size q' ad cp wr ∧ Below w.heap.size w wr)
                      case atStart =>
                        have := Pu.num_short sd 36 sb d0 hsd
                        exact ⟨q, ad, cp, sd, 36, rfl, rfl, rfl, d0, hsd, rfl, by omega, by omega, rfl, hit2'.out, hown2, hbw2⟩
                      case round =>
                        clear hown2 hbw2 hit2'
                        obtain ⟨q', ad', cp', y, kv, rfl, rfl, rfl, y0, y1, hyk, kv0, kv1, hqq, hit3, hown2, hbw2⟩ := hrel
                        have hlen : q'.length ≤ q.length + 11 := by
                          have h := congrArg List.length hqq
                          have := Pu.num_short sd 36 sb d0 hsd
                          simp only [List.length_append, List.length_map] at h
                          omega
                        have hone := Pu.num_one y kv sb
                        have ht := Pu.thr_bd kv sb
                        have hWz5 : w.heap.size ≤ wr.heap.size := hbw2.size
                        have A12 : Aside (q' ++ (Pu.num y kv sb).map Pu.dig = q ++ (Pu.num sd 36 sb).map Pu.dig ∧ wr.heap[wo.heap.size]? = some (.stringIter S (Pu.utf (a ++ [M])).length) ∧ y.toNat = gk ∧ kv + 36 * ((Pu.num y kv sb).length : Int) ≤ 500) := ⟨hqq, hit3, hyk, kv1⟩
                        have kv2 : kv ≤ 500 := by omega
                        clear hqq hit3 hyk kv1 hone
                        obtain ⟨T, hT⟩ : ∃ T, Pu.thr kv sb = T := ⟨_, rfl⟩
                        rw [hT] at ht
                        have HT := Lib.hid hT
                        clear hT
                        obtain ⟨t0, t1⟩ := ht
                        go_upto_if 120 with fail
                        go_cut [23] (fun tv w2 => tv = .int .i32 T ∧ w2 = wr)
                        case first =>
                          have hTd := HT.out
                          unfold Pu.thr at hTd
                          by_cases k1 : kv ≤ sb
                          · rw [if_pos k1] at hTd
                            have HTd := Lib.hid hTd
                            clear hTd
                            go_wp2
                            go_meet
                            exact ⟨by rw [HTd.out], rfl⟩
                          by_cases k2 : sb + 26 ≤ kv
                          · rw [if_neg k1, if_pos k2] at hTd
                            have HTd := Lib.hid hTd
                            clear hTd
                            go_wp2
                            go_meet
                            exact ⟨by rw [HTd.out], rfl⟩
                          · rw [if_neg k1, if_neg k2] at hTd
                            have HTd := Lib.hid hTd
                            clear hTd
                            go_wp2
                            go_meet
                            exact ⟨by rw [HTd.out], rfl⟩
                        case rest =>
                          obtain ⟨rfl, rfl⟩ := hcut
                          by_cases hyt : y < T
                          · go_wp2
                            go_meet
                            obtain ⟨hqq, hit3, hyk, kv1⟩ := A12.out
                            rw [Pu.num_last y kv sb (by rw [HT.out]; exact hyt)] at hqq
                            exact ⟨q', ad', cp', y, rfl, rfl, y0, by omega, hqq, hit3, hown2, hbw2⟩
                          · have hqb := Pu.quo_bd y T t0 t1 (by omega)
                            have hrb := Pu.rem_bd y T t1
                            have HN := Lib.hid (Pu.num_step y kv sb (by rw [HT.out]; exact hyt))
                            go_wp2_with fail
                            refine (encodeDigit_any (T + (y - T) % (36 - T)) _ (by omega) (by omega)).mono ?_
                            rintro e w' ⟨rfl, rfl⟩
                            obtain ⟨X, hX⟩ : ∃ X : Int, ((Pu.dig (T + (y - T) % (36 - T))).toNat : Int) = X := ⟨_, rfl⟩
                            rw [hX]
                            have HX := Lib.hid hX
                            clear hX
                            go_wp2_with (at_builtin; refine wpList_append_own_wide _ rfl _ _ 36 rfl w.heap.size 5 i0 (.int .u8 0) 1 1 Try.underlying36 hi hz0 hz1 hz2 rfl (by decide) _ _ _ rfl (World.ownsRow.alloc hown2 _) ⟨wc.heap.size, 0, none⟩ 1 1 [.int .u8 X] rfl rfl ?c1 ?c2 ?c3 ?c4 ?c5 ?_)
                            case c1 => exact cell_one_new _ _ _
                            case c2 => simp [Value.oneCell']
                            case c3 => unfold maxLen; omega
                            case c4 => omega
                            case c5 => simp; omega
                            intro v' w1 hown' hgrow hnil
                            clear hnil
                            obtain ⟨q3, ad3, cp3, hq3, hv, hown3⟩ := app_step (Pu.dig (T + (y - T) % (36 - T))) HX.out hown'
                            have hit4 := Lib.hid (iter_grown (World.ownsRow.alloc hown2 _) hgrow ((Below.heap_alloc wc _ _ (Array.getElem?_eq_some_iff.1 A12.out.2.1).1).trans A12.out.2.1))
                            have hbw3 := below_grown (World.ownsRow.alloc hown2 _) hgrow (hbw2.alloc (by omega) _) (by omega) (by simp; omega)
                            rw [hv]
                            have A11 := Lib.hid hq3
                            clear hv hq3 hgrow hown'
                            go_wp2
                            go_roundg ((y - T) / (36 - T)).toNat
                            case measure => have := A12.out.2.2.1; omega
                            case rel =>
                              obtain ⟨hqq, hit3, hyk, kv1⟩ := A12.out
                              rw [HN.out, HT.out, List.length_cons] at kv1
                              rw [HN.out, HT.out] at hqq
                              refine ⟨q3, ad3, cp3, _, kv + 36, rfl, rfl, rfl, hqb.1, by omega, rfl, by omega, by omega, ?_, hit4.out, hown3, hbw3⟩
                              rw [A11.out, ← hqq]; simp
                    case rest =>
                      clear hown2 hbw2 hnx hit2'
                      obtain ⟨q', ad', cp', y, rfl, rfl, y0, y1, hqq, hit3, hown2, hbw2⟩ := hcut
                      have hlen : q'.length ≤ q.length + 11 := by
                        have h := congrArg List.length hqq
                        have := Pu.num_short sd 36 sb d0 hsd
                        simp only [List.length_append, List.length_map, List.length_cons, List.length_nil] at h
                        omega
                      have A10 : Aside (q' ++ [Pu.dig y] = q ++ (Pu.num sd 36 sb).map Pu.dig ∧ wc.heap[wo.heap.size]? = some (.stringIter S (Pu.utf (a ++ [M])).length)) := ⟨hqq, hit3⟩
                      have hWz4 : w.heap.size ≤ wc.heap.size := hbw2.size
                      clear hqq hit3
                      go_wp2_with fail
                      refine (encodeDigit_any y _ y0 y1).mono ?_
                      rintro e w' ⟨rfl, rfl⟩
                      obtain ⟨X, hX⟩ : ∃ X : Int, ((Pu.dig y).toNat : Int) = X := ⟨_, rfl⟩
                      rw [hX]
                      have HX := Lib.hid hX
                      clear hX
                      go_wp2_with (at_builtin; refine wpList_append_own_wide _ rfl _ _ 36 rfl w.heap.size 5 i0 (.int .u8 0) 1 1 Try.underlying36 hi hz0 hz1 hz2 rfl (by decide) _ _ _ rfl (World.ownsRow.alloc hown2 _) ⟨wc.heap.size, 0, none⟩ 1 1 [.int .u8 X] rfl rfl ?c1 ?c2 ?c3 ?c4 ?c5 ?_)
                      case c1 => exact cell_one_new _ _ _
                      case c2 => simp [Value.oneCell']
                      case c3 => unfold maxLen; omega
                      case c4 => omega
                      case c5 => simp; omega
                      intro v' w1 hown' hgrow hnil
                      clear hnil
                      obtain ⟨q3, ad3, cp3, hq3, hv, hown3⟩ := app_step (Pu.dig y) HX.out hown'
                      have hit4 := Lib.hid (iter_grown (World.ownsRow.alloc hown2 _) hgrow ((Below.heap_alloc wc _ _ (Array.getElem?_eq_some_iff.1 A10.out.2).1).trans A10.out.2))
                      have hbw3 := below_grown (World.ownsRow.alloc hown2 _) hgrow (hbw2.alloc (by omega) _) (by omega) (by simp; omega)
                      rw [hv]
                      have A11 := Lib.hid hq3
                      clear hv hq3 hgrow hown'
                      go_wp2_with fail
                      refine (adapt_any sd (sh + 1) (sh == nb) _ d0 hsd (by omega) (by omega)).mono ?_
                      rintro e w' ⟨rfl, rfl⟩
                      go_wp2
                      go_roundg t.length
                      case measure => omega
                      case rel =>
                        obtain ⟨hq, hr, hE, hF, hla2⟩ := A9.out
                        refine ⟨a ++ [M], t, hla2, rfl, hit4.out, q3, ad3, cp3, so ++ (Pu.num sd 36 sb).map Pu.dig, 0, _, sh + 1, _, rfl, rfl, rfl, rfl, rfl, ?_, ?_, hE, hF, hown3, hbw3⟩
                        · rw [A11.out, A10.out.1, hq]; simp
                        · omega
            case rest =>
              obtain ⟨hqs, hrs, hcn, hen, hc1, hc2, hFh3, E0, hF⟩ := A7.out
              clear hown hbw A7
              obtain ⟨q, ad, cp, r, rfl, rfl, rfl, rfl, rfl, hq, hr, hEB, hown, hbw⟩ := hcut
              have hEB2 := hEB
              obtain ⟨e0, e1, e2, e3, e4, e5⟩ := hEB2
              have A8 : Aside (q = Pu.bl p ++ F.out ∧ r = l.length - F.h ∧ Pu.EB F ((M - 128) * 1002 + 1001) ∧ Pu.eloop nb l g (M + 1) (Pu.eend F) = Pu.enc l ∧ F.h = Pu.cnt (M + 1) l ∧ l.length ≤ g + F.h) := ⟨hq, hr, hEB, hen, by omega, by omega⟩
              clear hqs hrs hcn hen hc1 hc2 hFh3 E0 hF hq hr hEB
              go_wp2
              go_roundg g
              case measure => omega
              case rel =>
                obtain ⟨hq, hr, hEB, hen, hc, hf⟩ := A8.out
                exact ⟨q, ad, cp, F.out, F.delta + 1, F.bias, F.h, M + 1, r, rfl, rfl, rfl, rfl, rfl, rfl, hq, hr, ⟨by simp only; omega, by simp only; omega, e2, e3, e4, e5⟩, hc, by omega, by omega, hf, hen, hown, hbw⟩

end Go.Proofs.Ytoeaiifmablbnaa
