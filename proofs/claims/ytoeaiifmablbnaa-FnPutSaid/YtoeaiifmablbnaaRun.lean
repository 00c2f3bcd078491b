/- What spec.Runes gives, at every string: the code points but U+FFFD, the first so many. -/
import Derived.Test.YtoeaiifmablbnaaSm2
import Derived.Test.YtoeaiifmablbnaaUtf
import Derived.Lib.OthersKept
import Derived.Deep.DeepAppendWide
import Derived.Laws.Cover4
namespace Go.Proofs.Ytoeaiifmablbnaa
open Go.RowKit

theorem Try.info21 : (Try.prog.info? 21).map (fun i => (i.zero, i.size, i.bytes)) = some (some (.int .i32 0), 1, 4) := by kernel_rfl
theorem Try.info5 : (Try.prog.info? 5).map (fun i => (i.zero, i.size, i.bytes)) = some (some (.int .u8 0), 1, 1) := by kernel_rfl

/-- a slice of code points that the call itself has made -/
def OwnI (B : Nat) (R : List Int) (v : Value) (w : World) : Prop := w.ownsRow B 21 1 v R.length (R.map (Value.int .i32))

def RunesOf (s : ByteArray) (many : Nat) : List Int := ((Pu.scan s s.size 0).filter (· ≠ 65533)).take many

def RunesPost (s : ByteArray) (many : Nat) (w : World) (e : Ending) (w' : World) : Prop := ∃ v, e = .returned v ∧ OwnI w.heap.size (RunesOf s many) v w' ∧ Below w.heap.size w w'

theorem own_form {w : World} {B : Nat} {e : TypeId} {sz : Nat} {v : Value} {n : Nat} {xs : List Value} (h : w.ownsRow B e sz v n xs) : ∃ a c, v = .slice a n c := by
  rcases h.2 with ⟨rfl, rfl⟩ | ⟨g, cap, cur, rfl, _⟩
  · exact ⟨none, 0, rfl⟩
  · exact ⟨_, _, rfl⟩

theorem ownsRow_down {w : World} {B C : Nat} {e : TypeId} {sz : Nat} {v : Value} {n : Nat} {xs : List Value} (h : w.ownsRow B e sz v n xs) (hC : C ≤ B) : w.ownsRow C e sz v n xs := by
  refine ⟨h.1, ?_⟩
  rcases h.2 with h2 | ⟨g, cap, cur, a, b, c⟩
  · exact .inl h2
  · exact .inr ⟨g, cap, cur, a, by omega, c⟩

/-- an append keeps what lies below the owned rows -/
theorem grown_keep {w w' : World} {B : Nat} {e : TypeId} {sz : Nat} {v : Value} {n : Nat} {xs : List Value} (h : w.ownsRow B e sz v n xs) (hg : w.grownBy w' v.ownBlock) (k : Nat) (hk : k < B) (hB : B ≤ w.heap.size) : w'.heap[k]? = w.heap[k]? :=
  hg.block k (by omega) (fun e => by have := (h.lt k e.symm).1; omega)
theorem below_grown {w0 w w' : World} {B C : Nat} {e : TypeId} {sz : Nat} {v : Value} {n : Nat} {xs : List Value} (h : w.ownsRow B e sz v n xs) (hg : w.grownBy w' v.ownBlock) (hb : Below C w0 w) (hC : C ≤ B) (hB : B ≤ w.heap.size) : Below C w0 w' :=
  hb.grown hg (by omega) (fun k e => by have := (h.lt k e).1; omega)

theorem runes_in (many : Nat) (acc r : List Int) (c : Int) (h : c ≠ 65533) (hl : acc.length < many) :
    acc ++ ((c :: r).filter (· ≠ 65533)).take (many - acc.length) = (acc ++ [c]) ++ (r.filter (· ≠ 65533)).take (many - (acc ++ [c]).length) := by
  rw [List.filter_cons_of_pos (by simpa using h), show many - acc.length = (many - (acc ++ [c]).length) + 1 by simp; omega, List.take_succ_cons]
  simp
theorem runes_bad (many : Nat) (acc r : List Int) (c : Int) (h : c = 65533) :
    acc ++ ((c :: r).filter (· ≠ 65533)).take (many - acc.length) = acc ++ (r.filter (· ≠ 65533)).take (many - acc.length) := by
  rw [List.filter_cons_of_neg (by simpa using h)]
theorem runes_full (many : Nat) (acc r q : List Int) (hl : ¬ acc.length < many) :
    acc ++ (q.filter (· ≠ 65533)).take (many - acc.length) = acc ++ (r.filter (· ≠ 65533)).take (many - acc.length) := by
  rw [show many - acc.length = 0 by omega]; simp

set_option maxRecDepth 100000 in
set_option maxHeartbeats 1000000 in
theorem runes_any (s : ByteArray) (many : Nat) (w : World) (hm : many ≤ 1000000) :
    Calls Try.prog 16 #[.string s, .int .i64 many] w (RunesPost s many w) := by
  obtain ⟨i0, hi, hz0, hz1, hz2⟩ := info_parts Try.info21
  obtain ⟨R, hR⟩ : ∃ R, RunesOf s many = R := ⟨_, rfl⟩
  have HR := Lib.hid hR
  clear hR
  go_enter Try.func16, Try.ntmps16
  go_wp2
  go_loopw [5] (fun o wr => ∃ (pos f : Nat) (acc : List Int) (ad : Option Addr) (cp : Nat), o = .slice ad acc.length cp ∧ wr.heap[w.heap.size]? = some (.stringIter s pos) ∧ wr.ownsRow (w.heap.size + 1) 21 1 (.slice ad acc.length cp) acc.length (acc.map (Value.int .i32)) ∧ Below w.heap.size w wr ∧ s.size ≤ pos + f ∧ acc.length ≤ many ∧
      acc ++ ((Pu.scan s f pos).filter (· ≠ 65533)).take (many - acc.length) = R) (fun _ wr => s.size - wr.iterPos w.heap.size)
  case atStart => exact ⟨0, s.size, [], none, 0, rfl, World.iter_heap w s 0, World.ownsRow_nil _ _ _ _, (Below.refl _ _).alloc (Nat.le_refl _) _, by omega, by simp, by simpa [RunesOf] using HR.out⟩
  case round =>
    obtain ⟨pos, f, acc, ad, cp, rfl, hit, hown, hbw, hfu, hal, hrel⟩ := hrel
    have HL := Lib.hid hrel
    clear hrel
    have hsz : w.heap.size < wr.heap.size := (Array.getElem?_eq_some_iff.1 hit).1
    by_cases hp : pos < s.size
    · have hnx : ∀ ty, (Instr.next (.pointer (some ⟨w.heap.size, 0, none⟩)) true ty).run Try.prog wr = _ := fun ty => Lib.run_next_any_at wr w.heap.size s pos ty hit hp
      have hdo := Pu.decode_ok s pos
      obtain ⟨g, rfl⟩ : ∃ g, f = g + 1 := ⟨f - 1, by omega⟩
      have HS := Lib.hid (show Pu.scan s (g + 1) pos = ((Utf8.decode s pos).1 : Int) :: Pu.scan s g (pos + (Utf8.decode s pos).2) by simp [Pu.scan, hp])
      obtain ⟨d, hd⟩ : ∃ d, Utf8.decode s pos = d := ⟨_, rfl⟩
      rw [hd] at hdo hnx HS
      clear hd
      obtain ⟨hd1, hd2⟩ := hdo
      have hit2 := Lib.hid (Lib.iterAt_heap wr w.heap.size s pos (pos + d.2) hit)
      have hbw2 := Lib.below_iterAt hbw (k := w.heap.size) (by omega) s (pos + d.2)
      have hown2 := ownsRow_iterAt hown (k := w.heap.size) (by omega) s (pos + d.2)
      have hit' := Lib.hid hit
      clear hit
      have hsz2 : w.heap.size + 1 ≤ (wr.iterAt w.heap.size s (pos + d.2)).heap.size := by rw [Lib.iterAt_size]; omega
      have hszE : (wr.iterAt w.heap.size s (pos + d.2)).heap.size = wr.heap.size := Lib.iterAt_size _ _ _ _
      have HsE := Lib.hid hszE
      clear hszE
      by_cases hc : (d.1 : Int) = 65533
      · have hb : ((d.1 : Int) != 65533) = false := by simp [hc]
        have Hc := Lib.hid hc
        clear hc
        go_wp2
        go_roundw
        case rel => exact ⟨_, g, acc, ad, cp, rfl, hit2.out, hown2, hbw2, by omega, hal, by rw [← HL.out, HS.out, runes_bad many acc _ _ Hc.out]⟩
        case measure =>
          simp only [World.iterPos, hit2.out, hit'.out]
          omega
      · have hb : ((d.1 : Int) != 65533) = true := by rw [bne_iff_ne]; exact hc
        have Hc := Lib.hid hc
        clear hc
        by_cases hl : acc.length < many
        · generalize hW : wr.iterAt w.heap.size s (pos + d.2) = W at *
          have HW := Lib.hid hW
          clear hW
          go_wp2_with (at_builtin; refine wpList_append_own _ rfl _ _ 22 rfl (w.heap.size + 1) 21 i0 (.int .i32 0) 1 4 Try.underlying22 hi hz0 hz1 hz2 rfl (by decide) _ _ _ rfl (hown2.alloc _) ⟨W.heap.size, 0, none⟩ 1 1 [.int .i32 d.1] rfl rfl ?c1 ?c2 ?c3 ?c4 ?c5 ?_)
          case c1 => exact cell_one_new _ _ _
          case c2 => simp [Value.oneCell']
          case c3 => unfold maxLen; omega
          case c4 => omega
          case c5 => simp; omega
          intro v' w1 hown' hgrow hnil
          clear hnil
          obtain ⟨ad2, cp2, hv⟩ := own_form hown'
          rw [hv] at hown' ⊢
          clear hv
          have hB : w.heap.size + 1 ≤ (W.alloc (.cells #[.int .i32 d.1] 21)).heap.size := by simp; omega
          have k1 := Lib.hid (grown_keep (hown2.alloc _) hgrow w.heap.size (by omega) hB)
          have k2 := below_grown (hown2.alloc _) hgrow (hbw2.alloc (by omega) _) (by omega) hB
          have k3 := Lib.hid (Below.heap_alloc W (.cells #[.int .i32 d.1] 21) w.heap.size (by omega))
          clear hgrow hB
          go_wp2
          go_roundw
          case rel => 
            refine ⟨pos + d.2, g, acc ++ [(d.1 : Int)], ad2, cp2, ?_, ?_, ?_, k2, by omega, by simp; omega, ?_⟩
            · simp
            · rw [k1.out, k3.out, hit2.out]
            · simpa using hown'
            · rw [← HL.out, HS.out, runes_in many acc _ _ Hc.out hl]
          case measure =>
            simp only [World.iterPos, k1.out, k3.out, hit2.out, hit'.out]
            omega
        · go_wp2
          go_roundw
          case rel => exact ⟨_, g, acc, ad, cp, rfl, hit2.out, hown2, hbw2, by omega, hal, by rw [← HL.out]; exact runes_full many acc _ _ hl⟩
          case measure =>
            simp only [World.iterPos, hit2.out, hit'.out]
            omega
    · have hnx : ∀ ty, (Instr.next (.pointer (some ⟨w.heap.size, 0, none⟩)) true ty).run Try.prog wr = _ := fun ty => Lib.run_next_end_at wr w.heap.size s pos ty hit hp
      have HE := Lib.hid (Pu.scan_end s f pos hp)
      have hit' := Lib.hid hit
      clear hit
      go_wp2
      go_ret
      refine ⟨_, rfl, ?_, hbw⟩
      have e : acc = RunesOf s many := by rw [HR.out, ← HL.out, HE.out]; simp
      unfold OwnI
      rw [← e]
      exact ownsRow_down hown (by omega)

end Go.Proofs.Ytoeaiifmablbnaa
