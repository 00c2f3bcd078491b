/- Memory: a string's iterator and an owned row side by side. -/
import Derived.Test.YtoeaiifmablbnaaRun
import Derived.Test.YtoeaiifmablbnaaEnc
import Derived.Lib.BufferWrite
import Derived.Deep.LoopGhost
import Derived.Deep.DeepCutAuto
import Derived.Deep.CutBlock
import Derived.Deep.DeepMust
import Derived.Deep.DeepFit
namespace Go.Proofs.Ytoeaiifmablbnaa
open Go.RowKit

theorem iter_grown {w w' : World} {B : Nat} {e : TypeId} {sz : Nat} {v : Value} {n : Nat} {xs : List Value} {k : Nat} {S : ByteArray} {pos : Nat} (h : w.ownsRow B e sz v n xs) (hg : w.grownBy w' v.ownBlock) (hk : w.heap[k]? = some (.stringIter S pos)) : w'.heap[k]? = some (.stringIter S pos) := by
  rw [hg.block k (Array.getElem?_eq_some_iff.1 hk).1, hk]
  intro e1
  rcases h.2 with ⟨rfl, _⟩ | ⟨g, cap, cur, rfl, hb, hgg, _⟩
  · simp [Value.ownBlock] at e1
  · simp [Value.ownBlock] at e1
    subst e1
    rw [hk] at hgg
    cases hgg

theorem own_iterAt {w : World} {B : Nat} {e : TypeId} {sz : Nat} {v : Value} {n : Nat} {xs : List Value} {k : Nat} {S : ByteArray} {pos : Nat} (h : w.ownsRow B e sz v n xs) (hk : w.heap[k]? = some (.stringIter S pos)) (pos' : Nat) : (w.iterAt k S pos').ownsRow B e sz v n xs := by
  refine ⟨h.1, ?_⟩
  rcases h.2 with h2 | ⟨g, cap, cur, rfl, hb, hgg, r⟩
  · exact .inl h2
  · refine .inr ⟨g, cap, cur, rfl, hb, ?_, r⟩
    rw [Lib.iterAt_other _ _ _ _ _ ?_]
    · exact hgg
    · intro e1
      subst e1
      rw [hk] at hgg
      cases hgg

theorem own_iter {w : World} {B : Nat} {e : TypeId} {sz : Nat} {v : Value} {n : Nat} {xs : List Value} (h : w.ownsRow B e sz v n xs) (S : ByteArray) (pos : Nat) : (w.iter S pos).ownsRow B e sz v n xs := h.alloc _

/-- the next code point of a text in UTF-8 -/
theorem next_cons {w0 wr : World} {B C k : Nat} {e : TypeId} {v : Value} {n : Nat} {xs : List Value} {S : ByteArray} {a r : List Int} {c : Int} (hS : Pu.bl S = Pu.utf (a ++ c :: r)) (hc : Pu.okc c)
    (hit : wr.heap[k]? = some (.stringIter S (Pu.utf a).length)) (hown : wr.ownsRow B e 1 v n xs) (hb : Below C w0 wr) (hC : C ≤ k) :
    ∃ W : World, (∀ ty, (Instr.next (.pointer (some ⟨k, 0, none⟩)) true ty).run Try.prog wr = .ok (.tuple #[.bool true, .int .i64 ((Pu.utf a).length : Nat), .int .i32 c]) W) ∧
      W.heap[k]? = some (.stringIter S (Pu.utf (a ++ [c])).length) ∧ W.ownsRow B e 1 v n xs ∧ Below C w0 W ∧ W.heap.size = wr.heap.size := by
  have h : Pu.bl S = Pu.utf a ++ (Pu.ub c ++ Pu.utf r) := by rw [hS, Pu.utf_append, Pu.utf_cons]
  have hd := Pu.decode_at hc h
  have hp := Pu.ub_pos c
  have hlt : (Pu.utf a).length < S.size := by rw [Pu.bl_size, h]; simp; omega
  have hw : (Pu.utf (a ++ [c])).length = (Pu.utf a).length + (Pu.ub c).length := by rw [Pu.utf_append, Pu.utf_cons, Pu.utf_nil]; simp
  have hc0 : ((c.toNat : Nat) : Int) = c := by unfold Pu.okc at hc; omega
  refine ⟨wr.iterAt k S ((Pu.utf a).length + (Pu.ub c).length), fun ty => ?_, ?_, own_iterAt hown hit _, Lib.below_iterAt hb hC _ _, Lib.iterAt_size _ _ _ _⟩
  · rw [Lib.run_next_any_at wr k S _ ty hit hlt, hd]
    simp only [hc0]
  · rw [hw]; exact Lib.iterAt_heap wr k S _ _ hit

theorem next_nil {wr : World} {k : Nat} {S : ByteArray} {a : List Int} (hS : Pu.bl S = Pu.utf a) (hit : wr.heap[k]? = some (.stringIter S (Pu.utf a).length)) :
    ∀ ty, (Instr.next (.pointer (some ⟨k, 0, none⟩)) true ty).run Try.prog wr = .ok (.tuple #[.bool false]) wr :=
  fun ty => Lib.run_next_end_at wr k S _ ty hit (by rw [Pu.bl_size, hS]; omega)

theorem iter_measure {w W : World} {k : Nat} {S : ByteArray} {a r : List Int} {c : Int} (hS : Pu.bl S = Pu.utf (a ++ c :: r)) (h1 : w.heap[k]? = some (.stringIter S (Pu.utf a).length)) (h2 : W.heap[k]? = some (.stringIter S (Pu.utf (a ++ [c])).length)) :
    S.size - W.iterPos k < S.size - w.iterPos k := by
  have hp := Pu.ub_pos c
  have hw : (Pu.utf (a ++ [c])).length = (Pu.utf a).length + (Pu.ub c).length := by rw [Pu.utf_append, Pu.utf_cons, Pu.utf_nil]; simp
  have hz : S.size = (Pu.utf a).length + ((Pu.ub c).length + (Pu.utf r).length) := by rw [Pu.bl_size, hS, Pu.utf_append, Pu.utf_cons]; simp
  simp only [World.iterPos, h1, h2]
  omega

/-- bytes that a slice of the call's own holds -/
def OwnB (B : Nat) (l : List UInt8) (ad : Option Addr) (cp : Nat) (w : World) : Prop := w.ownsRow B 5 1 (.slice ad l.length cp) l.length (Lib.byteCells l)

theorem byteCells_snoc (l : List UInt8) (b : UInt8) : Lib.byteCells (l ++ [b]) = Lib.byteCells l ++ [.int .u8 b.toNat] := by simp [Lib.byteCells]

/-- behind 'append(out, b)' -/
theorem app_step {w' : World} {B : Nat} {l : List UInt8} {v' : Value} {x : Int} (b : UInt8) (hx : (b.toNat : Int) = x) (h : w'.ownsRow B 5 1 v' (l.length + 1) (Lib.byteCells l ++ [.int .u8 x])) :
    ∃ q ad' cp', q = l ++ [b] ∧ v' = .slice ad' q.length cp' ∧ OwnB B q ad' cp' w' := by
  subst hx
  obtain ⟨ad', cp', rfl⟩ := own_form h
  refine ⟨_, ad', cp', rfl, by simp, ?_⟩
  unfold OwnB
  rw [byteCells_snoc]
  simpa using h

theorem OwnB.iter {B : Nat} {l : List UInt8} {ad : Option Addr} {cp : Nat} {w : World} (h : OwnB B l ad cp w) (S : ByteArray) (pos : Nat) : OwnB B l ad cp (w.iter S pos) := own_iter h S pos

end Go.Proofs.Ytoeaiifmablbnaa
