/- The last step of a row whose call leaves what was there as it was ('Below'); what a slice of code points of the call's own gives as a string. -/
import Derived.Test.YtoeaiifmablbnaaRun
import Derived.ProofKit
import Derived.OpenShut
import Derived.ShutString
import Derived.SizedLaws
namespace Go.Proofs.Ytoeaiifmablbnaa
open Go.RowKit Go.WideShapes Go.ChangeShapes

section
variable {H : Type} {enc : TypeId × Value → H} {P : Program}
theorem post_of_below {f : Func} {s : ChangeSpec} {apart fresh handsOn again : Bool} {W W' : World} {args : Array Value} {v : Value} {ds gs : List (DataW H)} {before pa pv : List MemPlace}
    (hW : DataW.Whole enc P f.params.toList s.vars apart W args.toList ds gs before)
    (hres : ∀ (b : Nat) (sp : Nat → Bool) (hd : Bool), DataW.TrodAll enc P W' b sp hd f.resultTypes.toList (v.resultList f.resultTypes.size) (s.fn H (ds ++ gs)).results [])
    (hargs : ∀ sp : Nat → Bool, (∀ p ∈ before, sp p.block = true) → DataW.TrodAll enc P W' 0 sp true f.params.toList args.toList (s.fn H (ds ++ gs)).args pa)
    (hvars : ∀ sp : Nat → Bool, (∀ p ∈ before, sp p.block = true) → DataW.TrodVars enc P W' sp s.vars (s.fn H (ds ++ gs)).vars pv)
    (hps : before = pa ++ pv) (hb : Below W.heap.size W W')
    (hok : ∀ (j : Nat) (t : TypeId) (r : Value), f.resultTypes[j]? = some t → (v.resultList f.resultTypes.size)[j]? = some r → Value.okWide P W' .any 0 t r) :
    s.post enc P f apart fresh handsOn again W args v W' := by
  have hlt : ∀ p ∈ before, p.block < W.heap.size := fun p hp => hW.lt p hp
  have hold : ∀ p ∈ before, (fun b => decide (b < W.heap.size)) p.block = true := fun p hp => by simpa using hlt p hp
  refine ⟨ds, gs, before, [], pa, pv, hW, hres _ _ _, hargs _ hold, hvars _ hold, World.keptBut_mono (fun p hp => ⟨hp, ?_⟩) (hb.frame (· ∈ before)), fun _ => ?_⟩
  · rw [hps, List.mem_append] at hp
    exact Or.inr hp
  · obtain ⟨_, _, _, _, _, hz, hn⟩ := hW
    refine ⟨hok, _, _, ([] ++ pa) ++ pv, ⟨[] ++ pa, pv, trodAll_append (hargs _ (fun _ _ => rfl)) (hres _ _ _), hvars _ (fun _ _ => rfl), rfl, ?_, ?_⟩, ?_⟩
    · intro b off hp
      have hin : MemPlace.cell b off ∈ before := by rw [hps]; simpa using hp
      rw [hb.frozen (hlt _ hin)]
      exact hz b off hin
    · intro ha
      have := hn ha
      rw [hps] at this
      simpa using this
    · intro p hp _
      rw [hps]
      simpa using hp
end

theorem Try.own : ownKnob Try.prog.godebug = none := by kernel_rfl

theorem runesBytes_utf (l : List Int) : runesBytes l = Pu.bs (Pu.utf l) := by
  have h : ∀ (l : List Int) (s : ByteArray), Pu.bl (l.foldl (fun r n => r ++ Utf8.encode n) s) = Pu.bl s ++ Pu.utf l := by
    intro l
    induction l with
    | nil => intro s; simp [Pu.utf]
    | cons c l ih => intro s; rw [List.foldl_cons, ih, Pu.bl_append, Pu.utf_cons]; simp [Pu.ub]
  apply Pu.bl_inj
  rw [Pu.bl_bs]
  exact h l ByteArray.empty

/-- 'string(l)' -/
theorem own_runes {B : Nat} {R : List Int} {ad : Option Addr} {cp : Nat} {w : World} (h : OwnI B R (.slice ad R.length cp) w) : (convert 22 9 (.slice ad R.length cp)).run Try.prog w = .ok (.string (Pu.bs (Pu.utf R))) w := by
  cases ad with
  | none =>
    have hq : R = [] := by
      rcases h.2 with ⟨h1, h2⟩ | ⟨g, cap, cur, h1, _⟩
      · exact List.eq_nil_of_length_eq_zero h2
      · cases h1
    subst hq
    rw [run_convert_runes_nil w 22 9 21 _ _ Try.underlying22 Try.underlying21 Try.underlying9]
    rfl
  | some a =>
    have hr := run_convert_runes (P := Try.prog) w 22 9 21 a R.length cp R (Nat.le_refl _) Try.underlying22 Try.underlying21 Try.underlying9 (by
      intro j hj
      have hc := h.cells (g := a.block) (by simp [Value.ownBlock]) j (.int .i32 (R.getD j 0)) (by simp [hj])
      rcases h.2 with ⟨h1, h2⟩ | ⟨g, cap, cur, h1, _⟩
      · cases h1
      · have ha : a = ⟨g, 0, none⟩ := by
          simp only [Value.slice.injEq, Option.some.injEq] at h1
          exact h1.1
        rw [ha] at hc ⊢
        exact hc)
    rw [hr, List.take_length, runesBytes_utf]

theorem runesOf_len (s : ByteArray) (many : Nat) : (RunesOf s many).length ≤ many := by unfold RunesOf; exact List.length_take_le _ _
theorem runesOf_ok (s : ByteArray) (many : Nat) : ∀ c ∈ RunesOf s many, Pu.okc c ∧ c ≠ 65533 := by
  intro c hc
  unfold RunesOf at hc
  have h1 := List.mem_filter.1 (List.mem_of_mem_take hc)
  exact ⟨Pu.scan_ok s _ _ c h1.1, by simpa using h1.2⟩

theorem ret_true {b : Bool} (h : b = true) : Ending.returned (.bool b) = .returned (.bool true) := by rw [h]
theorem okc_le {l : List Int} (h : ∀ c ∈ l, Pu.okc c ∧ c ≠ 65533) : ∀ c ∈ l, c ≤ 1114111 := fun c hc => by have := (h c hc).1; unfold Pu.okc at this; omega

theorem below_then {B : Nat} {w w1 w2 : World} (h1 : Below B w w1) (hB : B ≤ w.heap.size) (h2 : Below w1.heap.size w1 w2) : Below B w w2 :=
  h1.trans (h2.mono (by have := h1.size; omega))

end Go.Proofs.Ytoeaiifmablbnaa
