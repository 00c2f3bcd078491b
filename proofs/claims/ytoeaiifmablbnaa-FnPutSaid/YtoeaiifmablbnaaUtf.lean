/- UTF-8: what is encoded is decoded, code point by code point. -/
import Derived.Test.YtoeaiifmablbnaaStr
namespace Go.Proofs.Ytoeaiifmablbnaa.Pu

/-- a code point that UTF-8 can bear -/
def okc (c : Int) : Prop := (0 ≤ c ∧ c < 55296) ∨ (57344 ≤ c ∧ c ≤ 1114111)

theorem valid_okc {c : Int} : Utf8.valid c = true ↔ okc c := by
  unfold Utf8.valid okc
  simp [Bool.or_eq_true, Bool.and_eq_true, decide_eq_true_eq]

def ub (c : Int) : List UInt8 := bl (Utf8.encode c)
def utf (l : List Int) : List UInt8 := l.flatMap ub

theorem utf_nil : utf [] = [] := rfl
theorem utf_cons (c : Int) (l : List Int) : utf (c :: l) = ub c ++ utf l := by simp [utf]
theorem utf_append (a b : List Int) : utf (a ++ b) = utf a ++ utf b := by simp [utf]

theorem ub_1 (c : Int) (h0 : 0 ≤ c) (h : c < 128) : ub c = [UInt8.ofNat c.toNat] := by
  have hv : Utf8.valid c = true := valid_okc.2 (by unfold okc; omega)
  simp [ub, Utf8.encode, hv, show c.toNat < 128 by omega, bl]
theorem ub_2 (c : Int) (h0 : 128 ≤ c) (h : c < 2048) : ub c = [UInt8.ofNat (192 + c.toNat / 64), UInt8.ofNat (128 + c.toNat % 64)] := by
  have hv : Utf8.valid c = true := valid_okc.2 (by unfold okc; omega)
  simp [ub, Utf8.encode, hv, show ¬ c.toNat < 128 by omega, show c.toNat < 2048 by omega, bl]
theorem ub_3 (c : Int) (h0 : 2048 ≤ c) (h : c < 65536) (ho : okc c) : ub c = [UInt8.ofNat (224 + c.toNat / 4096), UInt8.ofNat (128 + c.toNat / 64 % 64), UInt8.ofNat (128 + c.toNat % 64)] := by
  have hv : Utf8.valid c = true := valid_okc.2 ho
  simp [ub, Utf8.encode, hv, show ¬ c.toNat < 128 by omega, show ¬ c.toNat < 2048 by omega, show c.toNat < 65536 by omega, bl]
theorem ub_4 (c : Int) (h0 : 65536 ≤ c) (h : c ≤ 1114111) : ub c = [UInt8.ofNat (240 + c.toNat / 262144), UInt8.ofNat (128 + c.toNat / 4096 % 64), UInt8.ofNat (128 + c.toNat / 64 % 64), UInt8.ofNat (128 + c.toNat % 64)] := by
  have hv : Utf8.valid c = true := valid_okc.2 (by unfold okc; omega)
  simp [ub, Utf8.encode, hv, show ¬ c.toNat < 128 by omega, show ¬ c.toNat < 2048 by omega, show ¬ c.toNat < 65536 by omega, bl]
theorem ub_bad (c : Int) (h : ¬ okc c) : ub c = ub 65533 := by
  have hv : Utf8.valid c = false := by rw [← Bool.not_eq_true, valid_okc]; exact h
  have hv2 : Utf8.valid 65533 = true := rfl
  simp [ub, Utf8.encode, hv, hv2, Utf8.runeError]

theorem get_bl (s : ByteArray) (i : Nat) (b : UInt8) (h : (bl s)[i]? = some b) : s.get! i = b ∧ i < s.size := by
  have hi : i < (bl s).length := (List.getElem?_eq_some_iff.1 h).1
  have hs : i < s.size := by rw [bl_size]; exact hi
  refine ⟨?_, hs⟩
  rw [bl_get s i hs] at h
  have h2 := Option.some.inj h
  have h3 : i < s.data.size := hs
  show s.data[i]! = b
  rw [getElem!_pos s.data i h3]
  exact h2

theorem at_get {s : ByteArray} {x u y : List UInt8} (h : bl s = x ++ (u ++ y)) (k : Nat) (b : UInt8) (hk : u[k]? = some b) : s.get! (x.length + k) = b ∧ x.length + k < s.size := by
  apply get_bl
  rw [h, List.getElem?_append_right (by omega), show x.length + k - x.length = k by omega]
  have := (List.getElem?_eq_some_iff.1 hk).1
  rw [List.getElem?_append_left this, hk]

theorem decode_at {s : ByteArray} {x y : List UInt8} {c : Int} (hv : okc c) (h : bl s = x ++ (ub c ++ y)) : Utf8.decode s x.length = (c.toNat, (ub c).length) := by
  by_cases h1 : c < 128
  · have h0 : 0 ≤ c := by unfold okc at hv; omega
    rw [ub_1 c h0 h1] at h ⊢
    obtain ⟨g0, _⟩ := at_get h 0 _ rfl
    simp only [Utf8.decode, g0, UInt8.toNat_ofNat']
    rw [if_pos (by omega)]
    simp; omega
  by_cases h2 : c < 2048
  · rw [ub_2 c (by omega) h2] at h ⊢
    obtain ⟨g0, _⟩ := at_get h 0 _ rfl
    obtain ⟨g1, s1⟩ := at_get h 1 _ rfl
    simp only [Utf8.decode, g0, g1, UInt8.toNat_ofNat']
    rw [if_neg (by omega), if_pos (by simp [s1]; omega), if_pos (by omega)]
    simp; omega
  by_cases h3 : c < 65536
  · rw [ub_3 c (by omega) h3 hv] at h ⊢
    obtain ⟨g0, _⟩ := at_get h 0 _ rfl
    obtain ⟨g1, s1⟩ := at_get h 1 _ rfl
    obtain ⟨g2, s2⟩ := at_get h 2 _ rfl
    simp only [Utf8.decode, g0, g1, g2, UInt8.toNat_ofNat']
    have e : (((224 + c.toNat / 4096) % 2 ^ 8) % 16 * 4096 + ((128 + c.toNat / 64 % 64) % 2 ^ 8) % 64 * 64 + ((128 + c.toNat % 64) % 2 ^ 8) % 64) = c.toNat := by omega
    rw [if_neg (by omega), if_neg (by simp; omega), if_pos (by simp [s1, s2]; omega), e]
    rw [if_pos (by
      have e2 : ((c.toNat : Nat) : Int) = c := by omega
      rw [e2, valid_okc.2 hv]; simp; omega)]
    rfl
  · have h4 : c ≤ 1114111 := by unfold okc at hv; omega
    rw [ub_4 c (by omega) h4] at h ⊢
    obtain ⟨g0, _⟩ := at_get h 0 _ rfl
    obtain ⟨g1, s1⟩ := at_get h 1 _ rfl
    obtain ⟨g2, s2⟩ := at_get h 2 _ rfl
    obtain ⟨g3, s3⟩ := at_get h 3 _ rfl
    simp only [Utf8.decode, g0, g1, g2, g3, UInt8.toNat_ofNat']
    have e : (((240 + c.toNat / 262144) % 2 ^ 8) % 8 * 262144 + ((128 + c.toNat / 4096 % 64) % 2 ^ 8) % 64 * 4096 + ((128 + c.toNat / 64 % 64) % 2 ^ 8) % 64 * 64 + ((128 + c.toNat % 64) % 2 ^ 8) % 64) = c.toNat := by omega
    rw [if_neg (by omega), if_neg (by simp; omega), if_neg (by simp; omega), if_pos (by simp [s1, s2, s3]; omega), e]
    rw [if_pos (by
      have e2 : ((c.toNat : Nat) : Int) = c := by omega
      rw [e2, valid_okc.2 hv]; simp; omega)]
    rfl

theorem ub_pos (c : Int) : 1 ≤ (ub c).length ∧ (ub c).length ≤ 4 := by
  by_cases hv : okc c
  · by_cases h1 : c < 128
    · rw [ub_1 c (by unfold okc at hv; omega) h1]; simp
    by_cases h2 : c < 2048
    · rw [ub_2 c (by omega) h2]; simp
    by_cases h3 : c < 65536
    · rw [ub_3 c (by omega) h3 hv]; simp
    · rw [ub_4 c (by omega) (by unfold okc at hv; omega)]; simp
  · rw [ub_bad c hv, ub_3 65533 (by omega) (by omega) (by unfold okc; omega)]; simp

theorem utf_len (l : List Int) : l.length ≤ (utf l).length ∧ (utf l).length ≤ 4 * l.length := by
  induction l with
  | nil => simp [utf]
  | cons c l ih => rw [utf_cons]; have := ub_pos c; simp; omega

/-- what is decoded is a code point that UTF-8 can bear; it takes a byte at least -/
theorem decode_ok (s : ByteArray) (pos : Nat) : okc (Utf8.decode s pos).1 ∧ 1 ≤ (Utf8.decode s pos).2 := by
  have hb : ∀ k, (s.get! (pos + k)).toNat < 256 := fun k => (s.get! (pos + k)).toNat_lt
  have h0 := hb 0; have h1 := hb 1; have h2 := hb 2; have h3 := hb 3
  have hr : okc ((Utf8.runeError : Nat) : Int) := by unfold okc Utf8.runeError; omega
  simp only [Utf8.decode]
  split
  · exact ⟨by unfold okc; omega, by omega⟩
  split
  · split
    · exact ⟨by unfold okc; simp only; omega, by omega⟩
    · exact ⟨hr, by omega⟩
  split
  · split
    · rename_i hx; simp only [Bool.and_eq_true] at hx; exact ⟨valid_okc.1 hx.2, by simp⟩
    · exact ⟨hr, by omega⟩
  split
  · split
    · rename_i hx; simp only [Bool.and_eq_true] at hx; exact ⟨valid_okc.1 hx.2, by simp⟩
    · exact ⟨hr, by omega⟩
  · exact ⟨hr, by omega⟩

/-- the code points of a text, from a place on -/
def scan (s : ByteArray) : Nat → Nat → List Int
  | 0, _ => []
  | f + 1, pos => if pos < s.size then ((Utf8.decode s pos).1 : Int) :: scan s f (pos + (Utf8.decode s pos).2) else []

theorem scan_end (s : ByteArray) (f pos : Nat) (h : ¬ pos < s.size) : scan s f pos = [] := by cases f <;> simp [scan, h]
theorem scan_ok (s : ByteArray) : ∀ f pos c, c ∈ scan s f pos → okc c
  | 0, _, c, h => by simp [scan] at h
  | f + 1, pos, c, h => by
    unfold scan at h
    split at h
    · rcases List.mem_cons.1 h with rfl | h
      · exact (decode_ok s pos).1
      · exact scan_ok s f _ c h
    · simp at h

theorem scan_utf (s : ByteArray) : ∀ (l : List Int) (x : List UInt8) (f : Nat), (∀ c ∈ l, okc c) → bl s = x ++ utf l → l.length ≤ f → scan s f x.length = l
  | [], x, f, _, h, _ => scan_end s f _ (by rw [bl_size, h, utf_nil]; simp)
  | c :: l, x, f, ho, h, hf => by
    obtain ⟨g, rfl⟩ : ∃ g, f = g + 1 := ⟨f - 1, by simp at hf; omega⟩
    have hc := ho c (by simp)
    rw [utf_cons] at h
    have hd := decode_at hc h
    have hp := ub_pos c
    unfold scan
    rw [if_pos (by rw [bl_size, h]; simp; omega), hd]
    have ih := scan_utf s l (x ++ ub c) g (fun d hd => ho d (by simp [hd])) (by rw [h]; simp) (by simp at hf; omega)
    simp only [List.length_append] at ih
    simp only
    rw [ih]
    congr 1
    unfold okc at hc; omega

end Go.Proofs.Ytoeaiifmablbnaa.Pu
