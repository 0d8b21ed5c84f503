/-
  THE PLAIN LAW OF A SNAP's NAME: no Go in sight.
-/
import Derived.Test.Qxb6602049aPlainA
namespace Go.Proofs.Qxb6602049a.Plain

/-- May the byte stand in a snap's name (beside the hyphen)? -/
def nameB (c : Int) : Bool := lowB c || digB c

def anyLow : List Int → Bool
  | [] => false
  | c :: cs => lowB c || anyLow cs

def mNameEmpty : ByteArray := ⟨#[116, 104, 101, 32, 110, 97, 109, 101, 32, 109, 117, 115, 116, 32, 110, 111, 116, 32, 98, 101, 32, 101, 109, 112, 116, 121]⟩
def mNameDouble : ByteArray := ⟨#[116, 104, 101, 32, 110, 97, 109, 101, 32, 109, 117, 115, 116, 32, 110, 111, 116, 32, 104, 111, 108, 100, 32, 116, 119, 111, 32, 104, 121, 112, 104, 101, 110, 115, 32, 105, 110, 32, 97, 32, 114, 111, 119]⟩
def mNameChars : ByteArray := ⟨#[116, 104, 101, 32, 110, 97, 109, 101, 32, 109, 97, 121, 32, 104, 111, 108, 100, 32, 111, 110, 108, 121, 32, 108, 111, 119, 101, 114, 45, 99, 97, 115, 101, 32, 108, 101, 116, 116, 101, 114, 115, 44, 32, 100, 105, 103, 105, 116, 115, 32, 97, 110, 100, 32, 104, 121, 112, 104, 101, 110, 115]⟩
def mNameLetter : ByteArray := ⟨#[116, 104, 101, 32, 110, 97, 109, 101, 32, 109, 117, 115, 116, 32, 104, 111, 108, 100, 32, 97, 116, 32, 108, 101, 97, 115, 116, 32, 111, 110, 101, 32, 108, 101, 116, 116, 101, 114]⟩
def mNameEdge : ByteArray := ⟨#[116, 104, 101, 32, 110, 97, 109, 101, 32, 109, 117, 115, 116, 32, 110, 111, 116, 32, 115, 116, 97, 114, 116, 32, 111, 114, 32, 101, 110, 100, 32, 119, 105, 116, 104, 32, 97, 32, 104, 121, 112, 104, 101, 110]⟩

/-- What nameFormat answers. -/
def nameMsg (l : List Int) : ByteArray :=
  if l.isEmpty then mNameEmpty
  else if scan nameB false l == 1 then mNameDouble
  else if scan nameB false l == 2 then mNameChars
  else if !anyLow l then mNameLetter
  else if headH l || endH false l then mNameEdge
  else ⟨#[]⟩

/-- Whether a lower-case letter occurs, as it stands ahead of place k: 'b': one has been seen. -/
def AtL (s : ByteArray) (k : Nat) (b : Bool) : Prop := anyLow (codes s) = (b || anyLow ((codes s).drop k))

theorem atL_zero (s : ByteArray) : AtL s 0 false := rfl

theorem atL_low {s : ByteArray} {k : Nat} {b : Bool} (h : AtL s k b) (hk : k < s.size) (hc : lowB (s[k].toNat : Int) = true) : AtL s (k + 1) true := by
  unfold AtL at h ⊢
  rw [h, codes_drop s k hk]
  simp [anyLow, hc]

theorem atL_not {s : ByteArray} {k : Nat} {b : Bool} (h : AtL s k b) (hk : k < s.size) (hc : lowB (s[k].toNat : Int) = false) : AtL s (k + 1) b := by
  unfold AtL at h ⊢
  rw [h, codes_drop s k hk]
  simp [anyLow, hc]

theorem atL_end {s : ByteArray} {k : Nat} {b : Bool} (h : AtL s k b) (hk : ¬ k < s.size) : anyLow (codes s) = b := by
  unfold AtL at h
  rw [h, List.drop_eq_nil_of_le (by rw [codes_length]; omega)]
  simp [anyLow]

theorem name_empty {s : ByteArray} (h : s.size = 0) : nameMsg (codes s) = mNameEmpty := by
  rw [codes_empty h]
  rfl

theorem name_dbl {s : ByteArray} (h : 0 < s.size) (hs : scan nameB false (codes s) = 1) : nameMsg (codes s) = mNameDouble := by
  unfold nameMsg
  rw [codes_nonempty h, hs]
  rfl

theorem name_bad {s : ByteArray} (h : 0 < s.size) (hs : scan nameB false (codes s) = 2) : nameMsg (codes s) = mNameChars := by
  unfold nameMsg
  rw [codes_nonempty h, hs]
  rfl

theorem name_letter {s : ByteArray} (h : 0 < s.size) (hs : scan nameB false (codes s) = 0) (hl : anyLow (codes s) = false) : nameMsg (codes s) = mNameLetter := by
  unfold nameMsg
  rw [codes_nonempty h, hs, hl]
  rfl

theorem name_edge {s : ByteArray} (h : 0 < s.size) (hs : scan nameB false (codes s) = 0) (hl : anyLow (codes s) = true) (hx : (s[0].toNat : Int) = 45 ∨ ((s[0].toNat : Int) == 45) = true ∨ ((s[s.size - 1].toNat : Int) == 45) = true) : nameMsg (codes s) = mNameEdge := by
  unfold nameMsg
  have e : (headH (codes s) || endH false (codes s)) = true := by
    rw [codes_head h, codes_last h]
    rcases hx with hx | hx | hx <;> simp_all
  rw [codes_nonempty h, hs, hl, e]
  rfl

theorem name_fine {s : ByteArray} (h : 0 < s.size) (hs : scan nameB false (codes s) = 0) (hl : anyLow (codes s) = true) (hx : ((s[0].toNat : Int) == 45) = false ∧ ((s[s.size - 1].toNat : Int) == 45) = false) : nameMsg (codes s) = ⟨#[]⟩ := by
  unfold nameMsg
  have e : (headH (codes s) || endH false (codes s)) = false := by
    rw [codes_head h, codes_last h, hx.1, hx.2]
    rfl
  rw [codes_nonempty h, hs, hl, e]
  rfl

theorem low_yes {c : Int} (h1 : 97 ≤ c) (h2 : c ≤ 122) : lowB c = true := by simp [lowB, h1, h2]
theorem low_ok {c : Int} (h1 : 97 ≤ c) (h2 : c ≤ 122) : nameB c = true := by simp [nameB, low_yes h1 h2]
theorem low_no {c : Int} (h : c < 97 ∨ 122 < c) : lowB c = false := by simp [lowB]; omega
theorem dig_ok {c : Int} (h1 : 48 ≤ c) (h2 : c ≤ 57) : nameB c = true := by simp [nameB, digB, h1, h2]
theorem name_no {c : Int} (h : c < 97 ∨ 122 < c) (h2 : c < 48 ∨ 57 < c) : nameB c = false := by
  simp [nameB, low_no h, digB]
  omega
theorem not_hy {c : Int} (h : c < 45 ∨ 45 < c) : (c == 45) = false := by simp; omega
theorem low_hy {c : Int} (h : (c == 45) = true) : lowB c = false := by
  simp at h
  simp [lowB, h]

end Go.Proofs.Qxb6602049a.Plain
