/-
  THE PLAIN LAW OF A VERSION's FORMAT: no Go in sight.
-/
import Derived.Test.Qxb6602049aPlainA
namespace Go.Proofs.Qxb6602049a.Plain

/-- May the byte stand in a version? -/
def verB (c : Int) : Bool := alnB c || (c == 46) || (c == 58) || (c == 43) || (c == 126) || (c == 45)

/-- Must the byte not end a version? -/
def openB (c : Int) : Bool := (c == 46) || (c == 58) || (c == 45)

def headA : List Int → Bool
  | [] => false
  | c :: _ => alnB c

/-- Does the text end with a byte that must not end a version, 'p' standing for whatever comes before it? -/
def endO (p : Bool) : List Int → Bool
  | [] => p
  | c :: cs => endO (openB c) cs

def allV : List Int → Bool
  | [] => true
  | c :: cs => verB c && allV cs

def mVerEmpty : ByteArray := ⟨#[116, 104, 101, 32, 118, 101, 114, 115, 105, 111, 110, 32, 109, 117, 115, 116, 32, 110, 111, 116, 32, 98, 101, 32, 101, 109, 112, 116, 121]⟩
def mVerChars : ByteArray := ⟨([116, 104, 101, 32, 118, 101, 114, 115, 105, 111, 110, 32, 109, 97, 121, 32, 104, 111, 108, 100, 32, 111, 110, 108, 121, 32, 108, 101, 116, 116, 101, 114, 115, 44, 32].append [100, 105, 103, 105, 116, 115, 32, 97, 110, 100, 32, 116, 104, 101, 32, 99, 104, 97, 114, 97, 99, 116, 101, 114, 115, 32, 46, 32, 58, 32, 43, 32, 126, 32, 45]).toArray⟩
def mVerStart : ByteArray := ⟨#[116, 104, 101, 32, 118, 101, 114, 115, 105, 111, 110, 32, 109, 117, 115, 116, 32, 115, 116, 97, 114, 116, 32, 119, 105, 116, 104, 32, 97, 32, 108, 101, 116, 116, 101, 114, 32, 111, 114, 32, 97, 32, 100, 105, 103, 105, 116]⟩
def mVerEnd : ByteArray := ⟨#[116, 104, 101, 32, 118, 101, 114, 115, 105, 111, 110, 32, 109, 117, 115, 116, 32, 101, 110, 100, 32, 119, 105, 116, 104, 32, 97, 32, 108, 101, 116, 116, 101, 114, 44, 32, 97, 32, 100, 105, 103, 105, 116, 44, 32, 43, 32, 111, 114, 32, 126]⟩

/-- What versionFormat answers. -/
def verMsg (l : List Int) : ByteArray :=
  if l.isEmpty then mVerEmpty
  else if !allV l then mVerChars
  else if !headA l then mVerStart
  else if endO false l then mVerEnd
  else ⟨#[]⟩

theorem allV_append (a b : List Int) : allV (a ++ b) = (allV a && allV b) := by
  induction a with
  | nil => simp [allV]
  | cons c cs ih => simp [allV, ih, Bool.and_assoc]

theorem endO_append (a b : List Int) : ∀ p, endO p (a ++ b) = endO (endO p a) b := by
  induction a with
  | nil => intro p; rfl
  | cons c cs ih => intro p; exact ih _

theorem endO_cons (l : List Int) (h : l.isEmpty = false) (p : Bool) : endO p l = endO false l := by
  cases l with
  | nil => simp at h
  | cons c cs => rfl

theorem endO_last (l : List Int) : ∀ (c : Int) (p : Bool), l[l.length - 1]? = some c → endO p l = openB c := by
  induction l with
  | nil => intro c p h; simp at h
  | cons x xs ih =>
    intro c p h
    cases xs with
    | nil => simp at h; subst h; rfl
    | cons y ys =>
      have := ih c (openB x) (by simpa using h)
      exact this

theorem headA_at (l : List Int) (c : Int) (h : l[0]? = some c) : headA l = alnB c := by
  cases l with
  | nil => simp at h
  | cons x xs => simp at h; subst h; rfl

theorem codes_headA {s : ByteArray} (h : 0 < s.size) : headA (codes s) = alnB (s[0].toNat : Int) :=
  headA_at _ _ (codes_at s 0 h)

theorem codes_lastO {s : ByteArray} (h : 0 < s.size) : endO false (codes s) = openB (s[s.size - 1].toNat : Int) :=
  endO_last _ _ _ (by rw [codes_length]; exact codes_at s (s.size - 1) (by omega))

/-- The version's bytes as they stand ahead of place k: all are let. -/
def AtV (s : ByteArray) (k : Nat) : Prop := allV (codes s) = allV ((codes s).drop k)

theorem atV_zero (s : ByteArray) : AtV s 0 := rfl

theorem atV_ok {s : ByteArray} {k : Nat} (h : AtV s k) (hk : k < s.size) (hc : verB (s[k].toNat : Int) = true) : AtV s (k + 1) := by
  unfold AtV at h ⊢
  rw [h, codes_drop s k hk]
  simp [allV, hc]

theorem atV_bad {s : ByteArray} {k : Nat} (h : AtV s k) (hk : k < s.size) (hc : verB (s[k].toNat : Int) = false) : allV (codes s) = false := by
  unfold AtV at h
  rw [h, codes_drop s k hk]
  simp [allV, hc]

theorem atV_end {s : ByteArray} {k : Nat} (h : AtV s k) (hk : ¬ k < s.size) : allV (codes s) = true := by
  unfold AtV at h
  rw [h, List.drop_eq_nil_of_le (by rw [codes_length]; omega)]
  rfl

theorem ver_empty {s : ByteArray} (h : s.size = 0) : verMsg (codes s) = mVerEmpty := by
  rw [codes_empty h]
  rfl

theorem ver_bad {s : ByteArray} (h : 0 < s.size) (hs : allV (codes s) = false) : verMsg (codes s) = mVerChars := by
  unfold verMsg
  rw [codes_nonempty h, hs]
  rfl

theorem ver_start {s : ByteArray} (h : 0 < s.size) (hs : allV (codes s) = true) (hx : alnB (s[0].toNat : Int) = false) : verMsg (codes s) = mVerStart := by
  unfold verMsg
  rw [codes_nonempty h, hs, codes_headA h, hx]
  rfl

theorem ver_end {s : ByteArray} (h : 0 < s.size) (hs : allV (codes s) = true) (hx : alnB (s[0].toNat : Int) = true) (hy : openB (s[s.size - 1].toNat : Int) = true) : verMsg (codes s) = mVerEnd := by
  unfold verMsg
  rw [codes_nonempty h, hs, codes_headA h, hx, codes_lastO h, hy]
  rfl

theorem ver_fine {s : ByteArray} (h : 0 < s.size) (hs : allV (codes s) = true) (hx : alnB (s[0].toNat : Int) = true) (hy : openB (s[s.size - 1].toNat : Int) = false) : verMsg (codes s) = ⟨#[]⟩ := by
  unfold verMsg
  rw [codes_nonempty h, hs, codes_headA h, hx, codes_lastO h, hy]
  rfl

theorem verB_aln {c : Int} (h : alnB c = true) : verB c = true := by simp [verB, h]
theorem verB_46 {c : Int} (h : c = 46) : verB c = true := by simp [verB, h]
theorem verB_58 {c : Int} (h : c = 58) : verB c = true := by simp [verB, h]
theorem verB_43 {c : Int} (h : c = 43) : verB c = true := by simp [verB, h]
theorem verB_126 {c : Int} (h : c = 126) : verB c = true := by simp [verB, h]
theorem verB_or {c : Int} (h : ((((c != 46) = false ∨ (c != 58) = false) ∨ (c != 43) = false) ∨ (c != 126) = false) ∨ (c != 45) = false) : verB c = true := by
  simp at h
  rcases h with (((h | h) | h) | h) | h <;> simp [verB, h]
theorem verB_not {c : Int} (ha : ¬ alnB c = true) (h : ((((c != 46) = true ∧ (c != 58) = true) ∧ (c != 43) = true) ∧ (c != 126) = true) ∧ (c != 45) = true) : verB c = false := by
  simp at h ha
  simp [verB, ha, h]
theorem openB_46 {c : Int} (h : c = 46) : openB c = true := by simp [openB, h]
theorem openB_58 {c : Int} (h : c = 58) : openB c = true := by simp [openB, h]
theorem openB_or {c : Int} (h : ((c == 46) = true ∨ (c == 58) = true) ∨ (c == 45) = true) : openB c = true := by
  simp at h
  rcases h with (h | h) | h <;> simp [openB, h]
theorem openB_not {c : Int} (h : ((c == 46) = false ∧ (c == 58) = false) ∧ (c == 45) = false) : openB c = false := by
  simp [openB, h]

end Go.Proofs.Qxb6602049a.Plain
