/-
  THE PLAIN LAW OF THE VERSION's AUTOMATON: no Go in sight.
-/
import Derived.Test.Qxb6602049aPlainV
namespace Go.Proofs.Qxb6602049a.Plain

/-- What zzVerClass answers. -/
def clsI (c : Int) : Int := if alnB c then 0 else if openB c then 1 else if (c == 43) || (c == 126) then 2 else 3

/-- One step of the automaton. -/
def stepA (q : Int) (c : Int) : Int :=
  if clsI c == 3 then 1
  else if q == 0 then (if clsI c == 0 then 3 else 2)
  else if (q == 3) || (q == 4) then (if clsI c == 1 then 4 else 3)
  else q

def runA (q : Int) : List Int → Int
  | [] => q
  | c :: cs => runA (stepA q c) cs

/-- The reason that the last state names. -/
def stMsg (q : Int) : ByteArray :=
  if q == 0 then mVerEmpty
  else if q == 1 then mVerChars
  else if q == 2 then mVerStart
  else if q == 4 then mVerEnd
  else ⟨#[]⟩

theorem aln_open {c : Int} (h : alnB c = true) : openB c = false := by
  simp [alnB, lowB, uppB, digB] at h
  simp [openB]
  omega

theorem cls0 (c : Int) : (clsI c == 0) = alnB c := by
  unfold clsI
  cases alnB c <;> cases openB c <;> cases ((c == 43) || (c == 126)) <;> rfl

theorem cls1 (c : Int) : (clsI c == 1) = openB c := by
  unfold clsI
  cases ha : alnB c
  · cases openB c <;> cases ((c == 43) || (c == 126)) <;> rfl
  · rw [aln_open ha]
    rfl

theorem cls3 (c : Int) : (clsI c == 3) = !verB c := by
  have e : verB c = (alnB c || openB c || ((c == 43) || (c == 126))) := by
    unfold verB openB
    cases alnB c <;> cases (c == 46) <;> cases (c == 58) <;> cases (c == 43) <;> cases (c == 126) <;> cases (c == 45) <;> rfl
  rw [e]
  unfold clsI
  cases alnB c <;> cases openB c <;> cases ((c == 43) || (c == 126)) <;> rfl

theorem step_bad (q : Int) {c : Int} (h : verB c = false) : stepA q c = 1 := by
  unfold stepA
  rw [cls3, h]
  rfl

theorem step0 {c : Int} (h : verB c = true) : stepA 0 c = if alnB c then 3 else 2 := by
  unfold stepA
  rw [cls3, h, cls0]
  rfl

theorem step34 {q : Int} (hq : q = 3 ∨ q = 4) {c : Int} (h : verB c = true) : stepA q c = if openB c then 4 else 3 := by
  unfold stepA
  rw [cls3, h, cls1]
  rcases hq with rfl | rfl <;> rfl

theorem step_stay {q : Int} (hq : q = 1 ∨ q = 2) {c : Int} (h : verB c = true) : stepA q c = q := by
  unfold stepA
  rw [cls3, h]
  rcases hq with rfl | rfl <;> rfl

theorem run1 (l : List Int) : runA 1 l = 1 := by
  induction l with
  | nil => rfl
  | cons c cs ih =>
    have e : stepA 1 c = 1 := by
      cases h : verB c
      · exact step_bad 1 h
      · exact step_stay (.inl rfl) h
    show runA (stepA 1 c) cs = 1
    rw [e, ih]

theorem run2 (l : List Int) : runA 2 l = if allV l then 2 else 1 := by
  induction l with
  | nil => rfl
  | cons c cs ih =>
    show runA (stepA 2 c) cs = _
    cases h : verB c
    · rw [step_bad 2 h, run1]
      simp [allV, h]
    · rw [step_stay (.inr rfl) h, ih]
      simp [allV, h]

theorem run34 (l : List Int) : ∀ p : Bool, runA (if p then 4 else 3) l = if allV l then (if endO p l then 4 else 3) else 1 := by
  induction l with
  | nil => intro p; rfl
  | cons c cs ih =>
    intro p
    show runA (stepA (if p then 4 else 3) c) cs = _
    cases h : verB c
    · rw [step_bad _ h, run1]
      simp [allV, h]
    · have e : allV (c :: cs) = allV cs := by simp [allV, h]
      rw [step34 (by cases p <;> simp) h, ih, e]
      rfl

/-- The automaton's answer is the format check's. -/
theorem automaton (l : List Int) : stMsg (runA 0 l) = verMsg l := by
  cases l with
  | nil => rfl
  | cons c cs =>
    show stMsg (runA (stepA 0 c) cs) = _
    cases h : verB c
    · rw [step_bad 0 h, run1]
      simp [verMsg, allV, h, stMsg]
    · rw [step0 h]
      cases ha : alnB c
      · show stMsg (runA 2 cs) = _
        rw [run2]
        cases hv : allV cs <;> simp [verMsg, allV, h, hv, headA, ha, stMsg]
      · have r := run34 cs false
        show stMsg (runA 3 cs) = _
        have r' : runA 3 cs = if allV cs then (if endO false cs then 4 else 3) else 1 := r
        rw [r']
        cases hv : allV cs <;> cases he : endO false cs <;> simp [verMsg, allV, h, hv, headA, ha, stMsg, endO, aln_open ha, he]

def AtA (s : ByteArray) (k : Nat) (q : Int) : Prop := runA 0 (codes s) = runA q ((codes s).drop k)

theorem atA_zero (s : ByteArray) : AtA s 0 0 := rfl

theorem atA_step {s : ByteArray} {k : Nat} {q r : Int} (h : AtA s k q) (hk : k < s.size) (hr : stepA q (s[k].toNat : Int) = r) : AtA s (k + 1) r := by
  unfold AtA at h ⊢
  rw [h, codes_drop s k hk]
  show runA (stepA q (s[k].toNat : Int)) _ = _
  rw [hr]

theorem atA_end {s : ByteArray} {k : Nat} {q : Int} (h : AtA s k q) (hk : ¬ k < s.size) : verMsg (codes s) = stMsg q := by
  unfold AtA at h
  rw [← automaton, h, List.drop_eq_nil_of_le (by rw [codes_length]; omega)]
  rfl

theorem clsL {c : Int} (h : lowB c = true) : clsI c = 0 := by simp [clsI, alnB, h]
theorem clsU {c : Int} (h : uppB c = true) : clsI c = 0 := by simp [clsI, alnB, h]
theorem clsD {c : Int} (h : digB c = true) : clsI c = 0 := by simp [clsI, alnB, h]
theorem notAln {c : Int} (h1 : ¬ lowB c = true) (h2 : ¬ uppB c = true) (h3 : digB c = false) : alnB c = false := by
  simp at h1 h2
  simp [alnB, h1, h2, h3]
theorem cls46 {c : Int} (h1 : ¬ lowB c = true) (h2 : ¬ uppB c = true) (h3 : digB c = false) (h : (c == 46) = true) : clsI c = 1 := by
  simp [clsI, notAln h1 h2 h3, openB, h]
theorem cls58 {c : Int} (h1 : ¬ lowB c = true) (h2 : ¬ uppB c = true) (h3 : digB c = false) (h : (c == 58) = true) : clsI c = 1 := by
  simp [clsI, notAln h1 h2 h3, openB, h]
theorem cls45 {c : Int} (h1 : ¬ lowB c = true) (h2 : ¬ uppB c = true) (h3 : digB c = false) (h : (c == 45) = true) : clsI c = 1 := by
  simp [clsI, notAln h1 h2 h3, openB, h]
theorem notOpen {c : Int} (h1 : (c == 46) = false) (h2 : (c == 58) = false) (h3 : (c == 45) = false) : openB c = false := by
  simp only [openB, h1, h2, h3]
  rfl
theorem cls43 {c : Int} (h1 : ¬ lowB c = true) (h2 : ¬ uppB c = true) (h3 : digB c = false) (a : (c == 46) = false) (b : (c == 58) = false) (d : (c == 45) = false) (h : (c == 43) = true) : clsI c = 2 := by
  simp [clsI, notAln h1 h2 h3, notOpen a b d, h]
theorem cls126 {c : Int} (h1 : ¬ lowB c = true) (h2 : ¬ uppB c = true) (h3 : digB c = false) (a : (c == 46) = false) (b : (c == 58) = false) (d : (c == 45) = false) (h : (c == 126) = true) : clsI c = 2 := by
  simp [clsI, notAln h1 h2 h3, notOpen a b d, h]
theorem clsX {c : Int} (h1 : ¬ lowB c = true) (h2 : ¬ uppB c = true) (h3 : digB c = false) (a : (c == 46) = false) (b : (c == 58) = false) (d : (c == 45) = false) (e : (c == 43) = false) (f : (c == 126) = false) : clsI c = 3 := by
  unfold clsI
  rw [notAln h1 h2 h3, notOpen a b d, e, f]
  rfl

theorem st1 (q : Int) {c : Int} (h : (clsI c == 3) = true) : stepA q c = 1 := by
  unfold stepA
  rw [h]
  rfl
theorem st2 {q c : Int} (h : (clsI c == 3) = false) (a : (q == 0) = true) (b : (clsI c == 0) = true) : stepA q c = 3 := by
  unfold stepA
  rw [h, a, b]
  rfl
theorem st3 {q c : Int} (h : (clsI c == 3) = false) (a : (q == 0) = true) (b : (clsI c == 0) = false) : stepA q c = 2 := by
  unfold stepA
  rw [h, a, b]
  rfl
theorem st4 {q c : Int} (h : (clsI c == 3) = false) (a : (q == 0) = false) (b : (q == 3) = true) (d : (clsI c == 1) = true) : stepA q c = 4 := by
  unfold stepA
  rw [h, a, b, d]
  rfl
theorem st5 {q c : Int} (h : (clsI c == 3) = false) (a : (q == 0) = false) (b : (q == 3) = true) (d : (clsI c == 1) = false) : stepA q c = 3 := by
  unfold stepA
  rw [h, a, b, d]
  rfl
theorem st6 {q c : Int} (h : (clsI c == 3) = false) (a : (q == 0) = false) (b : (q == 3) = false) (e : (q == 4) = true) (d : (clsI c == 1) = true) : stepA q c = 4 := by
  unfold stepA
  rw [h, a, b, e, d]
  rfl
theorem st7 {q c : Int} (h : (clsI c == 3) = false) (a : (q == 0) = false) (b : (q == 3) = false) (e : (q == 4) = true) (d : (clsI c == 1) = false) : stepA q c = 3 := by
  unfold stepA
  rw [h, a, b, e, d]
  rfl
theorem st8 {q c : Int} (h : (clsI c == 3) = false) (a : (q == 0) = false) (b : (q == 3) = false) (e : (q == 4) = false) : stepA q c = q := by
  unfold stepA
  rw [h, a, b, e]
  rfl

theorem sm0 {q : Int} (a : (q == 0) = true) : stMsg q = mVerEmpty := by
  unfold stMsg
  rw [a]
  rfl
theorem sm1 {q : Int} (a : (q == 0) = false) (b : (q == 1) = true) : stMsg q = mVerChars := by
  unfold stMsg
  rw [a, b]
  rfl
theorem sm2 {q : Int} (a : (q == 0) = false) (b : (q == 1) = false) (d : (q == 2) = true) : stMsg q = mVerStart := by
  unfold stMsg
  rw [a, b, d]
  rfl
theorem sm4 {q : Int} (a : (q == 0) = false) (b : (q == 1) = false) (d : (q == 2) = false) (e : (q == 4) = true) : stMsg q = mVerEnd := by
  unfold stMsg
  rw [a, b, d, e]
  rfl
theorem sm3 {q : Int} (a : (q == 0) = false) (b : (q == 1) = false) (d : (q == 2) = false) (e : (q == 4) = false) : stMsg q = ⟨#[]⟩ := by
  unfold stMsg
  rw [a, b, d, e]
  rfl

end Go.Proofs.Qxb6602049a.Plain
