/-
  THE PLAIN LAW OF THE TWO SEARCHES: no Go in sight.
-/
import Derived.Test.Qxb6602049aPlainS
namespace Go.Proofs.Qxb6602049a.Plain

/-- The first place, counted from k, of a byte that is neither a hyphen nor let by 'ok', or -1. -/
def fo (ok : Int → Bool) : Nat → List Int → Int
  | _, [] => -1
  | k, c :: cs => if (c == 45) || ok c then fo ok (k + 1) cs else (k : Int)

/-- The first place, counted from k, of a hyphen behind a hyphen, or -1. 'p': the byte before is a hyphen. -/
def fd : Bool → Nat → List Int → Int
  | _, _, [] => -1
  | p, k, c :: cs => if p && (c == 45) then (k : Int) else fd (c == 45) (k + 1) cs

theorem fo_range (ok : Int → Bool) (l : List Int) : ∀ k, fo ok k l = -1 ∨ (k : Int) ≤ fo ok k l := by
  induction l with
  | nil => intro k; exact .inl rfl
  | cons c cs ih =>
    intro k
    unfold fo
    split
    · have := ih (k + 1)
      omega
    · exact .inr (Int.le_refl _)

theorem fd_range (l : List Int) : ∀ p k, fd p k l = -1 ∨ (k : Int) ≤ fd p k l := by
  induction l with
  | nil => intro p k; exact .inl rfl
  | cons c cs ih =>
    intro p k
    unfold fd
    split
    · exact .inr (Int.le_refl _)
    · have := ih (c == 45) (k + 1)
      omega

/-- The scan's answer by the two searches. -/
theorem scan_search (ok : Int → Bool) (l : List Int) : ∀ p k,
    scan ok p l = if 0 ≤ fd p k l ∧ (fo ok k l < 0 ∨ fd p k l < fo ok k l) then 1 else if 0 ≤ fo ok k l then 2 else 0 := by
  induction l with
  | nil => intro p k; simp [scan, fd, fo]
  | cons c cs ih =>
    intro p k
    have hF := fo_range ok cs (k + 1)
    have hD := fd_range cs (c == 45) (k + 1)
    by_cases h : c = 45
    · subst h
      cases p
      · have i := ih true (k + 1)
        simp [scan, fd, fo, i]
      · simp [scan, fd, fo]
        omega
    · have h' : (c == 45) = false := by simpa using h
      cases ho : ok c
      · rw [h'] at hD
        simp [scan, fd, fo, h', ho]
        omega
      · have i := ih false (k + 1)
        simp [scan, fd, fo, h', ho, i]

def AtF (ok : Int → Bool) (s : ByteArray) (k : Nat) : Prop := fo ok 0 (codes s) = fo ok k ((codes s).drop k)

theorem atF_zero (ok : Int → Bool) (s : ByteArray) : AtF ok s 0 := rfl

theorem atF_hy {ok : Int → Bool} {s : ByteArray} {k : Nat} (h : AtF ok s k) (hk : k < s.size) (hc : (s[k].toNat : Int) = 45) : AtF ok s (k + 1) := by
  unfold AtF at h ⊢
  rw [h, codes_drop s k hk]
  simp [fo, hc]

theorem atF_ok {ok : Int → Bool} {s : ByteArray} {k : Nat} (h : AtF ok s k) (hk : k < s.size) (hc : ok (s[k].toNat : Int) = true) : AtF ok s (k + 1) := by
  unfold AtF at h ⊢
  rw [h, codes_drop s k hk]
  simp [fo, hc]

theorem atF_bad {ok : Int → Bool} {s : ByteArray} {k : Nat} (h : AtF ok s k) (hk : k < s.size) (hy : ((s[k].toNat : Int) == 45) = false) (hc : ok (s[k].toNat : Int) = false) : fo ok 0 (codes s) = (k : Int) := by
  unfold AtF at h
  rw [h, codes_drop s k hk]
  simp [fo, hc, hy]

theorem atF_end {ok : Int → Bool} {s : ByteArray} {k : Nat} (h : AtF ok s k) (hk : ¬ k < s.size) : fo ok 0 (codes s) = -1 := by
  unfold AtF at h
  rw [h, List.drop_eq_nil_of_le (by rw [codes_length]; omega)]
  rfl

def AtD (s : ByteArray) (k : Nat) : Prop := fd false 0 (codes s) = fd (prevH (codes s) k) k ((codes s).drop k)

theorem atD_one {s : ByteArray} (h : 0 < s.size) : AtD s 1 := by
  unfold AtD
  rw [prevH_succ s 0 h]
  have e := codes_drop s 0 h
  rw [List.drop_zero] at e
  rw [e]
  simp [fd]

theorem atD_on {s : ByteArray} {j : Nat} (h : AtD s (j + 1)) (hk : j + 1 < s.size) (hc : ((s[j].toNat : Int) == 45) = false ∨ ((s[j + 1].toNat : Int) == 45) = false) : AtD s (j + 2) := by
  unfold AtD at h ⊢
  rw [h, prevH_succ s (j + 1) hk, prevH_succ s j (by omega), codes_drop s (j + 1) hk]
  rcases hc with hc | hc <;> simp [fd, hc]

theorem atD_hit {s : ByteArray} {j : Nat} (h : AtD s (j + 1)) (hk : j + 1 < s.size) (hc : ((s[j].toNat : Int) == 45) = true) (hd : ((s[j + 1].toNat : Int) == 45) = true) : fd false 0 (codes s) = ((j + 1 : Nat) : Int) := by
  unfold AtD at h
  rw [h, prevH_succ s j (by omega), codes_drop s (j + 1) hk]
  simp [fd, hc, hd]

theorem atD_end {s : ByteArray} {k : Nat} (h : AtD s k) (hk : ¬ k < s.size) : fd false 0 (codes s) = -1 := by
  unfold AtD at h
  rw [h, List.drop_eq_nil_of_le (by rw [codes_length]; omega)]
  rfl

theorem eq_hy {c : Int} (h : c = 45) : (c == 45) = true := by simp [h]
theorem ne_hy {c : Int} (h : ¬ c = 45) : (c == 45) = false := by simpa using h
theorem seg_or {c : Int} (h0 : ¬ c = 45) (h : (c == 45) = true ∨ uppB c = true) : segB true c = true := by
  rcases h with h | h
  · exact absurd (by simpa using h) h0
  · simp [segB, h]
theorem seg_noU {c : Int} (h1 : ¬ lowB c = true) (h2 : ¬ digB c = true) (h3 : uppB c = false) : segB true c = false := by
  simp at h1 h2
  simp [segB, h1, h2, h3]
theorem seg_noL {c : Int} (h1 : ¬ lowB c = true) (h2 : ¬ digB c = true) : segB false c = false := by
  simp at h1 h2
  simp [segB, h1, h2]

theorem srch1 {ok : Int → Bool} {l : List Int} (h1 : 0 ≤ fd false 0 l) (h2 : fo ok 0 l < 0 ∨ fd false 0 l < fo ok 0 l) : scan ok false l = 1 := by
  rw [scan_search ok l false 0, if_pos ⟨h1, h2⟩]

theorem srch2 {ok : Int → Bool} {l : List Int} (h1 : 0 ≤ fo ok 0 l) (h2 : fd false 0 l < 0 ∨ fo ok 0 l ≤ fd false 0 l) : scan ok false l = 2 := by
  rw [scan_search ok l false 0, if_neg (by omega), if_pos h1]

theorem srch0 {ok : Int → Bool} {l : List Int} (h1 : fo ok 0 l < 0) (h2 : fd false 0 l < 0) : scan ok false l = 0 := by
  rw [scan_search ok l false 0, if_neg (by omega), if_neg (by omega)]

theorem aln1 {l : List Int} (h1 : 0 ≤ fd false 0 l) (h2 : fo (segB true) 0 l < 0 ∨ fd false 0 l < fo (segB true) 0 l) : scan alnB false l = 1 := by
  rw [← segB_true]
  exact srch1 h1 h2

theorem aln2 {l : List Int} (h1 : 0 ≤ fo (segB true) 0 l) (h2 : fd false 0 l < 0 ∨ fo (segB true) 0 l ≤ fd false 0 l) : scan alnB false l = 2 := by
  rw [← segB_true]
  exact srch2 h1 h2

theorem aln0 {l : List Int} (h1 : fo (segB true) 0 l < 0) (h2 : fd false 0 l < 0) : scan alnB false l = 0 := by
  rw [← segB_true]
  exact srch0 h1 h2

theorem nam1 {l : List Int} (h1 : 0 ≤ fd false 0 l) (h2 : fo (segB false) 0 l < 0 ∨ fd false 0 l < fo (segB false) 0 l) : scan nameB false l = 1 := by
  rw [← segB_false]
  exact srch1 h1 h2

theorem nam2 {l : List Int} (h1 : 0 ≤ fo (segB false) 0 l) (h2 : fd false 0 l < 0 ∨ fo (segB false) 0 l ≤ fd false 0 l) : scan nameB false l = 2 := by
  rw [← segB_false]
  exact srch2 h1 h2

theorem nam0 {l : List Int} (h1 : fo (segB false) 0 l < 0) (h2 : fd false 0 l < 0) : scan nameB false l = 0 := by
  rw [← segB_false]
  exact srch0 h1 h2

end Go.Proofs.Qxb6602049a.Plain
