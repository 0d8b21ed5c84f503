/-
  THE PLAIN LAWS BETWEEN THE THREE FORMATS: no Go in sight.
-/
import Derived.Test.Qxb6602049aPlainS
import Derived.Test.Qxb6602049aPlainW
namespace Go.Proofs.Qxb6602049a.Plain

def anyUpp : List Int → Bool
  | [] => false
  | c :: cs => uppB c || anyUpp cs

/-- Whether an upper-case letter occurs, as it stands ahead of place k: 'b': one has been seen. -/
def AtU (s : ByteArray) (k : Nat) (b : Bool) : Prop := anyUpp (codes s) = (b || anyUpp ((codes s).drop k))

theorem atU_zero (s : ByteArray) : AtU s 0 false := rfl

theorem atU_upp {s : ByteArray} {k : Nat} {b : Bool} (h : AtU s k b) (hk : k < s.size) (hc : uppB (s[k].toNat : Int) = true) : AtU s (k + 1) true := by
  unfold AtU at h ⊢
  rw [h, codes_drop s k hk]
  simp [anyUpp, hc]

theorem atU_not {s : ByteArray} {k : Nat} {b : Bool} (h : AtU s k b) (hk : k < s.size) (hc : uppB (s[k].toNat : Int) = false) : AtU s (k + 1) b := by
  unfold AtU at h ⊢
  rw [h, codes_drop s k hk]
  simp [anyUpp, hc]

theorem atU_end {s : ByteArray} {k : Nat} {b : Bool} (h : AtU s k b) (hk : ¬ k < s.size) : anyUpp (codes s) = b := by
  unfold AtU at h
  rw [h, List.drop_eq_nil_of_le (by rw [codes_length]; omega)]
  simp [anyUpp]

theorem upp_hy : uppB 45 = false := by decide

theorem upp_name {c : Int} (h : nameB c = true) : uppB c = false := by
  simp [nameB, lowB, digB] at h
  simp [uppB]
  omega

theorem aln_name (c : Int) : alnB c = (nameB c || uppB c) := by
  unfold alnB nameB
  cases lowB c <;> cases uppB c <;> cases digB c <;> rfl

theorem scan_name (l : List Int) : ∀ p, (scan nameB p l == 0) = ((scan alnB p l == 0) && !anyUpp l) := by
  induction l with
  | nil => intro p; simp [scan, anyUpp]
  | cons c cs ih =>
    intro p
    by_cases h : c = 45
    · subst h
      cases p <;> simp [scan, anyUpp, upp_hy, ih]
    · have h' : (c == 45) = false := by simpa using h
      cases hn : nameB c
      · cases hu : uppB c <;> simp [scan, anyUpp, h', aln_name, hn, hu]
      · have hu := upp_name hn
        simp [scan, anyUpp, h', aln_name, hn, hu, ih]

theorem name_lower_app (l : List Int) : nameOK l = (appOK l && anyLow l && !anyUpp l) := by
  unfold nameOK appOK
  rw [scan_name]
  cases l.isEmpty <;> cases anyLow l <;> cases headH l <;> cases endH false l <;> cases anyUpp l <;> simp

theorem name_app {l : List Int} (h : nameOK l = true) : appOK l = true := by
  rw [name_lower_app] at h
  simp at h
  exact h.1.1

theorem ver_hy : verB 45 = true := by decide
theorem open_hy : openB 45 = true := by decide

theorem open_aln {c : Int} (h : alnB c = true) : openB c = false := by
  simp [alnB, lowB, uppB, digB] at h
  simp [openB]
  omega

theorem scan_allV (l : List Int) : ∀ p, scan alnB p l = 0 → allV l = true := by
  induction l with
  | nil => intro p _; rfl
  | cons c cs ih =>
    intro p h
    by_cases hc : c = 45
    · subst hc
      cases p
      · simp [scan] at h
        simp [allV, ver_hy, ih _ h]
      · simp [scan] at h
    · have h' : (c == 45) = false := by simpa using hc
      cases ho : alnB c
      · simp [scan, h', ho] at h
      · simp [scan, h', ho] at h
        simp [allV, verB_aln ho, ih _ h]

theorem scan_endO (l : List Int) : ∀ p q, scan alnB p l = 0 → endO q l = endH q l := by
  induction l with
  | nil => intro p q _; rfl
  | cons c cs ih =>
    intro p q h
    by_cases hc : c = 45
    · subst hc
      cases p
      · simp [scan] at h
        simp [endO, endH, open_hy, ih _ _ h]
      · simp [scan] at h
    · have h' : (c == 45) = false := by simpa using hc
      cases ho : alnB c
      · simp [scan, h', ho] at h
      · simp [scan, h', ho] at h
        simp [endO, endH, open_aln ho, h', ih _ _ h]

theorem scan_headA (l : List Int) (h0 : l.isEmpty = false) (hh : headH l = false) (h : scan alnB false l = 0) : headA l = true := by
  cases l with
  | nil => simp at h0
  | cons c cs =>
    have h' : (c == 45) = false := hh
    cases ho : alnB c
    · simp [scan, h', ho] at h
    · exact ho

theorem app_ver {l : List Int} (h : appOK l = true) : verOK l = true := by
  obtain ⟨h1, h2, h3, h4⟩ := ok_parts h
  unfold verOK
  rw [h1, scan_allV l _ h2, scan_headA l h1 h3 h2, scan_endO l _ _ h2, h4]
  rfl

theorem ver_isOK (l : List Int) : (verMsg l).toList.isEmpty = verOK l := by
  rw [Bool.eq_iff_iff]
  exact ⟨ver_ok_of, fun h => by rw [ver_of_ok h]; decide +kernel⟩

/-- What is accepted as a snap's name is accepted as an app's, and that as a version: the three answers as Go reads them. -/
theorem chain (l : List Int) :
    ((nameMsg l).toList.isEmpty = true ∧ (appMsg l).toList.isEmpty = true ∧ (verMsg l).toList.isEmpty = true) ∨
    ((nameMsg l).toList.isEmpty = false ∧ (appMsg l).toList.isEmpty = true ∧ (verMsg l).toList.isEmpty = true) ∨
    ((nameMsg l).toList.isEmpty = false ∧ (appMsg l).toList.isEmpty = false) := by
  rw [name_isOK, app_isOK, ver_isOK]
  cases hN : nameOK l
  · cases hA : appOK l
    · exact .inr (.inr ⟨rfl, rfl⟩)
    · exact .inr (.inl ⟨rfl, rfl, app_ver hA⟩)
  · exact .inl ⟨rfl, name_app hN, app_ver (name_app hN)⟩

theorem lower_app (l : List Int) : (nameMsg l).toList.isEmpty = ((appMsg l).toList.isEmpty && anyLow l && !anyUpp l) := by
  rw [name_isOK, app_isOK, name_lower_app]

end Go.Proofs.Qxb6602049a.Plain
