/-
  THE PLAIN LAW OF JOINED APP NAMES: no Go in sight.
-/
import Derived.Test.Qxb6602049aPlainA
namespace Go.Proofs.Qxb6602049a.Plain

/-- Accepted as an app's name. -/
def appOK (l : List Int) : Bool := !l.isEmpty && (scan alnB false l == 0) && !headH l && !endH false l

theorem app_of_ok {l : List Int} (h : appOK l = true) : appMsg l = ⟨#[]⟩ := by
  unfold appOK at h
  simp at h
  obtain ⟨⟨⟨h1, h2⟩, h3⟩, h4⟩ := h
  unfold appMsg
  simp [h1, h2, h3, h4]

theorem app_ok_of {l : List Int} (h : (appMsg l).toList.isEmpty = true) : appOK l = true := by
  unfold appMsg at h
  have hl := scan_le alnB l false
  split at h
  · exact absurd h (by decide +kernel)
  · split at h
    · exact absurd h (by decide +kernel)
    · split at h
      · exact absurd h (by decide +kernel)
      · split at h
        · exact absurd h (by decide +kernel)
        · rename_i h1 h2 h3 h4
          simp at h1 h2 h3 h4
          unfold appOK
          simp [h1, h4]
          omega

theorem app_glued {a b : List Int} (ha : appOK a = true) (hb : appOK b = true) : appMsg (a ++ b) = ⟨#[]⟩ := by
  apply app_of_ok
  unfold appOK at *
  simp at ha hb ⊢
  obtain ⟨⟨⟨a1, a2⟩, a3⟩, a4⟩ := ha
  obtain ⟨⟨⟨b1, b2⟩, b3⟩, b4⟩ := hb
  refine ⟨⟨⟨fun h => absurd h a1, ?_⟩, ?_⟩, ?_⟩
  · rw [scan_append, a2, a4]; simpa using b2
  · cases a with
    | nil => simp at a1
    | cons c cs => exact a3
  · rw [endH_append, a4, b4]

theorem ok_parts {l : List Int} (h : appOK l = true) : l.isEmpty = false ∧ scan alnB false l = 0 ∧ headH l = false ∧ endH false l = false := by
  unfold appOK at h
  simp at h
  obtain ⟨⟨⟨h1, h2⟩, h3⟩, h4⟩ := h
  exact ⟨by simpa using h1, h2, h3, h4⟩

theorem headH_append {a : List Int} (h : a.isEmpty = false) (b : List Int) : headH (a ++ b) = headH a := by
  cases a with
  | nil => simp at h
  | cons c cs => rfl

theorem isEmpty_append {a : List Int} (h : a.isEmpty = false) (b : List Int) : (a ++ b).isEmpty = false := by
  cases a with
  | nil => simp at h
  | cons c cs => rfl

theorem app_hyphen {a b : List Int} (ha : appOK a = true) (hb : appOK b = true) : appMsg (a ++ [45] ++ b) = ⟨#[]⟩ := by
  obtain ⟨a1, a2, a3, a4⟩ := ok_parts ha
  obtain ⟨b1, b2, b3, b4⟩ := ok_parts hb
  have e1 : scan alnB false (a ++ [45] ++ b) = 0 := by
    rw [scan_append, scan_append, a2, a4]
    simp [scan, scan_noHead alnB b b3, b2]
  have e2 : endH false (a ++ [45] ++ b) = false := by rw [endH_append, endH_cons b b1, b4]
  have e3 : headH (a ++ [45] ++ b) = false := by rw [List.append_assoc, headH_append a1, a3]
  have e4 : (a ++ [45] ++ b).isEmpty = false := by rw [List.append_assoc, isEmpty_append a1]
  unfold appMsg
  rw [e1, e2, e3, e4]
  rfl

theorem app_double {a b : List Int} (ha : appOK a = true) : appMsg (a ++ [45, 45] ++ b) = mAppDouble := by
  obtain ⟨a1, a2, a3, a4⟩ := ok_parts ha
  have e1 : scan alnB false (a ++ [45, 45] ++ b) = 1 := by
    rw [scan_append, scan_append, a2, a4]
    simp [scan]
  have e4 : (a ++ [45, 45] ++ b).isEmpty = false := by rw [List.append_assoc, isEmpty_append a1]
  unfold appMsg
  rw [e1, e4]
  rfl

theorem app_before {a : List Int} (ha : appOK a = true) : appMsg ([45] ++ a) = mAppEdge := by
  obtain ⟨a1, a2, a3, a4⟩ := ok_parts ha
  have e1 : scan alnB false ([45] ++ a) = 0 := by
    rw [scan_append]
    simp [scan, scan_noHead alnB a a3, a2]
  have e3 : headH ([45] ++ a) = true := rfl
  have e4 : ([45] ++ a).isEmpty = false := rfl
  unfold appMsg
  rw [e1, e3, e4]
  rfl

theorem app_behind {a : List Int} (ha : appOK a = true) : appMsg (a ++ [45]) = mAppEdge := by
  obtain ⟨a1, a2, a3, a4⟩ := ok_parts ha
  have e1 : scan alnB false (a ++ [45]) = 0 := by
    rw [scan_append, a2, a4]
    simp [scan]
  have e2 : endH false (a ++ [45]) = true := by rw [endH_append]; rfl
  have e4 : (a ++ [45]).isEmpty = false := isEmpty_append a1 _
  unfold appMsg
  rw [e1, e2, e4]
  simp

theorem app_foreign {a b : List Int} (c : Int) (hc : (c == 45) = false) (hn : alnB c = false) (ha : appOK a = true) : appMsg (a ++ [c] ++ b) = mAppChars := by
  obtain ⟨a1, a2, a3, a4⟩ := ok_parts ha
  have e1 : scan alnB false (a ++ [c] ++ b) = 2 := by
    rw [scan_append, scan_append, a2, a4]
    simp [scan, hc, hn]
  have e4 : (a ++ [c] ++ b).isEmpty = false := by rw [List.append_assoc, isEmpty_append a1]
  unfold appMsg
  rw [e1, e4]
  rfl

/-- The joined names, as Go types them. -/
theorem go_glued {a b : ByteArray} (ha : appOK (codes a) = true) (hb : appOK (codes b) = true) : appMsg (codes (a ++ b)) = ⟨#[]⟩ := by
  rw [codes_append]
  exact app_glued ha hb

theorem go_hyphen {a b : ByteArray} (ha : appOK (codes a) = true) (hb : appOK (codes b) = true) : appMsg (codes (a ++ ⟨#[45]⟩ ++ b)) = ⟨#[]⟩ := by
  rw [codes_append, codes_append]
  exact app_hyphen ha hb

theorem go_double {a b : ByteArray} (ha : appOK (codes a) = true) : appMsg (codes (a ++ ⟨#[45, 45]⟩ ++ b)) = mAppDouble := by
  rw [codes_append, codes_append]
  exact app_double ha

theorem go_before {a : ByteArray} (ha : appOK (codes a) = true) : appMsg (codes (⟨#[45]⟩ ++ a)) = mAppEdge := by
  rw [codes_append]
  exact app_before ha

theorem go_behind {a : ByteArray} (ha : appOK (codes a) = true) : appMsg (codes (a ++ ⟨#[45]⟩)) = mAppEdge := by
  rw [codes_append]
  exact app_behind ha

theorem go_under {a b : ByteArray} (ha : appOK (codes a) = true) : appMsg (codes (a ++ ⟨#[95]⟩ ++ b)) = mAppChars := by
  rw [codes_append, codes_append]
  exact app_foreign 95 (by decide) (by decide) ha

theorem go_dot {a b : ByteArray} (ha : appOK (codes a) = true) : appMsg (codes (a ++ ⟨#[46]⟩ ++ b)) = mAppChars := by
  rw [codes_append, codes_append]
  exact app_foreign 46 (by decide) (by decide) ha

end Go.Proofs.Qxb6602049a.Plain
