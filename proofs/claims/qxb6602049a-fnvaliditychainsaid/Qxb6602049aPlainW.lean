/-
  THE PLAIN LAW OF JOINED VERSIONS: no Go in sight.
-/
import Derived.Test.Qxb6602049aPlainV
namespace Go.Proofs.Qxb6602049a.Plain

/-- Accepted as a version. -/
def verOK (l : List Int) : Bool := !l.isEmpty && allV l && headA l && !endO false l

theorem ver_parts {l : List Int} (h : verOK l = true) : l.isEmpty = false ∧ allV l = true ∧ headA l = true ∧ endO false l = false := by
  unfold verOK at h
  simp at h
  obtain ⟨⟨⟨h1, h2⟩, h3⟩, h4⟩ := h
  exact ⟨by simpa using h1, h2, h3, h4⟩

theorem ver_ok_of {l : List Int} (h : (verMsg l).toList.isEmpty = true) : verOK l = true := by
  unfold verMsg at h
  split at h
  · exact absurd h (by decide +kernel)
  · split at h
    · exact absurd h (by decide +kernel)
    · split at h
      · exact absurd h (by decide +kernel)
      · split at h
        · exact absurd h (by decide +kernel)
        · rename_i h1 h2 h3 h4
          simp at h1 h2 h3 h4
          unfold verOK
          simp [h1, h2, h3, h4]

theorem ver_of_ok {l : List Int} (h : verOK l = true) : verMsg l = ⟨#[]⟩ := by
  obtain ⟨h1, h2, h3, h4⟩ := ver_parts h
  unfold verMsg
  rw [h1, h2, h3, h4]
  rfl

theorem headA_append {a : List Int} (h : a.isEmpty = false) (b : List Int) : headA (a ++ b) = headA a := by
  cases a with
  | nil => simp at h
  | cons c cs => rfl

theorem notEmpty_append {a : List Int} (h : a.isEmpty = false) (b : List Int) : (a ++ b).isEmpty = false := by
  cases a with
  | nil => simp at h
  | cons c cs => rfl

theorem ver_glued {a b : List Int} (ha : verOK a = true) (hb : verOK b = true) : verMsg (a ++ b) = ⟨#[]⟩ := by
  obtain ⟨a1, a2, a3, a4⟩ := ver_parts ha
  obtain ⟨b1, b2, b3, b4⟩ := ver_parts hb
  unfold verMsg
  rw [notEmpty_append a1, allV_append, a2, b2, headA_append a1, a3, endO_append, endO_cons b b1, b4]
  rfl

theorem ver_joined {a b : List Int} (c : Int) (hc : verB c = true) (ha : verOK a = true) (hb : verOK b = true) : verMsg (a ++ [c] ++ b) = ⟨#[]⟩ := by
  obtain ⟨a1, a2, a3, a4⟩ := ver_parts ha
  obtain ⟨b1, b2, b3, b4⟩ := ver_parts hb
  have e : allV [c] = true := by simp [allV, hc]
  unfold verMsg
  rw [notEmpty_append (notEmpty_append a1 _), allV_append, allV_append, a2, b2, e, headA_append (notEmpty_append a1 _), headA_append a1, a3, endO_append, endO_cons b b1, b4]
  rfl

theorem ver_before {a : List Int} (c : Int) (hc : verB c = true) (hn : alnB c = false) (ha : verOK a = true) : verMsg ([c] ++ a) = mVerStart := by
  obtain ⟨a1, a2, a3, a4⟩ := ver_parts ha
  have e : allV [c] = true := by simp [allV, hc]
  have e1 : headA ([c] ++ a) = false := hn
  have e2 : ([c] ++ a).isEmpty = false := rfl
  unfold verMsg
  rw [e2, allV_append, a2, e, e1]
  rfl

theorem ver_behind {a : List Int} (c : Int) (hc : verB c = true) (hn : openB c = false) (ha : verOK a = true) : verMsg (a ++ [c]) = ⟨#[]⟩ := by
  obtain ⟨a1, a2, a3, a4⟩ := ver_parts ha
  have e : allV [c] = true := by simp [allV, hc]
  have e1 : ∀ p, endO p [c] = false := fun _ => hn
  unfold verMsg
  rw [notEmpty_append a1, allV_append, a2, e, headA_append a1, a3, endO_append, e1]
  rfl

theorem ver_open {a : List Int} (c : Int) (hc : verB c = true) (hn : openB c = true) (ha : verOK a = true) : verMsg (a ++ [c]) = mVerEnd := by
  obtain ⟨a1, a2, a3, a4⟩ := ver_parts ha
  have e : allV [c] = true := by simp [allV, hc]
  have e1 : ∀ p, endO p [c] = true := fun _ => hn
  unfold verMsg
  rw [notEmpty_append a1, allV_append, a2, e, headA_append a1, a3, endO_append, e1]
  rfl

theorem ver_foreign {a b : List Int} (c : Int) (hc : verB c = false) (ha : verOK a = true) : verMsg (a ++ [c] ++ b) = mVerChars := by
  obtain ⟨a1, a2, a3, a4⟩ := ver_parts ha
  have e : allV [c] = false := by simp [allV, hc]
  unfold verMsg
  rw [notEmpty_append (notEmpty_append a1 _), allV_append, allV_append, a2, e]
  rfl

/-- The joined versions, as Go types them; 'm': a text of the one byte c. -/
theorem vgo_glued {a b : ByteArray} (ha : verOK (codes a) = true) (hb : verOK (codes b) = true) : verMsg (codes (a ++ b)) = ⟨#[]⟩ := by
  rw [codes_append]
  exact ver_glued ha hb

theorem vgo_joined {a m b : ByteArray} (c : Int) (hm : codes m = [c]) (hc : verB c = true) (ha : verOK (codes a) = true) (hb : verOK (codes b) = true) : verMsg (codes (a ++ m ++ b)) = ⟨#[]⟩ := by
  rw [codes_append, codes_append, hm]
  exact ver_joined c hc ha hb

theorem vgo_before {a m : ByteArray} (c : Int) (hm : codes m = [c]) (hc : verB c = true) (hn : alnB c = false) (ha : verOK (codes a) = true) : verMsg (codes (m ++ a)) = mVerStart := by
  rw [codes_append, hm]
  exact ver_before c hc hn ha

theorem vgo_behind {a m : ByteArray} (c : Int) (hm : codes m = [c]) (hc : verB c = true) (hn : openB c = false) (ha : verOK (codes a) = true) : verMsg (codes (a ++ m)) = ⟨#[]⟩ := by
  rw [codes_append, hm]
  exact ver_behind c hc hn ha

theorem vgo_open {a m : ByteArray} (c : Int) (hm : codes m = [c]) (hc : verB c = true) (hn : openB c = true) (ha : verOK (codes a) = true) : verMsg (codes (a ++ m)) = mVerEnd := by
  rw [codes_append, hm]
  exact ver_open c hc hn ha

theorem vgo_under {a b : ByteArray} (ha : verOK (codes a) = true) : verMsg (codes (a ++ ⟨#[95]⟩ ++ b)) = mVerChars := by
  rw [codes_append, codes_append]
  exact ver_foreign 95 (by decide) ha

theorem sep0 : codes (ByteArray.extract ⟨#[43, 126, 46, 58, 45]⟩ 0 1) = [43] := by decide +kernel
theorem sepSize0 : (ByteArray.extract ⟨#[43, 126, 46, 58, 45]⟩ 0 1).size ≤ 65536 := by decide +kernel
theorem sep1 : codes (ByteArray.extract ⟨#[43, 126, 46, 58, 45]⟩ 1 2) = [126] := by decide +kernel
theorem sepSize1 : (ByteArray.extract ⟨#[43, 126, 46, 58, 45]⟩ 1 2).size ≤ 65536 := by decide +kernel
theorem sep2 : codes (ByteArray.extract ⟨#[43, 126, 46, 58, 45]⟩ 2 3) = [46] := by decide +kernel
theorem sepSize2 : (ByteArray.extract ⟨#[43, 126, 46, 58, 45]⟩ 2 3).size ≤ 65536 := by decide +kernel
theorem sep3 : codes (ByteArray.extract ⟨#[43, 126, 46, 58, 45]⟩ 3 4) = [58] := by decide +kernel
theorem sepSize3 : (ByteArray.extract ⟨#[43, 126, 46, 58, 45]⟩ 3 4).size ≤ 65536 := by decide +kernel
theorem sep4 : codes (ByteArray.extract ⟨#[43, 126, 46, 58, 45]⟩ 4 5) = [45] := by decide +kernel
theorem sepSize4 : (ByteArray.extract ⟨#[43, 126, 46, 58, 45]⟩ 4 5).size ≤ 65536 := by decide +kernel

end Go.Proofs.Qxb6602049a.Plain
