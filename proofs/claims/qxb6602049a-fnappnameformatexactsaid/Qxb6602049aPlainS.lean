/-
  THE PLAIN LAW OF THE SEGMENTS BETWEEN HYPHENS: no Go in sight.
-/
import Derived.Test.Qxb6602049aPlainB
import Derived.Test.Qxb6602049aPlainN
namespace Go.Proofs.Qxb6602049a.Plain

/-- What may stand in a segment. -/
def segB (up : Bool) (c : Int) : Bool := lowB c || digB c || (up && uppB c)

/-- Are the pieces between hyphens all non-empty and made of what 'ok' lets? 'z': the piece at hand is empty so far. -/
def segs (ok : Int → Bool) (z : Bool) : List Int → Bool
  | [] => !z
  | c :: cs => if c == 45 then (if z then false else segs ok true cs) else if ok c then segs ok false cs else false

/-- What zzBySegments answers. -/
def bySegs (up need : Bool) (l : List Int) : Bool := segs (segB up) true l && (anyLow l || !need)

theorem segB_true : segB true = alnB := by
  funext c
  unfold segB alnB
  cases lowB c <;> cases uppB c <;> cases digB c <;> rfl

theorem segB_false : segB false = nameB := by
  funext c
  unfold segB nameB
  simp

theorem segs_scan (ok : Int → Bool) (l : List Int) : ∀ p, segs ok p l = ((scan ok p l == 0) && !endH p l) := by
  induction l with
  | nil => intro p; simp [segs, scan, endH]
  | cons c cs ih =>
    intro p
    by_cases h : (c == 45) = true
    · cases p <;> simp [segs, scan, endH, h, ih]
    · have h' : (c == 45) = false := by simpa using h
      cases ho : ok c <;> simp [segs, scan, endH, h', ho, ih]

/-- The pieces are fine just where the scan comes to the end and no hyphen stands at an edge. -/
theorem segs_true (ok : Int → Bool) (l : List Int) : segs ok true l = (!l.isEmpty && (scan ok false l == 0) && !headH l && !endH false l) := by
  cases l with
  | nil => rfl
  | cons c cs =>
    by_cases h : (c == 45) = true
    · simp [segs, headH, h]
    · have h' : (c == 45) = false := by simpa using h
      cases ho : ok c <;> simp [segs, scan, headH, endH, h', ho, segs_scan]

theorem app_segs (l : List Int) : bySegs true false l = appOK l := by
  unfold bySegs appOK
  rw [segB_true, segs_true]
  simp

/-- Accepted as a snap's name. -/
def nameOK (l : List Int) : Bool := !l.isEmpty && (scan nameB false l == 0) && anyLow l && !headH l && !endH false l

theorem name_segs (l : List Int) : bySegs false true l = nameOK l := by
  unfold bySegs nameOK
  rw [segB_false, segs_true]
  cases anyLow l <;> simp

theorem name_ok_of {l : List Int} (h : (nameMsg l).toList.isEmpty = true) : nameOK l = true := by
  unfold nameMsg at h
  have hl := scan_le nameB l false
  split at h
  · exact absurd h (by decide +kernel)
  · split at h
    · exact absurd h (by decide +kernel)
    · split at h
      · exact absurd h (by decide +kernel)
      · split at h
        · exact absurd h (by decide +kernel)
        · split at h
          · exact absurd h (by decide +kernel)
          · rename_i h1 h2 h3 h4 h5
            simp at h1 h2 h3 h4 h5
            unfold nameOK
            simp [h1, h4, h5]
            omega

theorem name_of_ok {l : List Int} (h : nameOK l = true) : nameMsg l = ⟨#[]⟩ := by
  unfold nameOK at h
  simp at h
  obtain ⟨⟨⟨⟨h1, h2⟩, h3⟩, h4⟩, h5⟩ := h
  unfold nameMsg
  simp [h1, h2, h3, h4, h5]

theorem name_isOK (l : List Int) : (nameMsg l).toList.isEmpty = nameOK l := by
  rw [Bool.eq_iff_iff]
  exact ⟨name_ok_of, fun h => by rw [name_of_ok h]; decide +kernel⟩

theorem app_isOK (l : List Int) : (appMsg l).toList.isEmpty = appOK l := by
  rw [Bool.eq_iff_iff]
  exact ⟨app_ok_of, fun h => by rw [app_of_ok h]; decide +kernel⟩

/-- The segments as they stand ahead of place k: 'z': the piece at hand is empty so far. -/
def AtS (ok : Int → Bool) (s : ByteArray) (k : Nat) (z : Bool) : Prop := segs ok true (codes s) = segs ok z ((codes s).drop k)

theorem atS_zero (ok : Int → Bool) (s : ByteArray) : AtS ok s 0 true := rfl

theorem atS_hy {ok : Int → Bool} {s : ByteArray} {k : Nat} (h : AtS ok s k false) (hk : k < s.size) (hc : ((s[k].toNat : Int) == 45) = true) : AtS ok s (k + 1) true := by
  unfold AtS at h ⊢
  rw [h, codes_drop s k hk]
  simp [segs, hc]

theorem atS_two {ok : Int → Bool} {s : ByteArray} {k : Nat} (h : AtS ok s k true) (hk : k < s.size) (hc : ((s[k].toNat : Int) == 45) = true) : segs ok true (codes s) = false := by
  unfold AtS at h
  rw [h, codes_drop s k hk]
  simp [segs, hc]

theorem atS_ok {ok : Int → Bool} {s : ByteArray} {k : Nat} {z : Bool} (h : AtS ok s k z) (hk : k < s.size) (hc : ((s[k].toNat : Int) == 45) = false) (ho : ok (s[k].toNat : Int) = true) : AtS ok s (k + 1) false := by
  unfold AtS at h ⊢
  rw [h, codes_drop s k hk]
  simp [segs, hc, ho]

theorem atS_bad {ok : Int → Bool} {s : ByteArray} {k : Nat} {z : Bool} (h : AtS ok s k z) (hk : k < s.size) (hc : ((s[k].toNat : Int) == 45) = false) (ho : ok (s[k].toNat : Int) = false) : segs ok true (codes s) = false := by
  unfold AtS at h
  rw [h, codes_drop s k hk]
  simp [segs, hc, ho]

theorem atS_end {ok : Int → Bool} {s : ByteArray} {k : Nat} {z : Bool} (h : AtS ok s k z) (hk : ¬ k < s.size) : segs ok true (codes s) = !z := by
  unfold AtS at h
  rw [h, List.drop_eq_nil_of_le (by rw [codes_length]; omega)]
  rfl

theorem bySegs_no {up need : Bool} {l : List Int} (h : segs (segB up) true l = false) : bySegs up need l = false := by
  unfold bySegs
  rw [h]
  rfl

theorem seg_low {up : Bool} {c : Int} (h : lowB c = true) : segB up c = true := by simp [segB, h]
theorem seg_dig {up : Bool} {c : Int} (h : digB c = true) : segB up c = true := by simp [segB, h]
theorem seg_upp {c : Int} (h : (!uppB c) = false) : segB true c = true := by
  simp at h
  simp [segB, h]
theorem seg_notU {c : Int} (h1 : lowB c = false) (h2 : ¬ digB c = true) (h3 : (!uppB c) = true) : segB true c = false := by
  simp at h2 h3
  simp [segB, h1, h2, h3]
theorem seg_notL {c : Int} (h1 : lowB c = false) (h2 : ¬ digB c = true) : segB false c = false := by
  simp at h2
  simp [segB, h1, h2]

theorem bySegs_end {up need b r : Bool} {l : List Int} {n : Nat} (h : segs (segB up) true l = !(decide (n = 0))) (hl : anyLow l = b) (hn : 0 < n) (hr : r = (b || !need)) : r = bySegs up need l := by
  unfold bySegs
  have e : decide (n = 0) = false := by simp; omega
  rw [h, hl, hr, e]
  rfl

theorem bySegs_end0 {up need : Bool} {l : List Int} {n : Nat} (h : segs (segB up) true l = !(decide (n = 0))) (hn : n = 0) : false = bySegs up need l := by
  unfold bySegs
  rw [h, hn]
  rfl

end Go.Proofs.Qxb6602049a.Plain
