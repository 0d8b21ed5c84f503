/-
  THE PLAIN LAW OF THE THREE FORMAT CHECKS: no Go in sight. A string is the list of its byte values.
-/
namespace Go.Proofs.Qxb6602049a.Plain

/-- The byte values of a string. -/
def codes (s : ByteArray) : List Int := s.data.toList.map fun b => (b.toNat : Int)

theorem codes_length (s : ByteArray) : (codes s).length = s.size := by
  unfold codes
  rw [List.length_map, Array.length_toList]
  rfl

theorem codes_append (a b : ByteArray) : codes (a ++ b) = codes a ++ codes b := by
  unfold codes
  rw [ByteArray.data_append, Array.toList_append, List.map_append]

theorem codes_drop (s : ByteArray) (k : Nat) (h : k < s.size) : (codes s).drop k = (s[k].toNat : Int) :: (codes s).drop (k + 1) := by
  have h' : k < (codes s).length := by rw [codes_length]; exact h
  rw [List.drop_eq_getElem_cons h']
  congr 1
  simp only [codes, List.getElem_map, Array.getElem_toList]
  rfl

theorem codes_at (s : ByteArray) (k : Nat) (h : k < s.size) : (codes s)[k]? = some (s[k].toNat : Int) := by
  have h' : k < (codes s).length := by rw [codes_length]; exact h
  rw [List.getElem?_eq_getElem h']
  simp only [codes, List.getElem_map, Array.getElem_toList]
  rfl

def lowB (c : Int) : Bool := decide (97 ≤ c) && decide (c ≤ 122)
def uppB (c : Int) : Bool := decide (65 ≤ c) && decide (c ≤ 90)
def digB (c : Int) : Bool := decide (48 ≤ c) && decide (c ≤ 57)
def alnB (c : Int) : Bool := lowB c || uppB c || digB c

/-- Does the text end with a hyphen, 'p' standing for whatever comes before it? -/
def endH (p : Bool) : List Int → Bool
  | [] => p
  | c :: cs => endH (c == 45) cs

/-- The scan of a name whose bytes are hyphens and those that 'ok' lets: 0 to the end, 1 two hyphens in a row, 2 a foreign byte. 'p': the byte before is a hyphen. -/
def scan (ok : Int → Bool) (p : Bool) : List Int → Nat
  | [] => 0
  | c :: cs => if c == 45 then (if p then 1 else scan ok true cs) else if ok c then scan ok false cs else 2

def headH : List Int → Bool
  | [] => false
  | c :: _ => c == 45

def mAppEmpty : ByteArray := ⟨#[116, 104, 101, 32, 97, 112, 112, 39, 115, 32, 110, 97, 109, 101, 32, 109, 117, 115, 116, 32, 110, 111, 116, 32, 98, 101, 32, 101, 109, 112, 116, 121]⟩
def mAppDouble : ByteArray := ⟨#[116, 104, 101, 32, 97, 112, 112, 39, 115, 32, 110, 97, 109, 101, 32, 109, 117, 115, 116, 32, 110, 111, 116, 32, 104, 111, 108, 100, 32, 116, 119, 111, 32, 104, 121, 112, 104, 101, 110, 115, 32, 105, 110, 32, 97, 32, 114, 111, 119]⟩
def mAppChars : ByteArray := ⟨#[116, 104, 101, 32, 97, 112, 112, 39, 115, 32, 110, 97, 109, 101, 32, 109, 97, 121, 32, 104, 111, 108, 100, 32, 111, 110, 108, 121, 32, 108, 101, 116, 116, 101, 114, 115, 44, 32, 100, 105, 103, 105, 116, 115, 32, 97, 110, 100, 32, 104, 121, 112, 104, 101, 110, 115]⟩
def mAppEdge : ByteArray := ⟨#[116, 104, 101, 32, 97, 112, 112, 39, 115, 32, 110, 97, 109, 101, 32, 109, 117, 115, 116, 32, 110, 111, 116, 32, 115, 116, 97, 114, 116, 32, 111, 114, 32, 101, 110, 100, 32, 119, 105, 116, 104, 32, 97, 32, 104, 121, 112, 104, 101, 110]⟩

/-- What appNameFormat answers. -/
def appMsg (l : List Int) : ByteArray :=
  if l.isEmpty then mAppEmpty
  else if scan alnB false l == 1 then mAppDouble
  else if scan alnB false l == 2 then mAppChars
  else if headH l || endH false l then mAppEdge
  else ⟨#[]⟩

theorem scan_le (ok : Int → Bool) (l : List Int) : ∀ p, scan ok p l ≤ 2 := by
  induction l with
  | nil => intro p; simp [scan]
  | cons c cs ih =>
    intro p
    unfold scan
    split
    · split
      · omega
      · exact ih _
    · split
      · exact ih _
      · omega

theorem scan_append (ok : Int → Bool) (a b : List Int) : ∀ p, scan ok p (a ++ b) = if scan ok p a == 0 then scan ok (endH p a) b else scan ok p a := by
  induction a with
  | nil => intro p; simp [scan, endH]
  | cons c cs ih =>
    intro p
    by_cases h : (c == 45) = true
    · cases p <;> simp [scan, endH, h, ih]
    · have h' : (c == 45) = false := by simpa using h
      cases ho : ok c <;> simp [scan, endH, h', ho, ih]

theorem endH_append (a b : List Int) : ∀ p, endH p (a ++ b) = endH (endH p a) b := by
  induction a with
  | nil => intro p; rfl
  | cons c cs ih => intro p; exact ih _

theorem scan_noHead (ok : Int → Bool) (l : List Int) (h : headH l = false) (p : Bool) : scan ok p l = scan ok false l := by
  cases l with
  | nil => rfl
  | cons c cs =>
    have h' : (c == 45) = false := h
    simp [scan, h']

theorem endH_cons (l : List Int) (h : l.isEmpty = false) (p : Bool) : endH p l = endH false l := by
  cases l with
  | nil => simp at h
  | cons c cs => rfl

/-- 'endH' is what Go reads at the last place. -/
theorem endH_last (l : List Int) : ∀ (c : Int) (p : Bool), l[l.length - 1]? = some c → endH p l = (c == 45) := by
  induction l with
  | nil => intro c p h; simp at h
  | cons x xs ih =>
    intro c p h
    cases xs with
    | nil => simp at h; subst h; rfl
    | cons y ys =>
      have := ih c (x == 45) (by simpa using h)
      exact this

theorem headH_at (l : List Int) (c : Int) (h : l[0]? = some c) : headH l = (c == 45) := by
  cases l with
  | nil => simp at h
  | cons x xs => simp at h; subst h; rfl

/-- Is the byte ahead of place k a hyphen? -/
def prevH (l : List Int) : Nat → Bool
  | 0 => false
  | j + 1 => l[j]? == some 45

theorem prevH_succ (s : ByteArray) (j : Nat) (h : j < s.size) : prevH (codes s) (j + 1) = ((s[j].toNat : Int) == 45) := by
  show ((codes s)[j]? == some 45) = _
  rw [codes_at s j h]
  rfl

/-- The scan as it stands ahead of place k. -/
def At (ok : Int → Bool) (s : ByteArray) (k : Nat) : Prop := scan ok false (codes s) = scan ok (prevH (codes s) k) ((codes s).drop k)

theorem at_zero (ok : Int → Bool) (s : ByteArray) : At ok s 0 := rfl

theorem at_hy {ok : Int → Bool} {s : ByteArray} {k : Nat} (h : At ok s k) (hk : k < s.size) (hc : ((s[k].toNat : Int) == 45) = true) (hp : prevH (codes s) k = false) : At ok s (k + 1) := by
  unfold At at h ⊢
  rw [h, hp, codes_drop s k hk, prevH_succ s k hk, hc]
  simp [scan, hc]

theorem at_ok {ok : Int → Bool} {s : ByteArray} {k : Nat} (h : At ok s k) (hk : k < s.size) (hc : ((s[k].toNat : Int) == 45) = false) (ho : ok (s[k].toNat : Int) = true) : At ok s (k + 1) := by
  unfold At at h ⊢
  rw [h, codes_drop s k hk, prevH_succ s k hk, hc]
  simp [scan, hc, ho]

theorem at_dbl {ok : Int → Bool} {s : ByteArray} {k : Nat} (h : At ok s k) (hk : k < s.size) (hc : ((s[k].toNat : Int) == 45) = true) (hp : prevH (codes s) k = true) : scan ok false (codes s) = 1 := by
  unfold At at h
  rw [h, hp, codes_drop s k hk]
  simp [scan, hc]

theorem at_bad {ok : Int → Bool} {s : ByteArray} {k : Nat} (h : At ok s k) (hk : k < s.size) (hc : ((s[k].toNat : Int) == 45) = false) (ho : ok (s[k].toNat : Int) = false) : scan ok false (codes s) = 2 := by
  unfold At at h
  rw [h, codes_drop s k hk]
  simp [scan, hc, ho]

theorem at_end {ok : Int → Bool} {s : ByteArray} {k : Nat} (h : At ok s k) (hk : ¬ k < s.size) : scan ok false (codes s) = 0 := by
  unfold At at h
  rw [h, List.drop_eq_nil_of_le (by rw [codes_length]; omega)]
  rfl

theorem codes_nonempty {s : ByteArray} (h : 0 < s.size) : (codes s).isEmpty = false := by
  have := codes_length s
  cases hc : codes s with
  | nil => rw [hc] at this; simp at this; omega
  | cons c cs => rfl

theorem codes_empty {s : ByteArray} (h : s.size = 0) : codes s = [] := by
  have := codes_length s
  cases hc : codes s with
  | nil => rfl
  | cons c cs => rw [hc] at this; simp at this; omega

theorem codes_head {s : ByteArray} (h : 0 < s.size) : headH (codes s) = ((s[0].toNat : Int) == 45) :=
  headH_at _ _ (codes_at s 0 h)

theorem codes_last {s : ByteArray} (h : 0 < s.size) : endH false (codes s) = ((s[s.size - 1].toNat : Int) == 45) :=
  endH_last _ _ _ (by rw [codes_length]; exact codes_at s (s.size - 1) (by omega))

theorem app_empty {s : ByteArray} (h : s.size = 0) : appMsg (codes s) = mAppEmpty := by
  rw [codes_empty h]
  rfl

theorem app_dbl {s : ByteArray} (h : 0 < s.size) (hs : scan alnB false (codes s) = 1) : appMsg (codes s) = mAppDouble := by
  unfold appMsg
  simp [codes_nonempty h, hs]

theorem app_bad {s : ByteArray} (h : 0 < s.size) (hs : scan alnB false (codes s) = 2) : appMsg (codes s) = mAppChars := by
  unfold appMsg
  simp [codes_nonempty h, hs]

theorem app_edge {s : ByteArray} (h : 0 < s.size) (hs : scan alnB false (codes s) = 0) (hx : (s[0].toNat : Int) = 45 ∨ ((s[0].toNat : Int) == 45) = true ∨ ((s[s.size - 1].toNat : Int) == 45) = true) : appMsg (codes s) = mAppEdge := by
  unfold appMsg
  have e : (headH (codes s) || endH false (codes s)) = true := by
    rw [codes_head h, codes_last h]
    rcases hx with hx | hx | hx <;> simp_all
  rw [e]
  simp [codes_nonempty h, hs]

theorem app_fine {s : ByteArray} (h : 0 < s.size) (hs : scan alnB false (codes s) = 0) (hx : ((s[0].toNat : Int) == 45) = false ∧ ((s[s.size - 1].toNat : Int) == 45) = false) : appMsg (codes s) = ⟨#[]⟩ := by
  unfold appMsg
  have e : (headH (codes s) || endH false (codes s)) = false := by
    rw [codes_head h, codes_last h, hx.1, hx.2]
    rfl
  rw [e]
  simp [codes_nonempty h, hs]

end Go.Proofs.Qxb6602049a.Plain
