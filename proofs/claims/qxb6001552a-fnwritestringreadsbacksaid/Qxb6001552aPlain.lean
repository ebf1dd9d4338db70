/-
  Plain functions and laws, with no Go in sight: what writeString writes (esc, escs, lit), what unescape gives (unesc), the reader (rd), the check of one line (scan); and that they fit: escs_len, scan_escs, rd_escs, one_two.
-/
namespace Go.Proofs.Qxb6001552a.Plain

/-- What writeString writes for the byte c, before the byte nx. -/
def esc (c : UInt8) (nx : Option UInt8) : List UInt8 :=
  if c = 39 then [39, 39]
  else if c = 92 then (if nx = some 37 ∨ nx = some 95 then [92] else [92, 92])
  else if c = 0 then [92, 48]
  else if c = 10 then [92, 110]
  else if c = 13 then [92, 114]
  else if c = 9 then [92, 116]
  else if c = 26 then [92, 90]
  else [c]

/-- What writeString writes between the two quotes. -/
def escs : List UInt8 → List UInt8
  | [] => []
  | c :: t => esc c t.head? ++ escs t

/-- The whole literal. -/
def lit (l : List UInt8) : List UInt8 := 39 :: (escs l ++ [39])

/-- What unescape gives. -/
def unesc (c : UInt8) : List UInt8 :=
  if c = 48 then [0]
  else if c = 98 then [8]
  else if c = 110 then [10]
  else if c = 114 then [13]
  else if c = 116 then [9]
  else if c = 90 then [26]
  else if c = 37 ∨ c = 95 then [92, c]
  else [c]

/-- The reader, plainly. -/
def rd : List UInt8 → Option (List UInt8)
  | [] => some []
  | [c] => if c = 39 ∨ c = 92 then none else some [c]
  | c :: d :: t =>
    if c = 39 then (if d = 39 then (rd t).map (39 :: ·) else none)
    else if c = 92 then (rd t).map (unesc d ++ ·)
    else (rd (d :: t)).map (c :: ·)

theorem esc_len (c : UInt8) (nx : Option UInt8) : 1 ≤ (esc c nx).length ∧ (esc c nx).length ≤ 2 := by
  unfold esc; repeat' split
  all_goals simp

theorem escs_len (l : List UInt8) : l.length ≤ (escs l).length ∧ (escs l).length ≤ 2 * l.length := by
  induction l with
  | nil => simp [escs]
  | cons c t ih => have := esc_len c t.head?; simp [escs]; omega

/-- The bytes that may not stand in a line. -/
def bad (c : UInt8) : Bool := c == 0 || c == 10 || c == 13 || c == 9 || c == 26

/-- The check of the runs of quotes, plainly: r is the run so far. -/
def scan : Nat → List UInt8 → Bool
  | r, [] => r % 2 == 0
  | r, c :: t => if bad c then false else if c = 39 then scan (r + 1) t else if r % 2 = 0 then scan 0 t else false

theorem scan_escs (l : List UInt8) : ∀ r, r % 2 = 0 → scan r (escs l) = true := by
  induction l with
  | nil => intro r h; simp [escs, scan, h]
  | cons c t ih =>
    intro r h
    have h2 : (r + 1 + 1) % 2 = 0 := by omega
    simp only [escs, esc]
    repeat' split
    all_goals simp_all [scan, bad]

theorem rd_plain (c : UInt8) (x : List UInt8) (h1 : c ≠ 39) (h2 : c ≠ 92) : rd (c :: x) = (rd x).map (c :: ·) := by
  cases x with
  | nil => simp [rd, h1, h2]
  | cons d t => simp [rd, h1, h2]

theorem rd_quote (x : List UInt8) : rd (39 :: 39 :: x) = (rd x).map (39 :: ·) := by simp [rd]

theorem rd_back (d : UInt8) (x : List UInt8) : rd (92 :: d :: x) = (rd x).map (unesc d ++ ·) := by simp [rd]

theorem rd_escs_le : ∀ (n : Nat) (l : List UInt8), l.length ≤ n → rd (escs l) = some l := by
  intro n
  induction n with
  | zero => intro l h; obtain rfl : l = [] := by simpa using h
            rfl
  | succ n ih =>
    intro l h
    match l, h with
    | [], _ => rfl
    | c :: t, h =>
      have iht := ih t (by simpa using h)
      by_cases hp : c = 92 ∧ (t.head? = some 37 ∨ t.head? = some 95)
      · obtain ⟨rfl, hp⟩ := hp
        match t, h, hp with
        | d :: u, h, hp =>
          have ihu := ih u (by simp at h; omega)
          simp only [List.head?_cons, Option.some.injEq] at hp
          rcases hp with rfl | rfl <;> simp [escs, esc, rd_back, ihu, unesc]
      · simp only [escs, esc]
        repeat' split
        all_goals simp_all [rd_back, rd_quote, rd_plain, unesc]

theorem rd_escs (l : List UInt8) : rd (escs l) = some l := rd_escs_le l.length l (Nat.le_refl _)

/-- One byte: the literal of x alone, and what it reads back as. -/
theorem one_quote : lit [39] = [39, 39, 39, 39] := rfl
theorem one_two (x : UInt8) (h : x ≠ 39) : (lit [x] = [39, x, 39] ∧ x ≠ 92) ∨ ∃ c, lit [x] = [39, 92, c, 39] ∧ unesc c = [x] := by
  simp only [lit, escs, esc]
  repeat' split
  all_goals simp_all [unesc]
/-- What the reader does next, by the first byte. -/
theorem rd_cases (c : UInt8) (t l : List UInt8) (h : rd (c :: t) = some l) :
    (c = 39 ∧ ∃ u m, t = 39 :: u ∧ rd u = some m ∧ l = 39 :: m) ∨
    (c = 92 ∧ ∃ d u m, t = d :: u ∧ rd u = some m ∧ l = unesc d ++ m) ∨
    (c ≠ 39 ∧ c ≠ 92 ∧ ∃ m, rd t = some m ∧ l = c :: m) := by
  by_cases h1 : c = 39
  · subst h1
    left
    match t, h with
    | [], h => simp [rd] at h
    | d :: u, h =>
      by_cases hd : d = 39
      · subst hd
        rw [rd_quote, Option.map_eq_some_iff] at h
        obtain ⟨m, hm, rfl⟩ := h
        exact ⟨rfl, u, m, rfl, hm, rfl⟩
      · simp [rd, hd] at h
  · by_cases h2 : c = 92
    · subst h2
      right; left
      match t, h with
      | [], h => simp [rd] at h
      | d :: u, h =>
        rw [rd_back, Option.map_eq_some_iff] at h
        obtain ⟨m, hm, rfl⟩ := h
        exact ⟨rfl, d, u, m, rfl, hm, rfl⟩
    · right; right
      rw [rd_plain c t h1 h2, Option.map_eq_some_iff] at h
      obtain ⟨m, hm, rfl⟩ := h
      exact ⟨h1, h2, m, hm, rfl⟩

theorem unesc_len (c : UInt8) : (unesc c).length ≤ 2 := by
  unfold unesc; repeat' split
  all_goals simp

/-- A byte array by its bytes from place k on. -/
theorem at_drop (s : ByteArray) (k : Nat) (c : UInt8) (t : List UInt8) (h : s.data.toList.drop k = c :: t) :
    ∃ hk : k < s.size, s[k] = c ∧ s.data.toList.drop (k + 1) = t := by
  have hk : k < s.data.toList.length := by
    rcases Nat.lt_or_ge k s.data.toList.length with h' | h'
    · exact h'
    · rw [List.drop_eq_nil_of_le h'] at h; cases h
  rw [List.drop_eq_getElem_cons hk, List.cons.injEq] at h
  exact ⟨by simpa using hk, h.1, h.2⟩

theorem size_drop (s : ByteArray) (k : Nat) (t : List UInt8) (hk : k ≤ s.size) (h : s.data.toList.drop k = t) : s.size = k + t.length := by
  have := congrArg List.length h
  have e : s.data.size = s.size := rfl
  simp at this
  omega
end Go.Proofs.Qxb6001552a.Plain
