/-
  The plain law: no Go in sight. A byte list is one of boolOf's twenty-two words just where it is in one of three spellings and its lower-case form is one of the model's eight words.
-/
import Derived.Test.Qxb6601223aProg
namespace Go.Proofs.Qxb6601223a.Words
set_option linter.unusedVariables false
set_option linter.unusedSimpArgs false

def isLo (c : UInt8) : Bool := decide (97 ≤ c.toNat) && decide (c.toNat ≤ 122)
def isUp (c : UInt8) : Bool := decide (65 ≤ c.toNat) && decide (c.toNat ≤ 90)
def lowB (c : UInt8) : UInt8 := if isUp c = true then UInt8.ofNat (c.toNat + 32) else c
def title : List UInt8 → Bool
  | [] => true
  | a :: r => isUp a && r.all isLo
def shaped (l : List UInt8) : Bool := l.all isLo || l.all isUp || title l
def low (l : List UInt8) : List UInt8 := l.map lowB

/-- What boolOf answers. -/
def bo (l : List UInt8) (p : Bool) : Bool × Bool :=
  if l == [121] || l == [89] || l == [121, 101, 115] || l == [89, 101, 115] || l == [89, 69, 83] || l == [111, 110] || l == [79, 110] || l == [79, 78] then (true, true)
  else if l == [110] || l == [78] || l == [110, 111] || l == [78, 111] || l == [78, 79] || l == [111, 102, 102] || l == [79, 102, 102] || l == [79, 70, 70] then (false, true)
  else if l == [116, 114, 117, 101] || l == [84, 114, 117, 101] || l == [84, 82, 85, 69] then (true, p)
  else if l == [102, 97, 108, 115, 101] || l == [70, 97, 108, 115, 101] || l == [70, 65, 76, 83, 69] then (false, p)
  else (false, false)
/-- The model's switch. -/
def look (l : List UInt8) (p : Bool) : Bool × Bool :=
  if l == [121] || l == [121, 101, 115] || l == [111, 110] then (true, true)
  else if l == [110] || l == [110, 111] || l == [111, 102, 102] then (false, true)
  else if l == [116, 114, 117, 101] then (true, p)
  else if l == [102, 97, 108, 115, 101] then (false, p)
  else (false, false)
/-- What the model answers. -/
def mo (l : List UInt8) (p : Bool) : Bool × Bool := if shaped l = true then look (low l) p else (false, false)

theorem lowB_inv (c x : UInt8) (h : lowB c = x) (h1 : 97 ≤ x.toNat) (h2 : x.toNat ≤ 122) : c = x ∨ c.toNat + 32 = x.toNat := by
  unfold lowB at h
  split at h
  · rename_i hu
    right
    subst h
    have hc : c.toNat ≤ 90 := by unfold isUp at hu; simp at hu; exact hu.2
    rw [UInt8.toNat_ofNat_of_lt' (by show _ < 256; omega)]
  · left; exact h
theorem two (c x y : UInt8) (h : lowB c = x) (h1 : 97 ≤ x.toNat) (h2 : x.toNat ≤ 122) (hy : y.toNat + 32 = x.toNat) : c = x ∨ c = y := by
  rcases lowB_inv c x h h1 h2 with e | e
  · exact .inl e
  · exact .inr (UInt8.toNat_inj.1 (by omega))

theorem inv1 (l : List UInt8) (a : UInt8) (h : low l = [a]) : ∃ x, l = [x] ∧ lowB x = a := by
  match l, h with
  | [x], h => exact ⟨x, rfl, by simpa [low] using h⟩
theorem inv2 (l : List UInt8) (a b : UInt8) (h : low l = [a, b]) : ∃ x y, l = [x, y] ∧ lowB x = a ∧ lowB y = b := by
  match l, h with
  | [x, y], h => exact ⟨x, y, rfl, by simpa [low] using h⟩
theorem inv3 (l : List UInt8) (a b c : UInt8) (h : low l = [a, b, c]) : ∃ x y z, l = [x, y, z] ∧ lowB x = a ∧ lowB y = b ∧ lowB z = c := by
  match l, h with
  | [x, y, z], h => exact ⟨x, y, z, rfl, by simpa [low] using h⟩
theorem inv4 (l : List UInt8) (a b c d : UInt8) (h : low l = [a, b, c, d]) : ∃ x y z u, l = [x, y, z, u] ∧ lowB x = a ∧ lowB y = b ∧ lowB z = c ∧ lowB u = d := by
  match l, h with
  | [x, y, z, u], h => exact ⟨x, y, z, u, rfl, by simpa [low] using h⟩
theorem inv5 (l : List UInt8) (a b c d e : UInt8) (h : low l = [a, b, c, d, e]) : ∃ x y z u v, l = [x, y, z, u, v] ∧ lowB x = a ∧ lowB y = b ∧ lowB z = c ∧ lowB u = d ∧ lowB v = e := by
  match l, h with
  | [x, y, z, u, v], h => exact ⟨x, y, z, u, v, rfl, by simpa [low] using h⟩

/-- A spelling of one of the eight words: the two answers agree. -/
theorem same1 (l : List UInt8) (p : Bool) (a a' : UInt8) (h : low l = [a]) (h1 : 97 ≤ a.toNat) (h2 : a.toNat ≤ 122) (h3 : a'.toNat + 32 = a.toNat) : l = [a] ∨ l = [a'] := by
  obtain ⟨x, rfl, e⟩ := inv1 l a h
  rcases two x a a' e h1 h2 h3 with rfl | rfl
  · exact .inl rfl
  · exact .inr rfl

theorem law (l : List UInt8) (p : Bool) : bo l p = mo l p := by
  by_cases w1 : low l = [121]
  · obtain ⟨x, rfl, e1⟩ := inv1 l _ w1
    rcases two x 121 89 e1 (by decide) (by decide) (by decide) with rfl | rfl <;> cases p <;> decide
  by_cases w2 : low l = [121, 101, 115]
  · obtain ⟨x, y, z, rfl, e1, e2, e3⟩ := inv3 l _ _ _ w2
    rcases two x 121 89 e1 (by decide) (by decide) (by decide) with rfl | rfl <;> rcases two y 101 69 e2 (by decide) (by decide) (by decide) with rfl | rfl <;> rcases two z 115 83 e3 (by decide) (by decide) (by decide) with rfl | rfl <;> cases p <;> decide
  by_cases w3 : low l = [111, 110]
  · obtain ⟨x, y, rfl, e1, e2⟩ := inv2 l _ _ w3
    rcases two x 111 79 e1 (by decide) (by decide) (by decide) with rfl | rfl <;> rcases two y 110 78 e2 (by decide) (by decide) (by decide) with rfl | rfl <;> cases p <;> decide
  by_cases w4 : low l = [110]
  · obtain ⟨x, rfl, e1⟩ := inv1 l _ w4
    rcases two x 110 78 e1 (by decide) (by decide) (by decide) with rfl | rfl <;> cases p <;> decide
  by_cases w5 : low l = [110, 111]
  · obtain ⟨x, y, rfl, e1, e2⟩ := inv2 l _ _ w5
    rcases two x 110 78 e1 (by decide) (by decide) (by decide) with rfl | rfl <;> rcases two y 111 79 e2 (by decide) (by decide) (by decide) with rfl | rfl <;> cases p <;> decide
  by_cases w6 : low l = [111, 102, 102]
  · obtain ⟨x, y, z, rfl, e1, e2, e3⟩ := inv3 l _ _ _ w6
    rcases two x 111 79 e1 (by decide) (by decide) (by decide) with rfl | rfl <;> rcases two y 102 70 e2 (by decide) (by decide) (by decide) with rfl | rfl <;> rcases two z 102 70 e3 (by decide) (by decide) (by decide) with rfl | rfl <;> cases p <;> decide
  by_cases w7 : low l = [116, 114, 117, 101]
  · obtain ⟨x, y, z, u, rfl, e1, e2, e3, e4⟩ := inv4 l _ _ _ _ w7
    rcases two x 116 84 e1 (by decide) (by decide) (by decide) with rfl | rfl <;> rcases two y 114 82 e2 (by decide) (by decide) (by decide) with rfl | rfl <;> rcases two z 117 85 e3 (by decide) (by decide) (by decide) with rfl | rfl <;> rcases two u 101 69 e4 (by decide) (by decide) (by decide) with rfl | rfl <;> cases p <;> decide
  by_cases w8 : low l = [102, 97, 108, 115, 101]
  · obtain ⟨x, y, z, u, v, rfl, e1, e2, e3, e4, e5⟩ := inv5 l _ _ _ _ _ w8
    rcases two x 102 70 e1 (by decide) (by decide) (by decide) with rfl | rfl <;> rcases two y 97 65 e2 (by decide) (by decide) (by decide) with rfl | rfl <;> rcases two z 108 76 e3 (by decide) (by decide) (by decide) with rfl | rfl <;> rcases two u 115 83 e4 (by decide) (by decide) (by decide) with rfl | rfl <;> rcases two v 101 69 e5 (by decide) (by decide) (by decide) with rfl | rfl <;> cases p <;> decide
  have hm : mo l p = (false, false) := by
    unfold mo
    split
    · unfold look
      simp [w1, w2, w3, w4, w5, w6, w7, w8]
    · rfl
  rw [hm]
  have n : ∀ m : List UInt8, low m = [121] ∨ low m = [121, 101, 115] ∨ low m = [111, 110] ∨ low m = [110] ∨ low m = [110, 111] ∨ low m = [111, 102, 102] ∨ low m = [116, 114, 117, 101] ∨ low m = [102, 97, 108, 115, 101] → (l == m) = false := fun m h => by
    rw [beq_eq_false_iff_ne]
    rintro rfl
    rcases h with h | h | h | h | h | h | h | h
    · exact w1 h
    · exact w2 h
    · exact w3 h
    · exact w4 h
    · exact w5 h
    · exact w6 h
    · exact w7 h
    · exact w8 h
  unfold bo
  rw [n [121] (by decide), n [89] (by decide), n [121, 101, 115] (by decide), n [89, 101, 115] (by decide), n [89, 69, 83] (by decide), n [111, 110] (by decide), n [79, 110] (by decide), n [79, 78] (by decide),
    n [110] (by decide), n [78] (by decide), n [110, 111] (by decide), n [78, 111] (by decide), n [78, 79] (by decide), n [111, 102, 102] (by decide), n [79, 102, 102] (by decide), n [79, 70, 70] (by decide),
    n [116, 114, 117, 101] (by decide), n [84, 114, 117, 101] (by decide), n [84, 82, 85, 69] (by decide), n [102, 97, 108, 115, 101] (by decide), n [70, 97, 108, 115, 101] (by decide), n [70, 65, 76, 83, 69] (by decide)]
  rfl
end Go.Proofs.Qxb6601223a.Words
