import Derived.KernelRfl
/-
  THE PLAIN PART: no Go in sight. What isJSONNumber computes over the bytes that are left; the automaton; that the two are one.
-/
namespace Go.Proofs.Qxb6621646a.Json

def dig (c : Int) : Bool := decide (48 ≤ c) && decide (c ≤ 57)
def dw (r : List Int) : List Int := r.dropWhile dig
def sd : List Int → Bool
  | [] => false
  | c :: _ => dig c
/-- behind the exponent's sign -/
def expEnd (r : List Int) : Bool := sd r && (dw r).isEmpty
/-- behind e or E -/
def expo : List Int → Bool
  | [] => false
  | c :: r => if c = 43 ∨ c = 45 then expEnd r else expEnd (c :: r)
/-- behind the fraction, or where there is none -/
def P4 : List Int → Bool
  | [] => true
  | c :: r => if c = 101 ∨ c = 69 then expo r else false
/-- behind the integer part -/
def P3 : List Int → Bool
  | [] => true
  | c :: r => if c = 46 then sd r && P4 (dw r) else P4 (c :: r)
/-- behind the sign -/
def P2 : List Int → Bool
  | [] => false
  | c :: r => if c = 48 then P3 r else sd (c :: r) && P3 (dw (c :: r))
def P1 : List Int → Bool
  | [] => false
  | c :: r => if c = 45 then P2 r else P2 (c :: r)

/-- one step of the automaton -/
def stepB (s c : Int) : Int :=
  if s = 0 then (if c = 45 then 1 else if c = 48 then 2 else if dig c = true then 3 else -1)
  else if s = 1 then (if c = 48 then 2 else if dig c = true then 3 else -1)
  else if s = 2 then (if c = 46 then 4 else if c = 101 ∨ c = 69 then 6 else -1)
  else if s = 3 then (if dig c = true then 3 else if c = 46 then 4 else if c = 101 ∨ c = 69 then 6 else -1)
  else if s = 4 then (if dig c = true then 5 else -1)
  else if s = 5 then (if dig c = true then 5 else if c = 101 ∨ c = 69 then 6 else -1)
  else if s = 6 then (if c = 43 ∨ c = 45 then 7 else if dig c = true then 8 else -1)
  else if s = 7 ∨ s = 8 then (if dig c = true then 8 else -1)
  else -1

def accB (s : Int) : Bool := decide (s = 2 ∨ s = 3 ∨ s = 5 ∨ s = 8)
def runB (s : Int) : List Int → Bool
  | [] => accB s
  | c :: r => if stepB s c < 0 then false else runB (stepB s c) r

theorem dw_nil : dw [] = [] := rfl
theorem dw_yes {c : Int} {r : List Int} (h : dig c = true) : dw (c :: r) = dw r := by simp [dw, h]
theorem dw_no {c : Int} {r : List Int} (h : dig c = false) : dw (c :: r) = c :: r := by simp [dw, h]

theorem dig_no_of (c : Int) (h : c = 43 ∨ c = 45 ∨ c = 46 ∨ c = 69 ∨ c = 101) : dig c = false := by
  rcases h with rfl | rfl | rfl | rfl | rfl <;> rfl

theorem run8 (r : List Int) : runB 8 r = (dw r).isEmpty := by
  induction r with
  | nil => rfl
  | cons c r ih =>
    cases h : dig c
    · simp [runB, stepB, h, dw_no h]
    · simp [runB, stepB, h, dw_yes h, ih]
theorem run7 (r : List Int) : runB 7 r = expEnd r := by
  cases r with
  | nil => rfl
  | cons c r =>
    cases h : dig c
    · simp [runB, stepB, h, expEnd, sd]
    · simp [runB, stepB, h, expEnd, sd, dw_yes h, run8]
theorem run6 (r : List Int) : runB 6 r = expo r := by
  cases r with
  | nil => rfl
  | cons c r =>
    by_cases h : c = 43 ∨ c = 45
    · simp [runB, stepB, h, expo, run7]
    · cases hd : dig c
      · simp [runB, stepB, h, expo, expEnd, sd, hd]
      · simp [runB, stepB, h, expo, expEnd, sd, hd, dw_yes hd, run8]
theorem run5 (r : List Int) : runB 5 r = P4 (dw r) := by
  induction r with
  | nil => rfl
  | cons c r ih =>
    cases h : dig c
    · by_cases he : c = 101 ∨ c = 69
      · simp [runB, stepB, h, dw_no h, P4, he, run6]
      · simp [runB, stepB, h, dw_no h, P4, he]
    · simp [runB, stepB, h, dw_yes h, ih]
theorem run4 (r : List Int) : runB 4 r = (sd r && P4 (dw r)) := by
  cases r with
  | nil => rfl
  | cons c r =>
    cases h : dig c
    · simp [runB, stepB, h, sd]
    · simp [runB, stepB, h, sd, dw_yes h, run5]
theorem run2 (r : List Int) : runB 2 r = P3 r := by
  cases r with
  | nil => rfl
  | cons c r =>
    by_cases h : c = 46
    · simp [runB, stepB, h, P3, run4]
    · by_cases he : c = 101 ∨ c = 69
      · simp [runB, stepB, h, he, P3, P4, run6]
      · simp [runB, stepB, h, he, P3, P4]
theorem run3 (r : List Int) : runB 3 r = P3 (dw r) := by
  induction r with
  | nil => rfl
  | cons c r ih =>
    cases hd : dig c
    · by_cases h : c = 46
      · subst h; simp [runB, stepB, hd, dw_no hd, P3, run4]
      · by_cases he : c = 101 ∨ c = 69
        · simp [runB, stepB, hd, dw_no hd, h, he, P3, P4, run6]
        · simp [runB, stepB, hd, dw_no hd, h, he, P3, P4]
    · simp [runB, stepB, hd, dw_yes hd, ih]
theorem run1 (r : List Int) : runB 1 r = P2 r := by
  cases r with
  | nil => rfl
  | cons c r =>
    by_cases h : c = 48
    · simp [runB, stepB, h, P2, run2]
    · cases hd : dig c
      · simp [runB, stepB, h, hd, P2, sd]
      · simp [runB, stepB, h, hd, P2, sd, dw_yes hd, run3]
/-- THE PLAIN LAW of FnIsJSONNumberAutomaton -/
theorem run0 (r : List Int) : runB 0 r = P1 r := by
  cases r with
  | nil => rfl
  | cons c r =>
    by_cases h : c = 45
    · simp [runB, stepB, h, P1, run1]
    · by_cases h0 : c = 48
      · simp [runB, stepB, h0, P1, P2, run2]
      · cases hd : dig c
        · simp [runB, stepB, h, h0, hd, P1, P2, sd]
        · simp [runB, stepB, h, h0, hd, P1, P2, sd, dw_yes hd, run3]
end Go.Proofs.Qxb6621646a.Json
