import Derived.Test.Qxb6621646aJson
/-
  THE PLAIN PART of FnIsJSONNumberFormsAndSign: decimal digits, and what P1 says of the texts that are made of them.
-/
namespace Go.Proofs.Qxb6621646a.Json

/-- the decimal digits of u, at most f of them -/
def udecF : Nat → Nat → List Int
  | 0, _ => []
  | f + 1, u => if u < 10 then [48 + (u : Int)] else udecF f (u / 10) ++ [48 + ((u % 10 : Nat) : Int)]
def udec (u : Nat) : List Int := udecF 20 u
def idec (n : Int) : List Int := if n < 0 then 45 :: udec (-n).toNat else udec n.toNat

theorem udecF_len (f u : Nat) : (udecF f u).length ≤ f := by
  induction f generalizing u with
  | zero => simp [udecF]
  | succ f ih =>
    unfold udecF
    split
    · simp
    · have := ih (u / 10); simp; omega
theorem udecF_range (f u : Nat) : ∀ c ∈ udecF f u, 48 ≤ c ∧ c ≤ 57 := by
  induction f generalizing u with
  | zero => simp [udecF]
  | succ f ih =>
    unfold udecF
    split
    · simp; omega
    · intro c hc
      rw [List.mem_append] at hc
      rcases hc with hc | hc
      · exact ih _ c hc
      · simp at hc; omega
/-- the first digit, and that it is no zero where u is none -/
theorem udecF_head (f u : Nat) (hf : 0 < f) (hu : u < 10 ^ f) : ∃ c r, udecF f u = c :: r ∧ (c = 48 → u = 0 ∧ r = []) := by
  induction f generalizing u with
  | zero => omega
  | succ f ih =>
    unfold udecF
    by_cases h : u < 10
    · rw [if_pos h]
      exact ⟨_, _, rfl, fun e => ⟨by omega, rfl⟩⟩
    · rw [if_neg h]
      have hf0 : 0 < f := by
        rcases Nat.eq_zero_or_pos f with rfl | h'
        · simp at hu; omega
        · exact h'
      obtain ⟨c, r, e, hc⟩ := ih (u / 10) hf0 (by rw [Nat.pow_succ] at hu; omega)
      refine ⟨c, r ++ [48 + ((u % 10 : Nat) : Int)], by rw [e]; rfl, fun h48 => ?_⟩
      have := (hc h48).1
      omega

theorem dig_of_range {c : Int} (h : 48 ≤ c ∧ c ≤ 57) : dig c = true := by simp [dig, h.1, h.2]

theorem dw_digits (l r : List Int) (h : ∀ c ∈ l, 48 ≤ c ∧ c ≤ 57) : dw (l ++ r) = dw r := by
  induction l with
  | nil => rfl
  | cons c l ih =>
    rw [List.cons_append, dw_yes (dig_of_range (h c (by simp)))]
    exact ih (fun x hx => h x (by simp [hx]))
theorem dw_rest {r : List Int} (h : sd r = false) : dw r = r := by
  cases r with
  | nil => rfl
  | cons c r => exact dw_no h

theorem udec_sd (u : Nat) (hu : u < 10 ^ 20) (r : List Int) : sd (udec u ++ r) = true := by
  obtain ⟨c, t, e, _⟩ := udecF_head 20 u (by omega) hu
  have hr := udecF_range 20 u c (by rw [e]; simp)
  show sd (udecF 20 u ++ r) = true
  rw [e]; exact dig_of_range hr
theorem udec_dw (u : Nat) (r : List Int) (h : sd r = false) : dw (udec u ++ r) = r := by
  unfold udec
  rw [dw_digits _ _ (udecF_range 20 u), dw_rest h]

theorem P2_udec (u : Nat) (hu : u < 10 ^ 20) (r : List Int) (h : sd r = false) : P2 (udec u ++ r) = P3 r := by
  have h1 := udec_sd u hu r
  have h2 := udec_dw u r h
  obtain ⟨c, t, e, hc⟩ := udecF_head 20 u (by omega) hu
  have e' : udec u = c :: t := e
  rw [e', List.cons_append] at h1 h2 ⊢
  by_cases h48 : c = 48
  · obtain ⟨_, rfl⟩ := hc h48
    subst h48
    rfl
  · show (if c = 48 then P3 (t ++ r) else sd (c :: (t ++ r)) && P3 (dw (c :: (t ++ r)))) = P3 r
    rw [if_neg h48, h1, h2]; rfl

theorem P1_idec (n : Int) (hn : -(10 ^ 20 : Int) < n ∧ n < 10 ^ 20) (r : List Int) (h : sd r = false) : P1 (idec n ++ r) = P3 r := by
  unfold idec
  split
  · show P2 (udec (-n).toNat ++ r) = P3 r
    exact P2_udec _ (by omega) r h
  · have hu : n.toNat < 10 ^ 20 := by omega
    rw [← P2_udec n.toNat hu r h]
    obtain ⟨c, t, e, hc⟩ := udecF_head 20 n.toNat (by omega) hu
    have hr := udecF_range 20 n.toNat c (by rw [e]; simp)
    have e' : udec n.toNat = c :: t := e
    rw [e', List.cons_append]
    show (if c = 45 then P2 (t ++ r) else P2 (c :: (t ++ r))) = _
    rw [if_neg (by omega)]

theorem expEnd_udec (u : Nat) (hu : u < 10 ^ 20) : expEnd (udec u) = true := by
  unfold expEnd
  have h1 := udec_sd u hu []
  have h2 := udec_dw u [] rfl
  rw [List.append_nil] at h1 h2
  rw [h1, h2]; rfl
theorem expo_idec (n : Int) (hn : -(10 ^ 20 : Int) < n ∧ n < 10 ^ 20) : expo (idec n) = true := by
  unfold idec
  split
  · show (if (45 : Int) = 43 ∨ (45 : Int) = 45 then expEnd (udec (-n).toNat) else expEnd (45 :: udec (-n).toNat)) = true
    rw [if_pos (by omega), expEnd_udec _ (by omega)]
  · have hu : n.toNat < 10 ^ 20 := by omega
    have h := expEnd_udec n.toNat hu
    obtain ⟨c, t, e, hc⟩ := udecF_head 20 n.toNat (by omega) hu
    have hr := udecF_range 20 n.toNat c (by rw [e]; simp)
    have e' : udec n.toNat = c :: t := e
    rw [e'] at h ⊢
    show (if c = 43 ∨ c = 45 then _ else expEnd (c :: t)) = true
    rw [if_neg (by omega), h]

/-- n -/
theorem form_whole (n : Int) (hn : -(10 ^ 20 : Int) < n ∧ n < 10 ^ 20) : P1 (idec n) = true := by
  have := P1_idec n hn [] rfl
  rwa [List.append_nil] at this
/-- n.f -/
theorem form_frac (n : Int) (hn : -(10 ^ 20 : Int) < n ∧ n < 10 ^ 20) (f : Nat) (hf : f < 10 ^ 20) : P1 (idec n ++ (46 :: udec f)) = true := by
  rw [P1_idec n hn _ rfl]
  show (sd (udec f) && P4 (dw (udec f))) = true
  have h1 := udec_sd f hf []
  have h2 := udec_dw f [] rfl
  rw [List.append_nil] at h1 h2
  rw [h1, h2]; rfl
/-- n.fe<e> -/
theorem form_exp (n : Int) (hn : -(10 ^ 20 : Int) < n ∧ n < 10 ^ 20) (f : Nat) (hf : f < 10 ^ 20) (e : Int) (he : -(10 ^ 20 : Int) < e ∧ e < 10 ^ 20) : P1 (idec n ++ (46 :: (udec f ++ (101 :: idec e)))) = true := by
  rw [P1_idec n hn _ rfl]
  show (sd (udec f ++ (101 :: idec e)) && P4 (dw (udec f ++ (101 :: idec e)))) = true
  rw [udec_sd f hf, udec_dw f _ rfl]
  show (true && expo (idec e)) = true
  rw [expo_idec e he]; rfl
/-- nE+f -/
theorem form_upper (n : Int) (hn : -(10 ^ 20 : Int) < n ∧ n < 10 ^ 20) (f : Nat) (hf : f < 10 ^ 20) : P1 (idec n ++ (69 :: 43 :: udec f)) = true := by
  rw [P1_idec n hn _ rfl]
  show expEnd (udec f) = true
  exact expEnd_udec f hf
/-- n. -/
theorem form_bareDot (n : Int) (hn : -(10 ^ 20 : Int) < n ∧ n < 10 ^ 20) : P1 (idec n ++ [46]) = false := by
  rw [P1_idec n hn _ rfl]; rfl
/-- .f -/
theorem form_leadDot (f : Nat) : P1 (46 :: udec f) = false := rfl
/-- ne -/
theorem form_bareExp (n : Int) (hn : -(10 ^ 20 : Int) < n ∧ n < 10 ^ 20) : P1 (idec n ++ [101]) = false := by
  rw [P1_idec n hn _ rfl]; rfl
/-- 0f -/
theorem form_leadZero (f : Nat) (hf : f < 10 ^ 20) : P1 (48 :: udec f) = false := by
  show P3 (udec f) = false
  obtain ⟨c, t, e, hc⟩ := udecF_head 20 f (by omega) hf
  have hr := udecF_range 20 f c (by rw [e]; simp)
  have e' : udec f = c :: t := e
  rw [e']
  show (if c = 46 then _ else P4 (c :: t)) = false
  rw [if_neg (by omega)]
  show (if c = 101 ∨ c = 69 then _ else false) = false
  rw [if_neg (by omega)]
/-- +f -/
theorem form_plus (f : Nat) : P1 (43 :: udec f) = false := rfl
/-- a second minus -/
theorem form_minus2 (r : List Int) : P1 (45 :: 45 :: r) = false := rfl
/-- a minus ahead of what opens with none -/
theorem form_minus (r : List Int) (h : r.head? ≠ some 45) : P1 (45 :: r) = P1 r := by
  cases r with
  | nil => rfl
  | cons c r =>
    have hc : c ≠ 45 := by simpa using h
    show P2 (c :: r) = if c = 45 then P2 r else P2 (c :: r)
    rw [if_neg hc]
end Go.Proofs.Qxb6621646a.Json
