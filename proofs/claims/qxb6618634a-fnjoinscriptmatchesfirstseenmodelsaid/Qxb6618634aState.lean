import Derived.Test.Qxb6618634aFloats
import Derived.Maps.OwnSet
import Derived.Maps.OwnOps
namespace Go.Proofs.Qxb6618634a.JoinWalk
open Go.ChangeShapes Go.WideShapes Go.ChangeAt Go.RowKit Go.Maps
set_option linter.unusedVariables false
set_option linter.unusedSimpArgs false

theorem under63 : Try.prog.underlying 63 = some (.map 2 3) := by kernel_rfl
theorem under64 : Try.prog.underlying 64 = some (.map 2 46) := by kernel_rfl
theorem under37 : Try.prog.underlying 37 = some (.map 2 29) := by kernel_rfl
theorem under54 : Try.prog.underlying 54 = some (.map 2 4) := by kernel_rfl
theorem law2 : Keyed Try.prog 2 := int_keyed Try.underlying2
theorem zero3 (w : World) : (zeroValue 3).run Try.prog w = .ok (.int .i64 0) w := by kernel_rfl
theorem zero29 (w : World) : (zeroValue 29).run Try.prog w = .ok (.int .u64 0) w := by kernel_rfl
theorem zero4 (w : World) : (zeroValue 4).run Try.prog w = .ok (.bool false) w := by kernel_rfl
theorem zero46 (w : World) : (zeroValue 46).run Try.prog w = .ok (.agg (inst 0 0)) w := by kernel_rfl

def kl (x : Int) : Lit := .int .i64 x
def okI (x : Int) : Prop := (Lit.int .i64 x).wf = true
theorem kl_key {x : Int} (h : okI x) : keyOf Try.prog 2 (.int .i64 x) = some (kl x) := keyOf_int_mk Try.underlying2 h
theorem kl_inj {x y : Int} (h : kl x = kl y) : x = y := by simpa [kl] using h
theorem kl_isKey (x : Int) : WideAt.IsKeyLit (kl x) := by simp [kl, WideAt.IsKeyLit]

/-- how an element of the map 'expired' reads: it is an Instance, and no more is asked -/
def R46 : Value → Option (DataW Unit × List MemPlace)
  | .agg Z => if Z.size = 30 ∧ Z.toList.all (·.oneCell') = true then some (.nil, []) else none
  | _ => none
theorem R46_inv {v : Value} {z : DataW Unit × List MemPlace} (h : R46 v = some z) : ∃ cs : List Value, v = .agg cs.toArray ∧ cs.length = 30 ∧ cs.all (·.oneCell') = true := by
  cases v <;> simp only [R46] at h <;> try cases h
  rename_i Z
  split at h
  · rename_i hh; exact ⟨Z.toList, by simp, by simpa using hh.1, hh.2⟩
  · cases h
theorem R46_mk {Z : Array Value} (h1 : Z.size = 30) (h2 : Z.toList.all (·.oneCell') = true) : R46 (.agg Z) = some (.nil, []) := by
  simp only [R46]; rw [if_pos ⟨h1, h2⟩]

/-- the number that comes n joins behind j0 -/
def ju (j0 : Int) (n : Nat) : Int := (j0 + n) % 18446744073709551616

/-- the live list's cells -/
def rows (j0 : Int) : List Int → Nat → List Value
  | [], _ => []
  | x :: xs, k => (inst x (ju j0 k)).toList ++ rows j0 xs (k + 1)

theorem rows_snoc (j0 : Int) (y : Int) : ∀ (xs : List Int) (k : Nat), rows j0 (xs ++ [y]) k = rows j0 xs k ++ (inst y (ju j0 (k + xs.length))).toList
  | [], k => by simp [rows]
  | x :: xs, k => by
    have := rows_snoc j0 y xs (k + 1)
    simp only [List.cons_append, rows, this, List.append_assoc, List.length_cons]
    rw [show k + 1 + xs.length = k + (xs.length + 1) by omega]

theorem rows_length (j0 : Int) : ∀ (xs : List Int) (k : Nat), (rows j0 xs k).length = xs.length * 30
  | [], _ => by simp [rows]
  | x :: xs, k => by
    have := rows_length j0 xs (k + 1)
    simp only [rows, List.length_append, this, inst_len, List.length_cons]
    omega

theorem rows_at (j0 : Int) : ∀ (xs : List Int) (k i : Nat), i < xs.length → ∀ c v, (inst (xs.getD i 0) (ju j0 (k + i))).toList[c]? = some v → (rows j0 xs k)[30 * i + c]? = some v
  | [], _, i, h, _, _, _ => by simp at h
  | x :: xs, k, 0, _, c, v, hv => by
    have hc : c < 30 := by
      have := (List.getElem?_eq_some_iff.1 hv).1
      rwa [inst_len] at this
    simp only [rows]
    rw [List.getElem?_append_left (by rw [inst_len]; omega)]
    simpa using hv
  | x :: xs, k, i + 1, h, c, v, hv => by
    have := rows_at j0 xs (k + 1) i (by simpa using h) c v (by rw [show k + 1 + i = k + (i + 1) by omega]; simpa using hv)
    simp only [rows]
    rw [List.getElem?_append_right (by rw [inst_len]; omega), inst_len, show 30 * (i + 1) + c - 30 = 30 * i + c by omega]
    exact this

/-- a map that leads each of 'seen' to its place, and holds no other key -/
def Ranks (D : DataW Unit) (q : IntKind) (seen : List Int) : Prop :=
  (∀ i, i < seen.length → ∀ z, D.atKey (kl (seen.getD i 0)) z = .lit (.int q i)) ∧ (∀ x, Maps.has D (kl x) = decide (x ∈ seen)) ∧ Maps.size D = seen.length

theorem Ranks.nil (q : IntKind) : Ranks (.map []) q [] := ⟨by simp, by intro x; rfl, rfl⟩

theorem getD_mem {l : List Int} {i : Nat} (h : i < l.length) : l.getD i 0 ∈ l := by
  rw [List.getD_eq_getElem?_getD, List.getElem?_eq_getElem h]; simp

theorem Ranks.snoc {D : DataW Unit} {q : IntKind} {seen : List Int} {x : Int} (h : Ranks D q seen) (ht : Tidy D) (hx : x ∉ seen) : Ranks (D.put (kl x) (.lit (.int q (seen.length : Nat)))) q (seen ++ [x]) := by
  obtain ⟨h1, h2, h3⟩ := h
  refine ⟨?_, ?_, ?_⟩
  · intro i hi z
    by_cases hl : i < seen.length
    · have e : (seen ++ [x]).getD i 0 = seen.getD i 0 := by
        simp only [List.getD_eq_getElem?_getD]; rw [List.getElem?_append_left hl]
      rw [e, atKey_put_other (fun e => hx (by rw [← kl_inj e]; exact getD_mem hl))]
      exact h1 i hl z
    · have hi' : i = seen.length := by simp at hi; omega
      subst hi'
      have e : (seen ++ [x]).getD seen.length 0 = x := by simp [List.getD_eq_getElem?_getD]
      rw [e]
      exact atKey_put_same ht.isMap (kl_isKey _) _ _
  · intro y
    by_cases e : y = x
    · subst e
      rw [has_put_same ht.isMap (kl_isKey _)]; simp
    · rw [has_put_other (fun h => e (kl_inj h)), h2]; simp [e]
  · rw [size_put ht, h2, h3]; simp [hx]

theorem place_of {seen : List Int} {x : Int} (h : x ∈ seen) : ∃ i, i < seen.length ∧ seen.getD i 0 = x := by
  obtain ⟨i, hi, e⟩ := List.mem_iff_getElem.1 h
  exact ⟨i, hi, by simp [List.getD_eq_getElem?_getD, hi, e]⟩

/-- what an *instances is, as the law sees it -/
structure St (w : World) (N PM EM lb : Nat) (Z : Array Value) (sl : Value) (j0 m : Int) (seen : List Int) (nE : Nat) (DP DE : DataW Unit) : Prop where
  hN : w.heap[N]? = some (.cells Z 69 (0, 0))
  zs : Z.size = 48
  z0 : Z[0]? = some sl
  z1 : Z[1]? = some (.map (some PM))
  z2 : Z[2]? = some (.int .u64 (ju j0 seen.length))
  z3 : Z[3]? = some (.int .i64 m)
  zz : ∀ i, 7 ≤ i → i < 45 → Z[i]? = some (.int .u64 0)
  z45 : Z[45]? = some (.map (some EM))
  hP : w.ownsMap Try.prog 2 (plainElem Try.prog 3) PM seen.length DP
  rP : Ranks DP .i64 seen
  hE : w.ownsMap Try.prog 2 R46 EM nE DE
  hL : w.ownsRow lb 46 30 sl seen.length (rows j0 seen 0)
  nilL : seen = [] → sl = .slice none 0 0
  ne : PM ≠ EM
  lt : N < lb
  le : lb ≤ w.heap.size

theorem ownsMap_below {w w' : World} {R : Value → Option (DataW Unit × List MemPlace)} {b n : Nat} {D : DataW Unit} (h : w.ownsMap Try.prog 2 R b n D) (hb : Below w.heap.size w w') : w'.ownsMap Try.prog 2 R b n D :=
  h.kept (row := none) ⟨hb.os, hb.tape, hb.output, hb.size, fun i hi _ => hb.block i hi⟩ (by simp)

theorem grown_of_below {w w' : World} (hb : Below w.heap.size w w') : w.grownBy w' none := ⟨hb.os, hb.tape, hb.output, hb.size, fun i hi _ => hb.block i hi⟩

theorem St.below {w w' : World} {N PM EM lb nE : Nat} {Z : Array Value} {sl : Value} {j0 m : Int} {seen : List Int} {DP DE : DataW Unit} (h : St w N PM EM lb Z sl j0 m seen nE DP DE) (hb : Below w.heap.size w w') : St w' N PM EM lb Z sl j0 m seen nE DP DE :=
  { h with
    hN := by rw [hb.block N (lt_of_some h.hN)]; exact h.hN
    hP := ownsMap_below h.hP hb
    hE := ownsMap_below h.hE hb
    hL := h.hL.kept (grown_of_below hb) (by cases sl.ownBlock <;> simp)
    le := Nat.le_trans h.le hb.size }

/-- the live list is a row of its own wherever it holds something -/
theorem St.listed {w : World} {N PM EM lb nE : Nat} {Z : Array Value} {sl : Value} {j0 m : Int} {seen : List Int} {DP DE : DataW Unit} (h : St w N PM EM lb Z sl j0 m seen nE DP DE) (hs : seen ≠ []) :
    ∃ g cap, sl = .slice (some ⟨g, 0, none⟩) seen.length cap ∧ ∀ i, i < seen.length → w.rangeAt g (i * 30) (inst (seen.getD i 0) (ju j0 i)).toList := by
  obtain ⟨hl, h1 | ⟨g, cap, cur, rfl, hb, hg, hc, hm, hcs, ht⟩⟩ := h.hL
  · exact absurd (List.eq_nil_of_length_eq_zero h1.2) hs
  · refine ⟨g, cap, rfl, fun i hi c v hv => ?_⟩
    have h2 := rows_at j0 seen 0 i hi c v (by simpa using hv)
    have h3 := h.hL.cellAt (30 * i + c) (by have := (List.getElem?_eq_some_iff.1 h2).1; rw [rows_length] at this; exact this)
    rw [Nat.mul_comm i 30, h3]; exact h2

end Go.Proofs.Qxb6618634a.JoinWalk
