import Derived.Test.Qxb6618634aFind
import Derived.Deep.RegionHeld3
import Derived.Deep.RegionLaw
import Derived.Deep.Light
namespace Go.Proofs.Qxb6618634a.JoinWalk
open Go.ChangeShapes Go.WideShapes Go.ChangeAt Go.RowKit Go.Maps
set_option linter.unusedVariables false
set_option linter.unusedSimpArgs false

variable {w : World} {N PM EM lb nE : Nat} {Z : Array Value} {sl : Value} {j0 m : Int} {seen : List Int} {DP DE : DataW Unit}

/-- all that lay is as it was, but for the blocks of X -/
structure Kept (X : Nat → Prop) (w w' : World) : Prop where
  os : w'.os = w.os
  tape : w'.tape = w.tape
  output : w'.output = w.output
  size : w.heap.size ≤ w'.heap.size
  block : ∀ k, k < w.heap.size → ¬ X k → w'.heap[k]? = w.heap[k]?

theorem Kept.refl (X : Nat → Prop) (w : World) : Kept X w w := ⟨rfl, rfl, rfl, Nat.le_refl _, fun _ _ _ => rfl⟩
theorem Kept.grown {X : Nat → Prop} {w w1 w2 : World} {row : Option Nat} (h : Kept X w w1) (hg : w1.grownBy w2 row) (hr : ∀ r, row = some r → w.heap.size ≤ r ∨ X r) : Kept X w w2 :=
  ⟨hg.os.trans h.os, hg.tape.trans h.tape, hg.output.trans h.output, Nat.le_trans h.size hg.size, fun k hk hx => by
    rw [hg.block k (Nat.lt_of_lt_of_le hk h.size) (fun e => by rcases hr k e.symm with h1 | h1; · omega
                                                               · exact hx h1)]
    exact h.block k hk hx⟩
theorem Kept.below {X : Nat → Prop} {w w1 w2 : World} (h : Kept X w w1) (hb : Below w1.heap.size w1 w2) : Kept X w w2 := h.grown (grown_of_below hb) (by simp)
theorem Kept.drew {X : Nat → Prop} {w w1 : World} (h : Kept X w w1) : Kept X w w1.drew := ⟨h.os, h.tape, h.output, h.size, h.block⟩
theorem Kept.setCell {X : Nat → Prop} {w w1 : World} (h : Kept X w w1) {a : Addr} (ha : X a.block) (v : Value) : Kept X w (w1.setCell a v) :=
  ⟨h.os, h.tape, h.output, by simpa using h.size, fun k hk hx => by
    rw [Below.heap_setCell w1 a v k (fun e => hx (by rw [e]; exact ha))]; exact h.block k hk hx⟩

theorem blk {w w' : World} {row : Option Nat} {k : Nat} {ob : Obj} (hg : w.grownBy w' row) (h : w.heap[k]? = some ob) (hne : some k ≠ row) : w'.heap[k]? = some ob := by
  rw [hg.block k (lt_of_some h) hne]; exact h

theorem slice_form {w : World} {base n s : Nat} {e : TypeId} {sl : Value} {xs : List Value} (hk : w.ownsRow base e s sl n xs) : ∃ ao cap, sl = .slice ao n cap := by
  obtain ⟨_, ⟨rfl, rfl⟩ | ⟨g, cap, cur, rfl, _⟩⟩ := hk
  · exact ⟨none, 0, rfl⟩
  · exact ⟨some ⟨g, 0, none⟩, cap, rfl⟩

theorem wf_nat {n : Nat} (h : n ≤ 65536) : (Lit.int .i64 (n : Int)).wf = true := by
  have h1 : IntKind.i64.min = -9223372036854775808 := by decide
  have h2 : IntKind.i64.max = 9223372036854775807 := by decide
  simp [Lit.wf, h1, h2]; omega

theorem grown_setCell (w : World) (a : Addr) (v : Value) : w.grownBy (w.setCell a v) (some a.block) :=
  ⟨rfl, rfl, rfl, by simp, fun k hk hne => Below.heap_setCell w a v k (fun e => hne (by rw [e]))⟩
theorem row_setCell {w : World} {b o : Nat} {Z : Array Value} {t : TypeId} {fr : Nat × Nat} (h : w.heap[b]? = some (.cells Z t fr)) (v : Value) : (w.setCell ⟨b, o, none⟩ v).heap[b]? = some (.cells (Z.setIfInBounds o v) t fr) := by
  simp [World.setCell, Array.getElem?_modify, h]

theorem grown_drew {w w' : World} {row : Option Nat} (h : w.grownBy w' row) : w.grownBy w'.drew row := ⟨h.os, h.tape, h.output, h.size, h.block⟩

theorem ownsRow_weaken {w : World} {b b' : Nat} {e : TypeId} {s : Nat} {v : Value} {n : Nat} {xs : List Value} (h : w.ownsRow b e s v n xs) (hb : b' ≤ b) : w.ownsRow b' e s v n xs := by
  obtain ⟨h1, h2 | ⟨g, cap, cur, h3, h4, h5⟩⟩ := h
  · exact ⟨h1, .inl h2⟩
  · exact ⟨h1, .inr ⟨g, cap, cur, h3, by omega, h5⟩⟩

/-- a row of two or more elements is no block of one -/
theorem list_ne_row {w : World} {b k : Nat} {e t : TypeId} {v : Value} {n : Nat} {xs : List Value} {Z : Array Value} {fr : Nat × Nat} (h : w.ownsRow b e 30 v n xs) (hn : 2 ≤ n) (hk : w.heap[k]? = some (.cells Z t fr)) (hZ : Z.size = 30) : v.ownBlock ≠ some k := by
  obtain ⟨h1, h2 | ⟨g, cap, cur, rfl, h4, h5, h6, h7, h8, h9⟩⟩ := h
  · omega
  · intro e
    simp only [Value.ownBlock, Option.some.injEq] at e
    subst e
    rw [h5] at hk
    cases hk
    omega

theorem map_ne_row {w : World} {R : Value → Option (DataW Unit × List MemPlace)} {b n k : Nat} {D : DataW Unit} {Z : Array Value} {t : TypeId} {fr : Nat × Nat} (h : w.ownsMap Try.prog 2 R b n D) (hk : w.heap[k]? = some (.cells Z t fr)) : b ≠ k := by
  rintro rfl
  obtain ⟨es, clock, hb, _⟩ := h
  rw [hb] at hk; cases hk

theorem map_ne_list {w : World} {R : Value → Option (DataW Unit × List MemPlace)} {b n k base s : Nat} {e : TypeId} {D : DataW Unit} {sl : Value} {xs : List Value} (h : w.ownsMap Try.prog 2 R b n D) (hk : w.ownsRow base e s sl k xs) : sl.ownBlock = none ∨ sl.ownBlock ≠ some b := by
  obtain ⟨_, ⟨rfl, _⟩ | ⟨g, cap, cur, rfl, _, hg, _⟩⟩ := hk
  · exact .inl rfl
  · refine .inr ?_
    simp only [Value.ownBlock, ne_eq, Option.some.injEq]
    exact fun e => map_ne_row h hg e.symm

theorem build1 (id j : Int) (w : World) : (Instr.buildSlice 65 1 #[(0, .agg (inst id j))]).run Try.prog w = .ok (.slice (some ⟨w.heap.size, 0, none⟩) 1 1) (w.alloc (.cells (inst id j) 46 (0, 0))) := by kernel_rfl
theorem info46 : (Try.prog.info? 46).map (fun i => (i.zero, i.size, i.bytes)) = some (some (.agg (inst 0 0)), 30, 240) := by kernel_rfl
theorem under65 : Try.prog.underlying 65 = some (.slice 46) := by kernel_rfl
theorem inst_one (id j : Int) : ∀ u ∈ (inst id j).toList, u.oneCell' = true := all_one rfl

theorem step_append_run {P : Program} {ops : Array Oper} {o : Oper} {a : Act} {w w' : World} {v : Value} {K : Act → World → Prop} {Q : Exit → Act → World → Prop} {E : Prop} (hg : o.guard = none) (s x : Operand) (t : TypeId) (hop : o.op = Op.call { callee := Callee.builtin Builtin.append, args := #[s, x], argTypes := #[t, t] })
    (p q : Value) (hs : a.eval s = p) (hx : a.eval x = q) (hrun : (Builtin.append_ #[t, t] o.type #[p, q]).run P w = .ok v w') (hK : K (a.put o.dst v) w') : if Region.wanted o (yielded ops a.tmps) = true then Oper.wp P o a w K Q else E := by
  have hw : Region.wanted o (yielded ops a.tmps) = true := by simp [Region.wanted, hg]
  rw [if_pos hw]
  unfold Oper.wp
  simp [execOp, hop, resolve, invoke, builtin, hs, hx, hrun, Result.andThen]
  exact hK

/-- one step of a drawn region, by the run of its operation -/
theorem step_val {P : Program} {ops : Array Oper} {o : Oper} {a : Act} {w w' : World} {v : Value} {K : Act → World → Prop} {Q : Exit → Act → World → Prop} {E : Prop} (hw : Region.wanted o (yielded ops a.tmps) = true)
    (hrun : (execOp a.eval o).run P w = .ok (.value v) w') (hK : K (a.put o.dst v) w') : if Region.wanted o (yielded ops a.tmps) = true then Oper.wp P o a w K Q else E := by
  rw [if_pos hw]
  unfold Oper.wp
  rw [hrun]
  exact hK
theorem step_skip {P : Program} {ops : Array Oper} {o : Oper} {a : Act} {w w' : World} {K : Act → World → Prop} {Q : Exit → Act → World → Prop} {E : Prop} (hw : Region.wanted o (yielded ops a.tmps) = true)
    (hrun : (execOp a.eval o).run P w = .ok .skip w') (hK : K (a.put o.dst undef) w') : if Region.wanted o (yielded ops a.tmps) = true then Oper.wp P o a w K Q else E := by
  rw [if_pos hw]
  unfold Oper.wp
  rw [hrun]
  exact hK

theorem exec_load {P : Program} {o : Oper} {a : Act} {w : World} {v : Value} (ty : TypeId) (x : Operand) (ho : o.op = .load ty x) (p : Value) (hx : a.eval x = p) (hl : (Instr.loadAt ty p).run P w = .ok v w) : (execOp a.eval o).run P w = .ok (.value v) w := by
  unfold execOp
  simp [ho, hx, hl, Sem.run_bind, Result.andThen]
theorem exec_store {P : Program} {o : Oper} {a : Act} {w w' : World} (ty : TypeId) (x y : Operand) (ho : o.op = .store ty x y) (p v : Value) (hx : a.eval x = p) (hy : a.eval y = v) (hl : (Instr.storeAt ty p v).run P w = .ok () w') : (execOp a.eval o).run P w = .ok .skip w' := by
  unfold execOp
  simp [ho, hx, hy, hl, Sem.run_bind, Result.andThen]
theorem exec_build1 {P : Program} {o : Oper} {a : Act} {w w' : World} {v : Value} (ty : TypeId) (x : Operand) (ho : o.op = .buildSlice ty 1 #[(0, x)]) (p : Value) (hx : a.eval x = p) (hl : (Instr.buildSlice ty 1 #[(0, p)]).run P w = .ok v w') : (execOp a.eval o).run P w = .ok (.value v) w' := by
  unfold execOp
  simp [ho, hx, hl, Sem.run_bind, Result.andThen]
theorem exec_append {P : Program} {o : Oper} {a : Act} {w w' : World} {v : Value} (t : TypeId) (x y : Operand) (ho : o.op = .call { callee := .builtin .append, args := #[x, y], argTypes := #[t, t] }) (p q : Value) (hx : a.eval x = p) (hy : a.eval y = q) (hl : (Builtin.append_ #[t, t] o.type #[p, q]).run P w = .ok v w') : (execOp a.eval o).run P w = .ok (.value v) w' := by
  unfold execOp
  simp [ho, resolve, invoke, builtin, hx, hy, hl, Sem.run_bind, Result.andThen]

theorem load65 {W : World} {N n cap : Nat} {ao : Option Addr} (h : W.cell? ⟨N, 0, none⟩ = some (.slice ao n cap)) : (Instr.loadAt 65 (.pointer (some ⟨N, 0, none⟩))).run Try.prog W = .ok (.slice ao n cap) W := by go_simp

/-- a piece of code that comes out at one state, whatever order was drawn -/
theorem wp_via {P : Program} {c : Code} {Q : Exit → Act → World → Prop} {a : Act} {w : World} {A : Act} {W : World} (h1 : c.wp P (fun e a' w' => match e with | .normal => a' = A ∧ w' = W | _ => False) a w) (h2 : Q .normal A W) : c.wp P Q a w :=
  Code.wp_mono (fun e a' w' h => by
    cases e with
    | normal => obtain ⟨rfl, rfl⟩ := h; exact h2
    | _ => exact h.elim) h1

theorem wrapU (x : Int) : IntKind.u64.wrap x = x % 18446744073709551616 := by
  simp [IntKind.wrap, IntKind.bits, IntKind.signed]
theorem ju_succ (j0 : Int) (n : Nat) : IntKind.u64.wrap (ju j0 n + 1) = ju j0 (n + 1) := by
  rw [wrapU]; unfold ju; omega
theorem max_is (m : Int) (n : Nat) : (if m < (n : Int) + 1 then (n : Int) + 1 else m) = max m ((n + 1 : Nat) : Int) := by
  split <;> omega

/-- what a join of a new id leaves -/
def XX (N PM EM : Nat) (sl : Value) : Nat → Prop := fun k => k = N ∨ k = PM ∨ k = EM ∨ sl.ownBlock = some k

end Go.Proofs.Qxb6618634a.JoinWalk
