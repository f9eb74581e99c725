import Derived.Test.Qxb6618634aRows
import Derived.WalkKit
import Derived.ProofKit
import Derived.WalkLawsBesides
import Derived.OpenShut
import Derived.Deep.MidRow
import Derived.WalkSmall
namespace Go.Proofs.Qxb6618634a.JoinWalk
open Go.ChangeShapes Go.WideShapes Go.ChangeAt Go.RowKit
set_option linter.unusedVariables false
set_option linter.unusedSimpArgs false

theorem hide {p : Prop} (h : p) : Hid p := h
theorem all_one {cs : List Value} (h : cs.all (·.oneCell') = true) : ∀ v ∈ cs, v.oneCell' = true := by simpa using h

/-- a whole struct into a block of its own -/
theorem run_storeVar_row {P : Program} (w : World) (g : Nat) (ty t : TypeId) (Z : Array Value) (cs : List Value) (hg : w.heap[g]? = some (.cells Z t (0, 0))) (hZ : Z.size = cs.length)
    (hi : (P.info? ty).map (·.size) = some cs.length) (h1 : cs.all (·.oneCell') = true) :
    (storeVar ty ⟨g, 0, none⟩ (.agg cs.toArray)).run P w = .ok () (w.setRow g cs.toArray) := by
  have := run_storeCells_at (P := P) g 0 t cs 0 Z w hg (by omega) (all_one h1)
  cases hq : P.info? ty with
  | none => simp [hq] at hi
  | some i =>
    have hs : cs.length = i.size := by simp [hq] at hi; omega
    have hd : Z.toList.drop cs.length = [] := List.drop_eq_nil_of_le (by simp; omega)
    simp only [Nat.add_zero, Nat.zero_add, List.take_zero, List.nil_append, hd, List.append_nil] at this
    simp [storeVar, sizeOf, typeInfo, hq, Value.cells, hs, this]

theorem wpList_store_row {P : Program} {ops : Array Oper} {rest : List Oper} {op : Oper} {a : Act} {w : World} {Q : Exit → Act → World → Prop} (hgd : op.guard = none) (ty : TypeId) (x y : Operand) (ho : op.op = .store ty x y)
    (g : Nat) (t : TypeId) (Z : Array Value) (cs : List Value) (hx : a.eval x = .pointer (some ⟨g, 0, none⟩)) (hy : a.eval y = .agg cs.toArray) (hg : w.heap[g]? = some (.cells Z t (0, 0))) (hZ : Z.size = cs.length)
    (hi : (P.info? ty).map (·.size) = some cs.length) (h1 : cs.all (·.oneCell') = true)
    (h : ∀ w', w'.heap[g]? = some (.cells cs.toArray t (0, 0)) → w.grownBy w' (some g) → w'.heap.size = w.heap.size → wpList P ops Q rest (a.put op.dst undef) w') : wpList P ops Q (op :: rest) a w := by
  refine wpList_plain hgd fun K hK => ?_
  unfold Oper.wp execOp
  simp only [ho, hx, hy, Instr.storeAt, Instr.sureAddr, Sem.run_bind, Sem.run_pure, Result.andThen_ok, run_storeVar_row w g ty t Z cs hg hZ hi h1]
  exact hK _ _ (h _ (setRow_heap w g Z _ t _ hg) ⟨rfl, rfl, rfl, by simp [World.setRow], fun k _ hk => setRow_other w g k _ (fun e => hk (by simp [e]))⟩ (by simp [World.setRow]))

/-- a struct result that lies in a block of its own -/
theorem results_row {P : Program} {fn : Func} {p : Tmp} {ty t : TypeId} (h : fn.results = #[.cell p ty]) (tmps : Array Value) (w : World) (g : Nat) (cs : List Value) (d : TypeDesc)
    (hp : tmps.getD p undef = .pointer (some ⟨g, 0, none⟩)) (hg : w.heap[g]? = some (.cells cs.toArray t (0, 0))) (hu : P.underlying ty = some d) (hd : d.isRow = true) (hi : (P.info? ty).map (·.size) = some cs.length) :
    (results fn tmps).run P w = .ok (.agg cs.toArray) w := by
  have hr : w.rangeAt g 0 cs := by
    have := World.rangeAt_of_block hg 0 cs.length
    simpa using this
  have hl := run_loadVar_mid (P := P) w g 0 ty cs d hr hu hd hi
  rw [Array.getD_eq_getD_getElem?] at hp
  simp [results, h, hp, asAddr, hl]

theorem range_row {w : World} {g : Nat} {cs : List Value} {t : TypeId} {fr : Nat × Nat} (hg : w.heap[g]? = some (.cells cs.toArray t fr)) : w.rangeAt g 0 cs := by
  have := World.rangeAt_of_block hg 0 cs.length
  simpa using this

/-- a store of what is there already -/
theorem below_same {B : Nat} {a w : World} (h : Below B a w) {b o : Nat} {v : Value} (hc : w.cell? ⟨b, o, none⟩ = some v) : Below B a (w.setCell ⟨b, o, none⟩ v) := by
  refine h.trans ⟨rfl, rfl, rfl, by simp [World.setCell], fun k _ => ?_⟩
  by_cases hk : k = b
  · subst hk
    simp only [World.cell?] at hc
    simp only [World.setCell, Array.getElem?_modify, if_true]
    cases hh : w.heap[k]? with
    | none => rfl
    | some ob =>
      rw [hh] at hc
      cases ob <;> simp at hc ⊢
      refine Array.ext (by simp) fun i h1 h2 => ?_
      have h3 := hc
      rw [Array.getElem_setIfInBounds (by simpa using h2)]
      split
      · rename_i e
        subst e
        rw [Array.getElem?_eq_getElem h2] at h3
        exact (Option.some.inj h3).symm
      · rfl
  · exact Below.heap_setCell w _ _ _ hk
end Go.Proofs.Qxb6618634a.JoinWalk
