import Derived.Test.Qxb6618634aGet
import Derived.Test.Qxb6618634aNew
import Derived.Test.Qxb6618634aEq
import Derived.Test.Qxb6618634aZJoin
import Derived.WalkSpells
import Derived.WalkSmall
import Derived.Laws.CopyOwn
import Derived.Deep.DeepCutAuto
import Derived.Deep.LoopGhost
namespace Go.Proofs.Qxb6618634a.JoinWalk
open Go.ChangeShapes Go.WideShapes Go.ChangeAt Go.RowKit Go.Maps
set_option linter.unusedVariables false
set_option linter.unusedSimpArgs false

/-- WHAT THE WALK IS TOLD OF A SLICE OF INTEGERS THAT CAME IN (as the given shell types it). -/
def IsRow (k : IntKind) (w : World) (a : Option Addr) (len cap : Nat) (zs : List Int) : Prop :=
  (a = none ∧ len = 0 ∧ cap = 0 ∧ zs = []) ∨
  ∃ x, a = some x ∧ len ≤ cap ∧ cap ≤ maxLen ∧ zs.length = cap ∧ (∀ i, i < zs.length → w.cell? (x.add i) = some (.int k (zs.getD i 0))) ∧ ∀ n ∈ zs, (Lit.int k n).wf = true

def iv (l : List Int) : List Value := l.map (Value.int .i64)
theorem iv_length (l : List Int) : (iv l).length = l.length := by simp [iv]
theorem iv_at (l : List Int) (j : Nat) (h : j < l.length) : (iv l)[j]? = some (.int .i64 (l.getD j 0)) := by simp [iv, h]

theorem bytes_any (j m : Int) (a b : Option Addr) (n1 c1 n2 c2 : Nat) (w : World) (h1 : n1 ≤ 32768) (h2 : n2 ≤ 65536) :
    Calls Try.prog 9 #[.int .u64 j, .int .i64 m, .slice a n1 c1, .slice b n2 c2] w fun e w' => e = .returned (.bool true) ∧ w = w' := by
  go_enter Try.func9, Try.ntmps9
  go_wp2
  go_ret
  exact ⟨rfl, rfl⟩

theorem info2 : (Try.prog.info? 2).map (fun i => (i.zero, i.size, i.bytes)) = some (some (.int .i64 0), 1, 8) := by kernel_rfl
theorem size2 : (Try.prog.info? 2).map (·.size) = some 1 := by kernel_rfl

/-- what a row of integers that is owned tells of its cells -/
theorem own_ints {w : World} {base n : Nat} {v : Value} {ES : List Int} (h : w.ownsRow base 2 1 v n (iv ES)) :
    ∃ ao g cap, v = .slice ao n cap ∧ (0 < n → ao = some ⟨g, 0, none⟩ ∧ base ≤ g) ∧ (∀ i, i < n → w.cell? ⟨g, i, none⟩ = some (.int .i64 (ES.getD i 0))) := by
  have h0 := h
  obtain ⟨hl, ⟨rfl, rfl⟩ | ⟨g, cap, cur, rfl, hb, hg, hc, hm, hcs, ht⟩⟩ := h
  · exact ⟨none, 0, 0, rfl, by omega, by omega⟩
  · refine ⟨_, g, cap, rfl, fun _ => ⟨rfl, hb⟩, fun i hi => ?_⟩
    rw [h0.cellAt i (by omega), iv_at ES i (by rw [iv_length] at hl; omega)]

theorem below_of_kept {B : Nat} {X : Nat → Prop} {w w1 w2 : World} (h : Below B w w1) (hk : Kept X w1 w2) (hB : B ≤ w1.heap.size) (hx : ∀ k, X k → B ≤ k) : Below B w w2 :=
  ⟨hk.os.trans h.os, hk.tape.trans h.tape, hk.output.trans h.output, Nat.le_trans h.size hk.size, fun k hlt => (hk.block k (by omega) (fun e => by have := hx k e; omega)).trans (h.block k hlt)⟩

theorem ownsRow_kept {X : Nat → Prop} {w w' : World} {base s n : Nat} {e : TypeId} {v : Value} {xs : List Value} (h : w.ownsRow base e s v n xs) (hk : Kept X w w') (hx : ∀ k, v.ownBlock = some k → ¬ X k) : w'.ownsRow base e s v n xs := by
  obtain ⟨hl, h1 | ⟨g, cap, cur, rfl, hb, hg, hc⟩⟩ := h
  · exact ⟨hl, .inl h1⟩
  · exact ⟨hl, .inr ⟨g, cap, cur, rfl, hb, (hk.block g (lt_of_some hg) (hx g rfl)).trans hg, hc⟩⟩

theorem ownsMap_kept {X : Nat → Prop} {w w' : World} {R : Value → Option (DataW Unit × List MemPlace)} {b n : Nat} {D : DataW Unit} (h : w.ownsMap Try.prog 2 R b n D) (hk : Kept X w w') (hx : ¬ X b) : w'.ownsMap Try.prog 2 R b n D := by
  have hlt := h.lt
  obtain ⟨es, clock, hb, F, hs, hD⟩ := h
  exact ⟨es, clock, (hk.block b hlt hx).trans hb, F, hs, hD⟩

theorem St.rebase {w : World} {N PM EM lb nE : Nat} {Z : Array Value} {j0 m : Int} {DP DE : DataW Unit} (h : St w N PM EM lb Z (.slice none 0 0) j0 m [] nE DP DE) (lb' : Nat) (h1 : N < lb') (h2 : lb' ≤ w.heap.size) : St w N PM EM lb' Z (.slice none 0 0) j0 m [] nE DP DE :=
  { h with hL := World.ownsRow_nil _ _ _ _, lt := h1, le := h2 }

theorem wpList_neq_agg {P : Program} {ops : Array Oper} {rest : List Oper} {op : Oper} {a : Act} {w : World} {Q : Exit → Act → World → Prop} (hgd : op.guard = none) (t t' : TypeId) (x y : Operand) (ho : op.op = .binOp .neq t x y t') (xs ys : Array Value) (v : Value)
    (hx : a.eval x = .agg xs) (hy : a.eval y = .agg ys) (hm : P.eqGuardType P.depth t = false) (hrun : (binOp .neq t (.agg xs) (.agg ys)).run P w = .ok v w) (h : wpList P ops Q rest (a.put op.dst v) w) : wpList P ops Q (op :: rest) a w := by
  refine wpList_plain hgd fun K hK => ?_
  unfold Oper.wp execOp
  simp only [ho, hx, hy, Sem.run_bind, run_eqGuard_agg (w := w) .neq t x y xs ys hm, Result.andThen_ok, hrun]
  exact hK _ _ h
theorem quiet_neq_agg {P : Program} {o : Oper} {a : Act} {C : World → Prop} {K : Act → Prop} (t t' : TypeId) (x y : Operand) (ho : o.op = .binOp .neq t x y t') (xs ys : Array Value) (v : Value)
    (hx : a.eval x = .agg xs) (hy : a.eval y = .agg ys) (hm : P.eqGuardType P.depth t = false) (hrun : ∀ w, (binOp .neq t (.agg xs) (.agg ys)).run P w = .ok v w) (hk : K (a.put o.dst v)) : o.quiet P a C K := by
  refine ⟨_, fun w hw => ?_, hk⟩
  unfold Oper.quietAt execOp
  simp only [ho, hx, hy, Sem.run_bind, run_eqGuard_agg (w := w) .neq t x y xs ys hm, Result.andThen_ok, hrun w]
  exact ⟨rfl, rfl⟩
theorem guard46 : Try.prog.eqGuardType Try.prog.depth 46 = false := by kernel_rfl
theorem guard56 : Try.prog.eqGuardType Try.prog.depth 56 = false := by kernel_rfl

theorem getD_ok {l : List Int} (h : ∀ x ∈ l, okI x) (i : Nat) : okI (l.getD i 0) := by
  by_cases hi : i < l.length
  · exact h _ (getD_mem hi)
  · rw [List.getD_eq_getElem?_getD, List.getElem?_eq_none (by omega)]; show okI 0; unfold okI; decide

theorem row_ok {w : World} {a : Option Addr} {n c : Nat} {zs : List Int} (h : IsRow .i64 w a n c zs) : ∀ x ∈ zs, okI x := by
  rcases h with ⟨_, _, _, rfl⟩ | ⟨_, _, _, _, _, _, h⟩
  · intro x hx; cases hx
  · exact h

theorem St.kept {w w' : World} {N PM EM lb nE r : Nat} {Z : Array Value} {sl : Value} {j0 m : Int} {seen : List Int} {DP DE : DataW Unit} (h : St w N PM EM lb Z sl j0 m seen nE DP DE) (hg : w.grownBy w' (some r)) (h1 : r ≠ N) (h2 : r ≠ PM) (h3 : r ≠ EM) (h4 : r < lb) : St w' N PM EM lb Z sl j0 m seen nE DP DE :=
  { h with
    hN := blk hg h.hN (by simpa using fun e => h1 e.symm)
    hP := h.hP.kept hg (by simpa using fun e => h2 e.symm)
    hE := h.hE.kept hg (by simpa using fun e => h3 e.symm)
    hL := h.hL.kept hg (.inr (fun e => by have := (h.hL.lt _ e).1; omega))
    le := Nat.le_trans h.le hg.size }

/-- where the blocks lie to each other -/
structure Lay (B B0 N PM EM RM O : Nat) (v2 : Value) : Prop where
  b0 : B ≤ B0
  pm : PM = B0
  em : EM = B0 + 1
  nn : N = B0 + 2
  rm : B0 + 3 ≤ RM
  oo : O = RM + 1
  ex : ∀ k, v2.ownBlock = some k → k < B0

/-- what holds ahead of each round of the first loop, and behind it -/
structure Inv (w wr : World) (N PM EM RM O : Nat) (j0 m0 : Int) (n1 n2 : Nat) (ES : List Int) (v2 : Value) (seen : List Int) : Prop where
  st : ∃ Z sl DP DE E, St wr N PM EM (O + 1) Z sl j0 (max m0 (seen.length : Nat)) seen n1 DP DE ∧ Keys DE E ∧ (∀ x, x ∈ E ↔ x ∈ ES ∧ x ∉ seen)
  own : wr.ownsRow w.heap.size 2 1 (.slice (some ⟨O, 0, none⟩) seen.length n2) seen.length (iv seen)
  rk : ∃ DR, wr.ownsMap Try.prog 2 (plainElem Try.prog 29) RM seen.length DR ∧ Ranks DR .u64 seen
  nd : seen.Nodup
  ok : ∀ x ∈ seen, okI x
  exp : wr.ownsRow w.heap.size 2 1 v2 n1 (iv ES)
  bel : Below w.heap.size w wr

theorem Inv.below {w wr wr' : World} {N PM EM RM O n1 n2 : Nat} {j0 m0 : Int} {ES : List Int} {v2 : Value} {seen : List Int} (h : Inv w wr N PM EM RM O j0 m0 n1 n2 ES v2 seen) (hb : Below wr.heap.size wr wr') : Inv w wr' N PM EM RM O j0 m0 n1 n2 ES v2 seen := by
  obtain ⟨Z, sl, DP, DE, E, h1, h2, h3⟩ := h.st
  obtain ⟨DR, h4, h5⟩ := h.rk
  exact { h with
    st := ⟨Z, sl, DP, DE, E, h1.below hb, h2, h3⟩
    own := h.own.kept (grown_of_below hb) (by simp [Value.ownBlock])
    rk := ⟨DR, ownsMap_below h4 hb, h5⟩
    exp := h.exp.kept (grown_of_below hb) (by cases v2.ownBlock <;> simp)
    bel := h.bel.trans (hb.mono h.bel.size) }

/-- a new id: rank and order have it already; then the join -/
theorem Inv.joined {w wr w1 w2 w3 : World} {N PM EM RM O n1 n2 B0 : Nat} {j0 m0 : Int} {ES : List Int} {v2 : Value} {seen : List Int} {id : Int} {DR : DataW Unit} {Z' : Array Value} {sl sl' : Value} {DP' DE : DataW Unit} {E : List Int}
    (h : Inv w wr N PM EM RM O j0 m0 n1 n2 ES v2 seen) (L : Lay w.heap.size B0 N PM EM RM O v2) (hnew : id ∉ seen) (hid : okI id)
    (hD : Ranks DR .u64 seen) (hT : Tidy DR) (hK : Keys DE E) (hE : ∀ x, x ∈ E ↔ x ∈ ES ∧ x ∉ seen) (hL : ∀ k, sl.ownBlock = some k → O + 1 ≤ k)
    (hR1 : w1.ownsMap Try.prog 2 (plainElem Try.prog 29) RM (seen.length + 1) (DR.put (kl id) (.lit (.int .u64 (seen.length : Nat))))) (hg1 : wr.grownBy w1 (some RM))
    (hO2 : w2.ownsRow w.heap.size 2 1 (.slice (some ⟨O, 0, none⟩) (seen.length + 1) n2) (seen.length + 1) (iv seen ++ [.int .i64 id])) (hg2 : w1.grownBy w2 (some O))
    (hS : St w3 N PM EM (O + 1) Z' sl' j0 (max (max m0 (seen.length : Nat)) (seen.length + 1 : Nat)) (seen ++ [id]) n1 DP' (DE.del (kl id))) (hk : Kept (XX N PM EM sl) w2 w3) :
    Inv w w3 N PM EM RM O j0 m0 n1 n2 ES v2 (seen ++ [id]) := by
  have hb0 := L.b0
  have e1 := L.pm
  have e2 := L.em
  have e3 := L.nn
  have e4 := L.rm
  have e5 := L.oo
  have xR : ¬ XX N PM EM sl RM := by
    rintro (h | h | h | h)
    · omega
    · omega
    · omega
    · have := hL _ h; omega
  have xO : ¬ XX N PM EM sl O := by
    rintro (h | h | h | h)
    · omega
    · omega
    · omega
    · have := hL _ h; omega
  have xE : ∀ k, v2.ownBlock = some k → ¬ XX N PM EM sl k := by
    intro k hk
    have := L.ex k hk
    rintro (h | h | h | h)
    · omega
    · omega
    · omega
    · have := hL _ h; omega
  have len : (seen ++ [id]).length = seen.length + 1 := by simp
  have hB2 : Below w.heap.size w w2 := (h.bel.grown hg1 h.bel.size (by rintro k e; cases e; omega)).grown hg2 (Nat.le_trans h.bel.size hg1.size) (by rintro k e; cases e; omega)
  refine { st := ⟨Z', sl', DP', _, _, ?_, hK.del id, ?_⟩, own := ?_, rk := ⟨_, ?_, hD.snoc hT hnew⟩, nd := ?_, ok := ?_, exp := ?_, bel := ?_ }
  · have e : max (max m0 ((seen.length : Nat) : Int)) ((seen.length + 1 : Nat) : Int) = max m0 (((seen ++ [id]).length : Nat) : Int) := by rw [len]; omega
    rw [e] at hS
    exact hS
  · intro x
    rw [hK.2.2.1.mem_erase_iff, hE x]
    simp only [List.mem_append, List.mem_singleton, not_or]
    constructor
    · rintro ⟨h1, h2, h3⟩; exact ⟨h2, h3, h1⟩
    · rintro ⟨h2, h3, h1⟩; exact ⟨h1, h2, h3⟩
  · rw [len, show iv (seen ++ [id]) = iv seen ++ [.int .i64 id] by simp [iv]]
    exact ownsRow_kept hO2 hk (by intro k e; simp [Value.ownBlock] at e; subst e; exact xO)
  · rw [len]
    exact ownsMap_kept (hR1.kept hg2 (by simp; omega)) hk xR
  · exact List.nodup_append.2 ⟨h.nd, by simp, by intro a ha b hb; simp at hb; subst hb; exact fun e => hnew (e ▸ ha)⟩
  · intro x hx
    rcases List.mem_append.1 hx with h1 | h1
    · exact h.ok x h1
    · simp at h1; subst h1; exact hid
  · refine ownsRow_kept ((h.exp.kept hg1 (.inr ?_)).kept hg2 (.inr ?_)) hk xE
    · intro e; have := L.ex _ e; omega
    · intro e; have := L.ex _ e; omega
  · refine below_of_kept hB2 hk hB2.size ?_
    rintro k (h | h | h | h)
    · omega
    · omega
    · omega
    · have := hL _ h; omega

theorem Inv.kept_map {w wr wr' : World} {N PM EM RM O n1 n2 B0 KM n : Nat} {j0 m0 : Int} {ES : List Int} {v2 : Value} {seen : List Int} {R : Value → Option (DataW Unit × List MemPlace)} {D : DataW Unit}
    (h : Inv w wr N PM EM RM O j0 m0 n1 n2 ES v2 seen) (L : Lay w.heap.size B0 N PM EM RM O v2) (hK : O < KM) (hm : wr.ownsMap Try.prog 2 R KM n D) (hg : wr.grownBy wr' (some KM)) : Inv w wr' N PM EM RM O j0 m0 n1 n2 ES v2 seen := by
  have hb0 := L.b0
  have e1 := L.pm
  have e2 := L.em
  have e3 := L.nn
  have e4 := L.rm
  have e5 := L.oo
  obtain ⟨Z, sl, DP, DE, E, h1, h2, h3⟩ := h.st
  obtain ⟨DR, h4, h5⟩ := h.rk
  refine { h with
    st := ⟨Z, sl, DP, DE, E, ?_, h2, h3⟩
    own := h.own.kept hg (.inr (by simp [Value.ownBlock]; omega))
    rk := ⟨DR, h4.kept hg (by simp; omega), h5⟩
    exp := h.exp.kept hg (.inr (fun e => by have := L.ex _ e; omega))
    bel := h.bel.grown hg h.bel.size (by rintro k e; cases e; omega) }
  exact { h1 with
    hN := blk hg h1.hN (by simp; omega)
    hP := h1.hP.kept hg (by simp; omega)
    hE := h1.hE.kept hg (by simp; omega)
    hL := h1.hL.kept hg (map_ne_list hm h1.hL)
    le := Nat.le_trans h1.le hg.size }

theorem grown_alloc {w w' : World} {o : Obj} {row : Option Nat} (h : (w.alloc o).grownBy w' row) : w.grownBy w' row :=
  ⟨h.os, h.tape, h.output, Nat.le_trans (by simp) h.size, fun k hk hne => (h.block k (by simp; omega) hne).trans (Below.heap_alloc w o k hk)⟩

theorem ju_wrap (j0 : Int) (n : Nat) : IntKind.u64.wrap (j0 + n) = ju j0 n := by rw [wrapU]; rfl

theorem getD_inj : ∀ {l : List Int}, l.Nodup → ∀ {i k : Nat}, i < l.length → k < l.length → l.getD k 0 = l.getD i 0 → k = i := by
  intro l hn i k hi hk e
  simp only [List.getD_eq_getElem?_getD, List.getElem?_eq_getElem hi, List.getElem?_eq_getElem hk, Option.getD_some] at e
  rcases Nat.lt_trichotomy k i with h | h | h
  · exact absurd e (List.pairwise_iff_getElem.1 hn k i hk hi h)
  · exact h
  · exact absurd e.symm (List.pairwise_iff_getElem.1 hn i k hi hk h)

/-- what a look-up in 'rank' gives -/
theorem rank_look {w : World} {RM n : Nat} {DR : DataW Unit} {seen : List Int} (h : w.ownsMap Try.prog 2 (plainElem Try.prog 29) RM n DR) (hr : Ranks DR .u64 seen) {id : Int} (hid : okI id) :
    ∃ c : Int, (Instr.lookup 37 (.map (some RM)) (.int .i64 id) true).run Try.prog w = .ok (.tuple #[.int .u64 c, .bool (decide (id ∈ seen))]) w ∧ ∀ i, i < seen.length → seen.getD i 0 = id → c = i := by
  obtain ⟨v, ps, hrun, hv⟩ := h.look_ok law2 under37 (zero29 w) (plainElem_int Try.underlying29 (by decide)) (kl_key hid)
  obtain ⟨c, rfl, hc, hwc⟩ := plainElem_int_inv Try.underlying29 hv
  refine ⟨c, ?_, fun i hi e => ?_⟩
  · rw [hrun, hr.2.1]
  · have h1 := hr.1 i hi (.lit (.int .u64 0))
    rw [e] at h1
    have h2 := congrArg Prod.fst hc
    simp only at h2
    rw [h1] at h2
    simpa using h2.symm

set_option maxRecDepth 100000 in
set_option maxHeartbeats 8000000 in
theorem walkMain (j0 m0 : Int) (a1 : Option Addr) (n1 c1 : Nat) (z1 : List Int) (a2 : Option Addr) (n2 c2 : Nat) (z2 : List Int) (w : World)
    (hj : 0 ≤ j0 ∧ j0 < 18446744073709551616) (hm : 0 ≤ m0 ∧ m0 < 9223372036854775808) (h1 : n1 ≤ 32768) (h2 : n2 ≤ 65536) (hj1 : (n1 : Int) ≤ j0) (hm1 : 0 < n1 → 1 ≤ m0)
    (r1 : IsRow .i64 w a1 n1 c1 z1) (r2 : IsRow .i64 w a2 n2 c2 z2) :
    Calls Try.prog 4 #[.int .u64 j0, .int .i64 m0, .slice a1 n1 c1, .slice a2 n2 c2] w fun e w' => e = .returned (.bool true) ∧ Below w.heap.size w w' := by
  obtain ⟨i0, hi, hz0, hz1, hz2⟩ := info_parts info2
  have HR1 := hide r1
  have HR2 := hide r2
  have HJ := hide hj
  have HM := hide hm
  have wl : IntKind.u64.wrap (n1 : Int) = n1 := by simp [IntKind.wrap, IntKind.bits, IntKind.signed]; omega
  have nm : ¬ m0 < 0 := by omega
  have HM1 := hide hm1
  clear r1 r2 hj hm hm1
  go_enter Try.func4, Try.ntmps4
  obtain ⟨ES, HES⟩ : ∃ ES, Hid (ES = z1.take n1) := ⟨_, rfl⟩
  have HEL : Hid (ES.length = n1) := by
    show _ = _
    rw [HES.out]
    rcases HR1.out with ⟨_, rfl, _, rfl⟩ | ⟨x, _, h1, _, h3, _⟩
    · rfl
    · simp; omega
  go_upto_region 11 with (go_at_call 9; refine (bytes_any _ _ _ _ _ _ _ _ _ h1 h2).mono ?_; rintro e1 w1 ⟨rfl, rfl⟩)
  go_cut [51] (fun s wc => s = .bool false ∧ w = wc)
  case first =>
    as_aux_lemma =>
    by_cases hn0 : 0 < n1
    · have hm1 : ¬ m0 < 1 := by have := HM1.out hn0; omega
      go_wp2
      go_meet
      case rel => exact ⟨by simp, rfl⟩
    · go_wp2
      go_meet
      case rel => exact ⟨rfl, rfl⟩
  case rest =>
    as_aux_lemma =>
    obtain ⟨rfl, rfl⟩ := hcut
    go_upto_region 13 with fail
    go_cut [53] (fun s wc => s = .bool a1.isSome ∧ w = wc)
    case first =>
      as_aux_lemma =>
      cases a1
      · go_wp2
        go_meet
        case rel => exact ⟨rfl, rfl⟩
      · go_wp2
        go_meet
        case rel => exact ⟨rfl, rfl⟩
    case rest =>
      as_aux_lemma =>
      obtain ⟨rfl, rfl⟩ := hcut
      go_upto_if 53 with fail
      go_cut [2, 9] (fun v2 v9 wc => Below w.heap.size w wc ∧ Hid (wc.ownsRow w.heap.size 2 1 v2 n1 (iv ES)))
      case first =>
        as_aux_lemma =>
        rcases HR1.out with ⟨rfl, rfl, rfl, rfl⟩ | ⟨x, rfl, hlc, hcm, hzl, hc, _⟩
        · go_wp2
          go_meet
          case rel => exact ⟨Below.refl _ _, by rw [HES.out]; exact World.ownsRow_nil _ _ _ _⟩
        · have hcs : ∀ j v, (iv ES)[j]? = some v → w.cell? (x.add j) = some v := by
            intro j v hj
            rw [HES.out] at hj
            simp only [iv, List.getElem?_map, List.getElem?_take, Option.map_eq_some_iff] at hj
            obtain ⟨u, hu, rfl⟩ := hj
            by_cases hjl : j < n1
            · rw [if_pos hjl] at hu
              have hjz : j < z1.length := by omega
              rw [hc j hjz]
              simp [hu]
            · rw [if_neg hjl] at hu; cases hu
          have HC := hide hcs
          have HM2 : Hid ((iv ES).length = n1) := by show _ = _; rw [iv_length, HEL.out]
          clear hcs hc hzl
          obtain ⟨cs, Hcs⟩ : ∃ cs : List Value, Hid (cs = iv ES) := ⟨_, rfl⟩
          rw [← Hcs.out] at HC HM2
          go_wp2_with (at_make; refine wpList_make_full _ rfl _ _ 33 rfl w.heap.size 2 i0 (.int .i64 0) 1 Try.underlying33 hi hz0 hz1 _ _ _ _ n1 rfl rfl rfl rfl ?_ ?_ ?_ ?_)
          · rw [hz2]; omega
          · unfold maxLen; omega
          · exact Nat.le_refl _
          intro w1 hown1 hgrow1
          rw [toList_madeCells_one] at hown1
          obtain ⟨-, hh⟩ := hown1
          have hh1 : w1.heap[w.heap.size]? = some (.cells (List.replicate n1 (Value.int .i64 0)).toArray 2 (0, 0)) := by
            rcases hh with ⟨hh, _⟩ | ⟨g, cp, cur, hv, _, hg, _, _, hsz, ht⟩
            · simp at hh
            · simp only [Value.slice.injEq, Option.some.injEq, Addr.mk.injEq, and_true, true_and] at hv
              obtain ⟨rfl, rfl⟩ := hv
              rw [hg, ← ht, List.take_of_length_le (by simp; omega)]
          have hb1 : Below w.heap.size w w1 := (Below.refl _ _).grown hgrow1 (Nat.le_refl _) (by simp)
          have HC1 : Hid (∀ j v, cs[j]? = some v → w1.cell? (x.add j) = some v) := by
            intro j v hj
            exact hgrow1.cell (HC.out j v hj) (by simp)
          have HH1 := hide hh1
          clear hh hgrow1 hh1
          go_wp2_with (first
            | (refine wpList_copy_splice rfl (.tmp 57) (.tmp 58) 33 33 rfl 2 Try.underlying33 size2 _ _ _ _ _ _ rfl rfl w.heap.size 0 (List.replicate n1 (Value.int .i64 0)) 2 HH1.out cs (HM2.out.trans (Nat.min_self n1).symm) ?_ ?_ ?_ w.heap.size w hb1 (Nat.le_refl _) ?_))
          · intro _; exact HC1.out
          · have := HM2.out; simp; omega
          · rw [Hcs.out]; exact ints_oneCell _ _
          intro w2 HG2 hB2
          have hsp : splice (List.replicate n1 (Value.int .i64 0)) 0 cs = cs := by
            have := HM2.out; unfold splice; simp; omega
          have hcl : cs.length = n1 := HM2.out
          have hown2 : w2.ownsRow w.heap.size 2 1 (.slice (some ⟨w.heap.size, 0, none⟩) n1 n1) n1 cs :=
            ⟨by omega, .inr ⟨w.heap.size, n1, cs.toArray, rfl, Nat.le_refl _, by rw [HG2.out, hsp], Nat.le_refl _, by unfold maxLen; omega, by simp; omega, by rw [List.toList_toArray]; exact List.take_of_length_le (by omega)⟩⟩
          have HOW := hide hown2
          clear HC1 HH1 HG2 hsp hcl hb1 hown2
          go_wp2
          go_meet
          case rel => exact ⟨hB2, by rw [← Hcs.out]; exact HOW.out⟩
      case rest =>
        as_aux_lemma =>
        obtain ⟨hB, HO⟩ := hcut
        obtain ⟨ao, g, cap, rfl, hao, hcg⟩ := own_ints HO.out
        have hmm := @run_makeMap Try.prog
        go_wp2_with fail
        refine (new_row j0 m0 ao g n1 cap ES wc h1 HEL.out HJ.out (fun h => (hao h).1) hcg (getD_ok (fun x hx => row_ok HR1.out x (by rw [HES.out] at hx; exact List.mem_of_mem_take hx)))).mono ?_
        rintro e W1 ⟨rfl, Z, DE, E, hS, hK, hE, hB1⟩
        have HS := hide hS
        have HK := hide hK
        have HE := hide hE
        have HB := hide (hB.trans (hB1.mono hB.size))
        have HO1 := hide (HO.out.kept (grown_of_below hB1) (by cases (Value.slice ao n1 cap).ownBlock <;> simp))
        have hWs := hB.size
        clear hS hK hE hcg hao
        go_wp2_with (at_make; refine wpList_make_own _ rfl _ _ 33 rfl w.heap.size 2 i0 (.int .i64 0) 1 Try.underlying33 hi hz0 hz1 _ _ _ n2 rfl rfl rfl ?_ ?_ ?_ ?_)
        · rw [hz2]; omega
        · unfold maxLen; omega
        · have := HB.out.size; simp; omega
        intro W2 hown hgr
        obtain ⟨v2, Hv2⟩ : ∃ v2, Hid (v2 = Value.slice ao n1 cap) := ⟨_, rfl⟩
        have LY : Hid (Lay w.heap.size wc.heap.size (wc.heap.size + 2) wc.heap.size (wc.heap.size + 1) W1.heap.size (W1.heap.size + 1) v2) :=
          { b0 := hWs, pm := rfl, em := rfl, nn := rfl, rm := HS.out.le, oo := rfl
            ex := by rw [Hv2.out]; exact fun k e => (HO.out.lt k e).2 }
        have hbm : Below W1.heap.size W1 W2 := ((Below.refl _ _).alloc (Nat.le_refl _) _).grown hgr (by simp) (by simp)
        have hmk : W2.ownsMap (H := Unit) Try.prog 2 (plainElem Try.prog 29) W1.heap.size 0 (.map []) := (World.ownsMap_made W1 _ _ _).kept hgr (by simp)
        have hsz2 : W1.heap.size + 2 ≤ W2.heap.size := by
          have h1 := (hown.lt (W1.heap.size + 1) rfl).2
          omega
        have INV : Hid (Inv w W2 (wc.heap.size + 2) wc.heap.size (wc.heap.size + 1) W1.heap.size (W1.heap.size + 1) j0 m0 n1 n2 ES v2 []) :=
          { st := ⟨Z, _, _, DE, E, by
              have h1 := (HS.out.below hbm).rebase (W1.heap.size + 1 + 1) (by have := HS.out.le; omega) hsz2
              rw [show max m0 ((([] : List Int).length : Nat) : Int) = m0 by have := HM.out; simp; omega]
              exact h1, HK.out, fun x => by rw [HE.out x]; simp⟩
            own := hown, rk := ⟨_, hmk, Ranks.nil _⟩, nd := List.nodup_nil, ok := by intro x hx; cases hx
            exp := by rw [Hv2.out]; exact HO1.out.kept (grown_of_below hbm) (by cases (Value.slice ao n1 cap).ownBlock <;> simp)
            bel := HB.out.trans (hbm.mono HB.out.size) }
        rw [← Hv2.out]
        obtain ⟨PM, HPM⟩ : ∃ PM, Hid (PM = wc.heap.size) := ⟨_, rfl⟩
        obtain ⟨RM, HRM⟩ : ∃ RM, Hid (RM = W1.heap.size) := ⟨_, rfl⟩
        rw [← HPM.out, ← HRM.out] at INV LY
        rw [← HPM.out, ← HRM.out]
        clear hown hgr hbm hmk hsz2 HS HK HE HB HO1 hWs hB hB1 HO
        go_wp2
        go_loopw [12, 13] (fun v12 v13 wr => ∃ (q : Nat) (seen : List Int), q ≤ n2 ∧ v13 = .int .i64 q ∧ v12 = .slice (some ⟨RM + 1, 0, none⟩) seen.length n2 ∧ seen.length ≤ q ∧ Hid (Inv w wr (PM + 2) PM (PM + 1) RM (RM + 1) j0 m0 n1 n2 ES v2 seen)) (fun _ v13 _ => n2 - (intOf v13).toNat)
        case atStart => exact ⟨0, [], Nat.zero_le _, rfl, rfl, Nat.zero_le _, INV⟩
        case round =>
          obtain ⟨q, seen, hq, rfl, rfl, hsq, HI⟩ := hrel
          by_cases hlt : q < n2
          · obtain ⟨x, ex, hqz, hcx⟩ : ∃ x, a2 = some x ∧ q < z2.length ∧ w.cell? (x.add q) = some (.int .i64 (z2.getD q 0)) := by
              rcases HR2.out with ⟨_, h, _⟩ | ⟨x, h, h3, _, h4, h5, _⟩
              · omega
              · exact ⟨x, h, by omega, h5 q (by omega)⟩
            subst ex
            have okid : okI (z2.getD q 0) := getD_ok (row_ok HR2.out) q
            have cq : wr.cell? (x.add q) = some (.int .i64 (z2.getD q 0)) := (HI.out.bel.cell (block_lt_of_cell hcx)).trans hcx
            generalize z2.getD q 0 = id at *
            obtain ⟨Z, sl, DP, DE, E, hst, hks, hke⟩ := HI.out.st
            obtain ⟨DR, hrk, hrr⟩ := HI.out.rk
            obtain ⟨c, hrun, hc⟩ := rank_look hrk hrr okid
            have HST := hide hst
            have HKS := hide hks
            have HKE := hide hke
            have HRK := hide hrk
            have HRR := hide hrr
            have OK := hide okid
            have hq2 : (q : Int) < (n2 : Int) := by omega
            clear hst hks hke hrk hrr hcx okid
            by_cases hin : id ∈ seen
            · as_aux_lemma =>
              have hd : decide (id ∈ seen) = true := by simpa using hin
              rw [hd] at hrun
              obtain ⟨i, hil, hie⟩ := place_of hin
              obtain rfl := hc i hil hie
              obtain ⟨j, hj⟩ : ∃ j, j = ju j0 i := ⟨_, rfl⟩
              have wj : IntKind.u64.wrap (j0 + (i : Int)) = j := by rw [hj, ju_wrap]
              have HJ' := hide hj
              have HIL := hide hil
              have HIE := hide hie
              have HU : Hid (∀ k, k < seen.length → seen.getD k 0 = id → k = i) := fun k hk e => getD_inj HI.out.nd hil hk (e.trans hie.symm)
              clear hc hd hj hil hie
              go_wp2_with fail
              refine (zjoin_found HST.out OK.out i HIL.out HIE.out HU.out).mono ?_
              rintro e w1 ⟨rfl, hb1⟩
              rw [← HJ'.out]
              go_wp2_with fail
              refine (fresh_any id j w1).mono ?_
              rintro e w2 ⟨rfl, hb2⟩
              go_wp2_with (refine wpList_neq_agg rfl 46 46 (.tmp 99) (.tmp 104) rfl (inst id j) (inst id j) (.bool false) rfl rfl guard46 (neq46 id j _) ?_)
              go_roundw
              case rel => exact ⟨q + 1, seen, by omega, by go_num, rfl, by omega, (HI.out.below hb1).below hb2⟩
              case measure => simp [intOf]; omega
            · as_aux_lemma =>
              have hd : decide (id ∈ seen) = false := by simpa using hin
              rw [hd] at hrun
              have wn : IntKind.u64.wrap ((seen.length : Nat) : Int) = (seen.length : Nat) := by simp [IntKind.wrap, IntKind.bits, IntKind.signed]; omega
              obtain ⟨j, hj⟩ : ∃ j, j = ju j0 seen.length := ⟨_, rfl⟩
              have wj : IntKind.u64.wrap (j0 + ((seen.length : Nat) : Int)) = j := by rw [hj, ju_wrap]
              have HJ' := hide hj
              have HNI := hide hin
              clear hc hd hj hin
              go_wp2_with (at_mapUpdate; refine wpList_mapUpdate_own _ rfl _ _ _ 37 rfl 2 29 law2 under37 _ RM seen.length DR rfl HRK.out (by unfold maxLen; omega) _ _ (kl id) rfl rfl (kl_key OK.out) (.lit (.int .u64 (seen.length : Nat))) [] (plainElem_int Try.underlying29 (by simp [Lit.wf, IntKind.min, IntKind.max, IntKind.signed, IntKind.bits]; omega)) ?_)
              intro w1 hR1 hg1
              have HR1' := hide hR1
              have HG1 := hide hg1
              have hOw : Hid (∀ o, (w1.alloc o).ownsRow w.heap.size 2 1 (.slice (some ⟨RM + 1, 0, none⟩) seen.length n2) seen.length (iv seen)) := fun o => (HI.out.own.kept hg1 (.inr (by simp [Value.ownBlock]))).alloc o
              clear hR1 hg1 hrun
              go_wp2_with (at_builtin; refine wpList_append_fits _ rfl (.tmp 93) (.tmp 95) 33 rfl w.heap.size 2 i0 1 Try.underlying33 hi hz1 (RM + 1) seen.length n2 (iv seen) rfl (hOw.out _) ⟨w1.heap.size, 0, none⟩ 1 1 [.int .i64 id] rfl rfl (cell_one_new _ _ _) ?_ ?_ ?_)
              · intro u hu; simp at hu; subst hu; rfl
              · omega
              intro w2 hO2 hg2
              have HG2 := hide (grown_alloc hg2)
              have HO2 := hide hO2
              have NE : Hid (RM ≠ PM + 2 ∧ RM ≠ PM ∧ RM ≠ PM + 1) := by have h1 := LY.out.rm; exact ⟨by omega, by omega, by omega⟩
              have S2 : Hid (St w2 (PM + 2) PM (PM + 1) (RM + 1 + 1) Z sl j0 (max m0 (seen.length : Nat)) seen n1 DP DE) := by
                have h1 := NE.out
                have h2 := LY.out.rm
                exact (HST.out.kept HG1.out h1.1 h1.2.1 h1.2.2 (by omega)).kept HG2.out (by omega) (by omega) (by omega) (by omega)
              clear hg2 hO2
              go_wp2_with fail
              refine (zjoin_new S2.out OK.out HNI.out (by omega)).mono ?_
              rintro e w3 ⟨rfl, Z', sl', DP', hS3, hK3⟩
              rw [← HJ'.out]
              have I3 := hide (HI.out.joined LY.out HNI.out OK.out HRR.out (HRK.out.tidy law2) HKS.out HKE.out (fun k e => (S2.out.hL.lt k e).1) HR1'.out HG1.out HO2.out HG2.out hS3 hK3)
              clear hS3 hK3
              go_wp2_with fail
              refine (fresh_any id j w3).mono ?_
              rintro e w4 ⟨rfl, hb4⟩
              go_wp2_with (refine wpList_neq_agg rfl 46 46 (.tmp 99) (.tmp 104) rfl (inst id j) (inst id j) (.bool false) rfl rfl guard46 (neq46 id j _) ?_)
              go_roundw
              case rel => exact ⟨q + 1, seen ++ [id], by omega, by go_num, by simp, by simp; omega, I3.out.below hb4⟩
              case measure => simp [intOf]; omega
          · as_aux_lemma =>
            have HNN : Hid (seen.length ≤ 65536) := by have := hsq; show _ ≤ _; omega
            go_wp2_with fail
            clear hlt hsq hq
            obtain ⟨Z, sl, DP, DE, E, hst, hks, hke⟩ := HI.out.st
            have HST := hide hst
            have HKS := hide hks
            have HKE := hide hke
            clear hst hks hke
            refine (listLen_row HST.out).mono ?_
            rintro e w1 ⟨rfl, rfl⟩
            go_wp2_with fail
            refine (posLen_row HST.out).mono ?_
            rintro e w1 ⟨rfl, rfl⟩
            have hNN := HNN.out
            go_wp2
            clear HST HKS HKE
            go_loopw [18] (fun v18 wt => ∃ k : Nat, k ≤ seen.length ∧ v18 = .int .i64 k ∧ Hid (Inv w wt (PM + 2) PM (PM + 1) RM (RM + 1) j0 m0 n1 n2 ES v2 seen)) (fun v18 _ => seen.length - (intOf v18).toNat)
            case atStart => exact ⟨0, Nat.zero_le _, rfl, HI⟩
            case round =>
              obtain ⟨k, hk, rfl, HI2⟩ := hrel
              by_cases hlk : k < seen.length
              · as_aux_lemma =>
                obtain ⟨Z, sl, DP, DE, E, hst, hks, hke⟩ := HI2.out.st
                obtain ⟨id, HID⟩ : ∃ id, Hid (id = seen.getD k 0) := ⟨_, rfl⟩
                obtain ⟨j, HJ'⟩ : ∃ j, Hid (j = ju j0 k) := ⟨_, rfl⟩
                have wk : IntKind.u64.wrap (k : Int) = k := by simp [IntKind.wrap, IntKind.bits, IntKind.signed]; omega
                have wj : IntKind.u64.wrap (j0 + (k : Int)) = j := by rw [HJ'.out, ju_wrap]
                have ck : wr.cell? ⟨RM + 1, k, none⟩ = some (.int .i64 id) := by
                  rw [HI2.out.own.cellAt k (by omega), iv_at seen k hlk, HID.out]
                have kk := cell_regrown ck
                have c15 : Hid (∀ d os, Calls Try.prog 15 #[.pointer (some ⟨PM + 2, 0, none⟩), .int .i64 (k : Nat)] (Sort.grow (redrawn wr d) os) fun e w'' => e = .returned (.agg (inst id j)) ∧ ∃ p : Regrown, w'' = Sort.grow (redrawn wr p.d) p.os) := by
                  intro d os
                  rw [HID.out, HJ'.out]
                  exact Calls.regrown_of (listAt_row (hst.below (below_regrown wr d os)) k hlk)
                have c12 : Hid (∀ d os, Calls Try.prog 12 #[.int .i64 id, .int .u64 j] (Sort.grow (redrawn wr d) os) fun e w'' => e = .returned (.agg (inst id j)) ∧ ∃ p : Regrown, w'' = Sort.grow (redrawn wr p.d) p.os) := fun d os => Calls.regrown_of (fresh_any id j _)
                have HST := hide hst
                have hlk2 : (k : Int) < (seen.length : Int) := by omega
                have hks2 : (seen.length : Int) ≤ 65536 := by omega
                clear hst hks hke
                go_wp2_with fail
                refine wp_region_quiet_below (by kernel_rfl) (by kernel_rfl) ?_
                iterate 12 (quiet_step (first | exact c15.out _ _ | exact c12.out _ _))
                refine BigFrame.wpQuiet_want (by rfl) (fun K hK => ?_)
                refine quiet_neq_agg 46 46 _ _ rfl (inst id j) (inst id j) (.bool false) rfl rfl guard46 (fun w => neq46 id j w) ?_
                refine hK _ ?_
                clear hK K
                refine wpQuiet_nil ?_
                intro _ hw'
                obtain ⟨⟨dq, osq⟩, hw''⟩ := hw'
                subst hw''
                have hbq := below_regrown wr dq osq
                clear kk c15 c12
                generalize Sort.grow (redrawn wr dq) osq = w1 at *
                have okid : okI (seen.getD k 0) := HI2.out.ok _ (getD_mem hlk)
                have c16 := hide (pos_row (HST.out.below hbq) k hlk okid)
                rw [← HID.out] at c16
                have HBQ := hide hbq
                have ck1 : w1.cell? ⟨RM + 1, k, none⟩ = some (.int .i64 id) := by rw [hbq.cell (block_lt_of_cell ck)]; exact ck
                clear ck hbq okid
                go_wp2_with fail
                refine c16.out.mono ?_
                rintro e w2 ⟨rfl, rfl⟩
                go_wp2
                go_roundw
                case rel => exact ⟨k + 1, by omega, by go_num, HI2.out.below HBQ.out⟩
                case measure => simp [intOf]; omega
              · as_aux_lemma =>
                have hke : k = seen.length := by omega
                subst hke
                obtain ⟨Z, sl, DP, DE, E, hst, hks, hke⟩ := HI2.out.st
                have HST := hide hst
                have c17 := hide (next_row hst)
                have c18 := hide (most_row hst)
                obtain ⟨mm, HMM⟩ : ∃ mm, Hid (mm = max m0 ((seen.length : Nat) : Int)) := ⟨_, rfl⟩
                obtain ⟨j, HJ'⟩ : ∃ j, Hid (j = ju j0 seen.length) := ⟨_, rfl⟩
                have wk : IntKind.u64.wrap ((seen.length : Nat) : Int) = (seen.length : Nat) := by simp [IntKind.wrap, IntKind.bits, IntKind.signed]; omega
                have wj : IntKind.u64.wrap (j0 + ((seen.length : Nat) : Int)) = j := by rw [HJ'.out, ju_wrap]
                have hif : (if m0 < ((seen.length : Nat) : Int) then ((seen.length : Nat) : Int) else m0) = mm := by rw [HMM.out]; split <;> omega
                rw [← HJ'.out] at c17
                rw [← HMM.out] at c18
                clear hst hks hke hk hlk
                go_wp2_with fail
                refine c17.out.mono ?_
                rintro e w1 ⟨rfl, rfl⟩
                go_wp2_with fail
                refine c18.out.mono ?_
                rintro e w1 ⟨rfl, rfl⟩
                go_wp2_with fail
                have hmk : (wr.alloc (.map #[] 0)).ownsMap (H := Unit) Try.prog 2 (plainElem Try.prog 4) wr.heap.size 0 (.map []) := World.ownsMap_made wr _ _ _
                have INV3 := hide (HI2.out.below ((Below.refl wr.heap.size wr).alloc (Nat.le_refl _) (.map #[] 0)))
                have HKO : Hid (RM + 1 < wr.heap.size) := (HI2.out.own.lt (RM + 1) rfl).2
                obtain ⟨KM, HKM⟩ : ∃ KM, Hid (KM = wr.heap.size) := ⟨_, rfl⟩
                rw [← HKM.out] at hmk HKO
                rw [← HKM.out]
                have HMK := hide hmk
                clear hmk c17 c18 HST
                go_loopw [22] (fun v22 wt => ∃ (q3 : Nat) (DK : DataW Unit) (EK : List Int), q3 ≤ n1 ∧ v22 = .int .i64 q3 ∧ Hid (Inv w wt (PM + 2) PM (PM + 1) RM (RM + 1) j0 m0 n1 n2 ES v2 seen) ∧ Hid (wt.ownsMap Try.prog 2 (plainElem Try.prog 4) KM q3 DK) ∧ Hid (Keys DK EK) ∧ Hid (∀ x, x ∈ EK ↔ x ∈ ES.take q3 ∧ x ∉ seen)) (fun v22 _ => n1 - (intOf v22).toNat)
                case atStart => exact ⟨0, _, [], Nat.zero_le _, rfl, INV3, HMK, Keys.nil, by intro x; simp⟩
                case round =>
                  obtain ⟨q3, DK, EK, hq3, rfl, HI3, HM3, HK3, HX3⟩ := hrel
                  obtain ⟨ao3, g3, cap3, ev2, hao3, hcg3⟩ := own_ints HI3.out.exp
                  obtain ⟨Z, sl, DP, DE, E, hst, hks, hke⟩ := HI3.out.st
                  have HST := hide hst
                  have HKS := hide hks
                  have HKE := hide hke
                  clear hst hks hke
                  subst ev2
                  by_cases hl3 : q3 < n1
                  · as_aux_lemma =>
                    obtain ⟨rfl, -⟩ := hao3 (by omega)
                    obtain ⟨e, He⟩ : ∃ e, Hid (e = ES.getD q3 0) := ⟨_, rfl⟩
                    have ce := hcg3 q3 hl3
                    rw [← He.out] at ce
                    have hein : Hid (e ∈ ES) := by rw [He.out]; exact getD_mem (by rw [HEL.out]; exact hl3)
                    have oke : okI e := row_ok HR1.out e (by have := hein.out; rw [HES.out] at this; exact List.mem_of_mem_take this)
                    obtain ⟨DR, hrk, hrr⟩ := HI3.out.rk
                    obtain ⟨c, hrun, -⟩ := rank_look hrk hrr oke
                    have c19 := hide (expHas_row HST.out oke)
                    have hhas : Maps.has DE (kl e) = !(decide (e ∈ seen)) := by
                      rw [HKS.out.1 e]
                      have h1 := HKE.out e
                      have h2 := hein.out
                      by_cases h3 : e ∈ seen <;> simp [h1, h2, h3]
                    have htake : Hid (ES.take (q3 + 1) = ES.take q3 ++ [e]) := by
                      show _ = _
                      rw [He.out, List.getD_eq_getElem?_getD, List.take_add_one, List.getElem?_eq_getElem (by rw [HEL.out]; exact hl3)]; simp
                    have OK := hide oke
                    have hq32 : (q3 : Int) < (n1 : Int) := by omega
                    clear hrk hrr oke hao3 hcg3
                    by_cases hin : e ∈ seen
                    · have hd : decide (e ∈ seen) = true := by simpa using hin
                      rw [hd] at hrun hhas
                      rw [hhas] at c19
                      clear hd
                      go_wp2_with fail
                      refine c19.out.mono ?_
                      rintro e1 w1 ⟨rfl, hb1⟩
                      go_wp2
                      go_roundw
                      case rel =>
                        refine ⟨q3 + 1, DK, EK, by omega, by go_num, HI3.out.below hb1, (ownsMap_below HM3.out hb1).mono (by omega), HK3.out, ?_⟩
                        intro x
                        rw [HX3.out x, htake.out, List.mem_append, List.mem_singleton]
                        constructor
                        · rintro ⟨h1, h2⟩; exact ⟨.inl h1, h2⟩
                        · rintro ⟨h1 | h1, h2⟩
                          · exact ⟨h1, h2⟩
                          · subst h1; exact absurd hin h2
                      case measure => simp [intOf]; omega
                    · have hd : decide (e ∈ seen) = false := by simpa using hin
                      rw [hd] at hrun hhas
                      rw [hhas] at c19
                      have HNI := hide hin
                      clear hd hin
                      go_wp2_with fail
                      refine c19.out.mono ?_
                      rintro e1 w1 ⟨rfl, hb1⟩
                      have I1 := hide (HI3.out.below hb1)
                      have M1 := hide (ownsMap_below HM3.out hb1)
                      clear hb1 hrun
                      go_wp2_with (at_mapUpdate; refine wpList_mapUpdate_own _ rfl _ _ _ 54 rfl 2 4 law2 under54 _ KM q3 DK rfl M1.out (by unfold maxLen; omega) _ _ (kl e) rfl rfl (kl_key OK.out) (.lit (.bool true)) [] (plainElem_bool Try.underlying4 true) ?_)
                      intro w2 hM2 hg2
                      have I2 := hide (I1.out.kept_map LY.out HKO.out M1.out hg2)
                      have M2 := hide hM2
                      clear hM2 hg2
                      go_wp2
                      go_roundw
                      case rel =>
                        refine ⟨q3 + 1, _, _, by omega, by go_num, I2, M2, HK3.out.put e _, ?_⟩
                        intro x
                        have h3 := HX3.out
                        rw [htake.out, List.mem_append, List.mem_singleton]
                        have h4 := HNI.out
                        split
                        · rename_i hin
                          rw [h3 x]
                          constructor
                          · rintro ⟨h1, h2⟩; exact ⟨.inl h1, h2⟩
                          · rintro ⟨h1 | h1, h2⟩
                            · exact ⟨h1, h2⟩
                            · subst h1; exact (h3 _).1 hin
                        · rw [List.mem_append, List.mem_singleton, h3 x]
                          constructor
                          · rintro (⟨h1, h2⟩ | h1)
                            · exact ⟨.inl h1, h2⟩
                            · subst h1; exact ⟨.inr rfl, h4⟩
                          · rintro ⟨h1 | h1, h2⟩
                            · exact .inl ⟨h1, h2⟩
                            · exact .inr h1
                      case measure => simp [intOf]; omega
                  · as_aux_lemma =>
                    have hq3e : q3 = n1 := by omega
                    subst hq3e
                    have hsz : Maps.size DE = Maps.size DK := HKS.out.size_eq HK3.out (fun x => by rw [HKE.out x, HX3.out x, List.take_of_length_le (by rw [HEL.out]; exact Nat.le_refl _)])
                    have c20 := hide (expLen_row HST.out)
                    rw [hsz] at c20
                    go_wp2_with fail
                    refine c20.out.mono ?_
                    rintro e1 w1 ⟨rfl, rfl⟩
                    go_wp2_with (at_len; refine wpList_len_own _ rfl (.tmp 193) 54 rfl 2 4 under54 _ KM _ DK rfl HM3.out ?_)
                    refine (weights_row HST.out).mono ?_
                    rintro e1 w1 ⟨rfl, hb1⟩
                    have I1 := hide (HI3.out.below hb1)
                    clear hb1
                    go_wp2_with (refine wpList_neq_agg rfl 56 56 (.tmp 197) (.tmp 198) rfl (List.replicate 19 (Value.int .u64 0)).toArray (List.replicate 19 (Value.int .u64 0)).toArray (.bool false) rfl rfl guard56 (neq56 _) ?_)
                    go_ret
                    exact ⟨rfl, I1.out.bel⟩
end Go.Proofs.Qxb6618634a.JoinWalk
