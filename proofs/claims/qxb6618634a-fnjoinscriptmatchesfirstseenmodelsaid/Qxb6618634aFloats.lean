import Derived.Test.Qxb6618634aRows
import Derived.WalkKit
import Derived.ProofKit
import Derived.WalkLawsBesides
import Derived.OpenShut
import Derived.BigQuiet
import Derived.Deep.QuietTactic
import Derived.Lib.QuietBelow
import Derived.Test.Qxb6618634aMem
namespace Go.Proofs.Qxb6618634a.JoinWalk
open Go.ChangeShapes Go.WideShapes Go.ChangeAt Go.RowKit
set_option linter.unusedVariables false
set_option linter.unusedSimpArgs false


/-! the model's own stand-ins, at the numbers that are met -/
theorem ext45 (w : World) : (callFunc 45 #[.float .f64 0]).run Try.prog w = .ok (.value (.int .u64 0)) w := by kernel_rfl
theorem ext51 (w : World) : (callFunc 51 #[.int .u64 0]).run Try.prog w = .ok (.value (.float .f64 0)) w := by kernel_rfl
theorem ext49a (w : World) : (callFunc 49 #[.float .f64 0, .float .f64 0]).run Try.prog w = .ok (.value (.float .f64 0)) w := by kernel_rfl
theorem ext49b (w : World) : (callFunc 49 #[.float .f64 4660134898793709568, .float .f64 0]).run Try.prog w = .ok (.value (.float .f64 4660134898793709568)) w := by kernel_rfl
theorem ext52 (w : World) : (callFunc 52 #[.float .f64 0, .float .f64 4845873199050653696]).run Try.prog w = .ok (.value (.float .f64 0)) w := by kernel_rfl
theorem ext40 (w : World) : (callFunc 40 #[.int .u64 0, .int .u64 0, .int .u64 0]).run Try.prog w = .ok (.value (.tuple #[.int .u64 0, .int .u64 0])) w := by kernel_rfl
theorem andNot0 : bits .andNot .u64 0 9223372036854775808 = 0 := by kernel_rfl

set_option maxHeartbeats 400000 in
theorem abs0 (w : World) : Calls Try.prog 46 #[.float .f64 0] w fun e w' => e = .returned (.float .f64 0) ∧ w = w' := by
  have h1 := ext45
  have h2 := ext51
  have h3 := andNot0
  go_enter Try.func46, Try.ntmps46
  go_wp2
  go_ret
  exact ⟨rfl, rfl⟩

set_option maxHeartbeats 400000 in
theorem max00 (w : World) : Calls Try.prog 44 #[.float .f64 0, .float .f64 0] w fun e w' => e = .returned (.float .f64 0) ∧ w = w' := by
  have h1 := ext49a
  go_enter Try.func44, Try.ntmps44
  go_wp2
  go_ret
  exact ⟨rfl, rfl⟩

set_option maxHeartbeats 400000 in
theorem max36 (w : World) : Calls Try.prog 44 #[.float .f64 4660134898793709568, .float .f64 0] w fun e w' => e = .returned (.float .f64 4660134898793709568) ∧ w = w' := by
  have h1 := ext49b
  go_enter Try.func44, Try.ntmps44
  go_wp2
  go_ret
  exact ⟨rfl, rfl⟩

set_option maxHeartbeats 400000 in
theorem min0 (w : World) : Calls Try.prog 47 #[.float .f64 0, .float .f64 4845873199050653696] w fun e w' => e = .returned (.float .f64 0) ∧ w = w' := by
  have h1 := ext52
  go_enter Try.func47, Try.ntmps47
  go_wp2
  go_ret
  exact ⟨rfl, rfl⟩

set_option maxHeartbeats 400000 in
theorem split0 (w : World) : Calls Try.prog 42 #[.float .f64 0] w fun e w' => e = .returned (.tuple #[.int .u64 0, .int .i64 0]) ∧ w = w' := by
  have h1 := ext45
  go_enter Try.func42, Try.ntmps42
  go_wp2_with fail
  refine (abs0 w).mono ?_
  rintro e w1 ⟨rfl, rfl⟩
  go_wp2
  go_ret2
  exact ⟨rfl, rfl⟩

set_option maxHeartbeats 400000 in
theorem units0 (w : World) : Calls Try.prog 39 #[.float .f64 0] w fun e w' => e = .returned (.tuple #[.int .i64 0, .int .u64 0, .int .u64 0]) ∧ Below w.heap.size w w' := by
  go_enter Try.func39, Try.ntmps39
  go_wp2_with fail
  refine (split0 w).mono ?_
  rintro e w1 ⟨rfl, rfl⟩
  go_wp2_with fail
  go_quiet (fail)
  go_wp2
  go_ret3
  exact ⟨rfl, below_drewN (Below.refl _ _) _⟩

/-- the zero Grant -/
def g0 : Array Value := #[.float .f64 0, .float .f64 0, .float .f64 0, .float .f64 0, .float .f64 0, .float .f64 0]

theorem order00 : FloatKind.f64.format.order 0 0 = some Ordering.eq := by kernel_rfl

set_option maxHeartbeats 400000 in
theorem ftok0 (w : World) : Calls Try.prog 48 #[.agg #[.float .f64 0, .float .f64 0, .float .f64 0, .float .f64 0, .float .f64 0, .float .f64 0], .float .f64 0] w fun e w' => e = .returned (.float .f64 0) ∧ Below w.heap.size w w' := by
  have h1 := order00
  go_enter Try.func48, Try.ntmps48
  go_wp2
  go_ret
  exact ⟨rfl, (Below.refl _ _).alloc (Nat.le_refl _) _⟩

theorem fb1 : floatBits .sub .f64 4660134898793709568 0 = some 4660134898793709568 := by kernel_rfl
theorem fb2 : floatBits .mul .f64 0 4660134898793709568 = some 0 := by kernel_rfl
theorem fb3 : floatBits .add .f64 0 0 = some 0 := by kernel_rfl
theorem fb4 : floatBits .sub .f64 0 0 = some 0 := by kernel_rfl

set_option maxHeartbeats 400000 in
theorem gclaim0 (w : World) : Calls Try.prog 43 #[.agg #[.float .f64 0, .float .f64 0, .float .f64 0, .float .f64 0, .float .f64 0, .float .f64 0], .float .f64 0] w fun e w' => e = .returned (.float .f64 0) ∧ Below w.heap.size w w' := by
  have f1 := fb1
  have f2 := fb2
  have f3 := fb3
  have f4 := fun (w : World) => run_float_arith (P := Try.prog) (w := w) .sub 39 .f64 _ _ _ fb1
  have f5 := fun (w : World) => run_float_arith (P := Try.prog) (w := w) .mul 39 .f64 _ _ _ fb2
  have f6 := fun (w : World) => run_float_arith (P := Try.prog) (w := w) .add 39 .f64 _ _ _ fb3
  go_enter Try.func43, Try.ntmps43
  go_wp2_with fail
  go_quiet ((go_at_call 44; refine Calls.quiet_of_same ((max36 _).mono fun _ _ h => ⟨h.1, h.2.symm⟩)))
  go_wp2_with fail
  refine (ftok0 _).mono ?_
  rintro e w1 ⟨rfl, hB⟩
  go_wp2_with fail
  refine (min0 _).mono ?_
  rintro e w2 ⟨rfl, rfl⟩
  go_wp2
  go_ret
  refine ⟨rfl, ?_⟩
  have h0 : Below w.heap.size w (w.alloc (Obj.cells #[.float .f64 0, .float .f64 0, .float .f64 0, .float .f64 0, .float .f64 0, .float .f64 0] 44)) := (Below.refl _ _).alloc (Nat.le_refl _) _
  exact (below_drewN h0 _).trans (hB.mono (by simp))

/-- a fresh Instance -/
def inst (id j : Int) : Array Value := #[.int .i64 id, .float .f64 0, .int .u64 0, .int .i64 0, .pointer none, .string ⟨#[]⟩, .int .i64 0, .float .f64 0, .float .f64 0, .float .f64 0, .float .f64 0, .float .f64 0, .float .f64 0, .float .f64 0, .float .f64 0, .float .f64 0, .float .f64 0, .float .f64 0, .float .f64 0, .int .u64 0, .int .i64 0, .pointer none, .int .u64 j, .bool false, .bool false, .float .f64 0, .int .u64 0, .int .i64 0, .pointer none, .float .f64 0]

theorem fresh_cells {w W : World} {Z : Array Value} {t : TypeId} (h : w.alloc (.cells Z t (0, 0)) = W) : Below w.heap.size w W ∧ W.heap[w.heap.size]? = some (.cells Z t (0, 0)) ∧ w.heap.size < W.heap.size ∧ ∀ k v, Z[k]? = some v → W.cell? ⟨w.heap.size, k, none⟩ = some v := by
  subst h
  have h1 : (w.alloc (.cells Z t (0, 0))).heap[w.heap.size]? = some (.cells Z t (0, 0)) := heap_alloc_new _ _
  refine ⟨(Below.refl _ _).alloc (Nat.le_refl _) _, h1, by simp, fun k v hk => ?_⟩
  rw [World.cell?, h1]
  exact hk

set_option maxHeartbeats 400000 in
theorem claim0 (id j : Int) (w : World) : Calls Try.prog 41 #[.agg (inst id j), .float .f64 0] w fun e w' => e = .returned (.float .f64 0) ∧ Below w.heap.size w w' := by
  unfold inst
  have f4 := fun (w : World) => run_float_arith (P := Try.prog) (w := w) .sub 39 .f64 _ _ _ fb4
  go_enter Try.func41, Try.ntmps41
  go_wp2_with fail
  generalize hW : w.alloc _ = W
  obtain ⟨hB, hg, hlt, hcell⟩ := fresh_cells hW
  clear hW
  have c7 : W.cell? ⟨w.heap.size, 7, none⟩ = some (.float .f64 0) := hcell 7 _ rfl
  have k7 := cell_regrown c7
  have c8 : W.cell? ⟨w.heap.size, 8, none⟩ = some (.float .f64 0) := hcell 8 _ rfl
  have k8 := cell_regrown c8
  have c9 : W.cell? ⟨w.heap.size, 9, none⟩ = some (.float .f64 0) := hcell 9 _ rfl
  have k9 := cell_regrown c9
  have c10 : W.cell? ⟨w.heap.size, 10, none⟩ = some (.float .f64 0) := hcell 10 _ rfl
  have k10 := cell_regrown c10
  have c11 : W.cell? ⟨w.heap.size, 11, none⟩ = some (.float .f64 0) := hcell 11 _ rfl
  have k11 := cell_regrown c11
  have c12 : W.cell? ⟨w.heap.size, 12, none⟩ = some (.float .f64 0) := hcell 12 _ rfl
  have k12 := cell_regrown c12
  have c13 : W.cell? ⟨w.heap.size, 13, none⟩ = some (.float .f64 0) := hcell 13 _ rfl
  have k13 := cell_regrown c13
  have c14 : W.cell? ⟨w.heap.size, 14, none⟩ = some (.float .f64 0) := hcell 14 _ rfl
  have k14 := cell_regrown c14
  have c15 : W.cell? ⟨w.heap.size, 15, none⟩ = some (.float .f64 0) := hcell 15 _ rfl
  have k15 := cell_regrown c15
  have c16 : W.cell? ⟨w.heap.size, 16, none⟩ = some (.float .f64 0) := hcell 16 _ rfl
  have k16 := cell_regrown c16
  have c17 : W.cell? ⟨w.heap.size, 17, none⟩ = some (.float .f64 0) := hcell 17 _ rfl
  have k17 := cell_regrown c17
  have c18 : W.cell? ⟨w.heap.size, 18, none⟩ = some (.float .f64 0) := hcell 18 _ rfl
  have k18 := cell_regrown c18
  clear hcell hg
  refine wp_region_quiet_below (by kernel_rfl) (by kernel_rfl) ?_
  repeat (quiet_step ((go_at_call 43; refine Calls.regrown_of (gclaim0 _))))
  refine wpQuiet_nil ?_
  intro _ hw'
  obtain ⟨⟨dq, osq⟩, hw''⟩ := hw'
  subst hw''
  go_wp2_with fail
  refine (gclaim0 _).mono ?_
  rintro e w1 ⟨rfl, hB1⟩
  go_wp2_with fail
  refine (max00 _).mono ?_
  rintro e w2 ⟨rfl, rfl⟩
  go_wp2
  go_ret
  refine ⟨rfl, ?_⟩
  have hq := below_regrown W dq osq
  exact (hB.trans (hq.mono hB.size)).trans (hB1.mono (Nat.le_trans hB.size hq.size))

theorem i46 : (Try.prog.info? 46).map (·.size) = some 30 := by kernel_rfl

theorem inst_len (id j : Int) : (inst id j).toList.length = 30 := rfl

set_option maxHeartbeats 400000 in
theorem promise0 (id j : Int) (w : World) : Calls Try.prog 38 #[.agg (inst id j)] w fun e w' => e = .returned (.float .f64 0) ∧ Below w.heap.size w w' := by
  have hc := hide (claim0 id j)
  have h24 : (inst id j)[24]? = some (.bool false) := rfl
  have hi : (Try.prog.info? 46).map (·.size) = some (inst id j).toList.length := i46
  have hr : Hid ((w.alloc (.cells (inst id j) 46 (0, 0))).rangeAt w.heap.size 0 (inst id j).toList) := range_row (fresh_cells rfl).2.1
  have hb : Hid (Below w.heap.size w (w.alloc (.cells (inst id j) 46 (0, 0)))) := (fresh_cells rfl).1
  generalize inst id j = Z at *
  have hA := hide hi
  clear hi
  go_enter Try.func38, Try.ntmps38
  go_wp2_with (refine wpList_load_mid rfl 46 (.tmp 1) rfl _ _ rfl _ _ hr.out Try.underlying46 rfl hA.out ?_)
  refine (hc.out _).mono ?_
  rintro e w1 ⟨rfl, hB1⟩
  go_wp2
  go_ret
  exact ⟨rfl, hb.out.trans (hB1.mono hb.out.size)⟩

/-- nothing is added: the two words that are written hold 0 already -/
theorem setCell_same {w : World} {b o : Nat} {v : Value} (hc : w.cell? ⟨b, o, none⟩ = some v) : w.setCell ⟨b, o, none⟩ v = w := by
  have hh : (w.setCell ⟨b, o, none⟩ v).heap = w.heap := by
    apply Array.ext_getElem?
    intro k
    exact (below_same (B := k + 1) (Below.refl _ w) hc).block k (by omega)
  cases w
  simp only [World.setCell] at hh ⊢
  rw [hh]

theorem regrown_same {w : World} {b o : Nat} {v : Value} (hc : w.cell? ⟨b, o, none⟩ = some v) (d : Nat) (os : Array Obj) : (Sort.grow (redrawn w d) os).setCell ⟨b, o, none⟩ v = Sort.grow (redrawn w d) os := setCell_same (cell_regrown hc d os)

/-- what a block's own row says of its cells, in every world that grew out of it -/
theorem row_cell {w : World} {b o : Nat} {Z : Array Value} {t : TypeId} {v : Value} (hg : w.heap[b]? = some (.cells Z t (0, 0))) (h : Z[o]? = some v) : w.cell? ⟨b, o, none⟩ = some v := by rw [World.cell?, hg]; exact h
theorem row_frozen {w : World} {b o : Nat} {Z : Array Value} {t : TypeId} (hg : w.heap[b]? = some (.cells Z t (0, 0))) : w.frozen? ⟨b, o, none⟩ = false := by simp [World.frozen?, hg]
theorem lt_of_some {w : World} {b : Nat} {ob : Obj} (hg : w.heap[b]? = some ob) : b < w.heap.size := (Array.getElem?_eq_some_iff.1 hg).1
theorem row_regrown {w : World} {b : Nat} {ob : Obj} (hg : w.heap[b]? = some ob) (d : Nat) (os : Array Obj) : (Sort.grow (redrawn w d) os).heap[b]? = some ob := by rw [(below_regrown w d os).block b (lt_of_some hg)]; exact hg

set_option maxHeartbeats 400000 in
theorem add0 (b o : Nat) (Z : Array Value) (t : TypeId) (w : World) (hg : w.heap[b]? = some (.cells Z t (0, 0))) (h0 : Z[o]? = some (.int .u64 0)) (h1 : Z[o + 1]? = some (.int .u64 0)) : Calls Try.prog 37 #[.pointer (some ⟨b, o, none⟩), .float .f64 0] w fun e w' => e = .returned (.tuple #[]) ∧ Below w.heap.size w w' := by
  go_enter Try.func37, Try.ntmps37
  go_wp2_with fail
  refine (units0 _).mono ?_
  rintro e w1 ⟨rfl, hB1⟩
  go_wp2_with fail
  have g1 : w1.heap[b]? = some (.cells Z t (0, 0)) := by rw [hB1.block b (lt_of_some hg)]; exact hg
  have k0 := fun d os => row_cell (row_regrown g1 d os) h0
  have k1 := fun d os => row_cell (row_regrown g1 d os) h1
  have s0 := regrown_same (row_cell g1 h0)
  have s1 := regrown_same (row_cell g1 h1)
  have z0 := fun d os => row_frozen (o := o) (row_regrown g1 d os)
  have z1 := fun d os => row_frozen (o := o + 1) (row_regrown g1 d os)
  have e40 := ext40
  have wrap1 : IntKind.i64.wrap 1 = 1 := by kernel_rfl
  refine wp_region_quiet_below (by kernel_rfl) (by kernel_rfl) ?_
  repeat (quiet_step (fail))
  refine wpQuiet_nil ?_
  intro _ hw'
  obtain ⟨⟨d2, os2⟩, hw''⟩ := hw'
  subst hw''
  have hB2 := below_regrown w1 d2 os2
  clear k0 k1 s0 s1 z0 z1
  have g2 := row_regrown g1 d2 os2
  generalize Sort.grow (redrawn w1 d2) os2 = w2 at *
  have k0 := fun d os => row_cell (row_regrown g2 d os) h0
  have k1 := fun d os => row_cell (row_regrown g2 d os) h1
  have s0 := regrown_same (row_cell g2 h0)
  have s1 := regrown_same (row_cell g2 h1)
  have z0 := fun d os => row_frozen (o := o) (row_regrown g2 d os)
  have z1 := fun d os => row_frozen (o := o + 1) (row_regrown g2 d os)
  go_wp2_with fail
  refine wp_region_quiet_below (by kernel_rfl) (by kernel_rfl) ?_
  repeat (quiet_step (fail))
  refine wpQuiet_nil ?_
  intro _ hw'
  obtain ⟨⟨d3, os3⟩, hw''⟩ := hw'
  subst hw''
  have hB3 := below_regrown w2 d3 os3
  clear k0 k1 s0 s1 z0 z1
  generalize Sort.grow (redrawn w2 d3) os3 = w3 at *
  go_wp2_with fail
  go_loop [7] (fun x => x = .int .u64 0) (fun _ => 0)
  case atStart => rfl
  case round =>
    subst hrel
    go_wp2
    refine bodyPost_end (results_none rfl _ _ _) rfl ?_
    exact ⟨rfl, hB1.trans ((hB2.mono hB1.size).trans (hB3.mono (Nat.le_trans hB1.size hB2.size)))⟩

theorem quiet_load_row {P : Program} {o : Oper} {a : Act} {C : World → Prop} {K : Act → Prop} (ty : TypeId) (x : Operand) (ho : o.op = .load ty x) (g : Nat) (t : TypeId) (cs : List Value) (d : TypeDesc)
    (hx : a.eval x = .pointer (some ⟨g, 0, none⟩)) (hr : ∀ w, C w → w.heap[g]? = some (.cells cs.toArray t (0, 0))) (hu : P.underlying ty = some d) (hd : d.isRow = true) (hi : (P.info? ty).map (·.size) = some cs.length)
    (hk : K (a.put o.dst (.agg cs.toArray))) : o.quiet P a C K := by
  refine ⟨_, fun w hw => ?_, hk⟩
  unfold Oper.quietAt execOp
  simp only [ho, hx, Instr.loadAt, Instr.sureAddr, Sem.run_bind, Sem.run_pure, Result.andThen_ok, run_loadVar_mid w g 0 ty cs d (range_row (hr w hw)) hu hd hi]
  exact ⟨rfl, rfl⟩

set_option maxHeartbeats 400000 in
theorem count0 (b : Nat) (id j : Int) (Z : Array Value) (t : TypeId) (w : World) (hg : w.heap[b]? = some (.cells Z t (0, 0)))
    (h0 : Z[7]? = some (.int .u64 0)) (h1 : Z[8]? = some (.int .u64 0)) (h2 : Z[26]? = some (.int .u64 0)) (h3 : Z[27]? = some (.int .u64 0)) :
    Calls Try.prog 28 #[.pointer (some ⟨b, 0, none⟩), .agg (inst id j)] w fun e w' => e = .returned (.tuple #[]) ∧ Below w.heap.size w w' := by
  have HG := hide hg
  have H0 := hide h0
  have H1 := hide h1
  have H2 := hide h2
  have H3 := hide h3
  clear hg h0 h1 h2 h3
  go_enter Try.func28, Try.ntmps28
  have c38 := hide (promise0 id j)
  have h1 : (inst id j)[1]? = some (.float .f64 0) := rfl
  have hA : Hid ((Try.prog.info? 46).map (·.size) = some (inst id j).toList.length) := i46
  generalize inst id j = Y at *
  go_wp2_with fail
  generalize hW : w.alloc _ = W
  obtain ⟨hB, hl, hlt, hcell⟩ := fresh_cells hW
  clear hW
  have g1 : W.heap[b]? = some (.cells Z t (0, 0)) := by rw [hB.block b (lt_of_some HG.out)]; exact HG.out
  have k1 := cell_regrown (hcell 1 _ h1)
  have G1 := hide g1
  clear g1
  refine wp_region_quiet_below (by kernel_rfl) (by kernel_rfl) ?_
  repeat (quiet_step ((go_at_call 37; refine Calls.regrown_of (add0 b 7 Z t _ (row_regrown G1.out _ _) H0.out H1.out))))
  refine wpQuiet_nil ?_
  intro _ hw'
  obtain ⟨⟨d2, os2⟩, hw''⟩ := hw'
  subst hw''
  clear k1
  have hB2 := below_regrown W d2 os2
  have g2 := hide (row_regrown G1.out d2 os2)
  have l2 := row_regrown hl d2 os2
  generalize Sort.grow (redrawn W d2) os2 = w2 at *
  go_wp2_with fail
  refine wp_region_quiet_below (by kernel_rfl) (by kernel_rfl) ?_
  iterate 3 (quiet_step (fail))
  refine BigFrame.wpQuiet_want (by rfl) (fun K hK => ?_)
  refine quiet_load_row 46 _ rfl w.heap.size 46 Y.toList _ rfl (by rintro _ ⟨p, rfl⟩; exact row_regrown l2 _ _) Try.underlying46 rfl hA.out ?_
  refine hK _ ?_
  clear hK K
  repeat (quiet_step (first | (go_at_call 38; refine Calls.regrown_of (c38.out _)) | (go_at_call 37; refine Calls.regrown_of (add0 b 26 Z t _ (row_regrown g2.out _ _) H2.out H3.out))))
  refine wpQuiet_nil ?_
  intro _ hw'
  obtain ⟨⟨d3, os3⟩, hw''⟩ := hw'
  subst hw''
  have hB3 := below_regrown w2 d3 os3
  generalize Sort.grow (redrawn w2 d3) os3 = w3 at *
  go_wp2
  refine bodyPost_end (results_none rfl _ _ _) rfl ?_
  exact ⟨rfl, hB.trans ((hB2.mono hB.size).trans (hB3.mono (Nat.le_trans hB.size hB2.size)))⟩
end Go.Proofs.Qxb6618634a.JoinWalk
