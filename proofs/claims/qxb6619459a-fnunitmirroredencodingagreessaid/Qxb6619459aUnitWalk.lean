import Derived.Test.Qxb6619459aRows
import Derived.WalkKit
import Derived.ProofKit
import Derived.WalkLawsBesides
import Derived.Laws.CopyOwn
import Derived.Lib.EndianBits
import Derived.OpenShut
namespace Go.Proofs.Qxb6619459a.fnUnitMirroredEncodingAgrees
open Go.ChangeShapes Go.WideShapes Go.ChangeAt Go.RowKit
set_option linter.unusedVariables false

theorem ret_bool {a : Bool} (h : a = true) : Ending.returned (.bool a) = .returned (.bool true) := by rw [h]
theorem ret_int {k : IntKind} {a b : Int} (h : a = b) : Ending.returned (.int k a) = .returned (.int k b) := by rw [h]

set_option maxHeartbeats 400000 in
theorem unit_two (mark : ByteArray) (wd l x y : Int) (g n cap : Nat) (w : World) (hwd : (wd == 2) = true) (h0 : 0 ≤ l) (h1 : l < 2) (hn : 2 ≤ n) (hn2 : n ≤ 524288)
    (hg : g < w.heap.size) (hx : w.cell? ⟨g, l.toNat, none⟩ = some (.int .u8 x)) (hy : w.cell? ⟨g, (1 - l).toNat, none⟩ = some (.int .u8 y))
    (x0 : 0 ≤ x) (x1 : x ≤ 255) (y0 : 0 ≤ y) (y1 : y ≤ 255) :
    Calls Try.prog 8 #[.string mark, .int .i64 wd, .int .i64 l, .slice (some ⟨g, 0, none⟩) n cap] w fun e w' => e = .returned (.int .u16 (x + 256 * y)) ∧ Below w.heap.size w w' := by
  go_enter Try.func8, Try.ntmps8
  go_wp2
  go_ret
  exact ⟨ret_int ((u16_or8 (y := x) (x := y * 256) x0 (by omega) (by omega) (by omega) (by omega)).trans (by omega)), (Below.refl _ _).alloc (Nat.le_refl _) _⟩

set_option maxHeartbeats 400000 in
theorem unit_other (mark : ByteArray) (wd l x : Int) (g n cap : Nat) (w : World) (h0 : 0 ≤ l) (h1 : l < wd) (hwd : (wd == 2) = false) (hn : wd ≤ n) (hn2 : n ≤ 524288)
    (hg : g < w.heap.size) (hx : w.cell? ⟨g, l.toNat, none⟩ = some (.int .u8 x)) 
    (x0 : 0 ≤ x) (x1 : x ≤ 255) :
    Calls Try.prog 8 #[.string mark, .int .i64 wd, .int .i64 l, .slice (some ⟨g, 0, none⟩) n cap] w fun e w' => e = .returned (.int .u16 x) ∧ Below w.heap.size w w' := by
  go_enter Try.func8, Try.ntmps8
  go_wp2
  go_ret
  exact ⟨rfl, (Below.refl _ _).alloc (Nat.le_refl _) _⟩

theorem hi_two (x y : Int) (x0 : 0 ≤ x) (x1 : x ≤ 255) (y0 : 0 ≤ y) (y1 : y ≤ 255) : IntKind.u16.wrap ((x + 256 * y).tdiv 256) = y := by
  rw [IntKind.wrap_u16, Int.tdiv_eq_ediv_of_nonneg (by omega)]; omega
theorem hi_other (x : Int) (x0 : 0 ≤ x) (x1 : x ≤ 255) : IntKind.u16.wrap (x.tdiv 256) = 0 := by
  rw [IntKind.wrap_u16, Int.tdiv_eq_ediv_of_nonneg (by omega)]; omega

/-- WHAT THE WALK IS TOLD OF A SLICE OF INTEGERS THAT CAME IN (as the given shell types it). -/
def IsRow (k : IntKind) (w : World) (a : Option Addr) (len cap : Nat) (zs : List Int) : Prop :=
  (a = none ∧ len = 0 ∧ cap = 0 ∧ zs = []) ∨
  ∃ x, a = some x ∧ len ≤ cap ∧ cap ≤ maxLen ∧ zs.length = cap ∧ (∀ i, i < zs.length → w.cell? (x.add i) = some (.int k (zs.getD i 0))) ∧ ∀ n ∈ zs, (Lit.int k n).wf = true

theorem Try.info5 : (Try.prog.info? 5).map (fun i => (i.zero, i.size, i.bytes)) = some (some (.int .u8 0), 1, 1) := by kernel_rfl
theorem Try.size5 : (Try.prog.info? 5).map (·.size) = some 1 := by kernel_rfl

/-- what m holds at place j when the loop is through -/
def mir (zs : List Int) (W j : Nat) : Int := if j < W then zs.getD (W - 1 - j) 0 else zs.getD j 0
/-- what m holds after k rounds -/
def mRow (zs : List Int) (W n k : Nat) : List Value := (List.range n).map fun j => .int .u8 (if j < k then mir zs W j else 0)

theorem mRow_zero (zs : List Int) (W n : Nat) : mRow zs W n 0 = List.replicate n (.int .u8 0) := by
  unfold mRow
  apply List.ext_getElem (by simp)
  intro i h1 h2
  simp

theorem mRow_succ (zs : List Int) (W n k : Nat) (hk : k < n) (v : Int) (hv : v = mir zs W k) : (mRow zs W n k).set k (.int .u8 v) = mRow zs W n (k + 1) := by
  subst hv
  unfold mRow
  apply List.ext_getElem (by simp)
  intro i h1 h2
  simp only [List.length_set, List.length_map, List.length_range] at h1
  rw [List.getElem_set]
  by_cases hik : k = i
  · subst hik; simp
  · rw [if_neg hik]
    simp only [List.getElem_map, List.getElem_range]
    have : (i < k) ↔ (i < k + 1) := by omega
    simp [this]

theorem mRow_at (zs : List Int) (W n j : Nat) (hj : j < n) : (mRow zs W n n)[j]? = some (.int .u8 (mir zs W j)) := by
  unfold mRow
  simp [hj]

/-- the two mirrored readings -/
theorem mir_low (zs : List Int) (W L : Nat) (h : L < W) : mir zs W (W - 1 - L) = zs.getD L 0 := by
  unfold mir
  rw [if_pos (by omega), show W - 1 - (W - 1 - L) = L from by omega]

theorem cs_at (zs : List Int) (len j : Nat) (hj : j < len) (hz : len ≤ zs.length) : ((zs.take len).map (Value.int .u8))[j]? = some (.int .u8 (zs.getD j 0)) := by
  have h : j < zs.length := by omega
  simp [hj, h]

theorem mRow_cur (zs : List Int) (W n j : Nat) (hj : j < n) : (mRow zs W n j)[j]? = some (.int .u8 0) := by
  unfold mRow
  simp [hj]

set_option maxHeartbeats 400000 in
theorem walkMain (a0 : ByteArray) (W L : Nat) (x : Addr) (len cap : Nat) (zs : List Int) (w : World) (h0 : a0.size ≤ 524288) (hlen : len ≤ 524288)
    (hLW : L < W) (hWn : W ≤ len) (hlc : len ≤ cap) (hz : zs.length = cap) (hc : ∀ i, i < zs.length → w.cell? (x.add i) = some (.int .u8 (zs.getD i 0))) (hwf : ∀ n ∈ zs, (Lit.int .u8 n).wf = true) :
    Calls Try.prog 3 #[.string a0, .int .i64 W, .int .i64 L, .slice (some x) len cap] w fun e w' => e = .returned (.bool true) ∧ Below w.heap.size w w' := by
  obtain ⟨i0, hi, hz0, hz1, hz2⟩ := info_parts Try.info5
  have hcs : ∀ j v, ((zs.take len).map (Value.int .u8))[j]? = some v → w.cell? (x.add j) = some v := by
    intro j v hj
    simp only [List.getElem?_map, List.getElem?_take, Option.map_eq_some_iff] at hj
    obtain ⟨u, hu, rfl⟩ := hj
    by_cases hjl : j < len
    · rw [if_pos hjl] at hu
      have hjz : j < zs.length := by omega
      rw [hc j hjz]
      simp [hu]
    · rw [if_neg hjl] at hu; cases hu
  clear hc
  have hmin : ((zs.take len).map (Value.int .u8)).length = len := by simp; omega
  obtain ⟨cs, Hcs⟩ : ∃ cs, Hid (cs = (zs.take len).map (Value.int .u8)) := ⟨_, rfl⟩
  rw [← Hcs.out] at hcs hmin
  have HC : Hid (∀ j v, cs[j]? = some v → w.cell? (x.add j) = some v) := hcs
  have HM : Hid (cs.length = len) := hmin
  have HZ : Hid (zs.length = cap) := hz
  have HW : Hid (∀ n ∈ zs, (Lit.int .u8 n).wf = true) := hwf
  clear hcs hmin hz hwf
  go_enter Try.func3, Try.ntmps3
  go_wp2_with (first
    | (at_make; refine wpList_make_full _ rfl _ _ 22 rfl w.heap.size 5 i0 (.int .u8 0) 1 Try.underlying22 hi hz0 hz1 _ _ _ _ len rfl rfl rfl rfl ?_ ?_ ?_ ?_)
    | go_in)
  · rw [hz2]; omega
  · unfold maxLen; omega
  · exact Nat.le_refl _
  intro w1 hown1 hgrow1
  rw [toList_madeCells_one] at hown1
  obtain ⟨-, hh⟩ := hown1
  have hh1 : w1.heap[w.heap.size]? = some (.cells (List.replicate len (Value.int .u8 0)).toArray 5 (0, 0)) := by
    rcases hh with ⟨hh, _⟩ | ⟨g, cp, cur, hv, _, hg, _, _, hsz, ht⟩
    · simp at hh
    · simp only [Value.slice.injEq, Option.some.injEq, Addr.mk.injEq, and_true, true_and] at hv
      obtain ⟨rfl, rfl⟩ := hv
      rw [hg, ← ht, List.take_of_length_le (by simp; omega)]
  have hb1 : Below w.heap.size w w1 := (Below.refl _ _).grown hgrow1 (Nat.le_refl _) (by simp)
  have hcell1 : ∀ j v, cs[j]? = some v → w1.cell? (x.add j) = some v := by
    intro j v hj
    exact hgrow1.cell (HC.out j v hj) (by simp)
  have HC1 : Hid (∀ j v, cs[j]? = some v → w1.cell? (x.add j) = some v) := hcell1
  have HH1 : Hid (w1.heap[w.heap.size]? = some (.cells (List.replicate len (Value.int .u8 0)).toArray 5 (0, 0))) := hh1
  clear hh hgrow1 hcell1 hh1
  go_wp2_with (first
    | (refine wpList_copy_splice rfl (.tmp 50) (.tmp 51) 22 22 rfl 5 Try.underlying22 Try.size5 _ _ _ _ _ _ rfl rfl w.heap.size 0 (List.replicate len (Value.int .u8 0)) 5 HH1.out cs (HM.out.trans (Nat.min_self len).symm) ?_ ?_ ?_ w.heap.size w hb1 (Nat.le_refl _) ?_))
  · intro _; exact HC1.out
  · have := HM.out; simp; omega
  · rw [Hcs.out]; exact ints_oneCell _ _
  intro w2 HG2 hB2
  have hsp : splice (List.replicate len (Value.int .u8 0)) 0 cs = cs := by
    have := HM.out; unfold splice; simp; omega
  have hcl : cs.length = len := HM.out
  have hown2 : w2.ownsRow w.heap.size 5 1 (.slice (some ⟨w.heap.size, 0, none⟩) len len) len cs :=
    ⟨by omega, .inr ⟨w.heap.size, len, cs.toArray, rfl, Nat.le_refl _, by rw [HG2.out, hsp], Nat.le_refl _, by unfold maxLen; omega, by simp; omega, by rw [List.toList_toArray]; exact List.take_of_length_le (by omega)⟩⟩
  have hlt2 : w.heap.size < w2.heap.size := (hown2.lt _ rfl).2
  clear HC1 HH1 HG2 hsp hcl hb1
  go_wp2_with (first
    | (at_make; refine wpList_make_full _ rfl _ _ 22 rfl w.heap.size 5 i0 (.int .u8 0) 1 Try.underlying22 hi hz0 hz1 _ _ _ _ len rfl rfl rfl rfl ?_ ?_ ?_ ?_))
  · rw [hz2]; omega
  · unfold maxLen; omega
  · omega
  intro w3 hown3 hgrow3
  have hown2' := hown2.kept hgrow3 (.inr (by simp [Value.ownBlock]))
  have hB3 : Below w.heap.size w w3 := hB2.grown hgrow3 (by omega) (by simp)
  rw [toList_madeCells_one, ← mRow_zero zs W] at hown3
  obtain ⟨G, HG⟩ : ∃ G, Hid (G = w2.heap.size) := ⟨_, rfl⟩
  rw [← HG.out] at hown3 hlt2
  rw [← HG.out]
  have hz3 := hown3.lt _ rfl
  clear hown2 hB2 hgrow3 HG hi hz0 hz1 hz2
  go_wp2
  go_loopw [11] (fun i wr => ∃ k : Nat, k ≤ len ∧ i = .int .i64 k ∧ wr.ownsRow w.heap.size 5 1 (.slice (some ⟨w.heap.size, 0, none⟩) len len) len cs ∧ wr.ownsRow w.heap.size 5 1 (.slice (some ⟨G, 0, none⟩) len len) len (mRow zs W len k) ∧ Below w.heap.size w wr) (fun i _ => len - (intOf i).toNat)
  case atStart => exact ⟨0, Nat.zero_le _, rfl, hown2', hown3, hB3⟩
  case round =>
    obtain ⟨k, hk, rfl, ho1, ho2, hB⟩ := hrel
    have hGs := (ho2.lt _ rfl).2
    by_cases hlt : k < len
    · have hcur := ho2.cellAt k (by omega)
      rw [mRow_cur zs W len k hlt] at hcur
      have hfr := ho2.frozenAt k
      have hne : ¬ w.heap.size = G := by omega
      by_cases hkW : k < W
      · have hr : wr.cell? ⟨w.heap.size, W - 1 - k, none⟩ = some (.int .u8 (zs.getD (W - 1 - k) 0)) := by
          rw [ho1.cellAt _ (by omega), Hcs.out]
          exact cs_at zs len _ (by omega) (by have := HZ.out; omega)
        have R1 := ownsRow_setCell_other ho1 (a := ⟨G, k, none⟩) (by simp [Value.ownBlock]; omega) (.int .u8 (zs.getD (W - 1 - k) 0))
        have R2 := (ho2.stored k (.int .u8 (zs.getD (W - 1 - k) 0))).1
        rw [mRow_succ zs W len k hlt _ (by simp [mir, hkW])] at R2
        have R3 := hB.setCell (p := ⟨G, k, none⟩) (by simp; omega) (.int .u8 (zs.getD (W - 1 - k) 0))
        obtain ⟨V, HV⟩ : ∃ V, Hid (V = zs.getD (W - 1 - k) 0) := ⟨_, rfl⟩
        rw [← HV.out] at hr R1 R2 R3
        clear ho1 ho2 hB
        go_wp2
        go_roundw
        case rel => exact ⟨k + 1, by omega, by go_num, R1, R2, R3⟩
        case measure => simp [intOf]; omega
      · have hr : wr.cell? ⟨w.heap.size, k, none⟩ = some (.int .u8 (zs.getD k 0)) := by
          rw [ho1.cellAt _ (by omega), Hcs.out]
          exact cs_at zs len _ (by omega) (by have := HZ.out; omega)
        have R1 := ownsRow_setCell_other ho1 (a := ⟨G, k, none⟩) (by simp [Value.ownBlock]; omega) (.int .u8 (zs.getD k 0))
        have R2 := (ho2.stored k (.int .u8 (zs.getD k 0))).1
        rw [mRow_succ zs W len k hlt _ (by simp [mir, hkW])] at R2
        have R3 := hB.setCell (p := ⟨G, k, none⟩) (by simp; omega) (.int .u8 (zs.getD k 0))
        obtain ⟨V, HV⟩ : ∃ V, Hid (V = zs.getD k 0) := ⟨_, rfl⟩
        rw [← HV.out] at hr R1 R2 R3
        clear ho1 ho2 hB
        go_wp2
        go_roundw
        case rel => exact ⟨k + 1, by omega, by go_num, R1, R2, R3⟩
        case measure => simp [intOf]; omega
    · obtain rfl : k = len := by omega
      have hx1 := ho1.cellAt L (by omega)
      rw [Hcs.out, cs_at zs k L (by omega) (by have := HZ.out; omega)] at hx1
      have hx2 := ho2.cellAt (W - 1 - L) (by omega)
      rw [mRow_at zs W k (W - 1 - L) (by omega), mir_low zs W L hLW] at hx2
      obtain ⟨X, HX⟩ : ∃ X, Hid (X = zs.getD L 0) := ⟨_, rfl⟩
      have bx : 0 ≤ X ∧ X ≤ 255 := by have := range_u8 HW.out L; rw [HX.out]; simpa using this
      rw [← HX.out] at hx1 hx2
      by_cases hW2 : W = 2
      · have hw2 : ((W : Int) == 2) = true := by simp [hW2]
        have hy1 := ho1.cellAt (1 - L) (by omega)
        rw [Hcs.out, cs_at zs k (1 - L) (by omega) (by have := HZ.out; omega)] at hy1
        have hy2 := ho2.cellAt L (by omega)
        rw [mRow_at zs W k L (by omega), show L = W - 1 - (1 - L) from by omega, mir_low zs W (1 - L) (by omega)] at hy2
        rw [show W - 1 - (1 - L) = L from by omega] at hy2
        obtain ⟨Y, HY⟩ : ∃ Y, Hid (Y = zs.getD (1 - L) 0) := ⟨_, rfl⟩
        have byy : 0 ≤ Y ∧ Y ≤ 255 := by have := range_u8 HW.out (1 - L); rw [HY.out]; simpa using this
        rw [← HY.out] at hy1 hy2
        have hWa : W ≤ 2 := by omega
        have hWb : 2 ≤ W := by omega
        have HW2 : Hid (W = 2) := hW2
        clear hW2 ho1 ho2 hown2' hown3
        go_wp2_with fail
        refine (unit_two a0 _ _ X Y w.heap.size _ _ _ hw2 (by omega) (by have := HW2.out; omega) (by omega) (by omega) (by omega) ?_ ?_ (by omega) (by omega) (by omega) (by omega)).mono ?_
        · simpa using hx1
        · rw [show (1 - (L : Int)).toNat = 1 - L from by omega]; exact hy1
        rintro e w4 ⟨rfl, hb4⟩
        go_wp2_with fail
        refine (unit_two a0 _ _ X Y G _ _ _ hw2 (by have := HW2.out; omega) (by have := HW2.out; omega) (by omega) (by omega) (by have := hb4.size; omega) ?_ ?_ (by omega) (by omega) (by omega) (by omega)).mono ?_
        · rw [show ((W : Int) - 1 - (L : Int)).toNat = W - 1 - L from by omega]
          exact (hb4.cell (by simpa using hGs)).trans hx2
        · rw [show (1 - ((W : Int) - 1 - (L : Int))).toNat = L from by have := HW2.out; omega]
          exact (hb4.cell (by simpa using hGs)).trans hy2
        rintro e w5 ⟨rfl, hb5⟩
        have hx3 : w5.cell? ⟨w.heap.size, L, none⟩ = some (.int .u8 X) := (hb5.cell (by have := hb4.size; simp; omega)).trans ((hb4.cell (by simp; omega)).trans hx1)
        have hy3 : w5.cell? ⟨w.heap.size, 1 - L, none⟩ = some (.int .u8 Y) := (hb5.cell (by have := hb4.size; simp; omega)).trans ((hb4.cell (by simp; omega)).trans hy1)
        go_wp2_with fail
        go_ret
        have hb : Below w.heap.size w w5 := (hB.trans (hb4.mono (by omega))).trans (hb5.mono (by have := hb4.size; omega))
        refine ⟨ret_bool ?_, hb⟩
        simp
        exact hi_two X Y bx.1 bx.2 byy.1 byy.2
      · have hw2 : ((W : Int) == 2) = false := by simp; omega
        clear ho1 ho2 hown2' hown3
        go_wp2_with fail
        refine (unit_other a0 _ _ X w.heap.size _ _ _ (by omega) (by omega) hw2 (by omega) (by omega) (by omega) ?_ (by omega) (by omega)).mono ?_
        · simpa using hx1
        rintro e w4 ⟨rfl, hb4⟩
        go_wp2_with fail
        refine (unit_other a0 _ _ X G _ _ _ (by omega) (by omega) hw2 (by omega) (by omega) (by have := hb4.size; omega) ?_ (by omega) (by omega)).mono ?_
        · rw [show ((W : Int) - 1 - (L : Int)).toNat = W - 1 - L from by omega]
          exact (hb4.cell (by simpa using hGs)).trans hx2
        rintro e w5 ⟨rfl, hb5⟩
        have hx3 : w5.cell? ⟨w.heap.size, L, none⟩ = some (.int .u8 X) := (hb5.cell (by have := hb4.size; simp; omega)).trans ((hb4.cell (by simp; omega)).trans hx1)
        go_wp2_with fail
        go_ret
        have hb : Below w.heap.size w w5 := (hB.trans (hb4.mono (by omega))).trans (hb5.mono (by have := hb4.size; omega))
        refine ⟨ret_bool ?_, hb⟩
        simp
        exact hi_other X bx.1 bx.2

/-- the ways on which a test ahead of the work says no -/
theorem walkOut (a0 : ByteArray) (a1 a2 : Int) (a3 : Option Addr) (len cap : Nat) (w : World) (w0 : a0.size ≤ maxLen) (hl : len ≤ maxLen)
    (h : 524288 < a0.size ∨ 524288 < len ∨ a1 < 1 ∨ a2 < 0 ∨ a1 ≤ a2 ∨ (len : Int) < a1) :
    Calls Try.prog 3 #[.string a0, .int .i64 a1, .int .i64 a2, .slice a3 len cap] w fun e w' => e = .returned (.bool true) ∧ Below w.heap.size w w' := by
  unfold maxLen at w0 hl
  by_cases c1 : 1048576 < a0.size
  · go_enter Try.func3, Try.ntmps3
    go_wp2
    go_ret
    exact ⟨rfl, Below.refl _ _⟩
  by_cases c2 : 1048576 < len
  · go_enter Try.func3, Try.ntmps3
    go_wp2
    go_ret
    exact ⟨rfl, Below.refl _ _⟩
  by_cases c3 : 1048576 < a0.size + len
  · go_enter Try.func3, Try.ntmps3
    go_wp2
    go_ret
    exact ⟨rfl, Below.refl _ _⟩
  by_cases c4 : 524288 < a0.size
  · clear h
    go_enter Try.func3, Try.ntmps3
    go_wp2
    go_ret
    exact ⟨rfl, Below.refl _ _⟩
  by_cases c5 : 524288 < len
  · clear h
    go_enter Try.func3, Try.ntmps3
    go_wp2
    go_ret
    exact ⟨rfl, Below.refl _ _⟩
  by_cases c6 : a1 < 1
  · clear h
    go_enter Try.func3, Try.ntmps3
    go_wp2
    go_ret
    exact ⟨rfl, Below.refl _ _⟩
  by_cases c7 : a2 < 0
  · clear h
    go_enter Try.func3, Try.ntmps3
    go_wp2
    go_ret
    exact ⟨rfl, Below.refl _ _⟩
  by_cases c8 : a1 ≤ a2
  · clear h
    go_enter Try.func3, Try.ntmps3
    go_wp2
    go_ret
    exact ⟨rfl, Below.refl _ _⟩
  have c9 : (len : Int) < a1 := by omega
  clear h
  go_enter Try.func3, Try.ntmps3
  go_wp2
  go_ret
  exact ⟨rfl, Below.refl _ _⟩

theorem walkAll (a0 : ByteArray) (a1 : Int) (a2 : Int) (a3 : Option Addr) (len3 cap3 : Nat) (z3 : List Int) (w : World) (w0 : a0.size ≤ maxLen) (w1 : (Lit.int .i64 a1).wf = true) (w2 : (Lit.int .i64 a2).wf = true) (w3 : IsRow .u8 w a3 len3 cap3 z3) :
    Calls Try.prog 3 #[.string a0, .int .i64 a1, .int .i64 a2, .slice a3 len3 cap3] w fun e w' => e = .returned (.bool true) ∧ Below w.heap.size w w' := by
  by_cases h : 524288 < a0.size ∨ 524288 < len3 ∨ a1 < 1 ∨ a2 < 0 ∨ a1 ≤ a2 ∨ (len3 : Int) < a1
  · refine walkOut a0 a1 a2 a3 len3 cap3 w w0 ?_ h
    rcases w3 with ⟨_, rfl, _⟩ | ⟨x, _, h1, h2, _⟩
    · unfold maxLen; omega
    · omega
  · rcases w3 with ⟨_, rfl, _⟩ | ⟨x, rfl, h1, h2, h3, h4, h5⟩
    · omega
    · obtain ⟨W, rfl⟩ := Int.eq_ofNat_of_zero_le (show 0 ≤ a1 by omega)
      obtain ⟨L, rfl⟩ := Int.eq_ofNat_of_zero_le (show 0 ≤ a2 by omega)
      exact walkMain a0 W L x len3 cap3 z3 w (by omega) (by omega) (by omega) (by omega) h1 h3 h4 h5
end Go.Proofs.Qxb6619459a.fnUnitMirroredEncodingAgrees
