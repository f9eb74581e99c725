import Derived.Test.Qxb6621646aUtoa
import Derived.WalkSpells
import Derived.WalkSmall
import Derived.Laws.AppendOwnNone
namespace Go.Proofs.Qxb6621646a.fnIsJSONNumberFormsAndSign
open Go.ChangeShapes Go.WideShapes Go.ChangeAt Go.RowKit Json JsonWalk
set_option linter.unusedVariables false
set_option linter.unusedSimpArgs false

/-- WHAT THE WALK IS TOLD OF A SLICE OF INTEGERS THAT CAME IN (as the given shell types it). -/
def IsRow (k : IntKind) (w : World) (a : Option Addr) (len cap : Nat) (zs : List Int) : Prop :=
  (a = none ∧ len = 0 ∧ cap = 0 ∧ zs = []) ∨
  ∃ x, a = some x ∧ len ≤ cap ∧ cap ≤ maxLen ∧ zs.length = cap ∧ (∀ i, i < zs.length → w.cell? (x.add i) = some (.int k (zs.getD i 0))) ∧ ∀ n ∈ zs, (Lit.int k n).wf = true

def Rng (l : List Int) : Prop := ∀ c ∈ l, 0 ≤ c ∧ c ≤ 255
theorem rng_append {l m : List Int} (hl : Rng l) (hm : Rng m) : Rng (l ++ m) := by
  intro c hc
  rw [List.mem_append] at hc
  rcases hc with hc | hc
  · exact hl c hc
  · exact hm c hc
theorem rng_cons {x : Int} {l : List Int} (hx : 0 ≤ x ∧ x ≤ 255) (hl : Rng l) : Rng (x :: l) := by
  intro c hc
  rw [List.mem_cons] at hc
  rcases hc with rfl | hc
  · exact hx
  · exact hl c hc
theorem rng_nil : Rng [] := by intro c hc; cases hc
theorem rng_udec (u : Nat) : Rng (udec u) := fun c hc => by have := udecF_range 20 u c hc; omega
theorem rng_idec (n : Int) : Rng (idec n) := by
  unfold idec
  split
  · exact rng_cons (by omega) (rng_udec _)
  · exact rng_udec _
theorem udec_len (u : Nat) : (udec u).length ≤ 20 := udecF_len 20 u
theorem idec_len (n : Int) : (idec n).length ≤ 21 := by
  unfold idec
  split
  · have := udec_len (-n).toNat; simp; omega
  · have := udec_len n.toNat; omega

theorem own_shape {w : World} {base : Nat} {v : Value} {n : Nat} {xs : List Value} (h : w.ownsRow base 5 1 v n xs) : ∃ a c, v = .slice a n c := by
  rcases h.2 with ⟨rfl, rfl⟩ | ⟨g, cap, cur, rfl, _⟩
  · exact ⟨_, _, rfl⟩
  · exact ⟨_, _, rfl⟩

theorem own_below_other {w w' : World} {base : Nat} {e : TypeId} {size g n cap : Nat} {xs : List Value} {row : Option Nat} (h : w.ownsRow base e size (.slice (some ⟨g, 0, none⟩) n cap) n xs) (hg : w.grownBy w' row) (hne : row ≠ some g) :
    w'.ownsRow base e size (.slice (some ⟨g, 0, none⟩) n cap) n xs :=
  h.kept hg (.inr (by simpa [Value.ownBlock] using Ne.symm hne))

theorem bytes_any (a : Option Addr) (n e : Int) (f : Nat) (len cap : Nat) (w : World) (hlen : len ≤ 65536) :
    Calls Try.prog 6 #[.slice a len cap, .int .i64 n, .int .u64 f, .int .i64 e] w fun e w' => e = .returned (.bool true) ∧ w = w' := by
  go_enter Try.func6, Try.ntmps6
  go_wp2
  go_ret
  exact ⟨rfl, rfl⟩

set_option maxRecDepth 100000 in
set_option maxHeartbeats 8000000 in
theorem walkMain (a : Option Addr) (n e : Int) (f : Nat) (len cap : Nat) (zs : List Int) (w : World) (hlen : len ≤ 65536) (row : IsRow .u8 w a len cap zs)
    (Hn : Hid (-9223372036854775808 ≤ n ∧ n < 9223372036854775808)) (He : Hid (-9223372036854775808 ≤ e ∧ e < 9223372036854775808)) (Hf : Hid (f < 18446744073709551616)) :
    Calls Try.prog 3 #[.slice a len cap, .int .i64 n, .int .u64 f, .int .i64 e] w fun e w' => e = .returned (.bool true) ∧ Below w.heap.size w w' := by
  obtain ⟨i0, hi, hz0, hz1, hz2⟩ := info_parts Try.info5
  have HnB : Hid (-(10 ^ 20 : Int) < n ∧ n < 10 ^ 20) := by have := Hn.out; exact ⟨by omega, by omega⟩
  have HeB : Hid (-(10 ^ 20 : Int) < e ∧ e < 10 ^ 20) := by have := He.out; exact ⟨by omega, by omega⟩
  have HfB : Hid (f < 10 ^ 20) := by have := Hf.out; show f < 10 ^ 20; omega
  have HROW := hide row
  obtain ⟨Z, HZ⟩ : ∃ Z, Hid (Z = zs.take len) := ⟨_, rfl⟩
  have hZl : Z.length = len := by
    rw [HZ.out]
    rcases row with ⟨_, rfl, _, rfl⟩ | ⟨x, _, h1, _, h3, _⟩
    · rfl
    · simp; omega
  have HZL := hide hZl
  have hZ65 : Z.length ≤ 65536 := by omega
  have HRZ : Hid (Rng Z) := by
    show Rng Z
    rw [HZ.out]
    rcases row with ⟨_, rfl, _, rfl⟩ | ⟨x, _, h1, _, h3, _, h5⟩
    · exact rng_nil
    · intro c hc; have := bounds_u8 (h5 c (List.mem_of_mem_take hc)); omega
  clear row hZl
  go_enter Try.func3, Try.ntmps3
  go_upto_region 5 with (go_at_call 6; refine (bytes_any _ _ _ _ _ _ _ hlen).mono ?_; rintro e1 w1 ⟨rfl, rfl⟩)
  go_cut [33] (fun s wc => s = .bool a.isSome ∧ w = wc)
  case first =>
    cases a
    · go_wp2
      go_meet
      case rel => exact ⟨rfl, rfl⟩
    · go_wp2
      go_meet
      case rel => exact ⟨rfl, rfl⟩
  case rest =>
    obtain ⟨rfl, rfl⟩ := hcut
    go_upto_if 33 with fail
    go_cut [0, 9] (fun v0 v9 wc => Below w.heap.size w wc ∧ Hid (wc.ownsRow w.heap.size 5 1 v0 Z.length (bv Z)))
    case first =>
      rcases HROW.out with ⟨rfl, rfl, rfl, rfl⟩ | ⟨x, rfl, hlc, hcm, hzl, hc, _⟩
      · go_wp2
        go_meet
        case rel => exact ⟨Below.refl _ _, by rw [HZ.out]; exact World.ownsRow_nil _ _ _ _⟩
      · have hcs : ∀ j v, (bv Z)[j]? = some v → w.cell? (x.add j) = some v := by
          intro j v hj
          rw [HZ.out] at hj
          simp only [bv, List.getElem?_map, List.getElem?_take, Option.map_eq_some_iff] at hj
          obtain ⟨u, hu, rfl⟩ := hj
          by_cases hjl : j < len
          · rw [if_pos hjl] at hu
            have hjz : j < zs.length := by omega
            rw [hc j hjz]
            simp [hu]
          · rw [if_neg hjl] at hu; cases hu
        have HC := hide hcs
        have HM : Hid ((bv Z).length = len) := by show _ = _; rw [bv_length, HZL.out]
        clear hcs hc hzl
        obtain ⟨cs, Hcs⟩ : ∃ cs : List Value, Hid (cs = bv Z) := ⟨bv Z, rfl⟩
        rw [← Hcs.out] at HC HM
        go_wp2_with (at_make; refine wpList_make_full _ rfl _ _ 22 rfl w.heap.size 5 i0 (.int .u8 0) 1 Try.underlying22 hi hz0 hz1 _ _ _ _ len rfl rfl rfl rfl ?_ ?_ ?_ ?_)
        · rw [hz2]; omega
        · unfold maxLen; omega
        · exact Nat.le_refl _
        intro w1 hown1 hgrow1
        rw [toList_madeCells_one] at hown1
        obtain ⟨-, hh⟩ := hown1
        have hh1 : w1.heap[w.heap.size]? = some (.cells (List.replicate len (Value.int .u8 0)).toArray 5 (0, 0)) := by
          rcases hh with ⟨hh, _⟩ | ⟨g, cp, cur, hv, _, hg, _, _, hsz, ht⟩
          · simp at hh
          · simp only [Value.slice.injEq, Option.some.injEq, Addr.mk.injEq, and_true, true_and] at hv
            obtain ⟨rfl, rfl⟩ := hv
            rw [hg, ← ht, List.take_of_length_le (by simp; omega)]
        have hb1 : Below w.heap.size w w1 := (Below.refl _ _).grown hgrow1 (Nat.le_refl _) (by simp)
        have HC1 : Hid (∀ j v, cs[j]? = some v → w1.cell? (x.add j) = some v) := by
          intro j v hj
          exact hgrow1.cell (HC.out j v hj) (by simp)
        have HH1 := hide hh1
        clear hh hgrow1 hh1
        go_wp2_with (first
          | (refine wpList_copy_splice rfl (.tmp 37) (.tmp 38) 22 22 rfl 5 Try.underlying22 Try.size5 _ _ _ _ _ _ rfl rfl w.heap.size 0 (List.replicate len (Value.int .u8 0)) 5 HH1.out cs (HM.out.trans (Nat.min_self len).symm) ?_ ?_ ?_ w.heap.size w hb1 (Nat.le_refl _) ?_))
        · intro _; exact HC1.out
        · have := HM.out; simp; omega
        · rw [Hcs.out]; exact ints_oneCell _ _
        intro w2 HG2 hB2
        have hsp : splice (List.replicate len (Value.int .u8 0)) 0 cs = cs := by
          have := HM.out; unfold splice; simp; omega
        have hcl : cs.length = len := HM.out
        have hown2 : w2.ownsRow w.heap.size 5 1 (.slice (some ⟨w.heap.size, 0, none⟩) len len) len cs :=
          ⟨by omega, .inr ⟨w.heap.size, len, cs.toArray, rfl, Nat.le_refl _, by rw [HG2.out, hsp], Nat.le_refl _, by unfold maxLen; omega, by simp; omega, by rw [List.toList_toArray]; exact List.take_of_length_le (by omega)⟩⟩
        have HOW := hide hown2
        clear HC1 HH1 HG2 hsp hcl hb1 hown2
        go_wp2
        go_meet
        case rel => exact ⟨hB2, own_eq HOW.out HZL.out.symm Hcs.out⟩
    case rest =>
      obtain ⟨hB, HOz⟩ := hcut
      have hz' := own_shape HOz.out
      obtain ⟨az, cz, rfl⟩ := hz'
      go_wp2_with fail
      refine (itoa_any wc.heap.size (.slice none 0 0) [] n wc (World.ownsRow_nil _ _ _ _) (by simp) (Nat.le_refl _) Hn).mono ?_
      rintro e1 W1 ⟨v1, rfl, ho, hb1⟩
      obtain ⟨L1, HL1⟩ : ∃ L : List Int, Hid (L = idec n) := ⟨idec n, rfl⟩
      have HR1 : Hid (Rng L1) := by show Rng _; rw [HL1.out]; exact rng_idec n
      rw [List.nil_append, ← HL1.out] at ho
      have hl1 : L1.length ≤ 21 := by rw [HL1.out]; exact idec_len n
      have HO1 := hide ho
      have hs1 := hb1.size
      clear ho
      replace HOz := hide (own_below HOz.out hb1)
      replace hB := hB.trans (hb1.mono hB.size)
      clear hb1 hs1
      go_wp2_with fail
      refine (itoa_any W1.heap.size (.slice none 0 0) [] n W1 (World.ownsRow_nil _ _ _ _) (by simp) (Nat.le_refl _) Hn).mono ?_
      rintro e1 W2 ⟨v2, rfl, ho, hb2⟩
      obtain ⟨L2, HL2⟩ : ∃ L : List Int, Hid (L = idec n) := ⟨idec n, rfl⟩
      have HR2 : Hid (Rng L2) := by show Rng _; rw [HL2.out]; exact rng_idec n
      rw [List.nil_append, ← HL2.out] at ho
      have hl2 : L2.length ≤ 21 := by rw [HL2.out]; exact idec_len n
      have HO2 := hide ho
      have hs2 := hb2.size
      clear ho
      go_wp2_with (at_builtin; refine wpList_append_own_at _ rfl (.tmp 44) (.tmp 45) 22 rfl W1.heap.size 5 i0 (.int .u8 0) 1 1 Try.underlying22 hi hz0 hz1 hz2 rfl (by decide) v2 L2.length (bv L2) rfl (HO2.out.alloc _) ⟨W2.heap.size, 0, none⟩ 1 1 [.int .u8 46] rfl rfl (cell_one_new _ _ _) ?_ ?_ ?_ ?_ ?_)
      · first | rfl | (intro u hu; simp at hu; subst hu; rfl)
      · unfold maxLen; omega
      · omega
      · simp; omega
      intro v3 W3 hown1 hgrow1 _ _
      obtain ⟨L3, HL3⟩ : ∃ L : List Int, Hid (L = L2 ++ [46]) := ⟨L2 ++ [46], rfl⟩
      have HR3 : Hid (Rng L3) := by show Rng _; rw [HL3.out]; exact rng_append HR2.out (rng_cons (by omega) rng_nil)
      have HO3 := hide (own_eq (n' := L3.length) (xs' := bv L3) hown1 (by rw [HL3.out]; simp) (by rw [HL3.out]; simp [bv]))
      have hb3 : Below W1.heap.size W1 W3 := (hb2.alloc hs2 _).grown hgrow1 (by simp; omega) (fun r hr => (HO2.out.lt r hr).1)
      have hs3 := hb3.size
      have hl3 : L3.length ≤ 22 := by rw [HL3.out, List.length_append]; simp only [List.length_cons, List.length_nil]; omega
      clear hown1 hgrow1 HO2 hb2 hs2
      go_wp2_with fail
      refine (utoa_any W1.heap.size v3 L3 f W3 HO3.out (by omega) (by omega) Hf).mono ?_
      rintro e1 W4 ⟨v4, rfl, ho, hbx⟩
      obtain ⟨L4, HL4⟩ : ∃ L : List Int, Hid (L = L3 ++ udec f) := ⟨L3 ++ udec f, rfl⟩
      have HR4 : Hid (Rng L4) := by show Rng _; rw [HL4.out]; exact rng_append HR3.out (rng_udec f)
      rw [← HL4.out] at ho
      have hl4 : L4.length ≤ 43 := by rw [HL4.out]; simp; have := udec_len f; omega
      have HO4 := hide ho
      have hb4 := hb3.trans hbx
      have hs4 := hb4.size
      clear ho hbx HO3 hb3 hs3
      replace HO1 := hide (own_below HO1.out hb4)
      replace HOz := hide (own_below HOz.out hb4)
      replace hB := hB.trans (hb4.mono hB.size)
      clear hb4 hs4
      go_wp2_with fail
      refine (itoa_any W4.heap.size (.slice none 0 0) [] n W4 (World.ownsRow_nil _ _ _ _) (by simp) (Nat.le_refl _) Hn).mono ?_
      rintro e1 W5 ⟨v5, rfl, ho, hb5⟩
      obtain ⟨L5, HL5⟩ : ∃ L : List Int, Hid (L = idec n) := ⟨idec n, rfl⟩
      have HR5 : Hid (Rng L5) := by show Rng _; rw [HL5.out]; exact rng_idec n
      rw [List.nil_append, ← HL5.out] at ho
      have hl5 : L5.length ≤ 21 := by rw [HL5.out]; exact idec_len n
      have HO5 := hide ho
      have hs5 := hb5.size
      clear ho
      go_wp2_with (at_builtin; refine wpList_append_own_at _ rfl (.tmp 50) (.tmp 51) 22 rfl W4.heap.size 5 i0 (.int .u8 0) 1 1 Try.underlying22 hi hz0 hz1 hz2 rfl (by decide) v5 L5.length (bv L5) rfl (HO5.out.alloc _) ⟨W5.heap.size, 0, none⟩ 1 1 [.int .u8 46] rfl rfl (cell_one_new _ _ _) ?_ ?_ ?_ ?_ ?_)
      · first | rfl | (intro u hu; simp at hu; subst hu; rfl)
      · unfold maxLen; omega
      · omega
      · simp; omega
      intro v6 W6 hown1 hgrow1 _ _
      obtain ⟨L6, HL6⟩ : ∃ L : List Int, Hid (L = L5 ++ [46]) := ⟨L5 ++ [46], rfl⟩
      have HR6 : Hid (Rng L6) := by show Rng _; rw [HL6.out]; exact rng_append HR5.out (rng_cons (by omega) rng_nil)
      have HO6 := hide (own_eq (n' := L6.length) (xs' := bv L6) hown1 (by rw [HL6.out]; simp) (by rw [HL6.out]; simp [bv]))
      have hb6 : Below W4.heap.size W4 W6 := (hb5.alloc hs5 _).grown hgrow1 (by simp; omega) (fun r hr => (HO5.out.lt r hr).1)
      have hs6 := hb6.size
      have hl6 : L6.length ≤ 22 := by rw [HL6.out, List.length_append]; simp only [List.length_cons, List.length_nil]; omega
      clear hown1 hgrow1 HO5 hb5 hs5
      go_wp2_with fail
      refine (utoa_any W4.heap.size v6 L6 f W6 HO6.out (by omega) (by omega) Hf).mono ?_
      rintro e1 W7 ⟨v7, rfl, ho, hbx⟩
      obtain ⟨L7, HL7⟩ : ∃ L : List Int, Hid (L = L6 ++ udec f) := ⟨L6 ++ udec f, rfl⟩
      have HR7 : Hid (Rng L7) := by show Rng _; rw [HL7.out]; exact rng_append HR6.out (rng_udec f)
      rw [← HL7.out] at ho
      have hl7 : L7.length ≤ 43 := by rw [HL7.out]; simp; have := udec_len f; omega
      have HO7 := hide ho
      have hb7 := hb6.trans hbx
      have hs7 := hb7.size
      clear ho hbx HO6 hb6 hs6
      go_wp2_with (at_builtin; refine wpList_append_own_at _ rfl (.tmp 54) (.tmp 55) 22 rfl W4.heap.size 5 i0 (.int .u8 0) 1 1 Try.underlying22 hi hz0 hz1 hz2 rfl (by decide) v7 L7.length (bv L7) rfl (HO7.out.alloc _) ⟨W7.heap.size, 0, none⟩ 1 1 [.int .u8 101] rfl rfl (cell_one_new _ _ _) ?_ ?_ ?_ ?_ ?_)
      · first | rfl | (intro u hu; simp at hu; subst hu; rfl)
      · unfold maxLen; omega
      · omega
      · simp; omega
      intro v8 W8 hown1 hgrow1 _ _
      obtain ⟨L8, HL8⟩ : ∃ L : List Int, Hid (L = L7 ++ [101]) := ⟨L7 ++ [101], rfl⟩
      have HR8 : Hid (Rng L8) := by show Rng _; rw [HL8.out]; exact rng_append HR7.out (rng_cons (by omega) rng_nil)
      have HO8 := hide (own_eq (n' := L8.length) (xs' := bv L8) hown1 (by rw [HL8.out]; simp) (by rw [HL8.out]; simp [bv]))
      have hb8 : Below W4.heap.size W4 W8 := (hb7.alloc hs7 _).grown hgrow1 (by simp; omega) (fun r hr => (HO7.out.lt r hr).1)
      have hs8 := hb8.size
      have hl8 : L8.length ≤ 44 := by rw [HL8.out, List.length_append]; simp only [List.length_cons, List.length_nil]; omega
      clear hown1 hgrow1 HO7 hb7 hs7
      go_wp2_with fail
      refine (itoa_any W4.heap.size v8 L8 e W8 HO8.out (by omega) (by omega) He).mono ?_
      rintro e1 W9 ⟨v9, rfl, ho, hbx⟩
      obtain ⟨L9, HL9⟩ : ∃ L : List Int, Hid (L = L8 ++ idec e) := ⟨L8 ++ idec e, rfl⟩
      have HR9 : Hid (Rng L9) := by show Rng _; rw [HL9.out]; exact rng_append HR8.out (rng_idec e)
      rw [← HL9.out] at ho
      have hl9 : L9.length ≤ 65 := by rw [HL9.out]; simp; have := idec_len e; omega
      have HO9 := hide ho
      have hb9 := hb8.trans hbx
      have hs9 := hb9.size
      clear ho hbx HO8 hb8 hs8
      replace HO1 := hide (own_below HO1.out hb9)
      replace HO4 := hide (own_below HO4.out hb9)
      replace HOz := hide (own_below HOz.out hb9)
      replace hB := hB.trans (hb9.mono hB.size)
      clear hb9 hs9
      go_wp2_with fail
      refine (itoa_any W9.heap.size (.slice none 0 0) [] n W9 (World.ownsRow_nil _ _ _ _) (by simp) (Nat.le_refl _) Hn).mono ?_
      rintro e1 W10 ⟨v10, rfl, ho, hb10⟩
      obtain ⟨L10, HL10⟩ : ∃ L : List Int, Hid (L = idec n) := ⟨idec n, rfl⟩
      have HR10 : Hid (Rng L10) := by show Rng _; rw [HL10.out]; exact rng_idec n
      rw [List.nil_append, ← HL10.out] at ho
      have hl10 : L10.length ≤ 21 := by rw [HL10.out]; exact idec_len n
      have HO10 := hide ho
      have hs10 := hb10.size
      clear ho
      go_wp2_with (at_builtin; refine wpList_append_own_at _ rfl (.tmp 60) (.tmp 61) 22 rfl W9.heap.size 5 i0 (.int .u8 0) 1 1 Try.underlying22 hi hz0 hz1 hz2 rfl (by decide) v10 L10.length (bv L10) rfl (HO10.out.alloc _) ⟨W10.heap.size, 0, none⟩ 2 2 [.int .u8 69, .int .u8 43] rfl rfl (cell_two_new _ _ _ _) ?_ ?_ ?_ ?_ ?_)
      · first | exact ⟨rfl, rfl⟩ | (intro u hu; simp at hu; rcases hu with rfl | rfl <;> rfl) | trivial
      · unfold maxLen; omega
      · omega
      · simp; omega
      intro v11 W11 hown1 hgrow1 _ _
      obtain ⟨L11, HL11⟩ : ∃ L : List Int, Hid (L = L10 ++ [69, 43]) := ⟨L10 ++ [69, 43], rfl⟩
      have HR11 : Hid (Rng L11) := by show Rng _; rw [HL11.out]; exact rng_append HR10.out (rng_cons (by omega) (rng_cons (by omega) rng_nil))
      have HO11 := hide (own_eq (n' := L11.length) (xs' := bv L11) hown1 (by rw [HL11.out]; simp) (by rw [HL11.out]; simp [bv]))
      have hb11 : Below W9.heap.size W9 W11 := (hb10.alloc hs10 _).grown hgrow1 (by simp; omega) (fun r hr => (HO10.out.lt r hr).1)
      have hs11 := hb11.size
      have hl11 : L11.length ≤ 23 := by rw [HL11.out, List.length_append]; simp only [List.length_cons, List.length_nil]; omega
      clear hown1 hgrow1 HO10 hb10 hs10
      go_wp2_with fail
      refine (utoa_any W9.heap.size v11 L11 f W11 HO11.out (by omega) (by omega) Hf).mono ?_
      rintro e1 W12 ⟨v12, rfl, ho, hbx⟩
      obtain ⟨L12, HL12⟩ : ∃ L : List Int, Hid (L = L11 ++ udec f) := ⟨L11 ++ udec f, rfl⟩
      have HR12 : Hid (Rng L12) := by show Rng _; rw [HL12.out]; exact rng_append HR11.out (rng_udec f)
      rw [← HL12.out] at ho
      have hl12 : L12.length ≤ 44 := by rw [HL12.out]; simp; have := udec_len f; omega
      have HO12 := hide ho
      have hb12 := hb11.trans hbx
      have hs12 := hb12.size
      clear ho hbx HO11 hb11 hs11
      replace HO1 := hide (own_below HO1.out hb12)
      replace HO4 := hide (own_below HO4.out hb12)
      replace HO9 := hide (own_below HO9.out hb12)
      replace HOz := hide (own_below HOz.out hb12)
      replace hB := hB.trans (hb12.mono hB.size)
      clear hb12 hs12
      go_wp2_with fail
      refine (isjson_own _ v1 L1 true W12 HO1.out (by omega) HR1.out (by rw [HL1.out]; (try simp only [List.append_assoc, List.cons_append, List.nil_append]); exact form_whole n HnB.out)).mono ?_
      rintro e1 W13 ⟨rfl, hbx⟩
      clear HO1
      replace HO4 := hide (own_below HO4.out hbx)
      replace HO9 := hide (own_below HO9.out hbx)
      replace HO12 := hide (own_below HO12.out hbx)
      replace HOz := hide (own_below HOz.out hbx)
      replace hB := hB.trans (hbx.mono hB.size)
      clear hbx
      go_wp2_with fail
      refine (isjson_own _ v4 L4 true W13 HO4.out (by omega) HR4.out (by rw [HL4.out, HL3.out, HL2.out]; (try simp only [List.append_assoc, List.cons_append, List.nil_append]); exact form_frac n HnB.out f HfB.out)).mono ?_
      rintro e1 W14 ⟨rfl, hbx⟩
      clear HO4
      replace HO9 := hide (own_below HO9.out hbx)
      replace HO12 := hide (own_below HO12.out hbx)
      replace HOz := hide (own_below HOz.out hbx)
      replace hB := hB.trans (hbx.mono hB.size)
      clear hbx
      go_wp2_with fail
      refine (isjson_own _ v9 L9 true W14 HO9.out (by omega) HR9.out (by rw [HL9.out, HL8.out, HL7.out, HL6.out, HL5.out]; (try simp only [List.append_assoc, List.cons_append, List.nil_append]); exact form_exp n HnB.out f HfB.out e HeB.out)).mono ?_
      rintro e1 W15 ⟨rfl, hbx⟩
      clear HO9
      replace HO12 := hide (own_below HO12.out hbx)
      replace HOz := hide (own_below HOz.out hbx)
      replace hB := hB.trans (hbx.mono hB.size)
      clear hbx
      go_wp2_with fail
      refine (isjson_own _ v12 L12 true W15 HO12.out (by omega) HR12.out (by rw [HL12.out, HL11.out, HL10.out]; (try simp only [List.append_assoc, List.cons_append, List.nil_append]); exact form_upper n HnB.out f HfB.out)).mono ?_
      rintro e1 W16 ⟨rfl, hbx⟩
      clear HO12
      replace HOz := hide (own_below HOz.out hbx)
      replace hB := hB.trans (hbx.mono hB.size)
      clear hbx
      go_wp2_with fail
      refine (itoa_any W16.heap.size (.slice none 0 0) [] n W16 (World.ownsRow_nil _ _ _ _) (by simp) (Nat.le_refl _) Hn).mono ?_
      rintro e1 W17 ⟨v13, rfl, ho, hb13⟩
      obtain ⟨L13, HL13⟩ : ∃ L : List Int, Hid (L = idec n) := ⟨idec n, rfl⟩
      have HR13 : Hid (Rng L13) := by show Rng _; rw [HL13.out]; exact rng_idec n
      rw [List.nil_append, ← HL13.out] at ho
      have hl13 : L13.length ≤ 21 := by rw [HL13.out]; exact idec_len n
      have HO13 := hide ho
      have hs13 := hb13.size
      clear ho
      go_wp2_with (at_builtin; refine wpList_append_own_at _ rfl (.tmp 80) (.tmp 81) 22 rfl W16.heap.size 5 i0 (.int .u8 0) 1 1 Try.underlying22 hi hz0 hz1 hz2 rfl (by decide) v13 L13.length (bv L13) rfl (HO13.out.alloc _) ⟨W17.heap.size, 0, none⟩ 1 1 [.int .u8 46] rfl rfl (cell_one_new _ _ _) ?_ ?_ ?_ ?_ ?_)
      · first | rfl | (intro u hu; simp at hu; subst hu; rfl)
      · unfold maxLen; omega
      · omega
      · simp; omega
      intro v14 W18 hown1 hgrow1 _ _
      obtain ⟨L14, HL14⟩ : ∃ L : List Int, Hid (L = L13 ++ [46]) := ⟨L13 ++ [46], rfl⟩
      have HR14 : Hid (Rng L14) := by show Rng _; rw [HL14.out]; exact rng_append HR13.out (rng_cons (by omega) rng_nil)
      have HO14 := hide (own_eq (n' := L14.length) (xs' := bv L14) hown1 (by rw [HL14.out]; simp) (by rw [HL14.out]; simp [bv]))
      have hb14 : Below W16.heap.size W16 W18 := (hb13.alloc hs13 _).grown hgrow1 (by simp; omega) (fun r hr => (HO13.out.lt r hr).1)
      have hs14 := hb14.size
      have hl14 : L14.length ≤ 22 := by rw [HL14.out, List.length_append]; simp only [List.length_cons, List.length_nil]; omega
      clear hown1 hgrow1 HO13 hb13 hs13
      replace HOz := hide (own_below HOz.out hb14)
      replace hB := hB.trans (hb14.mono hB.size)
      clear hb14 hs14
      go_wp2_with fail
      refine (utoa_any W18.heap.size _ [46] f _ (World.ownsRow_lit W18 #[.int .u8 46] 1 (Nat.le_refl _) (by unfold maxLen; omega) rfl) (by simp) (by simp) Hf).mono ?_
      rintro e1 W19 ⟨v15, rfl, ho, hbx⟩
      obtain ⟨L15, HL15⟩ : ∃ L : List Int, Hid (L = [46] ++ udec f) := ⟨[46] ++ udec f, rfl⟩
      have HR15 : Hid (Rng L15) := by show Rng _; rw [HL15.out]; exact rng_append (rng_cons (by omega) rng_nil) (rng_udec f)
      rw [← HL15.out] at ho
      have hl15 : L15.length ≤ 21 := by rw [HL15.out]; simp; have := udec_len f; omega
      have HO15 := hide ho
      have hb15 : Below W18.heap.size W18 W19 := ((Below.refl _ _).alloc (Nat.le_refl _) _).trans hbx
      have hs15 := hb15.size
      clear ho hbx
      replace HO14 := hide (own_below HO14.out hb15)
      replace HOz := hide (own_below HOz.out hb15)
      replace hB := hB.trans (hb15.mono hB.size)
      clear hb15 hs15
      go_wp2_with fail
      refine (itoa_any W19.heap.size (.slice none 0 0) [] n W19 (World.ownsRow_nil _ _ _ _) (by simp) (Nat.le_refl _) Hn).mono ?_
      rintro e1 W20 ⟨v16, rfl, ho, hb16⟩
      obtain ⟨L16, HL16⟩ : ∃ L : List Int, Hid (L = idec n) := ⟨idec n, rfl⟩
      have HR16 : Hid (Rng L16) := by show Rng _; rw [HL16.out]; exact rng_idec n
      rw [List.nil_append, ← HL16.out] at ho
      have hl16 : L16.length ≤ 21 := by rw [HL16.out]; exact idec_len n
      have HO16 := hide ho
      have hs16 := hb16.size
      clear ho
      go_wp2_with (at_builtin; refine wpList_append_own_at _ rfl (.tmp 87) (.tmp 88) 22 rfl W19.heap.size 5 i0 (.int .u8 0) 1 1 Try.underlying22 hi hz0 hz1 hz2 rfl (by decide) v16 L16.length (bv L16) rfl (HO16.out.alloc _) ⟨W20.heap.size, 0, none⟩ 1 1 [.int .u8 101] rfl rfl (cell_one_new _ _ _) ?_ ?_ ?_ ?_ ?_)
      · first | rfl | (intro u hu; simp at hu; subst hu; rfl)
      · unfold maxLen; omega
      · omega
      · simp; omega
      intro v17 W21 hown1 hgrow1 _ _
      obtain ⟨L17, HL17⟩ : ∃ L : List Int, Hid (L = L16 ++ [101]) := ⟨L16 ++ [101], rfl⟩
      have HR17 : Hid (Rng L17) := by show Rng _; rw [HL17.out]; exact rng_append HR16.out (rng_cons (by omega) rng_nil)
      have HO17 := hide (own_eq (n' := L17.length) (xs' := bv L17) hown1 (by rw [HL17.out]; simp) (by rw [HL17.out]; simp [bv]))
      have hb17 : Below W19.heap.size W19 W21 := (hb16.alloc hs16 _).grown hgrow1 (by simp; omega) (fun r hr => (HO16.out.lt r hr).1)
      have hs17 := hb17.size
      have hl17 : L17.length ≤ 22 := by rw [HL17.out, List.length_append]; simp only [List.length_cons, List.length_nil]; omega
      clear hown1 hgrow1 HO16 hb16 hs16
      replace HO14 := hide (own_below HO14.out hb17)
      replace HO15 := hide (own_below HO15.out hb17)
      replace HOz := hide (own_below HOz.out hb17)
      replace hB := hB.trans (hb17.mono hB.size)
      clear hb17 hs17
      go_wp2_with fail
      refine (utoa_any W21.heap.size _ [48] f _ (World.ownsRow_lit W21 #[.int .u8 48] 1 (Nat.le_refl _) (by unfold maxLen; omega) rfl) (by simp) (by simp) Hf).mono ?_
      rintro e1 W22 ⟨v18, rfl, ho, hbx⟩
      obtain ⟨L18, HL18⟩ : ∃ L : List Int, Hid (L = [48] ++ udec f) := ⟨[48] ++ udec f, rfl⟩
      have HR18 : Hid (Rng L18) := by show Rng _; rw [HL18.out]; exact rng_append (rng_cons (by omega) rng_nil) (rng_udec f)
      rw [← HL18.out] at ho
      have hl18 : L18.length ≤ 21 := by rw [HL18.out]; simp; have := udec_len f; omega
      have HO18 := hide ho
      have hb18 : Below W21.heap.size W21 W22 := ((Below.refl _ _).alloc (Nat.le_refl _) _).trans hbx
      have hs18 := hb18.size
      clear ho hbx
      replace HO14 := hide (own_below HO14.out hb18)
      replace HO15 := hide (own_below HO15.out hb18)
      replace HO17 := hide (own_below HO17.out hb18)
      replace HOz := hide (own_below HOz.out hb18)
      replace hB := hB.trans (hb18.mono hB.size)
      clear hb18 hs18
      go_wp2_with fail
      refine (utoa_any W22.heap.size _ [43] f _ (World.ownsRow_lit W22 #[.int .u8 43] 1 (Nat.le_refl _) (by unfold maxLen; omega) rfl) (by simp) (by simp) Hf).mono ?_
      rintro e1 W23 ⟨v19, rfl, ho, hbx⟩
      obtain ⟨L19, HL19⟩ : ∃ L : List Int, Hid (L = [43] ++ udec f) := ⟨[43] ++ udec f, rfl⟩
      have HR19 : Hid (Rng L19) := by show Rng _; rw [HL19.out]; exact rng_append (rng_cons (by omega) rng_nil) (rng_udec f)
      rw [← HL19.out] at ho
      have hl19 : L19.length ≤ 21 := by rw [HL19.out]; simp; have := udec_len f; omega
      have HO19 := hide ho
      have hb19 : Below W22.heap.size W22 W23 := ((Below.refl _ _).alloc (Nat.le_refl _) _).trans hbx
      have hs19 := hb19.size
      clear ho hbx
      replace HO14 := hide (own_below HO14.out hb19)
      replace HO15 := hide (own_below HO15.out hb19)
      replace HO17 := hide (own_below HO17.out hb19)
      replace HO18 := hide (own_below HO18.out hb19)
      replace HOz := hide (own_below HOz.out hb19)
      replace hB := hB.trans (hb19.mono hB.size)
      clear hb19 hs19
      go_wp2_with fail
      refine (isjson_own _ v14 L14 false W23 HO14.out (by omega) HR14.out (by rw [HL14.out, HL13.out]; (try simp only [List.append_assoc, List.cons_append, List.nil_append]); exact form_bareDot n HnB.out)).mono ?_
      rintro e1 W24 ⟨rfl, hbx⟩
      clear HO14
      replace HO15 := hide (own_below HO15.out hbx)
      replace HO17 := hide (own_below HO17.out hbx)
      replace HO18 := hide (own_below HO18.out hbx)
      replace HO19 := hide (own_below HO19.out hbx)
      replace HOz := hide (own_below HOz.out hbx)
      replace hB := hB.trans (hbx.mono hB.size)
      clear hbx
      go_wp2_with fail
      refine (isjson_own _ v15 L15 false W24 HO15.out (by omega) HR15.out (by rw [HL15.out]; (try simp only [List.append_assoc, List.cons_append, List.nil_append]); exact form_leadDot f)).mono ?_
      rintro e1 W25 ⟨rfl, hbx⟩
      clear HO15
      replace HO17 := hide (own_below HO17.out hbx)
      replace HO18 := hide (own_below HO18.out hbx)
      replace HO19 := hide (own_below HO19.out hbx)
      replace HOz := hide (own_below HOz.out hbx)
      replace hB := hB.trans (hbx.mono hB.size)
      clear hbx
      go_wp2_with fail
      refine (isjson_own _ v17 L17 false W25 HO17.out (by omega) HR17.out (by rw [HL17.out, HL16.out]; (try simp only [List.append_assoc, List.cons_append, List.nil_append]); exact form_bareExp n HnB.out)).mono ?_
      rintro e1 W26 ⟨rfl, hbx⟩
      clear HO17
      replace HO18 := hide (own_below HO18.out hbx)
      replace HO19 := hide (own_below HO19.out hbx)
      replace HOz := hide (own_below HOz.out hbx)
      replace hB := hB.trans (hbx.mono hB.size)
      clear hbx
      go_wp2_with fail
      refine (isjson_own _ v18 L18 false W26 HO18.out (by omega) HR18.out (by rw [HL18.out]; (try simp only [List.append_assoc, List.cons_append, List.nil_append]); exact form_leadZero f HfB.out)).mono ?_
      rintro e1 W27 ⟨rfl, hbx⟩
      clear HO18
      replace HO19 := hide (own_below HO19.out hbx)
      replace HOz := hide (own_below HOz.out hbx)
      replace hB := hB.trans (hbx.mono hB.size)
      clear hbx
      go_wp2_with fail
      refine (isjson_own _ v19 L19 false W27 HO19.out (by omega) HR19.out (by rw [HL19.out]; (try simp only [List.append_assoc, List.cons_append, List.nil_append]); exact form_plus f)).mono ?_
      rintro e1 W28 ⟨rfl, hbx⟩
      clear HO19
      replace HOz := hide (own_below HOz.out hbx)
      replace hB := hB.trans (hbx.mono hB.size)
      clear hbx
      have HOzS := HOz
      go_wp2_with (at_make; refine wpList_make_own _ rfl _ _ 22 rfl W28.heap.size 5 i0 (.int .u8 0) 1 Try.underlying22 hi hz0 hz1 _ _ _ (Z.length + 1) rfl rfl (by omega) ?_ ?_ ?_ ?_)
      · rw [hz2]; omega
      · unfold maxLen; omega
      · exact Nat.le_refl _
      intro W29 hown1 hgrow1
      obtain ⟨v20, hv⟩ : ∃ v : Value, Hid (v = .slice (some ⟨W28.heap.size, 0, none⟩) 0 (Z.length + 1)) := ⟨_, rfl⟩
      rw [← hv.out] at hown1
      rw [← hv.out]
      obtain ⟨L20, HL20⟩ : ∃ L : List Int, Hid (L = []) := ⟨[], rfl⟩
      have HR20 : Hid (Rng L20) := by show Rng _; rw [HL20.out]; exact rng_nil
      have HO20 : Hid (W29.ownsRow W28.heap.size 5 1 v20 L20.length (bv L20)) := own_eq hown1 (by rw [HL20.out]; rfl) (by rw [HL20.out]; rfl)
      have hb20 : Below W28.heap.size W28 W29 := (Below.refl _ _).grown hgrow1 (Nat.le_refl _) (by simp)
      have hs20 := hb20.size
      have hl20 : L20.length ≤ 0 := by rw [HL20.out]; simp
      clear hown1 hgrow1 hv
      go_wp2_with (at_builtin; refine wpList_append_own_at _ rfl (.tmp 123) (.tmp 124) 22 rfl W28.heap.size 5 i0 (.int .u8 0) 1 1 Try.underlying22 hi hz0 hz1 hz2 rfl (by decide) v20 L20.length (bv L20) rfl (HO20.out.alloc _) ⟨W29.heap.size, 0, none⟩ 1 1 [.int .u8 45] rfl rfl (cell_one_new _ _ _) ?_ ?_ ?_ ?_ ?_)
      · first | rfl | (intro u hu; simp at hu; subst hu; rfl)
      · unfold maxLen; omega
      · omega
      · simp; omega
      intro v21 W30 hown1 hgrow1 _ _
      obtain ⟨L21, HL21⟩ : ∃ L : List Int, Hid (L = L20 ++ [45]) := ⟨L20 ++ [45], rfl⟩
      have HR21 : Hid (Rng L21) := by show Rng _; rw [HL21.out]; exact rng_append HR20.out (rng_cons (by omega) rng_nil)
      have HO21 := hide (own_eq (n' := L21.length) (xs' := bv L21) hown1 (by rw [HL21.out]; simp) (by rw [HL21.out]; simp [bv]))
      have hb21 : Below W28.heap.size W28 W30 := (hb20.alloc hs20 _).grown hgrow1 (by simp; omega) (fun r hr => (HO20.out.lt r hr).1)
      have hs21 := hb21.size
      have hl21 : L21.length ≤ 1 := by rw [HL21.out, List.length_append]; simp only [List.length_cons, List.length_nil]; omega
      clear hown1 hgrow1 HO20 hb20 hs20
      replace HOz := hide (own_below HOz.out hb21)
      rcases HOz.out.2 with ⟨hnil, hz00⟩ | ⟨gz, cpz, curz, hnil, _⟩
      · obtain ⟨rfl, rfl⟩ : az = none ∧ cz = 0 := by simp at hnil; exact ⟨hnil.1, hnil.2.2⟩
        obtain rfl : Z = [] := List.eq_nil_of_length_eq_zero hz00
        go_wp2_with (at_builtin; refine wpList_append_own_none rfl (.tmp 126) (.tmp 127) 22 rfl W28.heap.size 5 i0 1 Try.underlying22 hi v21 L21.length (bv L21) rfl HO21.out rfl ?_)
        replace hB := hB.trans (hb21.mono hB.size)
        go_wp2_with fail
        refine (isjson_own _ v21 L21 false W30 HO21.out (by omega) HR21.out (by rw [HL21.out, HL20.out]; rfl)).mono ?_
        rintro e1 W31 ⟨rfl, hbx⟩
        replace HOz := hide (own_below HOz.out hbx)
        replace hB := hB.trans (hbx.mono hB.size)
        go_wp2_with fail
        refine (isjson_nil W31).mono ?_
        rintro e1 W32 ⟨rfl, hby⟩
        replace hB := hB.trans (hby.mono hB.size)
        go_wp2_with fail
        go_ret
        exact ⟨rfl, hB⟩
      · obtain ⟨rfl, rfl⟩ : az = some ⟨gz, 0, none⟩ ∧ cz = cpz := by simp at hnil; exact ⟨hnil.1, hnil.2⟩
        have HNZ : Hid (∀ j u, (bv Z)[j]? = some u → W30.cell? ((⟨gz, 0, none⟩ : Addr).add j) = some u) := HOz.out.cells rfl
        clear hnil
        go_wp2_with (at_builtin; refine wpList_append_own_at _ rfl (.tmp 126) (.tmp 127) 22 rfl W28.heap.size 5 i0 (.int .u8 0) 1 1 Try.underlying22 hi hz0 hz1 hz2 rfl (by decide) v21 L21.length (bv L21) rfl HO21.out ⟨gz, 0, none⟩ Z.length cz (bv Z) rfl ?_ HNZ.out ?_ ?_ ?_ ?_ ?_)
        · rw [bv_length, Nat.mul_one]
        · exact ints_oneCell _ _
        · unfold maxLen; omega
        · omega
        · first | omega | (simp; omega)
        intro v22 W33 hown1 hgrow1 _ _
        obtain ⟨L22, HL22⟩ : ∃ L : List Int, Hid (L = L21 ++ Z) := ⟨L21 ++ Z, rfl⟩
        have HR22 : Hid (Rng L22) := by show Rng _; rw [HL22.out]; exact rng_append HR21.out HRZ.out
        have HO22 := hide (own_eq (n' := L22.length) (xs' := bv L22) hown1 (by rw [HL22.out]; simp) (by rw [HL22.out, bv_append]))
        have hb22 : Below W28.heap.size W28 W33 := hb21.grown hgrow1 (by first | omega | (simp; omega)) (fun r hr => (HO21.out.lt r hr).1)
        have hzb := (HOz.out.lt gz rfl).2
        replace HOz := hide (own_below_other HOz.out hgrow1 (by intro e2; have h1 := (HO21.out.lt gz e2).1; have h2 := (HOzS.out.lt gz rfl).2; omega))
        replace hB := hB.trans (hb22.mono hB.size)
        clear hown1 hgrow1 HNZ HO21 hb21 hs21 hb22
        have hcell0 : 0 < Z.length → W33.cell? ⟨gz, 0, none⟩ = some (.int .u8 (Z.getD 0 0)) := by
          intro h0
          rw [HOz.out.cellAt 0 (by omega)]
          simp [bv, h0]
        by_cases h0 : 0 < Z.length
        · have hc0 := hcell0 h0
          clear hcell0
          obtain ⟨c, HC⟩ : ∃ c, Hid (c = Z.getD 0 0) := ⟨_, rfl⟩
          rw [← HC.out] at hc0
          have hrc : 0 ≤ c ∧ c ≤ 255 := by rw [HC.out]; have := HRZ.out Z[0] (List.getElem_mem h0); simpa [h0] using this
          have HZ0 : Hid (Z = c :: Z.drop 1) := by have := drop_at Z 0 h0; rw [← HC.out] at this; show Z = _; simpa using this
          cases h45 : (c == 45)
          · have H45 : Hid (c ≠ 45) := by show c ≠ 45; simpa using h45
            go_wp2_with fail
            refine (isjson_own _ v22 L22 (P1 Z) W33 HO22.out (by rw [HL22.out, List.length_append]; omega) HR22.out (by rw [HL22.out, HL21.out, HL20.out]; exact form_minus Z (by rw [HZ0.out]; simpa using H45.out))).mono ?_
            rintro e1 W34 ⟨rfl, hbx⟩
            replace HOz := hide (own_below HOz.out hbx)
            replace hB := hB.trans (hbx.mono hB.size)
            clear hbx
            go_wp2_with fail
            refine (isjson_own _ _ Z (P1 Z) W34 HOz.out (by omega) HRZ.out rfl).mono ?_
            rintro e1 W35 ⟨rfl, hby⟩
            replace hB := hB.trans (hby.mono hB.size)
            clear hby
            go_wp2_with fail
            go_ret
            exact ⟨ret_bool (by simp), hB⟩
          · have H45 : Hid (c = 45) := by show c = 45; simpa using h45
            go_wp2_with fail
            refine (isjson_own _ v22 L22 false W33 HO22.out (by rw [HL22.out, List.length_append]; omega) HR22.out (by rw [HL22.out, HL21.out, HL20.out, HZ0.out, H45.out]; exact form_minus2 _)).mono ?_
            rintro e1 W34 ⟨rfl, hbx⟩
            replace hB := hB.trans (hbx.mono hB.size)
            go_wp2_with fail
            go_ret
            exact ⟨rfl, hB⟩
        · clear hcell0
          obtain rfl : Z = [] := List.eq_nil_of_length_eq_zero (by omega)
          go_wp2_with fail
          refine (isjson_own _ v22 L22 false W33 HO22.out (by rw [HL22.out, List.length_append]; omega) HR22.out (by rw [HL22.out, HL21.out, HL20.out]; rfl)).mono ?_
          rintro e1 W34 ⟨rfl, hbx⟩
          replace HOz := hide (own_below HOz.out hbx)
          replace hB := hB.trans (hbx.mono hB.size)
          clear hbx
          go_wp2_with fail
          refine (isjson_own _ _ [] false W34 HOz.out (by simp) rng_nil rfl).mono ?_
          rintro e1 W35 ⟨rfl, hby⟩
          replace hB := hB.trans (hby.mono hB.size)
          clear hby
          go_wp2_with fail
          go_ret
          exact ⟨rfl, hB⟩

theorem walkOut (a : Option Addr) (n e : Int) (f : Nat) (len cap : Nat) (w : World) (hl : len ≤ maxLen) (h : 65536 < len) :
    Calls Try.prog 3 #[.slice a len cap, .int .i64 n, .int .u64 f, .int .i64 e] w fun e w' => e = .returned (.bool true) ∧ Below w.heap.size w w' := by
  unfold maxLen at hl
  by_cases c1 : 1048576 < len
  · go_enter Try.func3, Try.ntmps3
    go_wp2
    go_ret
    exact ⟨rfl, Below.refl _ _⟩
  · go_enter Try.func3, Try.ntmps3
    go_wp2
    go_ret
    exact ⟨rfl, Below.refl _ _⟩

theorem walkAll (a0 : Option Addr) (len0 cap0 : Nat) (z0 : List Int) (a1 : Int) (a2 : Int) (a3 : Int) (w : World) (w0 : IsRow .u8 w a0 len0 cap0 z0) (w1 : (Lit.int .i64 a1).wf = true) (w2 : (Lit.int .u64 a2).wf = true) (w3 : (Lit.int .i64 a3).wf = true) :
    Calls Try.prog 3 #[.slice a0 len0 cap0, .int .i64 a1, .int .u64 a2, .int .i64 a3] w fun e w' => e = .returned (.bool true) ∧ Below w.heap.size w w' := by
  have b1 := bounds_i64 w1
  have b3 := bounds_i64 w3
  have b2 : 0 ≤ a2 ∧ a2 < 18446744073709551616 := by
    simp [Lit.wf, IntKind.min, IntKind.max, IntKind.signed, IntKind.bits] at w2
    omega
  obtain ⟨f, rfl⟩ := Int.eq_ofNat_of_zero_le b2.1
  by_cases h : 65536 < len0
  · refine walkOut a0 a1 a3 f len0 cap0 w ?_ h
    rcases w0 with ⟨_, rfl, _⟩ | ⟨x, _, h1, h2, _⟩
    · omega
    · omega
  · exact walkMain a0 a1 a3 f len0 cap0 z0 w (by omega) w0 ⟨by omega, by omega⟩ ⟨by omega, by omega⟩ (by show f < _; omega)
end Go.Proofs.Qxb6621646a.fnIsJSONNumberFormsAndSign
