import Derived.Test.Qxb6619459aRows
import Derived.WalkKit
import Derived.ProofKit
import Derived.WalkLawsBesides
import Derived.OpenShut
import Derived.Maps.AppendAt
import Derived.Laws.BytesArg
namespace Go.Proofs.Qxb6619459a.JoinWalk
open Go.ChangeShapes Go.WideShapes Go.ChangeAt Go.RowKit
set_option linter.unusedVariables false

theorem Try.info5 : (Try.prog.info? 5).map (fun i => (i.zero, i.size, i.bytes)) = some (some (.int .u8 0), 1, 1) := by kernel_rfl

/-- bytes as cells -/
def bv (l : List UInt8) : List Value := l.map fun b => .int .u8 (b.toNat : Int)
theorem bv_append (l m : List UInt8) : bv (l ++ m) = bv l ++ bv m := by simp [bv]
theorem bv_length (l : List UInt8) : (bv l).length = l.length := by simp [bv]

/-- one segment more -/
def dstep (st : Bool × List UInt8) (s : List UInt8) : Bool × List UInt8 :=
  if st.1 then (true, st.2 ++ 46 :: s) else if s = [] then st else (true, st.2 ++ s)
/-- after k segments -/
def dst (a b c : ByteArray) : Nat → Bool × List UInt8
  | 0 => (false, [])
  | 1 => dstep (false, []) a.data.toList
  | 2 => dstep (dstep (false, []) a.data.toList) b.data.toList
  | _ => dstep (dstep (dstep (false, []) a.data.toList) b.data.toList) c.data.toList
def seg (a b c : ByteArray) : Nat → ByteArray
  | 0 => a
  | 1 => b
  | _ => c
theorem dst_succ (a b c : ByteArray) (k : Nat) (h : k < 3) : dst a b c (k + 1) = dstep (dst a b c k) (seg a b c k).data.toList := by
  match k, h with
  | 0, _ => rfl
  | 1, _ => rfl
  | 2, _ => rfl
theorem dstep_len (st : Bool × List UInt8) (s : List UInt8) : (dstep st s).2.length ≤ st.2.length + s.length + 1 := by
  unfold dstep
  split
  · simp; omega
  · split
    · omega
    · simp
theorem dst_len (a b c : ByteArray) (k : Nat) : (dst a b c k).2.length ≤ a.size + b.size + c.size + 3 := by
  have ha : a.data.toList.length = a.size := rfl
  have hb : b.data.toList.length = b.size := rfl
  have hc : c.data.toList.length = c.size := rfl
  have h1 := dstep_len (false, []) a.data.toList
  have h2 := dstep_len (dstep (false, []) a.data.toList) b.data.toList
  have h3 := dstep_len (dstep (dstep (false, []) a.data.toList) b.data.toList) c.data.toList
  match k with
  | 0 => show 0 ≤ _; omega
  | 1 => simp only [dst]; simp at h1; omega
  | 2 => simp only [dst]; simp at h1; omega
  | _ + 3 => simp only [dst]; simp at h1; omega

theorem take_snoc (s : ByteArray) (k : Nat) (h : k < s.size) : s.data.toList.take (k + 1) = s.data.toList.take k ++ [s[k]] := by
  rw [List.take_succ_eq_append_getElem (by simpa using h)]; rfl

theorem seg_size (a b c : ByteArray) (k : Nat) (ha : a.size ≤ 262144) (hb : b.size ≤ 262144) (hc : c.size ≤ 262144) : (seg a b c k).size ≤ 262144 := by
  unfold seg; split <;> assumption

theorem seg_cell (w : World) (a b c : ByteArray) (k : Nat) (h : k < 3) : (w.alloc (.cells #[.string a, .string b, .string c] 35)).cell? ⟨w.heap.size, k, none⟩ = some (.string (seg a b c k)) := by
  rw [World.cell?_alloc_at _ _ _ _ rfl]
  match k, h with
  | 0, _ => rfl
  | 1, _ => rfl
  | 2, _ => rfl

theorem strOf_bytes (l : List UInt8) : strOfNums (l.map fun b => (b.toNat : Int)) = ⟨l.toArray⟩ := by
  unfold strOfNums
  congr 2
  rw [List.map_map]
  conv => rhs; rw [← List.map_id l]
  apply List.map_congr_left
  intro b _
  simp

/-- 'string(out)', out the call's own bytes or nil -/
theorem conv_own (w : World) (base : Nat) (v : Value) (l : List UInt8) (h : w.ownsRow base 5 1 v l.length (bv l)) :
    (convert 22 9 v).run Try.prog w = .ok (.string ⟨l.toArray⟩) w := by
  have h' := h
  rcases h.2 with ⟨rfl, h0⟩ | ⟨g, cap, cur, rfl, _⟩
  · obtain rfl : l = [] := List.eq_nil_of_length_eq_zero h0
    exact run_convert_bytes_nil w 22 5 Try.underlying22 Try.underlying5 0 0 9 Try.underlying9
  · rw [← strOf_bytes]
    refine run_convert_bytes_arg w 22 5 Try.underlying22 Try.underlying5 g 0 _ cap _ (by simp) ?_ 9 Try.underlying9
    intro i hi
    rw [Nat.zero_add, h'.cellAt i (by omega)]
    simp [bv, hi]

theorem own_eq {w : World} {base : Nat} {v : Value} {n n' : Nat} {xs xs' : List Value} (h : w.ownsRow base 5 1 v n xs) (hn : n = n') (hx : xs = xs') : w.ownsRow base 5 1 v n' xs' := by
  subst hn; subst hx; exact h

set_option maxHeartbeats 1000000 in
theorem dotted_any (a b c : ByteArray) (w : World) (ha : a.size ≤ 262144) (hb : b.size ≤ 262144) (hc : c.size ≤ 262144) :
    Calls Try.prog 11 #[.string a, .string b, .string c] w fun e w' => e = .returned (.string ⟨(dst a b c 3).2.toArray⟩) ∧ Below w.heap.size w w' := by
  obtain ⟨i0, hi, hz0, hz1, hz2⟩ := info_parts Try.info5
  go_enter Try.func11, Try.ntmps11
  go_wp2
  go_loopw [8, 9, 10] (fun v st i wr => ∃ k : Nat, k ≤ 3 ∧ i = .int .i64 k ∧ st = .bool (dst a b c k).1 ∧ wr.ownsRow (w.heap.size + 1) 5 1 v (dst a b c k).2.length (bv (dst a b c k).2) ∧ Below (w.heap.size + 1) (w.alloc (.cells #[.string a, .string b, .string c] 35)) wr) (fun _ _ i _ => 3 - (intOf i).toNat)
  case atStart => exact ⟨0, Nat.zero_le _, rfl, rfl, World.ownsRow_nil _ _ _ _, Below.refl _ _⟩
  case round =>
    obtain ⟨k, hk, rfl, hst, hown, hB⟩ := hrel
    by_cases hk3 : k < 3
    · have hcell : wr.cell? ⟨w.heap.size, k, none⟩ = some (.string (seg a b c k)) := (hB.cell (by simp)).trans (seg_cell w a b c k hk3)
      have hk3b : decide ((k : Int) < 3) = true := by simp; omega
      have hlen := dst_len a b c k
      have hS := seg_size a b c k ha hb hc
      have hsucc := dst_succ a b c k hk3
      obtain ⟨S, HS⟩ : ∃ S, Hid (S = seg a b c k) := ⟨_, rfl⟩
      rw [← HS.out] at hcell hS hsucc
      obtain ⟨D, HD⟩ : ∃ D, Hid (D = dst a b c k) := ⟨_, rfl⟩
      rw [← HD.out] at hst hown hlen hsucc
      obtain ⟨D1, D2⟩ := D
      simp only at hst hown hlen
      have HU : Hid (dst a b c (k + 1) = dstep (D1, D2) S.data.toList) := hsucc
      have hbs := hB.size
      simp at hbs
      clear hsucc
      cases D1 with
      | true =>
        subst hst
        go_wp2_with (at_builtin; refine wpList_append_own_at _ rfl _ _ 22 rfl (w.heap.size + 1) 5 i0 (.int .u8 0) 1 1 Try.underlying22 hi hz0 hz1 hz2 rfl (by decide) _ _ _ rfl (hown.alloc _) ⟨wr.heap.size, 0, none⟩ 1 1 [.int .u8 46] rfl rfl (cell_one_new _ _ _) ?_ ?_ ?_ ?_ ?_)
        · first | rfl | (intro u hu; simp at hu; subst hu; rfl)
        · unfold maxLen; omega
        · omega
        · simp; omega
        intro v1 w1 hown1 hgrow1 _ _
        have BEL : Below (w.heap.size + 1) (w.alloc (.cells #[.string a, .string b, .string c] 35)) w1 := (hB.alloc (by omega) _).grown hgrow1 (by simp; omega) (fun r hr => (hown.lt r hr).1)
        have ATS : w1.ownsRow (w.heap.size + 1) 5 1 v1 ((D2 ++ [46]) ++ S.data.toList.take 0).length (bv ((D2 ++ [46]) ++ S.data.toList.take 0)) := by
          simpa [bv] using hown1
        clear hown1 hgrow1 hown hB hcell
        go_wp2
        go_loopw [8, 12] (fun v j wr => ∃ m : Nat, m ≤ S.size ∧ j = .int .i64 m ∧ wr.ownsRow (w.heap.size + 1) 5 1 v ((D2 ++ [46]) ++ S.data.toList.take m).length (bv ((D2 ++ [46]) ++ S.data.toList.take m)) ∧ Below (w.heap.size + 1) (w.alloc (.cells #[.string a, .string b, .string c] 35)) wr) (fun _ j _ => S.size - (intOf j).toNat)
        case atStart => exact ⟨0, Nat.zero_le _, rfl, ATS, BEL⟩
        case round =>
          obtain ⟨m, hm, rfl, ho, hB2⟩ := hrel
          have hbs := hB2.size
          simp at hbs
          by_cases hlt : m < S.size
          · have hts := take_snoc S m hlt
            have HT : Hid (S.data.toList.take (m + 1) = S.data.toList.take m ++ [S[m]]) := hts
            have hle : ((D2 ++ [46]) ++ S.data.toList.take m).length ≤ 2000000 := by
              simp only [List.length_append, List.length_take, List.length_cons, List.length_nil]; omega
            clear hts
            go_wp2_with (at_builtin; refine wpList_append_own_at _ rfl _ _ 22 rfl (w.heap.size + 1) 5 i0 (.int .u8 0) 1 1 Try.underlying22 hi hz0 hz1 hz2 rfl (by decide) _ _ _ rfl (ho.alloc _) ⟨wr.heap.size, 0, none⟩ 1 1 [.int .u8 (S[m].toNat : Int)] rfl rfl (cell_one_new _ _ _) ?_ ?_ ?_ ?_ ?_)
            · first | rfl | (intro u hu; simp at hu; subst hu; rfl)
            · unfold maxLen; omega
            · omega
            · simp; omega
            intro v' w2 hown' hgrow' _ _
            have R1 := own_eq (n' := ((D2 ++ [46]) ++ S.data.toList.take (m + 1)).length) (xs' := bv ((D2 ++ [46]) ++ S.data.toList.take (m + 1))) hown' (by rw [HT.out]; simp; have : S.data.size = S.size := rfl; omega) (by rw [HT.out]; simp [bv])
            have R2 : Below (w.heap.size + 1) (w.alloc (.cells #[.string a, .string b, .string c] 35)) w2 := (hB2.alloc (by omega) _).grown hgrow' (by simp; omega) (fun r hr => (ho.lt r hr).1)
            clear hown' hgrow' ho hB2
            go_wp2
            go_roundw
            case rel => first | exact ⟨m + 1, by omega, by go_num, R1, R2⟩ | ((repeat apply Exists.intro); exact ⟨⟨m + 1, by omega, by go_num, R1, R2⟩, rfl⟩)
            case measure => simp [intOf]; omega
          · obtain rfl : m = S.size := by omega
            rw [List.take_of_length_le (show S.data.toList.length ≤ S.size from Nat.le_refl _)] at ho
            have HO := ho
            clear ho
            go_wp2
            go_roundw
            case rel => exact ⟨k + 1, by omega, by go_num, by rw [HU.out]; rfl, by rw [HU.out]; simpa [dstep] using HO, hB2⟩
            case measure => simp [intOf]; omega
      | false =>
        subst hst
        by_cases hSe : S.toList.isEmpty = true
        · have hSd : S.data.toList = [] := by simpa [ByteArray.toList_eq] using hSe
          have HU2 : Hid (dst a b c (k + 1) = (false, D2)) := by have := HU.out; rw [hSd] at this; exact this
          clear hSd
          go_wp2
          go_roundw
          case rel => exact ⟨k + 1, by omega, by go_num, by rw [HU2.out], by rw [HU2.out]; exact hown, hB⟩
          case measure => simp [intOf]; omega
        · have hSf : S.toList.isEmpty = false := by simpa using hSe
          have hSd : Hid (¬ S.data.toList = []) := by intro h; simp [ByteArray.toList_eq, h] at hSe
          have ATS : wr.ownsRow (w.heap.size + 1) 5 1 u8 (D2 ++ S.data.toList.take 0).length (bv (D2 ++ S.data.toList.take 0)) := by
            simpa using hown
          have BEL := hB
          clear hown hB hSe
          go_wp2
          go_loopw [8, 12] (fun v j wr => ∃ m : Nat, m ≤ S.size ∧ j = .int .i64 m ∧ wr.ownsRow (w.heap.size + 1) 5 1 v (D2 ++ S.data.toList.take m).length (bv (D2 ++ S.data.toList.take m)) ∧ Below (w.heap.size + 1) (w.alloc (.cells #[.string a, .string b, .string c] 35)) wr) (fun _ j _ => S.size - (intOf j).toNat)
          case atStart => exact ⟨0, Nat.zero_le _, rfl, ATS, BEL⟩
          case round =>
            obtain ⟨m, hm, rfl, ho, hB2⟩ := hrel
            have hbs := hB2.size
            simp at hbs
            by_cases hlt : m < S.size
            · have hts := take_snoc S m hlt
              have HT : Hid (S.data.toList.take (m + 1) = S.data.toList.take m ++ [S[m]]) := hts
              have hle : (D2 ++ S.data.toList.take m).length ≤ 2000000 := by
                simp only [List.length_append, List.length_take]; omega
              clear hts
              go_wp2_with (at_builtin; refine wpList_append_own_at _ rfl _ _ 22 rfl (w.heap.size + 1) 5 i0 (.int .u8 0) 1 1 Try.underlying22 hi hz0 hz1 hz2 rfl (by decide) _ _ _ rfl (ho.alloc _) ⟨wr.heap.size, 0, none⟩ 1 1 [.int .u8 (S[m].toNat : Int)] rfl rfl (cell_one_new _ _ _) ?_ ?_ ?_ ?_ ?_)
              · first | rfl | (intro u hu; simp at hu; subst hu; rfl)
              · unfold maxLen; omega
              · omega
              · simp; omega
              intro v' w2 hown' hgrow' _ _
              have R1 := own_eq (n' := (D2 ++ S.data.toList.take (m + 1)).length) (xs' := bv (D2 ++ S.data.toList.take (m + 1))) hown' (by rw [HT.out]; simp; have : S.data.size = S.size := rfl; omega) (by rw [HT.out]; simp [bv])
              have R2 : Below (w.heap.size + 1) (w.alloc (.cells #[.string a, .string b, .string c] 35)) w2 := (hB2.alloc (by omega) _).grown hgrow' (by simp; omega) (fun r hr => (ho.lt r hr).1)
              clear hown' hgrow' ho hB2
              go_wp2
              go_roundw
              case rel => first | exact ⟨m + 1, by omega, by go_num, R1, R2⟩ | ((repeat apply Exists.intro); exact ⟨⟨m + 1, by omega, by go_num, R1, R2⟩, rfl⟩)
              case measure => simp [intOf]; omega
            · obtain rfl : m = S.size := by omega
              rw [List.take_of_length_le (show S.data.toList.length ≤ S.size from Nat.le_refl _)] at ho
              have HO := ho
              clear ho
              go_wp2
              go_roundw
              case rel => exact ⟨k + 1, by omega, by go_num, by rw [HU.out]; simp [dstep, hSd.out], by rw [HU.out]; simpa [dstep, hSd.out] using HO, hB2⟩
              case measure => simp [intOf]; omega
    · obtain rfl : k = 3 := by omega
      have hcv := conv_own wr _ _ _ hown
      have hb' : Below w.heap.size w wr := ((Below.refl _ _).alloc (Nat.le_refl _) _).trans (hB.mono (by omega))
      clear hown hB
      go_wp2
      go_ret
      exact ⟨rfl, hb'⟩
end Go.Proofs.Qxb6619459a.JoinWalk
