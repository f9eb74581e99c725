import Derived.Test.Qxb6621646aRows
import Derived.WalkKit
import Derived.ProofKit
import Derived.WalkLawsBesides
import Derived.OpenShut
import Derived.Deep.LoopGhost
import Derived.Deep.Light
import Derived.Deep.DeepCutAuto
import Derived.Deep.RegionHeld3
import Derived.Maps.RangeWalk
import Derived.Maps.OwnSet
import Derived.Maps.OwnOps
import Derived.WalkSpells
namespace Go.Proofs.Qxb6621646a.NamesWalk
open Go.ChangeShapes Go.WideShapes Go.ChangeAt Go.RowKit Go.Maps
set_option linter.unusedVariables false
set_option linter.unusedSimpArgs false

theorem hide {p : Prop} (h : p) : Hid p := h

/-- how an element of the map reads: a pointer to a block's head by the block's number -/
def pR : Value → Option (DataW Unit × List MemPlace)
  | .pointer none => some (.nil, [])
  | .pointer (some a) => if a.off = 0 ∧ a.spot = none then some (.lit (.int .u64 a.block), []) else none
  | _ => none

theorem law : Keyed Try.prog 9 := string_keyed Try.underlying9
theorem under36 : Try.prog.underlying 36 = some (.map 9 32) := by kernel_rfl
theorem zero32 (w : World) : (zeroValue 32).run Try.prog w = .ok (.pointer none) w := by kernel_rfl

/-- strings as cells -/
def sv (l : List ByteArray) : List Value := l.map Value.string
theorem sv_length (l : List ByteArray) : (sv l).length = l.length := by simp [sv]
theorem sv_at (l : List ByteArray) (j : Nat) (h : j < l.length) : (sv l)[j]? = some (.string (l.getD j ByteArray.empty)) := by simp [sv, h]

def kl (s : ByteArray) : Lit := .string s.data.toList
theorem kl_key (s : ByteArray) (h : s.size ≤ maxLen) : keyOf Try.prog 9 (.string s) = some (kl s) := WideMaps.keyOf_string_mk Try.underlying9 h
theorem kl_isKey (s : ByteArray) : WideAt.IsKeyLit (kl s) := by simp [kl, WideAt.IsKeyLit]
theorem kl_inj {s t : ByteArray} (h : kl s = kl t) : s = t := by
  simp only [kl, Lit.string.injEq] at h
  cases s; cases t; simp only [ByteArray.mk.injEq]; exact Array.toList_inj.1 h

theorem cell_lt {w : World} {a : Addr} {v : Value} (h : w.cell? a = some v) : a.block < w.heap.size := by
  rcases Nat.lt_or_ge a.block w.heap.size with h1 | h1
  · exact h1
  · simp [World.cell?, Array.getElem?_eq_none h1] at h

/-- a block that is a map holds no cell -/
theorem map_no_cell {w : World} {M k j : Nat} {D : DataW Unit} {v : Value} (h : w.ownsMap Try.prog 9 pR M k D) (hc : w.cell? ⟨M, j, none⟩ = some v) : False := by
  obtain ⟨es, clock, hb, _⟩ := h
  simp [World.cell?, hb] at hc

/-- what ZZNewNames has built after k rounds: a struct at block N whose map (block M) leads the i-th key to a child at block 'bk i' whose member is the i-th one -/
def Tab (w : World) (N M : Nat) (ks ms : List ByteArray) (k : Nat) (bk : Nat → Nat) (D : DataW Unit) : Prop :=
  w.cell? ⟨N, 8, none⟩ = some (.map (some M)) ∧ w.ownsMap Try.prog 9 pR M k D ∧
  (∀ i, i < k → ∀ z, D.atKey (kl (ks.getD i ByteArray.empty)) z = .lit (.int .u64 (bk i))) ∧
  (∀ l, Maps.has D l = true → ∃ i, i < k ∧ l = kl (ks.getD i ByteArray.empty)) ∧
  (∀ i, i < k → w.cell? ⟨bk i, 1, none⟩ = some (.string (ms.getD i ByteArray.empty)))

theorem Tab.below {w w' : World} {N M : Nat} {ks ms : List ByteArray} {k : Nat} {bk : Nat → Nat} {D : DataW Unit} (h : Tab w N M ks ms k bk D) (hb : Below w.heap.size w w') : Tab w' N M ks ms k bk D := by
  obtain ⟨h1, h2, h3, h4, h5⟩ := h
  refine ⟨(hb.cell (cell_lt h1)).trans h1, ?_, h3, h4, fun i hi => (hb.cell (cell_lt (h5 i hi))).trans (h5 i hi)⟩
  exact h2.kept (row := none) ⟨hb.os, hb.tape, hb.output, hb.size, fun i hi _ => hb.block i hi⟩ (by simp)

/-- one entry more -/
theorem Tab.step {w w2 : World} {N M C : Nat} {ks ms : List ByteArray} {k : Nat} {bk : Nat → Nat} {D : DataW Unit} (h : Tab w N M ks ms k bk D) (hdis : ∀ i, i < k → ks.getD i ByteArray.empty ≠ ks.getD k ByteArray.empty)
    (hown : w2.ownsMap Try.prog 9 pR M (k + 1) (D.put (kl (ks.getD k ByteArray.empty)) (.lit (.int .u64 (C : Nat)))))
    (hN : w2.cell? ⟨N, 8, none⟩ = some (.map (some M))) (hold : ∀ i, i < k → w2.cell? ⟨bk i, 1, none⟩ = w.cell? ⟨bk i, 1, none⟩) (hC : w2.cell? ⟨C, 1, none⟩ = some (.string (ms.getD k ByteArray.empty))) :
    Tab w2 N M ks ms (k + 1) (fun i => if i = k then C else bk i) (D.put (kl (ks.getD k ByteArray.empty)) (.lit (.int .u64 (C : Nat)))) := by
  obtain ⟨h1, h2, h3, h4, h5⟩ := h
  refine ⟨hN, hown, ?_, ?_, ?_⟩
  · intro i hi z
    by_cases hik : i = k
    · subst hik
      simp only [if_true]
      exact atKey_put_same h2.isMap (kl_isKey _) _ _
    · simp only [if_neg hik]
      rw [atKey_put_other (fun e => hdis i (by omega) (kl_inj e))]
      exact h3 i (by omega) z
  · intro l hl
    by_cases hlk : l = kl (ks.getD k ByteArray.empty)
    · exact ⟨k, by omega, hlk⟩
    · rw [has_put_other hlk] at hl
      obtain ⟨i, hi, e⟩ := h4 l hl
      exact ⟨i, by omega, e⟩
  · intro i hi
    by_cases hik : i = k
    · subst hik; simp only [if_true]; exact hC
    · simp only [if_neg hik]
      rw [hold i (by omega)]; exact h5 i (by omega)

set_option maxRecDepth 100000 in
set_option maxHeartbeats 1000000 in
theorem new_row (g1 g2 n c1 c2 : Nat) (ks ms : List ByteArray) (w : World) (hn : n ≤ 4096) (hg1 : g1 < w.heap.size) (hg2 : g2 < w.heap.size)
    (hk : ∀ i, i < n → w.cell? ⟨g1, i, none⟩ = some (.string (ks.getD i ByteArray.empty))) (hm : ∀ i, i < n → w.cell? ⟨g2, i, none⟩ = some (.string (ms.getD i ByteArray.empty)))
    (hks : ∀ i, (ks.getD i ByteArray.empty).size ≤ maxLen) (hdis : ∀ i j, i < j → j < n → ks.getD i ByteArray.empty ≠ ks.getD j ByteArray.empty) :
    Calls Try.prog 13 #[.slice none 0 0, .slice (some ⟨g1, 0, none⟩) n c1, .slice (some ⟨g2, 0, none⟩) n c2] w fun e w' =>
      e = .returned (.pointer (some ⟨w.heap.size + 1, 0, none⟩)) ∧ (∃ bk D, Tab w' (w.heap.size + 1) w.heap.size ks ms n bk D) ∧ Below w.heap.size w w' := by
  have hmm := @run_makeMap Try.prog
  have HK := hide hk
  have HM := hide hm
  have HS := hide hks
  have HD := hide hdis
  clear hk hm hks hdis
  go_enter Try.func13, Try.ntmps13
  go_wp2
  refine wp_loop_rounds 1 ?_
  rw [rounds_succ]
  go_wp2
  go_loopw [9] (fun j wr => ∃ (k : Nat) (bk : Nat → Nat) (D : DataW Unit), k ≤ n ∧ j = .int .i64 k ∧ Hid (Tab wr (w.heap.size + 1) w.heap.size ks ms k bk D) ∧ Below w.heap.size w wr) (fun j _ => n - (intOf j).toNat)
  case atStart =>
    refine ⟨0, fun _ => 0, .map [], Nat.zero_le _, rfl, ⟨?_, ?_, fun i hi => by omega, ?_, fun i hi => by omega⟩, ((Below.refl _ _).alloc (Nat.le_refl _) _).alloc (by simp) _⟩
    · rw [World.cell?_alloc_at _ _ _ _ (by simp)]; rfl
    · exact (World.ownsMap_made w Try.prog 9 pR).alloc _
    · intro l hl; simp [Maps.has] at hl
  case round =>
    obtain ⟨k, bk, D, hk, rfl, HT, hB⟩ := hrel
    by_cases hlt : k < n
    · have hsz := hB.size
      have hszM := HT.out.2.1.lt
      have hszN := cell_lt HT.out.1
      have hN := HT.out.1
      have hc1 : wr.cell? ⟨g1, k, none⟩ = some (.string (ks.getD k ByteArray.empty)) := (hB.cell hg1).trans (HK.out k hlt)
      have hc2 : wr.cell? ⟨g2, k, none⟩ = some (.string (ms.getD k ByteArray.empty)) := (hB.cell hg2).trans (HM.out k hlt)
      obtain ⟨s1, Hs1⟩ : ∃ s1, Hid (s1 = ks.getD k ByteArray.empty) := ⟨_, rfl⟩
      obtain ⟨s2, Hs2⟩ : ∃ s2, Hid (s2 = ms.getD k ByteArray.empty) := ⟨_, rfl⟩
      rw [← Hs1.out] at hc1
      rw [← Hs2.out] at hc2
      have hown := (((HT.out.2.1).alloc (.cells #[.slice none 0 0, .string s2, .slice none 0 0, .pointer none, .slice none 0 0, .slice none 0 0] 50)).drew).update law under36 (by unfold maxLen; omega) (kl_key s1 (by rw [Hs1.out]; exact HS.out k)) (val := .pointer (some ⟨wr.heap.size, 0, none⟩)) (show pR _ = some (.lit (.int .u64 (wr.heap.size : Nat)), []) by simp [pR])
      obtain ⟨w2, hrun, hown2, hgr2⟩ := hown
      have HOW2 := hide hown2
      have hw1 := World.new_ne wr ⟨w.heap.size + 1, 8, none⟩ hN
      have hw2 := World.new_ne wr ⟨g1, k, none⟩ hc1
      have hw3 := World.new_ne wr ⟨g2, k, none⟩ hc2
      have hblk : ∀ b j, b < wr.heap.size → b ≠ w.heap.size → w2.cell? ⟨b, j, none⟩ = wr.cell? ⟨b, j, none⟩ := by
        intro b j hb hne
        have e := hgr2.block b (by simp; omega) (by simpa using hne)
        rw [World.cell?_of_block (w := (wr.alloc _).drew) (a := ⟨b, j, none⟩) e]
        show (wr.alloc _).cell? _ = _
        rw [World.cell?_alloc_past _ _ _ hb]
      have hd1 := (hblk (w.heap.size + 1) 8 hszN (by omega)).trans hN
      have hd2 := (hblk g1 k (by omega) (by omega)).trans hc1
      have hd3 := (hblk g2 k (by omega) (by omega)).trans hc2
      have HBLK := hide hblk
      have HGR2 := hide hgr2
      clear hown2 hblk hgr2
      go_wp2
      go_region_held3 (fun w' => w'.cell? ⟨w.heap.size + 1, 8, none⟩ = some (.map (some w.heap.size)) ∧ w'.cell? ⟨g1, k, none⟩ = some (.string s1) ∧ w'.cell? ⟨g2, k, none⟩ = some (.string s2)) (go_keep) (fail)
      go_wp2
      go_roundw
      case rel =>
        have hC : w2.cell? ⟨wr.heap.size, 1, none⟩ = some (.string s2) := by
          have e := HGR2.out.block wr.heap.size (by simp) (by simp; omega)
          rw [World.cell?_of_block (w := (wr.alloc _).drew) (a := ⟨wr.heap.size, 1, none⟩) e]
          show (wr.alloc _).cell? _ = _
          rw [World.cell?_alloc_at _ _ _ _ rfl]; rfl
        rw [Hs1.out] at HOW2
        rw [Hs2.out] at hC
        have HT2 := HT.out.step (w2 := w2) (C := wr.heap.size) (fun i hi => HD.out i k hi hlt) HOW2.out hd1 (fun i hi => HBLK.out _ _ (cell_lt (HT.out.2.2.2.2 i hi)) (fun e => by have := HT.out.2.2.2.2 i hi; rw [e] at this; exact map_no_cell HT.out.2.1 this)) hC
        exact ⟨k + 1, _, _, by omega, by go_num, HT2, ((hB.alloc (by omega) _).drew).grown HGR2.out (by simp; omega) (fun r hr => by cases hr; exact Nat.le_refl _)⟩
      case measure => simp [intOf]; omega
    · obtain rfl : k = n := by omega
      go_wp2
      go_ret
      exact ⟨rfl, ⟨bk, D, HT.out⟩, hB⟩
end Go.Proofs.Qxb6621646a.NamesWalk
