import Derived.Test.Qxb6618634aFind
import Derived.Deep.RegionHeld3
namespace Go.Proofs.Qxb6618634a.JoinWalk
open Go.ChangeShapes Go.WideShapes Go.ChangeAt Go.RowKit Go.Maps
set_option linter.unusedVariables false
set_option linter.unusedSimpArgs false

/-- the keys of a map, as a list without a twin -/
def Keys (D : DataW Unit) (E : List Int) : Prop := (∀ x, Maps.has D (kl x) = decide (x ∈ E)) ∧ Maps.size D = E.length ∧ E.Nodup ∧ Tidy D

theorem Keys.nil : Keys (.map []) [] := ⟨fun _ => rfl, rfl, List.nodup_nil, tidy_empty⟩
theorem Keys.put {D : DataW Unit} {E : List Int} (h : Keys D E) (x : Int) (d : DataW Unit) : Keys (D.put (kl x) d) (if x ∈ E then E else E ++ [x]) := by
  obtain ⟨h1, h2, h3, h4⟩ := h
  refine ⟨fun y => ?_, ?_, ?_, h4.put (kl_isKey x) d⟩
  · by_cases e : y = x
    · subst e
      rw [has_put_same h4.isMap (kl_isKey _)]
      split <;> simp_all
    · rw [has_put_other (fun h => e (kl_inj h)), h1]
      split <;> simp_all
  · rw [size_put h4, h1, h2]
    by_cases e : x ∈ E <;> simp [e]
  · split
    · exact h3
    · rename_i hx
      exact List.nodup_append.2 ⟨h3, by simp, by intro a ha b hb; simp at hb; subst hb; exact fun e => hx (e ▸ ha)⟩
theorem Keys.del {D : DataW Unit} {E : List Int} (h : Keys D E) (x : Int) : Keys (D.del (kl x)) (E.erase x) := by
  obtain ⟨h1, h2, h3, h4⟩ := h
  refine ⟨fun y => ?_, ?_, h3.erase x, h4.del _⟩
  · by_cases e : y = x
    · subst e
      rw [has_del_same]
      simp [h3.mem_erase_iff]
    · rw [has_del_other (fun h => e (kl_inj h)), h1]
      simp [h3.mem_erase_iff, e]
  · have := size_del (k := kl x) h4
    rw [h1, h2] at this
    by_cases e : x ∈ E
    · rw [List.length_erase_of_mem e]; simp [e] at this; omega
    · rw [List.erase_of_not_mem e]; simp [e] at this; omega

theorem len_le_of_sub : ∀ (A B : List Int), A.Nodup → (∀ x ∈ A, x ∈ B) → A.length ≤ B.length
  | [], _, _, _ => Nat.zero_le _
  | a :: A, B, hn, hs => by
    have ha : a ∈ B := hs a (by simp)
    have hn' := List.nodup_cons.1 hn
    have := len_le_of_sub A (B.erase a) hn'.2 (fun x hx => (List.mem_erase_of_ne (fun e => hn'.1 (by rw [← e]; exact hx))).2 (hs x (by simp [hx])))
    rw [List.length_erase_of_mem ha] at this
    have := List.length_pos_of_mem ha
    simp only [List.length_cons]
    omega

theorem Keys.size_eq {D D' : DataW Unit} {E E' : List Int} (h : Keys D E) (h' : Keys D' E') (hs : ∀ x, x ∈ E ↔ x ∈ E') : Maps.size D = Maps.size D' := by
  rw [h.2.1, h'.2.1]
  exact Nat.le_antisymm (len_le_of_sub _ _ h.2.2.1 fun x hx => (hs x).1 hx) (len_le_of_sub _ _ h'.2.2.1 fun x hx => (hs x).2 hx)

theorem zz_at {A : Array Value} {x y z : Value} (hA : A.size = 7) (i : Nat) (h1 : 7 ≤ i) (h2 : i < 45) : (A ++ (Array.replicate 38 (Value.int .u64 0) ++ #[x, y, z]))[i]? = some (.int .u64 0) := by
  rw [Array.getElem?_append_right (by omega), hA, Array.getElem?_append_left (by simp; omega)]
  rw [Array.getElem?_replicate, if_pos (by omega)]

theorem zrow_eq (a b c d x y z : Value) : (#[a, b, c, d, .int .u64 0, .int .i64 0, .pointer none, .int .u64 0, .int .u64 0, .int .u64 0, .int .u64 0, .int .u64 0, .int .u64 0, .int .u64 0, .int .u64 0, .int .u64 0, .int .u64 0, .int .u64 0, .int .u64 0, .int .u64 0, .int .u64 0, .int .u64 0, .int .u64 0, .int .u64 0, .int .u64 0, .int .u64 0, .int .u64 0, .int .u64 0, .int .u64 0, .int .u64 0, .int .u64 0, .int .u64 0, .int .u64 0, .int .u64 0, .int .u64 0, .int .u64 0, .int .u64 0, .int .u64 0, .int .u64 0, .int .u64 0, .int .u64 0, .int .u64 0, .int .u64 0, .int .u64 0, .int .u64 0, x, y, z] : Array Value) = #[a, b, c, d, .int .u64 0, .int .i64 0, .pointer none] ++ (Array.replicate 38 (Value.int .u64 0) ++ #[x, y, z]) := by kernel_rfl
theorem zz_lit (a b c d x y z : Value) (i : Nat) (h1 : 7 ≤ i) (h2 : i < 45) : (#[a, b, c, d, .int .u64 0, .int .i64 0, .pointer none, .int .u64 0, .int .u64 0, .int .u64 0, .int .u64 0, .int .u64 0, .int .u64 0, .int .u64 0, .int .u64 0, .int .u64 0, .int .u64 0, .int .u64 0, .int .u64 0, .int .u64 0, .int .u64 0, .int .u64 0, .int .u64 0, .int .u64 0, .int .u64 0, .int .u64 0, .int .u64 0, .int .u64 0, .int .u64 0, .int .u64 0, .int .u64 0, .int .u64 0, .int .u64 0, .int .u64 0, .int .u64 0, .int .u64 0, .int .u64 0, .int .u64 0, .int .u64 0, .int .u64 0, .int .u64 0, .int .u64 0, .int .u64 0, .int .u64 0, .int .u64 0, x, y, z] : Array Value)[i]? = some (.int .u64 0) := by rw [zrow_eq]; exact zz_at rfl i h1 h2

theorem fresh_three {w W : World} {Z : Array Value} {t : TypeId} (h : ((w.alloc (.map #[] 0)).alloc (.map #[] 0)).alloc (.cells Z t (0, 0)) = W) :
    W.ownsMap (H := Unit) Try.prog 2 (plainElem Try.prog 3) w.heap.size 0 (.map []) ∧ W.ownsMap Try.prog 2 R46 (w.heap.size + 1) 0 (.map []) ∧ W.heap[w.heap.size + 2]? = some (.cells Z t (0, 0)) ∧ W.heap.size = w.heap.size + 3 ∧ Below w.heap.size w W := by
  subst h
  refine ⟨((World.ownsMap_made w _ _ _).alloc _).alloc _, ?_, ?_, by simp, (((Below.refl _ _).alloc (Nat.le_refl _) _).alloc (by simp) _).alloc (by simp; omega) _⟩
  · have := (World.ownsMap_made (H := Unit) (w.alloc (.map #[] 0)) Try.prog 2 R46).alloc (.cells Z t (0, 0))
    simpa using this
  · have := heap_alloc_new ((w.alloc (.map #[] 0)).alloc (.map #[] 0)) (.cells Z t (0, 0))
    simpa using this

set_option maxRecDepth 100000 in
set_option maxHeartbeats 1000000 in
theorem new_row (j0 m : Int) (ao : Option Addr) (g n cap : Nat) (es : List Int) (w : World) (hn : n ≤ 32768) (hel : es.length = n) (hj : 0 ≤ j0 ∧ j0 < 18446744073709551616)
    (hao : 0 < n → ao = some ⟨g, 0, none⟩) (hc : ∀ i, i < n → w.cell? ⟨g, i, none⟩ = some (.int .i64 (es.getD i 0))) (hok : ∀ i, okI (es.getD i 0)) :
    Calls Try.prog 10 #[.int .u64 j0, .int .i64 m, .slice ao n cap] w fun e w' => e = .returned (.pointer (some ⟨w.heap.size + 2, 0, none⟩)) ∧
      ∃ Z DE E, St w' (w.heap.size + 2) w.heap.size (w.heap.size + 1) (w.heap.size + 3) Z (.slice none 0 0) j0 m [] n (.map []) DE ∧ Keys DE E ∧ (∀ x, x ∈ E ↔ x ∈ es) ∧ Below w.heap.size w w' := by
  have hmm := @run_makeMap Try.prog
  have HC := hide hc
  have HO := hide hok
  have HA := hide hao
  have HE := hide hel
  clear hc hok hao hel
  go_enter Try.func10, Try.ntmps10
  go_wp2
  generalize hW : World.alloc (World.alloc (World.alloc w _) _) _ = W0
  obtain ⟨m1, m2, m3, m4, m5⟩ := fresh_three hW
  obtain ⟨Z0, hS⟩ : ∃ Z0, Hid (St W0 (w.heap.size + 2) w.heap.size (w.heap.size + 1) (w.heap.size + 3) Z0 (.slice none 0 0) j0 m [] 0 (.map []) (.map [])) :=
    ⟨_, { hN := m3, zs := rfl, z0 := rfl, z1 := rfl
          z2 := by
            show some (Value.int .u64 j0) = some (.int .u64 (ju j0 0))
            rw [show ju j0 0 = j0 by unfold ju; omega]
          z3 := rfl, zz := zz_lit _ _ _ _ _ _ _, z45 := rfl, hP := m1, rP := Ranks.nil _, hE := m2, hL := World.ownsRow_nil _ _ _ _, nilL := fun _ => rfl, ne := by omega, lt := by omega, le := by omega }⟩
  have HB := hide m5
  clear hW m1 m2 m3 m4 m5
  go_loopw [8] (fun k wr => ∃ (q : Nat) (DE : DataW Unit) (E : List Int), q ≤ n ∧ k = .int .i64 q ∧ Hid (St wr (w.heap.size + 2) w.heap.size (w.heap.size + 1) (w.heap.size + 3) Z0 (.slice none 0 0) j0 m [] q (.map []) DE) ∧ Hid (Keys DE E) ∧ Hid (∀ x, x ∈ E ↔ x ∈ es.take q) ∧ Hid (Below w.heap.size w wr)) (fun k _ => n - (intOf k).toNat)
  case atStart => exact ⟨0, _, [], Nat.zero_le _, rfl, hS, Keys.nil, by intro x; simp, HB⟩
  case round =>
    obtain ⟨q, DE, E, hq, rfl, HS, HK, HX, HBR⟩ := hrel
    by_cases hlt : q < n
    · obtain rfl := HA.out (by omega)
      obtain ⟨e, He⟩ : ∃ e, Hid (e = es.getD q 0) := ⟨_, rfl⟩
      have c45 := HS.out.cell HS.out.z45
      have cg0 := HC.out q hlt
      have hgw := block_lt_of_cell cg0
      have cg : wr.cell? ⟨g, q, none⟩ = some (.int .i64 e) := by rw [He.out]; exact (HBR.out.cell hgw).trans cg0
      have oke : okI e := by rw [He.out]; exact HO.out q
      obtain ⟨w2, hrun, hown2, hgr2⟩ := (HS.out.hE.drew).update law2 under64 (by unfold maxLen; omega) (kl_key oke) (val := .agg #[.int .i64 e, .float .f64 0, .int .u64 0, .int .i64 0, .pointer none, .string ⟨#[108, 101, 97, 115, 101]⟩, .int .i64 0, .float .f64 0, .float .f64 0, .float .f64 0, .float .f64 0, .float .f64 0, .float .f64 0, .float .f64 0, .float .f64 0, .float .f64 0, .float .f64 0, .float .f64 0, .float .f64 0, .int .u64 0, .int .i64 0, .pointer none, .int .u64 (IntKind.u64.wrap (q : Nat)), .bool true, .bool false, .float .f64 0, .int .u64 0, .int .i64 0, .pointer none, .float .f64 0]) (R46_mk rfl rfl)
      have n1 : w.heap.size + 1 ≠ w.heap.size + 2 := by omega
      have d45 : w2.cell? ⟨w.heap.size + 2, 45, none⟩ = some (.map (some (w.heap.size + 1))) := by
        have h1 := hgr2.block (w.heap.size + 2) (lt_of_some HS.out.hN) (by simp)
        rw [World.cell?_of_block (w := wr.drew) (a := ⟨w.heap.size + 2, 45, none⟩) h1]; exact c45
      have dg : w2.cell? ⟨g, q, none⟩ = some (.int .i64 e) := by
        have h1 := hgr2.block g (Nat.lt_of_lt_of_le hgw HBR.out.size) (by simp at hgw ⊢; omega)
        rw [World.cell?_of_block (w := wr.drew) (a := ⟨g, q, none⟩) h1]; exact cg
      have HGR := hide hgr2
      have HO2 := hide hown2
      have OK := hide oke
      have hq2 : (q : Int) < (n : Int) := by omega
      clear hgr2 hown2 oke cg0 hgw
      go_wp2_with fail
      go_region_held3 (fun w' => w'.cell? ⟨w.heap.size + 2, 45, none⟩ = some (.map (some (w.heap.size + 1))) ∧ w'.cell? ⟨g, q, none⟩ = some (.int .i64 e)) (go_keep) (fail)
      go_wp2
      go_roundw
      case rel =>
        refine ⟨q + 1, _, _, by omega, by go_num, ?_, HK.out.put e .nil, ?_, ?_⟩
        · have hNd : wr.drew.heap[w.heap.size + 2]? = _ := HS.out.hN
          have n2 : w.heap.size ≠ w.heap.size + 1 := by omega
          exact { HS.out with
            hN := by rw [HGR.out.block _ (lt_of_some hNd) (by simp)]; exact hNd
            hP := HS.out.hP.drew.kept HGR.out (by simp)
            hE := HO2.out
            hL := World.ownsRow_nil _ _ _ _
            le := Nat.le_trans HS.out.le HGR.out.size }
        · intro x
          have e1 : es.take (q + 1) = es.take q ++ [e] := by
            rw [He.out, List.getD_eq_getElem?_getD, List.take_add_one, List.getElem?_eq_getElem (by rw [HE.out]; exact hlt)]; simp
          have h1 := HX.out
          rw [e1, List.mem_append, ← h1 x]
          split
          · rename_i hin
            constructor
            · exact fun h => .inl h
            · rintro (h | h)
              · exact h
              · simp at h; rw [h]; exact hin
          · simp
        · exact (HBR.out.drew).grown HGR.out (by have := HBR.out.size; exact this) (by rintro r h; cases h; omega)
      case measure => simp [intOf]; omega
    · go_wp2
      go_ret
      refine ⟨rfl, Z0, DE, E, ?_, HK.out, ?_, HBR.out⟩
      · have e : q = n := by omega
        subst e
        exact HS.out
      · intro x
        rw [HX.out x, List.take_of_length_le (by rw [HE.out]; omega)]
end Go.Proofs.Qxb6618634a.JoinWalk
