import Derived.Test.Qxb6621646aJsonStep
namespace Go.Proofs.Qxb6621646a.JsonWalk
open Go.ChangeShapes Go.WideShapes Go.ChangeAt Go.RowKit Json
set_option linter.unusedVariables false
set_option linter.unusedSimpArgs false

theorem drop_at (zs : List Int) (k : Nat) (h : k < zs.length) : zs.drop k = zs.getD k 0 :: zs.drop (k + 1) := by
  rw [List.drop_eq_getElem_cons h]; simp [h]

theorem digits_end {zs : List Int} {k m : Nat} (hkm : k ≤ m) (hs : k < m → sd (zs.drop k) = true) (hno : sd (zs.drop m) = false) : decide (k < m) = sd (zs.drop k) := by
  by_cases h : k < m
  · rw [hs h]; simpa using h
  · obtain rfl : k = m := by omega
    rw [hno]; simp
theorem dw_stop {r : List Int} (h : sd r = false) : dw r = r := by
  cases r with
  | nil => rfl
  | cons c r => exact dw_no h

set_option maxHeartbeats 1000000 in
/-- THE CLOSURE digits: i goes on behind the digits; the answer: was there one? -/
theorem digits_any (B g n cap k : Nat) (zs : List Int) (w : World) (hzl : zs.length = n) (hk : k ≤ n) (hn : n ≤ 1000000) (hgB : g < B)
    (hi : w.cell? ⟨B + 1, 0, none⟩ = some (.int .i64 k)) (hf : w.frozen? ⟨B + 1, 0, none⟩ = false) (hv : w.cell? ⟨B, 0, none⟩ = some (.slice (some ⟨g, 0, none⟩) n cap))
    (hz : ∀ j, j < n → w.cell? ⟨g, j, none⟩ = some (.int .u8 (zs.getD j 0))) (hr : ∀ j, 0 ≤ zs.getD j 0 ∧ zs.getD j 0 ≤ 255) :
    Calls Try.prog 19 #[.pointer (some ⟨B + 1, 0, none⟩), .pointer (some ⟨B, 0, none⟩)] w fun e w' => e = .returned (.bool (sd (zs.drop k))) ∧
      ∃ m, k ≤ m ∧ m ≤ n ∧ zs.drop m = dw (zs.drop k) ∧ w'.cell? ⟨B + 1, 0, none⟩ = some (.int .i64 m) ∧ w'.frozen? ⟨B + 1, 0, none⟩ = false ∧ Below (B + 1) w w' := by
  have HZ : Hid (∀ j, j < n → w.cell? ⟨g, j, none⟩ = some (.int .u8 (zs.getD j 0))) := hz
  have HR : Hid (∀ j, 0 ≤ zs.getD j 0 ∧ zs.getD j 0 ≤ 255) := hr
  have HL : Hid (zs.length = n) := hzl
  clear hz hr hzl
  go_enter Try.func19, Try.ntmps19
  go_wp2
  go_loopg [] (n - k) (fun gk wr => ∃ m : Nat, m ≤ n ∧ k ≤ m ∧ gk = n - m ∧ Hid (dw (zs.drop m) = dw (zs.drop k)) ∧ Hid (k < m → sd (zs.drop k) = true) ∧ wr.cell? ⟨B + 1, 0, none⟩ = some (.int .i64 m) ∧ wr.frozen? ⟨B + 1, 0, none⟩ = false ∧ Below (B + 1) w wr)
  case atStart => exact ⟨k, hk, Nat.le_refl _, rfl, rfl, fun h => absurd h (Nat.lt_irrefl _), hi, hf, Below.refl _ _⟩
  case round =>
    obtain ⟨m, hm, hkm, hgk, HD, HS, hi2, hf2, hB⟩ := hrel
    clear hi hf
    have HG : Hid (gk = n - m) := hgk
    clear hgk
    have hv2 : wr.cell? ⟨B, 0, none⟩ = some (.slice (some ⟨g, 0, none⟩) n cap) := (hB.cell (by simp)).trans hv
    by_cases hlt : m < n
    · have hc2 : wr.cell? ⟨g, m, none⟩ = some (.int .u8 (zs.getD m 0)) := (hB.cell (by simp; omega)).trans (HZ.out m hlt)
      have hrr := HR.out m
      have hd := drop_at zs m (by have := HL.out; omega)
      obtain ⟨c, HC⟩ : ∃ c, Hid (c = zs.getD m 0) := ⟨_, rfl⟩
      rw [← HC.out] at hc2 hrr hd
      have HDR : Hid (zs.drop m = c :: zs.drop (m + 1)) := hd
      clear hd
      by_cases h48 : 48 ≤ c
      · by_cases h57 : c ≤ 57
        · go_wp2
          go_roundg (n - (m + 1))
          case measure => have := HG.out; omega
          case rel =>
            have hdc : dig c = true := by simp [dig, h48, h57]
            refine ⟨m + 1, by omega, by omega, rfl, ?_, ?_, World.cell?_setCell_same wr _ _ hi2, by simp [hf2], hB.setCell (by simp) _⟩
            · show _ = _
              rw [← HD.out, HDR.out, dw_yes hdc]
            · intro _
              by_cases hkm2 : k < m
              · exact HS.out hkm2
              · obtain rfl : k = m := by omega
                rw [HDR.out]; exact hdc
        · have hno : Hid (sd (zs.drop m) = false) := by
            show _ = _
            rw [HDR.out]; simp [sd, dig]; omega
          go_wp2
          go_ret
          exact ⟨ret_bool (digits_end hkm HS.out hno.out), m, hkm, hm, by rw [← HD.out, dw_stop hno.out], hi2, hf2, hB⟩
      · have hno : Hid (sd (zs.drop m) = false) := by
          show _ = _
          rw [HDR.out]; simp [sd, dig]; omega
        go_wp2
        go_ret
        exact ⟨ret_bool (digits_end hkm HS.out hno.out), m, hkm, hm, by rw [← HD.out, dw_stop hno.out], hi2, hf2, hB⟩
    · have hno : Hid (sd (zs.drop m) = false) := by
        show _ = _
        rw [List.drop_of_length_le (by have := HL.out; omega)]; rfl
      go_wp2
      go_ret
      exact ⟨ret_bool (digits_end hkm HS.out hno.out), m, hkm, hm, by rw [← HD.out, dw_stop hno.out], hi2, hf2, hB⟩

/-- the byte that stands first is c -/
def hasC : List Int → Int → Bool
  | [], _ => false
  | x :: _, c => x == c

/-- THE STATE between two statements of isJSONNumber: i holds k; all that was there is as it was -/
def St (w : World) (v : Value) (k : Nat) (wr : World) : Prop :=
  wr.cell? ⟨w.heap.size + 1, 0, none⟩ = some (.int .i64 k) ∧ wr.frozen? ⟨w.heap.size + 1, 0, none⟩ = false ∧ Below (w.heap.size + 1) (w.alloc (.cells #[v] 22)) wr

theorem St.v {w : World} {v : Value} {k : Nat} {wr : World} (h : St w v k wr) : wr.cell? ⟨w.heap.size, 0, none⟩ = some v :=
  (h.2.2.cell (by simp)).trans (by rw [World.cell?_alloc_at _ _ _ _ rfl]; rfl)
theorem St.old {w : World} {v : Value} {k : Nat} {wr : World} (h : St w v k wr) {g j : Nat} {u : Value} (hg : g < w.heap.size) (hu : w.cell? ⟨g, j, none⟩ = some u) : wr.cell? ⟨g, j, none⟩ = some u :=
  (h.2.2.cell (by simp; omega)).trans (by rw [World.cell?_alloc_past _ _ _ hg]; exact hu)
theorem St.set {w : World} {v : Value} {k : Nat} {wr : World} (h : St w v k wr) (m : Nat) (x : Int) (hx : x = m) : St w v m (wr.setCell ⟨w.heap.size + 1, 0, none⟩ (.int .i64 x)) := by
  subst hx
  exact ⟨World.cell?_setCell_same wr _ _ h.1, by simp [h.2.1], h.2.2.setCell (by simp) _⟩
theorem St.below {w : World} {v : Value} {k : Nat} {wr : World} (h : St w v k wr) : Below w.heap.size w wr :=
  ((Below.refl _ _).alloc (Nat.le_refl _) _).trans (h.2.2.mono (by omega))

theorem digits_st (g n cap k : Nat) (zs : List Int) (w wr : World) (hzl : zs.length = n) (hk : k ≤ n) (hn : n ≤ 1000000) (hg : g < w.heap.size) (hst : St w (.slice (some ⟨g, 0, none⟩) n cap) k wr)
    (hz : ∀ j, j < n → w.cell? ⟨g, j, none⟩ = some (.int .u8 (zs.getD j 0))) (hr : ∀ j, 0 ≤ zs.getD j 0 ∧ zs.getD j 0 ≤ 255) :
    Calls Try.prog 19 #[.pointer (some ⟨w.heap.size + 1, 0, none⟩), .pointer (some ⟨w.heap.size, 0, none⟩)] wr fun e w' => e = .returned (.bool (sd (zs.drop k))) ∧
      ∃ m, m ≤ n ∧ zs.drop m = dw (zs.drop k) ∧ St w (.slice (some ⟨g, 0, none⟩) n cap) m w' :=
  (digits_any w.heap.size g n cap k zs wr hzl hk hn hg hst.1 hst.2.1 hst.v (fun j hj => hst.old hg (hz j hj)) hr).mono
    fun e w' ⟨he, m, _, hm, hd, hi, hf, hb⟩ => ⟨he, m, hm, hd, hi, hf, hst.2.2.trans hb⟩

theorem hide {p : Prop} (h : p) : Hid p := h
theorem hasC_yes {zs : List Int} {k : Nat} {c : Int} (h : hasC (zs.drop k) c = true) : k < zs.length ∧ zs.drop k = c :: zs.drop (k + 1) := by
  by_cases hk : k < zs.length
  · refine ⟨hk, ?_⟩
    rw [drop_at zs k hk] at h ⊢
    simp [hasC] at h
    simp [h]
  · rw [List.drop_of_length_le (by omega)] at h; cases h
theorem P1_no {zs : List Int} (h : hasC (zs.drop 0) 45 = false) : P2 (zs.drop 0) = P1 (zs.drop 0) := by
  cases hz : zs.drop 0 with
  | nil => rfl
  | cons c r => rw [hz] at h; simp [hasC] at h; simp [P1, h]
theorem P1_yes {zs : List Int} (h : zs.drop 0 = 45 :: zs.drop (0 + 1)) : P2 (zs.drop 1) = P1 zs := by
  have e : zs = 45 :: zs.drop 1 := h
  conv => rhs; rw [e]
  rfl
theorem P2_no {r : List Int} (h : hasC r 48 = false) : P2 r = (sd r && P3 (dw r)) := by
  cases r with
  | nil => rfl
  | cons c r => simp [hasC] at h; simp [P2, h]
theorem P3_no {r : List Int} (h : hasC r 46 = false) : P3 r = P4 r := by
  cases r with
  | nil => rfl
  | cons c r => simp [hasC] at h; simp [P3, h]
theorem P3_yes (r : List Int) : P3 (46 :: r) = (sd r && P4 (dw r)) := rfl
theorem P4_no {r : List Int} (h : (hasC r 101 || hasC r 69) = false) : P4 r = r.isEmpty := by
  cases r with
  | nil => rfl
  | cons c r => simp [hasC] at h; simp [P4, h]
theorem P4_yes {zs : List Int} {k : Nat} (h : (hasC (zs.drop k) 101 || hasC (zs.drop k) 69) = true) : k < zs.length ∧ P4 (zs.drop k) = expo (zs.drop (k + 1)) := by
  rw [Bool.or_eq_true] at h
  rcases h with h | h
  · obtain ⟨h1, h2⟩ := hasC_yes h
    exact ⟨h1, by rw [h2]; rfl⟩
  · obtain ⟨h1, h2⟩ := hasC_yes h
    exact ⟨h1, by rw [h2]; rfl⟩
theorem end_eq {zs : List Int} {k n : Nat} (hl : zs.length = n) (hk : k ≤ n) : ((k : Int) == (n : Int)) = (zs.drop k).isEmpty := by
  rw [Bool.eq_iff_iff]
  simp only [beq_iff_eq, List.isEmpty_iff, List.drop_eq_nil_iff]
  omega
theorem expo_nil {zs : List Int} {k : Nat} (h : zs.length ≤ k) : expo (zs.drop k) = false := by
  rw [List.drop_of_length_le h]; rfl
theorem expo_sign {c : Int} {r : List Int} (h : c = 43 ∨ c = 45) : expo (c :: r) = (sd r && (dw r).isEmpty) := by
  simp [expo, h, expEnd]
theorem expo_bare {c : Int} {r : List Int} (h1 : (c == 43) = false) (h2 : (c == 45) = false) : expo (c :: r) = (sd (c :: r) && (dw (c :: r)).isEmpty) := by
  simp at h1 h2
  simp [expo, h1, h2, expEnd]

set_option maxRecDepth 100000 in
set_option maxHeartbeats 2000000 in
theorem isjson_row (g n cap : Nat) (zs : List Int) (w : World) (hzl : zs.length = n) (hn : n ≤ 1000000) (hg : g < w.heap.size)
    (hz : ∀ j, j < n → w.cell? ⟨g, j, none⟩ = some (.int .u8 (zs.getD j 0))) (hr : ∀ j, 0 ≤ zs.getD j 0 ∧ zs.getD j 0 ≤ 255) :
    Calls Try.prog 16 #[.slice (some ⟨g, 0, none⟩) n cap] w fun e w' => e = .returned (.bool (P1 zs)) ∧ Below w.heap.size w w' := by
  have HZ : Hid (∀ j, j < n → w.cell? ⟨g, j, none⟩ = some (.int .u8 (zs.getD j 0))) := hz
  have HR : Hid (∀ j, 0 ≤ zs.getD j 0 ∧ zs.getD j 0 ≤ 255) := hr
  have HL : Hid (zs.length = n) := hzl
  clear hz hr hzl
  have h00 : St w (.slice (some ⟨g, 0, none⟩) n cap) 0 ((w.alloc (.cells #[.slice (some ⟨g, 0, none⟩) n cap] 22)).alloc (.cells #[.int .i64 0] 3)) := by
    refine ⟨?_, ?_, (Below.refl _ _).alloc (by simp) _⟩
    · rw [World.cell?_alloc_at _ _ _ _ (by simp)]; rfl
    · rw [World.frozen?_alloc_at _ _ _ _ (by simp)]
  have H00 : Hid (St w (.slice (some ⟨g, 0, none⟩) n cap) 0 ((w.alloc (.cells #[.slice (some ⟨g, 0, none⟩) n cap] 22)).alloc (.cells #[.int .i64 0] 3))) := h00
  clear h00
  go_enter Try.func16, Try.ntmps16
  go_upto_region 3 with fail
  go_cut [16] (fun s wc => s = .bool (hasC (zs.drop 0) 45) ∧ St w (.slice (some ⟨g, 0, none⟩) n cap) 0 wc)
  case first =>
    by_cases h0 : 0 < n
    · have hc := HZ.out 0 h0
      have hrr := HR.out 0
      have hd := drop_at zs 0 (by have := HL.out; omega)
      obtain ⟨c, HC⟩ : ∃ c, Hid (c = zs.getD 0 0) := ⟨_, rfl⟩
      rw [← HC.out] at hc hrr hd
      have HD : Hid (zs.drop 0 = c :: zs.drop (0 + 1)) := hd
      clear hd
      go_wp2
      go_meet
      case rel => exact ⟨by rw [HD.out]; simp [hasC], H00.out⟩
    · have HD : Hid (zs.drop 0 = []) := List.drop_of_length_le (by have := HL.out; omega)
      go_wp2
      go_meet
      case rel => exact ⟨by rw [HD.out]; rfl, H00.out⟩
  case rest =>
    obtain ⟨rfl, hst⟩ := hcut
    clear H00
    go_upto_if 16 with fail
    go_cut [] (fun wc => ∃ k : Nat, k ≤ n ∧ Hid (P2 (zs.drop k) = P1 zs) ∧ St w (.slice (some ⟨g, 0, none⟩) n cap) k wc)
    case first =>
      cases hb : hasC (zs.drop 0) 45
      · have HB := hide hb
        clear hb
        go_wp2
        go_meet
        case rel => exact ⟨0, Nat.zero_le _, by show P2 (zs.drop 0) = P1 zs; rw [P1_no HB.out]; rfl, hst⟩
      · obtain ⟨hk1, hd1⟩ := hasC_yes hb
        have HD1 := hide hd1
        have hk1' : 0 < n := by have := HL.out; omega
        clear hb hd1 hk1
        have hi := hst.1
        have hf := hst.2.1
        have HST := hide hst
        clear hst
        go_wp2
        go_meet
        case rel => exact ⟨1, by omega, by show P2 (zs.drop 1) = P1 zs; exact P1_yes HD1.out, HST.out.set 1 1 rfl⟩
    case rest =>
      clear hst
      obtain ⟨k, hk, HP, hst⟩ := hcut
      go_upto_region 5 with fail
      go_cut [29] (fun s wc => s = .bool (hasC (zs.drop k) 48) ∧ St w (.slice (some ⟨g, 0, none⟩) n cap) k wc)
      case first =>
        have hi := hst.1
        have hf := hst.2.1
        have hv := hst.v
        by_cases h0 : k < n
        · have hc := hst.old hg (HZ.out k h0)
          have hrr := HR.out k
          have hd := drop_at zs k (by have := HL.out; omega)
          obtain ⟨c, HC⟩ : ∃ c, Hid (c = zs.getD k 0) := ⟨_, rfl⟩
          rw [← HC.out] at hc hrr hd
          have HD : Hid (zs.drop k = c :: zs.drop (k + 1)) := hd
          have HST := hide hst
          clear hd hst
          go_wp2
          all_goals
            go_meet
            case rel => exact ⟨by rw [HD.out]; simp [hasC, *], HST.out⟩
        · have HD : Hid (zs.drop k = []) := List.drop_of_length_le (by have := HL.out; omega)
          have HST := hide hst
          clear hst
          go_wp2
          all_goals
            go_meet
            case rel => exact ⟨by rw [HD.out]; rfl, HST.out⟩
      case rest =>
        clear hst
        obtain ⟨rfl, hst⟩ := hcut
        go_upto_if 29 with fail
        go_cut [] (fun wc => ∃ k : Nat, k ≤ n ∧ Hid (P3 (zs.drop k) = P1 zs) ∧ St w (.slice (some ⟨g, 0, none⟩) n cap) k wc)
        case first =>
          cases hb : hasC (zs.drop k) 48
          · have HB := hide hb
            clear hb
            have HST := hide hst
            clear hst
            go_wp2_with fail
            refine (digits_st g n cap k zs w _ HL.out hk hn hg HST.out HZ.out HR.out).mono ?_
            rintro e w1 ⟨rfl, m, hm, hdm, hst1⟩
            have HDM : Hid (zs.drop m = dw (zs.drop k)) := hdm
            have HST1 := hide hst1
            clear hdm hst1
            cases hsd : sd (zs.drop k)
            · go_wp2_with fail
              go_ret
              exact ⟨ret_bool (by rw [← HP.out, P2_no HB.out, hsd]; rfl), HST1.out.below⟩
            · go_wp2_with fail
              go_meet
              case rel => exact ⟨m, hm, (by show P3 (zs.drop m) = P1 zs; rw [← HP.out, P2_no HB.out, hsd, HDM.out]; rfl), HST1.out⟩
          · obtain ⟨hk1, hd1⟩ := hasC_yes hb
            have HD1 := hide hd1
            have hk1' : k < n := by have := HL.out; omega
            clear hb hd1 hk1
            have hi := hst.1
            have hf := hst.2.1
            have HST := hide hst
            clear hst
            go_wp2
            go_meet
            case rel => exact ⟨k + 1, by omega, by show P3 (zs.drop (k + 1)) = P1 zs; rw [← HP.out, HD1.out]; rfl, HST.out.set (k + 1) _ (by omega)⟩
        case rest =>
          clear hst HP hk
          obtain ⟨k, hk, HP, hst⟩ := hcut
          go_upto_region 9 with fail
          go_cut [45] (fun s wc => s = .bool (hasC (zs.drop k) 46) ∧ St w (.slice (some ⟨g, 0, none⟩) n cap) k wc)
          case first =>
            have hi := hst.1
            have hf := hst.2.1
            have hv := hst.v
            by_cases h0 : k < n
            · have hc := hst.old hg (HZ.out k h0)
              have hrr := HR.out k
              have hd := drop_at zs k (by have := HL.out; omega)
              obtain ⟨c, HC⟩ : ∃ c, Hid (c = zs.getD k 0) := ⟨_, rfl⟩
              rw [← HC.out] at hc hrr hd
              have HD : Hid (zs.drop k = c :: zs.drop (k + 1)) := hd
              have HST := hide hst
              clear hd hst
              go_wp2
              all_goals
                go_meet
                case rel => exact ⟨by rw [HD.out]; simp [hasC, *], HST.out⟩
            · have HD : Hid (zs.drop k = []) := List.drop_of_length_le (by have := HL.out; omega)
              have HST := hide hst
              clear hst
              go_wp2
              all_goals
                go_meet
                case rel => exact ⟨by rw [HD.out]; rfl, HST.out⟩
          case rest =>
            clear hst
            obtain ⟨rfl, hst⟩ := hcut
            go_upto_if 45 with fail
            go_cut [] (fun wc => ∃ k : Nat, k ≤ n ∧ Hid (P4 (zs.drop k) = P1 zs) ∧ St w (.slice (some ⟨g, 0, none⟩) n cap) k wc)
            case first =>
              cases hb : hasC (zs.drop k) 46
              · have HB := hide hb
                clear hb
                go_wp2
                go_meet
                case rel => exact ⟨k, hk, by show P4 (zs.drop k) = P1 zs; rw [← HP.out, P3_no HB.out], hst⟩
              · obtain ⟨hk1, hd1⟩ := hasC_yes hb
                have HD1 := hide hd1
                have hk1' : k < n := by have := HL.out; omega
                clear hb hd1 hk1
                have hi := hst.1
                have hf := hst.2.1
                have HST := hide hst
                clear hst
                go_wp2_with fail
                refine (digits_st g n cap (k + 1) zs w _ HL.out (by omega) hn hg (HST.out.set (k + 1) _ (by omega)) HZ.out HR.out).mono ?_
                rintro e w1 ⟨rfl, m, hm, hdm, hst1⟩
                have HDM : Hid (zs.drop m = dw (zs.drop (k + 1))) := hdm
                have HST1 := hide hst1
                clear hdm hst1
                cases hsd : sd (zs.drop (k + 1))
                · go_wp2_with fail
                  go_ret
                  exact ⟨ret_bool (by rw [← HP.out, HD1.out, P3_yes, hsd]; rfl), HST1.out.below⟩
                · go_wp2_with fail
                  go_meet
                  case rel => exact ⟨m, hm, (by show P4 (zs.drop m) = P1 zs; rw [← HP.out, HD1.out, P3_yes, hsd, HDM.out]; rfl), HST1.out⟩
            case rest =>
              clear hst HP hk
              obtain ⟨k, hk, HP, hst⟩ := hcut
              go_upto_region 13 with fail
              go_cut [68] (fun s wc => s = .bool (hasC (zs.drop k) 101 || hasC (zs.drop k) 69) ∧ St w (.slice (some ⟨g, 0, none⟩) n cap) k wc)
              case first =>
                have hi := hst.1
                have hf := hst.2.1
                have hv := hst.v
                by_cases h0 : k < n
                · have hc := hst.old hg (HZ.out k h0)
                  have hrr := HR.out k
                  have hd := drop_at zs k (by have := HL.out; omega)
                  obtain ⟨c, HC⟩ : ∃ c, Hid (c = zs.getD k 0) := ⟨_, rfl⟩
                  rw [← HC.out] at hc hrr hd
                  have HD : Hid (zs.drop k = c :: zs.drop (k + 1)) := hd
                  have HST := hide hst
                  clear hd hst
                  go_wp2
                  all_goals
                    go_meet
                    case rel => exact ⟨by rw [HD.out]; simp [hasC, *], HST.out⟩
                · have HD : Hid (zs.drop k = []) := List.drop_of_length_le (by have := HL.out; omega)
                  have HST := hide hst
                  clear hst
                  go_wp2
                  all_goals
                    go_meet
                    case rel => exact ⟨by rw [HD.out]; rfl, HST.out⟩
              case rest =>
                clear hst
                obtain ⟨rfl, hst⟩ := hcut
                go_upto_if 68 with fail
                go_cut [] (fun wc => ∃ k : Nat, k ≤ n ∧ Hid ((zs.drop k).isEmpty = P1 zs) ∧ St w (.slice (some ⟨g, 0, none⟩) n cap) k wc)
                case first =>
                  cases hb : (hasC (zs.drop k) 101 || hasC (zs.drop k) 69)
                  · have HB := hide hb
                    clear hb
                    go_wp2
                    go_meet
                    case rel => exact ⟨k, hk, by show (zs.drop k).isEmpty = P1 zs; rw [← HP.out, P4_no HB.out], hst⟩
                  · obtain ⟨hk1, hd1⟩ := P4_yes hb
                    have HD1 := hide hd1
                    have hk1' : k < n := by have := HL.out; omega
                    clear hb hd1 hk1
                    have hst2 := hst.set (k + 1) ((k : Int) + 1) (by omega)
                    have hi := hst.1
                    have hf := hst.2.1
                    have hv := hst.v
                    by_cases h0 : k + 1 < n
                    · have hc := hst.old hg (HZ.out (k + 1) h0)
                      have hrr := HR.out (k + 1)
                      have hd := drop_at zs (k + 1) (by have := HL.out; omega)
                      obtain ⟨c, HC⟩ : ∃ c, Hid (c = zs.getD (k + 1) 0) := ⟨_, rfl⟩
                      rw [← HC.out] at hc hrr hd
                      have HD : Hid (zs.drop (k + 1) = c :: zs.drop (k + 1 + 1)) := hd
                      have HST2 := hide hst2
                      clear hd hst hst2
                      cases hA : (c == 43)
                      · cases hA2 : (c == 45)
                        · have HA := hide hA
                          have HA2 := hide hA2
                          go_wp2_with fail
                          refine (digits_st g n cap (k + 1) zs w _ HL.out (by omega) hn hg HST2.out HZ.out HR.out).mono ?_
                          rintro e w1 ⟨rfl, m, hm, hdm, hst1⟩
                          have HDM : Hid (zs.drop m = dw (zs.drop (k + 1))) := hdm
                          have HST1 := hide hst1
                          clear hdm hst1
                          cases hsd : sd (zs.drop (k + 1))
                          · go_wp2_with fail
                            go_ret
                            exact ⟨ret_bool (by rw [← HP.out, HD1.out, HD.out, expo_bare HA.out HA2.out, ← HD.out, hsd]; rfl), HST1.out.below⟩
                          · go_wp2_with fail
                            go_meet
                            case rel => exact ⟨m, hm, (by show (zs.drop m).isEmpty = P1 zs; rw [← HP.out, HD1.out, HD.out, expo_bare HA.out HA2.out, ← HD.out, hsd, HDM.out]; rfl), HST1.out⟩
                        · have HA : Hid (c = 43 ∨ c = 45) := .inr (by simpa using hA2)
                          go_wp2_with fail
                          refine (digits_st g n cap (k + 1 + 1) zs w _ HL.out (by omega) hn hg (HST2.out.set (k + 1 + 1) _ (by omega)) HZ.out HR.out).mono ?_
                          rintro e w1 ⟨rfl, m, hm, hdm, hst1⟩
                          have HDM : Hid (zs.drop m = dw (zs.drop (k + 1 + 1))) := hdm
                          have HST1 := hide hst1
                          clear hdm hst1
                          cases hsd : sd (zs.drop (k + 1 + 1))
                          · go_wp2_with fail
                            go_ret
                            exact ⟨ret_bool (by rw [← HP.out, HD1.out, HD.out, expo_sign HA.out, hsd]; rfl), HST1.out.below⟩
                          · go_wp2_with fail
                            go_meet
                            case rel => exact ⟨m, hm, (by show (zs.drop m).isEmpty = P1 zs; rw [← HP.out, HD1.out, HD.out, expo_sign HA.out, hsd, HDM.out]; rfl), HST1.out⟩
                      · have HA : Hid (c = 43 ∨ c = 45) := .inl (by simpa using hA)
                        go_wp2_with fail
                        refine (digits_st g n cap (k + 1 + 1) zs w _ HL.out (by omega) hn hg (HST2.out.set (k + 1 + 1) _ (by omega)) HZ.out HR.out).mono ?_
                        rintro e w1 ⟨rfl, m, hm, hdm, hst1⟩
                        have HDM : Hid (zs.drop m = dw (zs.drop (k + 1 + 1))) := hdm
                        have HST1 := hide hst1
                        clear hdm hst1
                        cases hsd : sd (zs.drop (k + 1 + 1))
                        · go_wp2_with fail
                          go_ret
                          exact ⟨ret_bool (by rw [← HP.out, HD1.out, HD.out, expo_sign HA.out, hsd]; rfl), HST1.out.below⟩
                        · go_wp2_with fail
                          go_meet
                          case rel => exact ⟨m, hm, (by show (zs.drop m).isEmpty = P1 zs; rw [← HP.out, HD1.out, HD.out, expo_sign HA.out, hsd, HDM.out]; rfl), HST1.out⟩
                    · have HST2 := hide hst2
                      clear hst hst2
                      go_wp2_with fail
                      refine (digits_st g n cap (k + 1) zs w _ HL.out (by omega) hn hg HST2.out HZ.out HR.out).mono ?_
                      rintro e w1 ⟨rfl, m, hm, hdm, hst1⟩
                      have HDM : Hid (zs.drop m = dw (zs.drop (k + 1))) := hdm
                      have HST1 := hide hst1
                      clear hdm hst1
                      cases hsd : sd (zs.drop (k + 1))
                      · go_wp2_with fail
                        go_ret
                        exact ⟨ret_bool (by rw [← HP.out, HD1.out, expo_nil (by have := HL.out; omega)]), HST1.out.below⟩
                      · go_wp2_with fail
                        go_meet
                        case rel => exact ⟨m, hm, (by show (zs.drop m).isEmpty = P1 zs; rw [List.drop_of_length_le (by have := HL.out; omega)] at hsd; cases hsd), HST1.out⟩
                case rest =>
                  clear hst HP hk
                  obtain ⟨k, hk, HP, hst⟩ := hcut
                  have hi := hst.1
                  have hv := hst.v
                  have HST := hide hst
                  clear hst
                  go_wp2
                  go_ret
                  exact ⟨ret_bool (by rw [← HP.out]; exact end_eq HL.out hk), HST.out.below⟩
end Go.Proofs.Qxb6621646a.JsonWalk
