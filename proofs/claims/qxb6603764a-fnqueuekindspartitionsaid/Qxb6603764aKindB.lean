import Derived.Test.Qxb6603764aKindA
namespace Go.Proofs.Qxb6603764a
open Go.RowKit

theorem grown_drewN {W w : World} (h : Grown W w) (n : Nat) : Grown W (w.drewN n) := h

theorem holds_new (w : World) (k : Int) : Holds (w.alloc (.cells (cellsOf k) 27)) w.heap.size (kinds k) := by
  intro i hi
  rw [cell_of_row _ _ i (cellsOf k) 27 (0, 0) (heap_alloc_new w _)]
  unfold cellsOf
  simp [hi]
theorem Holds.alloc {w : World} {b : Nat} {zs : List Int} (h : Holds w b zs) (o : Obj) : Holds (w.alloc o) b zs := by
  intro i hi
  have := h i hi
  rw [World.cell?_alloc_old _ _ _ (by have := World.block_lt_of_cell? w _ this; show b ≠ _; simp only at this; omega)]
  exact this
theorem Holds.drewN {w : World} {b : Nat} {zs : List Int} (h : Holds w b zs) (n : Nat) : Holds (w.drewN n) b zs := h

/-! ### the plain law -/
theorem kinds_len (k : Int) : 1 ≤ (kinds k).length ∧ (kinds k).length ≤ 2 := by unfold kinds; split <;> simp
theorem kin_self (k : Int) : kin (kinds k) k = true := by
  unfold kin kinds
  split <;> simp; omega
theorem kin_iff (a b : Int) : kin (kinds a) b = true ↔ ((a = 1 ∨ a = 2) ∧ (b = 1 ∨ b = 2)) ∨ b = a := by
  unfold kin kinds
  split
  · simp; omega
  · simp; omega
theorem kin_swap (a b : Int) : kin (kinds a) b = kin (kinds b) a := by
  rw [Bool.eq_iff_iff, kin_iff, kin_iff]; omega
theorem kin_same {a b : Int} (h : kin (kinds a) b = true) : kinds a = kinds b := by
  rw [kin_iff] at h
  unfold kinds
  split <;> split <;> first | rfl | omega | skip
  have : b = a := by omega
  rw [this]
theorem kin_get (zs : List Int) (j : Nat) (h : j < zs.length) : kin zs (zs[j]?.getD 0) = true := by
  unfold kin
  rw [List.getElem?_eq_getElem h]
  simp
theorem kinds_apart (k : Int) (i j : Nat) (hij : i < j) (hj : j < (kinds k).length) : ((kinds k)[i]?.getD 0 == (kinds k)[j]?.getD 0) = false := by
  have hl := kinds_len k
  obtain rfl : j = 1 := by omega
  obtain rfl : i = 0 := by omega
  by_cases h : k = 1 ∨ k = 2
  · rw [kinds_rw h]; rfl
  · rw [kinds_own h] at hj; simp at hj

set_option maxRecDepth 4000 in
set_option maxHeartbeats 4000000 in
theorem law (a b : Int) (w : World) :
    Calls Try.prog 5 #[.int .i64 a, .int .i64 b] w fun e w' => e = .returned (.bool true) ∧ Grown w w' := by
  obtain ⟨la1, la2⟩ := kinds_len a
  obtain ⟨lb1, lb2⟩ := kinds_len b
  obtain ⟨A, hA⟩ : ∃ A, A = kinds a := ⟨_, rfl⟩
  obtain ⟨B, hB⟩ : ∃ B, B = kinds b := ⟨_, rfl⟩
  have HA : Hid (A = kinds a) := hA
  have HB : Hid (B = kinds b) := hB
  rw [← hA] at la1 la2
  rw [← hB] at lb1 lb2
  clear hA hB
  go_enter Try.func5, Try.ntmps5
  go_wp2_with fail
  refine (zzkinds_any a w).mono ?_
  rintro e w1 ⟨rfl, rfl⟩
  rw [← HA.out]
  have h1 : Holds (w.alloc (.cells (cellsOf a) 27)) w.heap.size A := by rw [HA.out]; exact holds_new w a
  have g1 : Grown w (w.alloc (.cells (cellsOf a) 27)) := (Grown.refl w).alloc _ _
  obtain ⟨w1, hw1⟩ : ∃ w1, w1 = w.alloc (.cells (cellsOf a) 27) := ⟨_, rfl⟩
  rw [← hw1] at h1 g1 ⊢
  obtain ⟨p, hp⟩ : ∃ p, p = w.heap.size := ⟨_, rfl⟩
  rw [← hp] at h1 ⊢
  clear hw1 hp
  have H1 : Hid (Holds w1 p A) := h1
  have G1 : Hid (Grown w w1) := g1
  clear h1 g1
  go_wp2_with fail
  refine (zzkinds_any b w1).mono ?_
  rintro e w2 ⟨rfl, rfl⟩
  rw [← HB.out]
  have h2 : Holds (w1.alloc (.cells (cellsOf b) 27)) w1.heap.size B := by rw [HB.out]; exact holds_new w1 b
  have h1 : Holds (w1.alloc (.cells (cellsOf b) 27)) p A := H1.out.alloc _
  have g2 : Grown w (w1.alloc (.cells (cellsOf b) 27)) := G1.out.alloc _ _
  obtain ⟨w2, hw2⟩ : ∃ w2, w2 = w1.alloc (.cells (cellsOf b) 27) := ⟨_, rfl⟩
  rw [← hw2] at h1 h2 g2 ⊢
  obtain ⟨q, hq⟩ : ∃ q, q = w1.heap.size := ⟨_, rfl⟩
  rw [← hq] at h2 ⊢
  clear hw2 hq H1 G1
  have H1 : Hid (Holds w2 p A) := h1
  have H2 : Hid (Holds w2 q B) := h2
  have G2 : Hid (Grown w w2) := g2
  clear h1 h2 g2
  obtain ⟨n, hn⟩ : ∃ n, n = A.length := ⟨_, rfl⟩
  obtain ⟨m, hm⟩ : ∃ m, m = B.length := ⟨_, rfl⟩
  rw [← hn, ← hm]
  rw [← hn] at la1 la2
  rw [← hm] at lb1 lb2
  have HN : Hid (A.length = n) := hn.symm
  have HM : Hid (B.length = m) := hm.symm
  clear hn hm
  have eaa : kin A a = true := by rw [HA.out]; exact kin_self a
  have ebb : kin B b = true := by rw [HB.out]; exact kin_self b
  have eab : kin B a = kin A b := by rw [HA.out, HB.out]; exact kin_swap b a
  have EAA : Hid (kin A a = true) := eaa
  have EBB : Hid (kin B b = true) := ebb
  have EAB : Hid (kin B a = kin A b) := eab
  clear eaa ebb eab
  go_wp2_with fail
  refine (kindIn_any a p n _ A _ HN.out (by omega) H1.out).mono ?_
  rintro e w2 ⟨rfl, rfl⟩
  rw [EAA.out]
  go_wp2_with fail
  refine (kindIn_any b q m _ B _ HM.out (by omega) H2.out).mono ?_
  rintro e w2 ⟨rfl, rfl⟩
  rw [EBB.out]
  go_wp2_with fail
  refine (kindIn_any b p n _ A _ HN.out (by omega) H1.out).mono ?_
  rintro e w2 ⟨rfl, rfl⟩
  go_wp2_with fail
  refine (kindIn_any a q m _ B _ HM.out (by omega) H2.out).mono ?_
  rintro e w2 ⟨rfl, rfl⟩
  rw [EAB.out]
  by_cases hk : kin A b = true
  · have HAB : Hid (A = B) := by rw [HA.out, HB.out]; exact kin_same (by rw [← HA.out]; exact hk)
    rw [hk]
    clear hk
    go_wp2_with fail
    go_loop [9] (fun y => ∃ j : Nat, j ≤ n ∧ y = .int .i64 j) (fun y => n - (intOf y).toNat)
    case atStart => exact ⟨0, by omega, rfl⟩
    case round =>
      obtain ⟨j, hj, rfl⟩ := hrel
      by_cases hlt : j < n
      · have hc := H1.out j (by rw [HN.out]; exact hlt)
        have HK : Hid (kin B (A[j]?.getD 0) = true) := by rw [← HAB.out]; exact kin_get A j (by rw [HN.out]; exact hlt)
        obtain ⟨z, hz⟩ : ∃ z, z = A[j]?.getD 0 := ⟨_, rfl⟩
        rw [← hz] at hc HK
        clear hz
        go_wp2_with fail
        refine (kindIn_any z q m _ B _ HM.out (by omega) H2.out).mono ?_
        rintro e w2 ⟨rfl, rfl⟩
        rw [HK.out]
        go_wp2_with fail
        go_round
        case rel => exact ⟨j + 1, by omega, by go_num⟩
        case measure => simp [intOf]; omega
      · go_wp2_with fail
        go_loop [10] (fun y => ∃ j : Nat, j ≤ m ∧ y = .int .i64 j) (fun y => m - (intOf y).toNat)
        case atStart => exact ⟨0, by omega, rfl⟩
        case round =>
          obtain ⟨j2, hj2, rfl⟩ := hrel
          by_cases hlt2 : j2 < m
          · have hc := H2.out j2 (by rw [HM.out]; exact hlt2)
            have HK : Hid (kin A (B[j2]?.getD 0) = true) := by rw [HAB.out]; exact kin_get B j2 (by rw [HM.out]; exact hlt2)
            obtain ⟨z, hz⟩ : ∃ z, z = B[j2]?.getD 0 := ⟨_, rfl⟩
            rw [← hz] at hc HK
            clear hz
            go_wp2_with fail
            refine (kindIn_any z p n _ A _ HN.out (by omega) H1.out).mono ?_
            rintro e w2 ⟨rfl, rfl⟩
            rw [HK.out]
            go_wp2_with fail
            go_round
            case rel => exact ⟨j2 + 1, by omega, by go_num⟩
            case measure => simp [intOf]; omega
          · go_wp2_with fail
            go_loopw [11, 12] (fun x _ wr => ∃ i d : Nat, i ≤ n ∧ x = .int .i64 i ∧ wr = w2.drewN d) (fun x _ _ => n - (intOf x).toNat)
            case atStart => exact ⟨0, 0, by omega, rfl, rfl⟩
            case round =>
              obtain ⟨i, d, hi, rfl, rfl⟩ := hrel
              by_cases hlt : i < n
              · have hci := H1.out i (by rw [HN.out]; exact hlt)
                go_wp2_with fail
                go_loopw [12] (fun y wr => ∃ j d : Nat, i < j ∧ j ≤ n ∧ y = .int .i64 j ∧ wr = w2.drewN d) (fun y _ => n - (intOf y).toNat)
                case atStart => exact ⟨i + 1, d, by omega, by omega, by go_num, rfl⟩
                case round =>
                  obtain ⟨j, d', hj1, hj2, rfl, rfl⟩ := hrel
                  by_cases hlj : j < n
                  · have hcj := H1.out j (by rw [HN.out]; exact hlj)
                    have hne : (A[i]?.getD 0 == A[j]?.getD 0) = false := by rw [HA.out]; exact kinds_apart a i j hj1 (by rw [← HA.out, HN.out]; exact hlj)
                    obtain ⟨x, hx⟩ : ∃ x, x = A[i]?.getD 0 := ⟨_, rfl⟩
                    obtain ⟨y, hy⟩ : ∃ y, y = A[j]?.getD 0 := ⟨_, rfl⟩
                    rw [← hx] at hne hci
                    rw [← hy] at hne hcj
                    clear hx hy
                    go_wp2_with fail
                    go_quiet (fail)
                    go_wp2_with fail
                    go_roundw
                    case rel => exact ⟨j + 1, _, by omega, by omega, by go_num, rfl⟩
                    case measure => simp [intOf]; omega
                  · go_wp2_with fail
                    go_roundw
                    case rel => exact ⟨i + 1, _, by omega, by go_num, rfl⟩
                    case measure => simp [intOf]; omega
              · have G3 : Hid (Grown w (w2.drewN d)) := grown_drewN G2.out d
                obtain ⟨w3, hw3⟩ : ∃ w3, w3 = w2.drewN d := ⟨_, rfl⟩
                rw [← hw3] at G3
                go_wp2_with fail
                rw [← hw3]
                clear hw3
                refine (zzkinds_any 1 w3).mono ?_
                rintro e w4 ⟨rfl, rfl⟩
                rw [kinds_rw (.inl rfl)]
                have H4 : Hid (Holds (w3.alloc (.cells (cellsOf 1) 27)) w3.heap.size [1, 2]) := by rw [← kinds_rw (k := 1) (.inl rfl)]; exact holds_new w3 1
                go_wp2_with fail
                refine (kindIn_any 2 _ 2 _ [1, 2] _ rfl (by omega) H4.out).mono ?_
                rintro e w5 ⟨rfl, hw5⟩
                have G5 : Hid (Grown w w5) := by rw [hw5]; exact G3.out.alloc _ _
                clear hw5 H4
                rw [show kin [1, 2] 2 = true from rfl]
                go_wp2_with fail
                refine (zzkinds_any 2 w5).mono ?_
                rintro e w6 ⟨rfl, rfl⟩
                rw [kinds_rw (.inr rfl)]
                have H6 : Hid (Holds (w5.alloc (.cells (cellsOf 2) 27)) w5.heap.size [1, 2]) := by rw [← kinds_rw (k := 2) (.inr rfl)]; exact holds_new w5 2
                go_wp2_with fail
                refine (kindIn_any 1 _ 2 _ [1, 2] _ rfl (by omega) H6.out).mono ?_
                rintro e w7 ⟨rfl, hw7⟩
                have G7 : Hid (Grown w w7) := by rw [hw7]; exact G5.out.alloc _ _
                clear hw7 H6
                rw [show kin [1, 2] 1 = true from rfl]
                go_wp2_with fail
                refine (zzkinds_any 0 w7).mono ?_
                rintro e w8 ⟨rfl, hw8⟩
                have G8 : Hid (Grown w w8) := by rw [hw8]; exact G7.out.alloc _ _
                clear hw8
                rw [kinds_own (k := 0) (by omega)]
                go_wp2_with fail
                refine (zzkinds_any 3 w8).mono ?_
                rintro e w9 ⟨rfl, hw9⟩
                have G9 : Hid (Grown w w9) := by rw [hw9]; exact G8.out.alloc _ _
                clear hw9
                rw [kinds_own (k := 3) (by omega)]
                go_wp2_with fail
                go_ret
                exact ⟨rfl, G9.out⟩
  · have hk' : kin A b = false := by simpa using hk
    rw [hk']
    clear hk hk'
    go_wp2_with fail
    go_loopw [11, 12] (fun x _ wr => ∃ i d : Nat, i ≤ n ∧ x = .int .i64 i ∧ wr = w2.drewN d) (fun x _ _ => n - (intOf x).toNat)
    case atStart => exact ⟨0, 0, by omega, rfl, rfl⟩
    case round =>
      obtain ⟨i, d, hi, rfl, rfl⟩ := hrel
      by_cases hlt : i < n
      · have hci := H1.out i (by rw [HN.out]; exact hlt)
        go_wp2_with fail
        go_loopw [12] (fun y wr => ∃ j d : Nat, i < j ∧ j ≤ n ∧ y = .int .i64 j ∧ wr = w2.drewN d) (fun y _ => n - (intOf y).toNat)
        case atStart => exact ⟨i + 1, d, by omega, by omega, by go_num, rfl⟩
        case round =>
          obtain ⟨j, d', hj1, hj2, rfl, rfl⟩ := hrel
          by_cases hlj : j < n
          · have hcj := H1.out j (by rw [HN.out]; exact hlj)
            have hne : (A[i]?.getD 0 == A[j]?.getD 0) = false := by rw [HA.out]; exact kinds_apart a i j hj1 (by rw [← HA.out, HN.out]; exact hlj)
            obtain ⟨x, hx⟩ : ∃ x, x = A[i]?.getD 0 := ⟨_, rfl⟩
            obtain ⟨y, hy⟩ : ∃ y, y = A[j]?.getD 0 := ⟨_, rfl⟩
            rw [← hx] at hne hci
            rw [← hy] at hne hcj
            clear hx hy
            go_wp2_with fail
            go_quiet (fail)
            go_wp2_with fail
            go_roundw
            case rel => exact ⟨j + 1, _, by omega, by omega, by go_num, rfl⟩
            case measure => simp [intOf]; omega
          · go_wp2_with fail
            go_roundw
            case rel => exact ⟨i + 1, _, by omega, by go_num, rfl⟩
            case measure => simp [intOf]; omega
      · have G3 : Hid (Grown w (w2.drewN d)) := grown_drewN G2.out d
        obtain ⟨w3, hw3⟩ : ∃ w3, w3 = w2.drewN d := ⟨_, rfl⟩
        rw [← hw3] at G3
        go_wp2_with fail
        rw [← hw3]
        clear hw3
        refine (zzkinds_any 1 w3).mono ?_
        rintro e w4 ⟨rfl, rfl⟩
        rw [kinds_rw (.inl rfl)]
        have H4 : Hid (Holds (w3.alloc (.cells (cellsOf 1) 27)) w3.heap.size [1, 2]) := by rw [← kinds_rw (k := 1) (.inl rfl)]; exact holds_new w3 1
        go_wp2_with fail
        refine (kindIn_any 2 _ 2 _ [1, 2] _ rfl (by omega) H4.out).mono ?_
        rintro e w5 ⟨rfl, hw5⟩
        have G5 : Hid (Grown w w5) := by rw [hw5]; exact G3.out.alloc _ _
        clear hw5 H4
        rw [show kin [1, 2] 2 = true from rfl]
        go_wp2_with fail
        refine (zzkinds_any 2 w5).mono ?_
        rintro e w6 ⟨rfl, rfl⟩
        rw [kinds_rw (.inr rfl)]
        have H6 : Hid (Holds (w5.alloc (.cells (cellsOf 2) 27)) w5.heap.size [1, 2]) := by rw [← kinds_rw (k := 2) (.inr rfl)]; exact holds_new w5 2
        go_wp2_with fail
        refine (kindIn_any 1 _ 2 _ [1, 2] _ rfl (by omega) H6.out).mono ?_
        rintro e w7 ⟨rfl, hw7⟩
        have G7 : Hid (Grown w w7) := by rw [hw7]; exact G5.out.alloc _ _
        clear hw7 H6
        rw [show kin [1, 2] 1 = true from rfl]
        go_wp2_with fail
        refine (zzkinds_any 0 w7).mono ?_
        rintro e w8 ⟨rfl, hw8⟩
        have G8 : Hid (Grown w w8) := by rw [hw8]; exact G7.out.alloc _ _
        clear hw8
        rw [kinds_own (k := 0) (by omega)]
        go_wp2_with fail
        refine (zzkinds_any 3 w8).mono ?_
        rintro e w9 ⟨rfl, hw9⟩
        have G9 : Hid (Grown w w9) := by rw [hw9]; exact G8.out.alloc _ _
        clear hw9
        rw [kinds_own (k := 3) (by omega)]
        go_wp2_with fail
        go_ret
        exact ⟨rfl, G9.out⟩
end Go.Proofs.Qxb6603764a
