import Derived.Test.Qxb6601704aSoRWalk
namespace Go.Proofs.Qxb6601704a.So
open Go.RowKit
open Go.Proofs.Qxb6601704a.Esc (bc bc_length bc_append info5)

theorem lt_of_place (t n size P I N : Nat) (hI : I = t * size + P) (hN : N = n * size) (h : I < N) : t < n := by
  by_cases c : t < n
  · exact c
  · have := Nat.mul_le_mul_right size (show n ≤ t by omega)
    omega
theorem place_lt (t n size P I N : Nat) (hI : I = t * size + P) (hN : N = n * size) (hP : P < size) (h : t < n) : I < N := by
  have := Nat.mul_le_mul_right size (show t + 1 ≤ n by omega)
  rw [Nat.succ_mul] at this
  omega

set_option maxRecDepth 100000 in
set_option maxHeartbeats 8000000 in
theorem sort_any (ga N size n : Nat) (L : List (List UInt8)) (w : World) (hb : Blk size L) (hl : L.length = n) (hN : N = n * size) (ha : Arr w ga L.flatten) (hs : 1 ≤ size) (hs2 : size ≤ 65536) (hN2 : N ≤ 1048576) (hn : 1 ≤ n) (hn2 : n ≤ 1048576) :
    Calls Try.prog 18 #[.agg #[.int .i64 (size : Int), .slice (some ⟨ga, 0, none⟩) N N]] w fun e w' => e = .returned (.tuple #[]) ∧ ∃ A, Arr w' ga A.flatten ∧ Blk size A ∧ A.Perm L ∧ A.Pairwise (· ≤ ·) ∧ w.grownBy w' (some ga) := by
  obtain ⟨i0, hi, hz0, hz1, hz2⟩ := info_parts info5
  have HN : Hid (N = n * size) := hN
  clear hN
  obtain ⟨w1, T0, hmk, hRx⟩ : ∃ w1 T0, (Instr.makeSlice 27 (.int .i64 (N : Int)) (.int .i64 (N : Int))).run Try.prog (w.alloc (.cells #[.int .i64 (size : Int), .slice (some ⟨ga, 0, none⟩) N N] 35)).drew = .ok (.slice (some ⟨w.heap.size + 1, 0, none⟩) N N) w1 ∧ Rx size n ga N w w1 ga (w.heap.size + 1) L T0 := by
    obtain ⟨w1, hmk, hown1, hgrow1⟩ := run_make_full (P := Try.prog) (w.alloc (.cells #[.int .i64 (size : Int), .slice (some ⟨ga, 0, none⟩) N N] 35)).drew w.heap.size 27 5 i0 (.int .u8 0) 1 Try.underlying27 hi hz0 hz1 .i64 .i64 N (by rw [hz2]; omega) (by unfold maxLen; omega) (by simp)
    have e1 : (w.alloc (.cells #[.int .i64 (size : Int), .slice (some ⟨ga, 0, none⟩) N N] 35)).drew.heap.size = w.heap.size + 1 := by simp
    rw [e1] at hmk hown1
    have hz : w1.heap[w.heap.size + 1]? = some (.cells (bc (List.replicate N 0)).toArray 5 (0, 0)) := by
      rcases hown1.2 with ⟨h, _⟩ | ⟨g', cap', cur, h, _, h3, _, _, h6, h7⟩
      · cases h
      · cases h
        rw [h3]
        have e : cur.toList = bc (List.replicate N 0) := by
          rw [List.take_of_length_le (by rw [Array.length_toList, h6]; omega)] at h7
          rw [h7, Nat.mul_one, show (Value.int IntKind.u8 0).cells = #[Value.int IntKind.u8 0] from rfl, toList_madeCells_one]
          simp [bc]
        rw [← e]
    obtain ⟨T0, hT1, hT2, hT3⟩ := to_blocks size n (List.replicate N 0) (by rw [List.length_replicate]; exact HN.out)
    have hga := ha.lt
    have hold : ∀ k, k < w.heap.size → w1.heap[k]? = w.heap[k]? := fun k hk => by
      rw [hgrow1.block k (by rw [e1]; omega) (by simp)]
      exact Below.heap_alloc w _ k hk
    refine ⟨w1, T0, hmk, ⟨⟨hb, hT1, hl, hT2, ?_, ?_, by omega, ⟨?_, ?_, ?_, ?_, fun k hk _ => hold k hk⟩, .inl rfl, .inr (by omega)⟩, ?_, by omega, by omega⟩⟩
    · unfold Arr; rw [hold ga hga]; exact ha
    · unfold Arr; rw [hT3]; exact hz
    · exact hgrow1.os
    · exact hgrow1.tape
    · exact hgrow1.output
    · have := hgrow1.size; rw [e1] at this; omega
    · rw [hgrow1.block w.heap.size (by rw [e1]; omega) (by simp)]
      exact heap_alloc_new w _
  have hb1 := hRx.b1
  clear ha
  go_enter Try.func18, Try.ntmps18
  go_wp2
  go_region_held3 (fun wx => wx.cell? ⟨w.heap.size, 1, none⟩ = some (.slice (some ⟨ga, 0, none⟩) N N)) (go_keep) (fail)
  clear hb1 hmk
  have hb0 := hRx.b0
  go_wp2
  clear hb0
  go_loopw [2, 3, 4] (fun f t ps wr => ∃ (x y p : Nat) (z : Int) (A T : List (List UInt8)), f = .slice (some ⟨x, 0, none⟩) N N ∧ t = .slice (some ⟨y, 0, none⟩) N N ∧ ps = .int .i64 z ∧ p ≤ size ∧ Hid (z = (p : Int) - 1) ∧ Hid (Rx size n ga N w wr x y A T ∧ A.Perm L ∧ From p A ∧ (x = ga ∨ y = ga))) (fun _ _ ps _ => (intOf ps + 1).toNat)
  case atStart => exact ⟨ga, w.heap.size + 1, size, _, L, T0, rfl, rfl, rfl, Nat.le_refl _, rfl, hRx, List.Perm.refl _, from_end hb, .inl rfl⟩
  case round =>
    clear hRx
    obtain ⟨x, y, p, z, A, T, rfl, rfl, rfl, hp, HZ, HR⟩ := hrel
    cases p with
    | zero =>
      obtain rfl : z = -1 := by have := HZ.out; omega
      have c4 := HR.out.1.b1
      obtain ⟨w5, hcp, E5⟩ := HR.out.1.last HN.out HR.out.2.2.2
      have R : Hid (∃ A, Arr w5 ga A.flatten ∧ Blk size A ∧ A.Perm L ∧ A.Pairwise (· ≤ ·) ∧ w.grownBy w5 (some ga)) := ⟨A, E5.out.1, HR.out.1.st.bA, HR.out.2.1, from_zero HR.out.2.2.1, E5.out.2⟩
      clear E5
      go_wp2
      go_end0
      exact ⟨rfl, R.out⟩
    | succ P =>
      obtain rfl : z = (P : Int) := by have := HZ.out; omega
      have hP0 : (0 : Int) ≤ (P : Int) := by omega
      have hPs : P < size := hp
      have hltx := HR.out.1.ltx
      go_wp2_with (refine wpList_alloc37 rfl rfl ?_)
      have hR1 : Rx size n ga N w (wr.alloc (.cells zeroCells 37)) x y A T := HR.out.1.alloc _
      have hI1 : IArr (wr.alloc (.cells zeroCells 37)) wr.heap.size (tab (cf P A 0)) := by
        rw [cf_zero]
        exact heap_alloc_new wr _
      obtain ⟨gc, hgc, hgx, hgy, hgb⟩ : ∃ gc, wr.heap.size = gc ∧ gc ≠ x ∧ gc ≠ y ∧ w.heap.size < gc := ⟨_, rfl, by omega, by omega, by omega⟩
      rw [hgc] at hI1
      rw [hgc]
      clear hgc hltx
      generalize wr.alloc (.cells zeroCells 37) = wa at *
      go_loopw [6] (fun i wr2 => ∃ (t I : Nat), i = .int .i64 I ∧ Hid (I = t * size + P) ∧ t ≤ n ∧ I ≤ 2097152 ∧ Hid (Rx size n ga N w wr2 x y A T ∧ IArr wr2 gc (tab (cf P A t)))) (fun i _ => N - (intOf i).toNat)
      case atStart => exact ⟨0, P, rfl, by show _ = _; omega, by omega, by omega, hR1, hI1⟩
      case round =>
        obtain ⟨t, I, rfl, HI, ht, hI2, HS⟩ := hrel
        by_cases hlt : I < N
        · have htn := lt_of_place t n size P I N HI.out HN.out hlt
          have hlt' : (I : Int) < (N : Int) := by omega
          have htA : t < A.length := by rw [HS.out.1.st.lA]; exact htn
          have c1 := HS.out.1.byte t P I htn hPs HI.out
          have hk := key_lt P A[t]
          have c2 := HS.out.2.cell (key P A[t]) (by rw [tab_len]; exact hk)
          rw [tab_at] at c2
          have f2 := HS.out.2.free (key P A[t])
          have ST := cf_step P A t htA
          have hcb := cf_bd P A t (key P A[t])
          have hAl := HS.out.1.st.lA
          have R2 : Hid (Rx size n ga N w (wr.setCell ⟨gc, key P A[t], none⟩ (.int .i64 (cf P A t (key P A[t]) + 1))) x y A T ∧ IArr (wr.setCell ⟨gc, key P A[t], none⟩ (.int .i64 (cf P A t (key P A[t]) + 1))) gc (tab (cf P A (t + 1)))) :=
            ⟨HS.out.1.setCell _ _ hgx hgy hgb, by rw [← ST]; exact HS.out.2.set _ _⟩
          have c3 := R2.out.1.b0
          generalize cf P A t (key P A[t]) = cv at *
          generalize hkey : key P A[t] = kb at *
          clear hkey
          have kb1 : (kb : Int) < 256 := by omega
          have kb0 : (0 : Int) ≤ (kb : Int) := by omega
          clear ST hgx hgy
          go_wp2
          go_roundw
          case rel => exact ⟨t + 1, I + size, by go_num, by have := HI.out; show _ = _; rw [Nat.succ_mul]; omega, by omega, by omega, R2.out⟩
          case measure => simp [intOf]; omega
        · have hlt' : ¬ (I : Int) < (N : Int) := by omega
          have htn : t = n := by
            by_cases c : t < n
            · exact absurd (place_lt t n size P I N HI.out HN.out hPs c) hlt
            · omega
          have hAl := HS.out.1.st.lA
          have h0A : 0 < A.length := by omega
          have c1 := HS.out.1.byte 0 P P (by omega) hPs (by omega)
          have hk := key_lt P A[0]
          have c2 := HS.out.2.cell (key P A[0]) (by rw [tab_len]; exact hk)
          rw [tab_at] at c2
          have c3 := HS.out.1.b0
          have c4 := HS.out.1.b1
          have CC : Hid (cf P A t (key P A[0]) = (cnt P (key P A[0]) A : Nat)) := cf_all P A t _ (by omega)
          have hcb := cf_bd P A t (key P A[0])
          generalize cf P A t (key P A[0]) = cv at *
          generalize hkey : key P A[0] = kb at *
          clear hkey
          have kb1 : (kb : Int) < 256 := by omega
          have kb0 : (0 : Int) ≤ (kb : Int) := by omega
          have hPN : (P : Int) < (N : Int) := by have := place_lt 0 n size P P N (by omega) HN.out hPs (by omega); omega
          have hltx := HS.out.1.ltx
          have hltc := HS.out.2.lt
          have hq : (N : Int) / (size : Int) = (n : Int) := by
            rw [HN.out, Int.natCast_mul]
            exact Int.mul_ediv_cancel _ (by omega)
          go_wp2
          go_region_held3 (fun wx => wx.cell? ⟨x, P, none⟩ = some (.int .u8 (kb : Int)) ∧ wx.cell? ⟨gc, kb, none⟩ = some (.int .i64 cv) ∧ wx.cell? ⟨w.heap.size, 0, none⟩ = some (.int .i64 (size : Int)) ∧ wx.cell? ⟨w.heap.size, 1, none⟩ = some (.slice (some ⟨ga, 0, none⟩) N N)) (go_keep)
            ((go_at_call 19; refine (count_any _ _ _ _ _ (by omega) (by omega) (by omega)).mono ?_; rintro e w' ⟨rfl, rfl⟩))
          have hR2 : Rx size n ga N w (wr.alloc (.cells #[.int .i64 (size : Int), .slice (some ⟨ga, 0, none⟩) N N] 35)).drew x y A T := (HS.out.1.alloc _).drewN 1
          have hI2 : IArr (wr.alloc (.cells #[.int .i64 (size : Int), .slice (some ⟨ga, 0, none⟩) N N] 35)).drew gc (tab (cf P A t)) := (HS.out.2.alloc _).drewN 1
          generalize (wr.alloc (.cells #[.int .i64 (size : Int), .slice (some ⟨ga, 0, none⟩) N N] 35)).drew = wb at *
          clear c1 c2 c3 c4
          by_cases hall : cv = (n : Int)
          · have hall' : (cv == (n : Int)) = true := by rw [hall]; simp
            have F : Hid (From P A) := by
              have h1 := CC.out
              exact all_same (b := kb) HS.out.1.st.bA hPs HR.out.2.2.1 (by omega)
            clear hall
            go_wp2
            go_roundw
            case rel => exact ⟨x, y, P, _, A, T, rfl, rfl, rfl, by omega, rfl, hR2, HR.out.2.1, F.out, HR.out.2.2.2⟩
            case measure => simp [intOf]
          · have hall' : (cv == (n : Int)) = false := by rw [beq_eq_false_iff_ne]; exact hall
            clear hall CC hcb
            have hltb := hR2.ltx
            have hltg := hI2.lt
            go_wp2_with (refine wpList_alloc37 rfl rfl ?_)
            obtain ⟨gn, hgn, hnx, hny, hnb, hnc⟩ : ∃ gn, wb.heap.size = gn ∧ gn ≠ x ∧ gn ≠ y ∧ w.heap.size < gn ∧ gn ≠ gc := ⟨_, rfl, by omega, by omega, by omega, by omega⟩
            have hR3 : Rx size n ga N w (wb.alloc (.cells zeroCells 37)) x y A T := hR2.alloc _
            have hI3 : IArr (wb.alloc (.cells zeroCells 37)) gc (tab (cf P A A.length)) := by
              have := hI2.alloc (.cells zeroCells 37)
              rw [show A.length = t from by omega]; exact this
            have hJ3 : IArr (wb.alloc (.cells zeroCells 37)) wb.heap.size (tab (nf size P A 1)) := by
              rw [nf_one]
              exact heap_alloc_new wb _
            rw [hgn] at hJ3
            rw [hgn]
            clear hgn hltb hltg
            generalize wb.alloc (.cells zeroCells 37) = wc at *
            clear hR2 hI2
            go_loopw [8] (fun v wr => ∃ m : Nat, v = .int .i64 ((m : Int) + 1) ∧ m ≤ 255 ∧ Hid (Rx size n ga N w wr x y A T ∧ IArr wr gc (tab (cf P A A.length)) ∧ IArr wr gn (tab (nf size P A (m + 1))))) (fun v _ => 256 - (intOf v).toNat)
            case atStart => exact ⟨0, rfl, by omega, hR3, hI3, hJ3⟩
            case round =>
              obtain ⟨m, rfl, hm, HT⟩ := hrel
              by_cases hm2 : m < 255
              · have hm' : (m : Int) + 1 < 256 := by omega
                have c1 := HT.out.2.2.cell m (by rw [tab_len]; omega)
                have c2 := HT.out.2.1.cell m (by rw [tab_len]; omega)
                have c3 := HT.out.1.b0
                have c5 := HT.out.2.2.cell (m + 1) (by rw [tab_len]; omega)
                have f5 := HT.out.2.2.free (m + 1)
                rw [tab_at] at c1 c2 c5
                have hAl := HT.out.1.st.lA
                have hnb1 := nf_bd size P A (m + 1) m
                have hcb1 := cf_bd P A A.length m
                have hnb2 := nf_bd size P A (m + 2) (m + 1)
                have STP : Hid _ := nf_step size P A m
                have EV : Hid (nf size P A (m + 2) (m + 1) = nf size P A (m + 1) m + cf P A A.length m * size) := by
                  unfold nf
                  rw [if_pos (by omega), if_pos (by omega), cf_all P A _ _ (Nat.le_refl _), less_succ, Nat.add_mul]
                  show _ = _
                  simp
                have NVE : Hid (nf size P A (m + 2) m = nf size P A (m + 1) m) := by
                  unfold nf
                  rw [if_pos (by omega), if_pos (by omega)]
                  show _ = _
                  rfl
                rw [hAl, ← HN.out] at hnb1 hnb2
                generalize nf size P A (m + 1) (m + 1) = ov at *
                generalize nf size P A (m + 1) m = nv at *
                generalize hcv : cf P A A.length m = cv at *
                obtain ⟨pr, hpr⟩ : ∃ pr : Int, cv * (size : Int) = pr := ⟨_, rfl⟩
                rw [EV.out, hpr] at hnb2
                have hpr0 : 0 ≤ pr := by rw [← hpr]; exact Int.mul_nonneg hcb1.1 (by omega)
                have w1 : IntKind.i64.wrap (m : Int) = (m : Int) := wrap_small _ (by omega) (by omega)
                have w2 : IntKind.i64.wrap pr = pr := wrap_small _ (by omega) (by omega)
                have w3 : IntKind.i64.wrap (nv + pr) = nv + pr := wrap_small _ (by omega) (by omega)
                have m0 : (0 : Int) ≤ (m : Int) := by omega
                have m1 : (m : Int) < 256 := by omega
                have m2 : (0 : Int) ≤ (m : Int) + 1 := by omega
                have R2 : Hid (Rx size n ga N w ((wr.setCell ⟨gn, m + 1, none⟩ (.int .i64 (nv + pr))).drew) x y A T ∧ IArr ((wr.setCell ⟨gn, m + 1, none⟩ (.int .i64 (nv + pr))).drew) gc (tab (cf P A A.length)) ∧ IArr ((wr.setCell ⟨gn, m + 1, none⟩ (.int .i64 (nv + pr))).drew) gn (tab (nf size P A (m + 2)))) := by
                  refine ⟨(HT.out.1.setCell _ _ hnx hny hnb).drewN 1, (HT.out.2.1.other _ _ hnc.symm).drewN 1, ?_⟩
                  rw [← STP.out, hpr]
                  exact (HT.out.2.2.set _ _).drewN 1
                clear STP EV
                have K1 := R2.out.2.2.cell m (by rw [tab_len]; omega)
                have K2 := R2.out.2.1.cell m (by rw [tab_len]; omega)
                rw [tab_at] at K1 K2
                rw [NVE.out] at K1
                rw [hcv] at K2
                have KK : Hid (((wr.setCell ⟨gn, m + 1, none⟩ (.int .i64 (nv + pr))).drew).cell? ⟨gn, m, none⟩ = some (.int .i64 nv) ∧ ((wr.setCell ⟨gn, m + 1, none⟩ (.int .i64 (nv + pr))).drew).cell? ⟨gc, m, none⟩ = some (.int .i64 cv) ∧ ((wr.setCell ⟨gn, m + 1, none⟩ (.int .i64 (nv + pr))).drew).cell? ⟨w.heap.size, 0, none⟩ = some (.int .i64 (size : Int))) := ⟨K1, K2, R2.out.1.b0⟩
                clear K1 K2 NVE hcv
                go_wp2
                go_region_held3 (fun wx => wx.cell? ⟨gn, m, none⟩ = some (.int .i64 nv) ∧ wx.cell? ⟨gc, m, none⟩ = some (.int .i64 cv) ∧ wx.cell? ⟨w.heap.size, 0, none⟩ = some (.int .i64 (size : Int))) (first | exact KK.out | go_keep) (fail)
                go_wp2
                go_roundw
                case rel => exact ⟨m + 1, by go_num, by omega, R2.out⟩
                case measure => simp [intOf]; omega
              · have hm' : ¬ (m : Int) + 1 < 256 := by omega
                have HU : Hid (Rx size n ga N w wr x y A T ∧ IArr wr gn (tab (gf size P A 0)) ∧ Fill P A T 0) := by
                  refine ⟨HT.out.1, ?_, Fill.start P A T (by rw [HT.out.1.st.lA, HT.out.1.st.lT])⟩
                  rw [← gf_zero]
                  have := HT.out.2.2
                  rw [show m + 1 = 256 from by omega] at this
                  exact this
                go_wp2
                go_loopw [9] (fun v wr => ∃ (t I : Nat) (T : List (List UInt8)), v = .int .i64 (I : Int) ∧ Hid (I = t * size) ∧ t ≤ n ∧ I ≤ N ∧ Hid (Rx size n ga N w wr x y A T ∧ IArr wr gn (tab (gf size P A t)) ∧ Fill P A T t)) (fun v _ => N - (intOf v).toNat)
                case atStart => exact ⟨0, 0, T, rfl, by show _ = _; omega, by omega, by omega, HU.out⟩
                case round =>
                  obtain ⟨t2, I2, T2, rfl, HI2, ht2, hI22, HV⟩ := hrel
                  by_cases hlt2 : I2 < N
                  · have htn2 := lt_of_place t2 n size 0 I2 N (by have := HI2.out; omega) HN.out hlt2
                    have hlt2' : (I2 : Int) < (N : Int) := by omega
                    have hAl := HV.out.1.st.lA
                    have htA : t2 < A.length := by omega
                    have hpl := place_lt t2 n size P (I2 + P) N (by have := HI2.out; omega) HN.out hPs htn2
                    have hpl2 := place_lt t2 n size (size - 1) (I2 + (size - 1)) N (by have := HI2.out; omega) HN.out (by omega) htn2
                    have c1 := HV.out.1.byte t2 P (I2 + P) htn2 hPs (by have := HI2.out; omega)
                    have hk2 := key_lt P A[t2]
                    have hroom := room_all P t2 A htA
                    have c2 := HV.out.2.1.cell (key P A[t2]) (by rw [tab_len]; exact hk2)
                    rw [tab_at] at c2
                    have FS := HV.out.2.2.step htA
                    have GS := gf_step size P A t2 htA
                    obtain ⟨K, HK⟩ : ∃ K, Hid (less P (key P A[t2]) A + cnt P (key P A[t2]) (A.take t2) = K) := ⟨less P (key P A[t2]) A + cnt P (key P A[t2]) (A.take t2), rfl⟩
                    have GE : gf size P A t2 (key P A[t2]) = ((K * size : Nat) : Int) := by unfold gf; rw [HK.out]
                    rw [HK.out] at hroom FS
                    obtain ⟨pk, hpk, hpk2, PK⟩ := prod K size n N (by omega) HN.out
                    obtain ⟨w4, hcp0, R4⟩ := (HV.out.1.drewN 1).copy (HV.out.2.1.drewN 1) hny t2 K I2 pk htn2 (by omega) HI2.out PK.out
                    have d2 := R4.out.2.cell (key P A[t2]) (by rw [tab_len]; exact hk2)
                    rw [tab_at] at d2
                    rw [GE, ← PK.out] at c2 GS d2
                    have e2 := R4.out.2.free (key P A[t2])
                    have c3 := HV.out.1.b0
                    have d3 := R4.out.1.b0
                    have hcp : (Builtin.copy_ #[27, 27] 3 #[.slice (some ⟨y, pk, none⟩) size (N - pk), .slice (some ⟨x, I2, none⟩) size (N - I2)]).run Try.prog wr.drew = .ok (.int .i64 (size : Int)) w4 := hcp0
                    clear GE hcp0 hpk
                    have R5 : Hid (Rx size n ga N w ((w4.setCell ⟨gn, key P A[t2], none⟩ (.int .i64 ((pk : Int) + (size : Int)))).drew) x y A (T2.set K A[t2]) ∧ IArr ((w4.setCell ⟨gn, key P A[t2], none⟩ (.int .i64 ((pk : Int) + (size : Int)))).drew) gn (tab (gf size P A (t2 + 1))) ∧ Fill P A (T2.set K A[t2]) (t2 + 1)) := by
                      refine ⟨(R4.out.1.setCell _ _ hnx hny hnb).drewN 1, ?_, FS⟩
                      rw [← GS]
                      exact (R4.out.2.set _ _).drewN 1
                    have KK : Hid (w4.cell? ⟨gn, key P A[t2], none⟩ = some (.int .i64 (pk : Int)) ∧ w4.cell? ⟨w.heap.size, 0, none⟩ = some (.int .i64 (size : Int))) := ⟨d2, d3⟩
                    clear FS GS
                    generalize hkey : key P A[t2] = kb at *
                    clear hkey
                    have kb1 : (kb : Int) < 256 := by omega
                    have kb0 : (0 : Int) ≤ (kb : Int) := by omega
                    have q1 : (I2 : Int) + (P : Int) < (N : Int) := by omega
                    have q2 : (0 : Int) ≤ (I2 : Int) + (P : Int) := by omega
                    have wk1 : IntKind.i64.wrap ((pk : Int) + (size : Int)) = (pk : Int) + (size : Int) := wrap_small _ (by omega) (by omega)
                    have wk2 : IntKind.i64.wrap ((I2 : Int) + (size : Int)) = (I2 : Int) + (size : Int) := wrap_small _ (by omega) (by omega)
                    have k1 : (0 : Int) ≤ (pk : Int) + (size : Int) := by omega
                    have k2 : (pk : Int) + (size : Int) ≤ (N : Int) := by omega
                    have k3 : ((pk : Int) + (size : Int)).toNat = pk + size := by omega
                    have k4 : N ≠ pk := by omega
                    have i1 : (0 : Int) ≤ (I2 : Int) + (size : Int) := by omega
                    have i2 : (I2 : Int) + (size : Int) ≤ (N : Int) := by omega
                    have i3 : ((I2 : Int) + (size : Int)).toNat = I2 + size := by omega
                    have i4 : N ≠ I2 := by omega
                    go_wp2
                    go_region_held3 (fun wx => wx.cell? ⟨gn, kb, none⟩ = some (.int .i64 (pk : Int)) ∧ wx.cell? ⟨w.heap.size, 0, none⟩ = some (.int .i64 (size : Int))) (first | exact KK.out | go_keep) (fail)
                    go_wp2
                    go_region
                    have b5 : (w4.setCell ⟨gn, kb, none⟩ (.int .i64 ((pk : Int) + (size : Int)))).cell? ⟨w.heap.size, 0, none⟩ = some (.int .i64 (size : Int)) := R5.out.1.b0
                    clear c1 c2 c3 d2 d3 e2 hcp
                    go_wp2
                    go_roundw
                    case rel => exact ⟨t2 + 1, I2 + size, _, by go_num, by have := HI2.out; show _ = _; rw [Nat.succ_mul]; omega, by omega, by omega, R5.out⟩
                    case measure => simp [intOf]; omega
                  · have hlt2' : ¬ (I2 : Int) < (N : Int) := by omega
                    have R : Hid (Rx size n ga N w wr y x T2 A ∧ T2.Perm L ∧ From P T2 ∧ (y = ga ∨ x = ga)) := by
                      have htn2 : t2 = A.length := by
                        have hAl := HV.out.1.st.lA
                        by_cases c : t2 < n
                        · exact absurd (place_lt t2 n size 0 I2 N (by have := HI2.out; omega) HN.out (by omega) c) hlt2
                        · omega
                      have hF := HV.out.2.2
                      rw [htn2] at hF
                      have hB := hF.done
                      refine ⟨HV.out.1.swap, ?_, ?_, HR.out.2.2.2.symm⟩
                      · rw [hB]; exact (bucket_perm P A).trans HR.out.2.1
                      · rw [hB]; exact bucket_from HV.out.1.st.bA hPs HR.out.2.2.1
                    go_wp2
                    go_roundw
                    case rel => exact ⟨y, x, P, _, T2, A, rfl, rfl, rfl, by omega, rfl, R.out⟩
                    case measure => simp [intOf]
end Go.Proofs.Qxb6601704a.So
