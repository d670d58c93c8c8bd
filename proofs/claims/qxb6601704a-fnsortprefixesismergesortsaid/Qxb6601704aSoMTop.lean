import Derived.Test.Qxb6601704aSoMWalk
import Derived.Deep.CutRange
namespace Go.Proofs.Qxb6601704a.So
open Go.RowKit
open Go.Proofs.Qxb6601704a.Esc (bc bc_length bc_append info5)

theorem wrap_small (v : Int) (h0 : 0 ≤ v) (h1 : v < 9223372036854775808) : IntKind.i64.wrap v = v := by
  go_arith

/-- Which of the two runs gives the next block. -/
def Lft (A : List (List UInt8)) (mid hi i j : Nat) (B : Bool) : Prop :=
  (B = true → i < mid ∧ (hi ≤ j ∨ ∃ (h1 : i < A.length) (h2 : j < A.length), A[i] ≤ A[j])) ∧ (B = false → j < hi ∧ (mid ≤ i ∨ ∃ (h1 : i < A.length) (h2 : j < A.length), ¬ A[i] ≤ A[j]))

/-- A block's place, as a number. -/
theorem prod (k size n N : Nat) (hk : k < n) (hN : N = n * size) : ∃ p : Nat, ((k : Int) * (size : Int) = (p : Int) ∧ ((k : Int) + 1) * (size : Int) = (p : Int) + (size : Int)) ∧ p + size ≤ N ∧ Hid (p = k * size) := by
  refine ⟨k * size, ⟨by rw [Int.natCast_mul], by rw [Int.add_mul, Int.natCast_mul, Int.one_mul]⟩, ?_, rfl⟩
  have := Nat.mul_le_mul_right size (show k + 1 ≤ n by omega)
  rw [Nat.succ_mul] at this
  omega

set_option maxRecDepth 100000 in
set_option maxHeartbeats 8000000 in
/-- zlMergeSortBlocks. -/
theorem merge_any (ga N size n : Nat) (L : List (List UInt8)) (w : World) (hb : Blk size L) (hl : L.length = n) (hN : N = n * size) (ha : Arr w ga L.flatten) (hs : 1 ≤ size) (hs2 : size ≤ 65536) (hN2 : N ≤ 1048576) (hn : 1 ≤ n) (hn2 : n ≤ 1048576) :
    Calls Try.prog 13 #[.slice (some ⟨ga, 0, none⟩) N N, .int .i64 (size : Int)] w fun e w' => ∃ x, e = .returned (.slice (some ⟨x, 0, none⟩) N N) ∧ (x = ga ∨ w.heap.size ≤ x) ∧ ∃ A, Arr w' x A.flatten ∧ Blk size A ∧ A.Perm L ∧ A.Pairwise (· ≤ ·) ∧ w.grownBy w' (some ga) := by
  obtain ⟨i0, hi, hz0, hz1, hz2⟩ := info_parts info5
  have hq : (N : Int) / (size : Int) = (n : Int) := by
    rw [hN, Int.natCast_mul]
    exact Int.mul_ediv_cancel _ (by omega)
  have hgl := ha.lt
  have HN : Hid (N = n * size) := hN
  clear hN
  go_enter Try.func13, Try.ntmps13
  go_wp2_with (at_make; refine wpList_make_full _ rfl _ _ 27 rfl w.heap.size 5 i0 (.int .u8 0) 1 Try.underlying27 hi hz0 hz1 _ _ _ _ N rfl rfl rfl rfl (by rw [hz2]; omega) (by unfold maxLen; omega) (by omega) ?_; intro w1 hown1 hgrow1)
  obtain ⟨T0, hSt⟩ : ∃ T0, St size n ga w w1 ga w.heap.size L T0 := by
    have hz : w1.heap[w.heap.size]? = some (.cells (bc (List.replicate N 0)).toArray 5 (0, 0)) := by
      rcases hown1.2 with ⟨h, _⟩ | ⟨g', cap', cur, h, _, h3, _, _, h6, h7⟩
      · cases h
      · cases h
        rw [h3]
        have e : cur.toList = bc (List.replicate N 0) := by
          rw [List.take_of_length_le (by rw [Array.length_toList, h6]; omega)] at h7
          rw [h7, Nat.mul_one, show (Value.int IntKind.u8 0).cells = #[Value.int IntKind.u8 0] from rfl, toList_madeCells_one]
          simp [bc]
        rw [← e]
    obtain ⟨T0, hT1, hT2, hT3⟩ := to_blocks size n (List.replicate N 0) (by rw [List.length_replicate]; exact HN.out)
    refine ⟨T0, hb, hT1, hl, hT2, ha.kept hgrow1 (by simp), ?_, by omega, ⟨hgrow1.os, hgrow1.tape, hgrow1.output, hgrow1.size, fun k hk _ => hgrow1.block k hk (by simp)⟩, .inl rfl, .inr (Nat.le_refl _)⟩
    unfold Arr
    rw [hT3]
    exact hz
  clear hown1 hgrow1 ha
  clear hq
  go_loopw [6, 7, 8] (fun f t wd wr => ∃ (x y W : Nat) (A T : List (List UInt8)), f = .slice (some ⟨x, 0, none⟩) N N ∧ t = .slice (some ⟨y, 0, none⟩) N N ∧ wd = .int .i64 W ∧ 1 ≤ W ∧ W ≤ 2097152 ∧ Hid (St size n ga w wr x y A T ∧ A.Perm L ∧ Runs W A)) (fun _ _ wd _ => n - (intOf wd).toNat)
  case atStart => exact ⟨ga, w.heap.size, 1, L, T0, rfl, rfl, rfl, by omega, by omega, hSt, List.Perm.refl _, runs_one _⟩
  case round =>
    obtain ⟨x, y, W, A, T, rfl, rfl, rfl, hW1, hW2, HI⟩ := hrel
    by_cases hlt : W < n
    · have hlt' : (W : Int) < (n : Int) := by omega
      go_wp2
      go_loopw [9] (fun o wr => ∃ (lo : Nat) (T P : List (List UInt8)), o = .int .i64 lo ∧ lo ≤ 4194304 ∧ Hid (St size n ga w wr x y A T ∧ P.length = min lo n ∧ T.take (min lo n) = P ∧ Psd A W lo P)) (fun o _ => n - (intOf o).toNat)
      case atStart => exact ⟨0, T, [], rfl, by omega, HI.out.1, by simp, by simp, Psd.start A W⟩
      case round =>
        obtain ⟨lo, T1, P, rfl, hlo2, HP⟩ := hrel
        by_cases hlo : lo < n
        · have hlo' : (lo : Int) < (n : Int) := by omega
          obtain ⟨mid, hi1, HM, HH⟩ : ∃ mid hi1 : Nat, Hid (mid = min (lo + W) n) ∧ Hid (hi1 = min (lo + 2 * W) n) := ⟨_, _, rfl, rfl⟩
          have hmid1 : lo < mid := by have := HM.out; omega
          have hmid2 : mid ≤ hi1 := by have := HM.out; have := HH.out; omega
          have hhi2 : hi1 ≤ n := by have := HH.out; omega
          have hPl : P.length = lo := by have := HP.out.2.1; omega
          go_upto_if 41 with fail
          go_cut [10] from 29 to 127 (fun c10 wx => c10 = .int .i64 mid ∧ wr = wx)
          case first =>
            by_cases hc : (n : Int) < (lo : Int) + (W : Int)
            · go_wp2
              go_meet
              case rel => exact ⟨congrArg (Value.int .i64) (by have := HM.out; omega), rfl⟩
            · go_wp2
              go_meet
              case rel => exact ⟨congrArg (Value.int .i64) (by have := HM.out; omega), rfl⟩
          case rest =>
            obtain ⟨rfl, rfl⟩ := hcut
            go_upto_if 49 with fail
            go_cut [11] from 29 to 127 (fun c11 wx => c11 = .int .i64 hi1 ∧ wr = wx)
            case first =>
              by_cases hc : (n : Int) < (lo : Int) + 2 * (W : Int)
              · go_wp2
                go_meet
                case rel => exact ⟨congrArg (Value.int .i64) (by have := HH.out; omega), rfl⟩
              · go_wp2
                go_meet
                case rel => exact ⟨congrArg (Value.int .i64) (by have := HH.out; omega), rfl⟩
            case rest =>
              obtain ⟨rfl, rfl⟩ := hcut
              go_wp2
              go_loopw [12, 13, 14] (fun a b c wr => ∃ (i j k : Nat) (T M : List (List UInt8)), a = .int .i64 i ∧ b = .int .i64 j ∧ c = .int .i64 k ∧ lo ≤ i ∧ i ≤ mid ∧ mid ≤ j ∧ j ≤ hi1 ∧ lo ≤ k ∧ k ≤ hi1 ∧ Hid (k + mid = i + j) ∧ Hid (St size n ga w wr x y A T ∧ T.take k = P ++ M ∧ Mrg A lo mid hi1 i j M)) (fun _ _ c _ => hi1 - (intOf c).toNat)
              case atStart => exact ⟨lo, mid, lo, T1, [], rfl, rfl, rfl, by omega, by omega, by omega, by omega, by omega, by omega, by show _ = _; omega, HP.out.1, by have := HP.out.2.2.1; rw [show min lo n = lo from by omega] at this; rw [this]; simp, Mrg.start A lo mid hi1⟩
              case round =>
                obtain ⟨i, j, k, T2, M, rfl, rfl, rfl, hi_1, hi_2, hj_1, hj_2, hk_1, hk_2, HK, HS⟩ := hrel
                by_cases hend : i < mid ∨ j < hi1
                · have hkn : k < n := by have := HK.out; omega
                  have hkh : k < hi1 := by have := HK.out; omega
                  have hiA : i < mid → i < A.length := fun h => by rw [HS.out.1.lA]; omega
                  have hjA : j < hi1 → j < A.length := fun h => by rw [HS.out.1.lA]; omega
                  go_upto_region 19 with fail
                  go_cut [61] from 54 to 127 (fun c61 wx => c61 = .bool true ∧ wr = wx)
                  case first =>
                    by_cases him : (i : Int) < (mid : Int)
                    · go_wp2
                      go_meet
                      case rel => exact ⟨rfl, rfl⟩
                    · have hjh : (j : Int) < (hi1 : Int) := by omega
                      go_wp2
                      go_meet
                      case rel => exact ⟨rfl, rfl⟩
                  case rest =>
                    obtain ⟨rfl, rfl⟩ := hcut
                    go_upto_region 20 with fail
                    go_cut [15] from 54 to 127 (fun c15 wx => ∃ (B : Bool) (q : Nat), c15 = .bool B ∧ wr.drewN q = wx ∧ Lft A mid hi1 i j B)
                    case first =>
                      by_cases him : i < mid
                      · by_cases hjh : j < hi1
                        · have him' : (i : Int) < (mid : Int) := by omega
                          have hjh' : ¬ (hi1 : Int) ≤ (j : Int) := by omega
                          obtain ⟨pi, hpi, hpi2, PI⟩ := prod i size n N (by omega) HN.out
                          obtain ⟨pj, hpj, hpj2, PJ⟩ := prod j size n N (by omega) HN.out
                          obtain ⟨hpi, _⟩ := hpi
                          obtain ⟨hpj, _⟩ := hpj
                          go_wp2_with fail
                          refine (cmp_any x N N A.flatten pi pj size (pi : Int) (pj : Int) wr HS.out.1.aA (by rw [HS.out.1.len]; exact HN.out.symm) rfl rfl (by omega) (by omega) hN2).mono ?_
                          rintro e w' ⟨cc, rfl, hcc, q, hq⟩
                          subst w'
                          have HCC : Hid (∃ (h1 : i < A.length) (h2 : j < A.length), (cc ≤ 0 ↔ A[i] ≤ A[j])) := by
                            refine ⟨hiA him, hjA hjh, ?_⟩
                            rw [PI.out, PJ.out, flat_block HS.out.1.bA i (hiA him), flat_block HS.out.1.bA j (hjA hjh)] at hcc
                            exact hcc
                          clear hcc
                          by_cases hc0 : cc ≤ 0
                          · go_wp2
                            go_meet
                            case rel => exact ⟨true, q, rfl, rfl, ⟨fun _ => ⟨him, .inr (by obtain ⟨a1, a2, a3⟩ := HCC.out; exact ⟨a1, a2, a3.1 hc0⟩)⟩, (fun h => by cases h)⟩⟩
                          · have hd0 : decide (cc ≤ 0) = false := decide_eq_false hc0
                            go_wp2
                            go_meet
                            case rel => exact ⟨false, q, rfl, rfl, ⟨(fun h => by cases h), fun _ => ⟨hjh, .inr (by obtain ⟨a1, a2, a3⟩ := HCC.out; exact ⟨a1, a2, fun h => by have := a3.2 h; omega⟩)⟩⟩⟩
                        · have him' : (i : Int) < (mid : Int) := by omega
                          have hjh' : (hi1 : Int) ≤ (j : Int) := by omega
                          go_wp2
                          go_meet
                          case rel => exact ⟨true, 0, rfl, rfl, ⟨fun _ => ⟨him, .inl (by omega)⟩, (fun h => by cases h)⟩⟩
                      · have him' : ¬ (i : Int) < (mid : Int) := by omega
                        have hjh : j < hi1 := by omega
                        have hjh' : ¬ (hi1 : Int) ≤ (j : Int) := by omega
                        go_wp2
                        go_meet
                        case rel => exact ⟨false, 0, rfl, rfl, ⟨(fun h => by cases h), fun _ => ⟨hjh, .inl (by omega)⟩⟩⟩
                    case rest =>
                      obtain ⟨B, q, rfl, rfl, hlf⟩ := hcut
                      have HLF : Hid (Lft A mid hi1 i j B) := hlf
                      clear hlf
                      obtain ⟨pk, hpk, hpk2, PK⟩ := prod k size n N hkn HN.out
                      have wk1 : IntKind.i64.wrap (pk : Int) = (pk : Int) := wrap_small _ (by omega) (by omega)
                      have wk2 : IntKind.i64.wrap ((k : Int) + 1) = (k : Int) + 1 := wrap_small _ (by omega) (by omega)
                      have wk3 : IntKind.i64.wrap ((pk : Int) + (size : Int)) = (pk : Int) + (size : Int) := wrap_small _ (by omega) (by omega)
                      have k1 : (0 : Int) ≤ (pk : Int) + (size : Int) := by omega
                      have k2 : (pk : Int) + (size : Int) ≤ (N : Int) := by omega
                      have k3 : ((pk : Int) + (size : Int)).toNat = pk + size := by omega
                      have k4 : N ≠ pk := by omega
                      cases B
                      · have hjh := (HLF.out.2 rfl).1
                        obtain ⟨pj, hpj, hpj2, PJ⟩ := prod j size n N (by omega) HN.out
                        have wi1 : IntKind.i64.wrap (pj : Int) = (pj : Int) := wrap_small _ (by omega) (by omega)
                        have wi2 : IntKind.i64.wrap ((j : Int) + 1) = (j : Int) + 1 := wrap_small _ (by omega) (by omega)
                        have wi3 : IntKind.i64.wrap ((pj : Int) + (size : Int)) = (pj : Int) + (size : Int) := wrap_small _ (by omega) (by omega)
                        have i1 : (0 : Int) ≤ (pj : Int) + (size : Int) := by omega
                        have i2 : (pj : Int) + (size : Int) ≤ (N : Int) := by omega
                        have i3 : ((pj : Int) + (size : Int)).toNat = pj + size := by omega
                        have i4 : N ≠ pj := by omega
                        obtain ⟨w4, hcp, S4⟩ := (HS.out.1.drewN (q + 1)).copy (N := N) j k pj pk (by omega) hkn PJ.out PK.out
                        have R : Hid (St size n ga w w4 x y A (T2.set k (A[j]'(hjA hjh))) ∧ (T2.set k (A[j]'(hjA hjh))).take (k + 1) = P ++ (M ++ [A[j]'(hjA hjh)]) ∧ Mrg A lo mid hi1 i (j + 1) (M ++ [A[j]'(hjA hjh)])) := by
                          refine ⟨S4.out, ?_, HS.out.2.2.right (by rw [HS.out.1.lA]; omega) (by rw [HS.out.1.lA]; omega) hjh ((HLF.out.2 rfl).2.elim .inl fun ⟨a1, _, a3⟩ => .inr ⟨a1, a3⟩)⟩
                          rw [take_set T2 k _ (by rw [HS.out.1.lT]; exact hkn), HS.out.2.1, List.append_assoc]
                        go_wp2
                        go_region_held3 (fun _ => True) (trivial) (fail)
                        go_wp2
                        go_roundw
                        case rel => exact ⟨i, j + 1, k + 1, _, _, rfl, by go_num, by go_num, by omega, by omega, by omega, by omega, by omega, by omega, by have := HK.out; show _ = _; omega, R.out⟩
                        case measure => simp [intOf]; omega
                      · have him := (HLF.out.1 rfl).1
                        obtain ⟨pi, hpi, hpi2, PI⟩ := prod i size n N (by omega) HN.out
                        have wi1 : IntKind.i64.wrap (pi : Int) = (pi : Int) := wrap_small _ (by omega) (by omega)
                        have wi2 : IntKind.i64.wrap ((i : Int) + 1) = (i : Int) + 1 := wrap_small _ (by omega) (by omega)
                        have wi3 : IntKind.i64.wrap ((pi : Int) + (size : Int)) = (pi : Int) + (size : Int) := wrap_small _ (by omega) (by omega)
                        have i1 : (0 : Int) ≤ (pi : Int) + (size : Int) := by omega
                        have i2 : (pi : Int) + (size : Int) ≤ (N : Int) := by omega
                        have i3 : ((pi : Int) + (size : Int)).toNat = pi + size := by omega
                        have i4 : N ≠ pi := by omega
                        obtain ⟨w4, hcp, S4⟩ := (HS.out.1.drewN (q + 1)).copy (N := N) i k pi pk (by omega) hkn PI.out PK.out
                        have R : Hid (St size n ga w w4 x y A (T2.set k (A[i]'(hiA him))) ∧ (T2.set k (A[i]'(hiA him))).take (k + 1) = P ++ (M ++ [A[i]'(hiA him)]) ∧ Mrg A lo mid hi1 (i + 1) j (M ++ [A[i]'(hiA him)])) := by
                          refine ⟨S4.out, ?_, HS.out.2.2.left (by rw [HS.out.1.lA]; omega) (by rw [HS.out.1.lA]; omega) him ((HLF.out.1 rfl).2.elim .inl fun ⟨_, a2, a3⟩ => .inr ⟨a2, a3⟩)⟩
                          rw [take_set T2 k _ (by rw [HS.out.1.lT]; exact hkn), HS.out.2.1, List.append_assoc]
                        go_wp2
                        go_region_held3 (fun _ => True) (trivial) (fail)
                        go_wp2
                        go_roundw
                        case rel => exact ⟨i + 1, j, k + 1, _, _, by go_num, rfl, by go_num, by omega, by omega, by omega, by omega, by omega, by omega, by have := HK.out; show _ = _; omega, R.out⟩
                        case measure => simp [intOf]; omega
                · have hi_3 : ¬ (i : Int) < (mid : Int) := by omega
                  have hj_3 : ¬ (j : Int) < (hi1 : Int) := by omega
                  have hke : k = hi1 := by have := HK.out; omega
                  have R : Hid (St size n ga w wr x y A T2 ∧ (P ++ M).length = min (lo + 2 * W) n ∧ T2.take (min (lo + 2 * W) n) = P ++ M ∧ Psd A W (lo + 2 * W) (P ++ M)) := by
                    have hM := HS.out.2.2.done (by omega) (by omega)
                    have hml := merge_len A lo mid hi1 (by omega) (by omega) (by rw [HS.out.1.lA]; omega)
                    rw [← hM] at hml
                    refine ⟨HS.out.1, ?_, ?_, ?_⟩
                    · rw [List.length_append, hPl, hml]; have := HH.out; omega
                    · rw [← HH.out, ← hke]; exact HS.out.2.1
                    · rw [hM]
                      exact HP.out.2.2.2.step (by omega) (by rw [HS.out.1.lA]; exact hlo) (by rw [HS.out.1.lA]; exact HM.out) (by rw [HS.out.1.lA]; exact HH.out)
                  clear hke
                  go_wp2
                  go_roundw
                  case rel => exact ⟨lo + 2 * W, T2, P ++ M, by go_num, by omega, R.out⟩
                  case measure => simp [intOf]; omega
        · have hlo' : ¬ (lo : Int) < (n : Int) := by omega
          have R : Hid (St size n ga w wr y x T1 A ∧ T1.Perm L ∧ Runs (2 * W) T1) := by
            have hP := HP.out.2.2.2.done (by rw [HP.out.1.lA]; omega)
            have hT : T1 = pass W A.length A := by
              rw [← hP, ← HP.out.2.2.1, List.take_of_length_le (by rw [HP.out.1.lT]; omega)]
            refine ⟨HP.out.1.swap, ?_, ?_⟩
            · rw [hT]; exact (pass_perm W (by omega) _ A (Nat.le_refl _)).trans HI.out.2.1
            · rw [hT]; exact pass_runs W (by omega) _ A (Nat.le_refl _) HI.out.2.2
          go_wp2
          go_roundw
          case rel => exact ⟨y, x, 2 * W, T1, A, rfl, rfl, by go_num, by omega, by omega, R.out⟩
          case measure => simp [intOf]; omega
    · have hlt' : ¬ (W : Int) < (n : Int) := by omega
      have R : Hid ((x = ga ∨ w.heap.size ≤ x) ∧ Arr wr x A.flatten ∧ Blk size A ∧ A.Perm L ∧ A.Pairwise (· ≤ ·) ∧ w.grownBy wr (some ga)) :=
        ⟨HI.out.1.ox, HI.out.1.aA, HI.out.1.bA, HI.out.2.1, runs_all W A (by rw [HI.out.1.lA]; omega) HI.out.2.2, HI.out.1.gr⟩
      go_wp2
      go_ret
      exact ⟨x, rfl, R.out.1, A, R.out.2⟩
end Go.Proofs.Qxb6601704a.So
