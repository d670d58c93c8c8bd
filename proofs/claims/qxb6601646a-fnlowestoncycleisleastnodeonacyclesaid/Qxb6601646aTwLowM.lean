import Derived.Test.Qxb6601646aTwLowA
import Derived.Test.Qxb6601646aTwLowB
namespace Go.Proofs.Qxb6601646a.Tw
open Go.RowKit Go.Proofs.Qxb6601646a.Tj

set_option maxHeartbeats 8000000 in
set_option maxRecDepth 100000 in
theorem low_any (a : Option Addr) (n c : Nat) (nv tv : Value) (S : List (List Nat)) (w : World) (hr : NMat w a n S) (hn : n ≤ 4096) (hS : ∀ u x, Tj.Edge S u x → x < n) :
    Calls Try.prog 35 #[.agg #[.slice a n c, nv, tv]] w fun e w' => (∃ m : Int, e = .returned (.int .i64 m) ∧ Least S m) ∧ Below w.heap.size w w' := by
  have HM : Hid (NMat w a n S) := hr
  have HS : Hid (∀ u x, Tj.Edge S u x → x < n) := hS
  have mk3 := mk_ints n hn
  have mk4 := mk_bools n hn
  have hmf : ∀ (fn : Fn) (first cap : Array Value) (w : World), (Instr.makeFunc fn first cap).run Try.prog w = .ok (.func fn first cap) w := fun _ _ _ _ => rfl
  clear hr hS
  go_enter Try.func35, Try.ntmps35
  go_wp2_with fail
  obtain ⟨B, hB⟩ : ∃ B, w.heap.size = B := ⟨_, rfl⟩
  have HT : Hid (TM B n [.slice a n c, nv, tv] w ((((((((((w.alloc (.cells #[.slice a n c, nv, tv] 58)).alloc (.cells (iv (List.replicate n 0)).toArray 3)).alloc (.cells #[.slice (some ⟨B + 1, 0, none⟩) n n] 23)).alloc (.cells (iv (List.replicate n 0)).toArray 3)).alloc (.cells #[.slice (some ⟨B + 3, 0, none⟩) n n] 23)).alloc (.cells (bv (List.replicate n false)).toArray 4)).alloc (.cells #[.slice (some ⟨B + 5, 0, none⟩) n n] 29)).alloc (.cells #[.slice none 0 0] 23)).alloc (.cells #[.slice none 0 0] 88)).alloc (.cells #[.int .i64 0] 3)) (Tj.start n) (.slice none 0 0) (.slice none 0 0)) := tm_start w B n c a nv tv hB
  simp only [hB, Nat.add_assoc, Nat.reduceAdd]
  generalize ((((((((((w.alloc (.cells #[.slice a n c, nv, tv] 58)).alloc (.cells (iv (List.replicate n 0)).toArray 3)).alloc (.cells #[.slice (some ⟨B + 1, 0, none⟩) n n] 23)).alloc (.cells (iv (List.replicate n 0)).toArray 3)).alloc (.cells #[.slice (some ⟨B + 3, 0, none⟩) n n] 23)).alloc (.cells (bv (List.replicate n false)).toArray 4)).alloc (.cells #[.slice (some ⟨B + 5, 0, none⟩) n n] 29)).alloc (.cells #[.slice none 0 0] 23)).alloc (.cells #[.slice none 0 0] 88)).alloc (.cells #[.int .i64 0] 3)) = w1 at *
  clear mk3 mk4
  have HJ : Hid (TJ S n 0 (Tj.start n) (-1)) := tj_start HS.out
  go_loopw [10, 33] (fun lo i wr => ∃ (r : Nat) (s : TS) (m : Int) (sv cv : Value), r ≤ n ∧ i = .int .i64 (r : Int) ∧ lo = .int .i64 m ∧ Hid (TM B n [.slice a n c, nv, tv] w wr s sv cv) ∧ Hid (TJ S n r s m) ∧ Hid (s.calls = [])) (fun _ i _ => n - (intOf i).toNat)
  case atStart => exact ⟨0, Tj.start n, -1, _, _, Nat.zero_le _, rfl, rfl, HT, HJ, rfl⟩
  case round =>
    clear HT HJ
    obtain ⟨r, s, m, sv, cv, hr, rfl, rfl, HT, HJ, HC⟩ := hrel
    by_cases hlt : r < n
    · have hlt' : (r : Int) < (n : Int) := by omega
      have c2 := cell_of_one HT.out.hrp
      have c1 := HT.out.hr.cell r
      rw [iv_at s.rank r (by rw [HJ.out.ti.lr]; exact hlt)] at c1
      by_cases h0 : rk s r = 0
      · have e0 : s.rank.getD r 0 = 0 := h0
        rw [e0] at c1
        have HJ1 : Hid (TJ S n (r + 1) (disc s r) m) := tj_root HJ.out HC.out hlt h0
        clear h0 e0
        go_wp2_with fail
        refine (disc_at HT.out HJ.out hlt hn).mono ?_
        rintro e w2 ⟨rfl, sv1, cv1, HT1⟩
        clear HT HJ HC c1 c2
        go_wp2_with fail
        go_loopg [10] (meas S (disc s r)) (fun gh lo wr => ∃ (s : TS) (m : Int) (sv cv : Value), lo = .int .i64 m ∧ Hid (TM B n [.slice a n c, nv, tv] w wr s sv cv) ∧ Hid (TJ S n (r + 1) s m) ∧ Hid (gh = meas S s))
        case atStart => exact ⟨disc s r, m, sv1, cv1, rfl, HT1, HJ1, rfl⟩
        case round =>
          clear HT1 HJ1
          obtain ⟨s, m, sv, cv, rfl, HT, HJ, HG⟩ := hrel
          have c8 := cell_of_one HT.out.hcp
          by_cases hc : s.calls = []
          · have HC : Hid (s.calls = []) := hc
            obtain ⟨ca, cc, hcv⟩ := own_val HT.out.hca
            rw [hc] at hcv
            subst hcv
            clear hc
            go_wp2_with fail
            go_roundw
            case rel => exact ⟨r + 1, s, m, sv, _, by omega, by go_num, rfl, HT, HJ, HC⟩
            case measure => simp [intOf]; omega
          · obtain ⟨cs, v, k, ec⟩ : ∃ cs v k, s.calls = cs ++ [(v, k)] := ⟨s.calls.dropLast, (s.calls.getLast hc).1, (s.calls.getLast hc).2, (List.dropLast_concat_getLast hc).symm⟩
            have EC : Hid (s.calls = cs ++ [(v, k)]) := ec
            clear hc ec
            by_cases hk0 : k < (scs S v).length
            · exact low_A a n c nv tv S w hn HM HS hmf B hB r hlt hlt' gk wr _ _ _ _ _ _ _ _ _ _ _ _ _ _ _ _ _ _ _ _ _ _ _ _ _ _ _ _ _ _ _ _ _ _ _ _ _ _ _ _ _ _ _ _ _ _ _ _ _ _ _ _ _ _ _ _ _ _ _ _ _ _ _ _ _ _ _ _ _ _ _ _ _ _ _ _ _ _ _ _ _ _ _ _ _ _ _ _ _ _ _ _ _ _ _ _ _ _ _ _ _ _ _ _ _ _ _ _ _ _ _ _ _ _ _ _ _ _ _ _ _ _ _ _ _ _ _ _ _ _ _ _ _ _ _ _ _ _ _ _ _ _ _ _ _ _ _ _ _ _ _ _ _ _ _ _ _ _ _ _ _ _ _ _ _ (by assumption) (by assumption) s m sv cv HT HJ HG cs v k EC hk0
            · exact low_B a n c nv tv S w hn HM HS hmf B hB r hlt hlt' gk wr _ _ _ _ _ _ _ _ _ _ _ _ _ _ _ _ _ _ _ _ _ _ _ _ _ _ _ _ _ _ _ _ _ _ _ _ _ _ _ _ _ _ _ _ _ _ _ _ _ _ _ _ _ _ _ _ _ _ _ _ _ _ _ _ _ _ _ _ _ _ _ _ _ _ _ _ _ _ _ _ _ _ _ _ _ _ _ _ _ _ _ _ _ _ _ _ _ _ _ _ _ _ _ _ _ _ _ _ _ _ _ _ _ _ _ _ _ _ _ _ _ _ _ _ _ _ _ _ _ _ _ _ _ _ _ _ _ _ _ _ _ _ _ _ _ _ _ _ _ _ _ _ _ _ _ _ _ _ _ _ _ _ _ _ _ (by assumption) (by assumption) s m sv cv HT HJ HG cs v k EC hk0
      · have hrz : ((s.rank.getD r 0 : Nat) : Int) ≠ 0 := by unfold rk at h0; omega
        have HJ1 : Hid (TJ S n (r + 1) s m) := tj_skip HJ.out h0
        clear h0
        generalize s.rank.getD r 0 = rr at *
        go_wp2_with fail
        go_roundw
        case rel => exact ⟨r + 1, s, m, sv, cv, by omega, by go_num, rfl, HT, HJ1, HC⟩
        case measure => simp [intOf]; omega
    · have hlt' : ¬ (r : Int) < (n : Int) := by omega
      have HE : Hid (Least S m) := by
        have e : r = S.length := by have := HM.out.1; simp at this; omega
        have h1 := HJ.out
        have en : n = S.length := by have := HM.out.1; simp at this; omega
        rw [e, en] at h1
        exact tj_end h1 HC.out
      have HBe : Hid (Below w.heap.size w wr) := by have := HT.out.bel; rw [← hB] at this; exact this
      clear HT HJ HC
      go_wp2_with fail
      go_ret
      exact ⟨⟨m, rfl, HE.out⟩, by have := HBe.out; rw [hB] at this; exact this⟩
end Go.Proofs.Qxb6601646a.Tw
