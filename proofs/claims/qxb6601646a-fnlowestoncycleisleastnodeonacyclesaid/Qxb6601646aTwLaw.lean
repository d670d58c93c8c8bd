import Derived.Test.Qxb6601646aTwTop
import Derived.Deep.CutRange
namespace Go.Proofs.Qxb6601646a.Tw
open Go.RowKit Go.Proofs.Qxb6601646a.Tj

def nats (R : List (List Int)) : List (List Nat) := R.map fun l => l.map Int.toNat
theorem ints_nats {l : List Int} (h : ∀ x ∈ l, 0 ≤ x) : ints (l.map Int.toNat) = l := by
  unfold ints
  rw [List.map_map]
  conv => rhs; rw [← List.map_id l]
  refine List.map_congr_left fun x hx => ?_
  have := h x hx
  show ((x.toNat : Nat) : Int) = x
  omega
theorem nats_map {R : List (List Int)} (h : ∀ l ∈ R, ∀ x ∈ l, 0 ≤ x) : (nats R).map ints = R := by
  unfold nats
  rw [List.map_map]
  conv => rhs; rw [← List.map_id R]
  refine List.map_congr_left fun l hl => ?_
  exact ints_nats (h l hl)
/-- Entries in their range. -/
def InR (R : List (List Int)) (n k : Nat) : Prop := ∀ i, i < k → ∀ x ∈ R.getD i [], 0 ≤ x ∧ x < (n : Int)
theorem inr_all {R : List (List Int)} {n : Nat} (h : InR R n n) (hl : R.length = n) : ∀ l ∈ R, ∀ x ∈ l, 0 ≤ x ∧ x < (n : Int) := by
  intro l hl' x hx
  obtain ⟨i, hi⟩ := List.getElem?_of_mem hl'
  have hin := (List.getElem?_eq_some_iff.1 hi).1
  refine h i (by omega) x ?_
  rw [List.getD_eq_getElem?_getD, hi]; exact hx
theorem inr_edge {R : List (List Int)} {n : Nat} (h : InR R n n) (hl : R.length = n) : ∀ u x, Tj.Edge (nats R) u x → x < n := by
  intro u x hx
  unfold Tj.Edge scs nats at hx
  rw [List.getD_eq_getElem?_getD, List.getElem?_map] at hx
  cases e : R[u]? with
  | none => rw [e] at hx; simp at hx
  | some l =>
    rw [e] at hx
    simp at hx
    obtain ⟨y, hy, rfl⟩ := hx
    have := inr_all h hl l (List.mem_of_getElem? e) y hy
    omega
theorem least_none {S : List (List Nat)} {n : Nat} (hl : S.length = n) (h : ∀ i, i < n → ¬ Cyc S i) : Least S (-1) :=
  .inl ⟨rfl, fun u hu => h u (by have := cyc_lt hu; omega) hu⟩
theorem least_some {S : List (List Nat)} {k : Nat} (h : ∀ i, i < k → ¬ Cyc S i) (hk : Cyc S k) : Least S (k : Int) :=
  .inr ⟨k, rfl, hk, fun u hu => by
    by_cases c : k ≤ u
    · exact c
    · exact absurd hu (h u (by omega))⟩

theorem bel_next {w w1 w2 : World} (h1 : Below w.heap.size w w1) (h2 : Below w1.heap.size w1 w2) : Below w.heap.size w w2 := by
  refine ⟨h2.os.trans h1.os, h2.tape.trans h1.tape, h2.output.trans h1.output, Nat.le_trans h1.size h2.size, fun k hk => ?_⟩
  exact (h2.block k (Nat.lt_of_lt_of_le hk h1.size)).trans (h1.block k hk)
/-- What came in as 'nodes'. -/
def IsInts (w : World) (a : Option Addr) (n c : Nat) (l : List Int) : Prop := (a = none ∧ n = 0 ∧ c = 0 ∧ l = []) ∨ ∃ ad, a = some ad ∧ Row w (some ad) n l

set_option maxHeartbeats 4000000 in
set_option maxRecDepth 100000 in
theorem law_any (a b : Option Addr) (n c m d : Nat) (z : Int) (R : List (List Int)) (l : List Int) (w : World) (hr : Mat w a n R) (hi : IsInts w b m d l) (hn : n ≤ 9223372036854775807) (hm : m ≤ 9223372036854775807) :
    Calls Try.prog 7 #[.slice a n c, .slice b m d, .int .i64 z] w fun e w' => e = .returned (.bool true) ∧ Below w.heap.size w w' := by
  obtain ⟨i3, hi3, hz30, hz31, hz32⟩ := info_parts info3
  have heq := fun (wx : World) (a : Option Addr) (n c : Nat) => Lib.run_eql_slice_nil (P := Try.prog) wx 23 3 a n c 0 0 Try.underlying23
  have HM : Hid (Mat w a n R) := hr
  have HI : Hid (IsInts w b m d l) := hi
  have HBy : Hid (Calls Try.prog 27 #[.slice a n c, .slice b m d, .int .i64 z] w fun e w' => BytesOk R n m e ∧ w' = w) := bytes_small a b n c m d z R w hr hn hm
  clear hr hi
  go_enter Try.func7, Try.ntmps7
  go_wp2_with fail
  refine HBy.out.mono ?_
  rintro e w' ⟨⟨B, rfl, hB⟩, rfl⟩
  clear HBy
  cases B with
  | false =>
    go_wp2_with fail
    go_ret
    exact ⟨ret_bool rfl, Below.refl _ _⟩
  | true =>
    obtain ⟨hn1, hm1, hL⟩ := hB rfl
    have HL : Hid (∀ j, j < n → (R.getD j []).length ≤ 1048576) := hL
    clear hB hL
    by_cases h1 : (4096 : Int) < n
    · go_wp2_with fail
      go_ret
      exact ⟨ret_bool rfl, Below.refl _ _⟩
    by_cases h2 : (65536 : Int) < m
    · go_wp2_with fail
      go_ret
      exact ⟨ret_bool rfl, Below.refl _ _⟩
    go_upto_if 31 with fail
    go_cut [1, 7] from 32 to 38 (fun s1 _ wx => ∃ b' d', s1 = .slice b' m d' ∧ Hid (Below w'.heap.size w' wx))
    case first =>
      rcases HI.out with ⟨rfl, rfl, rfl, _⟩ | ⟨ad, rfl, hrow⟩
      · go_wp2_with fail
        go_meet
        case rel => exact ⟨none, 0, rfl, Below.refl _ _⟩
      · have HRow : Hid (Row w' (some ad) m l) := hrow
        clear hrow HI
        go_wp2_with (at_make; refine wpList_make_full _ rfl _ _ 23 rfl w'.heap.size 3 i3 (.int .i64 0) 1 Try.underlying23 hi3 hz30 hz31 _ _ _ _ m rfl rfl rfl rfl (by rw [hz32]; omega) (by unfold maxLen; omega) (by omega) ?_; intro w1 hown1 hgrow1)
        obtain ⟨w2, hcp, HA, HG⟩ := copy_ints (c := d) HRow.out hown1 hgrow1
        clear hown1 hgrow1
        rw [hcp]
        clear hcp
        go_wp2_with fail
        go_meet
        case rel => exact ⟨_, _, rfl, (Below.refl _ _).grown HG.out (Nat.le_refl _) (fun k hk => by cases hk)⟩
    case rest =>
      obtain ⟨b', d', rfl, HB⟩ := hcut
      have HMc : Hid (Mat wc a n R) := HM.out.keep HB.out
      clear HM HI
      by_cases h3 : (1048576 : Int) < 24 * (n : Int) + 8 * (m : Int)
      · go_wp2_with fail
        go_ret
        exact ⟨ret_bool rfl, HB.out⟩
      go_wp2_with fail
      go_loop [8, 9] (fun t i => ∃ (k : Nat) (z : Int), k ≤ n ∧ 0 ≤ z ∧ z ≤ 1048576 ∧ i = .int .i64 k ∧ t = .int .i64 z) (fun _ i => n - (intOf i).toNat)
      case atStart => exact ⟨0, 24 * (n : Int) + 8 * (m : Int), Nat.zero_le _, by omega, by omega, rfl, rfl⟩
      case round =>
        obtain ⟨k, t, hk, ht0, ht1, rfl, rfl⟩ := hrel
        by_cases hlt : k < n
        · obtain ⟨b1, off, rfl, hb, a', l', c', hcell, _, hrow⟩ := HMc.out.at k hlt
          have hlt' : (k : Int) < (n : Int) := by omega
          have hl1 : l' ≤ 1048576 := by rw [← hrow.1]; exact HL.out k hlt
          clear hrow
          by_cases h4 : (1048576 : Int) < t + 8 * (l' : Int)
          · go_wp2_with fail
            go_ret
            exact ⟨ret_bool rfl, HB.out⟩
          · go_wp2_with fail
            go_round
            case rel => exact ⟨k + 1, t + 8 * (l' : Int), by omega, by omega, by omega, by go_num, rfl⟩
            case measure => simp [intOf]; omega
        · have hlt' : ¬ (k : Int) < (n : Int) := by omega
          clear hlt hk
          go_wp2_with fail
          go_loop [11, 13] (fun i _ => ∃ k : Nat, k ≤ n ∧ i = .int .i64 k ∧ Hid (InR R n k)) (fun i _ => n - (intOf i).toNat)
          case atStart => exact ⟨0, Nat.zero_le _, rfl, fun i hi => by omega⟩
          case round =>
            obtain ⟨k2, hk2, rfl, HIn⟩ := hrel
            by_cases hlt2 : k2 < n
            · obtain ⟨b1, off, rfl, hb, a', l', c', hcell, _, hrow⟩ := HMc.out.at k2 hlt2
              have hlt2' : (k2 : Int) < (n : Int) := by omega
              have hl1 : l' ≤ 1048576 := by rw [← hrow.1]; exact HL.out k2 hlt2
              have HRow : Hid (Row wc a' l' (R.getD k2 [])) := hrow
              clear hrow
              go_wp2_with fail
              go_loop [76, 13] (fun i _ => ∃ j : Nat, j ≤ l' ∧ i = .int .i64 j ∧ Hid (∀ jj, jj < j → 0 ≤ (R.getD k2 []).getD jj 0 ∧ (R.getD k2 []).getD jj 0 < (n : Int))) (fun i _ => l' - (intOf i).toNat)
              case atStart => exact ⟨0, Nat.zero_le _, rfl, fun jj hj => by omega⟩
              case round =>
                obtain ⟨j, hj, rfl, HJ⟩ := hrel
                by_cases hjl : j < l'
                · obtain ⟨b2, off2, rfl, hb2, hc2⟩ := HRow.out.at j hjl
                  have hjl' : (j : Int) < (l' : Int) := by omega
                  obtain ⟨x, HX⟩ : ∃ x, Hid ((R.getD k2 []).getD j 0 = x) := ⟨_, rfl⟩
                  rw [HX.out] at hc2
                  by_cases hx0 : x < 0
                  · go_wp2_with fail
                    go_ret
                    exact ⟨ret_bool rfl, HB.out⟩
                  · by_cases hxn : (n : Int) ≤ x
                    · go_wp2_with fail
                      go_ret
                      exact ⟨ret_bool rfl, HB.out⟩
                    · go_wp2_with fail
                      go_round
                      case rel => exact ⟨j + 1, by omega, by go_num, fun jj hjj => by by_cases e : jj = j; · { rw [e, HX.out]; omega }; · { exact HJ.out jj (by omega) }⟩
                      case measure => simp [intOf]; omega
                · have hjl' : ¬ (j : Int) < (l' : Int) := by omega
                  have HIn' : Hid (InR R n (k2 + 1)) := fun i hi x hx => by
                    by_cases e : i = k2
                    · rw [e] at hx
                      obtain ⟨jj, hjj⟩ := List.getElem?_of_mem hx
                      have h1 := (List.getElem?_eq_some_iff.1 hjj).1
                      have h2 := HJ.out jj (by rw [HRow.out.1] at h1; omega)
                      rw [List.getD_eq_getElem?_getD, hjj] at h2
                      exact h2
                    · exact HIn.out i (by omega) x hx
                  go_wp2_with fail
                  go_round
                  case rel => exact ⟨k2 + 1, by omega, by go_num, HIn'⟩
                  case measure => simp [intOf]; omega
            · have hlt2' : ¬ (k2 : Int) < (n : Int) := by omega
              have e2 : k2 = n := by omega
              have HS : Hid (NMat wc a n (nats R)) := by
                show Mat wc a n _
                rw [nats_map (fun l hl x hx => (inr_all (by have := HIn.out; rw [e2] at this; exact this) HMc.out.1 l hl x hx).1)]
                exact HMc.out
              have HEd : Hid (∀ u x, Tj.Edge (nats R) u x → x < n) := inr_edge (by have := HIn.out; rw [e2] at this; exact this) HMc.out.1
              have HLen : Hid ((nats R).length = n) := by show _ = _; unfold nats; rw [List.length_map]; exact HMc.out.1
              clear HIn HMc HL e2
              generalize nats R = S at *
              go_wp2_with fail
              refine (zlow_any a n c b' m d' z S wc HS.out (by omega) HEd.out).mono ?_
              rintro e w5 ⟨⟨got, rfl, hg1⟩, hg2⟩
              have HGot : Hid (Least S got) := hg1
              have HB5 : Hid (Below w'.heap.size w' w5) := bel_next HB.out hg2
              have HS5 : Hid (NMat w5 a n S) := HS.out.keep hg2
              clear hg1 hg2 HS HB
              go_wp2_with fail
              go_loopw [15, 16] (fun wv i wr => ∃ k : Nat, k ≤ n ∧ i = .int .i64 k ∧ wv = .int .i64 (-1) ∧ Hid (∀ i, i < k → ¬ Cyc S i) ∧ Hid (NMat wr a n S) ∧ Hid (Below w'.heap.size w' wr)) (fun _ i _ => n - (intOf i).toNat)
              case atStart => exact ⟨0, Nat.zero_le _, rfl, rfl, fun i hi => by omega, HS5, HB5⟩
              case round =>
                clear HS5 HB5
                obtain ⟨q, hq, rfl, rfl, HC, HS, HB⟩ := hrel
                by_cases hqn : q < n
                · have hqn' : (q : Int) < (n : Int) := by omega
                  go_wp2_with fail
                  refine (cyc_any a n c q S wr HS.out hqn (by omega) HEd.out).mono ?_
                  rintro e w6 ⟨⟨Bq, rfl, hq1⟩, hq2⟩
                  have HQ : Hid (Bq = true ↔ Cyc S q) := hq1
                  have HB6 : Hid (Below w'.heap.size w' w6) := bel_next HB.out hq2
                  have HS6 : Hid (NMat w6 a n S) := HS.out.keep hq2
                  clear hq1 hq2 HS HB
                  cases Bq with
                  | true =>
                    have e : got = (q : Int) := HGot.out.unique (least_some HC.out (HQ.out.1 rfl))
                    subst e
                    go_wp2_with fail
                    go_ret
                    exact ⟨ret_bool (by simp), HB6.out⟩
                  | false =>
                    have HC' : Hid (∀ i, i < q + 1 → ¬ Cyc S i) := fun i hi hcy => by
                      by_cases e : i = q
                      · rw [e] at hcy; have := HQ.out.2 hcy; cases this
                      · exact HC.out i (by omega) hcy
                    go_wp2_with fail
                    go_roundw
                    case rel => exact ⟨q + 1, by omega, by go_num, rfl, HC', HS6, HB6⟩
                    case measure => simp [intOf]; omega
                · have hqn' : ¬ (q : Int) < (n : Int) := by omega
                  have eq : q = n := by omega
                  have e : got = -1 := HGot.out.unique (least_none HLen.out (fun i hi => HC.out i (by omega)))
                  subst e
                  go_wp2_with fail
                  go_ret
                  exact ⟨ret_bool (by simp), HB.out⟩
end Go.Proofs.Qxb6601646a.Tw
