import Derived.Test.Qxb6601704aProg
import Derived.Test.Qxb6601704aEscPlain
import Derived.WalkSpells
import Derived.WalkLawsBesides
import Derived.Deep.AppendLies
import Derived.Lib.AppendStr
import Derived.Lib.Strings
import Derived.Deep.RegionHeld3
import Derived.Laws.IdiomStrings
namespace Go.Proofs.Qxb6601704a.Esc
open Go.RowKit

theorem info5 : (Try.prog.info? 5).map (fun i => (i.zero, i.size, i.bytes)) = some (some (.int .u8 0), 1, 1) := by kernel_rfl

theorem idx_run (n : Nat) (h : n < 16) (wx : World) :
    (Instr.index 9 (.string ⟨#[48, 49, 50, 51, 52, 53, 54, 55, 56, 57, 65, 66, 67, 68, 69, 70]⟩) (.int .u8 (n : Int))).run Try.prog wx = .ok (.int .u8 ((hexD n).toNat : Int)) wx := by
  have h0 : (0 : Int) ≤ (n : Int) := by omega
  have h1 : (n : Int) < 16 := by omega
  go_simp
  exact congrArg Int.ofNat (hexD_at n h _)

theorem idx_run' (m : Int) (n : Nat) (e : m = (n : Int)) (h : n < 16) (wx : World) :
    (Instr.index 9 (.string ⟨#[48, 49, 50, 51, 52, 53, 54, 55, 56, 57, 65, 66, 67, 68, 69, 70]⟩) (.int .u8 m)).run Try.prog wx = .ok (.int .u8 ((hexD n).toNat : Int)) wx := by
  subst e; exact idx_run n h wx

/-- The ways on which a byte is not left as it is, as the text's test parts them. -/
theorem not_plain (c : UInt8) (h : ¬ plainB c = true) : (¬ (32 : Int) < c.toNat) ∨ ((32 : Int) < c.toNat ∧ ¬ (c.toNat : Int) < 127) ∨
    ((32 : Int) < c.toNat ∧ (c.toNat : Int) < 127 ∧ ((c.toNat : Int) != 35) = false) ∨ ((32 : Int) < c.toNat ∧ (c.toNat : Int) < 127 ∧ ((c.toNat : Int) != 35) = true ∧ ((c.toNat : Int) != 37) = false) := by
  rw [plain_iff] at h
  have e1 : ((c.toNat : Int) != 35) = decide (c.toNat ≠ 35) := by rw [Bool.eq_iff_iff]; simp; omega
  have e2 : ((c.toNat : Int) != 37) = decide (c.toNat ≠ 37) := by rw [Bool.eq_iff_iff]; simp; omega
  rw [e1, e2]
  simp only [decide_eq_false_iff_not, decide_eq_true_eq]
  omega

/-- The round's end where a plain byte goes by and nothing has been laid yet. -/
theorem plain_step (s : ByteArray) (k : Nat) (h : k < s.size) (hp : plainB s[k] = true) (H : ∀ c ∈ s.data.toList.take k, plainB c = true) : ∀ c ∈ s.data.toList.take (k + 1), plainB c = true := by
  rw [take_snoc s k h]
  intro c hc
  rcases List.mem_append.1 hc with hc | hc
  · exact H c hc
  · simp at hc; rw [hc]; exact hp

theorem own_step (w wr : World) (v : Value) (m : Nat) (s : ByteArray) (k : Nat) (h : k < s.size) (news : List Value) (hn : news = bc (escB s[k]))
    (ho : wr.ownsRow w.heap.size 5 1 v m (bc (escL (s.data.toList.take k)) ++ news)) : wr.ownsRow w.heap.size 5 1 v m (bc (escL (s.data.toList.take (k + 1)))) := by
  rw [take_snoc s k h, escL_snoc, bc_append, ← hn]
  exact ho

theorem own_len {w : World} {base : Nat} {v : Value} {n : Nat} {l : List UInt8} (h : w.ownsRow base 5 1 v n (bc l)) : n ≤ l.length := by
  have := h.1
  rw [bc_length] at this
  omega

theorem str_cells (s : ByteArray) (k : Nat) (H : ∀ c ∈ s.data.toList.take k, plainB c = true) : Lib.strCells (s.extract 0 k) = bc (escL (s.data.toList.take k)) := by
  rw [escL_plain _ H]
  unfold Lib.strCells bc
  rw [Lib.extract_data]
  simp

theorem own_shape {w : World} {base n : Nat} {v : Value} {xs : List Value} (h : w.ownsRow base 5 1 v n xs) (hn : v ≠ .slice none 0 0) :
    ∃ g cap, v = .slice (some ⟨g, 0, none⟩) n cap ∧ base ≤ g := by
  rcases h.2 with ⟨h1, _⟩ | ⟨g, cap, cur, h1, h2, _⟩
  · exact absurd h1 hn
  · exact ⟨g, cap, h1, h2⟩

theorem conv_run (wr : World) (base g n cap : Nat) (l : List UInt8) (h : wr.ownsRow base 5 1 (.slice (some ⟨g, 0, none⟩) n cap) n (bc l)) :
    (convert 27 9 (.slice (some ⟨g, 0, none⟩) n cap)).run Try.prog wr = .ok (.string ⟨l.toArray⟩) wr := by
  have hn : n = l.length := by
    have := h.1
    rw [bc_length] at this
    omega
  subst hn
  refine run_convert_bytes_back wr 27 9 5 ⟨g, 0, none⟩ cap l Try.underlying27 Try.underlying5 Try.underlying9 fun j hj => ?_
  have e := h.cellAt j (by omega)
  have e2 : (⟨g, 0, none⟩ : Addr).add j = ⟨g, j, none⟩ := by unfold Addr.add; split <;> simp_all
  rw [e2, e]
  simp [bc, List.getElem?_eq_getElem hj]

set_option maxRecDepth 100000 in
set_option maxHeartbeats 2000000 in
/-- escape. -/
theorem esc_any (s : ByteArray) (w : World) (hs : s.size ≤ 1048576) :
    Calls Try.prog 16 #[.string s] w fun e w' => e = .returned (.string ⟨(escL s.data.toList).toArray⟩) ∧ Below w.heap.size w w' := by
  obtain ⟨i0, hi, hz0, hz1, hz2⟩ := info_parts info5
  have hne := fun (wx : World) (a : Option Addr) (n c : Nat) => run_neq_slice_nil_any (P := Try.prog) wx 27 5 a n c 0 0 Try.underlying27
  have heq := fun (wx : World) (a : Option Addr) (n c : Nat) => Lib.run_eql_slice_nil (P := Try.prog) wx 27 5 a n c 0 0 Try.underlying27
  go_enter Try.func16, Try.ntmps16
  go_wp2
  go_loopw [3, 4] (fun v i wr => ∃ k : Nat, k ≤ s.size ∧ i = .int .i64 k ∧ Below w.heap.size w wr ∧
      ((v = .slice none 0 0 ∧ Hid (∀ c ∈ s.data.toList.take k, plainB c = true)) ∨
       ∃ g cap n, v = .slice (some ⟨g, 0, none⟩) n cap ∧ w.heap.size ≤ g ∧ wr.ownsRow w.heap.size 5 1 (.slice (some ⟨g, 0, none⟩) n cap) n (bc (escL (s.data.toList.take k)))))
    (fun _ i _ => s.size - (intOf i).toNat)
  case atStart => exact ⟨0, Nat.zero_le _, rfl, Below.refl _ _, .inl ⟨rfl, fun c hc => by simp at hc⟩⟩
  case round =>
    obtain ⟨k, hk, rfl, hbel, hv⟩ := hrel
    have hsz := hbel.size
    by_cases hlt : k < s.size
    · have hlt' : (k : Int) < (s.size : Int) := by omega
      have hl3 := escL_len (s.data.toList.take k)
      have hlk : (s.data.toList.take k).length ≤ k := List.length_take_le _ _
      by_cases hpl : plainB s[k] = true
      · obtain ⟨p1, p2, p3, p4⟩ := (plain_iff _).1 hpl
        have q1 : (32 : Int) < s[k].toNat := by omega
        have q2 : (s[k].toNat : Int) < 127 := by omega
        have q3 : ((s[k].toNat : Int) != 35) = true := by rw [bne_iff_ne]; omega
        have q4 : ((s[k].toNat : Int) != 37) = true := by rw [bne_iff_ne]; omega
        clear p1 p2 p3 p4
        rcases hv with ⟨rfl, HP⟩ | ⟨g, cap, n, rfl, hg, hown⟩
        · go_wp2
          go_roundw
          case rel => exact ⟨k + 1, by omega, by go_num, hbel, .inl ⟨rfl, plain_step s k hlt hpl HP.out⟩⟩
          case measure => simp [intOf]; omega
        · have hn := own_len hown
          go_wp2_with (at_builtin; refine wpList_append_lies _ rfl _ _ 27 rfl w.heap.size 5 i0 (.int .u8 0) 1 1 Try.underlying27 hi hz0 hz1 hz2 rfl (by decide) _ n _ rfl (hown.alloc _) ⟨wr.heap.size, 0, none⟩ 1 1 [.int .u8 (s[k].toNat : Int)] rfl rfl (cell_one_new _ _ _) (by simp [Value.oneCell']) (by omega) (by unfold maxLen; omega) (by omega) (by simp; omega) (wr.heap.size + 1) (by simp) ?_; intro g1 cap1 w1 hown1 hgrow hat hlt1)
          have hb1 : Below w.heap.size w w1 := (hbel.alloc hsz _).grown hgrow (by simp; omega) (fun x hx => by have e : some g = some x := hx; injection e with e; omega)
          have hg1 : w.heap.size ≤ g1 := by exact hat.elim (fun h => by have e : some g = some g1 := h; injection e with e; omega) (fun h => by omega)
          have ho := own_step w w1 _ _ s k hlt _ (by rw [escB_yes _ hpl]; rfl) hown1
          go_wp2
          go_roundw
          case rel => exact ⟨k + 1, by omega, by go_num, hb1, .inr ⟨g1, cap1, n + 1, rfl, hg1, ho⟩⟩
          case measure => simp [intOf]; omega
      · have hand : bits BinOp.and IntKind.u8 (s[k].toNat : Int) 15 = (s[k].toNat : Int) % 16 := and15 _ (UInt8.toNat_lt _)
        obtain ⟨x1, hx1, X1⟩ : ∃ x1 : Nat, (∀ wx : World, (Instr.index 9 (.string ⟨#[48, 49, 50, 51, 52, 53, 54, 55, 56, 57, 65, 66, 67, 68, 69, 70]⟩) (.int .u8 ((s[k].toNat : Int) / 16))).run Try.prog wx = .ok (.int .u8 (x1 : Int)) wx) ∧ Hid (x1 = (hexD (s[k].toNat / 16)).toNat) :=
          ⟨(hexD (s[k].toNat / 16)).toNat, fun wx => idx_run' _ (s[k].toNat / 16) (by omega) (by have := UInt8.toNat_lt s[k]; omega) wx, rfl⟩
        obtain ⟨x2, hx2, X2⟩ : ∃ x2 : Nat, (∀ wx : World, (Instr.index 9 (.string ⟨#[48, 49, 50, 51, 52, 53, 54, 55, 56, 57, 65, 66, 67, 68, 69, 70]⟩) (.int .u8 ((s[k].toNat : Int) % 16))).run Try.prog wx = .ok (.int .u8 (x2 : Int)) wx) ∧ Hid (x2 = (hexD (s[k].toNat % 16)).toNat) :=
          ⟨(hexD (s[k].toNat % 16)).toNat, fun wx => idx_run' _ (s[k].toNat % 16) (by omega) (by omega) wx, rfl⟩
        have hw := not_plain _ hpl
        have E : Hid ([Value.int .u8 37, .int .u8 (x1 : Int), .int .u8 (x2 : Int)] = bc (escB s[k])) := by
          show _ = _
          rw [escB_no _ (by simpa using hpl), X1.out, X2.out]; rfl
        clear X1 X2
        rcases hv with ⟨rfl, HP⟩ | ⟨g, cap, n, rfl, hg, hown⟩
        · have hsk : 0 + (s.extract 0 k).size = k := by simp; omega
          rcases hw with q1 | ⟨q1, q2⟩ | ⟨q1, q2, q3⟩ | ⟨q1, q2, q3, q4⟩
          all_goals
            go_wp2_with (first | (at_make; refine wpList_make_own _ rfl _ _ 27 rfl w.heap.size 5 i0 (.int .u8 0) 1 Try.underlying27 hi hz0 hz1 _ _ _ (s.size + 2 * (s.size - k)) rfl rfl (by omega) (by rw [hz2]; omega) (by unfold maxLen; omega) (by omega) ?_; intro w1 hown1 hgrow1) | (at_builtin; refine Lib.wpList_append_own_string _ rfl _ _ 27 9 rfl w.heap.size 5 i0 Try.underlying27 Try.underlying9 hi hz0 hz1 hz2 (.slice (some ⟨wr.heap.size, 0, none⟩) 0 (s.size + 2 * (s.size - k))) 0 [] rfl hown1 (s.extract 0 k) rfl (by unfold maxLen; simp; omega) (by simp; omega) (by have := hgrow1.size; omega) ?_; intro v2 w2 hown2 hgrow2 hnil2; rw [hsk] at hown2; obtain ⟨g, cap, rfl, hg⟩ := own_shape hown2 (fun h => by have := (hnil2.1 h).1; cases this); clear hnil2))
            have hown : w2.ownsRow w.heap.size 5 1 (.slice (some ⟨g, 0, none⟩) k cap) k (bc (escL (s.data.toList.take k))) := by rw [← str_cells s k HP.out]; exact hown2
            have hbel := (hbel.grown hgrow1 hsz (fun x hx => by cases hx)).grown hgrow2 (by have := hgrow1.size; omega) (fun x hx => by have e : some wr.heap.size = some x := hx; injection e with e; omega)
            have hsz := hbel.size
            clear hown1 hown2 hgrow1 hgrow2
            go_region_held3 (fun _ => True) (trivial)
              ((refine step_append_lies _ (by rfl) _ _ _ (by rfl) w.heap.size 5 i0 (.int .u8 0) 1 1 Try.underlying27 hi hz0 hz1 hz2 rfl (by decide) (.slice (some ⟨g, 0, none⟩) k cap) k (bc (escL (s.data.toList.take k))) (by rfl) ((hown.alloc _).drew) ⟨w2.heap.size, 0, none⟩ 3 3 [.int .u8 37, .int .u8 (x1 : Int), .int .u8 (x2 : Int)] (by rfl) (by rfl) (World.news_of_block (cs := #[.int .u8 37, .int .u8 (x1 : Int), .int .u8 (x2 : Int)]) (t := 5) (fr := (0, 0)) (heap_alloc_new w2 _)) (by simp [Value.oneCell']) (by omega) (by unfold maxLen; omega) (by omega) (by simp; omega) (w2.heap.size + 1) (by simp) ?_; intro g1 cap1 w1 hown1 hgrow hat hlt1))
            all_goals
              have hb1 : Below w.heap.size w w1 := ((hbel.alloc hsz _).drew).grown hgrow (by simp; omega) (fun x hx => by have e : some g = some x := hx; injection e with e; omega)
              have hg1 : w.heap.size ≤ g1 := by exact hat.elim (fun h => by have e : some g = some g1 := h; injection e with e; omega) (fun h => by omega)
              have ho := own_step w w1 _ _ s k hlt _ E.out hown1
              go_wp2
              go_roundw
              case rel => exact ⟨k + 1, by omega, by go_num, hb1, .inr ⟨g1, cap1, k + 3, rfl, hg1, ho⟩⟩
              case measure => simp [intOf]; omega
        · have hn := own_len hown
          rcases hw with q1 | ⟨q1, q2⟩ | ⟨q1, q2, q3⟩ | ⟨q1, q2, q3, q4⟩
          all_goals
            go_wp2
            go_region_held3 (fun _ => True) (trivial)
              ((refine step_append_lies _ (by rfl) _ _ _ (by rfl) w.heap.size 5 i0 (.int .u8 0) 1 1 Try.underlying27 hi hz0 hz1 hz2 rfl (by decide) (.slice (some ⟨g, 0, none⟩) n cap) n (bc (escL (s.data.toList.take k))) (by rfl) ((hown.alloc _).drew) ⟨wr.heap.size, 0, none⟩ 3 3 [.int .u8 37, .int .u8 (x1 : Int), .int .u8 (x2 : Int)] (by rfl) (by rfl) (World.news_of_block (cs := #[.int .u8 37, .int .u8 (x1 : Int), .int .u8 (x2 : Int)]) (t := 5) (fr := (0, 0)) (heap_alloc_new wr _)) (by simp [Value.oneCell']) (by omega) (by unfold maxLen; omega) (by omega) (by simp; omega) (wr.heap.size + 1) (by simp) ?_; intro g1 cap1 w1 hown1 hgrow hat hlt1))
            all_goals
              have hb1 : Below w.heap.size w w1 := ((hbel.alloc hsz _).drew).grown hgrow (by simp; omega) (fun x hx => by have e : some g = some x := hx; injection e with e; omega)
              have hg1 : w.heap.size ≤ g1 := by exact hat.elim (fun h => by have e : some g = some g1 := h; injection e with e; omega) (fun h => by omega)
              have ho := own_step w w1 _ _ s k hlt _ E.out hown1
              go_wp2
              go_roundw
              case rel => exact ⟨k + 1, by omega, by go_num, hb1, .inr ⟨g1, cap1, n + 3, rfl, hg1, ho⟩⟩
              case measure => simp [intOf]; omega
    · have hek : k = s.size := by omega
      have HT : Hid (s.data.toList.take k = s.data.toList) := List.take_of_length_le (by rw [hek, Lib.size_eq]; exact Nat.le_refl _)
      have hlt' : ¬ (k : Int) < (s.size : Int) := by omega
      clear hek
      rcases hv with ⟨rfl, HP⟩ | ⟨g, cap, n, rfl, hg, hown⟩
      · have E : Hid (escL s.data.toList = s.data.toList) := by
          have h1 := escL_plain _ HP.out
          rw [HT.out] at h1
          exact h1
        go_wp2
        go_ret
        exact ⟨by rw [E.out, Lib.mk_data]; rfl, hbel⟩
      · have hcv := conv_run wr _ g n cap _ hown
        rw [HT.out] at hcv
        go_wp2
        go_ret
        exact ⟨rfl, hbel⟩
end Go.Proofs.Qxb6601704a.Esc
