import Derived.Test.Qxb6601704aSoSmall2
import Derived.Test.Qxb6601704aSoMerge
import Derived.Deep.RegionHeld3
namespace Go.Proofs.Qxb6601704a.So
open Go.RowKit
open Go.Proofs.Qxb6601704a.Esc (bc bc_length bc_append info5)

/-- 'copy' between two rows, as one step of a region that draws its order: the very world. -/
theorem step_copy_row {P : Program} {ops : Array Oper} {o : Oper} {a : Act} {w : World} {K : Act → World → Prop} {Q : Exit → Act → World → Prop} {E : Prop} (hgd : o.guard = none) (d s : Operand) (dT sT : TypeId)
    (ho : o.op = .call { callee := .builtin .copy, args := #[d, s], argTypes := #[dT, sT] }) (elem : TypeId) (hu : P.underlying dT = some (.slice elem)) (hsz : (P.info? elem).map (·.size) = some 1)
    (g off dLen dCap : Nat) (ad : Addr) (sLen sCap : Nat) (hd : a.eval d = .slice (some ⟨g, off, none⟩) dLen dCap) (hs : a.eval s = .slice (some ad) sLen sCap)
    (cur : Array Value) (t : TypeId) (hg : w.heap[g]? = some (.cells cur t (0, 0))) (cs : List Value) (hn : cs.length = Nat.min sLen dLen)
    (hsrc : ∀ j v, cs[j]? = some v → w.cell? (ad.add j) = some v) (hfit : off + cs.length ≤ cur.size) (h1 : ∀ v ∈ cs, v.oneCell' = true)
    (W' : World) (hW : w.setRow g (cur.toList.take off ++ cs ++ cur.toList.drop (off + cs.length)).toArray = W')
    (h : K (a.put o.dst (goInt cs.length)) W') :
    if Region.wanted o (yielded ops a.tmps) = true then Oper.wp P o a w K Q else E := by
  have hw : Region.wanted o (yielded ops a.tmps) = true := by simp [Region.wanted, hgd]
  rw [if_pos hw]
  have hrun := run_copy_row (P := P) w dT sT o.type elem g off dLen dCap ad sLen sCap cur t cs hu hsz hg hn hsrc hfit h1
  rw [hW] at hrun
  unfold Oper.wp
  simp [execOp, ho, resolve, invoke, builtin, hd, hs, hrun, Result.andThen]
  exact h

/-- Cutting a piece of 'size' places out of a row. -/
theorem slice_run (g N p size : Nat) (X Y : Int) (wx : World) (hX : X = (p : Int)) (hY : Y = ((p + size : Nat) : Int)) (hk : p + size ≤ N) (hs : 0 < size) :
    (Instr.slice 27 (.slice (some ⟨g, 0, none⟩) N N) (some (.int .i64 X)) (some (.int .i64 Y)) none).run Try.prog wx = .ok (.slice (some ⟨g, p, none⟩) size (N - p)) wx := by
  subst hX hY
  have e : ((p + size : Nat) : Int) = (p : Int) + (size : Int) := by omega
  rw [e]
  go_simp
  rw [if_pos ⟨by omega, by omega⟩, if_pos (by omega), if_neg (by omega)]
  have e2 : ((p : Int) + (size : Int)).toNat - p = size := by omega
  rw [e2]

/-- What the merge sort's rounds keep: the two rows, told as blocks. -/
structure St (size n ga : Nat) (w wr : World) (x y : Nat) (A T : List (List UInt8)) : Prop where
  bA : Blk size A
  bT : Blk size T
  lA : A.length = n
  lT : T.length = n
  aA : Arr wr x A.flatten
  aT : Arr wr y T.flatten
  ne : x ≠ y
  gr : w.grownBy wr (some ga)
  ox : x = ga ∨ w.heap.size ≤ x
  oy : y = ga ∨ w.heap.size ≤ y

theorem St.drewN {size n ga : Nat} {w wr : World} {x y : Nat} {A T : List (List UInt8)} (h : St size n ga w wr x y A T) (q : Nat) : St size n ga w (wr.drewN q) x y A T :=
  { h with aA := h.aA.drewN q, aT := h.aT.drewN q, gr := ⟨h.gr.os, h.gr.tape, h.gr.output, by simp; exact h.gr.size, fun k hk hn => by simp; exact h.gr.block k hk hn⟩ }
theorem St.drew {size n ga : Nat} {w wr : World} {x y : Nat} {A T : List (List UInt8)} (h : St size n ga w wr x y A T) : St size n ga w wr.drew x y A T := h.drewN 1
theorem St.swap {size n ga : Nat} {w wr : World} {x y : Nat} {A T : List (List UInt8)} (h : St size n ga w wr x y A T) : St size n ga w wr y x T A :=
  ⟨h.bT, h.bA, h.lT, h.lA, h.aT, h.aA, h.ne.symm, h.gr, h.oy, h.ox⟩

theorem take_mid (l : List UInt8) (k : Nat) (x : List UInt8) : (bc l).toArray.toList.take k ++ bc x ++ (bc l).toArray.toList.drop (k + (bc x).length) = splice (bc l) k (bc x) := by
  unfold splice
  simp

theorem arr_other {w : World} {y x : Nat} {cs : Array Value} {l : List UInt8} (h : Arr w x l) (hn : x ≠ y) : Arr (w.setRow y cs) x l := by
  unfold Arr
  rw [setRow_other w y x cs hn]; exact h

/-- The block k of the second row is set. -/
theorem St.put {size n ga : Nat} {w wr : World} {x y : Nat} {A T : List (List UInt8)} (h : St size n ga w wr x y A T) (k : Nat) (hk : k < n) (b : List UInt8) (hb : b.length = size) :
    St size n ga w (wr.setRow y ((bc T.flatten).toArray.toList.take (k * size) ++ bc b ++ (bc T.flatten).toArray.toList.drop (k * size + (bc b).length)).toArray) x y A (T.set k b) := by
  have e : (bc T.flatten).toArray.toList.take (k * size) ++ bc b ++ (bc T.flatten).toArray.toList.drop (k * size + (bc b).length) = bc (T.set k b).flatten := by
    rw [take_mid, bc_splice, flat_set h.bT k (by rw [h.lT]; exact hk) b hb]
  rw [e]
  exact ⟨h.bA, h.bT.set k b hb, h.lA, by rw [List.length_set]; exact h.lT, arr_other h.aA h.ne, setRow_arr h.aT _, h.ne,
    setRow_grown h.gr y (h.oy.elim (fun e => .inr (by rw [e])) .inl) _, h.ox, h.oy⟩

/-- The block i of the first row, cell by cell. -/
theorem St.src {size n ga : Nat} {w wr : World} {x y : Nat} {A T : List (List UInt8)} (h : St size n ga w wr x y A T) (i : Nat) (hi : i < n) :
    ∀ j v, (bc (A[i]'(by rw [h.lA]; exact hi)))[j]? = some v → wr.cell? ((⟨x, i * size, none⟩ : Addr).add j) = some v := by
  intro j v hj
  have hiA : i < A.length := by rw [h.lA]; exact hi
  have hl : (A[i]).length = size := h.bA _ (List.getElem_mem hiA)
  have hj' : j < (A[i]).length := by
    have := (List.getElem?_eq_some_iff.1 hj).1
    rwa [bc_length] at this
  have e : (⟨x, i * size, none⟩ : Addr).add j = ⟨x, i * size + j, none⟩ := by unfold Addr.add; split <;> simp_all
  have ef := flat_at h.bA i j hiA (by omega)
  have hlt : i * size + j < A.flatten.length := by
    rw [flat_len h.bA, h.lA]
    have := Nat.mul_le_mul_right size (show i + 1 ≤ n by omega)
    rw [Nat.succ_mul] at this
    omega
  rw [List.getElem?_eq_getElem hj', List.getElem?_eq_getElem hlt] at ef
  injection ef with ef
  rw [bc_at _ j hj'] at hj
  rw [e, h.aA.cell _ hlt, ef]
  exact hj

/-- A block of the first row copied into the second: the run of 'copy', and what holds behind it. -/
theorem St.copy {size n ga N : Nat} {w wr : World} {x y : Nat} {A T : List (List UInt8)} (h : St size n ga w wr x y A T) (i k pi pk : Nat) (hi : i < n) (hk : k < n) (hpi : pi = i * size) (hpk : pk = k * size) :
    ∃ w4, (Builtin.copy_ #[27, 27] 3 #[.slice (some ⟨y, pk, none⟩) size (N - pk), .slice (some ⟨x, pi, none⟩) size (N - pi)]).run Try.prog wr = .ok (.int .i64 (size : Int)) w4 ∧
      Hid (St size n ga w w4 x y A (T.set k (A[i]'(by rw [h.lA]; exact hi)))) := by
  have hiA : i < A.length := by rw [h.lA]; exact hi
  have hl : (A[i]).length = size := h.bA _ (List.getElem_mem hiA)
  have hfit : k * size + (bc A[i]).length ≤ (bc T.flatten).toArray.size := by
    rw [bc_length, hl, List.size_toArray, bc_length, flat_len h.bT, h.lT]
    have := Nat.mul_le_mul_right size (show k + 1 ≤ n by omega)
    rw [Nat.succ_mul] at this
    exact this
  subst hpi hpk
  have hrun := run_copy_row (P := Try.prog) wr 27 27 3 5 y (k * size) size (N - k * size) ⟨x, i * size, none⟩ size (N - i * size) (bc T.flatten).toArray 5 (bc A[i]) Try.underlying27 size5 h.aT (by rw [bc_length, hl]; simp) (h.src i hi) hfit (bc_one _)
  refine ⟨_, ?_, h.put k hk A[i] hl⟩
  rw [hrun]
  simp [goInt, bc_length, hl]

theorem St.len {size n ga : Nat} {w wr : World} {x y : Nat} {A T : List (List UInt8)} (h : St size n ga w wr x y A T) : A.flatten.length = n * size := by
  rw [flat_len h.bA, h.lA]
theorem St.lenT {size n ga : Nat} {w wr : World} {x y : Nat} {A T : List (List UInt8)} (h : St size n ga w wr x y A T) : T.flatten.length = n * size := by
  rw [flat_len h.bT, h.lT]
end Go.Proofs.Qxb6601704a.So
