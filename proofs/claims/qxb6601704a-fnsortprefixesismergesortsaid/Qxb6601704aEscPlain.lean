import Derived.WalkKit
namespace Go.Proofs.Qxb6601704a.Esc

/-- The bytes that 'escape' leaves as they are. -/
def plainB (c : UInt8) : Bool := decide (32 < c.toNat) && decide (c.toNat < 127) && decide (c.toNat ≠ 35) && decide (c.toNat ≠ 37)
/-- The upper-case hex digit of a number below 16. -/
def hexD (n : Nat) : UInt8 := if n < 10 then UInt8.ofNat (48 + n) else UInt8.ofNat (55 + n)
def escB (c : UInt8) : List UInt8 := if plainB c then [c] else [37, hexD (c.toNat / 16), hexD (c.toNat % 16)]
def escL (l : List UInt8) : List UInt8 := l.flatMap escB

theorem escB_len (c : UInt8) : (escB c).length ≤ 3 := by
  unfold escB; split <;> simp
theorem escL_len (l : List UInt8) : (escL l).length ≤ 3 * l.length := by
  induction l with
  | nil => simp [escL]
  | cons c l ih =>
    have h1 := escB_len c
    simp only [escL, List.flatMap_cons, List.length_append, List.length_cons] at *
    omega
theorem escL_snoc (l : List UInt8) (c : UInt8) : escL (l ++ [c]) = escL l ++ escB c := by
  simp [escL]
theorem escL_plain (l : List UInt8) (h : ∀ c ∈ l, plainB c = true) : escL l = l := by
  induction l with
  | nil => rfl
  | cons c l ih =>
    have h1 : escB c = [c] := by unfold escB; rw [if_pos (h c (by simp))]
    have h2 := ih fun d hd => h d (by simp [hd])
    simp only [escL, List.flatMap_cons] at *
    rw [h1, h2]; rfl
theorem escB_yes (c : UInt8) (h : plainB c = true) : escB c = [c] := by unfold escB; rw [if_pos h]
theorem escB_no (c : UInt8) (h : plainB c = false) : escB c = [37, hexD (c.toNat / 16), hexD (c.toNat % 16)] := by unfold escB; rw [if_neg (by rw [h]; decide)]

/-- Bytes as cells. -/
def bc (l : List UInt8) : List Value := l.map fun b => Value.int .u8 b.toNat

theorem bc_length (l : List UInt8) : (bc l).length = l.length := by simp [bc]
theorem bc_append (a b : List UInt8) : bc (a ++ b) = bc a ++ bc b := by simp [bc]
theorem take_snoc (s : ByteArray) (k : Nat) (h : k < s.size) : s.data.toList.take (k + 1) = s.data.toList.take k ++ [s[k]] := by
  rw [List.take_succ_eq_append_getElem (by simpa using h)]; rfl

theorem plain_iff (c : UInt8) : plainB c = true ↔ (32 < c.toNat ∧ c.toNat < 127 ∧ c.toNat ≠ 35 ∧ c.toNat ≠ 37) := by
  unfold plainB; simp [and_assoc]

theorem hexD_at : ∀ n, n < 16 → ∀ h, ((⟨#[48, 49, 50, 51, 52, 53, 54, 55, 56, 57, 65, 66, 67, 68, 69, 70]⟩ : ByteArray)[n]'h).toNat = (hexD n).toNat := by
  intro n hn
  match n, hn with
  | 0, _ => intro _; rfl
  | 1, _ => intro _; rfl
  | 2, _ => intro _; rfl
  | 3, _ => intro _; rfl
  | 4, _ => intro _; rfl
  | 5, _ => intro _; rfl
  | 6, _ => intro _; rfl
  | 7, _ => intro _; rfl
  | 8, _ => intro _; rfl
  | 9, _ => intro _; rfl
  | 10, _ => intro _; rfl
  | 11, _ => intro _; rfl
  | 12, _ => intro _; rfl
  | 13, _ => intro _; rfl
  | 14, _ => intro _; rfl
  | 15, _ => intro _; rfl
  | n + 16, hn => omega

theorem and15 : ∀ n : Nat, n < 256 → bits BinOp.and IntKind.u8 (n : Int) 15 = (n : Int) % 16 := by
  decide +kernel
end Go.Proofs.Qxb6601704a.Esc
