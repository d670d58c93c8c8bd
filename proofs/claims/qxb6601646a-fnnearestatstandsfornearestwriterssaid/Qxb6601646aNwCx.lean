import Derived.Test.Qxb6601646aNwReach
import Derived.Test.Qxb6601646aNwZat
import Derived.Test.Qxb6601646aNwSet
import Derived.Test.Qxb6601646aNwBytes
namespace Go.Proofs.Qxb6601646a.Nw
open Go.RowKit Go.Proofs.Qxb6601646a.Tw Go.Proofs.Qxb6601646a.Np

theorem hide {p : Prop} (h : p) : Hid p := h
/-- The rest of the code behind k statements. -/
def sndN : Nat → Code → Code
  | 0, c => c
  | n + 1, .seq _ b => sndN n b
  | _ + 1, c => c

/-- What the law's checks are told once everything is computed. -/
structure Cx (w : World) (a sa na na' : Option Addr) (n0 nj nn size p vb sb : Nat) (v : Int) (fw : Bool) (W nd0 nd' : List Int) (S0 S : List (List Int)) (J : List (Nat × Nat)) : Prop where
  m0 : Mat w a n0 S0
  m1 : Mat w sa (n0 + nj) S
  r0 : Row w na nn nd0
  r1 : Row w na' nn nd'
  hv : ∀ q, q < size → ∃ B : Bool, w.cell? ⟨vb, q, none⟩ = some (.bool B) ∧ (B = true ↔ Vis size nd0 p q)
  hs : ∀ q, Vis size nd0 p q → ∃ a n c s, w.cell? ⟨sb, q, none⟩ = some (.slice a n c) ∧ n ≤ 65536 ∧ Row w a n (ints s) ∧ SetOf (In size W nd0 q) s
  lv : vb < w.heap.size
  lsb : sb < w.heap.size
  ok : AtOk n0 size W nd0 p [] nd0 v J nd'
  gr : Gr fw S0 J S
  inp : Inp n0 size W nd0
  jl : J.length = nj
  b0 : n0 ≤ 65536
  b1 : size ≤ 65536
  b2 : nn ≤ 131072
  b3 : nj ≤ size
  br : ∀ i, (S0.getD i []).length ≤ 131072
theorem Cx.keep {w w' : World} {a sa na na' : Option Addr} {n0 nj nn size p vb sb : Nat} {v : Int} {fw : Bool} {W nd0 nd' : List Int} {S0 S : List (List Int)} {J : List (Nat × Nat)} (h : Cx w a sa na na' n0 nj nn size p vb sb v fw W nd0 nd' S0 S J) (hb : Below w.heap.size w w') : Cx w' a sa na na' n0 nj nn size p vb sb v fw W nd0 nd' S0 S J := by
  refine ⟨h.m0.keep hb, h.m1.keep hb, h.r0.keep hb, h.r1.keep hb, fun q hq => ?_, fun q hq => ?_, Nat.lt_of_lt_of_le h.lv hb.size, Nat.lt_of_lt_of_le h.lsb hb.size, h.ok, h.gr, h.inp, h.jl, h.b0, h.b1, h.b2, h.b3, h.br⟩
  · obtain ⟨B, h1, h2⟩ := h.hv q hq
    exact ⟨B, (hb.cell (p := ⟨vb, q, none⟩) h.lv).trans h1, h2⟩
  · obtain ⟨a, n, c, s, h1, h2, h3, h4⟩ := h.hs q hq
    exact ⟨a, n, c, s, (hb.cell (p := ⟨sb, q, none⟩) h.lsb).trans h1, h2, h3.keep hb, h4⟩
theorem Cx.size_le {w : World} {a sa na na' : Option Addr} {n0 nj nn size p vb sb : Nat} {v : Int} {fw : Bool} {W nd0 nd' : List Int} {S0 S : List (List Int)} {J : List (Nat × Nat)} (h : Cx w a sa na na' n0 nj nn size p vb sb v fw W nd0 nd' S0 S J) : size ≤ nn := by
  have h1 := h.inp.l
  have h2 := h.r0.1
  omega
/-- The entry of a made tree node, with two nodes under it or more. -/
theorem Cx.two {w : World} {a sa na na' : Option Addr} {n0 nj nn size p vb sb : Nat} {v : Int} {fw : Bool} {W nd0 nd' : List Int} {S0 S : List (List Int)} {J : List (Nat × Nat)} (h : Cx w a sa na na' n0 nj nn size p vb sb v fw W nd0 nd' S0 S J) {q : Nat} {s : List Nat} (hq : Vis size nd0 p q) (hs : SetOf (In size W nd0 q) s) (h2 : 2 ≤ s.length) : ∃ k, k < nj ∧ nd'.getD q 0 = ((n0 + k : Nat) : Int) ∧ ∀ y, y ∈ s ↔ Leaf n0 J (n0 + k) y := by
  obtain ⟨x, hx1, hx2⟩ := h.ok.ins q hq
  obtain ⟨k, hk1, hk2, hk3⟩ := stands_two hx2 hs h2
  refine ⟨k, by rw [← h.jl]; exact hk1, ?_, hk3⟩
  rw [List.getD_eq_getElem?_getD, hx1, ← hk2]; rfl
end Go.Proofs.Qxb6601646a.Nw
