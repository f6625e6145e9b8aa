import Derived.Test.Qxb6613770aLocT
import Derived.ProofKit
import Derived.OpenShut
import Derived.ShutString
import Derived.ChangeOld
namespace Go.Proofs.Qxb6613770a
set_option linter.unusedVariables false
set_option linter.unusedSimpArgs false
open Go.ChangeShapes Go.WideShapes Go.ChangeAt Go.RowKit

theorem cells22 : Try.prog.cellsOf 22 = 1 := by kernel_rfl
theorem cells9 : Try.prog.cellsOf 9 = 1 := by kernel_rfl
theorem cells4 : Try.prog.cellsOf 4 = 1 := by kernel_rfl
theorem cells24 : Try.prog.cellsOf 24 = 2 := by kernel_rfl
theorem cells25 : Try.prog.cellsOf 25 = 1 := by kernel_rfl
theorem cells2 : Try.prog.cellsOf 2 = 1 := by kernel_rfl
theorem cells27 : Try.prog.cellsOf 27 = 9 := by kernel_rfl

theorem array9 {α : Type} {cs : Array α} (h : cs.size = 9) : ∃ c0 c1 c2 c3 c4 c5 c6 c7 c8, cs = #[c0, c1, c2, c3, c4, c5, c6, c7, c8] := by
  obtain ⟨l⟩ := cs
  match l, h with
  | [c0, c1, c2, c3, c4, c5, c6, c7, c8], _ => exact ⟨c0, c1, c2, c3, c4, c5, c6, c7, c8, rfl⟩

section
variable {H : Type} {enc : TypeId × Value → H} {w : World} {sp : Nat → Bool}

theorem get_some {α : Type} {xs : List α} {o : Option α} {i n : Nat} (h : o = xs[i]?) (hn : xs.length = n) (hi : i < n) : ∃ y, o = some y := by
  subst hn
  exact ⟨xs[i], by rw [h, List.getElem?_eq_getElem hi]⟩

/-- A Ballot's two cells. -/
theorem openBallot {fuel : Nat} {c0 c1 : Value} {x : DataW H × List MemPlace} (h : DataW.trod enc Try.prog w 0 sp true fuel 24 [c0, c1] = some x) :
    ∃ (r : Nat) (s : ByteArray), c0 = .int .u64 r ∧ c1 = .string s ∧ r < 18446744073709551616 ∧ s.size ≤ maxLen := by
  obtain ⟨xs, n, -, -, -, hlen, hf⟩ := DataW.trod_struct Try.underlying24 h
  have f0 : DataW.trod enc Try.prog w 0 sp true n 22 (([c0, c1].drop 0).take (Try.prog.cellsOf 22)) = xs[0]? := hf 0 _ rfl
  obtain ⟨y0, g0⟩ := get_some f0 hlen (by decide)
  have f1 : DataW.trod enc Try.prog w 0 sp true n 9 (([c0, c1].drop 1).take (Try.prog.cellsOf 9)) = xs[1]? := hf 1 _ rfl
  obtain ⟨y1, g1⟩ := get_some f1 hlen (by decide)
  simp only [cells22, cells9, List.drop_zero, List.drop_succ_cons, List.take_succ_cons, List.take_zero] at g0 g1
  obtain ⟨r, e0, -, hr⟩ := DataW.trod_int Try.underlying22 g0
  obtain ⟨s, e1, -, hs⟩ := DataW.trod_string Try.underlying9 g1
  simp only [List.cons.injEq, and_true] at e0 e1
  have hb := bounds_u64 hr
  obtain ⟨r, rfl⟩ := Int.eq_ofNat_of_zero_le hb.1
  exact ⟨r, s, e0, e1, by omega, hs⟩

/-- A slice of int64 that came in. -/
theorem openInts {fuel : Nat} {c0 : Value} {x : DataW H × List MemPlace} (h : DataW.trod enc Try.prog w 0 sp true fuel 25 [c0] = some x) :
    ∃ (aa : Option Addr) (n c : Nat) (zs : List Int), c0 = .slice aa n c ∧ zs.length = n ∧ n ≤ maxLen ∧ IntsAt w aa zs ∧ (aa = none → n = 0 ∧ c = 0) ∧ ∀ z ∈ zs, -9223372036854775808 ≤ z ∧ z ≤ 9223372036854775807 := by
  rcases open_ints Try.underlying25 Try.underlying2 cells2 h with ⟨hcs, -⟩ | ⟨a, len, cap, zs, hcs, -, hl, hm, hz, -, hcell, hwz⟩
  · simp only [List.cons.injEq, and_true] at hcs
    exact ⟨none, 0, 0, [], hcs, rfl, Nat.zero_le _, .inl rfl, fun _ => ⟨rfl, rfl⟩, by simp⟩
  · simp only [List.cons.injEq, and_true] at hcs
    have hlz : len ≤ zs.length := by rw [hz]; split <;> omega
    refine ⟨some a, len, cap, zs.take len, hcs, by simp; omega, Nat.le_trans hl hm, ?_, (by intro h; cases h), fun z hz' => bounds_i64 (hwz z (List.mem_of_mem_take hz'))⟩
    by_cases h0 : len = 0
    · subst h0; exact .inl (by simp)
    · obtain ⟨b, off, spot⟩ := a
      have hspot : spot = none := by simpa [Addr.add] using World.cell?_spot (hcell 0 (by omega))
      subst hspot
      refine .inr ⟨b, off, rfl, fun j hj => ?_⟩
      have hj' : j < zs.length := by simp at hj; omega
      have hcj := hcell j hj'
      rw [Addr.add_lit] at hcj
      rw [hcj]
      simp only [List.getElem_take, List.getD_eq_getElem?_getD, List.getElem?_eq_getElem hj', Option.getD_some]

/-- A mirror of a Located, opened. -/
theorem openL {fuel : Nat} {cs : Array Value} {x : DataW H × List MemPlace} (hsz : cs.size = 9) (h : DataW.trod enc Try.prog w 0 sp true fuel 27 cs.toList = some x) :
    ∃ (l : Loc) (aa : Option Addr) (n c : Nat), cs = #[.int .u64 l.slot, .int .u64 l.br, .string l.bn, .string l.leader, .int .u64 l.pr, .string l.pn, .bool l.leased, .bool l.cutoff, .slice aa n c] ∧
      l.slot < 18446744073709551616 ∧ l.br < 18446744073709551616 ∧ l.pr < 18446744073709551616 ∧ l.bn.size ≤ maxLen ∧ l.leader.size ≤ maxLen ∧ l.pn.size ≤ maxLen ∧ (∀ z ∈ l.ans, -9223372036854775808 ≤ z ∧ z ≤ 9223372036854775807) ∧
      l.ans.length = n ∧ n ≤ maxLen ∧ IntsAt w aa l.ans ∧ (aa = none → n = 0 ∧ c = 0) := by
  obtain ⟨c0, c1, c2, c3, c4, c5, c6, c7, c8, rfl⟩ := array9 hsz
  obtain ⟨xs, n, -, -, -, hlen, hf⟩ := DataW.trod_struct Try.underlying27 h
  have f0 : DataW.trod enc Try.prog w 0 sp true n 22 (([c0, c1, c2, c3, c4, c5, c6, c7, c8].drop 0).take (Try.prog.cellsOf 22)) = xs[0]? := hf 0 _ rfl
  obtain ⟨y0, g0⟩ := get_some f0 hlen (by decide)
  have f1 : DataW.trod enc Try.prog w 0 sp true n 24 (([c0, c1, c2, c3, c4, c5, c6, c7, c8].drop 1).take (Try.prog.cellsOf 24)) = xs[1]? := hf 1 _ rfl
  obtain ⟨y1, g1⟩ := get_some f1 hlen (by decide)
  have f2 : DataW.trod enc Try.prog w 0 sp true n 9 (([c0, c1, c2, c3, c4, c5, c6, c7, c8].drop 3).take (Try.prog.cellsOf 9)) = xs[2]? := hf 2 _ rfl
  obtain ⟨y2, g2⟩ := get_some f2 hlen (by decide)
  have f3 : DataW.trod enc Try.prog w 0 sp true n 24 (([c0, c1, c2, c3, c4, c5, c6, c7, c8].drop 4).take (Try.prog.cellsOf 24)) = xs[3]? := hf 3 _ rfl
  obtain ⟨y3, g3⟩ := get_some f3 hlen (by decide)
  have f4 : DataW.trod enc Try.prog w 0 sp true n 4 (([c0, c1, c2, c3, c4, c5, c6, c7, c8].drop 6).take (Try.prog.cellsOf 4)) = xs[4]? := hf 4 _ rfl
  obtain ⟨y4, g4⟩ := get_some f4 hlen (by decide)
  have f5 : DataW.trod enc Try.prog w 0 sp true n 4 (([c0, c1, c2, c3, c4, c5, c6, c7, c8].drop 7).take (Try.prog.cellsOf 4)) = xs[5]? := hf 5 _ rfl
  obtain ⟨y5, g5⟩ := get_some f5 hlen (by decide)
  have f6 : DataW.trod enc Try.prog w 0 sp true n 25 (([c0, c1, c2, c3, c4, c5, c6, c7, c8].drop 8).take (Try.prog.cellsOf 25)) = xs[6]? := hf 6 _ rfl
  obtain ⟨y6, g6⟩ := get_some f6 hlen (by decide)
  simp only [cells22, cells9, cells24, cells4, cells25, List.drop_zero, List.drop_succ_cons, List.take_succ_cons, List.take_zero] at g0 g1 g2 g3 g4 g5 g6
  obtain ⟨r, e0, -, hr⟩ := DataW.trod_int Try.underlying22 g0
  obtain ⟨br, bn, e1, e2, hb1, hb2⟩ := openBallot g1
  obtain ⟨ld, e3, -, hs⟩ := DataW.trod_string Try.underlying9 g2
  obtain ⟨pr, pn, e4, e5, hp1, hp2⟩ := openBallot g3
  obtain ⟨b6, e6, -⟩ := DataW.trod_bool Try.underlying4 g4
  obtain ⟨b7, e7, -⟩ := DataW.trod_bool Try.underlying4 g5
  obtain ⟨aa, nn, c, zs, e8, q1, q2, q3, q4, q5⟩ := openInts g6
  simp only [List.cons.injEq, and_true] at e0 e3 e6 e7
  have hb := bounds_u64 hr
  obtain ⟨r, rfl⟩ := Int.eq_ofNat_of_zero_le hb.1
  exact ⟨⟨r, br, bn, ld, pr, pn, b6, b7, zs⟩, aa, nn, c, by rw [e0, e1, e2, e3, e4, e5, e6, e7, e8], by show r < _; omega, hb1, hp1, hb2, hs, hp2, q5, q1, q2, q3, q4⟩
end

end Go.Proofs.Qxb6613770a
