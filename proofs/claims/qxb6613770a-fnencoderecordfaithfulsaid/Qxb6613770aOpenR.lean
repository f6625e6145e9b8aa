import Derived.Test.Qxb6613770aRecG
import Derived.Test.Qxb6613770aOpenL
import Derived.Deep.Slices
namespace Go.Proofs.Qxb6613770a
set_option linter.unusedVariables false
set_option linter.unusedSimpArgs false
open Go.ChangeShapes Go.WideShapes Go.ChangeAt Go.RowKit

theorem cells5 : Try.prog.cellsOf 5 = 1 := by kernel_rfl
theorem cells35 : Try.prog.cellsOf 35 = 1 := by kernel_rfl
theorem cells51 : Try.prog.cellsOf 51 = 3 := by kernel_rfl
theorem cells52 : Try.prog.cellsOf 52 = 1 := by kernel_rfl
theorem cells54 : Try.prog.cellsOf 54 = 7 := by kernel_rfl
theorem cells56 : Try.prog.cellsOf 56 = 10 := by kernel_rfl
theorem cells58 : Try.prog.cellsOf 58 = 12 := by kernel_rfl
theorem cells74 : Try.prog.cellsOf 74 = 1 := by kernel_rfl
theorem cells76 : Try.prog.cellsOf 76 = 10 := by kernel_rfl

theorem list10 {α : Type} {cs : List α} (h : cs.length = 10) : ∃ c0 c1 c2 c3 c4 c5 c6 c7 c8 c9, cs = [c0, c1, c2, c3, c4, c5, c6, c7, c8, c9] := by
  match cs, h with
  | [c0, c1, c2, c3, c4, c5, c6, c7, c8, c9], _ => exact ⟨c0, c1, c2, c3, c4, c5, c6, c7, c8, c9, rfl⟩
theorem array12 {α : Type} {cs : Array α} (h : cs.size = 12) : ∃ c0 c1 c2 c3 c4 c5 c6 c7 c8 c9 c10 c11, cs = #[c0, c1, c2, c3, c4, c5, c6, c7, c8, c9, c10, c11] := by
  obtain ⟨l⟩ := cs
  match l, h with
  | [c0, c1, c2, c3, c4, c5, c6, c7, c8, c9, c10, c11], _ => exact ⟨c0, c1, c2, c3, c4, c5, c6, c7, c8, c9, c10, c11, rfl⟩

structure Tx.Num (t : Tx) : Prop where
  id : t.id.Ok
  ver : t.ver.Ok
/-- Every number is one of 64 bits. -/
structure Rec.Num (r : Rec) : Prop where
  pr : r.pr < 18446744073709551616
  slot : r.slot < 18446744073709551616
  br : r.br < 18446744073709551616
  ver : r.ver.Ok
  txn : ∀ t, r.txn = some t → t.Num
theorem Rec.Num.ok {r : Rec} (h : r.Num) (hs : r.Small) : r.Ok :=
  ⟨h.pr, h.slot, h.br, h.ver, fun t ht => ⟨(h.txn t ht).id, (h.txn t ht).ver, hs.txn t ht⟩, hs.self⟩

section
variable {H : Type} {enc : TypeId × Value → H} {w : World} {sp : Nat → Bool}

/-- A slice of bytes that came in. -/
theorem openBytes {fuel : Nat} {c0 : Value} {x : DataW H × List MemPlace} (h : DataW.trod enc Try.prog w 0 sp true fuel 35 [c0] = some x) :
    ∃ (a : Option Addr) (n c : Nat) (bs : List UInt8), c0 = .slice a n c ∧ Bs w a n c bs ∧ n ≤ maxLen := by
  rcases open_ints Try.underlying35 Try.underlying5 cells5 h with ⟨hcs, -⟩ | ⟨a, len, cap, zs, hcs, -, hl, hm, hz, -, hcell, hwz⟩
  · simp only [List.cons.injEq, and_true] at hcs
    exact ⟨none, 0, 0, [], hcs, ⟨.inl rfl, rfl, fun _ => ⟨rfl, rfl⟩⟩, Nat.zero_le _⟩
  · simp only [List.cons.injEq, and_true] at hcs
    have hlz : len ≤ zs.length := by rw [hz]; split <;> omega
    refine ⟨some a, len, cap, (zs.take len).map (fun z => z.toNat.toUInt8), hcs, ⟨?_, by simp; omega, by intro h; cases h⟩, Nat.le_trans hl hm⟩
    by_cases h0 : len = 0
    · subst h0; exact .inl (by simp)
    · obtain ⟨b, off, spot⟩ := a
      have hspot : spot = none := by simpa [Addr.add] using World.cell?_spot (hcell 0 (by omega))
      subst hspot
      refine .inr ⟨b, off, rfl, fun j hj => ?_⟩
      have hj' : j < zs.length := by simp at hj; omega
      have hcj := hcell j hj'
      rw [Addr.add_lit] at hcj
      rw [hcj]
      have hz2 : 0 ≤ zs[j] ∧ zs[j] ≤ 255 := bounds_u8 (hwz zs[j] (List.getElem_mem hj'))
      simp only [List.getElem_map, List.getElem_take, List.getD_eq_getElem?_getD, List.getElem?_eq_getElem hj', Option.getD_some]
      rw [Lib.toUInt8_toNat (by omega)]
      congr 2
      omega

/-- A Version's three cells. -/
theorem openVer {fuel : Nat} {c0 c1 c2 : Value} {x : DataW H × List MemPlace} (h : DataW.trod enc Try.prog w 0 sp true fuel 51 [c0, c1, c2] = some x) :
    ∃ v : Ver, c0 = .int .u64 v.slot ∧ c1 = .int .u64 v.br ∧ c2 = .string v.bn ∧ v.Ok ∧ v.bn.size ≤ maxLen := by
  obtain ⟨xs, n, -, -, -, hlen, hf⟩ := DataW.trod_struct Try.underlying51 h
  have f0 : DataW.trod enc Try.prog w 0 sp true n 22 (([c0, c1, c2].drop 0).take (Try.prog.cellsOf 22)) = xs[0]? := hf 0 _ rfl
  obtain ⟨y0, g0⟩ := get_some f0 hlen (by decide)
  have f1 : DataW.trod enc Try.prog w 0 sp true n 24 (([c0, c1, c2].drop 1).take (Try.prog.cellsOf 24)) = xs[1]? := hf 1 _ rfl
  obtain ⟨y1, g1⟩ := get_some f1 hlen (by decide)
  simp only [cells22, cells24, List.drop_zero, List.drop_succ_cons, List.take_succ_cons, List.take_zero] at g0 g1
  obtain ⟨r, e0, -, hr⟩ := DataW.trod_int Try.underlying22 g0
  obtain ⟨br, bn, e1, e2, hb1, hb2⟩ := openBallot g1
  simp only [List.cons.injEq, and_true] at e0
  have hb := bounds_u64 hr
  obtain ⟨r, rfl⟩ := Int.eq_ofNat_of_zero_le hb.1
  exact ⟨⟨r, br, bn⟩, e0, e1, e2, ⟨by show r < _; omega, hb1⟩, hb2⟩

/-- A slice of slices of bytes that came in. -/
theorem openKeys {fuel : Nat} {c0 : Value} {x : DataW H × List MemPlace} (h : DataW.trod enc Try.prog w 0 sp true fuel 74 [c0] = some x) :
    ∃ (a : Option Addr) (n c : Nat) (keys : List (List UInt8)), c0 = .slice a n c ∧ Keys w a n c keys ∧ n ≤ maxLen ∧ ∀ x ∈ keys, x.length ≤ maxLen := by
  rcases Go.Deep.open_slice1 Try.underlying74 cells35 h with ⟨hcs, -⟩ | ⟨a, len, cap, m, n, V, D, Pl, hcs, -, hl, hm, hmm, -, hx⟩
  · simp only [List.cons.injEq, and_true] at hcs
    exact ⟨none, 0, 0, [], hcs, ⟨.inl rfl, rfl, fun _ => ⟨rfl, rfl⟩⟩, Nat.zero_le _, by simp⟩
  · simp only [List.cons.injEq, and_true] at hcs
    have hlm : len ≤ m := by rw [hmm]; split <;> omega
    have each : ∀ i, i < len → ∃ (y : Option Addr × Nat × Nat × List UInt8), V i = .slice y.1 y.2.1 y.2.2.1 ∧ Bs w y.1 y.2.1 y.2.2.1 y.2.2.2 ∧ y.2.1 ≤ maxLen := fun i hi => by
      obtain ⟨a', n', c', bs, e, hb, hn⟩ := openBytes (hx i (by omega)).2
      exact ⟨(a', n', c', bs), e, hb, hn⟩
    obtain ⟨Y, hY⟩ := Go.Deep.choose_lt each
    refine ⟨some a, len, cap, (List.range len).map (fun i => (Y i).2.2.2), hcs, ⟨?_, by simp, by intro h; cases h⟩, Nat.le_trans hl hm, ?_⟩
    · by_cases h0 : len = 0
      · subst h0; exact .inl (by simp)
      · obtain ⟨b, off, spot⟩ := a
        have hspot : spot = none := by simpa [Addr.add] using World.cell?_spot (hx 0 (by omega)).1
        subst hspot
        refine .inr ⟨b, off, rfl, fun j hj => ?_⟩
        have hj' : j < len := by simpa using hj
        have hcj := (hx j (by omega)).1
        rw [Addr.add_lit, (hY j hj').1] at hcj
        refine ⟨_, _, _, hcj, ?_⟩
        simp only [List.getElem_map, List.getElem_range]
        exact (hY j hj').2.1
    · intro z hz
      obtain ⟨i, hi, rfl⟩ := List.mem_map.1 hz
      have hi' : i < len := List.mem_range.1 hi
      rw [(hY i hi').2.1.len]
      exact (hY i hi').2.2

/-- A mark's mirror. -/
theorem openTx {fuel : Nat} {c0 c1 c2 c3 c4 c5 c6 c7 c8 c9 : Value} {x : DataW H × List MemPlace} (h : DataW.trod enc Try.prog w 0 sp true fuel 76 [c0, c1, c2, c3, c4, c5, c6, c7, c8, c9] = some x) :
    ∃ (t : Tx) (ka : Option Addr) (kn kc : Nat) (va : Option Addr) (vn vc : Nat), c0 = .int .u64 t.id.slot ∧ c1 = .int .u64 t.id.br ∧ c2 = .string t.id.bn ∧ c3 = .slice ka kn kc ∧ c4 = .bool t.com ∧ c5 = .bool t.del ∧ c6 = .slice va vn vc ∧ c7 = .int .u64 t.ver.slot ∧ c8 = .int .u64 t.ver.br ∧ c9 = .string t.ver.bn ∧ Keys w ka kn kc t.keys ∧ Bs w va vn vc t.val ∧ t.Len ∧ t.Num := by
  obtain ⟨xs, n, -, -, -, hlen, hf⟩ := DataW.trod_struct Try.underlying76 h
  have f0 : DataW.trod enc Try.prog w 0 sp true n 51 (([c0, c1, c2, c3, c4, c5, c6, c7, c8, c9].drop 0).take (Try.prog.cellsOf 51)) = xs[0]? := hf 0 _ rfl
  obtain ⟨y0, g0⟩ := get_some f0 hlen (by decide)
  have f1 : DataW.trod enc Try.prog w 0 sp true n 74 (([c0, c1, c2, c3, c4, c5, c6, c7, c8, c9].drop 3).take (Try.prog.cellsOf 74)) = xs[1]? := hf 1 _ rfl
  obtain ⟨y1, g1⟩ := get_some f1 hlen (by decide)
  have f2 : DataW.trod enc Try.prog w 0 sp true n 4 (([c0, c1, c2, c3, c4, c5, c6, c7, c8, c9].drop 4).take (Try.prog.cellsOf 4)) = xs[2]? := hf 2 _ rfl
  obtain ⟨y2, g2⟩ := get_some f2 hlen (by decide)
  have f3 : DataW.trod enc Try.prog w 0 sp true n 4 (([c0, c1, c2, c3, c4, c5, c6, c7, c8, c9].drop 5).take (Try.prog.cellsOf 4)) = xs[3]? := hf 3 _ rfl
  obtain ⟨y3, g3⟩ := get_some f3 hlen (by decide)
  have f4 : DataW.trod enc Try.prog w 0 sp true n 35 (([c0, c1, c2, c3, c4, c5, c6, c7, c8, c9].drop 6).take (Try.prog.cellsOf 35)) = xs[4]? := hf 4 _ rfl
  obtain ⟨y4, g4⟩ := get_some f4 hlen (by decide)
  have f5 : DataW.trod enc Try.prog w 0 sp true n 51 (([c0, c1, c2, c3, c4, c5, c6, c7, c8, c9].drop 7).take (Try.prog.cellsOf 51)) = xs[5]? := hf 5 _ rfl
  obtain ⟨y5, g5⟩ := get_some f5 hlen (by decide)
  simp only [cells51, cells74, cells4, cells35, List.drop_zero, List.drop_succ_cons, List.take_succ_cons, List.take_zero] at g0 g1 g2 g3 g4 g5
  obtain ⟨v0, a0, a1, a2, o0, l0⟩ := openVer g0
  obtain ⟨ka, kn, kc, keys, a3, hk, hkn, hke⟩ := openKeys g1
  obtain ⟨b4, a4, -⟩ := DataW.trod_bool Try.underlying4 g2
  obtain ⟨b5, a5, -⟩ := DataW.trod_bool Try.underlying4 g3
  obtain ⟨va, vn, vc, bs, a6, hv, hvn⟩ := openBytes g4
  obtain ⟨v1, a7, a8, a9, o1, l1⟩ := openVer g5
  simp only [List.cons.injEq, and_true] at a4 a5
  exact ⟨⟨v0, keys, b4, b5, bs, v1⟩, ka, kn, kc, va, vn, vc, a0, a1, a2, a3, a4, a5, a6, a7, a8, a9, hk, hv, ⟨l0, l1, by show bs.length ≤ _; rw [hv.len]; exact hvn, by show keys.length ≤ _; rw [hk.len]; exact hkn, hke⟩, ⟨o0, o1⟩⟩

/-- A pointer to a mark's mirror. -/
theorem openTxn {fuel : Nat} {c0 : Value} {x : DataW H × List MemPlace} (h : DataW.trod enc Try.prog w 0 sp true fuel 52 [c0] = some x) :
    ∃ (tp : Option Addr) (T : Option Tx), c0 = .pointer tp ∧ TxnAt w tp T ∧ ∀ t, T = some t → t.Len ∧ t.Num := by
  rcases DataW.trod_pointer Try.underlying52 h with ⟨hcs, -⟩ | ⟨a, cs', y, m, -, hcs, -, hcells, hy⟩
  · simp only [List.cons.injEq, and_true] at hcs
    exact ⟨none, none, hcs, rfl, fun t ht => by cases ht⟩
  · simp only [List.cons.injEq, and_true] at hcs
    obtain ⟨-, hlen, hcell⟩ := World.cells?_some hcells
    rw [cells76] at hlen hcell
    obtain ⟨c0', c1, c2, c3, c4, c5, c6, c7, c8, c9, rfl⟩ := list10 hlen
    obtain ⟨t, ka, kn, kc, va, vn, vc, rfl, rfl, rfl, rfl, rfl, rfl, rfl, rfl, rfl, rfl, hk, hv, tl, tn⟩ := openTx hy
    obtain ⟨b, o, spot⟩ := a
    have hspot : spot = none := by simpa [Addr.add] using World.cell?_spot (hcell 0 (by omega))
    subst hspot
    have d0 := hcell 0 (by omega)
    have d1 := hcell 1 (by omega)
    have d2 := hcell 2 (by omega)
    have d3 := hcell 3 (by omega)
    have d4 := hcell 4 (by omega)
    have d5 := hcell 5 (by omega)
    have d6 := hcell 6 (by omega)
    have d7 := hcell 7 (by omega)
    have d8 := hcell 8 (by omega)
    have d9 := hcell 9 (by omega)
    rw [Addr.add_lit] at d0 d1 d2 d3 d4 d5 d6 d7 d8 d9
    exact ⟨some ⟨b, o, none⟩, some t, hcs, ⟨b, o, ka, kn, kc, va, vn, vc, rfl, ⟨⟨d0, d1, d2⟩, d3, hk, d4, d5, d6, hv, ⟨d7, d8, d9⟩⟩⟩, fun t' ht => by cases ht; exact ⟨tl, tn⟩⟩

/-- A record's mirror, opened. -/
theorem openR {fuel : Nat} {cs : Array Value} {x : DataW H × List MemPlace} (hsz : cs.size = 12) (h : DataW.trod enc Try.prog w 0 sp true fuel 58 cs.toList = some x) :
    ∃ (r : Rec) (va : Option Addr) (vn vc : Nat) (tp : Option Addr), .agg cs = recVal r va vn vc tp ∧ RecMem w r va vn vc tp ∧ r.Len ∧ r.Num := by
  obtain ⟨c0, c1, c2, c3, c4, c5, c6, c7, c8, c9, c10, c11, rfl⟩ := array12 hsz
  obtain ⟨xs, n, -, -, -, hlen, hf⟩ := DataW.trod_struct Try.underlying58 h
  have f0 : DataW.trod enc Try.prog w 0 sp true n 24 (([c0, c1, c2, c3, c4, c5, c6, c7, c8, c9, c10, c11].drop 0).take (Try.prog.cellsOf 24)) = xs[0]? := hf 0 _ rfl
  obtain ⟨y0, g0⟩ := get_some f0 hlen (by decide)
  have f1 : DataW.trod enc Try.prog w 0 sp true n 56 (([c0, c1, c2, c3, c4, c5, c6, c7, c8, c9, c10, c11].drop 2).take (Try.prog.cellsOf 56)) = xs[1]? := hf 1 _ rfl
  obtain ⟨y1, g1⟩ := get_some f1 hlen (by decide)
  simp only [cells24, cells56, List.drop_zero, List.drop_succ_cons, List.take_succ_cons, List.take_zero] at g0 g1
  obtain ⟨xs2, n2, -, -, -, hlen2, hf2⟩ := DataW.trod_struct Try.underlying56 g1
  have f2 : DataW.trod enc Try.prog w 0 sp true n2 22 (([c2, c3, c4, c5, c6, c7, c8, c9, c10, c11].drop 0).take (Try.prog.cellsOf 22)) = xs2[0]? := hf2 0 _ rfl
  obtain ⟨y2, g2⟩ := get_some f2 hlen2 (by decide)
  have f3 : DataW.trod enc Try.prog w 0 sp true n2 24 (([c2, c3, c4, c5, c6, c7, c8, c9, c10, c11].drop 1).take (Try.prog.cellsOf 24)) = xs2[1]? := hf2 1 _ rfl
  obtain ⟨y3, g3⟩ := get_some f3 hlen2 (by decide)
  have f4 : DataW.trod enc Try.prog w 0 sp true n2 54 (([c2, c3, c4, c5, c6, c7, c8, c9, c10, c11].drop 3).take (Try.prog.cellsOf 54)) = xs2[2]? := hf2 2 _ rfl
  obtain ⟨y4, g4⟩ := get_some f4 hlen2 (by decide)
  simp only [cells22, cells24, cells54, List.drop_zero, List.drop_succ_cons, List.take_succ_cons, List.take_zero] at g2 g3 g4
  obtain ⟨xs3, n3, -, -, -, hlen3, hf3⟩ := DataW.trod_struct Try.underlying54 g4
  have f5 : DataW.trod enc Try.prog w 0 sp true n3 9 (([c5, c6, c7, c8, c9, c10, c11].drop 0).take (Try.prog.cellsOf 9)) = xs3[0]? := hf3 0 _ rfl
  obtain ⟨y5, g5⟩ := get_some f5 hlen3 (by decide)
  have f6 : DataW.trod enc Try.prog w 0 sp true n3 4 (([c5, c6, c7, c8, c9, c10, c11].drop 1).take (Try.prog.cellsOf 4)) = xs3[1]? := hf3 1 _ rfl
  obtain ⟨y6, g6⟩ := get_some f6 hlen3 (by decide)
  have f7 : DataW.trod enc Try.prog w 0 sp true n3 35 (([c5, c6, c7, c8, c9, c10, c11].drop 2).take (Try.prog.cellsOf 35)) = xs3[2]? := hf3 2 _ rfl
  obtain ⟨y7, g7⟩ := get_some f7 hlen3 (by decide)
  have f8 : DataW.trod enc Try.prog w 0 sp true n3 51 (([c5, c6, c7, c8, c9, c10, c11].drop 3).take (Try.prog.cellsOf 51)) = xs3[3]? := hf3 3 _ rfl
  obtain ⟨y8, g8⟩ := get_some f8 hlen3 (by decide)
  have f9 : DataW.trod enc Try.prog w 0 sp true n3 52 (([c5, c6, c7, c8, c9, c10, c11].drop 6).take (Try.prog.cellsOf 52)) = xs3[4]? := hf3 4 _ rfl
  obtain ⟨y9, g9⟩ := get_some f9 hlen3 (by decide)
  simp only [cells9, cells4, cells35, cells51, cells52, List.drop_zero, List.drop_succ_cons, List.take_succ_cons, List.take_zero] at g5 g6 g7 g8 g9
  obtain ⟨pr, pn, a0, a1, b0, b1⟩ := openBallot g0
  obtain ⟨slot, a2, -, b2⟩ := DataW.trod_int Try.underlying22 g2
  obtain ⟨br, bn, a3, a4, b3, b4⟩ := openBallot g3
  obtain ⟨ld, a5, -, b5⟩ := DataW.trod_string Try.underlying9 g5
  obtain ⟨dl, a6, -⟩ := DataW.trod_bool Try.underlying4 g6
  obtain ⟨va, vn, vc, bs, a7, b7, b7'⟩ := openBytes g7
  obtain ⟨v, a8, a9, a10, b8, b8'⟩ := openVer g8
  obtain ⟨tp, T, a11, b11, b11'⟩ := openTxn g9
  simp only [List.cons.injEq, and_true] at a2 a5 a6
  have hb := bounds_u64 b2
  obtain ⟨slot, rfl⟩ := Int.eq_ofNat_of_zero_le hb.1
  refine ⟨⟨pr, pn, slot, br, bn, ld, dl, bs, v, T⟩, va, vn, vc, tp, by rw [a0, a1, a2, a3, a4, a5, a6, a7, a8, a9, a10, a11]; rfl, ⟨b7, b11⟩, ⟨b1, b4, b5, by show bs.length ≤ _; rw [b7.len]; exact b7', b8', fun t ht => (b11' t ht).1⟩, ⟨b0, by show slot < _; omega, b3, b8, fun t ht => (b11' t ht).2⟩⟩
end

end Go.Proofs.Qxb6613770a
