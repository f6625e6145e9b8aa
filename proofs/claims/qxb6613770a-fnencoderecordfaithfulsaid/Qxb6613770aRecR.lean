import Derived.Test.Qxb6613770aRecS
import Derived.Test.Qxb6613770aWant
namespace Go.Proofs.Qxb6613770a
set_option linter.unusedVariables false
set_option linter.unusedSimpArgs false
open Go.RowKit

theorem Ext.kept {w0 w w' : World} {rb : Nat} (h : Ext w0 w) (hrb : w0.heap.size ≤ rb) (hk : Kept (fun k => k = rb) w w') : Ext w0 w' :=
  fun p v e => hk.cell' (h p v e) (by have := World.block_lt_of_cell? w0 _ e; omega)

theorem lst_byte {w : World} {b n c rb i j : Nat} {bs rest xs : List UInt8} (h : Rd w rb b n c i bs (xs ++ rest)) (hj : j < xs.length) : w.cell? ⟨b, i + j, none⟩ = some (.int .u8 (xs[j].toNat : Int)) := by
  have hl := h.len
  have hd := congrArg List.length h.drop
  rw [List.length_drop, List.length_append] at hd
  have hij : i + j < bs.length := by omega
  rcases h.bytes with hb | ⟨b', o, e, g⟩
  · rw [hb] at hij; simp at hij
  · simp at e
    obtain ⟨rfl, rfl⟩ := e
    have := g (i + j) hij
    rw [Nat.zero_add] at this
    rw [this]
    have e2 : bs[i + j] = xs[j] := by
      have h1 : (bs.drop i)[j]? = some bs[i + j] := by rw [List.getElem?_drop, List.getElem?_eq_getElem hij]
      rw [h.drop, List.getElem?_append_left hj, List.getElem?_eq_getElem hj] at h1
      exact (Option.some.inj h1).symm
    rw [e2]

set_option maxHeartbeats 4000000 in
set_option maxRecDepth 100000 in
/-- wantBytes. -/
theorem wantBytes_any (w0 : World) (rb b n c i : Nat) (a : Option Addr) (m c' : Nat) (xs : List UInt8) (hm : m ≤ 1048576) (bs rest : List UInt8) (w : World) (hx : Ext w0 w) (hrb : w0.heap.size ≤ rb) (hb : Bs w0 a m c' xs) (h : Rd w rb b n c i bs (encStr xs ++ rest)) :
    Calls Try.prog 27 #[.pointer (some ⟨rb, 0, none⟩), .slice a m c'] w fun e w' => e = .returned (.tuple #[]) ∧ ∃ i', Rd w' rb b n c i' bs rest ∧ Kept (fun k => k = rb) w w' := by
  obtain ⟨c0, c1, c2, fz⟩ := h.rd.cells
  have hxm := hb.len
  have hd1 : bs.drop i = Lib.uvarint m ++ (xs ++ rest) := by
    rw [h.drop]; unfold encStr; rw [hxm, List.append_assoc]
  have hu : Rd w rb b n c i bs (Lib.uvarint m ++ (xs ++ rest)) := ⟨h.rd, h.bytes, h.ne, h.len, h.max, h.le, hd1⟩
  have HU : Hid (bs.drop i = Lib.uvarint m ++ (xs ++ rest)) := hd1
  have HXM : Hid (xs.length = m) := hxm
  have HB : Hid (Bs w0 a m c' xs) := hb
  have hs' : (m : Int) ≤ 1048576 := by omega
  have hmax := h.max
  unfold maxLen at hmax
  clear hd1 hxm hb
  go_enter Try.func27, Try.ntmps27
  go_wp2_with fail
  refine (uv_any rb b 0 n c i m bs (xs ++ rest) _ h.rd h.bytes h.ne h.len h.max (by omega) HU.out).mono ?_
  rintro e w1 ⟨rfl, hr, hk⟩
  have h1 := hu.step rfl hr hk
  have hx1 := hx.kept hrb hk
  generalize hi1 : i + (Lib.uvarint m).length = i1 at *
  obtain ⟨d0, d1, d2, fz1⟩ := h1.rd.cells
  have hin : i1 + m ≤ n := by
    have := congrArg List.length h1.drop
    rw [List.length_drop, h1.len, List.length_append, HXM.out] at this
    have := h1.le
    omega
  have g1 : ((m : Int) != (m : Int)) = false := by simp
  have g2 : decide ((n : Int) - (i1 : Int) < (m : Int)) = false := decide_eq_false (by omega)
  have g3 : ¬ ((n : Int) - (i1 : Int) < (m : Int)) := by omega
  have hi1' : (i1 : Int) ≤ (n : Int) := by omega
  have hn' : (n : Int) ≤ 9223372036854775807 := by omega
  clear hi1 c0 c1 c2 fz hr
  go_wp2
  go_quiet (fail)
  go_wp2
  go_loopw [5] (fun v5 wr => ∃ k : Nat, v5 = .int .i64 k ∧ k ≤ m ∧ Same w1 wr) (fun v5 _ => m - (intOf v5).toNat)
  case atStart => exact ⟨0, rfl, Nat.zero_le _, Same.ofDraws ⟨nq, rfl⟩⟩
  case round =>
    obtain ⟨k, rfl, hk5, hsm⟩ := hrel
    have e0 : wr.cell? ⟨rb, 0, none⟩ = some (.slice (some ⟨b, 0, none⟩) n c) := by rw [hsm.cell]; exact d0
    have e1 : wr.cell? ⟨rb, 1, none⟩ = some (.int .i64 (i1 : Int)) := by rw [hsm.cell]; exact d1
    have ef : ∀ o, wr.frozen? ⟨rb, o, none⟩ = false := fun o => by rw [hsm.frozen]; exact fz1 o
    by_cases hlt : k < m
    · have hkx : k < xs.length := by rw [HXM.out]; exact hlt
      have e3 : wr.cell? ⟨b, i1 + k, none⟩ = some (.int .u8 (xs[k].toNat : Int)) := by rw [hsm.cell]; exact lst_byte h1 hkx
      rcases (HB.out.at_.ext (hx1.trans hsm.ext)) with hb0 | ⟨sb, so, rfl, g⟩
      · rw [hb0] at hkx; simp at hkx
      have e4 := g k hkx
      have hlt' : (k : Int) < (m : Int) := by omega
      have hik : (i1 : Int) + (k : Int) < (n : Int) := by omega
      have g4 : ((xs[k].toNat : Int) != (xs[k].toNat : Int)) = false := by simp
      clear g
      go_wp2
      go_quiet (fail)
      go_wp2
      go_roundw
      case rel => exact ⟨k + 1, by go_num, by omega, hsm.trans (Same.ofDraws ⟨_, rfl⟩)⟩
      case measure => simp [intOf]; omega
    · go_wp2
      go_end0
      have hke : k = m := by omega
      have hr2 : RdAt wr rb (.slice (some ⟨b, 0, none⟩) n c) i1 true := by unfold RdAt; rw [hsm.heap]; exact h1.rd
      have hk2 : Kept (fun k => k = rb) w1 (wr.setCell ⟨rb, 1, none⟩ (.int .i64 ((i1 : Int) + (m : Int)))) := (hsm.kept (S := fun k => k = rb)).setCell (p := ⟨rb, 1, none⟩) (fun _ => rfl) _
      exact ⟨rfl, _, h1.step HXM.out (hr2.setI' (i1 + m) _ (by omega)) hk2, hk.trans hk2 (fun _ _ e => e)⟩

set_option maxHeartbeats 2000000 in
set_option maxRecDepth 100000 in
/-- wantVersion. -/
theorem wantVersion_any (rb b n c i : Nat) (v : Ver) (hv : v.Ok) (hs : v.bn.size ≤ 1048576) (bs rest : List UInt8) (w : World) (h : Rd w rb b n c i bs (v.enc ++ rest)) :
    Calls Try.prog 28 #[.pointer (some ⟨rb, 0, none⟩), .agg #[.int .u64 v.slot, .int .u64 v.br, .string v.bn]] w fun e w' => e = .returned (.tuple #[]) ∧ ∃ i', Rd w' rb b n c i' bs rest ∧ Kept (fun k => k = rb) w w' := by
  have ha : Rd (w.alloc (.cells #[.int .u64 v.slot, .int .u64 v.br, .string v.bn] 51)) rb b n c i bs (Lib.uvarint v.slot ++ (encBallot v.br v.bn.data.toList ++ rest)) := by
    have := h.keep ((Kept.refl (fun _ => False) w).alloc (.cells #[.int .u64 v.slot, .int .u64 v.br, .string v.bn] 51)) (fun h => h) (fun h => h)
    exact ⟨this.rd, this.bytes, this.ne, this.len, this.max, this.le, by rw [this.drop]; unfold Ver.enc; rw [List.append_assoc]⟩
  have hrl := h.rd.lt
  go_enter Try.func28, Try.ntmps28
  go_wp2_with fail
  refine (wantUint_any rb b n c i v.slot hv.slot bs _ _ ha).mono ?_
  rintro e w1 ⟨rfl, i1, h1, hk1⟩
  have c1 : w1.cell? ⟨w.heap.size, 1, none⟩ = some (.int .u64 v.br) := hk1.cell' (by simp [go_sem]) (by simp; omega)
  have c2 : w1.cell? ⟨w.heap.size, 2, none⟩ = some (.string v.bn) := hk1.cell' (by simp [go_sem]) (by simp; omega)
  go_wp2_with fail
  refine (wantBallot_any rb b n c i1 v.br hv.br v.bn hs bs rest _ h1).mono ?_
  rintro e w2 ⟨rfl, i2, h2, hk2⟩
  go_wp2
  go_end0
  exact ⟨rfl, i2, h2, (((Kept.refl (fun k => k = rb) w).alloc _).trans hk1 (fun _ _ e => e)).trans hk2 (fun _ _ e => e)⟩

end Go.Proofs.Qxb6613770a
