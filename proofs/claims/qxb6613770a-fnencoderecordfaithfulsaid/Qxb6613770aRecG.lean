import Derived.Test.Qxb6613770aRecE
import Derived.Test.Qxb6613770aLocG
namespace Go.Proofs.Qxb6613770a
set_option linter.unusedVariables false
set_option linter.unusedSimpArgs false
open Go.RowKit

/-- No length is beyond an int. -/
structure Tx.Len (t : Tx) : Prop where
  id : t.id.bn.size ≤ maxLen
  ver : t.ver.bn.size ≤ maxLen
  val : t.val.length ≤ maxLen
  keys : t.keys.length ≤ maxLen
  each : ∀ x ∈ t.keys, x.length ≤ maxLen
structure Rec.Len (r : Rec) : Prop where
  pn : r.pn.size ≤ maxLen
  bn : r.bn.size ≤ maxLen
  leader : r.leader.size ≤ maxLen
  val : r.val.length ≤ maxLen
  ver : r.ver.bn.size ≤ maxLen
  txn : ∀ t, r.txn = some t → t.Len

def Tx.size (t : Tx) : Nat := t.id.bn.size + t.ver.bn.size + t.val.length + t.keys.length + (t.keys.map List.length).sum
structure Rec.Small (r : Rec) : Prop where
  self : r.pn.size + r.bn.size + r.leader.size + r.val.length + r.ver.bn.size ≤ 1048576
  txn : ∀ t, r.txn = some t → t.size ≤ 1048576

def lens (ks : List (List UInt8)) (k : Nat) : Nat := ((ks.take k).map List.length).sum
theorem lens_zero (ks : List (List UInt8)) : lens ks 0 = 0 := by simp [lens]
theorem lens_succ (ks : List (List UInt8)) (k : Nat) (hk : k < ks.length) : lens ks (k + 1) = lens ks k + ks[k].length := by
  unfold lens
  rw [List.take_succ_eq_append_getElem hk, List.map_append, List.sum_append]; simp
theorem lens_all (ks : List (List UInt8)) : lens ks ks.length = (ks.map List.length).sum := by simp [lens]

/-- What zzBytes gives. -/
def Guard (P : Prop) (w : World) (e : Ending) (w' : World) : Prop := ∃ b, e = .returned (.bool b) ∧ (b = true → P) ∧ Kept (fun _ => False) w w'

set_option maxHeartbeats 8000000 in
set_option maxRecDepth 100000 in
/-- zzBytes of a record. -/
theorem bytesR_any (r : Rec) (hl : r.Len) (va : Option Addr) (vn vc : Nat) (tp : Option Addr) (w : World) (hq : RecMem w r va vn vc tp) :
    Calls Try.prog 23 #[recVal r va vn vc tp] w fun e w' => Guard r.Small w e w' := by
  have h1 := hl.pn
  have h2 := hl.bn
  have h3 := hl.leader
  have h4 := hl.val
  have h5 := hl.ver
  have hto := hl.txn
  have hvl := hq.val.len
  have HV : Hid (r.val.length = vn) := hvl
  rw [hvl] at h4
  have htx := hq.txn
  unfold maxLen at h1 h2 h3 h4 h5
  have HT : Hid (r.txn = r.txn) := rfl
  generalize hT : r.txn = T at htx hto
  have HTT : Hid (r.txn = T) := hT
  unfold recVal
  have hkB : Kept (fun _ => False) w (w.alloc (.cells #[.int .u64 r.pr, .string r.pn, .int .u64 r.slot, .int .u64 r.br, .string r.bn, .string r.leader, .bool r.del, .slice va vn vc, .int .u64 r.ver.slot, .int .u64 r.ver.br, .string r.ver.bn, .pointer tp] 58)) := (Kept.refl _ w).alloc _
  clear hT hvl HT
  cases T with
  | none =>
    have htp : tp = none := htx
    subst htp
    go_enter Try.func23, Try.ntmps23
    go_wp2
    all_goals
      go_ret
      refine ⟨_, rfl, ?_, hkB⟩
      first
        | (intro h; cases h; done)
        | (intro _
           refine ⟨by rw [HV.out]; omega, fun t ht => ?_⟩
           rw [HTT.out] at ht; cases ht)
  | some t =>
    obtain ⟨b, o, ka, kn, kc, wa, wn, wc, rfl, htm⟩ := htx
    have htl := hto t rfl
    have hkl := htm.keys.len
    have hwl := htm.val.len
    have g1 := htl.id
    have g2 := htl.ver
    have g3 := htl.val
    have g4 := htl.keys
    rw [hwl] at g3
    rw [hkl] at g4
    have HKL : Hid (t.keys.length = kn) := hkl
    have HWL : Hid (t.val.length = wn) := hwl
    have HEA : Hid (∀ x ∈ t.keys, x.length ≤ maxLen) := htl.each
    have HKA := htm.keys.at_
    unfold maxLen at g1 g2 g3 g4
    have hx : Ext w (w.alloc (.cells #[.int .u64 r.pr, .string r.pn, .int .u64 r.slot, .int .u64 r.br, .string r.bn, .string r.leader, .bool r.del, .slice va vn vc, .int .u64 r.ver.slot, .int .u64 r.ver.br, .string r.ver.bn, .pointer (some ⟨b, o, none⟩)] 58)) := hkB.ext0
    have t1 := hx _ _ htm.id.c2
    have t2 := hx _ _ htm.ck
    have t3 := hx _ _ htm.cv
    have t4 := hx _ _ htm.ver.c2
    have hkeys := (htm.keys.ext hx).at_
    have hbw : b < w.heap.size := World.block_lt_of_cell? w _ htm.ck
    have ca1 := htm.id.c2
    have ca2 := htm.ck
    have ca3 := htm.cv
    have ca4 := htm.ver.c2
    clear hkl hwl htl hto
    have HKS : Hid (t.keys = [] ∨ ∃ b off, ka = some ⟨b, off, none⟩ ∧ ∀ j (hj : j < t.keys.length), ∃ a' n' c', w.cell? ⟨b, off + j, none⟩ = some (.slice a' n' c') ∧ Bs w a' n' c' t.keys[j]) := HKA
    clear HKA hkeys
    go_enter Try.func23, Try.ntmps23
    go_wp2
    all_goals try (go_ret; exact ⟨_, rfl, (fun h => by cases h), hkB⟩)
    clear t1 t2 t3 t4 hx
    go_loopw [4, 3] (fun v4 v3 wr => ∃ (k : Nat) (z : Int), v4 = .int .i64 k ∧ v3 = .int .i64 z ∧ k ≤ kn ∧ z = ((r.pn.size + r.bn.size + r.leader.size + vn + r.ver.bn.size + t.id.bn.size + kn + lens t.keys k : Nat) : Int) ∧ z ≤ 1048576 ∧ Kept (fun _ => False) w wr ∧ wr.cell? ⟨w.heap.size, 11, none⟩ = some (.pointer (some ⟨b, o, none⟩))) (fun v4 _ _ => kn - (intOf v4).toNat)
    case atStart => exact ⟨0, _, rfl, rfl, Nat.zero_le _, by rw [lens_zero]; omega, by omega, hkB, by simp [go_sem]⟩
    case round =>
      obtain ⟨k, z, rfl, rfl, hkn, hz, hz1, hkr, hcp⟩ := hrel
      have x1 := hkr.cell' ca2 (fun h => h)
      have HZ : Hid (z = ((r.pn.size + r.bn.size + r.leader.size + vn + r.ver.bn.size + t.id.bn.size + kn + lens t.keys k : Nat) : Int)) := hz
      have hz0 : 0 ≤ z := by omega
      clear hz
      by_cases hlt : k < kn
      · have hlt' : (k : Int) < (kn : Int) := by omega
        have hkz : k < t.keys.length := by rw [HKL.out]; exact hlt
        rcases HKS.out with h0 | ⟨kb, ko, rfl, g⟩
        · rw [h0] at hkz; simp at hkz
        obtain ⟨a', n', c', y1, y2⟩ := g k hkz
        have y3 := hkr.cell' y1 (fun h => h)
        have y4 := y2.len
        have y5 := HEA.out _ (List.getElem_mem hkz)
        have hls := lens_succ t.keys k hkz
        rw [y4] at y5 hls
        unfold maxLen at y5
        have HLS : Hid (_ = _) := hls
        clear g y1 y2 y4 hls
        by_cases e1 : 1048576 < n'
        · have e1' : (1048576 : Int) < (n' : Int) := by omega
          go_wp2
          go_ret
          exact ⟨_, rfl, (fun h => by cases h), hkr⟩
        · have e1' : ¬ (1048576 : Int) < (n' : Int) := by omega
          by_cases e2 : (1048576 : Int) < z + (n' : Int)
          · go_wp2
            go_ret
            exact ⟨_, rfl, (fun h => by cases h), hkr⟩
          · go_wp2
            go_roundw
            case rel => exact ⟨k + 1, _, by go_num, rfl, by omega, by have hls := HLS.out; have hz := HZ.out; rw [hls]; omega, by omega, hkr, hcp⟩
            case measure => simp [intOf]; omega
      · have hkn' : k = kn := by omega
        subst hkn'
        have x2 := hkr.cell' ca3 (fun h => h)
        have x3 := hkr.cell' ca4 (fun h => h)
        go_wp2
        all_goals
          go_ret
          refine ⟨_, rfl, ?_, hkr⟩
          first
            | (intro h; cases h; done)
            | (intro _
               have hz := HZ.out
               have hla := lens_all t.keys
               rw [HKL.out] at hla
               refine ⟨by rw [HV.out]; omega, fun t' ht => ?_⟩
               rw [HTT.out] at ht
               simp only [Option.some.injEq] at ht
               subst ht
               unfold Tx.size
               rw [HKL.out, HWL.out, ← hla]
               omega)

end Go.Proofs.Qxb6613770a
