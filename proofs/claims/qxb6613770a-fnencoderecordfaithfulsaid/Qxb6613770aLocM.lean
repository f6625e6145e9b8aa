import Derived.Test.Qxb6613770aLocW
namespace Go.Proofs.Qxb6613770a
set_option linter.unusedVariables false
set_option linter.unusedSimpArgs false
open Go.RowKit

theorem met_walkL (a : Addr) (w : World) : (method 253 91 (.pointer (some a)) (nameAt Try.f42 0)).run Try.prog w = .ok (88, .pointer (some a)) w := by kernel_rfl

/-- What an encoding leaves: the bytes in a new row, the durations normed. -/
structure Encoded (w : World) (av : Value) (w' : World) (v' : Value) (bs : List UInt8) (zs : List Int) : Prop where
  own : w'.ownsRow 0 5 1 v' bs.length (Lib.byteCells bs)
  row : ∀ k, v'.ownBlock = some k → w.heap.size ≤ k
  kept : Kept (fun k => av.ownBlock = some k) w w'
  ans : w'.ownsRow 0 47 1 av zs.length (zs.map (Value.int .i64))

set_option maxHeartbeats 4000000 in
set_option maxRecDepth 100000 in
/-- encode, of a Located. -/
theorem encodeL_any (mb : Nat) (l : Loc) (hl : l.Ok) (n c : Nat) (aa : Option Addr) (hn : l.ans.length = n) (w : World) (hm : LocAt w mb l (.slice aa n c)) (ho : w.ownsRow 0 47 1 (.slice aa n c) l.ans.length (l.ans.map (Value.int .i64))) (h2 : (Value.slice aa n c).ownBlock ≠ some mb) :
    Calls Try.prog 42 #[.iface 91 (.pointer (some ⟨mb, 0, none⟩))] w fun e w' => ∃ v', e = .returned v' ∧ Encoded w (.slice aa n c) w' v' l.enc (l.ans.map normDur) := by
  have n1 := met_walkL ⟨mb, 0, none⟩
  conv at n1 in (nameAt _ _) => whnf
  have hmb := hm.lt
  have HN : Hid (l.ans.length = n) := hn
  clear hn
  have hav : ∀ k, (Value.slice aa n c).ownBlock = some k → k < (w.alloc (.cells #[.slice none 0 0] 102)).heap.size ∧ k ≠ w.heap.size := by
    intro k hk
    have := (ho.lt k hk).2
    simp; omega
  have hs : St (w.alloc (.cells #[.slice none 0 0] 102)) w.heap.size (.slice aa n c) (w.alloc (.cells #[.slice none 0 0] 102)) (.slice none 0 0) [] l.ans :=
    ⟨enc_new (World.ownsRow_nil w 0 5 1) rfl, by intro k hk; simp [Value.ownBlock] at hk, Kept.refl _ _, ho.alloc _⟩
  have hma : LocAt (w.alloc (.cells #[.slice none 0 0] 102)) mb l (.slice aa n c) := hm.kept ((Kept.refl (fun _ => False) w).alloc _) (fun h => h)
  go_enter Try.func42, Try.ntmps42
  go_wp2_with fail
  refine (locw_any w.heap.size mb l hl (.slice aa n c) n c aa rfl HN.out _ hs hma (by omega) h2 hav).mono ?_
  rintro e w1 ⟨rfl, sv1, s1⟩
  have hc := s1.enc.cell
  obtain ⟨a1, k1, rfl⟩ := owns_slice s1.enc.own
  go_wp2
  go_ret
  refine ⟨_, rfl, s1.enc.own, ?_, ?_, s1.own⟩
  · intro k hk
    have := s1.row k hk
    simp at this; omega
  · exact ((Kept.refl (fun k => (Value.slice aa n c).ownBlock = some k) w).alloc _).trans s1.kept (fun i hi e => by
      rcases e with e | e
      · omega
      · exact e)

set_option maxHeartbeats 4000000 in
set_option maxRecDepth 100000 in
/-- Located.MarshalBinary. -/
theorem marshal_any (l : Loc) (hl : l.Ok) (n c : Nat) (aa : Option Addr) (hn : l.ans.length = n) (w : World) (ho : w.ownsRow 0 47 1 (.slice aa n c) l.ans.length (l.ans.map (Value.int .i64))) :
    Calls Try.prog 12 #[.agg #[.int .u64 l.slot, .int .u64 l.br, .string l.bn, .string l.leader, .int .u64 l.pr, .string l.pn, .bool l.leased, .bool l.cutoff, .slice aa n c]] w fun e w' =>
      ∃ v', e = .returned (.tuple #[v', .nilIface]) ∧ Encoded w (.slice aa n c) w' v' l.enc (l.ans.map normDur) := by
  go_enter Try.func12, Try.ntmps12
  go_wp2_with fail
  have ha := ho.alloc (.cells #[.int .u64 l.slot, .int .u64 l.br, .string l.bn, .string l.leader, .int .u64 l.pr, .string l.pn, .bool l.leased, .bool l.cutoff, .slice aa n c] 33)
  refine (encodeL_any w.heap.size l hl n c aa hn _ ⟨by simp [go_sem], by simp [go_sem], by simp [go_sem], by simp [go_sem], by simp [go_sem], by simp [go_sem], by simp [go_sem], by simp [go_sem], by simp [go_sem]⟩ ha (fun e => by have := (ho.lt _ e).2; omega)).mono ?_
  rintro e w1 ⟨v1, rfl, q⟩
  obtain ⟨a1, k1, rfl⟩ := owns_slice q.own
  go_wp2
  go_ret2
  refine ⟨_, rfl, q.own, ?_, ?_, q.ans⟩
  · intro k hk
    have := q.row k hk
    simp at this; omega
  · exact ((Kept.refl (fun k => (Value.slice aa n c).ownBlock = some k) w).alloc _).trans q.kept (fun i hi e => e)

end Go.Proofs.Qxb6613770a
