import Derived.Test.Qxb6613770aRecN
namespace Go.Proofs.Qxb6613770a
set_option linter.unusedVariables false
set_option linter.unusedSimpArgs false
open Go.RowKit

/-- The cells of a record's value. -/
theorem recAt_box (w : World) (ty : TypeId) (r : Rec) (va : Option Addr) (vn vc : Nat) (tp : Option Addr) :
    RecAt (w.alloc (.cells #[.int .u64 r.pr, .string r.pn, .int .u64 r.slot, .int .u64 r.br, .string r.bn, .string r.leader, .bool r.del, .slice va vn vc, .int .u64 r.ver.slot, .int .u64 r.ver.br, .string r.ver.bn, .pointer tp] ty)) w.heap.size r va vn vc tp :=
  ⟨by simp [go_sem], by simp [go_sem], by simp [go_sem], by simp [go_sem], by simp [go_sem], by simp [go_sem], by simp [go_sem], by simp [go_sem], ⟨by simp [go_sem], by simp [go_sem], by simp [go_sem]⟩, by simp [go_sem]⟩

set_option maxHeartbeats 4000000 in
set_option maxRecDepth 100000 in
/-- encodeRecord. -/
theorem encodeR_any (w : World) (r : Rec) (hr : r.Ok) (va : Option Addr) (vn vc : Nat) (tp : Option Addr) (hq : RecMem w r va vn vc tp) :
    Calls Try.prog 47 #[recVal r va vn vc tp] w fun e w' => ∃ v', e = .returned v' ∧ w'.ownsRow 0 5 1 v' (4 :: r.enc).length (Lib.byteCells (4 :: r.enc)) ∧ (∀ k, v'.ownBlock = some k → w.heap.size ≤ k) ∧ Kept (fun _ => False) w w' := by
  have hm := recAt_box w 70 r va vn vc tp
  have hq0 := hq.ext ((Ext.refl w).alloc (.cells #[.int .u64 r.pr, .string r.pn, .int .u64 r.slot, .int .u64 r.br, .string r.bn, .string r.leader, .bool r.del, .slice va vn vc, .int .u64 r.ver.slot, .int .u64 r.ver.br, .string r.ver.bn, .pointer tp] 70))
  unfold recVal
  go_enter Try.func47, Try.ntmps47
  go_wp2_with fail
  generalize hB : Obj.cells #[.int .u64 r.pr, .string r.pn, .int .u64 r.slot, .int .u64 r.br, .string r.bn, .string r.leader, .bool r.del, .slice va vn vc, .int .u64 r.ver.slot, .int .u64 r.ver.br, .string r.ver.bn, .pointer tp] 70 = B at *
  have hz : ((w.alloc B).alloc (.cells #[.int .u8 4] 5)).heap.size = w.heap.size + 1 + 1 := by simp
  have hz1 : (w.alloc B).heap.size = w.heap.size + 1 := by simp
  have he := enc_new (w := (w.alloc B).alloc (.cells #[.int .u8 4] 5)) (sv := .slice (some ⟨w.heap.size + 1, 0, none⟩) 1 1) (bs := [4]) (n := 1) (owns_of_block (e := 5) (xs := Lib.byteCells [4]) (by have := heap_alloc_new (w.alloc B) (.cells #[.int .u8 4] 5); rw [hz1] at this; exact this) rfl (by decide)) rfl
  rw [hz] at he
  have hs : SR (w.alloc B) (((w.alloc B).alloc (.cells #[.int .u8 4] 5)).alloc (.cells #[.slice (some ⟨w.heap.size + 1, 0, none⟩) 1 1] 102)) (w.heap.size + 1 + 1) (.slice (some ⟨w.heap.size + 1, 0, none⟩) 1 1) [4] :=
    ⟨he, by rw [hz1]; omega, by intro k hk; simp [Value.ownBlock] at hk; rw [hz1]; omega, ((Kept.refl _ (w.alloc B)).alloc _).alloc _⟩
  refine (record_any (w.alloc B) _ _ _ r hr va vn vc tp _ [4] hs hm hq0 (by decide)).mono ?_
  rintro e w1 ⟨rfl, sv1, s1⟩
  have hc := s1.enc.cell
  obtain ⟨a1, k1, rfl⟩ := owns_slice s1.enc.own
  go_wp2
  go_ret
  refine ⟨_, rfl, s1.enc.own, fun k hk => ?_, ((Kept.refl _ w).alloc B).trans s1.kept (fun _ _ h => h)⟩
  have := s1.row k hk
  rw [hz1] at this; omega

set_option maxHeartbeats 4000000 in
set_option maxRecDepth 100000 in
/-- ZZencodeRecord. -/
theorem zencodeR_any (w : World) (r : Rec) (hr : r.Ok) (va : Option Addr) (vn vc : Nat) (tp : Option Addr) (hq : RecMem w r va vn vc tp) :
    Calls Try.prog 25 #[recVal r va vn vc tp] w fun e w' => ∃ v', e = .returned v' ∧ w'.ownsRow 0 5 1 v' (4 :: r.enc).length (Lib.byteCells (4 :: r.enc)) ∧ (∀ k, v'.ownBlock = some k → w.heap.size ≤ k) ∧ Kept (fun _ => False) w w' := by
  have hm := recAt_box w 70 r va vn vc tp
  unfold recVal
  go_enter Try.func25, Try.ntmps25
  go_wp2_with fail
  refine (encodeR_any _ r hr va vn vc tp (hq.ext ((Ext.refl w).alloc _))).mono ?_
  rintro e w1 ⟨v1, rfl, q1, q2, q3⟩
  obtain ⟨a1, k1, rfl⟩ := owns_slice q1
  go_wp2
  go_ret
  refine ⟨_, rfl, q1, fun k hk => ?_, ((Kept.refl _ w).alloc _).trans q3 (fun _ _ h => h)⟩
  have := q2 k hk
  simp at this; omega

end Go.Proofs.Qxb6613770a
