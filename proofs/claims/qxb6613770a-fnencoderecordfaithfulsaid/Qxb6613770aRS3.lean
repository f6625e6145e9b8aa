import Derived.Test.Qxb6613770aRS2
import Derived.Test.Qxb6613770aRG0
namespace Go.Proofs.Qxb6613770a
set_option linter.unusedVariables false
set_option linter.unusedSimpArgs false
open Go.RowKit

open Classical in
theorem tx_em (a b : Tx) : (a.id = b.id ∧ a.com = b.com ∧ a.del = b.del ∧ a.ver = b.ver) ∨ ¬ (a.id = b.id ∧ a.com = b.com ∧ a.del = b.del ∧ a.ver = b.ver) := em _

theorem Tx.ext' {a b : Tx} (h1 : a.id = b.id) (h2 : a.com = b.com) (h3 : a.del = b.del) (h4 : a.ver = b.ver) (h5 : a.val = b.val) (h6 : a.keys = b.keys) : a = b := by
  cases a; cases b; simp only at h1 h2 h3 h4 h5 h6; subst h1 h2 h3 h4 h5 h6; rfl

set_option maxHeartbeats 4000000 in
set_option maxRecDepth 100000 in
/-- zzSameTxn. -/
theorem sameTxn_any (T U : Option Tx) (hT : ∀ t, T = some t → t.Len) (hU : ∀ t, U = some t → t.Len) (p q : Option Addr) (w : World) (ha : TxnAt w p T) (hb : TxnAt w q U) :
    Calls Try.prog 51 #[.pointer p, .pointer q] w fun e w' => e = .returned (.bool (sameTx T U)) ∧ Same w w' := by
  cases T with
  | none =>
    obtain rfl : p = none := ha
    cases U with
    | none =>
      obtain rfl : q = none := hb
      rw [sameTx_self]
      go_enter Try.func51, Try.ntmps51
      go_wp2
      go_ret
      exact ⟨rfl, Same.refl _⟩
    | some u =>
      obtain ⟨b2, o2, la, ln, lc, ua, un, uc, rfl, hb⟩ := hb
      rw [sameTx_false (by intro e; cases e)]
      go_enter Try.func51, Try.ntmps51
      go_wp2
      go_ret
      exact ⟨rfl, Same.refl _⟩
  | some t =>
    obtain ⟨b1, o1, ka, kn, kc, va, vn, vc, rfl, ha⟩ := ha
    cases U with
    | none =>
      obtain rfl : q = none := hb
      rw [sameTx_false (by intro e; cases e)]
      go_enter Try.func51, Try.ntmps51
      go_wp2
      go_ret
      exact ⟨rfl, Same.refl _⟩
    | some u =>
      obtain ⟨b2, o2, la, ln, lc, ua, un, uc, rfl, hb⟩ := hb
      rcases tx_em t u with ⟨h1, h2, h3, h4⟩ | h
      · refine sameTxn_head t u h1 h2 h3 h4 (hT t rfl) (hU u rfl) (sameTx (some t) (some u)) (fun h5 h6 => ?_) (fun h => ?_) b1 o1 b2 o2 ka kn kc va vn vc la ln lc ua un uc w ha hb
        · rw [Tx.ext' h1 h2 h3 h4 h5 h6]; exact sameTx_self _
        · refine sameTx_false (fun e => ?_)
          simp only [Option.some.injEq] at e
          subst e
          rcases h with h | h <;> exact h rfl
      · rw [sameTx_false (by intro e; simp only [Option.some.injEq] at e; subst e; exact h ⟨rfl, rfl, rfl, rfl⟩)]
        exact sameTxn_diff t u h b1 o1 b2 o2 ka kn kc va vn vc la ln lc ua un uc w ha hb

theorem Rec.ext' {a b : Rec} (h1 : a.pr = b.pr) (h2 : a.pn = b.pn) (h3 : a.slot = b.slot) (h4 : a.br = b.br) (h5 : a.bn = b.bn) (h6 : a.leader = b.leader) (h7 : a.del = b.del) (h8 : a.val = b.val) (h9 : a.ver = b.ver) (h10 : a.txn = b.txn) : a = b := by
  cases a; cases b; simp only at h1 h2 h3 h4 h5 h6 h7 h8 h9 h10; subst h1 h2 h3 h4 h5 h6 h7 h8 h9 h10; rfl

/-- The parts of two records ahead of their values differ: where first? -/
inductive RecDiff (a b : Rec) : Prop where
  | pr (h : ¬ (a.pr : Int) = (b.pr : Int))
  | pn (h1 : a.pr = b.pr) (h : ¬ a.pn.toList = b.pn.toList)
  | slot (h1 : a.pr = b.pr) (h2 : a.pn = b.pn) (h : ¬ (a.slot : Int) = (b.slot : Int))
  | br (h1 : a.pr = b.pr) (h2 : a.pn = b.pn) (h3 : a.slot = b.slot) (h : ¬ (a.br : Int) = (b.br : Int))
  | bn (h1 : a.pr = b.pr) (h2 : a.pn = b.pn) (h3 : a.slot = b.slot) (h4 : a.br = b.br) (h : ¬ a.bn.toList = b.bn.toList)
  | leader (h1 : a.pr = b.pr) (h2 : a.pn = b.pn) (h3 : a.slot = b.slot) (h4 : a.br = b.br) (h5 : a.bn = b.bn) (h : ¬ a.leader.toList = b.leader.toList)
  | del (h1 : a.pr = b.pr) (h2 : a.pn = b.pn) (h3 : a.slot = b.slot) (h4 : a.br = b.br) (h5 : a.bn = b.bn) (h6 : a.leader = b.leader) (h : (a.del == b.del) = false)
  | rest (h1 : a.pr = b.pr) (h2 : a.pn = b.pn) (h3 : a.slot = b.slot) (h4 : a.br = b.br) (h5 : a.bn = b.bn) (h6 : a.leader = b.leader) (h7 : a.del = b.del)

theorem rec_diff (a b : Rec) : RecDiff a b := by
  by_cases h1 : a.pr = b.pr
  · by_cases h2 : a.pn.toList = b.pn.toList
    · have h2 := toList_inj h2
      by_cases h3 : a.slot = b.slot
      · by_cases h4 : a.br = b.br
        · by_cases h5 : a.bn.toList = b.bn.toList
          · have h5 := toList_inj h5
            by_cases h6 : a.leader.toList = b.leader.toList
            · have h6 := toList_inj h6
              by_cases h7 : a.del = b.del
              · exact .rest h1 h2 h3 h4 h5 h6 h7
              · exact .del h1 h2 h3 h4 h5 h6 (bool_ne h7).2
            · exact .leader h1 h2 h3 h4 h5 h6
          · exact .bn h1 h2 h3 h4 h5
        · exact .br h1 h2 h3 (by omega)
      · exact .slot h1 h2 (by omega)
    · exact .pn h1 h2
  · exact .pr (by omega)

set_option maxHeartbeats 16000000 in
set_option maxRecDepth 100000 in
/-- zzSameRecord. -/
theorem sameR_any (a b : Rec) (hla : a.Len) (hlb : b.Len) (va : Option Addr) (vn vc : Nat) (tp : Option Addr) (ua : Option Addr) (un uc : Nat) (up : Option Addr) (w : World) (hqa : RecMem w a va vn vc tp) (hqb : RecMem w b ua un uc up) :
    Calls Try.prog 31 #[recVal a va vn vc tp, recVal b ua un uc up] w fun e w' => e = .returned (.bool (sameRec a b)) ∧ Kept (fun _ => False) w w' := by
  have HQa : Hid (RecMem w a va vn vc tp) := hqa
  have HQb : Hid (RecMem w b ua un uc up) := hqb
  have HLa : Hid a.Len := hla
  have HLb : Hid b.Len := hlb
  have M1 : Hid (vn ≤ maxLen) := by have := hla.val; rw [hqa.val.len] at this; exact this
  have M2 : Hid (un ≤ maxLen) := by have := hlb.val; rw [hqb.val.len] at this; exact this
  clear hla hlb hqa hqb
  obtain ⟨R, hR⟩ : ∃ R, sameRec a b = R := ⟨_, rfl⟩
  rw [hR]
  unfold recVal
  cases rec_diff a b with
  | pr h =>
    have HR : Hid (R = false) := by rw [← hR]; exact sameRec_false (fun e => h (by rw [e]))
    clear hR
    go_enter Try.func31, Try.ntmps31
    go_wp2
    go_ret
    exact ⟨ret_bool HR.out.symm, by (repeat (first | with_reducible assumption | with_reducible exact Kept.refl _ _ | with_reducible refine Kept.drew ?_ | with_reducible refine Kept.alloc ?_ _ | with_reducible refine Kept.trans ?_ (by with_reducible assumption) (fun _ _ h => h)))⟩
  | pn h1 h =>
    have HR : Hid (R = false) := by rw [← hR]; exact sameRec_false (fun e => h (by rw [e]))
    clear hR
    go_enter Try.func31, Try.ntmps31
    go_wp2
    go_ret
    exact ⟨ret_bool HR.out.symm, by (repeat (first | with_reducible assumption | with_reducible exact Kept.refl _ _ | with_reducible refine Kept.drew ?_ | with_reducible refine Kept.alloc ?_ _ | with_reducible refine Kept.trans ?_ (by with_reducible assumption) (fun _ _ h => h)))⟩
  | slot h1 h2 h =>
    have HR : Hid (R = false) := by rw [← hR]; exact sameRec_false (fun e => h (by rw [e]))
    clear hR
    go_enter Try.func31, Try.ntmps31
    go_wp2
    go_ret
    exact ⟨ret_bool HR.out.symm, by (repeat (first | with_reducible assumption | with_reducible exact Kept.refl _ _ | with_reducible refine Kept.drew ?_ | with_reducible refine Kept.alloc ?_ _ | with_reducible refine Kept.trans ?_ (by with_reducible assumption) (fun _ _ h => h)))⟩
  | br h1 h2 h3 h =>
    have HR : Hid (R = false) := by rw [← hR]; exact sameRec_false (fun e => h (by rw [e]))
    clear hR
    go_enter Try.func31, Try.ntmps31
    go_wp2
    go_ret
    exact ⟨ret_bool HR.out.symm, by (repeat (first | with_reducible assumption | with_reducible exact Kept.refl _ _ | with_reducible refine Kept.drew ?_ | with_reducible refine Kept.alloc ?_ _ | with_reducible refine Kept.trans ?_ (by with_reducible assumption) (fun _ _ h => h)))⟩
  | bn h1 h2 h3 h4 h =>
    have HR : Hid (R = false) := by rw [← hR]; exact sameRec_false (fun e => h (by rw [e]))
    clear hR
    go_enter Try.func31, Try.ntmps31
    go_wp2
    go_ret
    exact ⟨ret_bool HR.out.symm, by (repeat (first | with_reducible assumption | with_reducible exact Kept.refl _ _ | with_reducible refine Kept.drew ?_ | with_reducible refine Kept.alloc ?_ _ | with_reducible refine Kept.trans ?_ (by with_reducible assumption) (fun _ _ h => h)))⟩
  | leader h1 h2 h3 h4 h5 h =>
    have HR : Hid (R = false) := by rw [← hR]; exact sameRec_false (fun e => h (by rw [e]))
    clear hR
    go_enter Try.func31, Try.ntmps31
    go_wp2
    go_ret
    exact ⟨ret_bool HR.out.symm, by (repeat (first | with_reducible assumption | with_reducible exact Kept.refl _ _ | with_reducible refine Kept.drew ?_ | with_reducible refine Kept.alloc ?_ _ | with_reducible refine Kept.trans ?_ (by with_reducible assumption) (fun _ _ h => h)))⟩
  | del h1 h2 h3 h4 h5 h6 h =>
    have HR : Hid (R = false) := by rw [← hR]; exact sameRec_false (fun e => by rw [e] at h; simp at h)
    clear hR
    go_enter Try.func31, Try.ntmps31
    go_wp2
    go_ret
    exact ⟨ret_bool HR.out.symm, by (repeat (first | with_reducible assumption | with_reducible exact Kept.refl _ _ | with_reducible refine Kept.drew ?_ | with_reducible refine Kept.alloc ?_ _ | with_reducible refine Kept.trans ?_ (by with_reducible assumption) (fun _ _ h => h)))⟩
  | rest h1 h2 h3 h4 h5 h6 h7 =>
    by_cases hv : a.val = b.val
    · have g0 : (a.val == b.val) = true := by rw [hv]; simp
      by_cases hve : a.ver = b.ver
      · obtain ⟨e1, e2, e3⟩ := ver_same hve
        have HR : Hid (R = sameTx a.txn b.txn) := by
          show _ = _
          rw [← hR]
          cases hs : sameTx a.txn b.txn with
          | true =>
            have ht : a.txn = b.txn := by
              unfold sameTx at hs
              rw [beq_iff_eq] at hs
              exact (encTxn_pf (r := []) (s := []) (by rw [List.append_nil, List.append_nil]; exact hs)).1
            rw [Rec.ext' h1 h2 h3 h4 h5 h6 h7 hv hve ht]
            exact sameRec_self b
          | false =>
            refine sameRec_false (fun e => ?_)
            rw [e, sameTx_self] at hs
            cases hs
        clear hR hve hv
        go_enter Try.func31, Try.ntmps31
        go_wp2_with fail
        refine (same_any va ua vn un vc uc a.val b.val _ (HQa.out.val.ext (by refine Kept.ext0 (?_ : Kept (fun _ => False) w _); (repeat (first | with_reducible assumption | with_reducible exact Kept.refl _ _ | with_reducible refine Kept.drew ?_ | with_reducible refine Kept.alloc ?_ _ | with_reducible refine Kept.trans ?_ (by with_reducible assumption) (fun _ _ h => h))))).at_ (HQb.out.val.ext (by refine Kept.ext0 (?_ : Kept (fun _ => False) w _); (repeat (first | with_reducible assumption | with_reducible exact Kept.refl _ _ | with_reducible refine Kept.drew ?_ | with_reducible refine Kept.alloc ?_ _ | with_reducible refine Kept.trans ?_ (by with_reducible assumption) (fun _ _ h => h))))).at_ HQa.out.val.len HQb.out.val.len M1.out M2.out).mono ?_
        rintro e w1 ⟨rfl, k1⟩
        have x3 : w1.cell? ⟨w.heap.size + 1 + 1, 3, none⟩ = some (.int .u64 a.ver.slot) := by rw [k1.cell]; simp [go_sem, *]
        have x4 : w1.cell? ⟨w.heap.size + 1 + 1, 4, none⟩ = some (.int .u64 a.ver.br) := by rw [k1.cell]; simp [go_sem, *]
        have x5 : w1.cell? ⟨w.heap.size + 1 + 1, 5, none⟩ = some (.string a.ver.bn) := by rw [k1.cell]; simp [go_sem, *]
        have x6 : w1.cell? ⟨w.heap.size + 1 + 1, 6, none⟩ = some (.pointer tp) := by rw [k1.cell]; simp [go_sem, *]
        have y3 : w1.cell? ⟨w.heap.size + 1 + 1 + 1, 3, none⟩ = some (.int .u64 b.ver.slot) := by rw [k1.cell]; simp [go_sem, *]
        have y4 : w1.cell? ⟨w.heap.size + 1 + 1 + 1, 4, none⟩ = some (.int .u64 b.ver.br) := by rw [k1.cell]; simp [go_sem, *]
        have y5 : w1.cell? ⟨w.heap.size + 1 + 1 + 1, 5, none⟩ = some (.string b.ver.bn) := by rw [k1.cell]; simp [go_sem, *]
        have y6 : w1.cell? ⟨w.heap.size + 1 + 1 + 1, 6, none⟩ = some (.pointer up) := by rw [k1.cell]; simp [go_sem, *]
        have K1 : Kept (fun _ => False) w w1 := by refine Kept.trans ?_ (k1.kept (S := fun _ => False)) (fun _ _ h => h); (repeat (first | with_reducible assumption | with_reducible exact Kept.refl _ _ | with_reducible refine Kept.drew ?_ | with_reducible refine Kept.alloc ?_ _ | with_reducible refine Kept.trans ?_ (by with_reducible assumption) (fun _ _ h => h)))
        clear k1
        go_wp2_with fail
        refine (sameTxn_any a.txn b.txn HLa.out.txn HLb.out.txn tp up _ (HQa.out.txn.ext K1.ext0) (HQb.out.txn.ext K1.ext0)).mono ?_
        rintro e w2 ⟨rfl, k2⟩
        rw [← HR.out]
        go_wp2
        go_ret
        exact ⟨rfl, K1.trans (k2.kept (S := fun _ => False)) (fun _ _ h => h)⟩
      · have HR : Hid (R = false) := by rw [← hR]; exact sameRec_false (fun e => hve (by rw [e]))
        clear hR hv
        rcases Ver.ne_cases hve with e1 | ⟨e1, e2⟩ | ⟨e1, e2, e3⟩
        all_goals
          clear hve
          go_enter Try.func31, Try.ntmps31
          go_wp2_with fail
          refine (same_any va ua vn un vc uc a.val b.val _ (HQa.out.val.ext (by refine Kept.ext0 (?_ : Kept (fun _ => False) w _); (repeat (first | with_reducible assumption | with_reducible exact Kept.refl _ _ | with_reducible refine Kept.drew ?_ | with_reducible refine Kept.alloc ?_ _ | with_reducible refine Kept.trans ?_ (by with_reducible assumption) (fun _ _ h => h))))).at_ (HQb.out.val.ext (by refine Kept.ext0 (?_ : Kept (fun _ => False) w _); (repeat (first | with_reducible assumption | with_reducible exact Kept.refl _ _ | with_reducible refine Kept.drew ?_ | with_reducible refine Kept.alloc ?_ _ | with_reducible refine Kept.trans ?_ (by with_reducible assumption) (fun _ _ h => h))))).at_ HQa.out.val.len HQb.out.val.len M1.out M2.out).mono ?_
          rintro e w1 ⟨rfl, k1⟩
          have x3 : w1.cell? ⟨w.heap.size + 1 + 1, 3, none⟩ = some (.int .u64 a.ver.slot) := by rw [k1.cell]; simp [go_sem, *]
          have x4 : w1.cell? ⟨w.heap.size + 1 + 1, 4, none⟩ = some (.int .u64 a.ver.br) := by rw [k1.cell]; simp [go_sem, *]
          have x5 : w1.cell? ⟨w.heap.size + 1 + 1, 5, none⟩ = some (.string a.ver.bn) := by rw [k1.cell]; simp [go_sem, *]
          have x6 : w1.cell? ⟨w.heap.size + 1 + 1, 6, none⟩ = some (.pointer tp) := by rw [k1.cell]; simp [go_sem, *]
          have y3 : w1.cell? ⟨w.heap.size + 1 + 1 + 1, 3, none⟩ = some (.int .u64 b.ver.slot) := by rw [k1.cell]; simp [go_sem, *]
          have y4 : w1.cell? ⟨w.heap.size + 1 + 1 + 1, 4, none⟩ = some (.int .u64 b.ver.br) := by rw [k1.cell]; simp [go_sem, *]
          have y5 : w1.cell? ⟨w.heap.size + 1 + 1 + 1, 5, none⟩ = some (.string b.ver.bn) := by rw [k1.cell]; simp [go_sem, *]
          have y6 : w1.cell? ⟨w.heap.size + 1 + 1 + 1, 6, none⟩ = some (.pointer up) := by rw [k1.cell]; simp [go_sem, *]
          have K1 : Kept (fun _ => False) w w1 := by refine Kept.trans ?_ (k1.kept (S := fun _ => False)) (fun _ _ h => h); (repeat (first | with_reducible assumption | with_reducible exact Kept.refl _ _ | with_reducible refine Kept.drew ?_ | with_reducible refine Kept.alloc ?_ _ | with_reducible refine Kept.trans ?_ (by with_reducible assumption) (fun _ _ h => h)))
          clear k1
          go_wp2
          go_ret
          exact ⟨ret_bool HR.out.symm, K1⟩
    · have g0 : (a.val == b.val) = false := by simpa using hv
      have HR : Hid (R = false) := by rw [← hR]; exact sameRec_false (fun e => hv (by rw [e]))
      clear hR hv
      go_enter Try.func31, Try.ntmps31
      go_wp2_with fail
      refine (same_any va ua vn un vc uc a.val b.val _ (HQa.out.val.ext (by refine Kept.ext0 (?_ : Kept (fun _ => False) w _); (repeat (first | with_reducible assumption | with_reducible exact Kept.refl _ _ | with_reducible refine Kept.drew ?_ | with_reducible refine Kept.alloc ?_ _ | with_reducible refine Kept.trans ?_ (by with_reducible assumption) (fun _ _ h => h))))).at_ (HQb.out.val.ext (by refine Kept.ext0 (?_ : Kept (fun _ => False) w _); (repeat (first | with_reducible assumption | with_reducible exact Kept.refl _ _ | with_reducible refine Kept.drew ?_ | with_reducible refine Kept.alloc ?_ _ | with_reducible refine Kept.trans ?_ (by with_reducible assumption) (fun _ _ h => h))))).at_ HQa.out.val.len HQb.out.val.len M1.out M2.out).mono ?_
      rintro e w1 ⟨rfl, k1⟩
      have K1 : Kept (fun _ => False) w w1 := by refine Kept.trans ?_ (k1.kept (S := fun _ => False)) (fun _ _ h => h); (repeat (first | with_reducible assumption | with_reducible exact Kept.refl _ _ | with_reducible refine Kept.drew ?_ | with_reducible refine Kept.alloc ?_ _ | with_reducible refine Kept.trans ?_ (by with_reducible assumption) (fun _ _ h => h)))
      clear k1
      go_wp2
      go_ret
      exact ⟨ret_bool HR.out.symm, K1⟩

end Go.Proofs.Qxb6613770a
