import Derived.Test.Qxb6613770aLocT
import Derived.Test.Qxb6613770aLocG
import Derived.Test.Qxb6613770aWant
namespace Go.Proofs.Qxb6613770a
set_option linter.unusedVariables false
set_option linter.unusedSimpArgs false
open Go.RowKit

set_option maxHeartbeats 1000000 in
set_option maxRecDepth 100000 in
/-- wantDuration. -/
theorem wantDur_any (rb b n c i : Nat) (d : Int) (h1 : -9223372036854775808 ≤ d) (h2 : d ≤ 9223372036854775807) (bs rest : List UInt8) (w : World) (h : Rd w rb b n c i bs (encDur d ++ rest)) :
    Calls Try.prog 17 #[.pointer (some ⟨rb, 0, none⟩), .int .i64 d] w fun e w' => e = .returned (.tuple #[]) ∧ ∃ i', Rd w' rb b n c i' bs rest ∧ Kept (fun k => k = rb) w w' := by
  by_cases hd : d < 0
  · have he : encDur d = Lib.uvarint 0 := by unfold encDur; rw [if_pos hd]
    rw [he] at h
    go_enter Try.func17, Try.ntmps17
    go_wp2_with fail
    refine (wantUint_any rb b n c i 0 (by decide) bs rest _ h).mono ?_
    rintro e w1 ⟨rfl, hq⟩
    go_wp2
    go_end0
    exact ⟨rfl, hq⟩
  · obtain ⟨y, rfl⟩ := Int.eq_ofNat_of_zero_le (by omega : 0 ≤ d)
    have he : encDur (y : Int) = Lib.uvarint (y + 1) := by unfold encDur; rw [if_neg hd]; congr 1
    rw [he] at h
    go_enter Try.func17, Try.ntmps17
    go_wp2_with fail
    refine (wantUint_any rb b n c i (y + 1) (by omega) bs rest _ h).mono ?_
    rintro e w1 ⟨rfl, hq⟩
    go_wp2
    go_end0
    exact ⟨rfl, hq⟩

/-- A mirror of a Located, boxed. -/
theorem locBox (w : World) (l : Loc) (av : Value) (t : TypeId) : LocAt (w.alloc (.cells #[.int .u64 l.slot, .int .u64 l.br, .string l.bn, .string l.leader, .int .u64 l.pr, .string l.pn, .bool l.leased, .bool l.cutoff, av] t)) w.heap.size l av :=
  ⟨by simp [go_sem], by simp [go_sem], by simp [go_sem], by simp [go_sem], by simp [go_sem], by simp [go_sem], by simp [go_sem], by simp [go_sem], by simp [go_sem]⟩

theorem IntsAt.below {w w' : World} {a : Option Addr} {zs : List Int} (h : IntsAt w a zs) (hb : Below w.heap.size w w') : IntsAt w' a zs := by
  rcases h with h | ⟨b, off, rfl, g⟩
  · exact .inl h
  · exact .inr ⟨b, off, rfl, fun j hj => by rw [hb.cell (World.block_lt_of_cell? w _ (g j hj))]; exact g j hj⟩

/-- What the law has to know of memory while it reads. -/
structure LLF (w wx : World) (rb bb lb : Nat) (l : Loc) (aa a' : Option Addr) (n c c' : Nat) : Prop where
  below : Below w.heap.size w wx
  m : LocAt wx bb l (.slice aa n c)
  lc : wx.cell? ⟨lb, 8, none⟩ = some (.slice a' n c')
  row : wx.ownsRow 0 47 1 (.slice a' n c') n ((l.ans.map normDur).map (Value.int .i64))
  hbb : bb < rb
  hlb : lb < rb
  hrow : ∀ k, (Value.slice a' n c').ownBlock = some k → k < rb
  hw : w.heap.size ≤ rb

theorem LLF.kept {w wx wy : World} {rb bb lb : Nat} {l : Loc} {aa a' : Option Addr} {n c c' : Nat} (h : LLF w wx rb bb lb l aa a' n c c') (hk : Kept (fun k => k = rb) wx wy) : LLF w wy rb bb lb l aa a' n c c' := by
  have h1 := h.hbb
  have h2 := h.hlb
  have h3 := h.hw
  refine ⟨h.below.trans (hk.below h.below.size (fun k e => by omega)), h.m.kept hk (by omega), hk.cell' h.lc (by show ¬ lb = rb; omega), hk.owns h.row (fun k e he => ?_), h1, h2, h.hrow, h3⟩
  have := h.hrow k e; omega

set_option maxHeartbeats 8000000 in
set_option maxRecDepth 100000 in
theorem ll_walk (l : Loc) (hslot : l.slot < 18446744073709551616) (hbr : l.br < 18446744073709551616) (hpr : l.pr < 18446744073709551616) (h1 : l.bn.size ≤ maxLen) (h2 : l.leader.size ≤ maxLen) (h3 : l.pn.size ≤ maxLen) (hans : ∀ z ∈ l.ans, -9223372036854775808 ≤ z ∧ z ≤ 9223372036854775807)
    (aa : Option Addr) (n c : Nat) (hn : l.ans.length = n) (hnm : n ≤ maxLen) (w : World) (hi0 : IntsAt w aa l.ans) (hnil : aa = none → n = 0 ∧ c = 0) :
    Calls Try.prog 3 #[.agg #[.int .u64 l.slot, .int .u64 l.br, .string l.bn, .string l.leader, .int .u64 l.pr, .string l.pn, .bool l.leased, .bool l.cutoff, .slice aa n c]] w fun e w' => e = .returned (.bool true) ∧ Below w.heap.size w w' := by
  have HN : Hid (l.ans.length = n) := hn
  have HNil : Hid (aa = none → n = 0 ∧ c = 0) := hnil
  clear hn hnil
  have m0 := locBox w l (.slice aa n c) 27
  have b0 : Below w.heap.size w (w.alloc (.cells #[.int .u64 l.slot, .int .u64 l.br, .string l.bn, .string l.leader, .int .u64 l.pr, .string l.pn, .bool l.leased, .bool l.cutoff, .slice aa n c] 27)) := (Below.refl _ w).alloc (Nat.le_refl _) _
  go_enter Try.func3, Try.ntmps3
  go_wp2_with fail
  refine (bytesL_any _ _ _ _ _ l.bn l.leader l.pn aa n c h1 h2 h3 hnm _ rfl rfl rfl rfl rfl).mono ?_
  rintro e w1 ⟨rfl, k1⟩
  have m1 := m0.kept k1 (fun h => h)
  have b1 : Below w.heap.size w w1 := b0.trans (k1.below b0.size (fun _ h => h.elim))
  clear k1 m0 b0
  obtain ⟨p0, p1, p2, p3, p4, p5, p6, p7, p8⟩ := m1
  by_cases hsz : l.bn.size + l.leader.size + l.pn.size + n ≤ 1048576
  · have hd : decide (l.bn.size + l.leader.size + l.pn.size + n ≤ 1048576) = true := decide_eq_true hsz
    have hl : l.Ok := ⟨hslot, hbr, hpr, by rw [HN.out]; exact hsz, hans⟩
    go_wp2_with fail
    refine (sizeL_any _ _ _ _ _ l.bn l.leader l.pn aa n c (by omega) (by omega) (by omega) (by omega) _ rfl rfl rfl rfl rfl).mono ?_
    rintro e w2 ⟨r, rfl, hr0, hr1, k2⟩
    have m2 := (LocAt.mk p0 p1 p2 p3 p4 p5 p6 p7 p8).kept k2 (fun h => h)
    have b2 : Below w.heap.size w w2 := b1.trans (k2.below b1.size (fun _ h => h.elim))
    clear p0 p1 p2 p3 p4 p5 p6 p7 p8
    obtain ⟨p0, p1, p2, p3, p4, p5, p6, p7, p8⟩ := m2
    by_cases hr : 1048576 < r
    · go_wp2
      go_ret
      exact ⟨rfl, b2⟩
    · go_wp2_with fail
      refine (toLocated_any l aa n c HN.out (by omega) _ (hi0.below b2) HNil.out).mono ?_
      rintro e w3 ⟨a', c', rfl, q1, q2, k3⟩
      have m3 := (LocAt.mk p0 p1 p2 p3 p4 p5 p6 p7 p8).kept k3 (fun h => h)
      have b3 : Below w.heap.size w w3 := b2.trans (k3.below b2.size (fun _ h => h.elim))
      have hbb3 := m3.lt
      have q1' : ∀ k, (Value.slice a' n c').ownBlock = some k → w.heap.size ≤ k := fun k hk => Nat.le_trans b2.size (q1 k hk)
      have q1'' : (Value.slice a' n c').ownBlock ≠ some w.heap.size := fun hk => by
        have := q1 _ hk
        have : w.heap.size < w2.heap.size := World.block_lt_of_cell? w2 _ p0
        omega
      have ml := locBox w3 l (.slice a' n c') 33
      clear p0 p1 p2 p3 p4 p5 p6 p7 p8 q1
      go_wp2_with fail
      refine (marshal_any l hl n c' a' HN.out _ (by rw [HN.out]; exact q2.alloc _)).mono ?_
      rintro e w4 ⟨v4, rfl, E⟩
      have hz4 : w3.heap.size < w4.heap.size := by have := E.kept.size; simp at this; omega
      have b4 : Below w.heap.size w w4 := by
        have h := b3.alloc b3.size (.cells #[.int .u64 l.slot, .int .u64 l.br, .string l.bn, .string l.leader, .int .u64 l.pr, .string l.pn, .bool l.leased, .bool l.cutoff, .slice a' n c'] 33)
        exact h.trans (E.kept.below (by simp; omega) q1')
      have m4 : LocAt w4 w.heap.size l (.slice aa n c) := (m3.kept ((Kept.refl (fun _ => False) w3).alloc _) (fun h => h)).kept E.kept q1''
      have ml4 : w4.cell? ⟨w3.heap.size, 8, none⟩ = some (.slice a' n c') := E.kept.cell' ml.c8 (fun h => by have := (q2.lt _ h).2; simp at this)
      have own4 : w4.ownsRow 0 5 1 v4 l.enc.length (Lib.byteCells l.enc) := E.own
      have hpos : 0 < l.enc.length := by
        unfold Loc.enc Loc.head
        simp only [List.length_append]
        have := Lib.uvarint_pos l.slot
        omega
      obtain ⟨g4, k4, hv4, hg4⟩ := owns_some own4 hpos
      subst hv4
      obtain ⟨hbo, -, hc41, hc42⟩ := owns_bytes own4
      have F4 : LLF w (w4.alloc (.cells #[.slice (some ⟨g4, 0, none⟩) l.enc.length k4, .int .i64 0, .bool true] 41)) w4.heap.size w.heap.size w3.heap.size l aa a' n c c' :=
        ⟨b4.alloc b4.size _, m4.kept ((Kept.refl (fun _ => False) w4).alloc _) (fun h => h), ((Kept.refl (fun _ => False) w4).alloc _).cell' ml4 (fun h => h), by
          have := E.ans.alloc (.cells #[.slice (some ⟨g4, 0, none⟩) l.enc.length k4, .int .i64 0, .bool true] 41)
          rw [List.length_map, HN.out] at this
          exact this, m4.lt, hz4, fun k hk => by have := (q2.lt k hk).2; omega, b4.size⟩
      have R4 : Rd (w4.alloc (.cells #[.slice (some ⟨g4, 0, none⟩) l.enc.length k4, .int .i64 0, .bool true] 41)) w4.heap.size g4 l.enc.length k4 0 l.enc (Lib.uvarint l.slot ++ (encBallot l.br l.bn.data.toList ++ (encStr l.leader.data.toList ++ (encBallot l.pr l.pn.data.toList ++ (encB l.leased ++ (encB l.cutoff ++ (Lib.uvarint n ++ l.ans.flatMap encDur))))))) :=
        ⟨heap_alloc_new w4 _, hbo.kept ((Kept.refl (fun _ => False) w4).alloc _) (fun _ _ h => h), by omega, rfl, Nat.le_trans hc41 hc42, Nat.zero_le _, by
          unfold Loc.enc Loc.head; rw [HN.out]; simp only [List.append_assoc, List.drop_zero]⟩
      clear E m4 b4 ml4 own4 hbo ml m3 q2
      have e0 := F4.m.c0
      go_wp2_with fail
      refine (wantUint_any w4.heap.size g4 _ k4 0 l.slot hslot l.enc _ _ R4).mono ?_
      rintro e w5 ⟨rfl, i5, R5, k5⟩
      have F5 := F4.kept k5
      have e1 := F5.m.c1
      have e2 := F5.m.c2
      clear F4 R4 e0 k5
      generalize hrb : w4.heap.size = rb at *
      go_wp2_with fail
      refine (wantBallot_any rb g4 _ k4 i5 l.br hbr l.bn (by omega) l.enc _ _ R5).mono ?_
      rintro e w6 ⟨rfl, i6, R6, k6⟩
      have F6 := F5.kept k6
      have e3 := F6.m.c3
      clear F5 R5 e1 e2 k6
      go_wp2_with fail
      refine (wantString_any rb g4 _ k4 i6 l.leader (by omega) l.enc _ _ R6).mono ?_
      rintro e w7 ⟨rfl, i7, R7, k7⟩
      have F7 := F6.kept k7
      have e4 := F7.m.c4
      have e5 := F7.m.c5
      clear F6 R6 e3 k7
      go_wp2_with fail
      refine (wantBallot_any rb g4 _ k4 i7 l.pr hpr l.pn (by omega) l.enc _ _ R7).mono ?_
      rintro e w8 ⟨rfl, i8, R8, k8⟩
      have F8 := F7.kept k8
      have e6 := F8.m.c6
      clear F7 R7 e4 e5 k8
      go_wp2_with fail
      refine (wantBool_any rb g4 _ k4 i8 l.leased l.enc _ _ R8).mono ?_
      rintro e w9 ⟨rfl, i9, R9, k9⟩
      have F9 := F8.kept k9
      have e7 := F9.m.c7
      clear F8 R8 e6 k9
      go_wp2_with fail
      refine (wantBool_any rb g4 _ k4 i9 l.cutoff l.enc _ _ R9).mono ?_
      rintro e w10 ⟨rfl, i10, R10, k10⟩
      have F10 := F9.kept k10
      have e8 := F10.m.c8
      have hnn : (n : Int) ≤ 1048576 := by omega
      clear F9 R9 e7 k10
      go_wp2_with fail
      refine (wantUint_any rb g4 _ k4 i10 n (by omega) l.enc _ _ R10).mono ?_
      rintro e w11 ⟨rfl, i11, R11, k11⟩
      have F11 := F10.kept k11
      clear F10 R10 e8 k11
      go_wp2_with fail
      clear hrb hz4 hbb3 q1' q1'' b3 k3 k2
      go_loopw [7] (fun v7 wr => ∃ (k i' : Nat), v7 = .int .i64 k ∧ k ≤ n ∧ Rd wr rb g4 l.enc.length k4 i' l.enc ((l.ans.drop k).flatMap encDur) ∧ LLF w wr rb w.heap.size w3.heap.size l aa a' n c c') (fun v7 _ => n - (intOf v7).toNat)
      case atStart => exact ⟨0, i11, rfl, Nat.zero_le _, by simpa using R11, F11⟩
      case round =>
        obtain ⟨k, i', rfl, hkn, R, F⟩ := hrel
        have f8 := F.m.c8
        by_cases hlt : k < n
        · have hka : k < l.ans.length := by rw [HN.out]; exact hlt
          rcases hi0.below F.below with hi1 | ⟨ib, io, hx, g⟩
          · rw [hi1] at hka; simp at hka
          subst hx
          have hck := g k hka
          have hz := hans l.ans[k] (List.getElem_mem hka)
          have hlt' : (k : Int) < (n : Int) := by omega
          have R' : Rd wr rb g4 l.enc.length k4 i' l.enc (encDur l.ans[k] ++ (l.ans.drop (k + 1)).flatMap encDur) := by
            rw [List.drop_eq_getElem_cons hka, List.flatMap_cons] at R
            exact R
          clear g R
          go_wp2_with fail
          refine (wantDur_any rb g4 _ k4 i' l.ans[k] hz.1 hz.2 l.enc _ _ R').mono ?_
          rintro e w12 ⟨rfl, i12, R12, k12⟩
          go_wp2
          go_roundw
          case rel => exact ⟨k + 1, i12, by go_num, by omega, R12, F.kept k12⟩
          case measure => simp [intOf]; omega
        · have hkn' : k = n := by omega
          have hir : i' = l.enc.length := by
            have h0 : (l.ans.drop k).flatMap encDur = [] := by rw [List.drop_of_length_le (by rw [HN.out]; omega)]; rfl
            have hd := congrArg List.length R.drop
            rw [h0, List.length_drop, List.length_nil] at hd
            have := R.le
            omega
          obtain ⟨r0, r1, r2, -⟩ := R.rd.cells
          rw [hir] at r1
          have hlc := F.lc
          have hne0 : ((l.enc.length : Int) != (l.enc.length : Int)) = false := by simp
          have hne1 : ((n : Int) != (n : Int)) = false := by simp
          clear hkn' hir
          go_wp2
          go_loop [8, 9] (fun v8 v9 => ∃ k : Nat, v8 = .int .i64 k ∧ k ≤ n) (fun v8 _ => n - (intOf v8).toNat)
          case atStart => exact ⟨0, rfl, Nat.zero_le _⟩
          case round =>
            obtain ⟨k, rfl, hkn⟩ := hrel
            by_cases hlt2 : k < n
            · have hka : k < l.ans.length := by rw [HN.out]; exact hlt2
              rcases hi0.below F.below with hi1 | ⟨ib, io, hx, g⟩
              · rw [hi1] at hka; simp at hka
              subst hx
              have hck := g k hka
              obtain ⟨ab, cap, hv, hab⟩ := owns_some' F.row (by omega)
              simp only [Value.slice.injEq, true_and] at hv
              obtain ⟨rfl, rfl⟩ := hv
              have hcl : wr.cell? ⟨ab, k, none⟩ = some (.int .i64 (normDur l.ans[k])) := by
                rw [F.row.cellAt k (by omega)]
                simp [hka]
              have hlt' : (k : Int) < (n : Int) := by omega
              clear g
              by_cases hneg : l.ans[k] < 0
              · have hnd : normDur l.ans[k] = -1 := by unfold normDur; rw [if_pos hneg]
                rw [hnd] at hcl
                go_wp2
                go_round
                case rel => exact ⟨k + 1, by go_num, by omega⟩
                case measure => simp [intOf]; omega
              · have hnd : normDur l.ans[k] = l.ans[k] := by unfold normDur; rw [if_neg hneg]
                rw [hnd] at hcl
                have hne2 : (l.ans[k] != l.ans[k]) = false := by simp
                clear hnd
                go_wp2
                go_round
                case rel => exact ⟨k + 1, by go_num, by omega⟩
                case measure => simp [intOf]; omega
            · go_wp2
              go_ret
              exact ⟨rfl, F.below⟩
  · have hd : decide (l.bn.size + l.leader.size + l.pn.size + n ≤ 1048576) = false := decide_eq_false hsz
    go_wp2
    go_ret
    exact ⟨rfl, b1⟩

end Go.Proofs.Qxb6613770a
