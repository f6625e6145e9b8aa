import Derived.Test.Qxb6613770aEncW
namespace Go.Proofs.Qxb6613770a
set_option linter.unusedVariables false
set_option linter.unusedSimpArgs false
open Go.RowKit

def encDur (d : Int) : List UInt8 := Lib.uvarint (if d < 0 then 0 else d.toNat + 1)
def normDur (d : Int) : Int := if d < 0 then -1 else d

/-- Plain data of a Located. -/
structure Loc where
  slot : Nat
  br : Nat
  bn : ByteArray
  leader : ByteArray
  pr : Nat
  pn : ByteArray
  leased : Bool
  cutoff : Bool
  ans : List Int

def Loc.head (l : Loc) : List UInt8 := Lib.uvarint l.slot ++ encBallot l.br l.bn.data.toList ++ encStr l.leader.data.toList ++ encBallot l.pr l.pn.data.toList ++ encB l.leased ++ encB l.cutoff ++ Lib.uvarint l.ans.length
def Loc.enc (l : Loc) : List UInt8 := l.head ++ l.ans.flatMap encDur

structure Loc.Ok (l : Loc) : Prop where
  slot : l.slot < 18446744073709551616
  br : l.br < 18446744073709551616
  pr : l.pr < 18446744073709551616
  sizes : l.bn.size + l.leader.size + l.pn.size + l.ans.length ≤ 1048576
  ans : ∀ z ∈ l.ans, -9223372036854775808 ≤ z ∧ z ≤ 9223372036854775807

/-- The cells of a Located (or of its mirror) in block mb, its slice av. -/
structure LocAt (w : World) (mb : Nat) (l : Loc) (av : Value) : Prop where
  c0 : w.cell? ⟨mb, 0, none⟩ = some (.int .u64 l.slot)
  c1 : w.cell? ⟨mb, 1, none⟩ = some (.int .u64 l.br)
  c2 : w.cell? ⟨mb, 2, none⟩ = some (.string l.bn)
  c3 : w.cell? ⟨mb, 3, none⟩ = some (.string l.leader)
  c4 : w.cell? ⟨mb, 4, none⟩ = some (.int .u64 l.pr)
  c5 : w.cell? ⟨mb, 5, none⟩ = some (.string l.pn)
  c6 : w.cell? ⟨mb, 6, none⟩ = some (.bool l.leased)
  c7 : w.cell? ⟨mb, 7, none⟩ = some (.bool l.cutoff)
  c8 : w.cell? ⟨mb, 8, none⟩ = some av

theorem LocAt.kept {S : Nat → Prop} {w w' : World} {mb : Nat} {l : Loc} {av : Value} (h : LocAt w mb l av) (hk : Kept S w w') (hS : ¬ S mb) : LocAt w' mb l av :=
  ⟨hk.cell' h.c0 hS, hk.cell' h.c1 hS, hk.cell' h.c2 hS, hk.cell' h.c3 hS, hk.cell' h.c4 hS, hk.cell' h.c5 hS, hk.cell' h.c6 hS, hk.cell' h.c7 hS, hk.cell' h.c8 hS⟩
theorem LocAt.lt {w : World} {mb : Nat} {l : Loc} {av : Value} (h : LocAt w mb l av) : mb < w.heap.size := World.block_lt_of_cell? w _ h.c0

/-- The state of an encoding that began in w with an empty buffer: av's row holds zs. -/
structure St (w : World) (eb : Nat) (av : Value) (wr : World) (sv : Value) (bs : List UInt8) (zs : List Int) : Prop where
  enc : EncAt wr eb sv bs
  row : ∀ k, sv.ownBlock = some k → w.heap.size ≤ k
  kept : Kept (fun k => k = eb ∨ av.ownBlock = some k) w wr
  own : wr.ownsRow 0 47 1 av zs.length (zs.map (Value.int .i64))

theorem St.moved {w wr w' : World} {eb : Nat} {av sv sv' : Value} {bs bs' : List UInt8} {zs : List Int} (h : St w eb av wr sv bs zs) (hav : ∀ k, av.ownBlock = some k → k < w.heap.size ∧ k ≠ eb) (hm : Moved eb sv wr sv' w') (he : EncAt w' eb sv' bs') : St w eb av w' sv' bs' zs := by
  refine ⟨he, fun k hk => ?_, h.kept.trans hm.kept (fun i hi e => ?_), hm.kept.owns h.own (fun k hk e => ?_)⟩
  · rcases hm.row k hk with h1 | h1
    · exact h.row k h1
    · exact Nat.le_trans h.kept.size h1
  · rcases e with e | e
    · exact .inl e
    · have := h.row i e; omega
  · rcases e with e | e
    · exact (hav k hk).2 e
    · have := h.row k e; have := (hav k hk).1; omega

theorem St.drew {w wr : World} {eb : Nat} {av sv : Value} {bs : List UInt8} {zs : List Int} (h : St w eb av wr sv bs zs) : St w eb av wr.drew sv bs zs := ⟨h.enc.drew, h.row, h.kept.drew, h.own⟩
theorem St.drewN {w wr : World} {eb : Nat} {av sv : Value} {bs : List UInt8} {zs : List Int} (h : St w eb av wr sv bs zs) (n : Nat) : St w eb av (wr.drewN n) sv bs zs := ⟨h.enc.drewN n, h.row, h.kept.drewN n, h.own⟩
theorem St.alloc {w wr : World} {eb : Nat} {av sv : Value} {bs : List UInt8} {zs : List Int} (h : St w eb av wr sv bs zs) (o : Obj) : St w eb av (wr.alloc o) sv bs zs := ⟨h.enc.alloc o, h.row, h.kept.alloc o, h.own.alloc o⟩

theorem St.loc {w wr : World} {eb mb : Nat} {av sv : Value} {bs : List UInt8} {zs : List Int} {l : Loc} (h : St w eb av wr sv bs zs) (hl : LocAt w mb l av) (h1 : mb ≠ eb) (h2 : av.ownBlock ≠ some mb) : LocAt wr mb l av :=
  hl.kept h.kept (fun e => by rcases e with e | e; exact h1 e; exact h2 e)

theorem owns_some' {w : World} {sv : Value} {e : TypeId} {n : Nat} {xs : List Value} (h : w.ownsRow 0 e 1 sv n xs) (hn : 0 < n) : ∃ g cap, sv = .slice (some ⟨g, 0, none⟩) n cap ∧ g < w.heap.size := by
  rcases h.2 with ⟨rfl, rfl⟩ | ⟨g, cap, cur, rfl, _, hg, _⟩
  · omega
  · exact ⟨g, cap, rfl, (Array.getElem?_eq_some_iff.1 hg).1⟩

/-- One element of av's row is written. -/
theorem St.stored {w wr : World} {eb ab n c : Nat} {sv : Value} {bs : List UInt8} {zs : List Int} (h : St w eb (.slice (some ⟨ab, 0, none⟩) n c) wr sv bs zs) (hav : ab < w.heap.size ∧ ab ≠ eb) (hz : zs.length = n) (k : Nat) (z : Int) :
    St w eb (.slice (some ⟨ab, 0, none⟩) n c) (wr.setCell ⟨ab, k, none⟩ (.int .i64 z)) sv bs (zs.set k z) := by
  subst hz
  have hk : Kept (fun i => i = ab) wr (wr.setCell ⟨ab, k, none⟩ (.int .i64 z)) := (Kept.refl (fun i => i = ab) _).setCell (p := ⟨ab, k, none⟩) (fun _ => rfl) _
  refine ⟨h.enc.kept hk (fun e => hav.2 e.symm) (fun i hi e => ?_), h.row, h.kept.setCell (p := ⟨ab, k, none⟩) (fun _ => .inr rfl) _, ?_⟩
  · have := h.row i hi; omega
  · have := (h.own.stored k (.int .i64 z)).1
    rw [List.length_set, List.map_set]
    exact this

def partZ (ans : List Int) (k : Nat) : List Int := (ans.take k).map normDur ++ ans.drop k
theorem partZ_len (ans : List Int) (k : Nat) : (partZ ans k).length = ans.length := by simp [partZ]; omega
theorem partZ_get (ans : List Int) (k : Nat) (hk : k < ans.length) : (partZ ans k)[k]? = some ans[k] := by
  unfold partZ
  rw [List.getElem?_append_right (by simp; omega)]
  simp [Nat.min_eq_left (Nat.le_of_lt hk), hk]
theorem partZ_set (ans : List Int) (k : Nat) (hk : k < ans.length) : (partZ ans k).set k (normDur ans[k]) = partZ ans (k + 1) := by
  unfold partZ
  have hl : ((ans.take k).map normDur).length = k := by simp; omega
  rw [List.set_append_right _ _ (by omega), hl, Nat.sub_self, List.take_succ_eq_append_getElem hk, List.drop_eq_getElem_cons hk, List.set_cons_zero, List.map_append]
  simp
theorem partZ_same (ans : List Int) (k : Nat) (hk : k < ans.length) (h : normDur ans[k] = ans[k]) : partZ ans k = partZ ans (k + 1) := by
  rw [← partZ_set ans k hk, h]
  have := partZ_get ans k hk
  apply List.ext_getElem?
  intro i
  by_cases hi : i = k
  · subst hi
    rw [this, List.getElem?_set_self (by rw [partZ_len]; exact hk)]
  · rw [List.getElem?_set_ne (by omega)]
theorem flat_next (ans : List Int) (k : Nat) (hk : k < ans.length) : (ans.take (k + 1)).flatMap encDur = (ans.take k).flatMap encDur ++ encDur ans[k] := by
  rw [List.take_succ_eq_append_getElem hk, List.flatMap_append]; simp
theorem flat_len (ans : List Int) (h : ∀ z ∈ ans, -9223372036854775808 ≤ z ∧ z ≤ 9223372036854775807) : ∀ k, ((ans.take k).flatMap encDur).length ≤ 10 * k := by
  intro k
  induction k with
  | zero => simp
  | succ k ih =>
    by_cases hk : k < ans.length
    · rw [flat_next ans k hk, List.length_append]
      have hz := h ans[k] (List.getElem_mem hk)
      have : (encDur ans[k]).length ≤ 10 := by
        unfold encDur
        refine Lib.uvarint_length64 ?_
        split <;> omega
      omega
    · rw [List.take_of_length_le (by omega)]
      rw [List.take_of_length_le (by omega)] at ih
      omega
theorem cell_partZ {wr : World} {ab n c : Nat} {zs : List Int} {k : Nat} {z : Int} (h : wr.ownsRow 0 47 1 (.slice (some ⟨ab, 0, none⟩) n c) zs.length (zs.map (Value.int .i64))) (hn : zs.length = n) (hz : zs[k]? = some z) : wr.cell? ⟨ab, k, none⟩ = some (.int .i64 z) := by
  subst hn
  have hk : k < zs.length := (List.getElem?_eq_some_iff.1 hz).1
  rw [h.cellAt k (by omega), List.getElem?_map, hz]; rfl

theorem nil_bool (a : Addr) (w : World) : (nilAhead 253 79 (.pointer (some a)) (nameAt Try.f88 4)).run Try.prog w = .ok (some false) w := by kernel_rfl
theorem met_bool (a : Addr) (w : World) : (method 253 79 (.pointer (some a)) (nameAt Try.f88 4)).run Try.prog w = .ok (81, .pointer (some a)) w := by kernel_rfl
theorem met_count (a : Addr) (w : World) : (method 253 79 (.pointer (some a)) (nameAt Try.f88 8)).run Try.prog w = .ok (82, .pointer (some a)) w := by kernel_rfl

theorem encStr_len (s : ByteArray) (h : s.size < 18446744073709551616) : (encStr s.data.toList).length ≤ 10 + s.size := by
  unfold encStr
  rw [List.length_append, size_toList]
  have := Lib.uvarint_length64 h
  omega
theorem encB_len (b : Bool) : (encB b).length ≤ 10 := by
  unfold encB; exact Lib.uvarint_length64 (by cases b <;> decide)
theorem encBallot_len (r : Nat) (hr : r < 18446744073709551616) (s : ByteArray) (h : s.size < 18446744073709551616) : (encBallot r s.data.toList).length ≤ 20 + s.size := by
  unfold encBallot
  rw [List.length_append]
  have := encStr_len s h
  have := Lib.uvarint_length64 hr
  omega

set_option maxHeartbeats 8000000 in
set_option maxRecDepth 100000 in
/-- Located.walk. -/
theorem locw_any (eb mb : Nat) (l : Loc) (hl : l.Ok) (av : Value) (n c : Nat) (aa : Option Addr) (hav0 : av = .slice aa n c) (hn : l.ans.length = n) (w : World)
    (hs : St w eb av w (.slice none 0 0) [] l.ans) (hm : LocAt w mb l av) (h1 : mb ≠ eb) (h2 : av.ownBlock ≠ some mb) (hav : ∀ k, av.ownBlock = some k → k < w.heap.size ∧ k ≠ eb) :
    Calls Try.prog 88 #[.pointer (some ⟨mb, 0, none⟩), .iface 79 (.pointer (some ⟨eb, 0, none⟩))] w fun e w' => e = .returned (.tuple #[]) ∧ ∃ sv', St w eb av w' sv' l.enc (l.ans.map normDur) := by
  have n1 := nil_uint ⟨eb, 0, none⟩
  have n2 := met_uint ⟨eb, 0, none⟩
  have n3 := nil_node ⟨eb, 0, none⟩
  have n4 := met_node ⟨eb, 0, none⟩
  have n5 := nil_bool ⟨eb, 0, none⟩
  have n6 := met_bool ⟨eb, 0, none⟩
  have n7 := met_count ⟨eb, 0, none⟩
  conv at n1 in (nameAt _ _) => whnf
  conv at n2 in (nameAt _ _) => whnf
  conv at n3 in (nameAt _ _) => whnf
  conv at n4 in (nameAt _ _) => whnf
  conv at n5 in (nameAt _ _) => whnf
  conv at n6 in (nameAt _ _) => whnf
  conv at n7 in (nameAt _ _) => whnf
  have hmb := hm.lt
  have hsz := hl.sizes
  have HN : Hid (l.ans.length = n) := hn
  have hnn : n ≤ 1048576 := by omega
  have hnn' : (n : Int) ≤ 1048576 := by omega
  have L0 := Lib.uvarint_length64 hl.slot
  have L1 := encBallot_len l.br hl.br l.bn (by omega)
  have L2 := encStr_len l.leader (by omega)
  have L3 := encBallot_len l.pr hl.pr l.pn (by omega)
  have L4 := encB_len l.leased
  have L5 := encB_len l.cutoff
  clear hn
  subst hav0
  go_enter Try.func88, Try.ntmps88
  go_wp2
  -- slot
  have m0 := hs.loc hm h1 h2
  go_region_with (go_at_call 52; refine (uint_any eb mb 0 l.slot hl.slot _ [] _ hs.drew.enc m0.c0 (by simp)).mono ?_; rintro e w1 ⟨rfl, sv1, e1, v1⟩)
  have s1 := hs.drew.moved hav v1 e1
  clear e1 v1
  -- ballot
  have m1 := s1.loc hm h1 h2
  go_wp2_with (go_at_call 55; refine (ballot_any eb mb 1 l.br hl.br l.bn (by omega) sv1 _ _ s1.enc m1.c1 m1.c2 h1 (fun e => by have := s1.row _ e; omega) (by simp; omega)).mono ?_; rintro e w2 ⟨rfl, sv2, e2, v2⟩)
  have s2 := s1.moved hav v2 e2
  clear e2 v2
  -- leader
  have m2 := s2.loc hm h1 h2
  go_region_with (go_at_call 84; refine (node_any eb mb 3 l.leader (by omega) sv2 _ _ s2.drew.enc m2.c3 h1 (fun e => by have := s2.row _ e; omega) (by simp; omega)).mono ?_; rintro e w3 ⟨rfl, sv3, e3, v3⟩)
  have s3 := s2.drew.moved hav v3 e3
  clear e3 v3
  -- promised
  have m3 := s3.loc hm h1 h2
  go_wp2_with (go_at_call 55; refine (ballot_any eb mb 4 l.pr hl.pr l.pn (by omega) sv3 _ _ s3.enc m3.c4 m3.c5 h1 (fun e => by have := s3.row _ e; omega) (by simp; omega)).mono ?_; rintro e w4 ⟨rfl, sv4, e4, v4⟩)
  have s4 := s3.moved hav v4 e4
  clear e4 v4
  -- leased, cut off
  have m4 := s4.loc hm h1 h2
  go_region_with (go_at_call 81; refine (bool_any eb mb 6 l.leased sv4 _ _ s4.drew.enc m4.c6 (by simp; omega)).mono ?_; rintro e w5 ⟨rfl, sv5, e5, v5⟩)
  have s5 := s4.drew.moved hav v5 e5
  clear e5 v5
  have m5 := s5.loc hm h1 h2
  go_wp2
  go_region_with (go_at_call 81; refine (bool_any eb mb 7 l.cutoff sv5 _ _ s5.drew.enc m5.c7 (by simp; omega)).mono ?_; rintro e w6 ⟨rfl, sv6, e6, v6⟩)
  have s6 := s5.drew.moved hav v6 e6
  clear e6 v6
  have m6 := s6.loc hm h1 h2
  have hm6 : mb < w6.heap.size := m6.lt
  have c68 := m6.c8
  have s6' := s6.alloc (.cells #[.int .i64 (n : Int)] 3)
  go_wp2_with (go_at_call 82; refine (count_any eb w6.heap.size 0 n (by unfold maxLen; omega) _ sv6 _ _ s6'.enc ?_ (by simp; omega)).mono ?_; simp [go_sem]; rintro e w7 ⟨rfl, sv7, e7, v7⟩)
  have s7 := s6'.moved hav v7 e7
  have hb7 : w7.cell? ⟨w6.heap.size, 0, none⟩ = some (.int .i64 (n : Int)) := by
    refine v7.cell (by simp [go_sem]) (by have := s6.enc.lt; simp; omega) (fun e => ?_)
    have := (s6.enc.own.lt _ e).2
    simp at this
  have m7 := s7.loc hm h1 h2
  have c78 := m7.c8
  clear e7 v7 s6' s6 s5 s4 s3 s2 s1 m0 m1 m2 m3 m4 m5 m6 c68
  go_quiet (fail)
  go_wp2
  have hhead : Loc.head l = [] ++ Lib.uvarint l.slot ++ encBallot l.br l.bn.data.toList ++ encStr l.leader.data.toList ++ encBallot l.pr l.pn.data.toList ++ encB l.leased ++ encB l.cutoff ++ Lib.uvarint n := by
    unfold Loc.head; rw [HN.out, List.nil_append]
  rw [← hhead] at s7
  have LH : (Loc.head l).length ≤ 1048776 := by
    have := Lib.uvarint_length64 (x := n) (by omega)
    rw [hhead]; simp only [List.length_append, List.length_nil]; omega
  clear hhead L0 L1 L2 L3 L4 L5
  go_loopw [74, 5, 6, 7] (fun v74 v5 v6 v7 wr => ∃ (k : Nat) (svr : Value), v74 = .int .i64 k ∧ k ≤ n ∧ St w eb (.slice aa n c) wr svr (l.head ++ (l.ans.take k).flatMap encDur) (partZ l.ans k)) (fun v74 _ _ _ _ => n - (intOf v74).toNat)
  case atStart => exact ⟨0, sv7, rfl, Nat.zero_le _, by simpa [partZ] using s7.drewN nq⟩
  case round =>
    obtain ⟨k, svr, rfl, hk, sr⟩ := hrel
    by_cases hlt : k < n
    · have hka : k < l.ans.length := by rw [HN.out]; exact hlt
      obtain ⟨ab, cap, hv, hab⟩ := owns_some' sr.own (by rw [partZ_len]; omega)
      rw [partZ_len, HN.out] at hv
      simp only [Value.slice.injEq, true_and] at hv
      obtain ⟨rfl, rfl⟩ := hv
      have hav' := hav ab rfl
      have hcell := cell_partZ sr.own (by rw [partZ_len, HN.out]) (partZ_get l.ans k hka)
      have hzr := hl.ans l.ans[k] (List.getElem_mem hka)
      have HF : Hid (_ = _) := flat_next l.ans k hka
      have HS : Hid (_ = _) := partZ_set l.ans k hka
      have HSame : Hid (normDur l.ans[k] = l.ans[k] → _ = _) := partZ_same l.ans k hka
      have LF := flat_len l.ans hl.ans k
      have HL2 : Hid ((l.head ++ (l.ans.take k).flatMap encDur).length + 10 ≤ 140737488355328) := by show _ ≤ _; rw [List.length_append]; omega
      generalize hz : l.ans[k] = z at *
      clear hz
      have mr := sr.loc hm h1 h2
      have c8 := mr.c8
      have hmr := mr.lt
      have hlt' : (k : Int) < (n : Int) := by omega
      obtain ⟨hz1, hz2⟩ := hzr
      -- what is known behind the call of uint
      have hafter : ∀ (x : Nat) (zz : Int) (w8 : World) (sv8 : Value), zz = (x : Int) → EncAt w8 eb sv8 (l.head ++ (l.ans.take k).flatMap encDur ++ Lib.uvarint x) → Moved eb svr (wr.alloc (.cells #[.int .u64 zz] 22)) sv8 w8 →
          St w eb (.slice (some ⟨ab, 0, none⟩) n c) w8 sv8 (l.head ++ (l.ans.take k).flatMap encDur ++ Lib.uvarint x) (partZ l.ans k) ∧ w8.cell? ⟨wr.heap.size, 0, none⟩ = some (.int .u64 zz) ∧ w8.cell? ⟨mb, 8, none⟩ = some (.slice (some ⟨ab, 0, none⟩) n c) ∧ w8.cell? ⟨ab, k, none⟩ = some (.int .i64 z) ∧ w8.frozen? ⟨ab, k, none⟩ = false := by
        intro x zz w8 sv8 hzz e8 v8
        have s8 := (sr.alloc (.cells #[.int .u64 zz] 22)).moved hav v8 e8
        have c80 : w8.cell? ⟨ab, k, none⟩ = some (.int .i64 z) := by
          refine v8.cell (by rw [World.cell?_of_block (Below.heap_alloc wr _ ab hab)]; exact hcell) hav'.2 (fun e => ?_)
          have := sr.row _ e
          have := hav'.1
          simp at *; omega
        refine ⟨s8, ?_, (s8.loc hm h1 h2).c8, c80, ?_⟩
        · refine v8.cell (by simp [go_sem]) (by have := sr.enc.lt; simp; omega) (fun e => ?_)
          have := (sr.enc.own.lt _ e).2
          simp at this
        · have h := s8.own
          rw [partZ_len, HN.out] at h
          exact h.frozenAt k
      by_cases hz0 : 0 ≤ z
      · obtain ⟨y, rfl⟩ := Int.eq_ofNat_of_zero_le hz0
        have hnz : normDur (y : Int) = (y : Int) := by unfold normDur; rw [if_neg (by omega)]
        have hen : encDur (y : Int) = Lib.uvarint (y + 1) := by unfold encDur; rw [if_neg (by omega)]; congr 1
        have HSS := HSame.out hnz
        have HE : Hid (l.head ++ (l.ans.take (k + 1)).flatMap encDur = l.head ++ (l.ans.take k).flatMap encDur ++ Lib.uvarint (y + 1)) := by show _ = _; rw [HF.out, hen, List.append_assoc]
        have HP : Hid (partZ l.ans k = partZ l.ans (k + 1)) := HSS
        clear hnz hen HSS HSame HS HF
        go_wp2_with fail
        refine (uint_any eb wr.heap.size 0 (y + 1) (by omega) svr _ _ (sr.alloc _).enc (by simp [go_sem]) HL2.out).mono ?_
        rintro e w8 ⟨rfl, sv8, e8, v8⟩
        obtain ⟨s8, b8, d8, f8, g8⟩ := hafter (y + 1) ((y : Int) + 1) w8 sv8 (by omega) e8 v8
        clear hafter
        go_wp2_with fail
        go_roundw
        case rel => exact ⟨k + 1, sv8, by go_num, by omega, by rw [HE.out, ← HP.out]; exact s8⟩
        case measure => simp [intOf]; omega
      · have hnz : normDur z = -1 := by unfold normDur; rw [if_pos (by omega)]
        have hen : encDur z = Lib.uvarint 0 := by unfold encDur; rw [if_pos (by omega)]
        have HE : Hid (l.head ++ (l.ans.take (k + 1)).flatMap encDur = l.head ++ (l.ans.take k).flatMap encDur ++ Lib.uvarint 0) := by show _ = _; rw [HF.out, hen, List.append_assoc]
        have hneg : ¬ (0 : Int) ≤ z := hz0
        rw [hnz] at HS HSame
        by_cases hm1 : z = -1
        · have HP : Hid (partZ l.ans k = partZ l.ans (k + 1)) := HSame.out hm1.symm
          subst hm1
          clear hnz hen HSame HS HF
          go_wp2_with fail
          refine (uint_any eb wr.heap.size 0 0 (by decide) svr _ _ (sr.alloc _).enc (by simp [go_sem]) HL2.out).mono ?_
          rintro e w8 ⟨rfl, sv8, e8, v8⟩
          obtain ⟨s8, b8, d8, f8, g8⟩ := hafter 0 0 w8 sv8 rfl e8 v8
          clear hafter
          go_wp2_with fail
          go_roundw
          case rel => exact ⟨k + 1, sv8, by go_num, by omega, by rw [HE.out, ← HP.out]; exact s8⟩
          case measure => simp [intOf]; omega
        · have hne : ((-1 : Int) != z) = true := by rw [bne_iff_ne]; omega
          clear hnz hen HSame HF
          go_wp2_with fail
          refine (uint_any eb wr.heap.size 0 0 (by decide) svr _ _ (sr.alloc _).enc (by simp [go_sem]) HL2.out).mono ?_
          rintro e w8 ⟨rfl, sv8, e8, v8⟩
          obtain ⟨s8, b8, d8, f8, g8⟩ := hafter 0 0 w8 sv8 rfl e8 v8
          clear hafter
          go_wp2_with fail
          go_roundw
          case rel => exact ⟨k + 1, sv8, by go_num, by omega, by rw [HE.out, ← HS.out]; exact s8.stored hav' (by rw [partZ_len, HN.out]) k (-1)⟩
          case measure => simp [intOf]; omega
    · go_wp2
      go_end0
      have : k = n := by omega
      subst this
      refine ⟨rfl, svr, ?_⟩
      have e1 : l.ans.take k = l.ans := List.take_of_length_le (by rw [HN.out]; exact Nat.le_refl _)
      have e2 : partZ l.ans k = l.ans.map normDur := by unfold partZ; rw [e1, List.drop_of_length_le (by rw [HN.out]; exact Nat.le_refl _), List.append_nil]
      rw [e1, e2] at sr
      exact sr

end Go.Proofs.Qxb6613770a
