import Derived.Test.Qxb6613770aEnc
namespace Go.Proofs.Qxb6613770a
set_option linter.unusedVariables false
set_option linter.unusedSimpArgs false
open Go.RowKit

/-- A reader in block rb over the row in block b, whose bytes are bs: what is left is rest. -/
structure Rd (w : World) (rb b n c i : Nat) (bs rest : List UInt8) : Prop where
  rd : RdAt w rb (.slice (some ⟨b, 0, none⟩) n c) i true
  bytes : BytesAt w (some ⟨b, 0, none⟩) bs
  ne : b ≠ rb
  len : bs.length = n
  max : n ≤ maxLen
  le : i ≤ n
  drop : bs.drop i = rest

theorem Rd.keep {S : Nat → Prop} {w w' : World} {rb b n c i : Nat} {bs rest : List UInt8} (h : Rd w rb b n c i bs rest) (hk : Kept S w w') (h1 : ¬ S rb) (h2 : ¬ S b) : Rd w' rb b n c i bs rest :=
  ⟨h.rd.kept hk h1, h.bytes.kept hk (fun b' ⟨o, e⟩ => by simp at e; rw [← e.1]; exact h2), h.ne, h.len, h.max, h.le, h.drop⟩

theorem Rd.step {w w' : World} {rb b n c i m : Nat} {bs enc rest : List UInt8} (h : Rd w rb b n c i bs (enc ++ rest)) (hm : enc.length = m) (hr : RdAt w' rb (.slice (some ⟨b, 0, none⟩) n c) (i + m) true) (hk : Kept (fun k => k = rb) w w') : Rd w' rb b n c (i + m) bs rest := by
  subst hm
  refine ⟨hr, h.bytes.kept hk (fun b' ⟨o, e⟩ => by simp at e; rw [← e.1]; exact h.ne), h.ne, h.len, h.max, ?_, ?_⟩
  · have := congrArg List.length h.drop
    rw [List.length_drop, h.len, List.length_append] at this
    have := h.le
    omega
  · rw [← List.drop_drop, h.drop, List.drop_left]

set_option maxHeartbeats 2000000 in
set_option maxRecDepth 100000 in
/-- wantUint. -/
theorem wantUint_any (rb b n c i x : Nat) (hx : x < 18446744073709551616) (bs rest : List UInt8) (w : World) (h : Rd w rb b n c i bs (Lib.uvarint x ++ rest)) :
    Calls Try.prog 13 #[.pointer (some ⟨rb, 0, none⟩), .int .u64 x] w fun e w' => e = .returned (.tuple #[]) ∧ ∃ i', Rd w' rb b n c i' bs rest ∧ Kept (fun k => k = rb) w w' := by
  obtain ⟨c0, c1, c2, fz⟩ := h.rd.cells
  go_enter Try.func13, Try.ntmps13
  go_wp2_with fail
  refine (uv_any rb b 0 n c i x bs rest _ h.rd h.bytes h.ne h.len h.max hx h.drop).mono ?_
  rintro e w1 ⟨rfl, hr, hk⟩
  have hne : ((x : Int) != (x : Int)) = false := by simp
  go_wp2
  go_end0
  exact ⟨rfl, _, h.step rfl hr hk, hk⟩

set_option maxRecDepth 100000 in
/-- wantBool. -/
theorem wantBool_any (rb b n c i : Nat) (v : Bool) (bs rest : List UInt8) (w : World) (h : Rd w rb b n c i bs (encB v ++ rest)) :
    Calls Try.prog 16 #[.pointer (some ⟨rb, 0, none⟩), .bool v] w fun e w' => e = .returned (.tuple #[]) ∧ ∃ i', Rd w' rb b n c i' bs rest ∧ Kept (fun k => k = rb) w w' := by
  cases v with
  | false =>
    go_enter Try.func16, Try.ntmps16
    go_wp2_with fail
    refine (wantUint_any rb b n c i 0 (by decide) bs rest _ h).mono ?_
    rintro e w1 ⟨rfl, hq⟩
    go_wp2
    go_end0
    exact ⟨rfl, hq⟩
  | true =>
    go_enter Try.func16, Try.ntmps16
    go_wp2_with fail
    refine (wantUint_any rb b n c i 1 (by decide) bs rest _ h).mono ?_
    rintro e w1 ⟨rfl, hq⟩
    go_wp2
    go_end0
    exact ⟨rfl, hq⟩

theorem str_byte {w : World} {b n c rb i j : Nat} {bs rest : List UInt8} {s : ByteArray} (h : Rd w rb b n c i bs (s.data.toList ++ rest)) (hj : j < s.size) : w.cell? ⟨b, i + j, none⟩ = some (.int .u8 (s[j].toNat : Int)) := by
  have hl := h.len
  have hd := congrArg List.length h.drop
  rw [List.length_drop, List.length_append, size_toList] at hd
  have hij : i + j < bs.length := by omega
  rcases h.bytes with hb | ⟨b', o, e, g⟩
  · rw [hb] at hij; simp at hij
  · simp at e
    obtain ⟨rfl, rfl⟩ := e
    have := g (i + j) hij
    rw [Nat.zero_add] at this
    rw [this]
    have e2 : bs[i + j] = s[j] := by
      have h1 : (bs.drop i)[j]? = some bs[i + j] := by rw [List.getElem?_drop, List.getElem?_eq_getElem hij]
      rw [h.drop, List.getElem?_append_left (by rw [size_toList]; exact hj)] at h1
      have h2 : s.data.toList[j]? = some s[j] := by
        rw [List.getElem?_eq_getElem (by rw [size_toList]; exact hj)]; rfl
      rw [h2] at h1
      exact (Option.some.inj h1).symm
    rw [e2]

set_option maxHeartbeats 4000000 in
set_option maxRecDepth 100000 in
/-- wantString. -/
theorem wantString_any (rb b n c i : Nat) (s : ByteArray) (hs : s.size ≤ 1048576) (bs rest : List UInt8) (w : World) (h : Rd w rb b n c i bs (encStr s.data.toList ++ rest)) :
    Calls Try.prog 15 #[.pointer (some ⟨rb, 0, none⟩), .string s] w fun e w' => e = .returned (.tuple #[]) ∧ ∃ i', Rd w' rb b n c i' bs rest ∧ Kept (fun k => k = rb) w w' := by
  obtain ⟨c0, c1, c2, fz⟩ := h.rd.cells
  have hd1 : bs.drop i = Lib.uvarint s.size ++ (s.data.toList ++ rest) := by
    rw [h.drop]; unfold encStr; rw [size_toList, List.append_assoc]
  have hu : Rd w rb b n c i bs (Lib.uvarint s.size ++ (s.data.toList ++ rest)) := ⟨h.rd, h.bytes, h.ne, h.len, h.max, h.le, hd1⟩
  have HU : Hid (bs.drop i = Lib.uvarint s.size ++ (s.data.toList ++ rest)) := hd1
  have hs' : (s.size : Int) ≤ 1048576 := by omega
  have hmax := h.max
  unfold maxLen at hmax
  clear hd1
  go_enter Try.func15, Try.ntmps15
  go_wp2_with fail
  refine (uv_any rb b 0 n c i s.size bs (s.data.toList ++ rest) _ h.rd h.bytes h.ne h.len h.max (by omega) HU.out).mono ?_
  rintro e w1 ⟨rfl, hr, hk⟩
  have h1 := hu.step rfl hr hk
  generalize hi1 : i + (Lib.uvarint s.size).length = i1 at *
  obtain ⟨d0, d1, d2, fz1⟩ := h1.rd.cells
  have hin : i1 + s.size ≤ n := by
    have := congrArg List.length h1.drop
    rw [List.length_drop, h1.len, List.length_append, size_toList] at this
    have := h1.le
    omega
  have g1 : ((s.size : Int) != (s.size : Int)) = false := by simp
  have g2 : decide ((n : Int) - (i1 : Int) < (s.size : Int)) = false := decide_eq_false (by omega)
  have g3 : ¬ ((n : Int) - (i1 : Int) < (s.size : Int)) := by omega
  have hi1' : (i1 : Int) ≤ (n : Int) := by omega
  have hn' : (n : Int) ≤ 9223372036854775807 := by omega
  clear hi1 c0 c1 c2 fz hr
  go_wp2
  go_quiet (fail)
  go_wp2
  go_loopw [5] (fun v5 wr => ∃ k : Nat, v5 = .int .i64 k ∧ k ≤ s.size ∧ Same w1 wr) (fun v5 _ => s.size - (intOf v5).toNat)
  case atStart => exact ⟨0, rfl, Nat.zero_le _, Same.ofDraws ⟨nq, rfl⟩⟩
  case round =>
    obtain ⟨k, rfl, hk5, hsm⟩ := hrel
    have e0 : wr.cell? ⟨rb, 0, none⟩ = some (.slice (some ⟨b, 0, none⟩) n c) := by rw [hsm.cell]; exact d0
    have e1 : wr.cell? ⟨rb, 1, none⟩ = some (.int .i64 (i1 : Int)) := by rw [hsm.cell]; exact d1
    have ef : ∀ o, wr.frozen? ⟨rb, o, none⟩ = false := fun o => by rw [hsm.frozen]; exact fz1 o
    by_cases hlt : k < s.size
    · have e3 : wr.cell? ⟨b, i1 + k, none⟩ = some (.int .u8 (s[k].toNat : Int)) := by rw [hsm.cell]; exact str_byte h1 hlt
      have hlt' : (k : Int) < (s.size : Int) := by omega
      have hik : (i1 : Int) + (k : Int) < (n : Int) := by omega
      have g4 : ((s[k].toNat : Int) != (s[k].toNat : Int)) = false := by simp
      go_wp2
      go_quiet (fail)
      go_wp2
      go_roundw
      case rel => exact ⟨k + 1, by go_num, by omega, hsm.trans (Same.ofDraws ⟨_, rfl⟩)⟩
      case measure => simp [intOf]; omega
    · go_wp2
      go_end0
      have hke : k = s.size := by omega
      have hr2 : RdAt wr rb (.slice (some ⟨b, 0, none⟩) n c) i1 true := by unfold RdAt; rw [hsm.heap]; exact h1.rd
      have hk2 : Kept (fun k => k = rb) w1 (wr.setCell ⟨rb, 1, none⟩ (.int .i64 ((i1 : Int) + (s.size : Int)))) := (hsm.kept (S := fun k => k = rb)).setCell (p := ⟨rb, 1, none⟩) (fun _ => rfl) _
      exact ⟨rfl, _, h1.step (size_toList s) (hr2.setI' (i1 + s.size) _ (by omega)) hk2, hk.trans hk2 (fun _ _ e => e)⟩

set_option maxHeartbeats 2000000 in
set_option maxRecDepth 100000 in
/-- wantBallot. -/
theorem wantBallot_any (rb b n c i r : Nat) (hr : r < 18446744073709551616) (s : ByteArray) (hs : s.size ≤ 1048576) (bs rest : List UInt8) (w : World) (h : Rd w rb b n c i bs (encBallot r s.data.toList ++ rest)) :
    Calls Try.prog 14 #[.pointer (some ⟨rb, 0, none⟩), .agg #[.int .u64 r, .string s]] w fun e w' => e = .returned (.tuple #[]) ∧ ∃ i', Rd w' rb b n c i' bs rest ∧ Kept (fun k => k = rb) w w' := by
  have ha : Rd (w.alloc (.cells #[.int .u64 r, .string s] 24)) rb b n c i bs (Lib.uvarint r ++ (encStr s.data.toList ++ rest)) := by
    have := h.keep ((Kept.refl (fun _ => False) w).alloc (.cells #[.int .u64 r, .string s] 24)) (fun h => h) (fun h => h)
    exact ⟨this.rd, this.bytes, this.ne, this.len, this.max, this.le, by rw [this.drop]; unfold encBallot; rw [List.append_assoc]⟩
  have hrl := h.rd.lt
  go_enter Try.func14, Try.ntmps14
  go_wp2_with fail
  refine (wantUint_any rb b n c i r hr bs _ _ ha).mono ?_
  rintro e w1 ⟨rfl, i1, h1, hk1⟩
  have c1 : w1.cell? ⟨w.heap.size, 1, none⟩ = some (.string s) := hk1.cell' (by simp [go_sem]) (by simp; omega)
  go_wp2_with fail
  refine (wantString_any rb b n c i1 s hs bs rest _ h1).mono ?_
  rintro e w2 ⟨rfl, i2, h2, hk2⟩
  go_wp2
  go_end0
  exact ⟨rfl, i2, h2, (((Kept.refl (fun k => k = rb) w).alloc _).trans hk1 (fun _ _ e => e)).trans hk2 (fun _ _ e => e)⟩

end Go.Proofs.Qxb6613770a
