import Derived.Test.Qxb6613770aLocM
namespace Go.Proofs.Qxb6613770a
set_option linter.unusedVariables false
set_option linter.unusedSimpArgs false
open Go.RowKit

/-! ### Plain data -/
structure Ver where
  slot : Nat
  br : Nat
  bn : ByteArray
structure Tx where
  id : Ver
  keys : List (List UInt8)
  com : Bool
  del : Bool
  val : List UInt8
  ver : Ver
structure Rec where
  pr : Nat
  pn : ByteArray
  slot : Nat
  br : Nat
  bn : ByteArray
  leader : ByteArray
  del : Bool
  val : List UInt8
  ver : Ver
  txn : Option Tx

def Ver.enc (v : Ver) : List UInt8 := Lib.uvarint v.slot ++ encBallot v.br v.bn.data.toList
def Tx.head (t : Tx) : List UInt8 := t.id.enc ++ Lib.uvarint t.keys.length
def Tx.tail (t : Tx) : List UInt8 := encB t.com ++ (encB t.del ++ (encStr t.val ++ t.ver.enc))
def Tx.enc (t : Tx) : List UInt8 := t.head ++ (t.keys.flatMap encStr ++ t.tail)
def encTxn : Option Tx → List UInt8
  | none => []
  | some t => t.enc
def Rec.enc (r : Rec) : List UInt8 := encBallot r.pr r.pn.data.toList ++ (Lib.uvarint r.slot ++ (encBallot r.br r.bn.data.toList ++ (encStr r.leader.data.toList ++ (encB r.del ++ (encStr r.val ++ (r.ver.enc ++ (encB r.txn.isSome ++ encTxn r.txn)))))))

structure Ver.Ok (v : Ver) : Prop where
  slot : v.slot < 18446744073709551616
  br : v.br < 18446744073709551616
structure Tx.Ok (t : Tx) : Prop where
  id : t.id.Ok
  ver : t.ver.Ok
  sizes : t.id.bn.size + t.ver.bn.size + t.val.length + t.keys.length + (t.keys.map List.length).sum ≤ 1048576
structure Rec.Ok (r : Rec) : Prop where
  pr : r.pr < 18446744073709551616
  slot : r.slot < 18446744073709551616
  br : r.br < 18446744073709551616
  ver : r.ver.Ok
  txn : ∀ t, r.txn = some t → t.Ok
  sizes : r.pn.size + r.bn.size + r.leader.size + r.val.length + r.ver.bn.size ≤ 1048576

/-! ### Memory -/
/-- Whatever could be read in w reads so in w'. -/
def Ext (w w' : World) : Prop := ∀ p v, w.cell? p = some v → w'.cell? p = some v
theorem Ext.refl (w : World) : Ext w w := fun _ _ h => h
theorem Ext.trans {a b c : World} (h : Ext a b) (k : Ext b c) : Ext a c := fun p v e => k p v (h p v e)
theorem Kept.ext {S : Nat → Prop} {w w' : World} (h : Kept S w w') (hS : ∀ i, i < w.heap.size → ¬ S i) : Ext w w' :=
  fun p v e => h.cell' e (hS _ (World.block_lt_of_cell? w _ e))
theorem Kept.ext0 {w w' : World} (h : Kept (fun _ => False) w w') : Ext w w' := h.ext (fun _ _ h => h)
theorem Ext.alloc {a w : World} (h : Ext a w) (o : Obj) : Ext a (w.alloc o) := h.trans ((Kept.refl (fun _ => False) w).alloc o).ext0
theorem Same.ext {w w' : World} (h : Same w w') : Ext w w' := (h.kept (S := fun _ => False)).ext0

theorem BytesAt.ext {w w' : World} {a : Option Addr} {bs : List UInt8} (h : BytesAt w a bs) (he : Ext w w') : BytesAt w' a bs := by
  rcases h with h | ⟨b, off, rfl, g⟩
  · exact .inl h
  · exact .inr ⟨b, off, rfl, fun j hj => he _ _ (g j hj)⟩

/-- A slice of bytes. -/
structure Bs (w : World) (a : Option Addr) (n c : Nat) (bs : List UInt8) : Prop where
  at_ : BytesAt w a bs
  len : bs.length = n
  nil : a = none → n = 0 ∧ c = 0
theorem Bs.ext {w w' : World} {a : Option Addr} {n c : Nat} {bs : List UInt8} (h : Bs w a n c bs) (he : Ext w w') : Bs w' a n c bs := ⟨h.at_.ext he, h.len, h.nil⟩

structure VerAt (w : World) (b o : Nat) (v : Ver) : Prop where
  c0 : w.cell? ⟨b, o, none⟩ = some (.int .u64 v.slot)
  c1 : w.cell? ⟨b, o + 1, none⟩ = some (.int .u64 v.br)
  c2 : w.cell? ⟨b, o + 2, none⟩ = some (.string v.bn)
theorem VerAt.ext {w w' : World} {b o : Nat} {v : Ver} (h : VerAt w b o v) (he : Ext w w') : VerAt w' b o v := ⟨he _ _ h.c0, he _ _ h.c1, he _ _ h.c2⟩

/-- A slice of slices of bytes. -/
structure Keys (w : World) (a : Option Addr) (n c : Nat) (keys : List (List UInt8)) : Prop where
  at_ : keys = [] ∨ ∃ b off, a = some ⟨b, off, none⟩ ∧ ∀ j (hj : j < keys.length), ∃ a' n' c', w.cell? ⟨b, off + j, none⟩ = some (.slice a' n' c') ∧ Bs w a' n' c' keys[j]
  len : keys.length = n
  nil : a = none → n = 0 ∧ c = 0
theorem Keys.ext {w w' : World} {a : Option Addr} {n c : Nat} {keys : List (List UInt8)} (h : Keys w a n c keys) (he : Ext w w') : Keys w' a n c keys := by
  refine ⟨?_, h.len, h.nil⟩
  rcases h.at_ with h | ⟨b, off, rfl, g⟩
  · exact .inl h
  · refine .inr ⟨b, off, rfl, fun j hj => ?_⟩
    obtain ⟨a', n', c', h1, h2⟩ := g j hj
    exact ⟨a', n', c', he _ _ h1, h2.ext he⟩

/-- A transaction's mark (or its mirror) at b, o; its slices (ka, kn, kc) and (va, vn, vc). -/
structure TxAt (w : World) (b o : Nat) (t : Tx) (ka : Option Addr) (kn kc : Nat) (va : Option Addr) (vn vc : Nat) : Prop where
  id : VerAt w b o t.id
  ck : w.cell? ⟨b, o + 3, none⟩ = some (.slice ka kn kc)
  keys : Keys w ka kn kc t.keys
  cc : w.cell? ⟨b, o + 4, none⟩ = some (.bool t.com)
  cd : w.cell? ⟨b, o + 5, none⟩ = some (.bool t.del)
  cv : w.cell? ⟨b, o + 6, none⟩ = some (.slice va vn vc)
  val : Bs w va vn vc t.val
  ver : VerAt w b (o + 7) t.ver
theorem TxAt.ext {w w' : World} {b o : Nat} {t : Tx} {ka : Option Addr} {kn kc : Nat} {va : Option Addr} {vn vc : Nat} (h : TxAt w b o t ka kn kc va vn vc) (he : Ext w w') : TxAt w' b o t ka kn kc va vn vc :=
  ⟨h.id.ext he, he _ _ h.ck, h.keys.ext he, he _ _ h.cc, he _ _ h.cd, he _ _ h.cv, h.val.ext he, h.ver.ext he⟩

/-- A pointer to a mark, or nil. -/
def TxnAt (w : World) (p : Option Addr) : Option Tx → Prop
  | none => p = none
  | some t => ∃ b o ka kn kc va vn vc, p = some ⟨b, o, none⟩ ∧ TxAt w b o t ka kn kc va vn vc
theorem TxnAt.ext {w w' : World} {p : Option Addr} {t : Option Tx} (h : TxnAt w p t) (he : Ext w w') : TxnAt w' p t := by
  cases t with
  | none => exact h
  | some t =>
    obtain ⟨b, o, ka, kn, kc, va, vn, vc, rfl, g⟩ := h
    exact ⟨b, o, ka, kn, kc, va, vn, vc, rfl, g.ext he⟩

/-- What a record leads to. -/
structure RecMem (w : World) (r : Rec) (va : Option Addr) (vn vc : Nat) (tp : Option Addr) : Prop where
  val : Bs w va vn vc r.val
  txn : TxnAt w tp r.txn
theorem RecMem.ext {w w' : World} {r : Rec} {va : Option Addr} {vn vc : Nat} {tp : Option Addr} (h : RecMem w r va vn vc tp) (he : Ext w w') : RecMem w' r va vn vc tp := ⟨h.val.ext he, h.txn.ext he⟩

/-- The cells of a record (or of its mirror) in block b. -/
structure RecAt (w : World) (b : Nat) (r : Rec) (va : Option Addr) (vn vc : Nat) (tp : Option Addr) : Prop where
  c0 : w.cell? ⟨b, 0, none⟩ = some (.int .u64 r.pr)
  c1 : w.cell? ⟨b, 1, none⟩ = some (.string r.pn)
  c2 : w.cell? ⟨b, 2, none⟩ = some (.int .u64 r.slot)
  c3 : w.cell? ⟨b, 3, none⟩ = some (.int .u64 r.br)
  c4 : w.cell? ⟨b, 4, none⟩ = some (.string r.bn)
  c5 : w.cell? ⟨b, 5, none⟩ = some (.string r.leader)
  c6 : w.cell? ⟨b, 6, none⟩ = some (.bool r.del)
  c7 : w.cell? ⟨b, 7, none⟩ = some (.slice va vn vc)
  ver : VerAt w b 8 r.ver
  c11 : w.cell? ⟨b, 11, none⟩ = some (.pointer tp)
theorem RecAt.ext {w w' : World} {b : Nat} {r : Rec} {va : Option Addr} {vn vc : Nat} {tp : Option Addr} (h : RecAt w b r va vn vc tp) (he : Ext w w') : RecAt w' b r va vn vc tp :=
  ⟨he _ _ h.c0, he _ _ h.c1, he _ _ h.c2, he _ _ h.c3, he _ _ h.c4, he _ _ h.c5, he _ _ h.c6, he _ _ h.c7, h.ver.ext he, he _ _ h.c11⟩

/-- A record's value. -/
def recVal (r : Rec) (va : Option Addr) (vn vc : Nat) (tp : Option Addr) : Value := .agg #[.int .u64 r.pr, .string r.pn, .int .u64 r.slot, .int .u64 r.br, .string r.bn, .string r.leader, .bool r.del, .slice va vn vc, .int .u64 r.ver.slot, .int .u64 r.ver.br, .string r.ver.bn, .pointer tp]

/-! ### The encoding's state -/
structure SR (w0 wr : World) (eb : Nat) (sv : Value) (bs : List UInt8) : Prop where
  enc : EncAt wr eb sv bs
  at_ : w0.heap.size ≤ eb
  row : ∀ k, sv.ownBlock = some k → w0.heap.size ≤ k
  kept : Kept (fun _ => False) w0 wr

theorem SR.ext {w0 wr : World} {eb : Nat} {sv : Value} {bs : List UInt8} (h : SR w0 wr eb sv bs) : Ext w0 wr := h.kept.ext0
theorem SR.moved {w0 wr w' : World} {eb : Nat} {sv sv' : Value} {bs bs' : List UInt8} (h : SR w0 wr eb sv bs) (hm : Moved eb sv wr sv' w') (he : EncAt w' eb sv' bs') : SR w0 w' eb sv' bs' := by
  refine ⟨he, h.at_, fun k hk => ?_, h.kept.trans hm.kept (fun i hi e => ?_)⟩
  · rcases hm.row k hk with h1 | h1
    · exact h.row k h1
    · exact Nat.le_trans h.kept.size h1
  · rcases e with e | e
    · have := h.at_; omega
    · have := h.row i e; omega
theorem SR.drew {w0 wr : World} {eb : Nat} {sv : Value} {bs : List UInt8} (h : SR w0 wr eb sv bs) : SR w0 wr.drew eb sv bs := ⟨h.enc.drew, h.at_, h.row, h.kept.drew⟩
theorem SR.drewN {w0 wr : World} {eb : Nat} {sv : Value} {bs : List UInt8} (h : SR w0 wr eb sv bs) (n : Nat) : SR w0 (wr.drewN n) eb sv bs := ⟨h.enc.drewN n, h.at_, h.row, h.kept.drewN n⟩
theorem SR.alloc {w0 wr : World} {eb : Nat} {sv : Value} {bs : List UInt8} (h : SR w0 wr eb sv bs) (o : Obj) : SR w0 (wr.alloc o) eb sv bs := ⟨h.enc.alloc o, h.at_, h.row, h.kept.alloc o⟩
theorem SR.ne {w0 wr : World} {eb : Nat} {sv : Value} {bs : List UInt8} (h : SR w0 wr eb sv bs) {p : Addr} {v : Value} (hv : w0.cell? p = some v) : p.block ≠ eb ∧ sv.ownBlock ≠ some p.block := by
  have h1 := World.block_lt_of_cell? w0 _ hv
  have h2 := h.at_
  exact ⟨by omega, fun e => by have := h.row _ e; omega⟩

theorem Bs.src {w : World} {a : Option Addr} {n c : Nat} {xs : List UInt8} (h : Bs w a n c xs) : Src Try.prog 1 35 (.slice a n c) n (Lib.byteCells xs) w := by
  cases a with
  | none =>
    obtain ⟨h1, h2⟩ := h.nil rfl
    have h3 := h.len
    subst h1
    have : xs = [] := List.length_eq_zero_iff.1 h3
    subst this
    exact Src.ofNil w Try.underlying35 c
  | some x =>
    refine Src.ofSlice w Try.underlying35 x n c _ (by rw [byteCells_len, h.len, Nat.mul_one]) (fun j u hu => ?_) (byteCells_one xs)
    have hj := (List.getElem?_eq_some_iff.1 hu).1
    exact bytes_src h.at_ (by omega) j u hu

set_option maxHeartbeats 2000000 in
set_option maxRecDepth 100000 in
/-- encoder.bytes. -/
theorem bytes_any (w0 w : World) (eb : Nat) (a : Option Addr) (n c : Nat) (xs : List UInt8) (sv : Value) (bs : List UInt8) (hs : SR w0 w eb sv bs) (hb : Bs w0 a n c xs) (hlim : bs.length + 10 + n ≤ 140737488355328) :
    Calls Try.prog 87 #[.pointer (some ⟨eb, 0, none⟩), .slice a n c] w fun e w' => e = .returned (.tuple #[]) ∧ ∃ sv', SR w0 w' eb sv' (bs ++ encStr xs) := by
  obtain ⟨i0, hi, hz0, hz1, hz2⟩ := info_parts info5
  have hc := hs.enc.cell
  have hs' : (n : Int) ≤ 140737488355328 := by omega
  have hul : (Lib.uvarint n).length ≤ 10 := Lib.uvarint_length64 (by omega)
  have HB : Hid (Bs w0 a n c xs) := hb
  clear hb
  go_enter Try.func87, Try.ntmps87
  go_wp2_with fail
  refine (au_any n (by omega) sv bs.length (Lib.byteCells bs) _ hs.enc.own (by omega)).mono ?_
  rintro e w' ⟨v', rfl, h1, h2⟩
  obtain ⟨c1, f1⟩ := push_cells hs.enc h2
  obtain ⟨a', k', rfl⟩ := owns_slice h1
  obtain ⟨q1, q2⟩ := enc_store hs.enc h1 h2
  have s1 := hs.moved q2 q1
  have hsrc := (HB.out.ext s1.ext).src
  have hown1 := q1.own
  rw [List.length_append] at hown1
  generalize hN : bs.length + (Lib.uvarint n).length = N1 at *
  have HN : Hid (bs.length + (Lib.uvarint n).length = N1) := hN
  have hN1 : N1 + n ≤ 140737488355328 := by omega
  clear hN
  go_wp2_with (at_builtin; refine wpList_append_bytes rfl _ _ 35 35 rfl 5 i0 Try.underlying35 hi hz0 hz1 hz2 _ _ _ rfl hown1 _ n (Lib.byteCells xs) rfl hsrc hN1 ?_)
  intro v2 w2 o2 p2
  obtain ⟨c2, f2⟩ := push_cells q1 p2
  obtain ⟨a2, k2, rfl⟩ := owns_slice o2
  have o2' : w2.ownsRow 0 5 1 (Value.slice a2 (N1 + n) k2) ((bs ++ Lib.uvarint n).length + xs.length) (Lib.byteCells (bs ++ Lib.uvarint n) ++ Lib.byteCells xs) := by
    rw [HB.out.len, List.length_append, HN.out]; exact o2
  obtain ⟨r1, r2⟩ := enc_store q1 o2' p2
  have s2 := s1.moved r2 r1
  clear o2 o2' hown1 r1 r2 q1 q2
  go_wp2
  go_end0
  refine ⟨rfl, .slice a2 (N1 + n) k2, ?_⟩
  unfold encStr
  rw [HB.out.len, ← List.append_assoc]
  exact s2

set_option maxHeartbeats 2000000 in
set_option maxRecDepth 100000 in
/-- encoder.key. -/
theorem key_any (w0 w : World) (eb vb vo : Nat) (a : Option Addr) (n c : Nat) (xs : List UInt8) (sv : Value) (bs : List UInt8) (hs : SR w0 w eb sv bs) (hv : w0.cell? ⟨vb, vo, none⟩ = some (.slice a n c)) (hb : Bs w0 a n c xs) (hlim : bs.length + 10 + n ≤ 140737488355328) :
    Calls Try.prog 83 #[.pointer (some ⟨eb, 0, none⟩), .pointer (some ⟨vb, vo, none⟩)] w fun e w' => e = .returned (.tuple #[]) ∧ ∃ sv', SR w0 w' eb sv' (bs ++ encStr xs) := by
  have hc := hs.ext _ _ hv
  go_enter Try.func83, Try.ntmps83
  go_wp2_with fail
  refine (bytes_any w0 w eb a n c xs sv bs hs hb hlim).mono ?_
  rintro e w1 ⟨rfl, q⟩
  go_wp2
  go_end0
  exact ⟨rfl, q⟩

set_option maxHeartbeats 2000000 in
set_option maxRecDepth 100000 in
/-- encoder.value. -/
theorem value_any (w0 w : World) (eb vb vo : Nat) (a : Option Addr) (n c : Nat) (xs : List UInt8) (sv : Value) (bs : List UInt8) (hs : SR w0 w eb sv bs) (hv : w0.cell? ⟨vb, vo, none⟩ = some (.slice a n c)) (hb : Bs w0 a n c xs) (hlim : bs.length + 10 + n ≤ 140737488355328) :
    Calls Try.prog 86 #[.pointer (some ⟨eb, 0, none⟩), .pointer (some ⟨vb, vo, none⟩)] w fun e w' => e = .returned (.tuple #[]) ∧ ∃ sv', SR w0 w' eb sv' (bs ++ encStr xs) := by
  have hc := hs.ext _ _ hv
  go_enter Try.func86, Try.ntmps86
  go_wp2_with fail
  refine (bytes_any w0 w eb a n c xs sv bs hs hb hlim).mono ?_
  rintro e w1 ⟨rfl, q⟩
  go_wp2
  go_end0
  exact ⟨rfl, q⟩

set_option maxHeartbeats 2000000 in
set_option maxRecDepth 100000 in
/-- Version.walk. -/
theorem version_any (w0 w : World) (eb vb vo : Nat) (v : Ver) (hv : v.Ok) (hz : v.bn.size ≤ 1048576) (sv : Value) (bs : List UInt8) (hs : SR w0 w eb sv bs) (hm : VerAt w0 vb vo v) (hlim : bs.length + 30 + v.bn.size ≤ 140737488355328) :
    Calls Try.prog 58 #[.pointer (some ⟨vb, vo, none⟩), .iface 79 (.pointer (some ⟨eb, 0, none⟩))] w fun e w' => e = .returned (.tuple #[]) ∧ ∃ sv', SR w0 w' eb sv' (bs ++ v.enc) := by
  have n1 := nil_uint ⟨eb, 0, none⟩
  have n2 := met_uint ⟨eb, 0, none⟩
  conv at n1 in (nameAt _ _) => whnf
  conv at n2 in (nameAt _ _) => whnf
  have hul := Lib.uvarint_length64 hv.slot
  have m0 := hm.ext hs.ext
  go_enter Try.func58, Try.ntmps58
  go_wp2
  go_region_with (go_at_call 52; refine (uint_any eb vb vo v.slot hv.slot sv bs _ hs.drew.enc m0.c0 (by omega)).mono ?_; rintro e w1 ⟨rfl, sv1, h1, h2⟩)
  have s1 := hs.drew.moved h2 h1
  have m1 := hm.ext s1.ext
  clear h1 h2 m0
  go_wp2_with fail
  refine (ballot_any eb vb (vo + 1) v.br hv.br v.bn (by omega) sv1 _ _ s1.enc m1.c1 m1.c2 (s1.ne hm.c0).1 (s1.ne hm.c0).2 (by rw [List.length_append]; omega)).mono ?_
  rintro e w2 ⟨rfl, sv2, h1, h2⟩
  have s2 := s1.moved h2 h1
  go_wp2
  go_end0
  refine ⟨rfl, sv2, ?_⟩
  unfold Ver.enc
  rw [← List.append_assoc]
  exact s2

end Go.Proofs.Qxb6613770a
