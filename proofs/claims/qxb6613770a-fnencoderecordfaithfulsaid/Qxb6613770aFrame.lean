import Derived.Below
import Derived.OwnWalk
import Derived.Deep.Draws
import Derived.Deep.AppendSrc
import Derived.Lib.VarintMem
import Derived.Deep.RegionLaw
namespace Go.Proofs.Qxb6613770a
set_option linter.unusedVariables false
set_option linter.unusedSimpArgs false
open Go.RowKit

/-- Blocks of w outside S are as they were; no block has gone; the streams are as they were. -/
structure Kept (S : Nat → Prop) (w w' : World) : Prop where
  os : w'.os = w.os
  tape : w'.tape = w.tape
  output : w'.output = w.output
  size : w.heap.size ≤ w'.heap.size
  block : ∀ k, k < w.heap.size → ¬ S k → w'.heap[k]? = w.heap[k]?

theorem Kept.refl (S : Nat → Prop) (w : World) : Kept S w w := ⟨rfl, rfl, rfl, Nat.le_refl _, fun _ _ _ => rfl⟩

theorem Kept.trans {S T : Nat → Prop} {a b c : World} (h : Kept S a b) (k : Kept T b c) (hT : ∀ i, i < a.heap.size → T i → S i) : Kept S a c :=
  ⟨k.os.trans h.os, k.tape.trans h.tape, k.output.trans h.output, Nat.le_trans h.size k.size,
   fun i hi hS => (k.block i (Nat.lt_of_lt_of_le hi h.size) (fun t => hS (hT i hi t))).trans (h.block i hi hS)⟩

theorem Kept.mono {S T : Nat → Prop} {a b : World} (h : Kept S a b) (hT : ∀ i, i < a.heap.size → S i → T i) : Kept T a b :=
  ⟨h.os, h.tape, h.output, h.size, fun i hi hS => h.block i hi (fun t => hS (hT i hi t))⟩

theorem Kept.drew {S : Nat → Prop} {a w : World} (h : Kept S a w) : Kept S a w.drew := ⟨h.os, h.tape, h.output, h.size, h.block⟩
theorem Kept.drewN {S : Nat → Prop} {a w : World} (h : Kept S a w) (n : Nat) : Kept S a (w.drewN n) := ⟨h.os, h.tape, h.output, h.size, h.block⟩

theorem Kept.alloc {S : Nat → Prop} {a w : World} (h : Kept S a w) (o : Obj) : Kept S a (w.alloc o) :=
  h.trans (T := fun _ => False) ⟨rfl, rfl, rfl, by simp, fun k hk _ => Below.heap_alloc _ _ _ hk⟩ (fun _ _ h => h.elim)

theorem Kept.setCell {S : Nat → Prop} {a w : World} (h : Kept S a w) {p : Addr} (hp : p.block < a.heap.size → S p.block) (u : Value) : Kept S a (w.setCell p u) :=
  h.trans (T := fun k => k = p.block) ⟨rfl, rfl, rfl, by simp [World.setCell], fun k _ hk => Below.heap_setCell _ _ _ _ hk⟩ (fun i hi e => by subst e; exact hp hi)

theorem Kept.grown {S : Nat → Prop} {a w w' : World} {row : Option Nat} (h : Kept S a w) (hg : w.grownBy w' row) (hr : ∀ k, row = some k → k < a.heap.size → S k) : Kept S a w' :=
  h.trans (T := fun k => row = some k) ⟨hg.os, hg.tape, hg.output, hg.size, fun k hk hn => hg.block k hk (fun e => hn e.symm)⟩ (fun i hi e => hr i e hi)

theorem Kept.cell {S : Nat → Prop} {w w' : World} (h : Kept S w w') {p : Addr} (hp : p.block < w.heap.size) (hS : ¬ S p.block) : w'.cell? p = w.cell? p := World.cell?_of_block (w := w) (h.block p.block hp hS)

theorem Kept.cell' {S : Nat → Prop} {w w' : World} (h : Kept S w w') {p : Addr} {v : Value} (hv : w.cell? p = some v) (hS : ¬ S p.block) : w'.cell? p = some v :=
  (h.cell (World.block_lt_of_cell? w p hv) hS).trans hv

theorem Kept.frozen {S : Nat → Prop} {w w' : World} (h : Kept S w w') {p : Addr} (hp : p.block < w.heap.size) (hS : ¬ S p.block) : w'.frozen? p = w.frozen? p := World.frozen?_of_block (w := w) (h.block p.block hp hS)

theorem Kept.below {S : Nat → Prop} {w w' : World} (h : Kept S w w') {B : Nat} (hB : B ≤ w.heap.size) (hS : ∀ k, S k → B ≤ k) : Below B w w' :=
  ⟨h.os, h.tape, h.output, h.size, fun k hk => h.block k (by omega) (fun s => by have := hS k s; omega)⟩

theorem Kept.ofBelow {S : Nat → Prop} {w w' : World} {B : Nat} (h : Below B w w') (hS : ∀ k, B ≤ k → k < w.heap.size → S k) : Kept S w w' :=
  ⟨h.os, h.tape, h.output, h.size, fun k hk s => h.block k (by
    rcases Nat.lt_or_ge k B with h1 | h1
    · exact h1
    · exact absurd (hS k h1 hk) s)⟩

theorem Kept.owns {S : Nat → Prop} {w w' : World} (h : Kept S w w') {base : Nat} {e : TypeId} {size : Nat} {v : Value} {n : Nat} {xs : List Value} (ho : w.ownsRow base e size v n xs) (hS : ∀ k, v.ownBlock = some k → ¬ S k) : w'.ownsRow base e size v n xs := by
  refine ⟨ho.1, ?_⟩
  rcases ho.2 with hn | ⟨g, cap, cur, rfl, hb, hgg, rest⟩
  · exact .inl hn
  · refine .inr ⟨g, cap, cur, rfl, hb, ?_, rest⟩
    rw [h.block g (Array.getElem?_eq_some_iff.1 hgg).1 (hS g rfl)]
    exact hgg

/-- The memory is as it was. -/
structure Same (w w' : World) : Prop where
  os : w'.os = w.os
  tape : w'.tape = w.tape
  output : w'.output = w.output
  heap : w'.heap = w.heap

theorem Same.refl (w : World) : Same w w := ⟨rfl, rfl, rfl, rfl⟩
theorem Same.ofDraws {w w' : World} (h : ∃ n, w' = w.drewN n) : Same w w' := by obtain ⟨n, rfl⟩ := h; exact ⟨rfl, rfl, rfl, rfl⟩
theorem Same.trans {a b c : World} (h : Same a b) (k : Same b c) : Same a c := ⟨k.os.trans h.os, k.tape.trans h.tape, k.output.trans h.output, k.heap.trans h.heap⟩
theorem Same.kept {S : Nat → Prop} {w w' : World} (h : Same w w') : Kept S w w' := ⟨h.os, h.tape, h.output, by rw [h.heap]; exact Nat.le_refl _, fun _ _ _ => by rw [h.heap]⟩
theorem Same.cell {w w' : World} (h : Same w w') (p : Addr) : w'.cell? p = w.cell? p := by unfold World.cell?; rw [h.heap]
theorem Same.frozen {w w' : World} (h : Same w w') (p : Addr) : w'.frozen? p = w.frozen? p := by unfold World.frozen?; rw [h.heap]
theorem Same.below {w w' : World} (h : Same w w') (B : Nat) : Below B w w' := ⟨h.os, h.tape, h.output, by rw [h.heap]; exact Nat.le_refl _, fun _ _ => by rw [h.heap]⟩

/-- From (sv, w) to (sv', w'): only sv's own row has been written, and sv' lies in it or in a new block. -/
structure Push (sv : Value) (w : World) (sv' : Value) (w' : World) : Prop where
  kept : Kept (fun k => sv.ownBlock = some k) w w'
  row : ∀ k, sv'.ownBlock = some k → sv.ownBlock = some k ∨ w.heap.size ≤ k

theorem Push.refl (sv : Value) (w : World) : Push sv w sv w := ⟨Kept.refl _ _, fun _ h => .inl h⟩
theorem Push.trans {sv sv1 sv2 : Value} {w w1 w2 : World} (h : Push sv w sv1 w1) (k : Push sv1 w1 sv2 w2) : Push sv w sv2 w2 := by
  refine ⟨h.kept.trans k.kept (fun i hi e => ?_), fun i e => ?_⟩
  · rcases h.row i e with h1 | h1
    · exact h1
    · omega
  · rcases k.row i e with h1 | h1
    · exact h.row i h1
    · exact .inr (Nat.le_trans h.kept.size h1)

theorem Push.drew {sv sv1 : Value} {w w1 : World} (h : Push sv w sv1 w1) : Push sv w sv1 w1.drew := ⟨h.kept.drew, h.row⟩
theorem Push.alloc {sv sv1 : Value} {w w1 : World} (h : Push sv w sv1 w1) (o : Obj) : Push sv w sv1 (w1.alloc o) := ⟨h.kept.alloc o, h.row⟩

/-! ### append, whatever is appended, onto a slice of bytes that the call owns -/

theorem heap_setCells_at (g : Nat) (e : TypeId) (fr : Nat × Nat) : ∀ (vs : List Value) (o : Nat) (w : World) (cur : Array Value), w.heap[g]? = some (.cells cur e fr) → o + vs.length ≤ cur.size →
    ∃ cur', (w.setCells g o vs).heap[g]? = some (.cells cur' e fr) ∧ cur'.toList = cur.toList.take o ++ vs ++ cur.toList.drop (o + vs.length)
  | [], o, w, cur, h, _ => ⟨cur, h, by simp⟩
  | v :: r, o, w, cur, h, hl => by
    have h1 : (w.setCell ⟨g, o, none⟩ v).heap[g]? = some (.cells (cur.setIfInBounds o v) e fr) := by
      simp [World.setCell, Array.getElem?_modify, h]
    obtain ⟨cur', e1, e2⟩ := heap_setCells_at g e fr r (o + 1) (w.setCell ⟨g, o, none⟩ v) (cur.setIfInBounds o v) h1 (by simp at hl ⊢; omega)
    refine ⟨cur', e1, ?_⟩
    have ho : o < cur.toList.length := by simp at hl ⊢; omega
    rw [e2, Array.toList_setIfInBounds, List.take_add_one, List.take_set_of_le (by omega), List.getElem?_set_self ho, List.drop_set_of_lt (by omega)]
    simp [Nat.add_assoc, Nat.add_comm 1]

theorem heap_setCells_ne (g : Nat) : ∀ (vs : List Value) (o : Nat) (w : World) (k : Nat), k ≠ g → (w.setCells g o vs).heap[k]? = w.heap[k]?
  | [], _, _, _, _ => rfl
  | v :: r, o, w, k, h => by
    rw [World.setCells, heap_setCells_ne g r (o + 1) _ k h, Below.heap_setCell _ _ _ _ h]

theorem setCells_plain (g : Nat) : ∀ (vs : List Value) (o : Nat) (w : World), (w.setCells g o vs).os = w.os ∧ (w.setCells g o vs).tape = w.tape ∧ (w.setCells g o vs).output = w.output ∧ (w.setCells g o vs).heap.size = w.heap.size
  | [], _, _ => ⟨rfl, rfl, rfl, rfl⟩
  | v :: r, o, w => by
    have h := setCells_plain g r (o + 1) (w.setCell ⟨g, o, none⟩ v)
    refine ⟨h.1, h.2.1, h.2.2.1, ?_⟩
    rw [World.setCells, h.2.2.2]; simp [World.setCell]

theorem run_append_bytes {P : Program} (w : World) (t tx ty e : TypeId) (i : TypeInfo) (ht : P.underlying t = some (.slice e)) (hi : P.info? e = some i) (hz : i.zero = some (.int .u8 0)) (h1 : i.size = 1) (hb : i.bytes = 1)
    (v : Value) (n : Nat) (xs : List Value) (hown : w.ownsRow 0 e 1 v n xs) (x : Value) (m : Nat) (news : List Value) (hs : Src P 1 tx x m news w) (hlim : n + m ≤ 140737488355328) :
    ∃ v' w', (Builtin.append_ #[t, tx] ty #[v, x]).run P w = .ok v' w' ∧ w'.ownsRow 0 e 1 v' (n + m) (xs ++ news) ∧ Push v w v' w' := by
  have hxl : xs.length = n := by simpa using hown.1
  have hnl : news.length = m := by simpa using hs.newsLen
  have hlen : (xs ++ news).length = (n + m) * 1 := by rw [List.length_append, hxl, hnl, Nat.mul_one]
  have hs' : Src P i.size tx x m news w := by rw [h1]; exact hs
  have h63 : ((n + m : Nat) : Int) ≤ 9223372036854775807 := by omega
  have grown : ∀ (old : Nat), old < n + m →
      (w.drew.alloc (.cells ((xs ++ news).toArray ++ Builtin.zeroCells (Value.int .u8 0).cells (grownCap w (n + m) old e - (n + m))) e)).ownsRow 0 e 1
        (.slice (some ⟨w.heap.size, 0, none⟩) (n + m) (grownCap w (n + m) old e)) (n + m) (xs ++ news) ∧
      Push v w (.slice (some ⟨w.heap.size, 0, none⟩) (n + m) (grownCap w (n + m) old e)) (w.drew.alloc (.cells ((xs ++ news).toArray ++ Builtin.zeroCells (Value.int .u8 0).cells (grownCap w (n + m) old e - (n + m))) e)) := by
    intro old ho
    have hge := grownCap_ge w (n + m) old e
    have hcm : grownCap w (n + m) old e ≤ maxLen := grownCap_le_maxLen w (n + m) old e (by simp only [maxLen]; omega)
    refine ⟨⟨hlen, .inr ⟨w.heap.size, _, _, rfl, Nat.zero_le _, heap_alloc_new w.drew _, hge, hcm, ?_, ?_⟩⟩, ⟨((Kept.refl _ w).drew).alloc _, fun k hk => .inr ?_⟩⟩
    · have hz1 : (Value.int IntKind.u8 0).cells.size = 1 := rfl
      simp only [Array.size_append, List.size_toArray, size_zeroCells, hz1, hlen]
      omega
    · simp only [Array.toList_append]
      rw [← hlen]
      exact List.take_left
    · simp [Value.ownBlock] at hk; omega
  rcases hown.2 with ⟨rfl, rfl⟩ | ⟨g, cap, cur, rfl, _, hg, hnc, hcm, hcs, htake⟩
  · obtain rfl : xs = [] := List.eq_nil_of_length_eq_zero hxl
    by_cases hm : m = 0
    · subst hm
      obtain rfl : news = [] := List.eq_nil_of_length_eq_zero hnl
      refine ⟨.slice none 0 0, w, ?_, World.ownsRow_nil w 0 e 1, Push.refl _ _⟩
      rcases hs'.kind with ⟨e', hk⟩ | hk <;> simp [Builtin.append_, run_underlying ht, run_underlying hk, sizeOf, typeInfo, hi, hs'.len, hs'.cells]
    · have hr := run_append_grow_src (P := P) w t tx ty e i (.int .u8 0) ht hi hz none 0 0 [] (run_firstCells_none w.drew i.size 0 0 0) x m news hs' (by omega) h63 (growslice_fits (by omega) (by rw [hb]; omega))
      have hgr := grown 0 (by omega)
      exact ⟨_, _, hr, hgr.1, hgr.2⟩
  · by_cases hroom : n + m ≤ cap
    · have hc : ∀ j, j < news.length → (w.cell? ⟨g, 0 + n * i.size + j, none⟩).isSome = true := by
        intro j hj
        rw [cell_of_row w g _ cur e (0, 0) hg]
        simp [h1]
        omega
      have hf : ∀ j, j < news.length → w.frozen? ⟨g, 0 + n * i.size + j, none⟩ = false := fun j _ => frozen_of_row w g _ cur e hg
      have hr := run_append_room_src (P := P) w t tx ty e i ht hi g 0 n cap x m news hs' hroom hc hf
      obtain ⟨cur', q1, q2⟩ := heap_setCells_at g e (0, 0) news (0 + n * i.size) w cur hg (by rw [h1]; omega)
      have hp := setCells_plain g news (0 + n * i.size) w
      have hnn : 0 + n * i.size = n := by rw [h1]; omega
      rw [hnn] at q2
      have htk : cur.toList.take n = xs := by simpa using htake
      have hcl : cur'.toList.length = cur.toList.length := by
        rw [q2]; simp only [List.length_append, List.length_take, List.length_drop, Array.length_toList]; omega
      refine ⟨_, _, hr, ⟨hlen, .inr ⟨g, cap, cur', rfl, Nat.zero_le _, q1, hroom, hcm, ?_, ?_⟩⟩, ⟨⟨hp.1, hp.2.1, hp.2.2.1, Nat.le_of_eq hp.2.2.2.symm, fun k _ hk => heap_setCells_ne g _ _ _ _ (fun e => hk (by simp [Value.ownBlock, e]))⟩, fun k hk => .inl ?_⟩⟩
      · have : cur'.size = cur.size := by simpa using hcl
        omega
      · rw [q2, htk, ← hlen]
        exact List.take_left
      · simpa [Value.ownBlock] using hk
    · have holds : ∀ j u, xs[j]? = some u → w.cell? ((⟨g, 0, none⟩ : Addr).add j) = some u := hown.cells (g := g) rfl
      have hfo := run_firstCells_some (P := P) w.drew i.size n ⟨g, 0, none⟩ n cap xs (by rw [h1]; omega) (by simpa using holds)
      have hr := run_append_grow_src (P := P) w t tx ty e i (.int .u8 0) ht hi hz (some ⟨g, 0, none⟩) n cap xs hfo x m news hs' (by omega) h63 (growslice_fits (by omega) (by rw [hb]; omega))
      have hgr := grown cap (by omega)
      exact ⟨_, _, hr, hgr.1, hgr.2⟩

theorem wpList_append_bytes {P : Program} {w : World} {ops : Array Oper} {rest : List Oper} {o : Oper} {a : Act} {Q : Exit → Act → World → Prop} (hgd : o.guard = none) (s y : Operand) (t tx : TypeId)
    (ho : o.op = .call { callee := .builtin .append, args := #[s, y], argTypes := #[t, tx] })
    (e : TypeId) (i : TypeInfo) (ht : P.underlying t = some (.slice e)) (hi : P.info? e = some i) (hz : i.zero = some (.int .u8 0)) (h1 : i.size = 1) (hb : i.bytes = 1)
    (v : Value) (n : Nat) (xs : List Value) (hsv : a.eval s = v) (hown : w.ownsRow 0 e 1 v n xs) (x : Value) (m : Nat) (news : List Value) (hx : a.eval y = x) (hs : Src P 1 tx x m news w) (hlim : n + m ≤ 140737488355328)
    (h : ∀ v' w', w'.ownsRow 0 e 1 v' (n + m) (xs ++ news) → Push v w v' w' → wpList P ops Q rest (a.put o.dst v') w') : wpList P ops Q (o :: rest) a w := by
  refine wpList_plain hgd fun K hK => ?_
  obtain ⟨v', w', hr, q1, q2⟩ := run_append_bytes (P := P) w t tx o.type e i ht hi hz h1 hb v n xs hown x m news hs hlim
  unfold Oper.wp execOp
  simp only [ho, resolve, invoke, builtin, Sem.run_bind, Sem.run_pure, Result.andThen_ok, List.map_toArray, List.map_cons, List.map_nil, hsv, hx, hr]
  exact hK _ _ (h v' w' q1 q2)

theorem step_append_bytes {P : Program} {ops : Array Oper} {o : Oper} {a : Act} {w : World} {K : Act → World → Prop} {Q : Exit → Act → World → Prop} {E : Prop} (hgd : o.guard = none) (s y : Operand) (t tx : TypeId)
    (ho : o.op = .call { callee := .builtin .append, args := #[s, y], argTypes := #[t, tx] })
    (e : TypeId) (i : TypeInfo) (ht : P.underlying t = some (.slice e)) (hi : P.info? e = some i) (hz : i.zero = some (.int .u8 0)) (h1 : i.size = 1) (hb : i.bytes = 1)
    (v : Value) (n : Nat) (xs : List Value) (hsv : a.eval s = v) (hown : w.ownsRow 0 e 1 v n xs) (x : Value) (m : Nat) (news : List Value) (hx : a.eval y = x) (hs : Src P 1 tx x m news w) (hlim : n + m ≤ 140737488355328)
    (h : ∀ v' w', w'.ownsRow 0 e 1 v' (n + m) (xs ++ news) → Push v w v' w' → K (a.put o.dst v') w') :
    if Region.wanted o (yielded ops a.tmps) = true then Oper.wp P o a w K Q else E := by
  have hw : Region.wanted o (yielded ops a.tmps) = true := by simp [Region.wanted, hgd]
  rw [if_pos hw]
  obtain ⟨v', w', hr, q1, q2⟩ := run_append_bytes (P := P) w t tx o.type e i ht hi hz h1 hb v n xs hown x m news hs hlim
  unfold Oper.wp execOp
  simp only [ho, resolve, invoke, builtin, Sem.run_bind, Sem.run_pure, Result.andThen_ok, List.map_toArray, List.map_cons, List.map_nil, hsv, hx, hr]
  exact h v' w' q1 q2

end Go.Proofs.Qxb6613770a
