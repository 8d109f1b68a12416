import Derived.Test.YbulkegewSt
namespace Go.Proofs.Ybulkegew.S6626C
open Go.RowKit
set_option linter.unusedVariables false

def intsOf (n : Nat) (zs : Nat → Int) : List Value := (List.range n).map fun i => .int .i64 (zs i)

theorem intsOf_length (n : Nat) (zs : Nat → Int) : (intsOf n zs).length = n := by simp [intsOf]

theorem intsOf_get {n : Nat} {zs : Nat → Int} {j : Nat} (h : j < n) : (intsOf n zs)[j]? = some (.int .i64 (zs j)) := by simp [intsOf, h]

theorem intsOf_at {n : Nat} {zs : Nat → Int} {j : Nat} {v : Value} (h : (intsOf n zs)[j]? = some v) : j < n ∧ v = .int .i64 (zs j) := by
  have hj : j < n := by
    have := (List.getElem?_eq_some_iff.1 h).1
    rwa [intsOf_length] at this
  rw [intsOf_get hj] at h
  exact ⟨hj, (Option.some.inj h).symm⟩

theorem intsOf_one (n : Nat) (zs : Nat → Int) : ∀ u ∈ intsOf n zs, u.oneCell' = true := by
  intro u hu
  obtain ⟨j, hj⟩ := List.getElem?_of_mem hu
  obtain ⟨_, rfl⟩ := intsOf_at hj
  rfl

theorem src_cells {w : World} {b off n : Nat} {zs : Nat → Int} (h : Cells w (some ⟨b, off, none⟩) n zs) : ∀ j u, (intsOf n zs)[j]? = some u → w.cell? ((⟨b, off, none⟩ : Addr).add j) = some u := by
  intro j u hu
  obtain ⟨hj, rfl⟩ := intsOf_at hu
  obtain ⟨b', off', e, q⟩ := h j hj
  simp at e
  obtain ⟨rfl, rfl⟩ := e
  rw [Addr.add_lit]
  exact q

theorem run_append_nothing (w : World) (ty : TypeId) (base ao : Option Addr) (old cap c : Nat) (h : old ≤ cap) :
    (Builtin.append_ #[22, 22] ty #[.slice base old cap, .slice ao 0 c]).run Yba.prog w = .ok (.slice base old cap) w := by
  obtain ⟨i, hi, hz0, hz1, hz2⟩ := info_parts info3
  have hl : ∀ x : Addr, (loadCells x 0).run Yba.prog w = .ok #[] w := fun x => by simpa using run_loadCells_list (P := Yba.prog) w x [] (by simp)
  cases ao <;> cases base <;> simp [Builtin.append_, run_underlying Yba.underlying22, sizeOf, typeInfo, hi, Builtin.lenOf, h, Builtin.firstCells, hl, storeCells]

/-- What such an append leaves: the value (some ⟨gk, 0⟩) (old + n) cpk, its row, and what else has turned. -/
structure AppRes (w w' : World) (g old n cap : Nat) (c : Array Value) (zs : Nat → Int) (gk cpk : Nat) : Prop where
  fits : old + n ≤ cap → cpk = cap ∧ gk = g
  len : old + n ≤ cpk
  blk : gk = g ∨ w.heap.size ≤ gk
  row : ∃ ck : Array Value, w'.heap[gk]? = some (.cells ck 3 (0, 0)) ∧ ck.size = cpk ∧ (∀ j, j < old → ck[j]? = c[j]?) ∧ ∀ j, j < n → ck[old + j]? = some (.int .i64 (zs j))
  grown : w.grownBy w' (some g)

/-- 'append' of n numbers onto a row of ints that the call itself has made. -/
theorem run_append_blk (w : World) (ty : TypeId) (g old cap n : Nat) (c : Array Value) (hg : w.heap[g]? = some (.cells c 3 (0, 0))) (hsz : c.size = cap) (hold : old ≤ cap) (hcap : cap ≤ 1048576) (ax : Option Addr) (cx : Nat) (zs : Nat → Int) (hsrc : Cells w ax n zs) (hn : n ≤ 1048576) :
    ∃ gk cpk w', (Builtin.append_ #[22, 22] ty #[.slice (some ⟨g, 0, none⟩) old cap, .slice ax n cx]).run Yba.prog w = .ok (.slice (some ⟨gk, 0, none⟩) (old + n) cpk) w' ∧
      (old + n ≤ cap → cpk = cap ∧ gk = g) ∧ old + n ≤ cpk ∧ (gk = g ∨ w.heap.size ≤ gk) ∧
      (∃ ck : Array Value, w'.heap[gk]? = some (.cells ck 3 (0, 0)) ∧ ck.size = cpk ∧ (∀ j, j < old → ck[j]? = c[j]?) ∧ ∀ j, j < n → ck[old + j]? = some (.int .i64 (zs j))) ∧ w.grownBy w' (some g) := by
  obtain ⟨i, hi, hz0, hz1, hz2⟩ := info_parts info3
  have hml : old + n ≤ maxLen := by unfold maxLen; omega
  have hown : w.ownsRow 0 3 1 (.slice (some ⟨g, 0, none⟩) old cap) old (c.toList.take old) :=
    ⟨by simp; omega, .inr ⟨g, cap, c, rfl, Nat.zero_le _, hg, hold, by unfold maxLen; omega, by omega, by simp⟩⟩
  have fin : ∀ ck : Array Value, ck.toList.take (old + n) = c.toList.take old ++ intsOf n zs → (∀ j, j < old → ck[j]? = c[j]?) ∧ ∀ j, j < n → ck[old + j]? = some (.int .i64 (zs j)) := by
    intro ck hck
    have hlen : (c.toList.take old).length = old := by simp; omega
    have key : ∀ j, j < old + n → ck[j]? = (c.toList.take old ++ intsOf n zs)[j]? := by
      intro j hj
      rw [← hck, List.getElem?_take_of_lt hj]
      simp
    refine ⟨fun j hj => ?_, fun j hj => ?_⟩
    · rw [key j (by omega), List.getElem?_append_left (by omega), List.getElem?_take_of_lt hj]
      simp
    · rw [key (old + j) (by omega), List.getElem?_append_right (by omega), hlen, show old + j - old = j by omega]
      exact intsOf_get hj
  by_cases h0 : n = 0
  · subst h0
    exact ⟨g, cap, w, run_append_nothing w ty _ ax old cap cx hold, fun _ => ⟨rfl, rfl⟩, by omega, .inl rfl, ⟨c, hg, hsz, fun _ _ => rfl, fun j hj => by omega⟩, World.grownBy.refl _ _⟩
  · obtain ⟨b, off, rfl, _⟩ := hsrc 0 (by omega)
    have hc := src_cells hsrc
    by_cases hroom : old + n ≤ cap
    · obtain ⟨w', hrun, ho, hgr⟩ := run_append_fits (P := Yba.prog) w 0 22 ty 3 i 1 Yba.underlying22 hi hz1 g old cap (c.toList.take old) hown ⟨b, off, none⟩ n cx (intsOf n zs) (by simp [intsOf_length]) hc (intsOf_one n zs) hroom
      refine ⟨g, cap, w', hrun, fun _ => ⟨rfl, rfl⟩, hroom, .inl rfl, ?_, hgr⟩
      rcases ho.2 with ⟨e, _⟩ | ⟨g', cap', cur, e, _, hh, _, _, hcs, ht⟩
      · simp at e
      · simp at e
        obtain ⟨rfl, rfl⟩ := e
        obtain ⟨f1, f2⟩ := fin cur (by simpa using ht)
        exact ⟨cur, hh, by omega, f1, f2⟩
    · have holds : ∀ j u, (c.toList.take old)[j]? = some u → w.cell? ((⟨g, 0, none⟩ : Addr).add j) = some u := hown.cells rfl
      obtain ⟨v', w', hrun, ho, hgr⟩ := run_append_arg_grows (P := Yba.prog) w 22 ty 3 i (.int .i64 0) 1 8 Yba.underlying22 hi hz0 hz1 hz2 rfl (by decide) ⟨g, 0, none⟩ old cap (c.toList.take old) (by simp; omega) holds ⟨b, off, none⟩ n cx (intsOf n zs) (by simp [intsOf_length]) hc (by omega) hml (by omega)
      rcases ho.2 with ⟨rfl, hn'⟩ | ⟨g', cap', cur, rfl, hb, hh, hnc, _, hcs, ht⟩
      · omega
      · obtain ⟨f1, f2⟩ := fin cur (by simpa using ht)
        exact ⟨g', cap', w', hrun, fun hh => absurd hh hroom, hnc, .inr hb, ⟨cur, hh, by omega, f1, f2⟩, ⟨hgr.os, hgr.tape, hgr.output, hgr.size, fun k hk _ => hgr.block k hk (by simp)⟩⟩

theorem wpList_append_blk (w : World) {ops : Array Oper} {rest : List Oper} {o : Oper} {a : Act} {Q : Exit → Act → World → Prop} (hgd : o.guard = none) (s x : Operand)
    (ho : o.op = .call { callee := .builtin .append, args := #[s, x], argTypes := #[22, 22] }) (g old cap n : Nat) (c : Array Value) (hs : a.eval s = .slice (some ⟨g, 0, none⟩) old cap) (hg : w.heap[g]? = some (.cells c 3 (0, 0))) (hsz : c.size = cap) (hold : old ≤ cap) (hcap : cap ≤ 1048576) (ax : Option Addr) (cx : Nat) (zs : Nat → Int) (hx : a.eval x = .slice ax n cx) (hsrc : Cells w ax n zs) (hn : n ≤ 1048576)
    (h : ∀ gk cpk w', AppRes w w' g old n cap c zs gk cpk → wpList Yba.prog ops Q rest (a.put o.dst (.slice (some ⟨gk, 0, none⟩) (old + n) cpk)) w') : wpList Yba.prog ops Q (o :: rest) a w := by
  refine wpList_plain hgd fun K hK' => ?_
  obtain ⟨gk, cpk, w', hrun, r1, r2, r3, r4, r5⟩ := run_append_blk w o.type g old cap n c hg hsz hold hcap ax cx zs hsrc hn
  unfold Oper.wp
  simp [execOp, ho, resolve, invoke, builtin, hs, hx, hrun, Result.andThen]
  exact hK' _ _ (h gk cpk w' ⟨r1, r2, r3, r4, r5⟩)

set_option maxHeartbeats 400000 in
theorem clone_nil (w : World) : Calls Yba.prog 4 #[.slice none 0 0] w fun e w' => e = .returned (.slice none 0 0) ∧ w' = w := by
  have hq := eqlN 22 3 Yba.underlying22
  go_enter Yba.func4, Yba.ntmps4
  go_wp2
  go_ret
  exact ⟨rfl, rfl⟩

set_option maxHeartbeats 400000 in
theorem clone_some (x : Addr) (n cp : Nat) (zs : Nat → Int) (w : World) (hn : n ≤ 1048576) (hc : Cells w (some x) n zs) :
    Calls Yba.prog 4 #[.slice (some x) n cp] w fun e w' => ∃ g cv, e = .returned (.slice (some ⟨g, 0, none⟩) n cv) ∧ n ≤ cv ∧ w.heap.size ≤ g ∧ Cells w' (some ⟨g, 0, none⟩) n zs ∧ w.grownBy w' none := by
  have hq := eqlN 22 3 Yba.underlying22
  have hc1 : Cells (w.alloc (.cells #[] 3)) (some x) n zs := hc.kept (fun k hk => Below.heap_alloc _ _ _ hk)
  have hg : (w.alloc (.cells #[] 3)).heap[w.heap.size]? = some (.cells #[] 3 (0, 0)) := by
    show (w.heap.push _)[w.heap.size]? = _
    simp
  have HC : Hid (Cells (w.alloc (.cells #[] 3)) (some x) n zs) := hc1
  have HG : Hid ((w.alloc (.cells #[] 3)).heap[w.heap.size]? = some (.cells #[] 3 (0, 0))) := hg
  clear hc hc1 hg
  go_enter Yba.func4, Yba.ntmps4
  go_wp2_with (at_builtin; refine wpList_append_blk _ rfl _ _ rfl w.heap.size 0 0 n #[] rfl HG.out rfl (Nat.le_refl _) (by omega) (some x) cp zs rfl HC.out hn ?_)
  intro gk cpk w' hres
  have h2 : n ≤ cpk := by have := hres.len; omega
  obtain ⟨h1, _, h3, h4, h5⟩ := hres
  have fin : Cells w' (some ⟨gk, 0, none⟩) n zs ∧ w.heap.size ≤ gk ∧ w.grownBy w' none := by
    obtain ⟨ck, q1, q2, q3, q4⟩ := h4
    refine ⟨fun i hi => ⟨gk, 0, rfl, ?_⟩, by rcases h3 with e | e <;> simp at * <;> omega, ⟨h5.os, h5.tape, h5.output, by have := h5.size; simp at this; omega, fun k hk _ => ?_⟩⟩
    · have := q4 i hi
      exact cell_of q1 this
    · rw [h5.block k (by simp; omega) (by intro e; simp at e; omega), Below.heap_alloc _ _ _ hk]
  have HF : Hid (Cells w' (some ⟨gk, 0, none⟩) n zs ∧ w.heap.size ≤ gk ∧ w.grownBy w' none) := fin
  clear h1 h3 h4 h5 fin
  go_wp2
  go_ret
  exact ⟨gk, cpk, by simp, by omega, HF.out.2.1, HF.out.1, HF.out.2.2⟩

end Go.Proofs.Ybulkegew.S6626C
