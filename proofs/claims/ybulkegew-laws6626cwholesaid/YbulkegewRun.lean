import Derived.Test.YbulkegewAdd
namespace Go.Proofs.Ybulkegew.S6626C
open Go.RowKit
set_option linter.unusedVariables false

/-- What addRun of a short run leaves. -/
structure RunRes (w w' : World) (B0 N : Nat) (m : Nat → Nat) (sb u n : Nat) (zs : Nat → Int) (a1 : Option Addr) (bb want cw nu gN k gk cpk : Nat) : Prop where
  at_ : 0 < n → a1 = some ⟨gk, lix N m k, none⟩
  fin : Fin w' B0 N m sb bb want cw nu gN k gk cpk n zs
  fr : Fr w w' B0 sb
  pick : Pick u n N m k nu want
  lt : k < want
  le : N ≤ want

theorem run_res {w w1 w1' w2 wf : World} {B0 N sb u n bb want cw nu gN k gk cpk : Nat} {m : Nat → Nat} {c : Array Value} {zs : Nat → Int} {g old : Nat} {a1 : Option Addr}
    (hR : RoomRes w w1 B0 N m sb u n bb want cw nu gN k) (hg : g = gix B0 N gN k) (ho : old = lix N m k) (hc : w1.heap[g]? = some (.cells c 3 (0, 0))) (hcp : ∀ j, j < old → c[j]? = some (.int .i64 (pat k j)))
    (hA : AppRes w1' w2 g old n 256 c zs gk cpk) (h1 : Alk w1 w1') (hat : 0 < n → a1 = some ⟨gk, old, none⟩) (hwf : Alk (w2.setCell ⟨bb, k, none⟩ (.slice (some ⟨gk, 0, none⟩) (old + n) cpk)) wf) :
    RunRes w wf B0 N m sb u n zs a1 bb want cw nu gN k gk cpk := by
  obtain ⟨f1, f2⟩ := fin_of hR hg ho hc hcp hA h1 hwf
  exact ⟨fun h => by rw [← ho]; exact hat h, f1, f2, hR.pick, hR.lt, hR.st.wantle⟩

set_option maxHeartbeats 2000000 in
theorem add_run {B0 N sb u gN : Nat} {m : Nat → Nat} (ax : Option Addr) (n cx : Nat) (zs : Nat → Int) (w : World) (h : St w B0 N m sb B0 N N u gN) (hN : N ≤ 4096) (hu : u ≤ N) (hn : n ≤ 256) (hsrc : Cells w ax n zs) (hsb : ∀ x : Addr, ax = some x → 0 < n → x.block < B0) :
    Calls Yba.prog 9 #[.pointer (some ⟨sb, 0, none⟩), .slice ax n cx] w fun e w' => ∃ a1 bb want cw nu gN' k gk cpk, e = .returned (.slice a1 n n) ∧ RunRes w w' B0 N m sb u n zs a1 bb want cw nu gN' k gk cpk := by
  have HS : Hid (St w B0 N m sb B0 N N u gN) := h
  have HC : Hid (Cells w ax n zs) := hsrc
  have HX : Hid (∀ x : Addr, ax = some x → 0 < n → x.block < B0) := hsb
  have hlt := lt_of h.sc
  have hsbe : B0 + 2 + N ≤ sb := by have := h.hsb; omega
  clear h hsrc hsb
  go_enter Yba.func9, Yba.ntmps9
  go_wp2_with fail
  refine (room_any n w HS.out hN hu hn).mono ?_
  rintro e w1 ⟨bb, want, cw, nu, gN', k, rfl, hR⟩
  have hc := hR.st.hcell hR.lt
  obtain ⟨c, hrow, hcs, hpat⟩ := hR.st.rows k hR.lt
  obtain ⟨bc, d1, _, _⟩ := hR.st.hd
  have hfb := free_of d1
  have hold := hR.st.lixle k
  have hsrc1 : Cells w1 ax n zs := HC.out.keptB HX.out (fun q hq => hR.gr.block q (by omega) (by intro e; simp at e; omega))
  obtain ⟨g, hg⟩ : ∃ g, g = gix B0 N gN' k := ⟨_, rfl⟩
  obtain ⟨old, ho⟩ : ∃ old, old = lix N m k := ⟨_, rfl⟩
  rw [← hg] at hrow
  rw [← ho] at hpat hold
  rw [← hg, ← ho] at hc
  have hgb : ¬ bb = g := by
    intro e
    rw [← e, d1] at hrow
    simp at hrow
  have HR := hideF hR
  have HG := hideF hg
  have HO := hideF ho
  have HW := hideF hrow
  have HP := hideF hpat
  have HC1 := hideF hsrc1
  clear hR hg ho hrow hpat hsrc1 d1
  go_wp2_with (at_builtin; refine wpList_append_blk _ rfl _ _ rfl g old 256 n c rfl HW.out hcs hold (by omega) ax cx zs rfl HC1.out (by omega) ?_)
  intro gk cpk w2 hres
  have hbk : w2.heap[bb]? = w1.heap[bb]? := hres.grown.block bb (World.block_lt_of_cell? w1 _ hc) (by simpa using hgb)
  have hc2 : w2.cell? ⟨bb, k, none⟩ = some (.slice (some ⟨g, 0, none⟩) old 256) := (cell_other hbk).trans hc
  have hf2 : w2.frozen? ⟨bb, k, none⟩ = false := (World.frozen?_of_block (w := w1) (a := ⟨bb, k, none⟩) hbk).trans (hfb k)
  have hlen := hres.len
  have HA := hideF hres
  clear hres hbk hc hfb
  by_cases hn0 : n = 0
  · subst hn0
    go_wp2_with fail
    go_quiet (fail)
    go_wp2_with fail
    go_ret
    exact ⟨_, bb, want, cw, nu, gN', k, gk, cpk, rfl, run_res HR.out HG.out HO.out HW.out HP.out HA.out ⟨rfl, rfl, rfl, rfl⟩ (fun h0 => absurd h0 (Nat.lt_irrefl 0)) ⟨rfl, rfl, rfl, rfl⟩⟩
  · have hnp : 0 < n := by omega
    go_wp2_with fail
    go_quiet (fail)
    go_wp2_with fail
    go_ret
    refine ⟨some ⟨gk, old, none⟩, bb, want, cw, nu, gN', k, gk, cpk, ?_, run_res HR.out HG.out HO.out HW.out HP.out HA.out ⟨rfl, rfl, rfl, rfl⟩ (fun _ => rfl) ⟨rfl, rfl, rfl, rfl⟩⟩
    simp

/-- What addRun of a run longer than a block leaves: a slice of its own. -/
structure LongRes (w w' : World) (n : Nat) (zs : Nat → Int) (q cp : Nat) : Prop where
  blk : w.heap.size ≤ q
  row : ∃ ck : Array Value, w'.heap[q]? = some (.cells ck 3 (0, 0)) ∧ ∀ j, j < n → ck[j]? = some (.int .i64 (zs j))
  gr : w.grownBy w' none

theorem run_append_new (w : World) (ty : TypeId) (n : Nat) (h0 : 0 < n) (ax : Option Addr) (cx : Nat) (zs : Nat → Int) (hsrc : Cells w ax n zs) (hn : n ≤ 1048576) :
    ∃ q cp w', (Builtin.append_ #[22, 22] ty #[.slice none 0 0, .slice ax n cx]).run Yba.prog w = .ok (.slice (some ⟨q, 0, none⟩) n cp) w' ∧ LongRes w w' n zs q cp := by
  obtain ⟨i, hi, hz0, hz1, hz2⟩ := info_parts info3
  obtain ⟨b, off, rfl, _⟩ := hsrc 0 h0
  obtain ⟨v', w', hrun, ho, hgr, _⟩ := run_append_own (P := Yba.prog) w w.heap.size 22 ty 3 i (.int .i64 0) 1 8 Yba.underlying22 hi hz0 hz1 hz2 rfl (by decide) (.slice none 0 0) 0 [] (World.ownsRow_nil _ _ _ _) ⟨b, off, none⟩ n cx (intsOf n zs) (by simp [intsOf_length]) (src_cells hsrc) (intsOf_one n zs) (by unfold maxLen; omega) (by omega) (Nat.le_refl _)
  rcases ho.2 with ⟨rfl, hn'⟩ | ⟨q, cp, cur, rfl, hb, hh, hnc, _, hcs, ht⟩
  · omega
  · refine ⟨q, cp, w', by simpa using hrun, hb, ⟨cur, hh, fun j hj => ?_⟩, hgr⟩
    have : (cur.toList.take ((0 + n) * 1))[j]? = ([] ++ intsOf n zs)[j]? := by rw [ht]
    rw [List.getElem?_take_of_lt (by omega)] at this
    simp only [List.nil_append, intsOf_get hj] at this
    simpa using this

theorem wpList_append_new (w : World) {ops : Array Oper} {rest : List Oper} {o : Oper} {a : Act} {Q : Exit → Act → World → Prop} (hgd : o.guard = none) (s x : Operand)
    (ho : o.op = .call { callee := .builtin .append, args := #[s, x], argTypes := #[22, 22] }) (hs : a.eval s = .slice none 0 0) (n : Nat) (h0 : 0 < n) (ax : Option Addr) (cx : Nat) (zs : Nat → Int) (hx : a.eval x = .slice ax n cx) (hsrc : Cells w ax n zs) (hn : n ≤ 1048576)
    (h : ∀ q cp w', LongRes w w' n zs q cp → wpList Yba.prog ops Q rest (a.put o.dst (.slice (some ⟨q, 0, none⟩) n cp)) w') : wpList Yba.prog ops Q (o :: rest) a w := by
  refine wpList_plain hgd fun K hK' => ?_
  obtain ⟨q, cp, w', hrun, r⟩ := run_append_new w o.type n h0 ax cx zs hsrc hn
  unfold Oper.wp
  simp [execOp, ho, resolve, invoke, builtin, hs, hx, hrun, Result.andThen]
  exact hK' _ _ (h q cp w' r)

set_option maxHeartbeats 1000000 in
theorem add_long (sb n cx : Nat) (ax : Option Addr) (zs : Nat → Int) (w : World) (hn : 256 < n) (hn2 : n ≤ 1048576) (hsrc : Cells w ax n zs) :
    Calls Yba.prog 9 #[.pointer (some ⟨sb, 0, none⟩), .slice ax n cx] w fun e w' => ∃ q cp, e = .returned (.slice (some ⟨q, 0, none⟩) n cp) ∧ LongRes w w' n zs q cp := by
  have HC := hideF hsrc
  clear hsrc
  go_enter Yba.func9, Yba.ntmps9
  go_wp2_with (at_builtin; refine wpList_append_new _ rfl _ _ rfl rfl n (by omega) ax cx zs rfl HC.out hn2 ?_)
  intro q cp w' hres
  have HR := hideF hres
  clear hres
  go_wp2_with fail
  go_ret
  exact ⟨q, cp, rfl, HR.out⟩

end Go.Proofs.Ybulkegew.S6626C
