import Derived.Test.YbulkegewApp
import Derived.Deep.RegionLawGrows
namespace Go.Proofs.Ybulkegew.S6626C
open Go.RowKit
set_option linter.unusedVariables false

/-- The same memory; only answers have been drawn. -/
structure Alk (w w' : World) : Prop where
  heap : w'.heap = w.heap
  os : w'.os = w.os
  tape : w'.tape = w.tape
  output : w'.output = w.output

set_option maxHeartbeats 1000000 in
theorem room_fits {B0 N sb bb cw v gN : Nat} {m : Nat → Nat} (n : Nat) (w : World) (h : St w B0 N m sb bb N cw (v + 1) gN) (hN : N ≤ 4096) (hu : v < N) (hn : n ≤ 256) (hfit : m v + n ≤ 256) :
    Calls Yba.prog 10 #[.pointer (some ⟨sb, 0, none⟩), .int .i64 n] w fun e w' => e = .returned (.pointer (some ⟨bb, v, none⟩)) ∧ Alk w w' := by
  have s0 := h.s0
  have s1 := h.s1
  have hc := h.hcell hu
  rw [gix_lt hu, lix_lt hu] at hc
  have hml := h.hm v hu
  clear h
  go_enter Yba.func10, Yba.ntmps10
  go_wp2_with fail
  go_quiet (fail)
  go_wp2_with fail
  go_quiet (fail)
  go_wp2_with fail
  go_ret
  exact ⟨rfl, rfl, rfl, rfl, rfl⟩

set_option maxHeartbeats 1000000 in
theorem room_next0 {B0 N sb bb cw gN : Nat} {m : Nat → Nat} (n : Nat) (w : World) (h : St w B0 N m sb bb N cw 0 gN) (hN : N ≤ 4096) (hu : 0 < N) (hn : n ≤ 256) :
    Calls Yba.prog 10 #[.pointer (some ⟨sb, 0, none⟩), .int .i64 n] w fun e w' => e = .returned (.pointer (some ⟨bb, 0, none⟩)) ∧ Alk (w.setCell ⟨sb, 1, none⟩ (.int .i64 1)) w' := by
  have s0 := h.s0
  have s1 := h.s1
  have hf := free_of h.sc
  have hne : ((0 : Int) == (N : Int)) = false := by rw [beq_eq_false_iff_ne]; omega
  clear h
  go_enter Yba.func10, Yba.ntmps10
  go_wp2_with fail
  go_quiet (fail)
  go_wp2_with fail
  go_quiet (fail)
  go_wp2_with fail
  go_ret
  exact ⟨rfl, rfl, rfl, rfl, rfl⟩

set_option maxHeartbeats 1000000 in
theorem room_next1 {B0 N sb bb cw v gN : Nat} {m : Nat → Nat} (n : Nat) (w : World) (h : St w B0 N m sb bb N cw (v + 1) gN) (hN : N ≤ 4096) (hu : v + 1 < N) (hn : n ≤ 256) (hfit : 256 < m v + n) :
    Calls Yba.prog 10 #[.pointer (some ⟨sb, 0, none⟩), .int .i64 n] w fun e w' => e = .returned (.pointer (some ⟨bb, v + 1, none⟩)) ∧ Alk (w.setCell ⟨sb, 1, none⟩ (.int .i64 ((v : Int) + 1 + 1))) w' := by
  have s0 := h.s0
  have s1 := h.s1
  have hvN : v < N := by omega
  have hc := h.hcell hvN
  rw [gix_lt hvN, lix_lt hvN] at hc
  have hml := h.hm v hvN
  have hf := free_of h.sc
  have hne : (((v : Int) + 1) == (N : Int)) = false := by rw [beq_eq_false_iff_ne]; omega
  clear h
  go_enter Yba.func10, Yba.ntmps10
  go_wp2_with fail
  go_quiet (fail)
  go_wp2_with fail
  go_quiet (fail)
  go_wp2_with fail
  go_quiet (fail)
  go_wp2_with fail
  go_quiet (fail)
  go_wp2_with fail
  go_ret
  exact ⟨rfl, rfl, rfl, rfl, rfl⟩

/-- What the append of one header leaves. -/
structure HdrRes (w w' : World) (bc : Array Value) (N : Nat) (u : Value) (q cp : Nat) : Prop where
  len : N + 1 ≤ cp
  blk : w.heap.size ≤ q
  row : ∃ ck : Array Value, w'.heap[q]? = some (.cells ck 22 (0, 0)) ∧ ck.size = cp ∧ (∀ j, j < N → ck[j]? = bc[j]?) ∧ ck[N]? = some u
  grown : w.grownBy w' none

theorem step_append_hdr {ops : Array Oper} {o : Oper} {a : Act} {w : World} {K : Act → World → Prop} {Q : Exit → Act → World → Prop} {E : Prop}
    (hg : o.guard = none) (s x : Operand) (hop : o.op = Op.call { callee := Callee.builtin Builtin.append, args := #[s, x], argTypes := #[25, 25] })
    (bb N : Nat) (bc : Array Value) (hs : a.eval s = .slice (some ⟨bb, 0, none⟩) N N) (hb : w.heap[bb]? = some (.cells bc 22 (0, 0))) (hsz : bc.size = N) (ad : Addr) (u : Value) (hx : a.eval x = .slice (some ad) 1 1) (hu : w.cell? ad = some u) (hu1 : u.oneCell' = true) (hN : N ≤ 4096)
    (hK : ∀ q cp w', HdrRes w w' bc N u q cp → K (a.put o.dst (.slice (some ⟨q, 0, none⟩) (N + 1) cp)) w') :
    if Region.wanted o (yielded ops a.tmps) = true then Oper.wp Yba.prog o a w K Q else E := by
  have hw : Region.wanted o (yielded ops a.tmps) = true := by simp [Region.wanted, hg]
  rw [if_pos hw]
  obtain ⟨i, hi, hz0, hz1, hz2⟩ := info_parts info22
  have holds : ∀ j v, bc.toList[j]? = some v → w.cell? ((⟨bb, 0, none⟩ : Addr).add j) = some v := by
    intro j v hj
    rw [Addr.add_lit, Nat.zero_add]
    exact cell_of hb (by simpa using hj)
  have hnews : ∀ j v, [u][j]? = some v → w.cell? (ad.add j) = some v := by
    intro j v hj
    match j, hj with
    | 0, hj => simp at hj; subst hj; simpa [Addr.add] using hu
  obtain ⟨v', w', hrun, r1, r2⟩ := run_append_arg_grows (P := Yba.prog) w 25 o.type 22 i (.slice none 0 0) 1 24 Yba.underlying25 hi hz0 hz1 hz2 rfl (by decide) ⟨bb, 0, none⟩ N N bc.toList (by simp [hsz]) holds ad 1 1 [u] rfl hnews (by omega) (by unfold maxLen; omega) (by omega)
  unfold Oper.wp
  simp [execOp, hop, resolve, invoke, builtin, hs, hx, hrun, Result.andThen]
  rcases r1.2 with ⟨rfl, hn'⟩ | ⟨q, cp, cur, rfl, hbq, hh, hnc, _, hcs, ht⟩
  · omega
  · refine hK q cp w' ⟨hnc, hbq, ⟨cur, hh, by omega, ?_⟩, r2⟩
    have key : ∀ j, j < N + 1 → cur[j]? = (bc.toList ++ [u])[j]? := by
      intro j hj
      rw [← ht, List.getElem?_take_of_lt (by omega)]
      simp
    refine ⟨fun j hj => ?_, ?_⟩
    · rw [key j (by omega), List.getElem?_append_left (by simpa [hsz] using hj)]
      simp
    · rw [key N (by omega), List.getElem?_append_right (by simp [hsz])]
      simp [hsz]

theorem mk256 (w : World) : (Instr.makeSlice 22 (.int .i64 0) (.int .i64 256)).run Yba.prog w = .ok (.slice (some ⟨w.heap.size, 0, none⟩) 0 256) (w.alloc (.cells (madeCells #[.int .i64 0] 256) 3)) := by
  obtain ⟨i, hi, hz0, hz1, hz2⟩ := info_parts info3
  have := run_make (P := Yba.prog) w 22 3 i (.int .i64 0) Yba.underlying22 hi hz0 .i64 .i64 0 256 (by omega) (by omega) (by rw [hz2]; omega) (by omega)
  simpa [hz1, Value.cells] using this

theorem made256 (j : Nat) (hj : j < 256) : (madeCells #[Value.int .i64 0] 256)[j]? = some (.int .i64 0) := by
  unfold madeCells
  rw [Array.getElem?_map, Array.getElem?_range, if_pos hj]
  show some (#[Value.int .i64 0][j % 1]!) = _
  rw [Nat.mod_one]
  rfl

/-- The store behind the making of a new row. -/
theorem st_new {B0 N sb bb gN q cp : Nat} {m : Nat → Nat} {w W3 w' wf : World} {bc : Array Value} (h : St w B0 N m sb bb N N N gN) (hbc : w.heap[bb]? = some (.cells bc 22 (0, 0)))
    (hres : HdrRes W3 w' bc N (.slice (some ⟨w.heap.size, 0, none⟩) 0 256) q cp) (hW3 : W3.heap = ((w.alloc (.cells (madeCells #[.int .i64 0] 256) 3)).alloc (.cells #[.slice (some ⟨w.heap.size, 0, none⟩) 0 256] 22)).heap) (ho : W3.os = w.os) (ht : W3.tape = w.tape) (hu : W3.output = w.output)
    (hwf : Alk ((w'.setCell ⟨sb, 0, none⟩ (.slice (some ⟨q, 0, none⟩) (N + 1) cp)).setCell ⟨sb, 1, none⟩ (.int .i64 ((N : Int) + 1))) wf) :
    St wf B0 N m sb q (N + 1) cp (N + 1) w.heap.size ∧ w.grownBy wf (some sb) ∧ w.heap.size < q := by
  have hsb := lt_of h.sc
  have hs3 : W3.heap.size = w.heap.size + 2 := by rw [hW3]; simp
  have hq : w.heap.size < q := by have := hres.blk; omega
  have hkeep : ∀ k, k < w.heap.size → w'.heap[k]? = w.heap[k]? := by
    intro k hk
    rw [hres.grown.block k (by omega) (by simp), hW3, Below.heap_alloc _ _ _ (by simp; omega), Below.heap_alloc _ _ _ hk]
  have hnew : w'.heap[w.heap.size]? = some (.cells (madeCells #[.int .i64 0] 256) 3 (0, 0)) := by
    rw [hres.grown.block _ (by omega) (by simp), hW3, Below.heap_alloc _ _ _ (by simp)]
    show (w.heap.push _)[w.heap.size]? = _
    simp
  have hother : ∀ k, k ≠ sb → wf.heap[k]? = w'.heap[k]? := by
    intro k hk
    rw [hwf.heap, Below.heap_setCell _ _ _ _ hk, Below.heap_setCell _ _ _ _ hk]
  have hsz : w'.heap.size ≤ wf.heap.size := by rw [hwf.heap]; simp
  have hs' : w.heap.size ≤ w'.heap.size := by have := hres.grown.size; omega
  obtain ⟨oc, o1, o2⟩ := h.ol
  obtain ⟨ck, c1, c2, c3, c4⟩ := hres.row
  have e2 := h.hsb
  have e3 := h.hbb
  obtain ⟨bc', d1, d2, d3⟩ := h.hd
  rw [hbc] at d1
  simp at d1
  subst d1
  refine ⟨⟨?_, ⟨ck, ?_, c2, fun i hi => ?_⟩, fun i hi => ?_, ⟨oc, ?_, o2⟩, e2, .inr (by omega), .inr ⟨rfl, by omega, by omega⟩, h.hm⟩, ⟨?_, ?_, ?_, by omega, fun k hk hne => ?_⟩, hq⟩
  · rw [hwf.heap]
    have := (hkeep sb hsb).trans h.sc
    simp only [World.setCell, Array.getElem?_modify, this]
    simp
  · rw [hother q (by omega)]; exact c1
  · by_cases hiN : i < N
    · rw [c3 i hiN, d3 i hiN, gix_lt hiN, lix_lt hiN, gix_lt hiN]
    · obtain rfl : i = N := by omega
      rw [c4, gix_ge (Nat.le_refl _), lix_ge (Nat.le_refl _)]
  · by_cases hiN : i < N
    · obtain ⟨c, r1, r2, r3⟩ := h.rows i hiN
      rw [gix_lt hiN, lix_lt hiN] at *
      have hlt := lt_of r1
      exact ⟨c, by rw [hother _ (by omega), hkeep _ hlt]; exact r1, r2, r3⟩
    · rw [gix_ge (by omega), lix_ge (by omega)]
      exact ⟨_, by rw [hother _ (by omega)]; exact hnew, size_madeCells _ _, fun j hj => by omega⟩
  · have hlt := lt_of o1
    rw [hother _ (by omega), hkeep _ hlt]; exact o1
  · rw [hwf.os]; exact hres.grown.os.trans ho
  · rw [hwf.tape]; exact hres.grown.tape.trans ht
  · rw [hwf.output]; exact hres.grown.output.trans hu
  · rw [hother k (by intro e; subst e; exact hne rfl)]; exact hkeep k hk

theorem hideF {p : Prop} (h : p) : Hid p := h

theorem new_facts {B0 N sb bb gN : Nat} {m : Nat → Nat} {w : World} (h : St w B0 N m sb bb N N N gN) : ∀ W3 w' : World, W3.grownBy w' none → W3.heap = ((w.alloc (.cells (madeCells #[.int .i64 0] 256) 3)).alloc (.cells #[.slice (some ⟨w.heap.size, 0, none⟩) 0 256] 22)).heap →
    w'.cell? ⟨sb, 0, none⟩ = some (.slice (some ⟨bb, 0, none⟩) N N) ∧ w'.cell? ⟨sb, 1, none⟩ = some (.int .i64 N) ∧ ∀ j, w'.frozen? ⟨sb, j, none⟩ = false := by
  intro W3 w' hg hW3
  have hsb := lt_of h.sc
  have e : w'.heap[sb]? = w.heap[sb]? := by
    rw [hg.block sb (by rw [hW3]; simp; omega) (by simp), hW3, Below.heap_alloc _ _ _ (by simp; omega), Below.heap_alloc _ _ _ hsb]
  rw [h.sc] at e
  exact ⟨cell_of e rfl, cell_of e rfl, free_of e⟩

set_option maxHeartbeats 4000000 in
theorem room_new0 {B0 sb bb gN : Nat} {m : Nat → Nat} (n : Nat) (w : World) (h : St w B0 (0) m sb bb (0) (0) (0) gN) (hn : n ≤ 256)  :
    Calls Yba.prog 10 #[.pointer (some ⟨sb, 0, none⟩), .int .i64 n] w fun e w' => ∃ q cp, e = .returned (.pointer (some ⟨q, 0, none⟩)) ∧ St w' B0 (0) m sb q (0 + 1) cp (0 + 1) w.heap.size ∧ w.grownBy w' (some sb) ∧ w.heap.size < q := by
  have s0 := h.s0
  have s1 := h.s1
  have hsb := lt_of h.sc
  have hz : True := trivial
  obtain ⟨bc, hbc, hbs, _⟩ := h.hd
  have hf := free_of h.sc
  have hmk := mk256
  have hx0 : ∀ nq o, ((w.drewN nq).alloc o).cell? ⟨sb, 0, none⟩ = some (.slice (some ⟨bb, 0, none⟩) (0) (0)) := fun nq o => (World.cell?_alloc_past (w := w.drewN nq) o sb 0 hsb).trans s0
  have HB : Hid (((w.alloc (.cells (madeCells #[.int .i64 0] 256) 3)).alloc (.cells #[.slice (some ⟨w.heap.size, 0, none⟩) 0 256] 22)).heap[bb]? = some (.cells bc 22 (0, 0))) := by
    show ((w.alloc (.cells (madeCells #[.int .i64 0] 256) 3)).alloc (.cells #[.slice (some ⟨w.heap.size, 0, none⟩) 0 256] 22)).heap[bb]? = some (.cells bc 22 (0, 0))
    have := lt_of hbc
    rw [Below.heap_alloc _ _ _ (by simp; omega), Below.heap_alloc _ _ _ this]; exact hbc
  have HU : Hid (((w.alloc (.cells (madeCells #[.int .i64 0] 256) 3)).alloc (.cells #[.slice (some ⟨w.heap.size, 0, none⟩) 0 256] 22)).cell? ⟨w.heap.size + 1, 0, none⟩ = some (.slice (some ⟨w.heap.size, 0, none⟩) 0 256)) := by
    show ((w.alloc (.cells (madeCells #[.int .i64 0] 256) 3)).alloc (.cells #[.slice (some ⟨w.heap.size, 0, none⟩) 0 256] 22)).cell? ⟨w.heap.size + 1, 0, none⟩ = some (.slice (some ⟨w.heap.size, 0, none⟩) 0 256)
    rw [World.cell?_alloc_at _ _ _ _ (by simp)]; rfl
  have HK := hideF (new_facts h)
  have HS : Hid (St w B0 (0) m sb bb (0) (0) (0) gN) := h
  have HBC : Hid (w.heap[bb]? = some (.cells bc 22 (0, 0))) := hbc
  clear h hbc
  go_enter Yba.func10, Yba.ntmps10
  go_wp2_with fail
  go_quiet (fail)
  go_wp2_with fail
  go_region_law (refine step_append_hdr rfl (.tmp 47) (.tmp 49) rfl bb (0) bc (by simp [Act.eval]) HB.out hbs ⟨w.heap.size + 1, 0, none⟩ (.slice (some ⟨w.heap.size, 0, none⟩) 0 256) (by simp [Act.eval]) HU.out rfl (by omega) ?_; intro q cp w' hres; obtain ⟨k0, k1, kf⟩ := HK.out _ w' hres.grown rfl)
  all_goals
    go_wp2_with fail
    go_quiet (fail)
    go_wp2_with fail
    go_ret
    refine ⟨q, cp, rfl, ?_⟩
    exact st_new HS.out HBC.out hres rfl rfl rfl rfl ⟨rfl, rfl, rfl, rfl⟩

set_option maxHeartbeats 4000000 in
theorem room_new1 {B0 v sb bb gN : Nat} {m : Nat → Nat} (n : Nat) (w : World) (h : St w B0 (v + 1) m sb bb (v + 1) (v + 1) (v + 1) gN) (hn : n ≤ 256) (hv : v + 1 ≤ 4096) (hfit : 256 < m v + n) :
    Calls Yba.prog 10 #[.pointer (some ⟨sb, 0, none⟩), .int .i64 n] w fun e w' => ∃ q cp, e = .returned (.pointer (some ⟨q, v + 1, none⟩)) ∧ St w' B0 (v + 1) m sb q (v + 1 + 1) cp (v + 1 + 1) w.heap.size ∧ w.grownBy w' (some sb) ∧ w.heap.size < q := by
  have s0 := h.s0
  have s1 := h.s1
  have hsb := lt_of h.sc
  have hvN : v < v + 1 := by omega
  have hc := h.hcell hvN
  rw [gix_lt hvN, lix_lt hvN] at hc
  have hml := h.hm v hvN
  obtain ⟨bc, hbc, hbs, _⟩ := h.hd
  have hf := free_of h.sc
  have hmk := mk256
  have hx0 : ∀ nq o, ((w.drewN nq).alloc o).cell? ⟨sb, 0, none⟩ = some (.slice (some ⟨bb, 0, none⟩) (v + 1) (v + 1)) := fun nq o => (World.cell?_alloc_past (w := w.drewN nq) o sb 0 hsb).trans s0
  have HB : Hid (((w.alloc (.cells (madeCells #[.int .i64 0] 256) 3)).alloc (.cells #[.slice (some ⟨w.heap.size, 0, none⟩) 0 256] 22)).heap[bb]? = some (.cells bc 22 (0, 0))) := by
    show ((w.alloc (.cells (madeCells #[.int .i64 0] 256) 3)).alloc (.cells #[.slice (some ⟨w.heap.size, 0, none⟩) 0 256] 22)).heap[bb]? = some (.cells bc 22 (0, 0))
    have := lt_of hbc
    rw [Below.heap_alloc _ _ _ (by simp; omega), Below.heap_alloc _ _ _ this]; exact hbc
  have HU : Hid (((w.alloc (.cells (madeCells #[.int .i64 0] 256) 3)).alloc (.cells #[.slice (some ⟨w.heap.size, 0, none⟩) 0 256] 22)).cell? ⟨w.heap.size + 1, 0, none⟩ = some (.slice (some ⟨w.heap.size, 0, none⟩) 0 256)) := by
    show ((w.alloc (.cells (madeCells #[.int .i64 0] 256) 3)).alloc (.cells #[.slice (some ⟨w.heap.size, 0, none⟩) 0 256] 22)).cell? ⟨w.heap.size + 1, 0, none⟩ = some (.slice (some ⟨w.heap.size, 0, none⟩) 0 256)
    rw [World.cell?_alloc_at _ _ _ _ (by simp)]; rfl
  have HK := hideF (new_facts h)
  have HS : Hid (St w B0 (v + 1) m sb bb (v + 1) (v + 1) (v + 1) gN) := h
  have HBC : Hid (w.heap[bb]? = some (.cells bc 22 (0, 0))) := hbc
  clear h hbc
  go_enter Yba.func10, Yba.ntmps10
  go_wp2_with fail
  go_quiet (fail)
  go_wp2_with fail
  go_quiet (fail)
  go_wp2_with fail
  go_quiet (fail)
  go_wp2_with fail
  go_region_law (refine step_append_hdr rfl (.tmp 47) (.tmp 49) rfl bb (v + 1) bc (by simp [Act.eval]) HB.out hbs ⟨w.heap.size + 1, 0, none⟩ (.slice (some ⟨w.heap.size, 0, none⟩) 0 256) (by simp [Act.eval]) HU.out rfl (by omega) ?_; intro q cp w' hres; obtain ⟨k0, k1, kf⟩ := HK.out _ w' hres.grown rfl)
  all_goals
    go_wp2_with fail
    go_quiet (fail)
    go_wp2_with fail
    go_ret
    refine ⟨q, cp, rfl, ?_⟩
    exact st_new HS.out HBC.out hres rfl rfl rfl rfl ⟨rfl, rfl, rfl, rfl⟩

end Go.Proofs.Ybulkegew.S6626C
