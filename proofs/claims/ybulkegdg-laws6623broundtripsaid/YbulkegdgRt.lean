import Derived.Test.YbulkegdgGet
namespace Go.Proofs.Ybulkegdg.S6623B
open Go.RowKit
set_option linter.unusedVariables false

theorem back (g G : Int) (h : In64 g) : wrap64 (G + wrap64 (g - G)) = g := by unfold In64 at h; unfold wrap64; omega

theorem get_any (b o n cp : Nat) (g l c r G L C R gs ls cs rs dg dl dc dr : Int) (w : World) (hcur : Cur w b G L C R gs ls cs rs) (hf : ∀ j, w.frozen? ⟨b, j, none⟩ = false) (hob : ¬ o = b) (hd1 : -4611686018427387904 ≤ dg) (hd2 : dg < 4611686018427387904)
    (e1 : wrap64 (g - G) = dg) (e2 : wrap64 (l - L) = dl) (e3 : wrap64 (c - C) = dc) (e4 : wrap64 (r - R) = dr) (b1 : In64 g) (b2 : In64 l) (b3 : In64 c) (b4 : In64 r)
    (hn : n = (ent dg dl dc dr gs ls cs rs).length) (hcp : n ≤ cp) (hl : Lies w o 0 (ent dg dl dc dr gs ls cs rs)) :
    Calls Yba.prog 10 #[.pointer (some ⟨b, 0, none⟩), .slice (some ⟨o, 0, none⟩) n cp] w fun e w' => e = .returned (.int .i64 n) ∧ Cur w' b g l c r dg dl dc dr ∧ w.grownBy w' (some b) := by
  have i2 : In64 dl := by rw [← e2]; exact wrap64_bd _
  have i3 : In64 dc := by rw [← e3]; exact wrap64_bd _
  have i4 : In64 dr := by rw [← e4]; exact wrap64_bd _
  have k1 : wrap64 (G + dg) = g := by rw [← e1]; exact back g G b1
  have k2 : wrap64 (L + dl) = l := by rw [← e2]; exact back l L b2
  have k3 : wrap64 (C + dc) = c := by rw [← e3]; exact back c C b3
  have k4 : wrap64 (R + dr) = r := by rw [← e4]; exact back r R b4
  by_cases hs : dg = gs ∧ dl = ls ∧ dc = cs ∧ dr = rs
  · obtain ⟨rfl, rfl, rfl, rfl⟩ := hs
    have he : ent dg dl dc dr dg dl dc dr = [0] := by unfold ent; rw [if_pos ⟨rfl, rfl, rfl, rfl⟩]
    rw [he] at hn hl
    simp at hn
    subst hn
    have h0 := hl 0 (by simp)
    have h := get_same b o 1 cp G L C R dg dl dc dr w hcur hf (Nat.le_refl _) hob (by simpa using h0)
    rw [k1, k2, k3, k4] at h
    exact h
  · have he : ent dg dl dc dr gs ls cs rs = entry dg dl dc dr := by unfold ent; rw [if_neg hs]
    rw [he] at hn hl
    have h := get_diff b o n cp _ _ _ _ G L C R gs ls cs rs dg dl dc dr w hcur hf hob hd1 hd2 i2 i3 i4 rfl rfl rfl rfl (by rw [hn]; unfold entry; simp; omega) hcp hl
    rw [k1, k2, k3, k4] at h
    exact h

theorem ent_pos (dg dl dc dr gs ls cs rs : Int) : 1 ≤ (ent dg dl dc dr gs ls cs rs).length := by
  unfold ent
  split
  · simp
  · have := Lib.uvarint_pos (hdr dg)
    unfold entry
    simp
    omega

theorem lies_of {w : World} {v : Value} {l : List UInt8} (h : Row w v (Lib.byteCells l)) (hl : 1 ≤ l.length) : ∃ q cp, v = .slice (some ⟨q, 0, none⟩) l.length cp ∧ l.length ≤ cp ∧ Lies w q 0 l := by
  have hlen := Lib.byteCells_length l
  rcases h.2 with ⟨rfl, hn⟩ | ⟨g, cap, cur, rfl, _, hg, hnc, hcm, hcs, htake⟩
  · omega
  · refine ⟨g, cap, by rw [hlen], by omega, fun j hj => ?_⟩
    rw [Nat.zero_add, World.ownsRow.cellAt h j (by omega)]
    simp [Lib.byteCells, hj]

theorem five (w : World) (G L C R gs ls cs rs : Int) :
    (((((w.alloc (.cells (curCells G L C R gs ls cs rs) 23)).alloc (.cells (curCells G L C R gs ls cs rs) 23)).alloc (.cells (curCells G L C R gs ls cs rs) 26)).alloc (.cells (curCells G L C R gs ls cs rs) 26)).alloc (.cells (curCells G L C R gs ls cs rs) 26)).heap[w.heap.size + 1 + 1 + 1]? = some (.cells (curCells G L C R gs ls cs rs) 26 (0, 0)) ∧ (((((w.alloc (.cells (curCells G L C R gs ls cs rs) 23)).alloc (.cells (curCells G L C R gs ls cs rs) 23)).alloc (.cells (curCells G L C R gs ls cs rs) 26)).alloc (.cells (curCells G L C R gs ls cs rs) 26)).alloc (.cells (curCells G L C R gs ls cs rs) 26)).heap[w.heap.size + 1 + 1 + 1 + 1]? = some (.cells (curCells G L C R gs ls cs rs) 26 (0, 0)) ∧ (∀ k, k < w.heap.size → (((((w.alloc (.cells (curCells G L C R gs ls cs rs) 23)).alloc (.cells (curCells G L C R gs ls cs rs) 23)).alloc (.cells (curCells G L C R gs ls cs rs) 26)).alloc (.cells (curCells G L C R gs ls cs rs) 26)).alloc (.cells (curCells G L C R gs ls cs rs) 26)).heap[k]? = w.heap[k]?) ∧ (((((w.alloc (.cells (curCells G L C R gs ls cs rs) 23)).alloc (.cells (curCells G L C R gs ls cs rs) 23)).alloc (.cells (curCells G L C R gs ls cs rs) 26)).alloc (.cells (curCells G L C R gs ls cs rs) 26)).alloc (.cells (curCells G L C R gs ls cs rs) 26)).heap.size = w.heap.size + 5 := by
  refine ⟨?_, ?_, fun k hk => ?_, by simp⟩
  · rw [Below.heap_alloc _ _ _ (by simp)]
    show ((((w.heap.push _).push _).push _).push _)[w.heap.size + 1 + 1 + 1]? = _
    rw [Array.getElem?_push, if_pos (by simp)]
  · show (((((w.heap.push _).push _).push _).push _).push _)[w.heap.size + 1 + 1 + 1 + 1]? = _
    rw [Array.getElem?_push, if_pos (by simp)]
  · rw [Below.heap_alloc _ _ _ (by simp; omega), Below.heap_alloc _ _ _ (by simp; omega), Below.heap_alloc _ _ _ (by simp; omega), Below.heap_alloc _ _ _ (by simp; omega), Below.heap_alloc _ _ _ hk]

theorem free_of {w : World} {b : Nat} {cs : Array Value} {t : TypeId} (h : w.heap[b]? = some (.cells cs t (0, 0))) (j : Nat) : w.frozen? ⟨b, j, none⟩ = false := by simp [World.frozen?, h]

/-- Behind put: the second cursor is as it was; where the bytes lie. -/
theorem after_put {w W w6 : World} {cb db : Nat} {vg : Value} {G L C R gs ls cs rs dg dl dc dr : Int} (hW : ∀ k, k < w.heap.size → W.heap[k]? = w.heap[k]?) (hsz : w.heap.size ≤ W.heap.size) (ho : W.os = w.os) (ht : W.tape = w.tape) (hu : W.output = w.output)
    (hd : W.heap[db]? = some (.cells (curCells G L C R gs ls cs rs) 26 (0, 0))) (hcd : cb ≠ db) (hcb : w.heap.size ≤ cb) (hrow : Row w6 vg ([] ++ Lib.byteCells (ent dg dl dc dr gs ls cs rs))) (hpf : PF W w6 cb (.slice none 0 0) vg) :
    Cur w6 db G L C R gs ls cs rs ∧ (∀ j, w6.frozen? ⟨db, j, none⟩ = false) ∧ Below w.heap.size w w6 ∧
      ∃ q cp, vg = .slice (some ⟨q, 0, none⟩) (ent dg dl dc dr gs ls cs rs).length cp ∧ (ent dg dl dc dr gs ls cs rs).length ≤ cp ∧ Lies w6 q 0 (ent dg dl dc dr gs ls cs rs) ∧ W.heap.size ≤ q := by
  have hdl : db < W.heap.size := (Array.getElem?_eq_some_iff.1 hd).1
  have hd6 : w6.heap[db]? = some (.cells (curCells G L C R gs ls cs rs) 26 (0, 0)) := (hpf.block db hdl hcd.symm (by simp [Value.ownBlock])).trans hd
  refine ⟨Cur.of hd6, free_of hd6, ⟨hpf.os.trans ho, hpf.tape.trans ht, hpf.output.trans hu, Nat.le_trans hsz hpf.size, fun k hk => (hpf.block k (by omega) (by omega) (by simp [Value.ownBlock])).trans (hW k hk)⟩, ?_⟩
  rw [List.nil_append] at hrow
  obtain ⟨q, cp, rfl, hcp, hl⟩ := lies_of hrow (ent_pos ..)
  refine ⟨q, cp, rfl, hcp, hl, ?_⟩
  rcases hpf.blk with e | ⟨q', e, hq⟩
  · simp [Value.ownBlock] at e
  · simp [Value.ownBlock] at e; omega

set_option maxHeartbeats 2000000 in
set_option maxRecDepth 100000 in
theorem trip_out (G L C R gs ls cs rs g l c r dg : Int) (w : World) (e1 : wrap64 (g - G) = dg) (hd : dg < -4611686018427387904 ∨ 4611686018427387904 ≤ dg) :
    Calls Yba.prog 4 #[.agg #[.int .i64 G, .int .i64 L, .int .i64 C, .int .i64 R, .int .i64 gs, .int .i64 ls, .int .i64 cs, .int .i64 rs], .int .i64 g, .int .i64 l, .int .i64 c, .int .i64 r] w fun e w' => e = .returned (.bool true) ∧ Below w.heap.size w w' := by
  rcases hd with hd | hd
  all_goals
    go_enter Yba.func4, Yba.ntmps4
    go_wp2_with fail
    go_ret
    exact ⟨rfl, (Below.refl _ _).alloc (Nat.le_refl _) _⟩

set_option maxHeartbeats 2000000 in
set_option maxRecDepth 100000 in
theorem trip_in (G L C R gs ls cs rs g l c r dg dl dc dr : Int) (w : World) (hd1 : -4611686018427387904 ≤ dg) (hd2 : dg < 4611686018427387904)
    (e1 : wrap64 (g - G) = dg) (e2 : wrap64 (l - L) = dl) (e3 : wrap64 (c - C) = dc) (e4 : wrap64 (r - R) = dr) (b1 : In64 g) (b2 : In64 l) (b3 : In64 c) (b4 : In64 r) :
    Calls Yba.prog 4 #[.agg #[.int .i64 G, .int .i64 L, .int .i64 C, .int .i64 R, .int .i64 gs, .int .i64 ls, .int .i64 cs, .int .i64 rs], .int .i64 g, .int .i64 l, .int .i64 c, .int .i64 r] w fun e w' => e = .returned (.bool true) ∧ Below w.heap.size w w' := by
  have i1 : In64 dg := by rw [← e1]; exact wrap64_bd _
  have i2 : In64 dl := by rw [← e2]; exact wrap64_bd _
  have i3 : In64 dc := by rw [← e3]; exact wrap64_bd _
  have i4 : In64 dr := by rw [← e4]; exact wrap64_bd _
  obtain ⟨f1, f2, f3, f4⟩ := five w G L C R gs ls cs rs
  have hP := put_any (w.heap.size + 1 + 1 + 1) (.slice none 0 0) [] g l c r G L C R gs ls cs rs dg dl dc dr _ (Cur.of f1) (free_of f1) (World.ownsRow_nil _ _ _ _) (by simp [Value.ownBlock]) (by simp) e1 e2 e3 e4 i1 i2 i3 i4
  have HP : Hid (Calls Yba.prog 8 #[.pointer (some ⟨w.heap.size + 1 + 1 + 1, 0, none⟩), .slice none 0 0, .int .i64 g, .int .i64 l, .int .i64 c, .int .i64 r] (((((w.alloc (.cells (curCells G L C R gs ls cs rs) 23)).alloc (.cells (curCells G L C R gs ls cs rs) 23)).alloc (.cells (curCells G L C R gs ls cs rs) 26)).alloc (.cells (curCells G L C R gs ls cs rs) 26)).alloc (.cells (curCells G L C R gs ls cs rs) 26)) fun e w' => ∃ v', e = .returned v' ∧ Row w' v' ([] ++ Lib.byteCells (ent dg dl dc dr gs ls cs rs)) ∧ Cur w' (w.heap.size + 1 + 1 + 1) g l c r dg dl dc dr ∧ PF (((((w.alloc (.cells (curCells G L C R gs ls cs rs) 23)).alloc (.cells (curCells G L C R gs ls cs rs) 23)).alloc (.cells (curCells G L C R gs ls cs rs) 26)).alloc (.cells (curCells G L C R gs ls cs rs) 26)).alloc (.cells (curCells G L C R gs ls cs rs) 26)) w' (w.heap.size + 1 + 1 + 1) (.slice none 0 0) v' ∧ v'.ownBlock ≠ some (w.heap.size + 1 + 1 + 1)) := hP
  have F2 : Hid ((((((w.alloc (.cells (curCells G L C R gs ls cs rs) 23)).alloc (.cells (curCells G L C R gs ls cs rs) 23)).alloc (.cells (curCells G L C R gs ls cs rs) 26)).alloc (.cells (curCells G L C R gs ls cs rs) 26)).alloc (.cells (curCells G L C R gs ls cs rs) 26)).heap[w.heap.size + 1 + 1 + 1 + 1]? = some (.cells (curCells G L C R gs ls cs rs) 26 (0, 0))) := f2
  have F3 : Hid (∀ k, k < w.heap.size → (((((w.alloc (.cells (curCells G L C R gs ls cs rs) 23)).alloc (.cells (curCells G L C R gs ls cs rs) 23)).alloc (.cells (curCells G L C R gs ls cs rs) 26)).alloc (.cells (curCells G L C R gs ls cs rs) 26)).alloc (.cells (curCells G L C R gs ls cs rs) 26)).heap[k]? = w.heap[k]?) := f3
  clear hP f1 f2 f3 f4
  go_enter Yba.func4, Yba.ntmps4
  go_wp2_with (go_at_call 5; refine (cur_any G L C R gs ls cs rs _).mono ?_; rintro e w1 ⟨rfl, rfl⟩; unfold curCells)
  refine (HP.out).mono ?_
  rintro e w6 ⟨vg, rfl, hrow, hcur, hpf, _⟩
  obtain ⟨hcd, hfd, hbel, q, cp, rfl, hcp, hl, hq⟩ := after_put (G := G) (L := L) (C := C) (R := R) F3.out (by simp; omega) rfl rfl rfl F2.out (by omega) (by omega) hrow hpf
  have hq' : ¬ q = w.heap.size + 1 + 1 + 1 + 1 := by simp at hq; omega
  have hpos := ent_pos dg dl dc dr gs ls cs rs
  have hlen := ent_length dg dl dc dr gs ls cs rs i1 i2 i3 i4
  have hG := get_any (w.heap.size + 1 + 1 + 1 + 1) q _ cp g l c r G L C R gs ls cs rs dg dl dc dr w6 hcd hfd hq' hd1 hd2 e1 e2 e3 e4 b1 b2 b3 b4 rfl hcp hl
  clear hrow hpf hcd hfd hcp hl hq HP F2 F3
  generalize (ent dg dl dc dr gs ls cs rs).length = n at hG hpos hlen ⊢
  have HG : Hid (Calls Yba.prog 10 #[.pointer (some ⟨w.heap.size + 1 + 1 + 1 + 1, 0, none⟩), .slice (some ⟨q, 0, none⟩) n cp] w6 fun e w' => e = .returned (.int .i64 n) ∧ Cur w' (w.heap.size + 1 + 1 + 1 + 1) g l c r dg dl dc dr ∧ w6.grownBy w' (some (w.heap.size + 1 + 1 + 1 + 1))) := hG
  have HB : Hid (Below w.heap.size w w6) := hbel
  have HC : Hid (Cur w6 (w.heap.size + 1 + 1 + 1) g l c r dg dl dc dr) := hcur
  have hn0 : ((n : Int) == 0) = false := by rw [beq_eq_false_iff_ne]; omega
  clear hG hbel hcur
  go_wp2_with fail
  refine (HG.out).mono ?_
  rintro e w7 ⟨rfl, hcd7, hgr⟩
  have hcb6 := HC.out.lt
  have hc7 : Cur w7 (w.heap.size + 1 + 1 + 1) g l c r dg dl dc dr := HC.out.kept (hgr.block _ hcb6 (by intro e; simp at e))
  obtain ⟨c0, c1, c2, c3, c4, c5, c6, c7⟩ := hc7
  obtain ⟨d0, d1, d2, d3, d4, d5, d6, d7⟩ := hcd7
  have HB7 : Hid (Below w.heap.size w w7) := by
    have hb := HB.out
    exact ⟨hgr.os.trans hb.os, hgr.tape.trans hb.tape, hgr.output.trans hb.output, Nat.le_trans hb.size hgr.size, fun k hk => (hgr.block k (by have := hb.size; omega) (by intro e; simp at e; omega)).trans (hb.block k hk)⟩
  clear hgr
  go_wp2_with fail
  go_ret
  refine ⟨by simp, HB7.out⟩
end Go.Proofs.Ybulkegdg.S6623B
