import Derived.Test.YbulkegdgPut
namespace Go.Proofs.Ybulkegdg.S6623B
open Go.RowKit
set_option linter.unusedVariables false

/-- An entry that is not the byte 'again'. -/
def entry (dg dl dc dr : Int) : List UInt8 := Lib.uvarint (hdr dg) ++ (Lib.uvarint (Lib.zigzag dl) ++ (Lib.uvarint (Lib.zigzag dc) ++ Lib.uvarint (Lib.zigzag dr)))

def In64 (d : Int) : Prop := -9223372036854775808 ≤ d ∧ d ≤ 9223372036854775807

set_option maxHeartbeats 2000000 in
set_option maxRecDepth 100000 in
theorem put_same (b : Nat) (v : Value) (xs : List Value) (g l c r G L C R gs ls cs rs dg dl dc dr : Int) (w : World) (hcur : Cur w b G L C R gs ls cs rs) (hf : ∀ j, w.frozen? ⟨b, j, none⟩ = false) (hown : Row w v xs) (hvb : v.ownBlock ≠ some b) (hlim : xs.length + 40 ≤ 1099511627776)
    (e1 : wrap64 (g - G) = dg) (e2 : wrap64 (l - L) = dl) (e3 : wrap64 (c - C) = dc) (e4 : wrap64 (r - R) = dr) (b1 : In64 dg) (b2 : In64 dl) (b3 : In64 dc) (b4 : In64 dr) (t1 : (dg == gs) = true) (t2 : (dl == ls) = true) (t3 : (dc == cs) = true) (t4 : (dr == rs) = true) :
    Calls Yba.prog 8 #[.pointer (some ⟨b, 0, none⟩), v, .int .i64 g, .int .i64 l, .int .i64 c, .int .i64 r] w fun e w' => ∃ v', e = .returned v' ∧ Row w' v' (xs ++ Lib.byteCells ([0])) ∧ Cur w' b g l c r dg dl dc dr ∧ PF w w' b v v' ∧ v'.ownBlock ≠ some b := by
  have hc0 := hcur
  obtain ⟨c0, c1, c2, c3, c4, c5, c6, c7⟩ := hcur
  have HC : Hid (Cur w b G L C R gs ls cs rs) := hc0
  clear hc0
  have hbs : b < w.heap.size := World.block_lt_of_cell? w _ c0
  go_enter Yba.func8, Yba.ntmps8
  go_wp2_with fail
  go_quiet (fail)
  go_wp2_with (at_builtin; refine wpList_append_keep _ rfl _ _ rfl _ _ rfl ((hown.drewN _).alloc _) ⟨w.heap.size, 0, none⟩ (Value.int .u8 0) rfl ?c1 rfl (by omega) ?_)
  case c1 => exact World.cell?_alloc_new (w.drewN _) #[Value.int .u8 0] 5 0
  intro v4 w4 ho4 hs4
  have hst := ((Step.refl (w.drewN nq) v).alloc (.cells #[Value.int .u8 0] 5)).trans hs4
  have hb : w4.heap[b]? = w.heap[b]? := hst.grown.block b hbs (fun e => hvb e.symm)
  obtain ⟨q0, q1, q2, q3, q4, q5, q6, q7⟩ := HC.out.kept hb
  have hfr : ∀ j, w4.frozen? ⟨b, j, none⟩ = false := fun j => (World.frozen?_of_block (w := w) (a := ⟨b, j, none⟩) hb).trans (hf j)
  have HE : Hid (Row w4 v4 (xs ++ Lib.byteCells [0])) := by
    show Row w4 v4 (xs ++ Lib.byteCells [0])
    simpa [Lib.byteCells] using ho4
  have HS : Hid (Step (w.drewN nq) w4 v v4) := hst
  clear ho4 hs4 hst hb c0 c1 c2 c3 c4 c5 c6 c7 hf
  go_wp2_with fail
  go_ret
  obtain ⟨r1, r2, r3, r4⟩ := put_end (g' := g) (l' := l) (c' := c) (r' := r) (gs' := dg) (ls' := dl) (cs' := dc) (rs' := dr) HC.out hvb HS.out HE.out
  exact ⟨v4, rfl, r1, r2, r3, r4⟩

set_option maxHeartbeats 2000000 in
set_option maxRecDepth 100000 in
theorem put_diff1 (b : Nat) (v : Value) (xs : List Value) (g l c r G L C R gs ls cs rs dg dl dc dr : Int) (w : World) (hcur : Cur w b G L C R gs ls cs rs) (hf : ∀ j, w.frozen? ⟨b, j, none⟩ = false) (hown : Row w v xs) (hvb : v.ownBlock ≠ some b) (hlim : xs.length + 40 ≤ 1099511627776)
    (e1 : wrap64 (g - G) = dg) (e2 : wrap64 (l - L) = dl) (e3 : wrap64 (c - C) = dc) (e4 : wrap64 (r - R) = dr) (b1 : In64 dg) (b2 : In64 dl) (b3 : In64 dc) (b4 : In64 dr)  (t1 : (dg == gs) = false) :
    Calls Yba.prog 8 #[.pointer (some ⟨b, 0, none⟩), v, .int .i64 g, .int .i64 l, .int .i64 c, .int .i64 r] w fun e w' => ∃ v', e = .returned v' ∧ Row w' v' (xs ++ Lib.byteCells (entry dg dl dc dr)) ∧ Cur w' b g l c r dg dl dc dr ∧ PF w w' b v v' ∧ v'.ownBlock ≠ some b := by
  have hc0 := hcur
  obtain ⟨c0, c1, c2, c3, c4, c5, c6, c7⟩ := hcur
  have HC : Hid (Cur w b G L C R gs ls cs rs) := hc0
  clear hc0
  have hbs : b < w.heap.size := World.block_lt_of_cell? w _ c0
  go_enter Yba.func8, Yba.ntmps8
  go_wp2_with fail
  go_quiet (fail)
  go_wp2_with fail
  rw [zig_eq dg b1.1 b1.2, hdr_eq dg]
  refine (auv_any (hdr dg) (hdr_lt dg) v xs _ (hown.drewN _) (by omega)).mono ?_
  rintro e w1 ⟨v1, rfl, ho1, hs1⟩
  have l1 := Lib.uvarint_length64 (hdr_lt dg)
  have l2 := Lib.uvarint_length64 (Lib.zigzag_lt b2.1 b2.2)
  have l3 := Lib.uvarint_length64 (Lib.zigzag_lt b3.1 b3.2)
  have l4 := Lib.uvarint_length64 (Lib.zigzag_lt b4.1 b4.2)
  go_wp2_with fail
  refine (avar_any dl b2.1 b2.2 v1 _ _ ho1 (by simp [Lib.byteCells_length]; omega)).mono ?_
  rintro e w2 ⟨v2, rfl, ho2, hs2⟩
  go_wp2_with fail
  refine (avar_any dc b3.1 b3.2 v2 _ _ ho2 (by simp [Lib.byteCells_length]; omega)).mono ?_
  rintro e w3 ⟨v3, rfl, ho3, hs3⟩
  go_wp2_with fail
  refine (avar_any dr b4.1 b4.2 v3 _ _ ho3 (by simp [Lib.byteCells_length]; omega)).mono ?_
  rintro e w4 ⟨v4, rfl, ho4, hs4⟩
  have hst := ((hs1.trans hs2).trans hs3).trans hs4
  have hb : w4.heap[b]? = w.heap[b]? := hst.grown.block b hbs (fun e => hvb e.symm)
  obtain ⟨q0, q1, q2, q3, q4, q5, q6, q7⟩ := HC.out.kept hb
  have hfr : ∀ j, w4.frozen? ⟨b, j, none⟩ = false := fun j => (World.frozen?_of_block (w := w) (a := ⟨b, j, none⟩) hb).trans (hf j)
  have HE : Hid (Row w4 v4 (xs ++ Lib.byteCells (entry dg dl dc dr))) := by
    show Row w4 v4 (xs ++ Lib.byteCells (entry dg dl dc dr))
    simpa [entry, Lib.byteCells] using ho4
  have HS : Hid (Step (w.drewN _) w4 v v4) := hst
  clear ho1 hs1 ho2 hs2 ho3 hs3 ho4 hs4 hst hb c0 c1 c2 c3 c4 c5 c6 c7 hf
  go_wp2_with fail
  go_ret
  obtain ⟨r1, r2, r3, r4⟩ := put_end (g' := g) (l' := l) (c' := c) (r' := r) (gs' := dg) (ls' := dl) (cs' := dc) (rs' := dr) HC.out hvb HS.out HE.out
  exact ⟨v4, rfl, r1, r2, r3, r4⟩

set_option maxHeartbeats 2000000 in
set_option maxRecDepth 100000 in
theorem put_diff2 (b : Nat) (v : Value) (xs : List Value) (g l c r G L C R gs ls cs rs dg dl dc dr : Int) (w : World) (hcur : Cur w b G L C R gs ls cs rs) (hf : ∀ j, w.frozen? ⟨b, j, none⟩ = false) (hown : Row w v xs) (hvb : v.ownBlock ≠ some b) (hlim : xs.length + 40 ≤ 1099511627776)
    (e1 : wrap64 (g - G) = dg) (e2 : wrap64 (l - L) = dl) (e3 : wrap64 (c - C) = dc) (e4 : wrap64 (r - R) = dr) (b1 : In64 dg) (b2 : In64 dl) (b3 : In64 dc) (b4 : In64 dr) (t1 : (dg == gs) = true) (t2 : (dl == ls) = false) :
    Calls Yba.prog 8 #[.pointer (some ⟨b, 0, none⟩), v, .int .i64 g, .int .i64 l, .int .i64 c, .int .i64 r] w fun e w' => ∃ v', e = .returned v' ∧ Row w' v' (xs ++ Lib.byteCells (entry dg dl dc dr)) ∧ Cur w' b g l c r dg dl dc dr ∧ PF w w' b v v' ∧ v'.ownBlock ≠ some b := by
  have hc0 := hcur
  obtain ⟨c0, c1, c2, c3, c4, c5, c6, c7⟩ := hcur
  have HC : Hid (Cur w b G L C R gs ls cs rs) := hc0
  clear hc0
  have hbs : b < w.heap.size := World.block_lt_of_cell? w _ c0
  go_enter Yba.func8, Yba.ntmps8
  go_wp2_with fail
  go_quiet (fail)
  go_wp2_with fail
  rw [zig_eq dg b1.1 b1.2, hdr_eq dg]
  refine (auv_any (hdr dg) (hdr_lt dg) v xs _ (hown.drewN _) (by omega)).mono ?_
  rintro e w1 ⟨v1, rfl, ho1, hs1⟩
  have l1 := Lib.uvarint_length64 (hdr_lt dg)
  have l2 := Lib.uvarint_length64 (Lib.zigzag_lt b2.1 b2.2)
  have l3 := Lib.uvarint_length64 (Lib.zigzag_lt b3.1 b3.2)
  have l4 := Lib.uvarint_length64 (Lib.zigzag_lt b4.1 b4.2)
  go_wp2_with fail
  refine (avar_any dl b2.1 b2.2 v1 _ _ ho1 (by simp [Lib.byteCells_length]; omega)).mono ?_
  rintro e w2 ⟨v2, rfl, ho2, hs2⟩
  go_wp2_with fail
  refine (avar_any dc b3.1 b3.2 v2 _ _ ho2 (by simp [Lib.byteCells_length]; omega)).mono ?_
  rintro e w3 ⟨v3, rfl, ho3, hs3⟩
  go_wp2_with fail
  refine (avar_any dr b4.1 b4.2 v3 _ _ ho3 (by simp [Lib.byteCells_length]; omega)).mono ?_
  rintro e w4 ⟨v4, rfl, ho4, hs4⟩
  have hst := ((hs1.trans hs2).trans hs3).trans hs4
  have hb : w4.heap[b]? = w.heap[b]? := hst.grown.block b hbs (fun e => hvb e.symm)
  obtain ⟨q0, q1, q2, q3, q4, q5, q6, q7⟩ := HC.out.kept hb
  have hfr : ∀ j, w4.frozen? ⟨b, j, none⟩ = false := fun j => (World.frozen?_of_block (w := w) (a := ⟨b, j, none⟩) hb).trans (hf j)
  have HE : Hid (Row w4 v4 (xs ++ Lib.byteCells (entry dg dl dc dr))) := by
    show Row w4 v4 (xs ++ Lib.byteCells (entry dg dl dc dr))
    simpa [entry, Lib.byteCells] using ho4
  have HS : Hid (Step (w.drewN _) w4 v v4) := hst
  clear ho1 hs1 ho2 hs2 ho3 hs3 ho4 hs4 hst hb c0 c1 c2 c3 c4 c5 c6 c7 hf
  go_wp2_with fail
  go_ret
  obtain ⟨r1, r2, r3, r4⟩ := put_end (g' := g) (l' := l) (c' := c) (r' := r) (gs' := dg) (ls' := dl) (cs' := dc) (rs' := dr) HC.out hvb HS.out HE.out
  exact ⟨v4, rfl, r1, r2, r3, r4⟩

set_option maxHeartbeats 2000000 in
set_option maxRecDepth 100000 in
theorem put_diff3 (b : Nat) (v : Value) (xs : List Value) (g l c r G L C R gs ls cs rs dg dl dc dr : Int) (w : World) (hcur : Cur w b G L C R gs ls cs rs) (hf : ∀ j, w.frozen? ⟨b, j, none⟩ = false) (hown : Row w v xs) (hvb : v.ownBlock ≠ some b) (hlim : xs.length + 40 ≤ 1099511627776)
    (e1 : wrap64 (g - G) = dg) (e2 : wrap64 (l - L) = dl) (e3 : wrap64 (c - C) = dc) (e4 : wrap64 (r - R) = dr) (b1 : In64 dg) (b2 : In64 dl) (b3 : In64 dc) (b4 : In64 dr) (t1 : (dg == gs) = true) (t2 : (dl == ls) = true) (t3 : (dc == cs) = false) :
    Calls Yba.prog 8 #[.pointer (some ⟨b, 0, none⟩), v, .int .i64 g, .int .i64 l, .int .i64 c, .int .i64 r] w fun e w' => ∃ v', e = .returned v' ∧ Row w' v' (xs ++ Lib.byteCells (entry dg dl dc dr)) ∧ Cur w' b g l c r dg dl dc dr ∧ PF w w' b v v' ∧ v'.ownBlock ≠ some b := by
  have hc0 := hcur
  obtain ⟨c0, c1, c2, c3, c4, c5, c6, c7⟩ := hcur
  have HC : Hid (Cur w b G L C R gs ls cs rs) := hc0
  clear hc0
  have hbs : b < w.heap.size := World.block_lt_of_cell? w _ c0
  go_enter Yba.func8, Yba.ntmps8
  go_wp2_with fail
  go_quiet (fail)
  go_wp2_with fail
  rw [zig_eq dg b1.1 b1.2, hdr_eq dg]
  refine (auv_any (hdr dg) (hdr_lt dg) v xs _ (hown.drewN _) (by omega)).mono ?_
  rintro e w1 ⟨v1, rfl, ho1, hs1⟩
  have l1 := Lib.uvarint_length64 (hdr_lt dg)
  have l2 := Lib.uvarint_length64 (Lib.zigzag_lt b2.1 b2.2)
  have l3 := Lib.uvarint_length64 (Lib.zigzag_lt b3.1 b3.2)
  have l4 := Lib.uvarint_length64 (Lib.zigzag_lt b4.1 b4.2)
  go_wp2_with fail
  refine (avar_any dl b2.1 b2.2 v1 _ _ ho1 (by simp [Lib.byteCells_length]; omega)).mono ?_
  rintro e w2 ⟨v2, rfl, ho2, hs2⟩
  go_wp2_with fail
  refine (avar_any dc b3.1 b3.2 v2 _ _ ho2 (by simp [Lib.byteCells_length]; omega)).mono ?_
  rintro e w3 ⟨v3, rfl, ho3, hs3⟩
  go_wp2_with fail
  refine (avar_any dr b4.1 b4.2 v3 _ _ ho3 (by simp [Lib.byteCells_length]; omega)).mono ?_
  rintro e w4 ⟨v4, rfl, ho4, hs4⟩
  have hst := ((hs1.trans hs2).trans hs3).trans hs4
  have hb : w4.heap[b]? = w.heap[b]? := hst.grown.block b hbs (fun e => hvb e.symm)
  obtain ⟨q0, q1, q2, q3, q4, q5, q6, q7⟩ := HC.out.kept hb
  have hfr : ∀ j, w4.frozen? ⟨b, j, none⟩ = false := fun j => (World.frozen?_of_block (w := w) (a := ⟨b, j, none⟩) hb).trans (hf j)
  have HE : Hid (Row w4 v4 (xs ++ Lib.byteCells (entry dg dl dc dr))) := by
    show Row w4 v4 (xs ++ Lib.byteCells (entry dg dl dc dr))
    simpa [entry, Lib.byteCells] using ho4
  have HS : Hid (Step (w.drewN _) w4 v v4) := hst
  clear ho1 hs1 ho2 hs2 ho3 hs3 ho4 hs4 hst hb c0 c1 c2 c3 c4 c5 c6 c7 hf
  go_wp2_with fail
  go_ret
  obtain ⟨r1, r2, r3, r4⟩ := put_end (g' := g) (l' := l) (c' := c) (r' := r) (gs' := dg) (ls' := dl) (cs' := dc) (rs' := dr) HC.out hvb HS.out HE.out
  exact ⟨v4, rfl, r1, r2, r3, r4⟩

set_option maxHeartbeats 2000000 in
set_option maxRecDepth 100000 in
theorem put_diff4 (b : Nat) (v : Value) (xs : List Value) (g l c r G L C R gs ls cs rs dg dl dc dr : Int) (w : World) (hcur : Cur w b G L C R gs ls cs rs) (hf : ∀ j, w.frozen? ⟨b, j, none⟩ = false) (hown : Row w v xs) (hvb : v.ownBlock ≠ some b) (hlim : xs.length + 40 ≤ 1099511627776)
    (e1 : wrap64 (g - G) = dg) (e2 : wrap64 (l - L) = dl) (e3 : wrap64 (c - C) = dc) (e4 : wrap64 (r - R) = dr) (b1 : In64 dg) (b2 : In64 dl) (b3 : In64 dc) (b4 : In64 dr) (t1 : (dg == gs) = true) (t2 : (dl == ls) = true) (t3 : (dc == cs) = true) (t4 : (dr == rs) = false) :
    Calls Yba.prog 8 #[.pointer (some ⟨b, 0, none⟩), v, .int .i64 g, .int .i64 l, .int .i64 c, .int .i64 r] w fun e w' => ∃ v', e = .returned v' ∧ Row w' v' (xs ++ Lib.byteCells (entry dg dl dc dr)) ∧ Cur w' b g l c r dg dl dc dr ∧ PF w w' b v v' ∧ v'.ownBlock ≠ some b := by
  have hc0 := hcur
  obtain ⟨c0, c1, c2, c3, c4, c5, c6, c7⟩ := hcur
  have HC : Hid (Cur w b G L C R gs ls cs rs) := hc0
  clear hc0
  have hbs : b < w.heap.size := World.block_lt_of_cell? w _ c0
  go_enter Yba.func8, Yba.ntmps8
  go_wp2_with fail
  go_quiet (fail)
  go_wp2_with fail
  rw [zig_eq dg b1.1 b1.2, hdr_eq dg]
  refine (auv_any (hdr dg) (hdr_lt dg) v xs _ (hown.drewN _) (by omega)).mono ?_
  rintro e w1 ⟨v1, rfl, ho1, hs1⟩
  have l1 := Lib.uvarint_length64 (hdr_lt dg)
  have l2 := Lib.uvarint_length64 (Lib.zigzag_lt b2.1 b2.2)
  have l3 := Lib.uvarint_length64 (Lib.zigzag_lt b3.1 b3.2)
  have l4 := Lib.uvarint_length64 (Lib.zigzag_lt b4.1 b4.2)
  go_wp2_with fail
  refine (avar_any dl b2.1 b2.2 v1 _ _ ho1 (by simp [Lib.byteCells_length]; omega)).mono ?_
  rintro e w2 ⟨v2, rfl, ho2, hs2⟩
  go_wp2_with fail
  refine (avar_any dc b3.1 b3.2 v2 _ _ ho2 (by simp [Lib.byteCells_length]; omega)).mono ?_
  rintro e w3 ⟨v3, rfl, ho3, hs3⟩
  go_wp2_with fail
  refine (avar_any dr b4.1 b4.2 v3 _ _ ho3 (by simp [Lib.byteCells_length]; omega)).mono ?_
  rintro e w4 ⟨v4, rfl, ho4, hs4⟩
  have hst := ((hs1.trans hs2).trans hs3).trans hs4
  have hb : w4.heap[b]? = w.heap[b]? := hst.grown.block b hbs (fun e => hvb e.symm)
  obtain ⟨q0, q1, q2, q3, q4, q5, q6, q7⟩ := HC.out.kept hb
  have hfr : ∀ j, w4.frozen? ⟨b, j, none⟩ = false := fun j => (World.frozen?_of_block (w := w) (a := ⟨b, j, none⟩) hb).trans (hf j)
  have HE : Hid (Row w4 v4 (xs ++ Lib.byteCells (entry dg dl dc dr))) := by
    show Row w4 v4 (xs ++ Lib.byteCells (entry dg dl dc dr))
    simpa [entry, Lib.byteCells] using ho4
  have HS : Hid (Step (w.drewN _) w4 v v4) := hst
  clear ho1 hs1 ho2 hs2 ho3 hs3 ho4 hs4 hst hb c0 c1 c2 c3 c4 c5 c6 c7 hf
  go_wp2_with fail
  go_ret
  obtain ⟨r1, r2, r3, r4⟩ := put_end (g' := g) (l' := l) (c' := c) (r' := r) (gs' := dg) (ls' := dl) (cs' := dc) (rs' := dr) HC.out hvb HS.out HE.out
  exact ⟨v4, rfl, r1, r2, r3, r4⟩

end Go.Proofs.Ybulkegdg.S6623B
