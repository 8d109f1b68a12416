import Derived.Test.YbulkegdgWhole
namespace Go.Proofs.Ybulkegdg.S6623B
open Go.RowKit
set_option linter.unusedVariables false

set_option maxHeartbeats 4000000 in
set_option maxRecDepth 100000 in
theorem whole1 (G L C R gs ls cs rs g l c r dg dl dc dr : Int) (a : Option Addr) (n cp : Nat) (zs : Nat → Int) (w : World) (hn : n ≤ 1048576) (hcell : Cells w a n zs)
    (e1 : wrap64 (g - G) = dg) (e2 : wrap64 (l - L) = dl) (e3 : wrap64 (c - C) = dc) (e4 : wrap64 (r - R) = dr) (b1 : In64 dg) (b2 : In64 dl) (b3 : In64 dc) (b4 : In64 dr)  (t1 : (dg == gs) = false) :
    Calls Yba.prog 3 #[.agg #[.int .i64 G, .int .i64 L, .int .i64 C, .int .i64 R, .int .i64 gs, .int .i64 ls, .int .i64 cs, .int .i64 rs], .slice a n cp, .int .i64 g, .int .i64 l, .int .i64 c, .int .i64 r] w fun e w' => e = .returned (.bool true) ∧ Below w.heap.size w w' := by
  obtain ⟨W1, W2, r1, r2, hbox1, hs1, hset⟩ := set_up w n hn zs a cp G L C R gs ls cs rs hcell
  have mk1 := fun w => mk24 w n n (Nat.le_refl _) (by omega)
  have mk2 : ∀ w : World, (Instr.makeSlice 24 (.int .i64 n) (.int .i64 ((n : Int) + 41))).run Yba.prog w = .ok (.slice (some ⟨w.heap.size, 0, none⟩) n (n + 41)) (w.alloc (.cells (madeCells #[.int .u8 0] (n + 41)) 5)) := fun w => mk24 w n (n + 41) (by omega) (by omega)
  obtain ⟨p0, p1, p2, p3, p4, p5, p6, p7⟩ := hbox1
  obtain ⟨q0, q1, q2, q3, q4, q5, q6, q7⟩ := hset.box
  have HS : Hid (Set w W2 n zs a G L C R gs ls cs rs (w.heap.size + 1) (W1.heap.size + 3) (W1.heap.size + 2)) := hset
  have HC : Hid (Cells w a n zs) := hcell
  clear hset hcell
  unfold curCells at r1 r2
  have ha1 : w.heap.size < W1.heap.size + 1 := by omega
  have ha2 : w.heap.size < W1.heap.size + 1 + 1 := by omega
  have ha3 : w.heap.size < W1.heap.size + 2 := by omega
  have ha4 : w.heap.size < W1.heap.size + 3 := by omega
  have hls : (bytesOf n zs).length + 1 ≤ 1099511627776 := by rw [bytesOf_length]; omega
  go_enter Yba.func3, Yba.ntmps3
  go_wp2_with (go_at_call 5; refine (cur_any G L C R gs ls cs rs _).mono ?_; rintro e w1 ⟨rfl, rfl⟩; unfold curCells)
  refine (zz_any dg b1.1 b1.2 _).mono ?_
  rintro e w3 ⟨rfl, rfl⟩
  go_wp2_with fail
  rw [hdr_eq dg]
  have l0 := bytesOf_length n zs
  have l1 := Lib.uvarint_length64 (hdr_lt dg)
  have l2 := Lib.uvarint_length64 (Lib.zigzag_lt b2.1 b2.2)
  have l3 := Lib.uvarint_length64 (Lib.zigzag_lt b3.1 b3.2)
  have l4 := Lib.uvarint_length64 (Lib.zigzag_lt b4.1 b4.2)
  refine (buv_any (hdr dg) (hdr_lt dg) _ _ _ HS.out.want (by omega)).mono ?_
  rintro e w1 ⟨v1, rfl, ho1, hst1⟩
  go_wp2_with fail
  refine (zz_any dl b2.1 b2.2 _).mono ?_
  rintro e w3 ⟨rfl, rfl⟩
  go_wp2_with fail
  refine (buv_any _ (Lib.zigzag_lt b2.1 b2.2) _ _ _ ho1 (by simp [Lib.byteCells_length]; omega)).mono ?_
  rintro e w2 ⟨v2, rfl, ho2, hst2⟩
  go_wp2_with fail
  refine (zz_any dc b3.1 b3.2 _).mono ?_
  rintro e w3 ⟨rfl, rfl⟩
  go_wp2_with fail
  refine (buv_any _ (Lib.zigzag_lt b3.1 b3.2) _ _ _ ho2 (by simp [Lib.byteCells_length]; omega)).mono ?_
  rintro e w3 ⟨v3, rfl, ho3, hst3⟩
  go_wp2_with fail
  refine (zz_any dr b4.1 b4.2 _).mono ?_
  rintro e w4 ⟨rfl, rfl⟩
  go_wp2_with fail
  refine (buv_any _ (Lib.zigzag_lt b4.1 b4.2) _ _ _ ho3 (by simp [Lib.byteCells_length]; omega)).mono ?_
  rintro e w5 ⟨v5, rfl, ho5, hst5⟩
  have hst := ((hst1.trans hst2).trans hst3).trans hst5
  have HR : Hid (Row w5 v5 (bytesOf n zs ++ Lib.byteCells (ent dg dl dc dr gs ls cs rs))) := by
    show Row w5 v5 (bytesOf n zs ++ Lib.byteCells (ent dg dl dc dr gs ls cs rs))
    simp at t1
    unfold ent
    rw [if_neg (fun h => t1 h.1)]
    simpa [entry, Lib.byteCells] using ho5
  clear ho1 hst1 ho2 hst2 ho3 hst3 ho5 hst5
  have HST : Hid (Step W2 w5 (.slice (some ⟨W1.heap.size + 3, 0, none⟩) n (n + 41)) v5) := hst
  clear hst r1 r2 mk1 mk2 p0 p1 p2 p3 p4 p5 p6 p7 q0 q1 q2 q3 q4 q5 q6 q7
  obtain ⟨hcur, hfree, hin⟩ := after HS.out HST.out
  have HI : Hid (Row w5 (.slice (some ⟨w.heap.size + 1, 0, none⟩) n n) (bytesOf n zs)) := hin
  have HCu : Hid (Cur w5 (W1.heap.size + 2) G L C R gs ls cs rs) := hcur
  clear hin hcur
  go_wp2_with fail
  refine (put_any (W1.heap.size + 2) _ _ g l c r G L C R gs ls cs rs dg dl dc dr _ HCu.out hfree HI.out (by intro e; simp [Value.ownBlock] at e; omega) (by rw [bytesOf_length]; omega) e1 e2 e3 e4 b1 b2 b3 b4).mono ?_
  rintro e w6 ⟨vg, rfl, hrg, hcur6, hpf, _⟩
  obtain ⟨hr6, hci, hca, hbel⟩ := after2 HS.out HC.out HST.out HR.out hpf
  have HB : Hid (Below w.heap.size w w6) := hbel
  have hlen : (bytesOf n zs ++ Lib.byteCells (ent dg dl dc dr gs ls cs rs)).length ≤ 1099511627776 := by
    have := ent_length dg dl dc dr gs ls cs rs b1 b2 b3 b4
    rw [List.length_append, bytesOf_length, Lib.byteCells_length]; omega
  have hE1 : Hid (Calls Yba.prog 9 #[vg, v5] w6 fun e w' => e = .returned (.bool true) ∧ ∃ k, w' = w6.drewN k) := equal_rows vg v5 _ w6 hlen (isBytes_of n zs _) hrg hr6
  obtain ⟨m0, m1, m2, m3, m4, m5, m6, m7⟩ := hcur6
  have hcb : W1.heap.size + 2 < w6.heap.size := World.block_lt_of_cell? w6 _ m0
  have HCI : Hid (Cells w6 (some ⟨w.heap.size + 1, 0, none⟩) n zs) := hci
  have HCA : Hid (Cells w6 a n zs) := hca
  clear hfree hpf hrg hr6 hci hca hbel hlen
  go_wp2_with fail
  refine (hE1.out).mono ?_
  rintro e w7 ⟨rfl, k7, rfl⟩
  go_wp2_with fail
  refine (equal_any _ _ n _ _ zs (w6.drewN k7) (by omega) (show Cells (w6.drewN k7) _ n zs from HCI.out) (show Cells (w6.drewN k7) _ n zs from HCA.out)).mono ?_
  rintro e w8 ⟨rfl, k8, hw8⟩
  have hh : w8.heap = w6.heap := by rw [hw8]; rfl
  have hcur8 : Cur w8 (W1.heap.size + 2) g l c r dg dl dc dr := Cur.kept ⟨m0, m1, m2, m3, m4, m5, m6, m7⟩ (by rw [hh])
  have HB8 : Hid (Below w.heap.size w w8) := by
    have hb := HB.out
    show Below w.heap.size w w8
    subst hw8
    exact ⟨hb.os, hb.tape, hb.output, hb.size, hb.block⟩
  have hcb8 : W1.heap.size + 2 < w8.heap.size := by rw [hh]; exact hcb
  clear hw8 hh m0 m1 m2 m3 m4 m5 m6 m7 hcb
  obtain ⟨m0, m1, m2, m3, m4, m5, m6, m7⟩ := hcur8
  go_wp2_with fail
  go_ret
  refine ⟨by simp, ?_⟩
  have hb := HB8.out
  exact ⟨hb.os, hb.tape, hb.output, by have := hb.size; simp; omega, fun k hk => by rw [Below.heap_alloc _ _ _ (by have := hb.size; omega)]; exact hb.block k hk⟩

end Go.Proofs.Ybulkegdg.S6623B
