import Derived.Test.YbulkegdgWs
import Derived.Test.YbulkegdgW1
import Derived.Test.YbulkegdgW2
import Derived.Test.YbulkegdgW3
import Derived.Test.YbulkegdgW4
import Derived.Test.YbulkegdgOpen
import Derived.ProofKit
import Derived.OpenShut
import Derived.ChangeOld
namespace Go.Proofs.Ybulkegdg.S6623BWhole
open Go.ChangeShapes Go.WideShapes Go.ChangeAt Go.RowKit
open Go.Proofs.Ybulkegdg.S6623B
set_option linter.unusedVariables false

theorem own : ownKnob Yba.prog.godebug = none := by kernel_rfl
theorem laidOut : laidOutB Yba.prog = true := by kernel_rfl

set_option maxRecDepth 100000 in
set_option maxHeartbeats 1000000 in
theorem walk_big (G L C R gs ls cs rs g l c r : Int) (a : Option Addr) (n cp : Nat) (w : World) (hn : 1048576 < n) :
    Calls Yba.prog 3 #[.agg #[.int .i64 G, .int .i64 L, .int .i64 C, .int .i64 R, .int .i64 gs, .int .i64 ls, .int .i64 cs, .int .i64 rs], .slice a n cp, .int .i64 g, .int .i64 l, .int .i64 c, .int .i64 r] w fun e w' => e = .returned (.bool true) ∧ Below w.heap.size w w' := by
  go_enter Yba.func3, Yba.ntmps3
  go_wp2_with fail
  go_ret
  exact ⟨rfl, (Below.refl _ _).alloc (Nat.le_refl _) _⟩

theorem walk (G L C R gs ls cs rs g l c r : Int) (a : Option Addr) (n cp : Nat) (zs : Nat → Int) (w : World) (hcell : Cells w a n zs) :
    Calls Yba.prog 3 #[.agg #[.int .i64 G, .int .i64 L, .int .i64 C, .int .i64 R, .int .i64 gs, .int .i64 ls, .int .i64 cs, .int .i64 rs], .slice a n cp, .int .i64 g, .int .i64 l, .int .i64 c, .int .i64 r] w fun e w' => e = .returned (.bool true) ∧ Below w.heap.size w w' := by
  by_cases hn : n ≤ 1048576
  · by_cases t1 : wrap64 (g - G) = gs
    · by_cases t2 : wrap64 (l - L) = ls
      · by_cases t3 : wrap64 (c - C) = cs
        · by_cases t4 : wrap64 (r - R) = rs
          · exact whole0 G L C R gs ls cs rs g l c r _ _ _ _ a n cp zs w hn hcell rfl rfl rfl rfl (wrap64_bd _) (wrap64_bd _) (wrap64_bd _) (wrap64_bd _) (by simp [t1]) (by simp [t2]) (by simp [t3]) (by simp [t4])
          · exact whole4 G L C R gs ls cs rs g l c r _ _ _ _ a n cp zs w hn hcell rfl rfl rfl rfl (wrap64_bd _) (wrap64_bd _) (wrap64_bd _) (wrap64_bd _) (by simp [t1]) (by simp [t2]) (by simp [t3]) (by simp [t4])
        · exact whole3 G L C R gs ls cs rs g l c r _ _ _ _ a n cp zs w hn hcell rfl rfl rfl rfl (wrap64_bd _) (wrap64_bd _) (wrap64_bd _) (wrap64_bd _) (by simp [t1]) (by simp [t2]) (by simp [t3])
      · exact whole2 G L C R gs ls cs rs g l c r _ _ _ _ a n cp zs w hn hcell rfl rfl rfl rfl (wrap64_bd _) (wrap64_bd _) (wrap64_bd _) (wrap64_bd _) (by simp [t1]) (by simp [t2])
    · exact whole1 G L C R gs ls cs rs g l c r _ _ _ _ a n cp zs w hn hcell rfl rfl rfl rfl (wrap64_bd _) (wrap64_bd _) (wrap64_bd _) (wrap64_bd _) (by simp [t1])
  · exact walk_big G L C R gs ls cs rs g l c r a n cp w (by omega)

set_option maxRecDepth 100000 in
theorem lifted (os : Os) (started : os.Started) (H : Type) (enc : TypeId × Value → H) :
    ReturnsInHanded {} Yba.checked os 3 .any (Rows.lawS6623BWholeSpec.pre6 enc Yba.prog Yba.f3 Rows.lawS6623BWholeRow.domain false) (Rows.lawS6623BWholeSpec.post enc Yba.prog Yba.f3 false true false false) := by
  refine returnsInHanded_of_change (C := Yba.checked) own started (by kernel_rfl) Yba.func3
    (ChangeSpec.witness6 (enc := enc) (C := Yba.checked) false ⟨#[], #[.agg #[.int .i64 0, .int .i64 0, .int .i64 0, .int .i64 0, .int .i64 0, .int .i64 0, .int .i64 0, .int .i64 0], .slice none 0 0, .int .i64 0, .int .i64 0, .int .i64 0, .int .i64 0], []⟩ 8 (by kernel_rfl) (by kernel_rfl) (by kernel_rfl) (by kernel_rfl)) ?_
  intro W base args ds gs0 before hval0 hW hcnd _
  have hval : ∀ (j : Nat) t v, Yba.f3.params[j]? = some t → args[j]? = some v → Value.okWide Yba.prog W .any base t v := hval0
  have hW' := hW
  obtain ⟨p, q, hA0, hV, rfl, hfz, hnd⟩ := hW
  have hA : DataW.TrodAll enc Yba.prog W 0 (fun _ => true) true Yba.f3.params.toList args.toList ds p := hA0
  rw [Yba.params3] at hA hval
  obtain ⟨v0, vs0, d0, ds0, p0, q0, hargs, rfl, rfl, h0, r0⟩ := trodAll_cons hA
  obtain ⟨v1, vs1, d1, ds1, p1, q1, rfl, rfl, rfl, h1, r1⟩ := trodAll_cons r0
  obtain ⟨v2, vs2, d2, ds2, p2, q2, rfl, rfl, rfl, h2, r2⟩ := trodAll_cons r1
  obtain ⟨v3, vs3, d3, ds3, p3, q3, rfl, rfl, rfl, h3, r3⟩ := trodAll_cons r2
  obtain ⟨v4, vs4, d4, ds4, p4, q4, rfl, rfl, rfl, h4, r4⟩ := trodAll_cons r3
  obtain ⟨v5, vs5, d5, ds5, p5, q5, rfl, rfl, rfl, h5, r5⟩ := trodAll_cons r4
  obtain ⟨rfl, rfl, rfl⟩ := trodAll_nil r5
  obtain rfl : args = #[v0, v1, v2, v3, v4, v5] := by cases args; simp_all
  obtain ⟨rfl, rfl⟩ := trodVars_none hV
  have k0 := h0
  have lt0 : ∀ x ∈ p0, x.block < W.heap.size := by obtain ⟨m, hm⟩ := k0; exact DataW.trod_lt m _ _ _ hm
  obtain ⟨G, L, C, R, gs, ls, cs, rs, rfl, wG⟩ := open_cur (hval 0 23 v0 rfl rfl) h0
  obtain ⟨a1, len1, cap1, rfl⟩ := okWide_slice Yba.underlying24 (hval 1 24 v1 rfl rfl)
  have k1 := h1
  have lt1 : ∀ x ∈ p1, x.block < W.heap.size := by obtain ⟨m, hm⟩ := k1; exact DataW.trod_lt m _ _ _ hm
  obtain ⟨z1, w1⟩ : ∃ zs, Cells W a1 len1 zs := by
    obtain ⟨fuel, hf⟩ := h1
    rcases open_ints Yba.underlying24 Yba.underlying5 (by kernel_rfl) hf with ⟨hcs, _⟩ | ⟨x, l, c, zs, hcs, _, hl, hm, hz, _, hcell, hwz⟩
    · simp [Value.cells] at hcs
      obtain ⟨rfl, rfl, rfl⟩ := hcs
      exact ⟨fun _ => 0, fun i hi => by omega⟩
    · simp [Value.cells] at hcs
      obtain ⟨rfl, rfl, rfl⟩ := hcs
      exact ⟨fun i => zs.getD i 0, cells_of_open hl (by simpa using hz) hcell⟩
  obtain ⟨a2, rfl, rfl, rfl, w2⟩ := open_int Yba.underlying3 (hval 2 3 v2 rfl rfl) h2
  obtain ⟨a3, rfl, rfl, rfl, w3⟩ := open_int Yba.underlying3 (hval 3 3 v3 rfl rfl) h3
  obtain ⟨a4, rfl, rfl, rfl, w4⟩ := open_int Yba.underlying3 (hval 4 3 v4 rfl rfl) h4
  obtain ⟨a5, rfl, rfl, rfl, w5⟩ := open_int Yba.underlying3 (hval 5 3 v5 rfl rfl) h5
  clear hA0 hval0
  refine (walk G L C R gs ls cs rs a2 a3 a4 a5 a1 len1 cap1 z1 W w1).mono fun e W' ⟨he, bel⟩ => ?_
  subst he
  exact ⟨_, rfl, _, _, _, [], _, [], hW', trodAll_mk1 (shut_bool Yba.underlying4 _), (trodAll_cons_mk (Below.trod laidOut (by kernel_rfl) (of_decide_eq_true (by kernel_rfl)) k0 bel lt0) (trodAll_cons_mk (Below.trod laidOut (by kernel_rfl) (of_decide_eq_true (by kernel_rfl)) k1 bel lt1) (trodAll_cons_mk (shut_int Yba.underlying3 w2) (trodAll_cons_mk (shut_int Yba.underlying3 w3) (trodAll_cons_mk (shut_int Yba.underlying3 w4) (trodAll_cons_mk (shut_int Yba.underlying3 w5) trodAll_mk0)))))), rfl, bel.frame _, fun h => by cases h⟩

theorem over : Rows.lawS6623BWholeRow.holds Yba.pinned (OpenSpec.ofChange Rows.lawS6623BWholeSpec) :=
  OpenClaim.holds_of_wide 3 Yba.f3 rfl rfl rfl rfl rfl rfl rfl ⟨rfl, rfl, rfl, rfl, rfl⟩ rfl rfl rfl rfl rfl (by kernel_rfl) Yba.func3 (by kernel_rfl)
    (of_decide_eq_true (by kernel_rfl)) (by unfold Func.isWrapper; first | (rw [if_pos (by decide +kernel)]; kernel_rfl) | (rw [if_neg (by decide +kernel)]; exact ⟨rfl, rfl⟩))
    (fun os started H enc _ => lifted os started H enc)

/-- THE STATEMENT -/
theorem proved : Rows.LawS6623BWholeSaid := over
#print axioms proved
end Go.Proofs.Ybulkegdg.S6623BWhole
