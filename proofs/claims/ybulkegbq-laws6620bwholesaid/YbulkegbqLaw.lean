import Derived.Test.YbulkegbqSn
import Derived.Test.YbulkegbqSr
import Derived.Test.YbulkegbqSw
import Derived.Test.YbulkegbqNn
import Derived.Test.YbulkegbqNr
import Derived.Test.YbulkegbqNw
import Derived.ProofKit
import Derived.OpenShut
import Derived.ShutString
import Derived.ChangeOld
import Derived.Deep.Grids
namespace Go.Proofs.Ybulkegbq.lawS6620BWhole
open Go.ChangeShapes Go.WideShapes Go.ChangeAt Go.RowKit
open Go.ChangeMaps (open_string shut_string)
open Go.Deep
set_option linter.unusedVariables false

theorem own : ownKnob Yba.prog.godebug = none := by kernel_rfl
theorem laidOut : laidOutB Yba.prog = true := by kernel_rfl

/-- What the walk is told of the slice of bools that came in. -/
def IsRowB (w : World) (a : Option Addr) (len cap : Nat) (B : Nat → Bool) : Prop :=
  (a = none ∧ len = 0 ∧ cap = 0) ∨ ∃ x : Addr, a = some x ∧ ∀ i, i < len → w.cell? (x.add i) = some (.bool (B i))

set_option maxRecDepth 100000 in
set_option maxHeartbeats 1000000 in
theorem walk_big (a0 : Bool) (a1 a2 a3 a4 a5 a6 a7 : Int) (a8 : ByteArray) (a9 : Option Addr) (len cap : Nat) (w : World) (hlen : 1048576 < len) :
    Calls Yba.prog 3 #[.bool a0, .int .u16 a1, .int .u16 a2, .int .i64 a3, .int .i64 a4, .int .u16 a5, .int .u32 a6, .int .u32 a7, .string a8, .slice a9 len cap] w fun e w' => e = .returned (.bool true) ∧ Below w.heap.size w w' := by
  go_enter Yba.func3, Yba.ntmps3
  go_wp2_with fail
  go_ret
  exact ⟨rfl, Below.refl _ _⟩

theorem walk (a0 : Bool) (a1 a2 a3 a4 a5 a6 a7 : Int) (a8 : ByteArray) (a9 : Option Addr) (len cap : Nat) (B : Nat → Bool) (w : World) (w1 : (Lit.int .u16 a1).wf = true) (w2 : (Lit.int .u16 a2).wf = true) (w9 : IsRowB w a9 len cap B) :
    Calls Yba.prog 3 #[.bool a0, .int .u16 a1, .int .u16 a2, .int .i64 a3, .int .i64 a4, .int .u16 a5, .int .u32 a6, .int .u32 a7, .string a8, .slice a9 len cap] w fun e w' => e = .returned (.bool true) ∧ Below w.heap.size w w' := by
  have b1 := bounds_u16 w1
  have b2 := bounds_u16 w2
  by_cases hlen : len ≤ 1048576
  · obtain ⟨L, hL⟩ : ∃ L : Nat, a1 % 600 = (L : Int) := ⟨(a1 % 600).toNat, by omega⟩
    obtain ⟨K, hK⟩ : ∃ K : Nat, a2 % 1000 = (K : Int) := ⟨(a2 % 1000).toNat, by omega⟩
    rcases w9 with ⟨rfl, rfl, rfl⟩ | ⟨⟨b, off, sp⟩, rfl, hcell⟩
    · cases a0 with
      | false => exact walk_nil_no a1 a2 a3 a4 a5 a6 a7 a8 w b1.1 b2.1 b1.2 b2.2
      | true =>
        by_cases hL1 : 1 ≤ L
        · exact walk_nil_room a1 a2 a3 a4 a5 a6 a7 a8 L K w b1.1 b2.1 b1.2 b2.2 hL hK hL1 (by omega) (by omega)
        · exact walk_nil_new a1 a2 a3 a4 a5 a6 a7 a8 K w b1.1 b2.1 b1.2 b2.2 (by omega) hK (by omega)
    · have hc : ∀ i, i < len → w.cell? ⟨b, off + i, sp⟩ = some (.bool (B i)) := by
        intro i hi
        have h := hcell i hi
        cases sp with
        | none => rwa [Addr.add_lit] at h
        | some s =>
          exfalso
          have h0 := hcell 0 (by omega)
          unfold Addr.add at h0
          unfold World.cell? at h0
          split at h0 <;> simp_all
      cases a0 with
      | false => exact walk_some_no a1 a2 a3 a4 a5 a6 a7 a8 b off sp len cap B w b1.1 b2.1 b1.2 b2.2 hlen hc
      | true =>
        by_cases hL1 : 1 ≤ L
        · exact walk_some_room a1 a2 a3 a4 a5 a6 a7 a8 b off sp len cap B L K w b1.1 b2.1 b1.2 b2.2 hL hK hL1 (by omega) (by omega) hlen hc
        · exact walk_some_new a1 a2 a3 a4 a5 a6 a7 a8 b off sp len cap B K w b1.1 b2.1 b1.2 b2.2 (by omega) hK (by omega) hlen hc
  · exact walk_big a0 a1 a2 a3 a4 a5 a6 a7 a8 a9 len cap w (by omega)

set_option maxRecDepth 100000 in
theorem lifted (os : Os) (started : os.Started) (H : Type) (enc : TypeId × Value → H) :
    ReturnsInHanded {} Yba.checked os 3 .any (Rows.lawS6620BWholeSpec.pre6 enc Yba.prog Yba.f3 Rows.lawS6620BWholeRow.domain false) (Rows.lawS6620BWholeSpec.post enc Yba.prog Yba.f3 false true false false) := by
  refine returnsInHanded_of_change (C := Yba.checked) own started (by kernel_rfl) Yba.func3
    (ChangeSpec.witness6 (enc := enc) (C := Yba.checked) false ⟨#[], #[.bool false, .int .u16 0, .int .u16 0, .int .i64 0, .int .i64 0, .int .u16 0, .int .u32 0, .int .u32 0, .string ByteArray.empty, .slice none 0 0], []⟩ 8 (by kernel_rfl) (by kernel_rfl) (by kernel_rfl) (by kernel_rfl)) ?_
  intro W base args ds gs before hval0 hW hcnd _
  have hval : ∀ (j : Nat) t v, Yba.f3.params[j]? = some t → args[j]? = some v → Value.okWide Yba.prog W .any base t v := hval0
  have hW' := hW
  obtain ⟨p, q, hA0, hV, rfl, hfz, hnd⟩ := hW
  have hA : DataW.TrodAll enc Yba.prog W 0 (fun _ => true) true Yba.f3.params.toList args.toList ds p := hA0
  rw [Yba.params3] at hA hval
  obtain ⟨v0, vs0, d0, ds0, p0, q0, hargs, rfl, rfl, h0, r0⟩ := trodAll_cons hA
  obtain ⟨v1, vs1, d1, ds1, p1, q1, rfl, rfl, rfl, h1, r1⟩ := trodAll_cons r0
  obtain ⟨v2, vs2, d2, ds2, p2, q2, rfl, rfl, rfl, h2, r2⟩ := trodAll_cons r1
  obtain ⟨v3, vs3, d3, ds3, p3, q3, rfl, rfl, rfl, h3, r3⟩ := trodAll_cons r2
  obtain ⟨v4, vs4, d4, ds4, p4, q4, rfl, rfl, rfl, h4, r4⟩ := trodAll_cons r3
  obtain ⟨v5, vs5, d5, ds5, p5, q5, rfl, rfl, rfl, h5, r5⟩ := trodAll_cons r4
  obtain ⟨v6, vs6, d6, ds6, p6, q6, rfl, rfl, rfl, h6, r6⟩ := trodAll_cons r5
  obtain ⟨v7, vs7, d7, ds7, p7, q7, rfl, rfl, rfl, h7, r7⟩ := trodAll_cons r6
  obtain ⟨v8, vs8, d8, ds8, p8, q8, rfl, rfl, rfl, h8, r8⟩ := trodAll_cons r7
  obtain ⟨v9, vs9, d9, ds9, p9, q9, rfl, rfl, rfl, h9, r9⟩ := trodAll_cons r8
  obtain ⟨rfl, rfl, rfl⟩ := trodAll_nil r9
  obtain rfl : args = #[v0, v1, v2, v3, v4, v5, v6, v7, v8, v9] := by cases args; simp_all
  obtain ⟨rfl, rfl⟩ := trodVars_none hV
  obtain ⟨a0, rfl, rfl, rfl⟩ := open_bool Yba.underlying4 (hval 0 4 v0 rfl rfl) h0
  obtain ⟨a1, rfl, rfl, rfl, w1⟩ := open_int Yba.underlying22 (hval 1 22 v1 rfl rfl) h1
  obtain ⟨a2, rfl, rfl, rfl, w2⟩ := open_int Yba.underlying22 (hval 2 22 v2 rfl rfl) h2
  obtain ⟨a3, rfl, rfl, rfl, w3⟩ := open_int Yba.underlying3 (hval 3 3 v3 rfl rfl) h3
  obtain ⟨a4, rfl, rfl, rfl, w4⟩ := open_int Yba.underlying3 (hval 4 3 v4 rfl rfl) h4
  obtain ⟨a5, rfl, rfl, rfl, w5⟩ := open_int Yba.underlying22 (hval 5 22 v5 rfl rfl) h5
  obtain ⟨a6, rfl, rfl, rfl, w6⟩ := open_int Yba.underlying23 (hval 6 23 v6 rfl rfl) h6
  obtain ⟨a7, rfl, rfl, rfl, w7⟩ := open_int Yba.underlying23 (hval 7 23 v7 rfl rfl) h7
  obtain ⟨a8, rfl, rfl, rfl, w8⟩ := open_string Yba.underlying9 (hval 8 9 v8 rfl rfl) h8
  obtain ⟨a9, len9, cap9, rfl⟩ := okWide_slice Yba.underlying24 (hval 9 24 v9 rfl rfl)
  have k9 := h9
  have lt9 : ∀ x ∈ p9, x.block < W.heap.size := by obtain ⟨m, hm⟩ := k9; exact DataW.trod_lt m _ _ _ hm
  obtain ⟨z9, w9⟩ : ∃ B, IsRowB W a9 len9 cap9 B := by
    obtain ⟨fuel, hf⟩ := h9
    rcases open_bools Yba.underlying24 Yba.underlying4 (by kernel_rfl) hf with ⟨hcs, _⟩ | ⟨x, l, c, B, hcs, _, hl, hm, _, hcell⟩
    · simp [Value.cells] at hcs
      obtain ⟨rfl, rfl, rfl⟩ := hcs
      exact ⟨fun _ => false, .inl ⟨rfl, rfl, rfl⟩⟩
    · simp [Value.cells] at hcs
      obtain ⟨rfl, rfl, rfl⟩ := hcs
      exact ⟨B, .inr ⟨_, rfl, fun i hi => hcell i (by omega)⟩⟩
  clear hA0 hval0
  refine (walk a0 a1 a2 a3 a4 a5 a6 a7 a8 a9 len9 cap9 z9 W w1 w2 w9).mono fun e W' ⟨he, bel⟩ => ?_
  subst he
  exact ⟨_, rfl, _, _, _, [], _, [], hW', trodAll_mk1 (shut_bool Yba.underlying4 _), (trodAll_cons_mk (shut_bool Yba.underlying4 _) (trodAll_cons_mk (shut_int Yba.underlying22 w1) (trodAll_cons_mk (shut_int Yba.underlying22 w2) (trodAll_cons_mk (shut_int Yba.underlying3 w3) (trodAll_cons_mk (shut_int Yba.underlying3 w4) (trodAll_cons_mk (shut_int Yba.underlying22 w5) (trodAll_cons_mk (shut_int Yba.underlying23 w6) (trodAll_cons_mk (shut_int Yba.underlying23 w7) (trodAll_cons_mk (shut_string Yba.underlying9 w8) (trodAll_cons_mk (Below.trod laidOut (by kernel_rfl) (of_decide_eq_true (by kernel_rfl)) k9 bel lt9) trodAll_mk0)))))))))), rfl, bel.frame _, fun h => by cases h⟩

theorem over : Rows.lawS6620BWholeRow.holds Yba.pinned (OpenSpec.ofChange Rows.lawS6620BWholeSpec) :=
  OpenClaim.holds_of_wide 3 Yba.f3 rfl rfl rfl rfl rfl rfl rfl ⟨rfl, rfl, rfl, rfl, rfl⟩ rfl rfl rfl rfl rfl (by kernel_rfl) Yba.func3 (by kernel_rfl)
    (of_decide_eq_true (by kernel_rfl)) (by unfold Func.isWrapper; first | (rw [if_pos (by decide +kernel)]; kernel_rfl) | (rw [if_neg (by decide +kernel)]; exact ⟨rfl, rfl⟩))
    (fun os started H enc _ => lifted os started H enc)

/-- THE STATEMENT -/
theorem proved : Rows.LawS6620BWholeSaid := over
#print axioms proved
end Go.Proofs.Ybulkegbq.lawS6620BWhole
