import Derived.Test.YbulkegewRows
import Derived.Test.YbulkegewEarly
import Derived.Test.YbulkegewT1
import Derived.Test.YbulkegewT2
import Derived.Test.YbulkegewR0Z
import Derived.Test.YbulkegewR0S
import Derived.Test.YbulkegewR1Z
import Derived.Test.YbulkegewR1S
import Derived.Test.YbulkegewR2Z
import Derived.Test.YbulkegewR2S
import Derived.Test.YbulkegewR3Z
import Derived.Test.YbulkegewR3S
import Derived.Test.YbulkegewR4Z
import Derived.Test.YbulkegewR4S
import Derived.WalkKit
import Derived.ProofKit
import Derived.OpenShut
import Derived.ShutString
import Derived.ChangeOld
import Derived.Below
namespace Go.Proofs.Ybulkegew.lawS6626CWhole
open Go.ChangeShapes Go.WideShapes Go.ChangeAt Go.RowKit
open Go.ChangeMaps (open_string shut_string)
set_option linter.unusedVariables false

theorem own : ownKnob Yba.prog.godebug = none := by kernel_rfl
theorem laidOut : laidOutB Yba.prog = true := by kernel_rfl

/-- WHAT THE WALK IS TOLD OF A SLICE OF INTEGERS THAT CAME IN: it is nil; or it leads to a row of 'cap' cells, the numbers 'zs' (the first 'len' are its elements, the rest its spare room), each fitting its kind. -/
def IsRow (k : IntKind) (w : World) (a : Option Addr) (len cap : Nat) (zs : List Int) : Prop :=
  (a = none ∧ len = 0 ∧ cap = 0 ∧ zs = []) ∨
  ∃ x, a = some x ∧ len ≤ cap ∧ cap ≤ maxLen ∧ zs.length = cap ∧ (∀ i, i < zs.length → w.cell? (x.add i) = some (.int k (zs.getD i 0))) ∧ ∀ n ∈ zs, (Lit.int k n).wf = true

open Go.Proofs.Ybulkegew.S6626C in
theorem row_cells {k : IntKind} {w : World} {x : Addr} {cap : Nat} {z : Nat → Int} (h : ∀ i, i < cap → w.cell? (x.add i) = some (.int k (z i))) (i : Nat) (hi : i < cap) : ∃ b off, some x = some (⟨b, off, none⟩ : Addr) ∧ w.cell? ⟨b, off + i, none⟩ = some (.int k (z i)) := by
  obtain ⟨b, off, sp⟩ := x
  cases sp with
  | none =>
    have := h i hi
    rw [Addr.add_lit] at this
    exact ⟨b, off, rfl, this⟩
  | some s =>
    have := h 0 (by omega)
    unfold World.cell? at this
    simp [Addr.add] at this
    split at this <;> simp at this

open Go.Proofs.Ybulkegew.S6626C in
theorem walk_small (a0 : Option Addr) (len cp : Nat) (zs : Nat → Int) (a1 : Int) (a2 : Option Addr) (N cp2 : Nat) (zl : Nat → Int) (a3 : Int) (w : World) (hlen : len ≤ 1048576) (hcp : len ≤ cp) (hcpm : cp ≤ 9223372036854775807) (hN : N ≤ 4096)
    (hcells : Cells w a0 len zs) (hnil : a0 = none → cp = 0) (hlens : Lens w a2 N zl) (h1 : 0 ≤ a1) (h3 : 0 ≤ a3) (h3' : a3 ≤ 255) :
    Calls Yba.prog 3 #[.slice a0 len cp, .int .u64 a1, .slice a2 N cp2, .int .u8 a3] w fun e w' => e = .returned (.bool true) ∧ Below w.heap.size w w' := by
  obtain ⟨m, hm⟩ : ∃ m : Nat → Nat, ∀ i, i < N → zl i % 257 = (m i : Int) := ⟨fun i => (zl i % 257).toNat, fun i hi => by
    show zl i % 257 = (((zl i % 257).toNat : Nat) : Int)
    omega⟩
  have hx : ∀ x : Addr, a0 = some x → 0 < len → x.block < w.heap.size := by
    intro x e h
    obtain ⟨b, off, e2, q⟩ := hcells 0 h
    rw [e] at e2
    simp at e2
    subst e2
    exact World.block_lt_of_cell? w _ q
  have hb1 := Int.emod_nonneg a1 (b := (len : Int) + 1) (by omega)
  have hb2 := Int.emod_lt_of_pos a1 (b := (len : Int) + 1) (by omega)
  have hc1 := Int.emod_nonneg a3 (b := (N : Int) + 1) (by omega)
  have hc2 := Int.emod_lt_of_pos a3 (b := (N : Int) + 1) (by omega)
  obtain ⟨st, hst⟩ : ∃ st : Nat, a1 % ((len : Int) + 1) = (st : Int) := ⟨(a1 % ((len : Int) + 1)).toNat, by omega⟩
  obtain ⟨u, hu⟩ : ∃ u : Nat, a3 % ((N : Int) + 1) = (u : Int) := ⟨(a3 % ((N : Int) + 1)).toNat, by omega⟩
  have huN : u ≤ N := by omega
  obtain ⟨n, hn⟩ : ∃ n, st + n = len := ⟨len - st, by omega⟩
  clear hb1 hb2 hc1 hc2
  by_cases h0 : st = 0
  · by_cases hbig : 256 < len
    · exact law_all a0 len st n cp zs a1 a2 N cp2 zl m a3 u w hlen hcp hcpm hN hcells hnil hx hlens hm h1 hst hn h3 h3' hu huN h0 hbig
    · have hn256 : n ≤ 256 := by omega
      match u, hu, huN with
      | 0, hu, huN =>
        by_cases hup : 0 < N
        · exact law_next0z a0 len st n cp zs a1 a2 N cp2 zl m a3 0 w hlen hcp hcpm hN hcells hnil hx hlens hm h1 hst hn h3 h3' hu huN hn256 h0 rfl hup
        · exact law_new0z a0 len st n cp zs a1 a2 N cp2 zl m a3 0 w hlen hcp hcpm hN hcells hnil hx hlens hm h1 hst hn h3 h3' hu huN hn256 h0 rfl hup
      | v + 1, hu, huN =>
        by_cases hfit : m v + n ≤ 256
        · exact law_fitsz a0 len st n cp zs a1 a2 N cp2 zl m a3 (v + 1) w hlen hcp hcpm hN hcells hnil hx hlens hm h1 hst hn h3 h3' hu huN hn256 h0 v rfl hfit
        · have hfit2 : 256 < m v + n := by omega
          by_cases hup : v + 1 < N
          · exact law_next1z a0 len st n cp zs a1 a2 N cp2 zl m a3 (v + 1) w hlen hcp hcpm hN hcells hnil hx hlens hm h1 hst hn h3 h3' hu huN hn256 h0 v rfl hfit2 hup
          · exact law_new1z a0 len st n cp zs a1 a2 N cp2 zl m a3 (v + 1) w hlen hcp hcpm hN hcells hnil hx hlens hm h1 hst hn h3 h3' hu huN hn256 h0 v rfl hfit2 hup
  · have q1 : decide ((0 : Int) < (st : Int)) = true := decide_eq_true (by omega)
    have q2 : decide (0 < st) = true := decide_eq_true (by omega)
    have q3 : ((st : Int) == 0) = false := by
      simpa using h0
    by_cases hbig : 256 < n
    · exact law_long a0 len st n cp zs a1 a2 N cp2 zl m a3 u w hlen hcp hcpm hN hcells hnil hx hlens hm h1 hst hn h3 h3' hu huN q1 q2 q3 hbig
    · have hn256 : n ≤ 256 := by omega
      match u, hu, huN with
      | 0, hu, huN =>
        by_cases hup : 0 < N
        · exact law_next0s a0 len st n cp zs a1 a2 N cp2 zl m a3 0 w hlen hcp hcpm hN hcells hnil hx hlens hm h1 hst hn h3 h3' hu huN hn256 q1 q2 q3 rfl hup
        · exact law_new0s a0 len st n cp zs a1 a2 N cp2 zl m a3 0 w hlen hcp hcpm hN hcells hnil hx hlens hm h1 hst hn h3 h3' hu huN hn256 q1 q2 q3 rfl hup
      | v + 1, hu, huN =>
        by_cases hfit : m v + n ≤ 256
        · exact law_fitss a0 len st n cp zs a1 a2 N cp2 zl m a3 (v + 1) w hlen hcp hcpm hN hcells hnil hx hlens hm h1 hst hn h3 h3' hu huN hn256 q1 q2 q3 v rfl hfit
        · have hfit2 : 256 < m v + n := by omega
          by_cases hup : v + 1 < N
          · exact law_next1s a0 len st n cp zs a1 a2 N cp2 zl m a3 (v + 1) w hlen hcp hcpm hN hcells hnil hx hlens hm h1 hst hn h3 h3' hu huN hn256 q1 q2 q3 v rfl hfit2 hup
          · exact law_new1s a0 len st n cp zs a1 a2 N cp2 zl m a3 (v + 1) w hlen hcp hcpm hN hcells hnil hx hlens hm h1 hst hn h3 h3' hu huN hn256 q1 q2 q3 v rfl hfit2 hup

open Go.Proofs.Ybulkegew.S6626C in
theorem walk (a0 : Option Addr) (len0 cap0 : Nat) (z0 : List Int) (a1 : Int) (a2 : Option Addr) (len2 cap2 : Nat) (z2 : List Int) (a3 : Int) (w : World) (w0 : IsRow .i64 w a0 len0 cap0 z0) (w1 : (Lit.int .u64 a1).wf = true) (w2 : IsRow .u16 w a2 len2 cap2 z2) (w3 : (Lit.int .u8 a3).wf = true) :
    Calls Yba.prog 3 #[.slice a0 len0 cap0, .int .u64 a1, .slice a2 len2 cap2, .int .u8 a3] w fun e w' => e = .returned (.bool true) ∧ Below w.heap.size w w' := by
  by_cases hl : 1048576 < len0
  · exact law_early a0 len0 cap0 a1 a2 len2 cap2 a3 w (.inl hl)
  by_cases hN : 4096 < len2
  · exact law_early a0 len0 cap0 a1 a2 len2 cap2 a3 w (.inr ⟨by omega, hN⟩)
  have b1 := bounds_u64 w1
  have b3 := bounds_u8 w3
  have hv : len0 ≤ cap0 ∧ cap0 ≤ 9223372036854775807 ∧ Cells w a0 len0 (fun i => z0.getD i 0) ∧ (a0 = none → cap0 = 0) := by
    rcases w0 with ⟨rfl, rfl, rfl, rfl⟩ | ⟨x, rfl, hle, hmx, hz, hcell, _⟩
    · exact ⟨Nat.le_refl _, by omega, fun i hi => by omega, fun _ => rfl⟩
    · refine ⟨hle, by unfold maxLen at hmx; omega, fun i hi => ?_, fun e => by cases e⟩
      exact row_cells (cap := cap0) (fun j hj => hcell j (by omega)) i (by omega)
  have hlz : Lens w a2 len2 (fun i => z2.getD i 0) := by
    rcases w2 with ⟨rfl, rfl, rfl, rfl⟩ | ⟨x, rfl, hle, hmx, hz, hcell, hwf⟩
    · intro i hi; omega
    · intro i hi
      obtain ⟨b, off, e, q⟩ := row_cells (cap := cap2) (fun j hj => hcell j (by omega)) i (by omega)
      have hr := range_u16 hwf i
      simp only [← List.getD_eq_getElem?_getD] at hr
      exact ⟨b, off, e, q, hr.1, hr.2⟩
  exact walk_small a0 len0 cap0 _ a1 a2 len2 cap2 _ a3 w (by omega) hv.1 hv.2.1 (by omega) hv.2.2.1 hv.2.2.2 hlz b1.1 b3.1 b3.2

/-! ### THE ROW's STEP: WRITTEN OUT: LEAVE IT -/
set_option maxRecDepth 100000 in
theorem lifted (os : Os) (started : os.Started) (H : Type) (enc : TypeId × Value → H) :
    ReturnsInHanded {} Yba.checked os 3 .any (Rows.lawS6626CWholeSpec.pre6 enc Yba.prog Yba.f3 Rows.lawS6626CWholeRow.domain false) (Rows.lawS6626CWholeSpec.post enc Yba.prog Yba.f3 false true false false) := by
  refine returnsInHanded_of_change (C := Yba.checked) own started (by kernel_rfl) Yba.func3
    (ChangeSpec.witness6 (enc := enc) (C := Yba.checked) false ⟨#[], #[.slice none 0 0, .int .u64 0, .slice none 0 0, .int .u8 0], []⟩ 8 (by kernel_rfl) (by kernel_rfl) (by kernel_rfl) (by kernel_rfl)) ?_
  intro W base args ds gs before hval0 hW hcnd _
  have hval : ∀ (j : Nat) t v, Yba.f3.params[j]? = some t → args[j]? = some v → Value.okWide Yba.prog W .any base t v := hval0
  have hW' := hW
  obtain ⟨p, q, hA0, hV, rfl, hfz, hnd⟩ := hW
  have hA : DataW.TrodAll enc Yba.prog W 0 (fun _ => true) true Yba.f3.params.toList args.toList ds p := hA0
  rw [Yba.params3] at hA hval
  obtain ⟨v0, vs0, d0, ds0, p0, q0, hargs, rfl, rfl, h0, r0⟩ := trodAll_cons hA
  obtain ⟨v1, vs1, d1, ds1, p1, q1, rfl, rfl, rfl, h1, r1⟩ := trodAll_cons r0
  obtain ⟨v2, vs2, d2, ds2, p2, q2, rfl, rfl, rfl, h2, r2⟩ := trodAll_cons r1
  obtain ⟨v3, vs3, d3, ds3, p3, q3, rfl, rfl, rfl, h3, r3⟩ := trodAll_cons r2
  obtain ⟨rfl, rfl, rfl⟩ := trodAll_nil r3
  obtain rfl : args = #[v0, v1, v2, v3] := by cases args; simp_all
  obtain ⟨rfl, rfl⟩ := trodVars_none hV
  obtain ⟨a0, len0, cap0, rfl⟩ := okWide_slice Yba.underlying22 (hval 0 22 v0 rfl rfl)
  have k0 := h0
  have lt0 : ∀ x ∈ p0, x.block < W.heap.size := by obtain ⟨m, hm⟩ := k0; exact DataW.trod_lt m _ _ _ hm
  obtain ⟨z0, w0⟩ : ∃ zs, IsRow .i64 W a0 len0 cap0 zs := by
    obtain ⟨fuel, hf⟩ := h0
    rcases open_ints Yba.underlying22 Yba.underlying3 (by kernel_rfl) hf with ⟨hcs, _⟩ | ⟨x, l, c, zs, hcs, _, hl, hm, hz, _, hcell, hwz⟩
    · simp [Value.cells] at hcs
      obtain ⟨rfl, rfl, rfl⟩ := hcs
      exact ⟨[], .inl ⟨rfl, rfl, rfl, rfl⟩⟩
    · simp [Value.cells] at hcs
      obtain ⟨rfl, rfl, rfl⟩ := hcs
      exact ⟨zs, .inr ⟨_, rfl, hl, hm, by simpa using hz, hcell, hwz⟩⟩
  obtain ⟨a1, rfl, rfl, rfl, w1⟩ := open_int Yba.underlying23 (hval 1 23 v1 rfl rfl) h1
  obtain ⟨a2, len2, cap2, rfl⟩ := okWide_slice Yba.underlying24 (hval 2 24 v2 rfl rfl)
  have k2 := h2
  have lt2 : ∀ x ∈ p2, x.block < W.heap.size := by obtain ⟨m, hm⟩ := k2; exact DataW.trod_lt m _ _ _ hm
  obtain ⟨z2, w2⟩ : ∃ zs, IsRow .u16 W a2 len2 cap2 zs := by
    obtain ⟨fuel, hf⟩ := h2
    rcases open_ints Yba.underlying24 Yba.underlying26 (by kernel_rfl) hf with ⟨hcs, _⟩ | ⟨x, l, c, zs, hcs, _, hl, hm, hz, _, hcell, hwz⟩
    · simp [Value.cells] at hcs
      obtain ⟨rfl, rfl, rfl⟩ := hcs
      exact ⟨[], .inl ⟨rfl, rfl, rfl, rfl⟩⟩
    · simp [Value.cells] at hcs
      obtain ⟨rfl, rfl, rfl⟩ := hcs
      exact ⟨zs, .inr ⟨_, rfl, hl, hm, by simpa using hz, hcell, hwz⟩⟩
  obtain ⟨a3, rfl, rfl, rfl, w3⟩ := open_int Yba.underlying5 (hval 3 5 v3 rfl rfl) h3
  clear hA0 hval0
  refine (walk a0 len0 cap0 z0 a1 a2 len2 cap2 z2 a3 W w0 w1 w2 w3).mono fun e W' ⟨he, bel⟩ => ?_
  subst he
  exact ⟨_, rfl, _, _, _, [], _, [], hW', trodAll_mk1 (shut_bool Yba.underlying4 _), (trodAll_cons_mk (Below.trod laidOut (by kernel_rfl) (of_decide_eq_true (by kernel_rfl)) k0 bel lt0) (trodAll_cons_mk (shut_int Yba.underlying23 w1) (trodAll_cons_mk (Below.trod laidOut (by kernel_rfl) (of_decide_eq_true (by kernel_rfl)) k2 bel lt2) (trodAll_cons_mk (shut_int Yba.underlying5 w3) trodAll_mk0)))), rfl, bel.frame _, fun h => by cases h⟩

theorem over : Rows.lawS6626CWholeRow.holds Yba.pinned (OpenSpec.ofChange Rows.lawS6626CWholeSpec) :=
  OpenClaim.holds_of_wide 3 Yba.f3 rfl rfl rfl rfl rfl rfl rfl ⟨rfl, rfl, rfl, rfl, rfl⟩ rfl rfl rfl rfl rfl (by kernel_rfl) Yba.func3 (by kernel_rfl)
    (of_decide_eq_true (by kernel_rfl)) (by unfold Func.isWrapper; first | (rw [if_pos (by decide +kernel)]; kernel_rfl) | (rw [if_neg (by decide +kernel)]; exact ⟨rfl, rfl⟩))
    (fun os started H enc _ => lifted os started H enc)

/-- ████ THE STATEMENT ████ -/
theorem proved : Rows.LawS6626CWholeSaid := over
end Go.Proofs.Ybulkegew.lawS6626CWhole
