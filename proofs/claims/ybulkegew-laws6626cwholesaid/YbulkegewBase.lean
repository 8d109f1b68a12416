import Derived.Test.YbulkegewRows
import Derived.WalkKit
import Derived.WalkSpells
import Derived.WalkLawsBesides
import Derived.Deep.RegionWith
import Derived.Deep.QuietTactic
import Derived.BigQuiet
import Derived.ArgAppend
namespace Go.Proofs.Ybulkegew.S6626C
open Go.RowKit
set_option linter.unusedVariables false

/-- What the law lays at place j of block i. -/
def pat (i j : Nat) : Int := -((i : Int) * 257 + (j : Int) + 1)

theorem info3 : (Yba.prog.info? 3).map (fun i => (i.zero, i.size, i.bytes)) = some (some (.int .i64 0), 1, 8) := by kernel_rfl
theorem info22 : (Yba.prog.info? 22).map (fun i => (i.zero, i.size, i.bytes)) = some (some (.slice none 0 0), 1, 24) := by kernel_rfl

theorem neqN (t e : TypeId) (h : Yba.prog.underlying t = some (.slice e)) (w : World) (a : Option Addr) (n c : Nat) : (binOp .neq t (.slice a n c) (.slice none 0 0)).run Yba.prog w = .ok (.bool (!a.isNone)) w := run_neq_slice_nil_any w t e a n c 0 0 h
theorem eqlN (t e : TypeId) (h : Yba.prog.underlying t = some (.slice e)) (w : World) (a : Option Addr) (n c : Nat) : (binOp .eql t (.slice a n c) (.slice none 0 0)).run Yba.prog w = .ok (.bool a.isNone) w := Lib.run_eql_slice_nil w t e a n c 0 0 h

/-- The n elements of a slice at a are the numbers zs. -/
def Cells (w : World) (a : Option Addr) (n : Nat) (zs : Nat → Int) : Prop := ∀ i, i < n → ∃ b off, a = some ⟨b, off, none⟩ ∧ w.cell? ⟨b, off + i, none⟩ = some (.int .i64 (zs i))

theorem cell_other {w w' : World} {b j : Nat} (h : w'.heap[b]? = w.heap[b]?) : w'.cell? ⟨b, j, none⟩ = w.cell? ⟨b, j, none⟩ := World.cell?_of_block (w := w) h

theorem Cells.kept {w w' : World} {a : Option Addr} {n : Nat} {zs : Nat → Int} (h : Cells w a n zs) (hb : ∀ k, k < w.heap.size → w'.heap[k]? = w.heap[k]?) : Cells w' a n zs := by
  intro i hi
  obtain ⟨b, off, e, q⟩ := h i hi
  exact ⟨b, off, e, (cell_other (hb b (World.block_lt_of_cell? w _ q))).trans q⟩

/-- The same where one knows that the slice lies below B. -/
theorem Cells.keptB {w w' : World} {a : Option Addr} {n B : Nat} {zs : Nat → Int} (h : Cells w a n zs) (hB : ∀ x : Addr, a = some x → 0 < n → x.block < B) (hb : ∀ k, k < B → w'.heap[k]? = w.heap[k]?) : Cells w' a n zs := by
  intro i hi
  obtain ⟨b, off, e, q⟩ := h i hi
  exact ⟨b, off, e, (cell_other (hb b (hB ⟨b, off, none⟩ e (by omega)))).trans q⟩

set_option maxHeartbeats 1000000 in
theorem equal_any (a1 a2 : Option Addr) (n c1 c2 : Nat) (zs : Nat → Int) (w : World) (hn : n ≤ 1099511627776) (h1 : Cells w a1 n zs) (h2 : Cells w a2 n zs) :
    Calls Yba.prog 6 #[.slice a1 n c1, .slice a2 n c2] w fun e w' => e = .returned (.bool true) ∧ ∃ k, w' = w.drewN k := by
  go_enter Yba.func6, Yba.ntmps6
  go_wp2
  go_loopw [13] (fun i wr => ∃ k nd : Nat, k ≤ n ∧ i = .int .i64 k ∧ wr = w.drewN nd) (fun i _ => n - (intOf i).toNat)
  case atStart => exact ⟨0, 0, Nat.zero_le _, rfl, rfl⟩
  case round =>
    obtain ⟨k, nd, hk, rfl, rfl⟩ := hrel
    by_cases hlt : k < n
    · obtain ⟨b, off, e1, q1⟩ := h1 k hlt
      obtain ⟨b', off', e2, q2⟩ := h2 k hlt
      subst e1 e2
      clear h1 h2
      go_wp2
      go_quiet (fail)
      go_wp2
      go_roundw
      case rel => exact ⟨k + 1, _, by omega, by go_num, rfl⟩
      case measure => simp [intOf]; omega
    · clear h1 h2
      go_wp2
      go_ret
      exact ⟨rfl, nd, rfl⟩

set_option maxHeartbeats 1000000 in
theorem blockok_any (g i n cp old : Nat) (w : World) (hi : i ≤ 4096) (hold : old ≤ n) (ho : old ≤ 1099511627776) (hc : ∀ j, j < old → w.cell? ⟨g, j, none⟩ = some (.int .i64 (pat i j))) :
    Calls Yba.prog 8 #[.slice (some ⟨g, 0, none⟩) n cp, .int .i64 i, .int .i64 old] w fun e w' => e = .returned (.bool true) ∧ w' = w := by
  go_enter Yba.func8, Yba.ntmps8
  go_wp2
  go_loop [7] (fun t => ∃ k : Nat, k ≤ old ∧ t = .int .i64 k) (fun t => old - (intOf t).toNat)
  case atStart => exact ⟨0, Nat.zero_le _, rfl⟩
  case round =>
    obtain ⟨k, hk, rfl⟩ := hrel
    by_cases hlt : k < old
    · have hcell := hc k hlt
      have hpat : pat i k = -((i : Int) * 257 + (k : Int) + 1) := rfl
      rw [hpat] at hcell
      clear hc hpat
      go_wp2
      go_round
      case rel => exact ⟨k + 1, by omega, by go_num⟩
      case measure => simp [intOf]; omega
    · clear hc
      go_wp2
      go_ret
      exact ⟨rfl, rfl⟩

end Go.Proofs.Ybulkegew.S6626C
