import Derived.Test.YbulkegbqRows
import Derived.WalkKit
import Derived.WalkSpells
import Derived.WalkLawsBesides
import Derived.Deep.RegionWith
import Derived.Deep.QuietTactic
import Derived.BigQuiet
namespace Go.Proofs.Ybulkegbq.lawS6620BWhole
open Go.RowKit
set_option linter.unusedVariables false

abbrev zeroBranch : Value := .agg #[.pointer none, .int .u16 0, .int .u16 0, .bool false, .bool false, .bool false, .bool false, .int .u32 0, .int .u32 0, .pointer none, .pointer none, .int .u32 0, .int .u32 0, .slice none 0 0, .pointer none, .int .u16 0, .int .u16 0, .int .u16 0, .int .i16 0, .int .i32 0, .int .i32 0]
theorem info60 : (Yba.prog.info? 60).map (fun i => (i.zero, i.size, i.bytes)) = some (some zeroBranch, 21, 96) := by kernel_rfl

theorem mk60 (w : World) (n : Int) (h0 : 0 ≤ n) (hn : n ≤ 1000) : (Instr.makeSlice 40 (.int .i64 n) (.int .i64 n)).run Yba.prog w = .ok (.slice (some ⟨w.heap.size, 0, none⟩) n.toNat n.toNat) (w.alloc (.cells (madeCells zeroBranch.cells (n.toNat * 21)) 60)) := by
  obtain ⟨i, hi, hz0, hz1, hz2⟩ := info_parts info60
  have := run_make (P := Yba.prog) w 40 60 i zeroBranch Yba.underlying40 hi hz0 .i64 .i64 n n (by omega) (by omega) (by rw [hz2]; omega) (by omega)
  simpa [hz1] using this

set_option maxHeartbeats 400000 in
theorem take_room (m ob L : Nat) (w : World) (hL : 1 ≤ L) (hL2 : L < 1000) (hc : w.cell? ⟨m, 1, none⟩ = some (.slice (some ⟨ob, 0, none⟩) L L)) (hf : w.frozen? ⟨m, 1, none⟩ = false) :
    Calls Yba.prog 9 #[.pointer (some ⟨m, 1, none⟩), .pointer (some ⟨m, 4, none⟩), .int .i64 1] w fun e w' => e = .returned (.slice (some ⟨ob, 0, none⟩) 1 1) ∧ ∃ o : Nat, (2 ≤ L → o = 21) ∧ w' = w.setCell ⟨m, 1, none⟩ (.slice (some ⟨ob, o, none⟩) (L - 1) (L - 1)) := by
  by_cases h1 : L = 1
  · subst h1
    go_enter Yba.func9, Yba.ntmps9
    go_wp2
    go_ret
    exact ⟨rfl, 0, by omega, rfl⟩
  · go_enter Yba.func9, Yba.ntmps9
    go_wp2
    go_ret
    exact ⟨rfl, 21, by omega, rfl⟩

set_option maxHeartbeats 400000 in
theorem take_new1 (m B : Nat) (a0 : Option Addr) (w : World) (hm : m < w.heap.size) (hB : B < 8)
    (hc : w.cell? ⟨m, 1, none⟩ = some (.slice a0 0 0)) (hf : w.frozen? ⟨m, 1, none⟩ = false)
    (hc4 : w.cell? ⟨m, 4, none⟩ = some (.int .i64 B)) (hf4 : w.frozen? ⟨m, 4, none⟩ = false) :
    Calls Yba.prog 9 #[.pointer (some ⟨m, 1, none⟩), .pointer (some ⟨m, 4, none⟩), .int .i64 1] w fun e w' => e = .returned (.slice (some ⟨w.heap.size, 0, none⟩) 1 1) ∧ w' = (((w.setCell ⟨m, 4, none⟩ (.int .i64 16)).setCell ⟨m, 1, none⟩ (.slice (some ⟨w.heap.size, 0, none⟩) (16) (16))).setCell ⟨m, 1, none⟩ (.slice (some ⟨w.heap.size, 21, none⟩) (16 - 1) (16 - 1))).alloc (.cells (madeCells zeroBranch.cells (16 * 21)) 60) := by
  have hmk := fun w => mk60 w (16) (by omega) (by omega)
  go_enter Yba.func9, Yba.ntmps9
  go_wp2
  go_ret
  exact ⟨rfl, rfl⟩

set_option maxHeartbeats 400000 in
theorem take_new2 (m B : Nat) (a0 : Option Addr) (w : World) (hm : m < w.heap.size) (hB : 8 ≤ B) (hB2 : B ≤ 128)
    (hc : w.cell? ⟨m, 1, none⟩ = some (.slice a0 0 0)) (hf : w.frozen? ⟨m, 1, none⟩ = false)
    (hc4 : w.cell? ⟨m, 4, none⟩ = some (.int .i64 B)) (hf4 : w.frozen? ⟨m, 4, none⟩ = false) :
    Calls Yba.prog 9 #[.pointer (some ⟨m, 1, none⟩), .pointer (some ⟨m, 4, none⟩), .int .i64 1] w fun e w' => e = .returned (.slice (some ⟨w.heap.size, 0, none⟩) 1 1) ∧ w' = (((w.setCell ⟨m, 4, none⟩ (.int .i64 (2 * B))).setCell ⟨m, 1, none⟩ (.slice (some ⟨w.heap.size, 0, none⟩) (2 * B) (2 * B))).setCell ⟨m, 1, none⟩ (.slice (some ⟨w.heap.size, 21, none⟩) (2 * B - 1) (2 * B - 1))).alloc (.cells (madeCells zeroBranch.cells (2 * B * 21)) 60) := by
  have hmk := fun w => mk60 w ((2 * B)) (by omega) (by omega)
  go_enter Yba.func9, Yba.ntmps9
  go_wp2
  go_ret
  exact ⟨rfl, rfl⟩

set_option maxHeartbeats 400000 in
theorem take_new3 (m B : Nat) (a0 : Option Addr) (w : World) (hm : m < w.heap.size) (hB : 128 < B) (hB2 : B < 1000)
    (hc : w.cell? ⟨m, 1, none⟩ = some (.slice a0 0 0)) (hf : w.frozen? ⟨m, 1, none⟩ = false)
    (hc4 : w.cell? ⟨m, 4, none⟩ = some (.int .i64 B)) (hf4 : w.frozen? ⟨m, 4, none⟩ = false) :
    Calls Yba.prog 9 #[.pointer (some ⟨m, 1, none⟩), .pointer (some ⟨m, 4, none⟩), .int .i64 1] w fun e w' => e = .returned (.slice (some ⟨w.heap.size, 0, none⟩) 1 1) ∧ w' = (((w.setCell ⟨m, 4, none⟩ (.int .i64 256)).setCell ⟨m, 1, none⟩ (.slice (some ⟨w.heap.size, 0, none⟩) (256) (256))).setCell ⟨m, 1, none⟩ (.slice (some ⟨w.heap.size, 21, none⟩) (256 - 1) (256 - 1))).alloc (.cells (madeCells zeroBranch.cells (256 * 21)) 60) := by
  have hmk := fun w => mk60 w (256) (by omega) (by omega)
  go_enter Yba.func9, Yba.ntmps9
  go_wp2
  go_ret
  exact ⟨rfl, rfl⟩


/-- The size of a new block. -/
def newSize (B : Nat) : Nat := min (max (2 * B) 16) 256

theorem newSize_bd (B : Nat) : 16 ≤ newSize B ∧ newSize B ≤ 256 := by unfold newSize; omega

theorem take_new (m B : Nat) (a0 : Option Addr) (w : World) (hm : m < w.heap.size) (hB : B < 1000)
    (hc : w.cell? ⟨m, 1, none⟩ = some (.slice a0 0 0)) (hf : w.frozen? ⟨m, 1, none⟩ = false)
    (hc4 : w.cell? ⟨m, 4, none⟩ = some (.int .i64 B)) (hf4 : w.frozen? ⟨m, 4, none⟩ = false) :
    Calls Yba.prog 9 #[.pointer (some ⟨m, 1, none⟩), .pointer (some ⟨m, 4, none⟩), .int .i64 1] w fun e w' => e = .returned (.slice (some ⟨w.heap.size, 0, none⟩) 1 1) ∧ w' = (((w.setCell ⟨m, 4, none⟩ (.int .i64 (newSize B))).setCell ⟨m, 1, none⟩ (.slice (some ⟨w.heap.size, 0, none⟩) (newSize B) (newSize B))).setCell ⟨m, 1, none⟩ (.slice (some ⟨w.heap.size, 21, none⟩) (newSize B - 1) (newSize B - 1))).alloc (.cells (madeCells zeroBranch.cells (newSize B * 21)) 60) := by
  by_cases h1 : B < 8
  · have e : newSize B = 16 := by unfold newSize; omega
    rw [e]; exact take_new1 m B a0 w hm h1 hc hf hc4 hf4
  · by_cases h2 : B ≤ 128
    · have e : newSize B = 2 * B := by unfold newSize; omega
      rw [e]; exact take_new2 m B a0 w hm (by omega) h2 hc hf hc4 hf4
    · have e : newSize B = 256 := by unfold newSize; omega
      rw [e]; exact take_new3 m B a0 w hm (by omega) hB hc hf hc4 hf4

set_option maxHeartbeats 400000 in
theorem branch_nil (w : World) :
    Calls Yba.prog 6 #[.pointer none] w fun e w' => e = .returned (.pointer (some ⟨w.heap.size, 0, none⟩)) ∧ w' = w.alloc (.cells zeroBranch.cells 60) := by
  go_enter Yba.func6, Yba.ntmps6
  go_wp2
  go_ret
  exact ⟨rfl, rfl⟩

set_option maxHeartbeats 400000 in
theorem branch_room (m ob L : Nat) (w : World) (hL : 1 ≤ L) (hL2 : L < 1000) (hc : w.cell? ⟨m, 1, none⟩ = some (.slice (some ⟨ob, 0, none⟩) L L)) (hf : w.frozen? ⟨m, 1, none⟩ = false) :
    Calls Yba.prog 6 #[.pointer (some ⟨m, 0, none⟩)] w fun e w' => e = .returned (.pointer (some ⟨ob, 0, none⟩)) ∧ ∃ (o : Nat) (n : Nat), (2 ≤ L → o = 21) ∧ w' = (w.setCell ⟨m, 1, none⟩ (.slice (some ⟨ob, o, none⟩) (L - 1) (L - 1))).drewN n := by
  go_enter Yba.func6, Yba.ntmps6
  go_wp2_with fail
  go_region_with (go_at_call 9; refine (take_room m ob L _ hL hL2 (by simpa using hc) (by simpa using hf)).mono ?_; rintro e w' ⟨rfl, o, ho, rfl⟩)
  go_wp2
  go_ret
  exact ⟨rfl, o, 1, ho, rfl⟩

set_option maxHeartbeats 400000 in
theorem branch_new (m B : Nat) (a0 : Option Addr) (w : World) (hm : m < w.heap.size) (hB : B < 1000)
    (hc : w.cell? ⟨m, 1, none⟩ = some (.slice a0 0 0)) (hf : w.frozen? ⟨m, 1, none⟩ = false)
    (hc4 : w.cell? ⟨m, 4, none⟩ = some (.int .i64 B)) (hf4 : w.frozen? ⟨m, 4, none⟩ = false) :
    Calls Yba.prog 6 #[.pointer (some ⟨m, 0, none⟩)] w fun e w' => e = .returned (.pointer (some ⟨w.heap.size, 0, none⟩)) ∧ ∃ n : Nat, w' = ((((w.setCell ⟨m, 4, none⟩ (.int .i64 (newSize B))).setCell ⟨m, 1, none⟩ (.slice (some ⟨w.heap.size, 0, none⟩) (newSize B) (newSize B))).setCell ⟨m, 1, none⟩ (.slice (some ⟨w.heap.size, 21, none⟩) (newSize B - 1) (newSize B - 1))).alloc (.cells (madeCells zeroBranch.cells (newSize B * 21)) 60)).drewN n := by
  go_enter Yba.func6, Yba.ntmps6
  go_wp2_with fail
  go_region_with (go_at_call 9; refine (take_new m B a0 _ (by simpa using hm) hB (by simpa using hc) (by simpa using hf) (by simpa using hc4) (by simpa using hf4)).mono ?_; rintro e w' ⟨rfl, rfl⟩)
  go_wp2
  go_ret
  exact ⟨rfl, 1, rfl⟩

/-- Every block of w outside S is in w' as it was. -/
structure KB (S : Nat → Prop) (w w' : World) : Prop where
  os : w'.os = w.os
  tape : w'.tape = w.tape
  output : w'.output = w.output
  size : w.heap.size ≤ w'.heap.size
  block : ∀ k, k < w.heap.size → ¬ S k → w'.heap[k]? = w.heap[k]?

theorem KB.refl (S : Nat → Prop) (w : World) : KB S w w := ⟨rfl, rfl, rfl, Nat.le_refl _, fun _ _ _ => rfl⟩
theorem KB.alloc {S : Nat → Prop} {a w : World} (h : KB S a w) (o : Obj) : KB S a (w.alloc o) :=
  ⟨h.os, h.tape, h.output, by have := h.size; simp; omega, fun k hk hS => by rw [Below.heap_alloc w o k (by have := h.size; omega)]; exact h.block k hk hS⟩
theorem KB.setCell {S : Nat → Prop} {a w : World} (h : KB S a w) {p : Addr} (hp : S p.block ∨ a.heap.size ≤ p.block) (u : Value) : KB S a (w.setCell p u) :=
  ⟨h.os, h.tape, h.output, by simp [World.setCell]; exact h.size, fun k hk hS => by
    rw [Below.heap_setCell w p u k (by rintro rfl; rcases hp with hp | hp; exact hS hp; omega)]; exact h.block k hk hS⟩
theorem KB.drewN {S : Nat → Prop} {a w : World} (h : KB S a w) (n : Nat) : KB S a (w.drewN n) := ⟨h.os, h.tape, h.output, h.size, h.block⟩
theorem KB.below {S : Nat → Prop} {a w : World} (h : KB S a w) {B : Nat} (hB : B ≤ a.heap.size) (hS : ∀ k, k < B → ¬ S k) : Below B a w :=
  ⟨h.os, h.tape, h.output, h.size, fun k hk => h.block k (by omega) (hS k hk)⟩
theorem KB.cell {S : Nat → Prop} {a w : World} (h : KB S a w) {p : Addr} (hk : p.block < a.heap.size) (hS : ¬ S p.block) : w.cell? p = a.cell? p := World.cell?_of_block (w := a) (h.block p.block hk hS)

/-- What newBranch has laid at block rb. -/
structure NB (w' : World) (rb tb : Nat) (sy st en : Int) (ka : Option Addr) (n : Nat) : Prop where
  c0 : w'.cell? ⟨rb, 0, none⟩ = some (.pointer (some ⟨tb, 0, none⟩))
  c1 : w'.cell? ⟨rb, 1, none⟩ = some (.int .u16 sy)
  c2 : w'.cell? ⟨rb, 2, none⟩ = some (.int .u16 0)
  c3 : w'.cell? ⟨rb, 3, none⟩ = some (.bool false)
  c4 : w'.cell? ⟨rb, 4, none⟩ = some (.bool false)
  c5 : w'.cell? ⟨rb, 5, none⟩ = some (.bool false)
  c6 : w'.cell? ⟨rb, 6, none⟩ = some (.bool false)
  c7 : w'.cell? ⟨rb, 7, none⟩ = some (.int .u32 st)
  c8 : w'.cell? ⟨rb, 8, none⟩ = some (.int .u32 en)
  c9 : w'.cell? ⟨rb, 9, none⟩ = some (.pointer (some ⟨rb, 13, none⟩))
  c10 : w'.cell? ⟨rb, 10, none⟩ = some (.pointer none)
  c11 : w'.cell? ⟨rb, 11, none⟩ = some (.int .u32 0)
  c12 : w'.cell? ⟨rb, 12, none⟩ = some (.int .u32 0)
  c13 : w'.cell? ⟨rb, 13, none⟩ = some (.slice ka n n)
  c14 : w'.cell? ⟨rb, 14, none⟩ = some (.pointer none)

/-- Values laid one behind the other from offset o on. -/
def put (b : Nat) : Nat → List Value → World → World
  | _, [], w => w
  | o, v :: vs, w => put b (o + 1) vs (w.setCell ⟨b, o, none⟩ v)

theorem put_other (b k : Nat) (h : k ≠ b) : ∀ (vs : List Value) (o : Nat) (w : World), (put b o vs w).heap[k]? = w.heap[k]?
  | [], _, _ => rfl
  | v :: vs, o, w => by
    show (put b (o + 1) vs (w.setCell ⟨b, o, none⟩ v)).heap[k]? = _
    rw [put_other b k h vs, Below.heap_setCell _ _ _ _ h]

theorem put_kb {S : Nat → Prop} {a : World} (b : Nat) (hS : S b ∨ a.heap.size ≤ b) : ∀ (vs : List Value) (o : Nat) (w : World), KB S a w → KB S a (put b o vs w)
  | [], _, _, h => h
  | _ :: vs, _, _, h => put_kb b hS vs _ _ (h.setCell hS _)

theorem put_before (b j : Nat) : ∀ (vs : List Value) (o : Nat) (w : World), j < o → (put b o vs w).cell? ⟨b, j, none⟩ = w.cell? ⟨b, j, none⟩
  | [], _, _, _ => rfl
  | v :: vs, o, w, h => by
    show (put b (o + 1) vs (w.setCell ⟨b, o, none⟩ v)).cell? ⟨b, j, none⟩ = _
    rw [put_before b j vs (o + 1) _ (by omega), World.cell?_setCell_other]
    intro h'; simp at h' <;> omega

theorem put_after (b j : Nat) : ∀ (vs : List Value) (o : Nat) (w : World), o + vs.length ≤ j → (put b o vs w).cell? ⟨b, j, none⟩ = w.cell? ⟨b, j, none⟩
  | [], _, _, _ => rfl
  | v :: vs, o, w, h => by
    show (put b (o + 1) vs (w.setCell ⟨b, o, none⟩ v)).cell? ⟨b, j, none⟩ = _
    simp at h
    rw [put_after b j vs (o + 1) _ (by omega), World.cell?_setCell_other]
    intro h'; simp at h' <;> omega

theorem put_in (b : Nat) : ∀ (vs : List Value) (o : Nat) (w : World) (i : Nat) (v : Value), (∀ j, j < vs.length → ∃ u, w.cell? ⟨b, o + j, none⟩ = some u) → vs[i]? = some v → (put b o vs w).cell? ⟨b, o + i, none⟩ = some v
  | [], _, _, i, v, _, hv => by simp at hv
  | x :: vs, o, w, 0, v, hc, hv => by
    show (put b (o + 1) vs (w.setCell ⟨b, o, none⟩ x)).cell? ⟨b, o, none⟩ = _
    simp at hv; subst hv
    rw [put_before b o vs (o + 1) _ (by omega)]
    obtain ⟨u, hu⟩ := hc 0 (by simp)
    exact World.cell?_setCell_same _ _ _ hu
  | x :: vs, o, w, i + 1, v, hc, hv => by
    show (put b (o + 1) vs (w.setCell ⟨b, o, none⟩ x)).cell? ⟨b, o + (i + 1), none⟩ = _
    rw [show o + (i + 1) = (o + 1) + i by omega]
    refine put_in b vs (o + 1) _ i v (fun j hj => ?_) (by simpa using hv)
    obtain ⟨u, hu⟩ := hc (j + 1) (by simp; omega)
    refine ⟨u, ?_⟩
    rw [World.cell?_setCell_other, show o + 1 + j = o + (j + 1) by omega]
    · exact hu
    · intro h'; simp at h' <;> omega

def laid (tb : Nat) (sy st en : Int) (rb : Nat) (ka : Option Addr) (n : Nat) : List Value := [.pointer (some ⟨tb, 0, none⟩), .int .u16 sy, .int .u16 0, .bool false, .bool false, .bool false, .bool false, .int .u32 st, .int .u32 en, .pointer (some ⟨rb, 13, none⟩), .pointer none, .int .u32 0, .int .u32 0, .slice ka n n]

theorem nb_put {w : World} {rb tb : Nat} {sy st en : Int} {ka : Option Addr} {n : Nat} (hcs : ∀ j, j < 14 → ∃ v, w.cell? ⟨rb, j, none⟩ = some v) (hc14 : w.cell? ⟨rb, 14, none⟩ = some (.pointer none)) : NB (put rb 0 (laid tb sy st en rb ka n) w) rb tb sy st en ka n := by
  have h : ∀ i v, (laid tb sy st en rb ka n)[i]? = some v → (put rb 0 (laid tb sy st en rb ka n) w).cell? ⟨rb, i, none⟩ = some v := by
    intro i v hv
    have := put_in rb (laid tb sy st en rb ka n) 0 w i v (fun j hj => by rw [Nat.zero_add]; exact hcs j hj) hv
    rwa [Nat.zero_add] at this
  exact ⟨h 0 _ rfl, h 1 _ rfl, h 2 _ rfl, h 3 _ rfl, h 4 _ rfl, h 5 _ rfl, h 6 _ rfl, h 7 _ rfl, h 8 _ rfl, h 9 _ rfl, h 10 _ rfl, h 11 _ rfl, h 12 _ rfl, h 13 _ rfl, by rw [put_after rb 14 _ 0 w (by simp [laid])]; exact hc14⟩

set_option maxHeartbeats 400000 in
theorem newBranch_of (tb n rb : Nat) (ka : Option Addr) (sy st en : Int) (mem : Option Addr) (w : World) (R : World → Prop)
    (hbr : Calls Yba.prog 6 #[.pointer mem] w fun e w' => e = .returned (.pointer (some ⟨rb, 0, none⟩)) ∧ R w')
    (hR : ∀ w', R w' → (∀ j, j < 14 → ∃ v, w'.cell? ⟨rb, j, none⟩ = some v) ∧ ∀ j, w'.frozen? ⟨rb, j, none⟩ = false) :
    Calls Yba.prog 4 #[.pointer (some ⟨tb, 0, none⟩), .pointer mem, .int .u16 sy, .int .u32 st, .int .u32 en, .slice ka n n] w fun e w' => e = .returned (.pointer (some ⟨rb, 0, none⟩)) ∧ ∃ w1, R w1 ∧ w' = put rb 0 (laid tb sy st en rb ka n) w1 := by
  have HB : Hid (Calls Yba.prog 6 #[.pointer mem] w fun e w' => e = .returned (.pointer (some ⟨rb, 0, none⟩)) ∧ R w') := hbr
  have HR : Hid (∀ w', R w' → (∀ j, j < 14 → ∃ v, w'.cell? ⟨rb, j, none⟩ = some v) ∧ ∀ j, w'.frozen? ⟨rb, j, none⟩ = false) := hR
  clear hbr hR
  go_enter Yba.func4, Yba.ntmps4
  go_wp2_with fail
  refine (Hid.out HB).mono ?_
  rintro e w1 ⟨rfl, hR1⟩
  obtain ⟨hcs, hfs⟩ := (Hid.out HR) w1 hR1
  obtain ⟨v0, h0⟩ := hcs 0 (by omega)
  obtain ⟨v1, h1⟩ := hcs 1 (by omega)
  obtain ⟨v2, h2⟩ := hcs 2 (by omega)
  obtain ⟨v3, h3⟩ := hcs 3 (by omega)
  obtain ⟨v4, h4⟩ := hcs 4 (by omega)
  obtain ⟨v5, h5⟩ := hcs 5 (by omega)
  obtain ⟨v6, h6⟩ := hcs 6 (by omega)
  obtain ⟨v7, h7⟩ := hcs 7 (by omega)
  obtain ⟨v8, h8⟩ := hcs 8 (by omega)
  obtain ⟨v9, h9⟩ := hcs 9 (by omega)
  obtain ⟨v10, h10⟩ := hcs 10 (by omega)
  obtain ⟨v11, h11⟩ := hcs 11 (by omega)
  obtain ⟨v12, h12⟩ := hcs 12 (by omega)
  obtain ⟨v13, h13⟩ := hcs 13 (by omega)
  clear hcs
  have HR1 : Hid (R w1) := hR1
  clear hR1
  go_wp2
  go_end0
  go_wp2
  go_ret
  exact ⟨rfl, w1, HR1, rfl⟩

theorem made_at (n j : Nat) (hn : 1 ≤ n) (hj : j < 21) : (madeCells zeroBranch.cells (n * 21))[j]? = some (zeroBranch.cells[j]!) := by
  have hz : zeroBranch.cells.size = 21 := rfl
  have e : (madeCells zeroBranch.cells (n * 21))[j]? = some (zeroBranch.cells[j % zeroBranch.cells.size]!) := by
    unfold madeCells
    rw [Array.getElem?_map, Array.getElem?_range, if_pos (by omega)]
    rfl
  rw [e, hz, Nat.mod_eq_of_lt hj]

theorem made_lt14 (n : Nat) (hn : 1 ≤ n) (j : Nat) (hj : j < 14) : ∃ v, (madeCells zeroBranch.cells (n * 21))[j]? = some v := ⟨_, made_at n j hn (by omega)⟩
theorem made_14 (n : Nat) (hn : 1 ≤ n) : (madeCells zeroBranch.cells (n * 21))[14]? = some (.pointer none) := made_at n 14 hn (by omega)

theorem newBranch_nil (tb n : Nat) (ka : Option Addr) (sy st en : Int) (w : World) :
    Calls Yba.prog 4 #[.pointer (some ⟨tb, 0, none⟩), .pointer none, .int .u16 sy, .int .u32 st, .int .u32 en, .slice ka n n] w fun e w' => e = .returned (.pointer (some ⟨w.heap.size, 0, none⟩)) ∧ NB w' w.heap.size tb sy st en ka n ∧ KB (fun _ => False) w w' := by
  have hcs : ∀ w', w' = w.alloc (.cells zeroBranch.cells 60) → (∀ j, j < 14 → ∃ v, w'.cell? ⟨w.heap.size, j, none⟩ = some v) ∧ ∀ j, w'.frozen? ⟨w.heap.size, j, none⟩ = false := by
    rintro w' rfl
    refine ⟨fun j hj => ?_, fun j => by simp⟩
    rw [World.cell?_alloc_new]
    have : j < zeroBranch.cells.size := by show j < 21; omega
    exact ⟨_, Array.getElem?_eq_getElem this⟩
  refine (newBranch_of tb n w.heap.size ka sy st en none w _ (branch_nil w) hcs).mono ?_
  rintro e w' ⟨rfl, w1, hw1, rfl⟩
  refine ⟨rfl, nb_put (hcs w1 hw1).1 ?_, ?_⟩
  · subst hw1; rw [World.cell?_alloc_new]; rfl
  · subst hw1; exact put_kb _ (Or.inr (Nat.le_refl _)) _ _ _ ((KB.refl _ _).alloc _)

theorem cell_other {w w' : World} {b j : Nat} (h : w'.heap[b]? = w.heap[b]?) : w'.cell? ⟨b, j, none⟩ = w.cell? ⟨b, j, none⟩ := World.cell?_of_block (w := w) h

theorem newBranch_room (tb n : Nat) (ka : Option Addr) (sy st en : Int) (m ob L : Nat) (w : World) (hne : ¬ ob = m) (hL : 1 ≤ L) (hL2 : L < 1000) (hc : w.cell? ⟨m, 1, none⟩ = some (.slice (some ⟨ob, 0, none⟩) L L)) (hf : w.frozen? ⟨m, 1, none⟩ = false)
    (hcs : ∀ j, j < 14 → ∃ v, w.cell? ⟨ob, j, none⟩ = some v) (hc14 : w.cell? ⟨ob, 14, none⟩ = some (.pointer none)) (hfs : ∀ j, w.frozen? ⟨ob, j, none⟩ = false) :
    Calls Yba.prog 4 #[.pointer (some ⟨tb, 0, none⟩), .pointer (some ⟨m, 0, none⟩), .int .u16 sy, .int .u32 st, .int .u32 en, .slice ka n n] w fun e w' => e = .returned (.pointer (some ⟨ob, 0, none⟩)) ∧ NB w' ob tb sy st en ka n ∧ KB (fun k => k = ob ∨ k = m) w w' ∧
      (∃ o : Nat, (2 ≤ L → o = 21) ∧ w'.cell? ⟨m, 1, none⟩ = some (.slice (some ⟨ob, o, none⟩) (L - 1) (L - 1))) ∧ ∀ j, j ≠ 1 → w'.cell? ⟨m, j, none⟩ = w.cell? ⟨m, j, none⟩ := by
  have hne' : m ≠ ob := fun h => hne h.symm
  have hobs : ∀ w', (∃ (o : Nat) (n : Nat), (2 ≤ L → o = 21) ∧ w' = (w.setCell ⟨m, 1, none⟩ (.slice (some ⟨ob, o, none⟩) (L - 1) (L - 1))).drewN n) → ∀ j, w'.cell? ⟨ob, j, none⟩ = w.cell? ⟨ob, j, none⟩ := by
    rintro w' ⟨o, nd, ho, rfl⟩ j
    rw [World.cell?_drewN]
    exact cell_other (Below.heap_setCell _ _ _ _ hne)
  have hR : ∀ w', (∃ (o : Nat) (n : Nat), (2 ≤ L → o = 21) ∧ w' = (w.setCell ⟨m, 1, none⟩ (.slice (some ⟨ob, o, none⟩) (L - 1) (L - 1))).drewN n) → (∀ j, j < 14 → ∃ v, w'.cell? ⟨ob, j, none⟩ = some v) ∧ ∀ j, w'.frozen? ⟨ob, j, none⟩ = false := by
    intro w' hw'
    refine ⟨fun j hj => by rw [hobs w' hw' j]; exact hcs j hj, fun j => ?_⟩
    obtain ⟨o, nd, ho, rfl⟩ := hw'
    rw [World.frozen?_drewN, World.frozen?_setCell]
    exact hfs j
  refine (newBranch_of tb n ob ka sy st en (some ⟨m, 0, none⟩) w _ (branch_room m ob L w hL hL2 hc hf) hR).mono ?_
  rintro e w' ⟨rfl, w1, hw1, rfl⟩
  refine ⟨rfl, nb_put (hR w1 hw1).1 (by rw [hobs w1 hw1 14]; exact hc14), ?_, ?_, ?_⟩
  · obtain ⟨o, nd, ho, rfl⟩ := hw1
    exact put_kb _ (Or.inl (Or.inl rfl)) _ _ _ (((KB.refl _ _).setCell (Or.inl (Or.inr rfl)) _).drewN _)
  · obtain ⟨o, nd, ho, rfl⟩ := hw1
    refine ⟨o, ho, ?_⟩
    rw [cell_other (put_other ob m hne' _ _ _), World.cell?_drewN]
    exact World.cell?_setCell_same _ _ _ hc
  · intro j hj
    obtain ⟨o, nd, ho, rfl⟩ := hw1
    rw [cell_other (put_other ob m hne' _ _ _), World.cell?_drewN]
    refine World.cell?_setCell_other _ _ _ _ ?_
    intro h; simp at h <;> omega

theorem newBranch_new (tb n : Nat) (ka : Option Addr) (sy st en : Int) (m B : Nat) (a0 : Option Addr) (w : World) (hm : m < w.heap.size) (hB : B < 1000)
    (hc : w.cell? ⟨m, 1, none⟩ = some (.slice a0 0 0)) (hf : w.frozen? ⟨m, 1, none⟩ = false)
    (hc4 : w.cell? ⟨m, 4, none⟩ = some (.int .i64 B)) (hf4 : w.frozen? ⟨m, 4, none⟩ = false) :
    Calls Yba.prog 4 #[.pointer (some ⟨tb, 0, none⟩), .pointer (some ⟨m, 0, none⟩), .int .u16 sy, .int .u32 st, .int .u32 en, .slice ka n n] w fun e w' => e = .returned (.pointer (some ⟨w.heap.size, 0, none⟩)) ∧ NB w' w.heap.size tb sy st en ka n ∧ KB (fun k => k = m) w w' ∧
      (∃ o : Nat, w'.cell? ⟨m, 1, none⟩ = some (.slice (some ⟨w.heap.size, o, none⟩) (newSize B - 1) (newSize B - 1))) ∧ w'.cell? ⟨m, 4, none⟩ = some (.int .i64 (newSize B)) ∧ ∀ j, j ≠ 1 → j ≠ 4 → w'.cell? ⟨m, j, none⟩ = w.cell? ⟨m, j, none⟩ := by
  have hbd := newSize_bd B
  generalize hS : newSize B = S at hbd
  have hbr := branch_new m B a0 w hm hB hc hf hc4 hf4
  rw [hS] at hbr
  have hsz : ∀ u1 u2 u3, (((w.setCell ⟨m, 4, none⟩ u1).setCell ⟨m, 1, none⟩ u2).setCell ⟨m, 1, none⟩ u3).heap.size = w.heap.size := by intros; simp
  have hob : ∀ u1 u2 u3 nd j, (((((w.setCell ⟨m, 4, none⟩ u1).setCell ⟨m, 1, none⟩ u2).setCell ⟨m, 1, none⟩ u3).alloc (.cells (madeCells zeroBranch.cells (S * 21)) 60)).drewN nd).cell? ⟨w.heap.size, j, none⟩ = (madeCells zeroBranch.cells (S * 21))[j]? := by
    intro u1 u2 u3 nd j
    rw [World.cell?_drewN, World.cell?_alloc_at _ _ _ _ (hsz u1 u2 u3).symm]
  have hfo : ∀ u1 u2 u3 nd j, (((((w.setCell ⟨m, 4, none⟩ u1).setCell ⟨m, 1, none⟩ u2).setCell ⟨m, 1, none⟩ u3).alloc (.cells (madeCells zeroBranch.cells (S * 21)) 60)).drewN nd).frozen? ⟨w.heap.size, j, none⟩ = false := by
    intro u1 u2 u3 nd j
    rw [World.frozen?_drewN, World.frozen?_alloc_at _ _ _ _ (hsz u1 u2 u3).symm]
  have hmc : ∀ u1 u2 u3 nd j, (((((w.setCell ⟨m, 4, none⟩ u1).setCell ⟨m, 1, none⟩ u2).setCell ⟨m, 1, none⟩ u3).alloc (.cells (madeCells zeroBranch.cells (S * 21)) 60)).drewN nd).cell? ⟨m, j, none⟩ = (((w.setCell ⟨m, 4, none⟩ u1).setCell ⟨m, 1, none⟩ u2).setCell ⟨m, 1, none⟩ u3).cell? ⟨m, j, none⟩ := by
    intro u1 u2 u3 nd j
    rw [World.cell?_drewN, World.cell?_alloc_past _ _ _ (by rw [hsz]; exact hm)]
  refine (newBranch_of tb n w.heap.size ka sy st en (some ⟨m, 0, none⟩) w _ hbr ?_).mono ?_
  · rintro w' ⟨nd, rfl⟩
    exact ⟨fun j hj => by rw [hob]; exact made_lt14 S (by omega) j hj, fun j => hfo _ _ _ _ j⟩
  · rintro e w' ⟨rfl, w1, ⟨nd, rfl⟩, rfl⟩
    have hne : m ≠ w.heap.size := by omega
    have hx : ∀ (w1 : World) (vs : List Value) j, (put w.heap.size 0 vs w1).cell? ⟨m, j, none⟩ = w1.cell? ⟨m, j, none⟩ := fun w1 vs j => cell_other (put_other _ m hne _ _ _)
    refine ⟨rfl, nb_put (fun j hj => by rw [hob]; exact made_lt14 S (by omega) j hj) (by rw [hob]; exact made_14 S (by omega)), ?_, ⟨21, ?_⟩, ?_, ?_⟩
    · exact put_kb (S := fun k => k = m) _ (Or.inr (Nat.le_refl _)) _ _ _ (((((((KB.refl (fun k => k = m) _).setCell (p := ⟨m, 4, none⟩) (Or.inl rfl) _).setCell (p := ⟨m, 1, none⟩) (Or.inl rfl) _).setCell (p := ⟨m, 1, none⟩) (Or.inl rfl) _).alloc _).drewN _))
    · rw [hx, hmc]
      refine World.cell?_setCell_same _ _ _ (u := .slice (some ⟨w.heap.size, 0, none⟩) S S) (World.cell?_setCell_same _ _ _ (u := .slice a0 0 0) ?_)
      rw [World.cell?_setCell_other]
      · exact hc
      · intro h; simp at h
    · rw [hx, hmc, World.cell?_setCell_other, World.cell?_setCell_other]
      · exact World.cell?_setCell_same _ _ _ hc4
      · intro h; simp at h
      · intro h; simp at h
    · intro j h1 h4
      rw [hx, hmc, World.cell?_setCell_other, World.cell?_setCell_other, World.cell?_setCell_other]
      · intro h; simp at h <;> omega
      · intro h; simp at h <;> omega
      · intro h; simp at h <;> omega

end Go.Proofs.Ybulkegbq.lawS6620BWhole
