import Derived.Test.YbulkegdgRows
import Derived.WalkKit
import Derived.WalkSpells
import Derived.WalkLawsBesides
import Derived.Deep.RegionWith
import Derived.Deep.QuietTactic
import Derived.BigQuiet
import Derived.Lib.VarintMem
import Derived.Lib.Zigzag
namespace Go.Proofs.Ybulkegdg.S6623B
open Go.RowKit
set_option linter.unusedVariables false

/-- The value v, a slice of bytes that the call itself has made (or nil), owns the cells xs. -/
def Row (w : World) (v : Value) (xs : List Value) : Prop := w.ownsRow 0 5 1 v xs.length xs

/-- The length of a slice. -/
def sliceLen : Value → Nat
  | .slice _ n _ => n
  | _ => 0

/-- From w to w' only new blocks were laid and at most v's own row was written, behind v's elements; v' lies in v's row or in a new block. -/
structure Step (w w' : World) (v v' : Value) : Prop where
  grown : w.grownBy w' v.ownBlock
  blk : v'.ownBlock = v.ownBlock ∨ ∃ g, v'.ownBlock = some g ∧ w.heap.size ≤ g
  keep : ∀ g, v.ownBlock = some g → g < w.heap.size → ∀ j, j < sliceLen v → w'.cell? ⟨g, j, none⟩ = w.cell? ⟨g, j, none⟩
  mono : sliceLen v ≤ sliceLen v'

theorem Step.refl (w : World) (v : Value) : Step w w v v := ⟨World.grownBy.refl _ _, .inl rfl, fun _ _ _ _ _ => rfl, Nat.le_refl _⟩

theorem Step.trans {w w' w'' : World} {v v' v'' : Value} (h : Step w w' v v') (k : Step w' w'' v' v'') : Step w w'' v v'' := by
  have hs := h.grown.size
  refine ⟨⟨k.grown.os.trans h.grown.os, k.grown.tape.trans h.grown.tape, k.grown.output.trans h.grown.output, Nat.le_trans h.grown.size k.grown.size, fun i hi hne => ?_⟩, ?_, fun g hg hgs j hj => ?_, Nat.le_trans h.mono k.mono⟩
  · rw [k.grown.block i (by omega) ?_, h.grown.block i hi hne]
    rcases h.blk with e | ⟨g, e, hg⟩
    · rw [e]; exact hne
    · rw [e]; intro hc; simp at hc; omega
  · rcases k.blk with e | ⟨g, e, hg⟩
    · rw [e]; exact h.blk
    · exact .inr ⟨g, e, by omega⟩
  · refine Eq.trans ?_ (h.keep g hg hgs j hj)
    by_cases e : v'.ownBlock = some g
    · exact k.keep g e (by omega) j (Nat.lt_of_lt_of_le hj h.mono)
    · exact World.cell?_of_block (w := w') (k.grown.block g (by omega) (fun e' => e e'.symm))

theorem Step.quiet {w w' : World} {v v' : Value} (h : Step w w' v v') {w'' : World} (hb : w'.grownBy w'' none) : Step w w'' v v' :=
  h.trans ⟨⟨hb.os, hb.tape, hb.output, hb.size, fun k hk _ => hb.block k hk (by simp)⟩, .inl rfl, fun g _ hg j _ => World.cell?_of_block (w := w') (hb.block g hg (by simp)), Nat.le_refl _⟩

theorem Step.alloc {w w' : World} {v v' : Value} (h : Step w w' v v') (o : Obj) : Step w (w'.alloc o) v v' := h.quiet (World.grownBy_alloc w' o _)

theorem Step.drewN {w w' : World} {v v' : Value} (h : Step w w' v v') (n : Nat) : Step w (w'.drewN n) v v' := h.quiet ⟨rfl, rfl, rfl, Nat.le_refl _, fun _ _ _ => rfl⟩

theorem info5 : (Yba.prog.info? 5).map (fun i => (i.zero, i.size, i.bytes)) = some (some (.int .u8 0), 1, 1) := by kernel_rfl

/-- append of one byte: what it leaves, and where. -/
theorem run_append_keep (w : World) (ty : TypeId) (v : Value) (xs : List Value) (hown : Row w v xs) (ad : Addr) (u : Value) (hu : w.cell? ad = some u) (hu1 : u.oneCell' = true) (hlim : xs.length + 1 ≤ 1099511627776) :
    ∃ v' w', (Builtin.append_ #[24, 24] ty #[v, .slice (some ad) 1 1]).run Yba.prog w = .ok v' w' ∧ Row w' v' (xs ++ [u]) ∧ Step w w' v v' := by
  obtain ⟨i0, hi, hz0, hz1, hz2⟩ := info_parts info5
  have hnews : ∀ j x, [u][j]? = some x → w.cell? (ad.add j) = some x := by
    intro j x hj
    match j, hj with
    | 0, hj => simp at hj; subst hj; simpa [Addr.add] using hu
  have h1 : ∀ x ∈ [u], x.oneCell' = true := by intro x hx; simp at hx; subst hx; exact hu1
  have hml : xs.length + 1 ≤ maxLen := by unfold maxLen; omega
  have h0 := hown
  unfold Row at hown
  rcases hown.2 with ⟨rfl, hn⟩ | ⟨g, cap, cur, rfl, _, hg, hnc, hcm, hcs, htake⟩
  · have hx : xs = [] := List.eq_nil_of_length_eq_zero hn
    subst hx
    obtain ⟨v', w', hrun, ho, hgr, _⟩ := run_append_own (P := Yba.prog) w w.heap.size 24 ty 5 i0 (.int .u8 0) 1 1 Yba.underlying24 hi hz0 hz1 hz2 rfl (by decide) (.slice none 0 0) 0 [] (World.ownsRow_nil _ _ _ _) ad 1 1 [u] rfl hnews h1 (by unfold maxLen; omega) (by omega) (Nat.le_refl _)
    refine ⟨v', w', hrun, ?_, hgr, ?_, fun g hg => by simp [Value.ownBlock] at hg, Nat.zero_le _⟩
    · rcases ho with ⟨l, hh⟩
      refine ⟨by simp, ?_⟩
      rcases hh with ⟨e, hn'⟩ | ⟨g, cap, cur, e, hb, r⟩
      · exact .inl ⟨e, by simp at hn'⟩
      · exact .inr ⟨g, cap, cur, e, Nat.zero_le _, r⟩
    · rcases ho.2 with ⟨e, hn'⟩ | ⟨g, cap, cur, e, hb, r⟩
      · simp at hn'
      · right; subst e; exact ⟨g, rfl, hb⟩
  · by_cases hroom : xs.length + 1 ≤ cap
    · obtain ⟨w', hrun, ho, hgr⟩ := run_append_fits (P := Yba.prog) w 0 24 ty 5 i0 1 Yba.underlying24 hi hz1 g xs.length cap xs hown ad 1 1 [u] rfl hnews h1 hroom
      refine ⟨_, w', hrun, by simpa [Row] using ho, hgr, .inl rfl, fun g' hg' _ j hj => ?_, by simp [sliceLen]⟩
      simp [Value.ownBlock] at hg'
      subst hg'
      simp only [sliceLen] at hj
      rw [ho.cellAt j (by omega), hown.cellAt j (by omega), List.getElem?_append_left hj]
    · have holds : ∀ j x, xs[j]? = some x → w.cell? ((⟨g, 0, none⟩ : Addr).add j) = some x := hown.cells rfl
      obtain ⟨v', w', hrun, ho, hgr⟩ := run_append_arg_grows (P := Yba.prog) w 24 ty 5 i0 (.int .u8 0) 1 1 Yba.underlying24 hi hz0 hz1 hz2 rfl (by decide) ⟨g, 0, none⟩ xs.length cap xs (by simp) holds ad 1 1 [u] rfl hnews (by omega) hml (by omega)
      refine ⟨v', w', hrun, ?_, ⟨hgr.os, hgr.tape, hgr.output, hgr.size, fun k hk _ => hgr.block k hk (by simp)⟩, ?_, fun g' hg' hgs j hj => World.cell?_of_block (w := w) (hgr.block g' hgs (by simp)), ?_⟩
      · rcases ho with ⟨l, hh⟩
        refine ⟨by simp, ?_⟩
        rcases hh with ⟨e, hn'⟩ | ⟨g, cap, cur, e, hb, r⟩
        · exact .inl ⟨e, by simp at hn'⟩
        · exact .inr ⟨g, cap, cur, by simpa using e, Nat.zero_le _, by simpa using r⟩
      · rcases ho.2 with ⟨e, hn'⟩ | ⟨g', cap', cur', e, hb, r⟩
        · simp at hn'
        · right; subst e; exact ⟨g', rfl, hb⟩
      · rcases ho.2 with ⟨e, hn'⟩ | ⟨g', cap', cur', e, hb, r⟩
        · simp at hn'
        · subst e; simp [sliceLen]

theorem wpList_append_keep (w : World) {ops : Array Oper} {rest : List Oper} {o : Oper} {a : Act} {Q : Exit → Act → World → Prop} (hgd : o.guard = none) (s x : Operand)
    (ho : o.op = .call { callee := .builtin .append, args := #[s, x], argTypes := #[24, 24] }) (v : Value) (xs : List Value) (hs : a.eval s = v) (hown : Row w v xs)
    (ad : Addr) (u : Value) (hx : a.eval x = .slice (some ad) 1 1) (hu : w.cell? ad = some u) (hu1 : u.oneCell' = true) (hlim : xs.length + 1 ≤ 1099511627776)
    (h : ∀ v' w', Row w' v' (xs ++ [u]) → Step w w' v v' → wpList Yba.prog ops Q rest (a.put o.dst v') w') : wpList Yba.prog ops Q (o :: rest) a w := by
  refine wpList_plain hgd fun K hK' => ?_
  obtain ⟨v', w', hrun, r1, r2⟩ := run_append_keep w o.type v xs hown ad u hu hu1 hlim
  unfold Oper.wp
  simp [execOp, ho, resolve, invoke, builtin, hs, hx, hrun, Result.andThen]
  exact hK' _ _ (h v' w' r1 r2)

theorem Row.alloc {w : World} {v : Value} {xs : List Value} (h : Row w v xs) (o : Obj) : Row (w.alloc o) v xs := World.ownsRow.alloc h o
theorem Row.drewN {w : World} {v : Value} {xs : List Value} (h : Row w v xs) (n : Nat) : Row (w.drewN n) v xs := h

/-- Another row stays as it was. -/
theorem Row.kept {w w' : World} {v u u' : Value} {xs : List Value} (h : Row w v xs) (hs : Step w w' u u') (hne : v.ownBlock = none ∨ v.ownBlock ≠ u.ownBlock) : Row w' v xs := World.ownsRow.kept h hs.grown hne

theorem Row.lt {w : World} {v : Value} {xs : List Value} (h : Row w v xs) {g : Nat} (hg : v.ownBlock = some g) : g < w.heap.size := (World.ownsRow.lt h g hg).2

end Go.Proofs.Ybulkegdg.S6623B
