import Derived.Test.YbulkegewRun
namespace Go.Proofs.Ybulkegew.S6626C
open Go.RowKit
set_option linter.unusedVariables false

set_option maxHeartbeats 1000000 in
theorem take_all (sb len cp : Nat) (a : Option Addr) (w : World) (hlen : 256 < len) :
    Calls Yba.prog 5 #[.pointer (some ⟨sb, 0, none⟩), .slice a len cp, .int .i64 0] w fun e w' => e = .returned (.tuple #[.slice a len cp, .slice none 0 0]) ∧ w' = w := by
  go_enter Yba.func5, Yba.ntmps5
  go_wp2_with fail
  go_ret2
  exact ⟨rfl, rfl⟩

theorem RunRes.drew {w w' : World} {B0 N : Nat} {m : Nat → Nat} {sb u n : Nat} {zs : Nat → Int} {a1 : Option Addr} {bb want cw nu gN k gk cpk : Nat} (h : RunRes w.drew w' B0 N m sb u n zs a1 bb want cw nu gN k gk cpk) : RunRes w w' B0 N m sb u n zs a1 bb want cw nu gN k gk cpk :=
  ⟨h.at_, h.fin, ⟨h.fr.os, h.fr.tape, h.fr.output, h.fr.size, h.fr.block⟩, h.pick, h.lt, h.le⟩

theorem LongRes.drew {w w' : World} {n : Nat} {zs : Nat → Int} {q cp : Nat} (h : LongRes w.drew w' n zs q cp) : LongRes w w' n zs q cp :=
  ⟨h.blk, h.row, ⟨h.gr.os, h.gr.tape, h.gr.output, h.gr.size, h.gr.block⟩⟩

theorem Cells.tail {w : World} {b off n st : Nat} {zs : Nat → Int} (h : Cells w (some ⟨b, off, none⟩) (st + n) zs) : Cells w (some ⟨b, off + st, none⟩) n (fun j => zs (st + j)) := by
  intro i hi
  obtain ⟨b', off', e, q⟩ := h (st + i) (by omega)
  simp at e
  obtain ⟨rfl, rfl⟩ := e
  exact ⟨b, off + st, rfl, by rw [Nat.add_assoc]; exact q⟩

set_option maxHeartbeats 2000000 in
theorem take_run {B0 N sb u gN : Nat} {m : Nat → Nat} (a ax : Option Addr) (len st n cp cx : Nat) (zs : Nat → Int) (w : World) (h : St w B0 N m sb B0 N N u gN) (hN : N ≤ 4096) (hu : u ≤ N) (hn : n ≤ 256) (hnot : ((st : Int) == 0) = false ∨ (((st : Int) == 0) = true ∧ len ≤ 256)) (hlm : len ≤ 1048576) (hsrc : Cells w ax n zs) (hsb : ∀ x : Addr, ax = some x → 0 < n → x.block < B0)
    (hsl : ∀ w, (Instr.slice 22 (.slice a len cp) (some (.int .i64 st)) none none).run Yba.prog w = .ok (.slice ax n cx) w) (hsl2 : ∀ w, (Instr.slice 22 (.slice a len cp) none (some (.int .i64 st)) none).run Yba.prog w = .ok (.slice a st cp) w) :
    Calls Yba.prog 5 #[.pointer (some ⟨sb, 0, none⟩), .slice a len cp, .int .i64 st] w fun e w' => ∃ a1 bb want cw nu gN' k gk cpk, e = .returned (.tuple #[.slice a1 n n, .slice a st cp]) ∧ RunRes w w' B0 N m sb u n zs a1 bb want cw nu gN' k gk cpk := by
  have HA := hideF (add_run ax n cx zs w.drew (h.kept (W' := w.drew) (fun _ _ => rfl)) hN hu hn hsrc hsb)
  clear h hsrc hsb
  rcases hnot with hst | ⟨hst, hlen⟩
  all_goals
    go_enter Yba.func5, Yba.ntmps5
    go_wp2_with fail
    go_region_with (go_at_call 9; refine (HA.out).mono ?_; rintro e w' ⟨a1, bb, want, cw, nu, gN2, k, gk, cpk, rfl, hres⟩)
    go_wp2_with fail
    go_ret2
    exact ⟨a1, bb, want, cw, nu, gN2, k, gk, cpk, rfl, hres.drew⟩

set_option maxHeartbeats 2000000 in
theorem take_long (sb : Nat) (a ax : Option Addr) (len st n cp cx : Nat) (zs : Nat → Int) (w : World) (hn : 256 < n) (hn2 : n ≤ 1048576) (hst : ((st : Int) == 0) = false) (hlm : len ≤ 1048576) (hsrc : Cells w ax n zs)
    (hsl : ∀ w, (Instr.slice 22 (.slice a len cp) (some (.int .i64 st)) none none).run Yba.prog w = .ok (.slice ax n cx) w) (hsl2 : ∀ w, (Instr.slice 22 (.slice a len cp) none (some (.int .i64 st)) none).run Yba.prog w = .ok (.slice a st cp) w) :
    Calls Yba.prog 5 #[.pointer (some ⟨sb, 0, none⟩), .slice a len cp, .int .i64 st] w fun e w' => ∃ q c, e = .returned (.tuple #[.slice (some ⟨q, 0, none⟩) n c, .slice a st cp]) ∧ LongRes w w' n zs q c := by
  have HA := hideF (add_long sb n cx ax zs w.drew hn hn2 hsrc)
  clear hsrc
  go_enter Yba.func5, Yba.ntmps5
  go_wp2_with fail
  go_region_with (go_at_call 9; refine (HA.out).mono ?_; rintro e w' ⟨q, c, rfl, hres⟩)
  go_wp2_with fail
  go_ret2
  exact ⟨q, c, rfl, hres.drew⟩

/-- The two cuts of vs, in each of its forms. -/
theorem cuts_nil (st : Nat) (h : st = 0) : (∀ w, (Instr.slice 22 (.slice none 0 0) (some (.int .i64 st)) none none).run Yba.prog w = .ok (.slice none 0 0) w) ∧ ∀ w, (Instr.slice 22 (.slice none 0 0) none (some (.int .i64 st)) none).run Yba.prog w = .ok (.slice none st 0) w := by
  subst h
  exact ⟨fun w => by kernel_rfl, fun w => by kernel_rfl⟩

theorem cuts_some (x : Addr) (len st n cp : Nat) (h : st + n = len) (hc : len ≤ cp) :
    (∀ w, (Instr.slice 22 (.slice (some x) len cp) (some (.int .i64 st)) none none).run Yba.prog w = .ok (.slice (some (if cp = st then x else x.add st)) n (cp - st)) w) ∧ ∀ w, (Instr.slice 22 (.slice (some x) len cp) none (some (.int .i64 st)) none).run Yba.prog w = .ok (.slice (some x) st cp) w := by
  subst h
  refine ⟨fun w => ?_, fun w => ?_⟩
  · go_simp
    rw [if_pos (by omega)]
    by_cases hcs : cp = st <;> simp [hcs]
  · go_simp
    intro hh
    omega

/-- The numbers of the cut run. -/
theorem cut_cells {w : World} {x : Addr} {len st n cp : Nat} {zs : Nat → Int} (h : st + n = len) (hc : len ≤ cp) (hz : Cells w (some x) len zs) : Cells w (some (if cp = st then x else x.add st)) n (fun j => zs (st + j)) := by
  by_cases hn : n = 0
  · intro i hi; omega
  · rw [if_neg (by omega)]
    obtain ⟨b, off, e, _⟩ := hz 0 (by omega)
    simp at e
    subst e
    rw [Addr.add_lit]
    subst h
    exact hz.tail

theorem cut_block {x y : Addr} {st n cp len : Nat} (h : some (if cp = st then x else x.add st) = some y) : y.block = x.block := by
  simp at h
  subst h
  split
  · rfl
  · unfold Addr.add
    split <;> rfl

end Go.Proofs.Ybulkegew.S6626C
