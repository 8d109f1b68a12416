import Derived.Test.YbulkegewRoom
namespace Go.Proofs.Ybulkegew.S6626C
open Go.RowKit
set_option linter.unusedVariables false

/-- Which row takes the run, what 'used' then is, how many rows there then are. -/
def Pick (u n N : Nat) (m : Nat → Nat) (k nu want : Nat) : Prop :=
  (0 < u ∧ m (u - 1) + n ≤ 256 ∧ k + 1 = u ∧ nu = u ∧ want = N) ∨ ((u = 0 ∨ 256 < m (u - 1) + n) ∧ k = u ∧ nu = u + 1 ∧ want = if u < N then N else N + 1)

/-- The frame: below B0 and between the store and the heap's end nothing has turned. -/
structure Fr (w w' : World) (B0 sb : Nat) : Prop where
  os : w'.os = w.os
  tape : w'.tape = w.tape
  output : w'.output = w.output
  size : w.heap.size ≤ w'.heap.size
  block : ∀ q, q < w.heap.size → (q < B0 ∨ sb < q) → w'.heap[q]? = w.heap[q]?

theorem Fr.refl (w : World) (B0 sb : Nat) : Fr w w B0 sb := ⟨rfl, rfl, rfl, Nat.le_refl _, fun _ _ _ => rfl⟩
theorem Fr.trans {a b c : World} {B0 sb : Nat} (h : Fr a b B0 sb) (k : Fr b c B0 sb) : Fr a c B0 sb :=
  ⟨k.os.trans h.os, k.tape.trans h.tape, k.output.trans h.output, Nat.le_trans h.size k.size, fun q hq hs => (k.block q (by have := h.size; omega) hs).trans (h.block q hq hs)⟩

structure RoomRes (w w' : World) (B0 N : Nat) (m : Nat → Nat) (sb u n bb want cw nu gN k : Nat) : Prop where
  st : St w' B0 N m sb bb want cw nu gN
  gr : w.grownBy w' (some sb)
  lt : k < want
  pick : Pick u n N m k nu want
  blk : bb = B0 ∨ w.heap.size ≤ bb
  new : k < N ∨ w.heap.size ≤ gN

theorem st_used {w wf : World} {B0 N sb bb want cw nu gN x : Nat} {m : Nat → Nat} {y : Int} (h : St w B0 N m sb bb want cw nu gN) (hy : y = (x : Int)) (hwf : Alk (w.setCell ⟨sb, 1, none⟩ (.int .i64 y)) wf) : St wf B0 N m sb bb want cw x gN ∧ w.grownBy wf (some sb) := by
  subst hy
  have hother : ∀ k, k ≠ sb → wf.heap[k]? = w.heap[k]? := by
    intro k hk
    rw [hwf.heap, Below.heap_setCell _ _ _ _ hk]
  have e2 := h.hsb
  have e3 := h.hbb
  obtain ⟨bc, d1, d2, d3⟩ := h.hd
  obtain ⟨oc, o1, o2⟩ := h.ol
  refine ⟨⟨?_, ⟨bc, by rw [hother bb (by omega)]; exact d1, d2, d3⟩, fun i hi => ?_, ⟨oc, by rw [hother _ (by omega)]; exact o1, o2⟩, e2, e3, h.hwant, h.hm⟩, ⟨hwf.os, hwf.tape, hwf.output, by rw [hwf.heap]; simp, fun k hk hne => hother k (by intro e; subst e; exact hne rfl)⟩⟩
  · rw [hwf.heap]
    simp only [World.setCell, Array.getElem?_modify, h.sc]
    simp
  · obtain ⟨c, r1, r2, r3⟩ := h.rows i hi
    refine ⟨c, ?_, r2, r3⟩
    rw [hother _ ?_]
    · exact r1
    · unfold gix
      split
      · omega
      · rcases h.hwant with e | ⟨e, e5, _⟩ <;> omega

theorem room_any {B0 N sb u gN : Nat} {m : Nat → Nat} (n : Nat) (w : World) (h : St w B0 N m sb B0 N N u gN) (hN : N ≤ 4096) (hu : u ≤ N) (hn : n ≤ 256) :
    Calls Yba.prog 10 #[.pointer (some ⟨sb, 0, none⟩), .int .i64 n] w fun e w' => ∃ bb want cw nu gN' k, e = .returned (.pointer (some ⟨bb, k, none⟩)) ∧ RoomRes w w' B0 N m sb u n bb want cw nu gN' k := by
  match u, hu, h with
  | 0, hu, h =>
    by_cases hN0 : 0 < N
    · refine (room_next0 n w h hN hN0 hn).mono ?_
      rintro e w' ⟨rfl, hw⟩
      obtain ⟨r1, r2⟩ := st_used (x := 1) h rfl hw
      exact ⟨_, _, _, _, _, _, rfl, ⟨r1, r2, hN0, .inr ⟨.inl rfl, rfl, rfl, by rw [if_pos hN0]⟩, .inl rfl, .inl hN0⟩⟩
    · obtain rfl : N = 0 := by omega
      refine (room_new0 n w h hn).mono ?_
      rintro e w' ⟨q, cp, rfl, r1, r2, r3⟩
      exact ⟨_, _, _, _, _, _, rfl, ⟨r1, r2, by omega, .inr ⟨.inl rfl, rfl, rfl, rfl⟩, .inr (by omega), .inr (Nat.le_refl _)⟩⟩
  | v + 1, hu, h =>
    by_cases hfit : m v + n ≤ 256
    · refine (room_fits n w h hN (by omega) hn hfit).mono ?_
      rintro e w' ⟨rfl, hw⟩
      have r1 : St w' B0 N m sb B0 N N (v + 1) gN := h.kept (fun k _ => by rw [hw.heap])
      exact ⟨_, _, _, _, _, _, rfl, ⟨r1, ⟨hw.os, hw.tape, hw.output, by rw [hw.heap]; exact Nat.le_refl _, fun k _ _ => by rw [hw.heap]⟩, by omega, .inl ⟨by omega, hfit, rfl, rfl, rfl⟩, .inl rfl, .inl (by omega)⟩⟩
    · by_cases hvN : v + 1 < N
      · refine (room_next1 n w h hN hvN hn (by omega)).mono ?_
        rintro e w' ⟨rfl, hw⟩
        obtain ⟨r1, r2⟩ := st_used (x := v + 1 + 1) h rfl hw
        exact ⟨_, _, _, _, _, _, rfl, ⟨r1, r2, hvN, .inr ⟨.inr (by simpa using (by omega : 256 < m v + n)), rfl, rfl, by rw [if_pos hvN]⟩, .inl rfl, .inl hvN⟩⟩
      · obtain rfl : N = v + 1 := by omega
        refine (room_new1 n w h hn hN (by omega)).mono ?_
        rintro e w' ⟨q, cp, rfl, r1, r2, r3⟩
        exact ⟨_, _, _, _, _, _, rfl, ⟨r1, r2, by omega, .inr ⟨.inr (by simpa using (by omega : 256 < m v + n)), rfl, rfl, by rw [if_neg (by omega)]⟩, .inr (by omega), .inr (Nat.le_refl _)⟩⟩

/-- The store behind the run. -/
structure Fin (W : World) (B0 N : Nat) (m : Nat → Nat) (sb bb want cw nu gN k gk cpk n : Nat) (zs : Nat → Int) : Prop where
  sc : W.heap[sb]? = some (.cells #[.slice (some ⟨bb, 0, none⟩) want cw, .int .i64 nu] 29 (0, 0))
  hd : ∃ bc : Array Value, W.heap[bb]? = some (.cells bc 22 (0, 0)) ∧ (∀ i, i < want → i ≠ k → bc[i]? = some (.slice (some ⟨gix B0 N gN i, 0, none⟩) (lix N m i) 256)) ∧ bc[k]? = some (.slice (some ⟨gk, 0, none⟩) (lix N m k + n) cpk)
  rows : ∀ i, i < want → i ≠ k → RowAt W (gix B0 N gN i) i (lix N m i)
  rowk : ∃ ck : Array Value, W.heap[gk]? = some (.cells ck 3 (0, 0)) ∧ (∀ j, j < lix N m k → ck[j]? = some (.int .i64 (pat k j))) ∧ ∀ j, j < n → ck[lix N m k + j]? = some (.int .i64 (zs j))
  capk : lix N m k + n ≤ 256 → cpk = 256
  len : lix N m k + n ≤ cpk
  ol : ∃ oc : Array Value, W.heap[B0 + 1]? = some (.cells oc 3 (0, 0)) ∧ ∀ i, i < N → oc[i]? = some (.int .i64 (m i))

theorem fin_of {w w1 w1' w2 wf : World} {B0 N sb u n bb want cw nu gN k gk cpk : Nat} {m : Nat → Nat} {c : Array Value} {zs : Nat → Int} {g old : Nat}
    (hR : RoomRes w w1 B0 N m sb u n bb want cw nu gN k) (hg : g = gix B0 N gN k) (ho : old = lix N m k) (hc : w1.heap[g]? = some (.cells c 3 (0, 0))) (hcp : ∀ j, j < old → c[j]? = some (.int .i64 (pat k j)))
    (hA : AppRes w1' w2 g old n 256 c zs gk cpk) (h1 : Alk w1 w1') (hwf : Alk (w2.setCell ⟨bb, k, none⟩ (.slice (some ⟨gk, 0, none⟩) (old + n) cpk)) wf) :
    Fin wf B0 N m sb bb want cw nu gN k gk cpk n zs ∧ Fr w wf B0 sb := by
  subst hg ho
  have hst := hR.st
  have hwl := hst.wantle
  have hwN := hst.wantN
  have e2 := hst.hsb
  have e3 := hst.hbb
  have hk := hR.lt
  have hgs := hA.grown.size
  have hsz1 : w1'.heap.size = w1.heap.size := by rw [h1.heap]
  have hs0 := hR.gr.size
  obtain ⟨bc, d1, d2, d3⟩ := hst.hd
  obtain ⟨oc, o1, o2⟩ := hst.ol
  have hgne : ∀ i, i < want → gix B0 N gN i ≠ sb ∧ gix B0 N gN i ≠ bb ∧ gix B0 N gN i ≠ B0 + 1 := by
    intro i hi
    unfold gix
    split
    · omega
    · rcases hst.hwant with e | ⟨e, e5, e6⟩ <;> omega
  have hginj : ∀ i, i < want → i ≠ k → gix B0 N gN i ≠ gix B0 N gN k := by
    intro i hi hik
    unfold gix
    split <;> split <;> first | omega | (rcases hst.hwant with e | ⟨e, e5, e6⟩ <;> omega)
  have hbsz := lt_of d1
  have hgsz := lt_of hc
  have hkeep : ∀ q, q < w1.heap.size → q ≠ gix B0 N gN k → w2.heap[q]? = w1.heap[q]? := by
    intro q hq hne
    rw [hA.grown.block q (by omega) (by simpa using hne), h1.heap]
  have hother : ∀ q, q ≠ bb → wf.heap[q]? = w2.heap[q]? := by
    intro q hq
    rw [hwf.heap, Below.heap_setCell _ _ _ _ hq]
  have hgkb : gk ≠ bb := by
    rcases hA.blk with e | e
    · rw [e]; exact (hgne k hk).2.1
    · omega
  have hssz := lt_of hst.sc
  have hosz := lt_of o1
  refine ⟨⟨?_, ⟨bc.setIfInBounds k (.slice (some ⟨gk, 0, none⟩) (lix N m k + n) cpk), ?_, fun i hi hik => ?_, ?_⟩, fun i hi hik => ?_, ?_, fun hh => (hA.fits hh).1, hA.len, ⟨oc, ?_, o2⟩⟩, ⟨?_, ?_, ?_, ?_, fun q hq hs => ?_⟩⟩
  · rw [hother sb (by omega), hkeep sb hssz (fun e => (hgne k hk).1 e.symm)]; exact hst.sc
  · rw [hwf.heap]
    have := (hkeep bb hbsz (fun e => (hgne k hk).2.1 e.symm)).trans d1
    simp only [World.setCell, Array.getElem?_modify, this]
    simp
  · rw [Array.getElem?_setIfInBounds, if_neg (fun e => hik e.symm)]; exact d3 i hi
  · have hkc : k < bc.size := by
      have := d3 k hk
      exact (Array.getElem?_eq_some_iff.1 this).1
    rw [Array.getElem?_setIfInBounds, if_pos rfl, if_pos hkc]
  · obtain ⟨ci, r1, r2, r3⟩ := hst.rows i hi
    refine ⟨ci, ?_, r2, r3⟩
    rw [hother _ (hgne i hi).2.1, hkeep _ (lt_of r1) (hginj i hi hik)]; exact r1
  · obtain ⟨ck, r1, r2, r3, r4⟩ := hA.row
    exact ⟨ck, by rw [hother gk hgkb]; exact r1, fun j hj => (r3 j hj).trans (hcp j hj), r4⟩
  · rw [hother _ (by omega), hkeep _ hosz (fun e => (hgne k hk).2.2 e.symm)]; exact o1
  · rw [hwf.os]; exact hA.grown.os.trans (h1.os.trans hR.gr.os)
  · rw [hwf.tape]; exact hA.grown.tape.trans (h1.tape.trans hR.gr.tape)
  · rw [hwf.output]; exact hA.grown.output.trans (h1.output.trans hR.gr.output)
  · rw [hwf.heap]; simp; omega
  · have hqk : q ≠ gix B0 N gN k := by
      unfold gix
      split
      · omega
      · rcases hR.new with e | e <;> omega
    have hqb : q ≠ bb := by rcases hR.blk with e | e <;> omega
    rw [hother q hqb, hkeep q (by omega) hqk, hR.gr.block q hq (by intro e; simp at e; omega)]

end Go.Proofs.Ybulkegew.S6626C
