import Derived.Test.YbulkegdgUv
import Derived.ProofKit
import Derived.OpenShut
import Derived.Lib.SmallJoins
namespace Go.Proofs.Ybulkegdg.S6623B
open Go.ChangeShapes Go.WideShapes Go.ChangeAt Go.RowKit
set_option linter.unusedVariables false

theorem array8 {α : Type} {cs : Array α} (h : cs.size = 8) : ∃ c0 c1 c2 c3 c4 c5 c6 c7, cs = #[c0, c1, c2, c3, c4, c5, c6, c7] := by
  obtain ⟨l⟩ := cs
  match l, h with
  | [c0, c1, c2, c3, c4, c5, c6, c7], _ => exact ⟨c0, c1, c2, c3, c4, c5, c6, c7, rfl⟩

theorem list8 {α : Type} {l : List α} (h : l.length = 8) : ∃ c0 c1 c2 c3 c4 c5 c6 c7, l = [c0, c1, c2, c3, c4, c5, c6, c7] := by
  match l, h with
  | [c0, c1, c2, c3, c4, c5, c6, c7], _ => exact ⟨c0, c1, c2, c3, c4, c5, c6, c7, rfl⟩

theorem cells3 : Yba.prog.cellsOf 3 = 1 := by kernel_rfl
theorem cells23 : Yba.prog.cellsOf 23 = 8 := by kernel_rfl

def Wf64 (n : Int) : Prop := (Lit.int .i64 n).wf = true

theorem open_cur {H : Type} {enc : TypeId × Value → H} {w : World} {base b0 : Nat} {spare : Nat → Bool} {held : Bool} {v : Value} {d : DataW H} {p : List MemPlace}
    (hv : Value.okWide Yba.prog w .any b0 23 v) (h : DataW.Trod enc Yba.prog w base spare held 23 v d p) :
    ∃ G L C R gs ls cs rs : Int, v = .agg #[.int .i64 G, .int .i64 L, .int .i64 C, .int .i64 R, .int .i64 gs, .int .i64 ls, .int .i64 cs, .int .i64 rs] ∧ (Wf64 G ∧ Wf64 L ∧ Wf64 C ∧ Wf64 R ∧ Wf64 gs ∧ Wf64 ls ∧ Wf64 cs ∧ Wf64 rs) := by
  obtain ⟨cs, rfl, hsz⟩ := okWide_struct Yba.underlying23 hv
  obtain ⟨c0, c1, c2, c3, c4, c5, c6, c7, rfl⟩ := array8 (hsz.trans cells23)
  obtain ⟨fuel, hf⟩ := h
  obtain ⟨xs, n, _, _, hl, hlen, hfs⟩ := DataW.trod_struct Yba.underlying23 hf
  obtain ⟨y0, y1, y2, y3, y4, y5, y6, y7, rfl⟩ := list8 hlen
  have f0 := hfs 0 _ rfl
  have f1 := hfs 1 _ rfl
  have f2 := hfs 2 _ rfl
  have f3 := hfs 3 _ rfl
  have f4 := hfs 4 _ rfl
  have f5 := hfs 5 _ rfl
  have f6 := hfs 6 _ rfl
  have f7 := hfs 7 _ rfl
  simp [Value.cells, cells3] at f0 f1 f2 f3 f4 f5 f6 f7
  obtain ⟨G, e0, _, w0⟩ := DataW.trod_int Yba.underlying3 f0
  obtain ⟨L, e1, _, w1⟩ := DataW.trod_int Yba.underlying3 f1
  obtain ⟨C, e2, _, w2⟩ := DataW.trod_int Yba.underlying3 f2
  obtain ⟨R, e3, _, w3⟩ := DataW.trod_int Yba.underlying3 f3
  obtain ⟨gs, e4, _, w4⟩ := DataW.trod_int Yba.underlying3 f4
  obtain ⟨ls, e5, _, w5⟩ := DataW.trod_int Yba.underlying3 f5
  obtain ⟨cs, e6, _, w6⟩ := DataW.trod_int Yba.underlying3 f6
  obtain ⟨rs, e7, _, w7⟩ := DataW.trod_int Yba.underlying3 f7
  simp at e0 e1 e2 e3 e4 e5 e6 e7
  subst e0 e1 e2 e3 e4 e5 e6 e7
  exact ⟨G, L, C, R, gs, ls, cs, rs, rfl, w0, w1, w2, w3, w4, w5, w6, w7⟩

theorem cells_of_open {w : World} {x : Addr} {len cap : Nat} {zs : List Int} (hl : len ≤ cap) (hz : zs.length = cap) (hcell : ∀ i, i < zs.length → w.cell? (x.add i) = some (.int .u8 (zs.getD i 0))) : Cells w (some x) len (fun i => zs.getD i 0) := by
  intro i hi
  obtain ⟨b, off, sp⟩ := x
  cases sp with
  | none => exact ⟨b, off, rfl, by rw [← Addr.add_lit]; exact hcell i (by omega)⟩
  | some s =>
    exfalso
    have h0 := hcell 0 (by omega)
    unfold Addr.add at h0
    unfold World.cell? at h0
    split at h0 <;> simp_all

end Go.Proofs.Ybulkegdg.S6623B
