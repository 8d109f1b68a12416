import Derived.Test.YbulkegewPick
namespace Go.Proofs.Ybulkegew.S6626C
open Go.RowKit
set_option linter.unusedVariables false

set_option maxRecDepth 100000 in
set_option maxHeartbeats 8000000 in
theorem law_new0z (a0 : Option Addr) (len st n cp : Nat) (zs : Nat → Int) (a1 : Int) (a2 : Option Addr) (N cp2 : Nat) (zl : Nat → Int) (m : Nat → Nat) (a3 : Int) (u : Nat) (w : World) (hlen : len ≤ 1048576) (hcp : len ≤ cp) (hcpm : cp ≤ 9223372036854775807) (hN : N ≤ 4096)
    (hcells : Cells w a0 len zs) (hnil : a0 = none → cp = 0) (hx : ∀ x : Addr, a0 = some x → 0 < len → x.block < w.heap.size) (hlens : Lens w a2 N zl) (hm : ∀ i, i < N → zl i % 257 = (m i : Int))
    (h1 : 0 ≤ a1) (hst : a1 % ((len : Int) + 1) = (st : Int)) (hn : st + n = len) (h3 : 0 ≤ a3) (h3' : a3 ≤ 255) (hu : a3 % ((N : Int) + 1) = (u : Int)) (huN : u ≤ N) (hn256 : n ≤ 256) (h0 : st = 0) (hu00 : u = 0) (hup : ¬ u < N)  :
    Calls Yba.prog 3 #[.slice a0 len cp, .int .u64 a1, .slice a2 N cp2, .int .u8 a3] w fun e w' => e = .returned (.bool true) ∧ Below w.heap.size w w' := by
  have hmk1 := fun w => mkHdr w N hN
  have hmk2 := fun w => mkInts w N N (Nat.le_refl _) hN
  have hmle : ∀ i, i < N → m i ≤ 256 := fun i hi => by
    have := hm i hi
    obtain ⟨_, _, _, _, p, _⟩ := hlens i hi
    omega
  have HM := hideF hm
  have HL := hideF hlens
  have HML := hideF hmle
  have HC := hideF hcells
  have HX := hideF hx
  have HNIL := hideF hnil
  have HNN := hideF hn
  have hst2 : st ≤ len := by omega
  have hls : (len : Int) - (st : Int) = (n : Int) := by omega
  subst h0
  have hst : a1 % ((len : Int) + 1) = 0 := hst
  have eln : len = n := by omega
  subst eln
  clear hls hst2
  have HNOT : Hid ((((0 : Nat) : Int) == 0) = false ∨ ((((0 : Nat) : Int) == 0) = true ∧ len ≤ 256)) := .inr ⟨rfl, hn256⟩
  have hnn := eqlN 22 3 Yba.underlying22
  obtain ⟨ax, cx, hcut⟩ := cut_any a0 len 0 len cp HNN.out hcp hnil
  have HCut := hideF hcut
  clear hcut
  subst hu00
  have hu : a3 % ((N : Int) + 1) = 0 := hu
  have HUP := hideF hup
  clear hup
  clear hm hlens hmle hcells hx hnil hn
  go_enter Yba.func3, Yba.ntmps3
  go_wp2_with fail
  go_loopw [12] (fun t wr => ∃ k : Nat, k ≤ N ∧ t = .int .i64 k ∧ Laid w N k m wr) (fun t _ => N - (intOf t).toNat)
  case atStart => exact ⟨0, Nat.zero_le _, rfl, Laid.start w N m⟩
  case round =>
    obtain ⟨k, hk, rfl, hL⟩ := hrel
    by_cases hlt : k < N
    · obtain ⟨⟨v1, hv1⟩, ⟨v2, hv2⟩, hf1, hf2⟩ := hL.cells hlt
      have hsz := hL.size
      have hs1 : w.heap.size < wr.heap.size := by omega
      have hs2 : w.heap.size + 1 < wr.heap.size := by omega
      obtain ⟨b, off, e2, hlc, hp1, hp2⟩ := HL.out k hlt
      have hlw : wr.cell? ⟨b, off + k, none⟩ = some (.int .u16 (zl k)) := (hL.below.cell (p := ⟨b, off + k, none⟩) (World.block_lt_of_cell? w _ hlc)).trans hlc
      have hmk := HM.out k hlt
      have hml := HML.out k hlt
      have HLd := hideF hL
      have hmk3 : ∀ W : World, (Instr.makeSlice 22 (.int .i64 (m k)) (.int .i64 256)).run Yba.prog W = .ok (.slice (some ⟨W.heap.size, 0, none⟩) (m k) 256) (W.alloc (.cells (madeCells #[.int .i64 0] 256) 3)) := fun W => mkInts W (m k) 256 hml (by omega)
      subst e2
      clear hL hsz hlc
      obtain ⟨wo, hwo⟩ : ∃ wo : World, wo = wr := ⟨_, rfl⟩
      subst hwo
      go_wp2_with fail
      go_loopw [15] (fun t wv => ∃ (j : Nat) (c : Array Value), j ≤ m k ∧ t = .int .i64 j ∧ wv = wo.alloc (.cells c 3) ∧ c.size = 256 ∧ ∀ t, t < j → c[t]? = some (.int .i64 (pat k t))) (fun t _ => m k - (intOf t).toNat)
      case atStart => exact ⟨0, _, Nat.zero_le _, rfl, rfl, size_madeCells _ _, fun t ht => by omega⟩
      case round =>
        obtain ⟨j, c, hj, rfl, rfl, hcs, hcp⟩ := hrel
        have HCP := hideF hcp
        clear hcp
        by_cases hjm : j < m k
        · obtain ⟨cv, hcv⟩ : ∃ cv, c[j]? = some cv := ⟨c[j], by simp⟩
          go_wp2_with fail
          go_roundw
          case rel =>
            have hr := row_more (y := -((k : Int) * 257 + (j : Int) + 1)) hcs (by omega) rfl HCP.out
            exact ⟨j + 1, _, by omega, by go_num, rfl, hr.1, hr.2⟩
          case measure => simp [intOf]; omega
        · go_wp2_with fail
          go_roundw
          case rel => exact ⟨k + 1, by omega, by go_num, HLd.out.step hlt hcs (fun t ht => HCP.out t (by omega))⟩
          case measure => simp [intOf]; omega
    · obtain rfl : k = N := by omega
      have HLd := hideF hL
      clear hL hmk1 hmk2
      have hup := HUP.out
      go_wp2_with fail
      refine (clone_any _ len cp zs _ hlen hcp HNIL.out ((HC.out).kept (fun q hq => by
        have := HLd.out.size
        rw [Below.heap_alloc _ _ _ (by omega)]
        exact HLd.out.below.block q hq))).mono ?_
      rintro e W ⟨av, cv, rfl, hcr⟩
      have HMid := hideF (mid_of HLd.out HML.out HC.out HX.out rfl hcr)
      have HCR := hideF hcr
      clear hcr
      go_wp2_with fail
      refine (take_run _ _ len 0 len cp cx _ _ HMid.out.st hN huN hn256 HNOT.out hlen (HCut.out.cells _ _ HMid.out.vs) (HCut.out.block _ HX.out) HCut.out.hi HCut.out.lo).mono ?_
      rintro e W2 ⟨r1, bb, want, cw, nu, gN, kk, gk, cpk, rfl, hrr⟩
      obtain ⟨e1, e2, e3⟩ := pick_new hrr.pick (.inl rfl) hup
      obtain ⟨hE, hr1⟩ := HMid.out.run hrr
      have hat := hrr.at_
      have e1 := e1.symm
      have e2 := e2.symm
      have e3 := e3.symm
      subst e1 e2 e3
      have hlix : lix k m 0 = 0 := lix_ge (by omega)
      have s0 := hE.s0
      have s1 := hE.s1
      obtain ⟨hkc, hkp, hkz, hkcap⟩ := hE.kcell hlix
      have hat2 : 0 < len → r1 = some ⟨gk, 0, none⟩ := fun h => by rw [hat h, hlix]
      try simp only [Nat.zero_add] at hkc
      try simp only [Nat.zero_add] at hkz
      try simp only [Nat.zero_add] at hkcap
      have hold : 0 ≤ 256 := by rw [← hlix]; exact HMid.out.st.lixle _
      have HE := hideF hE
      have HR1 := hideF hr1
      have HAT := hideF hat2
      have HKP := hideF hkp
      have HKZ := hideF hkz
      have HKC := hideF hkcap
      clear hE hr1 hrr hat hat2 hkp hkz hkcap hlix
      go_wp2_with fail
      refine (equal_any _ av len cp cv zs _ (by omega) HE.out.vs HE.out.vc).mono ?_
      rintro e w' ⟨rfl, nd, rfl⟩
      obtain ⟨ay, cy, hcy⟩ := cut_any av len 0 len cv HNN.out HCR.out.cap HCR.out.nil
      have hcyh : ∀ w, (Instr.slice 22 (.slice av len cv) (some (.int .i64 0)) none none).run Yba.prog w = .ok (.slice ay len cy) w := hcy.hi
      have HCY := hideF hcy
      clear hcy
      go_wp2_with fail
      go_quiet (fail)
      go_wp2_with fail
      refine (equal_any r1 ay len len cy (fun j => zs (0 + j)) (W2.drewN _) (by omega) (fun i hi => HR1.out i hi) (fun i hi => HCY.out.cells _ _ HE.out.vc i hi)).mono ?_
      rintro e w' ⟨rfl, nd3, rfl⟩
      clear hcyh hnn
      go_wp2_with fail
      clear  hst hu
      go_loopw [26] (fun t wv => ∃ i nd : Nat, i ≤ (k + 1) ∧ t = .int .i64 i ∧ wv = W2.drewN nd) (fun t _ => (k + 1) - (intOf t).toNat)
      case atStart => exact ⟨0, _, Nat.zero_le _, rfl, rfl⟩
      case round =>
        obtain ⟨i, nd4, hi, rfl, rfl⟩ := hrel
        by_cases hiw : i < (k + 1)
        · by_cases hik : i = 0
          · have hik := hik.symm
            subst hik
            go_wp2_with fail
            refine (blockok_any gk 0 _ cpk 0 (W2.drewN _) (by omega) (by omega) (by omega) HKP.out).mono ?_
            rintro e w' ⟨rfl, rfl⟩
            by_cases hf2 : len ≤ 256
            · have hcc := (HKC.out hf2).symm
              subst hcc
              go_wp2_with fail
              go_loopw [28] (fun t wv => ∃ j nd : Nat, j ≤ len ∧ t = .int .i64 j ∧ wv = W2.drewN nd) (fun t _ => len - (intOf t).toNat)
              case atStart => exact ⟨0, _, Nat.zero_le _, rfl, rfl⟩
              case round =>
                obtain ⟨j, nd5, hj, rfl, rfl⟩ := hrel
                by_cases hjn : j < len
                · obtain ⟨bv, offv, ev, qv⟩ := HE.out.vc (0 + j) (by have := HNN.out; omega)
                  subst ev
                  have hkj := HKZ.out j hjn
                  have hjl : 0 + j < len := by have := HNN.out; omega
                  try simp only [Nat.zero_add] at qv
                  try simp only [Nat.zero_add] at hkj
                  try simp only [Nat.zero_add] at hjl
                  go_wp2_with fail
                  go_quiet (fail)
                  go_wp2_with fail
                  go_roundw
                  case rel => exact ⟨j + 1, _, by omega, by go_num, rfl⟩
                  case measure => simp [intOf]; omega
                · go_wp2_with fail
                  go_roundw
                  case rel => exact ⟨0 + 1, _, by omega, by go_num, rfl⟩
                  case measure => simp [intOf]
            · exact absurd hn256 hf2
          · exact absurd hik (by omega)
        · by_cases hnz : 0 < len
          · have hr := HAT.out hnz
            subst hr
            have hn1 : decide (0 < len) = true := decide_eq_true hnz
            have hn2 : decide ((0 : Int) < (len : Int)) = true := decide_eq_true (by omega)
            have hnp2 := fun W => neq_ptr ⟨gk, 0, none⟩ W
            go_wp2_with fail
            go_quiet (fail)
            go_wp2_with fail
            go_ret
            first | exact ⟨rfl, Below.drewNd HE.out.below _⟩ | exact ⟨rfl, Below.drewNd (Below.drewNd HE.out.below _) _⟩
          · have hn1 : decide (0 < len) = false := decide_eq_false hnz
            have hn2 : decide ((0 : Int) < (len : Int)) = false := decide_eq_false (by omega)
            go_wp2_with fail
            go_quiet (fail)
            go_wp2_with fail
            go_ret
            first | exact ⟨rfl, Below.drewNd HE.out.below _⟩ | exact ⟨rfl, Below.drewNd (Below.drewNd HE.out.below _) _⟩

end Go.Proofs.Ybulkegew.S6626C
