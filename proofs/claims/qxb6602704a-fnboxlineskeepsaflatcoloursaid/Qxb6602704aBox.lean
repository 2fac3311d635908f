import Derived.Test.Qxb6602704aLn
import Derived.RegionTactic
import Derived.BigRegion
import Derived.ChangeAlike
namespace Go.Proofs.Qxb6602704a.Wk
open Go.ChangeShapes Go.WideShapes Go.ChangeAt Go.RowKit
set_option linter.unusedVariables false

theorem box_size (w : World) (a b c : Obj) : (((w.alloc a).alloc b).alloc c).heap.size = w.heap.size + 1 + 1 + 1 := by simp

theorem box_cells (w : World) (a0 a1 a2 b0 b1 b2 c0 : Value) :
    (((w.alloc (.cells #[a0, a1, a2] 48)).alloc (.cells #[b0, b1, b2] 48)).alloc (.cells #[c0] 3)).cell? ⟨w.heap.size, 0, none⟩ = some a0 ∧
    (((w.alloc (.cells #[a0, a1, a2] 48)).alloc (.cells #[b0, b1, b2] 48)).alloc (.cells #[c0] 3)).cell? ⟨w.heap.size, 1, none⟩ = some a1 ∧
    (((w.alloc (.cells #[a0, a1, a2] 48)).alloc (.cells #[b0, b1, b2] 48)).alloc (.cells #[c0] 3)).cell? ⟨w.heap.size, 2, none⟩ = some a2 ∧
    (((w.alloc (.cells #[a0, a1, a2] 48)).alloc (.cells #[b0, b1, b2] 48)).alloc (.cells #[c0] 3)).cell? ⟨w.heap.size + 1, 0, none⟩ = some b0 ∧
    (((w.alloc (.cells #[a0, a1, a2] 48)).alloc (.cells #[b0, b1, b2] 48)).alloc (.cells #[c0] 3)).cell? ⟨w.heap.size + 1, 1, none⟩ = some b1 ∧
    (((w.alloc (.cells #[a0, a1, a2] 48)).alloc (.cells #[b0, b1, b2] 48)).alloc (.cells #[c0] 3)).cell? ⟨w.heap.size + 1, 2, none⟩ = some b2 ∧
    (((w.alloc (.cells #[a0, a1, a2] 48)).alloc (.cells #[b0, b1, b2] 48)).alloc (.cells #[c0] 3)).cell? ⟨w.heap.size + 1 + 1, 0, none⟩ = some c0 := by
  refine ⟨?_, ?_, ?_, ?_, ?_, ?_, ?_⟩ <;> go_simp


/-- The three boxes that boxLines lays first. -/
structure Bx (wB : World) (B gd nd gs ns Len : Nat) (dlI dsI slI ssI : Int) : Prop where
  d0 : wB.cell? ⟨B, 0, none⟩ = some (.slice (some ⟨gd, 0, none⟩) nd nd)
  d1 : wB.cell? ⟨B, 1, none⟩ = some (.int .i64 dlI)
  d2 : wB.cell? ⟨B, 2, none⟩ = some (.int .i64 dsI)
  s0 : wB.cell? ⟨B + 1, 0, none⟩ = some (.slice (some ⟨gs, 0, none⟩) ns ns)
  s1 : wB.cell? ⟨B + 1, 1, none⟩ = some (.int .i64 slI)
  s2 : wB.cell? ⟨B + 1, 2, none⟩ = some (.int .i64 ssI)
  l0 : wB.cell? ⟨B + 1 + 1, 0, none⟩ = some (.int .i64 Len)
  gdB : gd < B
  gsB : gs < B

theorem Bx.at {wB w2 : World} {B gd nd gs ns Len : Nat} {dlI dsI slI ssI : Int} (h : Bx wB B gd nd gs ns Len dlI dsI slI ssI) (hg : wB.grownBy w2 (some gd)) : Bx w2 B gd nd gs ns Len dlI dsI slI ssI := by
  have hd := h.gdB
  exact ⟨hg.cell h.d0 (by simp; omega), hg.cell h.d1 (by simp; omega), hg.cell h.d2 (by simp; omega), hg.cell h.s0 (by simp; omega), hg.cell h.s1 (by simp; omega), hg.cell h.s2 (by simp; omega), hg.cell h.l0 (by simp; omega), h.gdB, h.gsB⟩

/-- The closure, while one line is worked on. -/
theorem at_ln {wB w2 : World} {B gd nd gs ns N Len i bI Xs sl ss : Nat} {dlI dsI slI ssI : Int} {col zs ps : List Int} {S : Array Value} (hx : Bx wB B gd nd gs ns Len dlI dsI slI ssI)
    (hl : Ln wB w2 gd nd bI (.slice (some ⟨gs, Xs, none⟩) (ns - Xs) (ns - Xs)) S ps) (hos : Ow wB gs ns zs) (hg : gd ≠ gs) (hflat : FlatP zs col sl ss N Len) (hi : i < N) (hX : Xs = i * sl)
    (hns : ns ≤ 1048576) (hLen : Len ≤ 65536) (h1 : 1 ≤ Len) (hss : Steps Len ssI ss) (hPs : ∀ i j, i < N → j < Len → i * sl + j * ss + 4 ≤ ns) (j : Int) :
    Calls Try.prog 31 #[.int .i64 j, .pointer (some ⟨B + 1 + 1, 0, none⟩), .pointer (some ⟨bI, 0, none⟩), .pointer (some ⟨B + 1, 0, none⟩)] w2 fun e w' =>
      ∃ o cp, e = .returned (.slice (some ⟨gs, o, none⟩) 4 cp) ∧ Hid (∀ c, c < 4 → wB.cell? ⟨gs, o + c, none⟩ = some (.int .u8 (col.getD c 0))) ∧ w' = w2 := by
  have hb := hx.at hl.grow
  have hf : ∀ k, k < Len → ∀ c, c < 4 → wB.cell? ⟨gs, Xs + k * ss + c, none⟩ = some (.int .u8 (col.getD c 0)) := fun k hk c hc => by
    have hp := hPs i k hi hk
    rw [hX, hos.cell _ (by omega), hflat i hi k hk c hc]
  have hf2 : ∀ k, k < Len → ∀ c, c < 4 → w2.cell? ⟨gs, Xs + k * ss + c, none⟩ = some (.int .u8 (col.getD c 0)) := fun k hk c hc => hl.grow.cell (hf k hk c hc) (by simp; exact fun e => hg e.symm)
  obtain ⟨k, hk, hj⟩ : ∃ k, k < Len ∧ ((j < 0 ∧ k = 0) ∨ ((Len : Int) ≤ j ∧ k + 1 = Len) ∨ j = (k : Int)) := by
    by_cases a : j < 0
    · exact ⟨0, by omega, .inl ⟨a, rfl⟩⟩
    · by_cases b : (Len : Int) ≤ j
      · exact ⟨Len - 1, by omega, .inr (.inl ⟨b, by omega⟩)⟩
      · exact ⟨j.toNat, by omega, .inr (.inr (by omega))⟩
  refine (at_one j k (B + 1 + 1) bI (B + 1) gs Xs (ns - Xs) Len ss ssI w2 (by omega) hLen hk hss (by have := hPs i k hi hk; rw [← hX] at this; omega) hj hb.l0 hl.inn hb.s2).mono ?_
  rintro e w' ⟨rfl, rfl⟩
  exact ⟨_, _, rfl, hf k hk, rfl⟩

theorem mean_eq (W y : Int) (hW : 1 ≤ W) : (W * y + W / 2) / W = y := by
  rw [Int.add_comm, Int.mul_comm, Int.add_mul_ediv_right _ _ (by omega), Int.ediv_eq_zero_of_lt (by omega) (by omega)]
  omega

set_option maxRecDepth 100000 in
set_option maxHeartbeats 6400000 in
theorem box_any (gd gs nd ns N Len R : Nat) (dlI dsI slI ssI : Int) (dl ds sl ss : Nat) (old zs col : List Int) (w : World)
    (hnd : nd ≤ 1048576) (hns : ns ≤ 1048576) (hN : N ≤ 65536) (hLen : Len ≤ 65536) (hL1 : 1 ≤ Len) (hR : R ≤ 65536) (hg : gd ≠ gs)
    (hdl : Steps N dlI dl) (hds : Steps Len dsI ds) (hsl : Steps N slI sl) (hss : Steps Len ssI ss)
    (hPd : ∀ i j, i < N → j < Len → i * dl + j * ds + 4 ≤ nd) (hPs : ∀ i j, i < N → j < Len → i * sl + j * ss + 4 ≤ ns)
    (hmod : ∀ i j, i < N → j < Len → (i * dl + j * ds) % 4 = 0) (hcol : ∀ c, c < 4 → 0 ≤ col.getD c 0 ∧ col.getD c 0 ≤ 255)
    (hod : Ow w gd nd old) (hos : Ow w gs ns zs) (hflat : FlatP zs col sl ss N Len) :
    Calls Try.prog 27 #[.agg #[.slice (some ⟨gd, 0, none⟩) nd nd, .int .i64 dlI, .int .i64 dsI], .agg #[.slice (some ⟨gs, 0, none⟩) ns ns, .int .i64 slI, .int .i64 ssI], .int .i64 N, .int .i64 Len, .int .i64 R] w fun e w' =>
      e = .returned (.tuple #[]) ∧ ∃ ps, Ow w' gd nd ps ∧ Painted ps old col nd (TS dl ds Len N 0 0) ∧ w.grownBy w' (some gd) := by
  have HDL := hid hdl
  have HDS := hid hds
  have HSL := hid hsl
  have HSS := hid hss
  have HPD := hid hPd
  have HPS := hid hPs
  have HMOD := hid hmod
  have HCOL := hid hcol
  have HOD := hid hod
  have HOS := hid hos
  have HFL := hid hflat
  clear hdl hds hsl hss hPd hPs hmod hcol hod hos hflat
  go_enter Try.func27, Try.ntmps27
  go_wp2
  have HGd := hid HOD.out.lt
  have HGs := hid HOS.out.lt
  have HB := hid (((( Below.refl w.heap.size w).alloc (Nat.le_refl _) (.cells #[.slice (some ⟨gd, 0, none⟩) nd nd, .int .i64 dlI, .int .i64 dsI] 48)).alloc (by simp) (.cells #[.slice (some ⟨gs, 0, none⟩) ns ns, .int .i64 slI, .int .i64 ssI] 48)).alloc (by simp; omega) (.cells #[.int .i64 Len] 3))
  have HCB0 := box_cells w (.slice (some ⟨gd, 0, none⟩) nd nd) (.int .i64 dlI) (.int .i64 dsI) (.slice (some ⟨gs, 0, none⟩) ns ns) (.int .i64 slI) (.int .i64 ssI) (.int .i64 Len)
  have HCB := hid (show Bx (((w.alloc (.cells #[.slice (some ⟨gd, 0, none⟩) nd nd, .int .i64 dlI, .int .i64 dsI] 48)).alloc (.cells #[.slice (some ⟨gs, 0, none⟩) ns ns, .int .i64 slI, .int .i64 ssI] 48)).alloc (.cells #[.int .i64 Len] 3)) w.heap.size gd nd gs ns Len dlI dsI slI ssI from ⟨HCB0.1, HCB0.2.1, HCB0.2.2.1, HCB0.2.2.2.1, HCB0.2.2.2.2.1, HCB0.2.2.2.2.2.1, HCB0.2.2.2.2.2.2, HGd.out, HGs.out⟩)
  clear HCB0
  have HSZ := hid (box_size w (.cells #[.slice (some ⟨gd, 0, none⟩) nd nd, .int .i64 dlI, .int .i64 dsI] 48) (.cells #[.slice (some ⟨gs, 0, none⟩) ns ns, .int .i64 slI, .int .i64 ssI] 48) (.cells #[.int .i64 Len] 3))
  generalize ((w.alloc (.cells #[.slice (some ⟨gd, 0, none⟩) nd nd, .int .i64 dlI, .int .i64 dsI] 48)).alloc (.cells #[.slice (some ⟨gs, 0, none⟩) ns ns, .int .i64 slI, .int .i64 ssI] 48)).alloc (.cells #[.int .i64 Len] 3) = wB at HB HCB HSZ ⊢
  have HODB := hid (HOD.out.later HB.out HGd.out)
  have HOSB := hid (HOS.out.later HB.out HGs.out)
  clear HOD HOS
  obtain ⟨W, eW⟩ : ∃ W, W = 2 * R + 1 := ⟨_, rfl⟩
  have hW1 : 1 ≤ W := by omega
  have hW2 : W ≤ 131073 := by omega
  rw [show (2 * (R : Int) + 1) = (W : Int) from by omega]
  have EW := hid eW
  clear eW
  go_loopw [30] (fun iv wr => ∃ (i : Nat) (ps : List Int), i ≤ N ∧ iv = .int .i64 i ∧ Hid (Ow wr gd nd ps) ∧ Hid (Painted ps old col nd (TS dl ds Len i 0 0)) ∧ Hid (wB.grownBy wr (some gd))) (fun i _ => N - (intOf i).toNat)
  case atStart => exact ⟨0, old, by omega, rfl, HODB, Painted.start _ _ _ _ _ _, World.grownBy.refl _ _⟩
  case round =>
    obtain ⟨i, ps, hi, rfl, HOW, HPT, HGR⟩ := hrel
    by_cases hiN : i < N
    · have hxd := HDL.out.mul i hiN
      have hxs := HSL.out.mul i hiN
      obtain ⟨Xd, eXd⟩ : ∃ X, X = i * dl := ⟨_, rfl⟩
      obtain ⟨Xs, eXs⟩ : ∃ X, X = i * sl := ⟨_, rfl⟩
      rw [← eXd] at hxd
      rw [← eXs] at hxs
      have EXd := hid eXd
      have EXs := hid eXs
      have bXd : Xd + 4 ≤ nd := by have := HPD.out i 0 hiN (by omega); rw [← eXd] at this; omega
      have bXs : Xs + 4 ≤ ns := by have := HPS.out i 0 hiN (by omega); rw [← eXs] at this; omega
      clear eXd eXs
      have hbx := HCB.out.at HGR.out
      have k0 := hbx.d0
      have k1 := hbx.d1
      have k3 := hbx.s0
      have k4 := hbx.s1
      have HBX := hid hbx
      clear hbx
      have hsz := HGR.out.size
      have a0 := fun o => Lib.cell?_alloc_some o k0
      have a1 := fun o => Lib.cell?_alloc_some o k1
      have a3 := fun o => Lib.cell?_alloc_some o k3
      have a4 := fun o => Lib.cell?_alloc_some o k4
      go_wp2
      go_region
      clear a0 a1 a3 a4 k0 k1 k3 k4 hxd hxs
      go_wp2
      have HLN := hid ((Ln.start HGR.out HOW.out (by have := HGd.out; have := HSZ.out; omega) (.slice (some ⟨gs, Xs, none⟩) (ns - Xs) (ns - Xs)) #[.int .i32 0, .int .i32 0, .int .i32 0, .int .i32 0]).drew)
      generalize (((wr.alloc (.cells #[.slice (some ⟨gs, Xs, none⟩) (ns - Xs) (ns - Xs)] 22)).alloc (.cells #[.int .i32 0, .int .i32 0, .int .i32 0, .int .i32 0] 53)).drew) = wL at HLN ⊢
      generalize wr.heap.size = bI at HLN hsz ⊢
      rw [← sumA_zero col] at HLN
      clear HOW HGR HBX
      go_loopw [16] (fun jv w2 => ∃ m : Nat, m ≤ W ∧ jv = .int .i64 (-(R : Int) + (m : Int)) ∧ Hid (Ln wB w2 gd nd bI (.slice (some ⟨gs, Xs, none⟩) (ns - Xs) (ns - Xs)) (sumA col m 0) ps)) (fun j _ => (70000 - intOf j).toNat)
      case atStart => exact ⟨0, by omega, by go_num, HLN⟩
      case round =>
        obtain ⟨m, hm, rfl, HL⟩ := hrel
        by_cases hmW : m < W
        · have hle : -(R : Int) + (m : Int) ≤ (R : Int) := by have := EW.out; omega
          go_wp2_with fail
          refine (at_ln HCB.out HL.out HOSB.out hg HFL.out hiN EXs.out hns hLen hL1 HSS.out HPS.out _).mono ?_
          rintro e w' ⟨o, cp, rfl, HCO, rfl⟩
          go_wp2
          go_loopw [59] (fun cv w3 => ∃ c : Nat, c ≤ 4 ∧ cv = .int .i64 c ∧ Hid (Ln wB w3 gd nd bI (.slice (some ⟨gs, Xs, none⟩) (ns - Xs) (ns - Xs)) (sumA col m c) ps)) (fun c _ => 4 - (intOf c).toNat)
          case atStart => exact ⟨0, by omega, rfl, HL⟩
          case round => as_aux_lemma =>
            obtain ⟨c, hc, rfl, HL3⟩ := hrel
            by_cases hc4 : c < 4
            · have q1 := HL3.out.grow.cell (HCO.out c hc4) (by simp; exact fun e => hg e.symm)
              have q2 := (HL3.out.sumCell c).trans (sumA_at col m c c hc4)
              rw [if_neg (by omega)] at q2
              have q3 := HL3.out.sumFrozen c
              obtain ⟨y1, y2⟩ := HCOL.out c hc4
              obtain ⟨y, ey⟩ : ∃ y, y = col.getD c 0 := ⟨_, rfl⟩
              rw [← ey] at q1 q2 y1 y2
              obtain ⟨x1, x2⟩ := mul_bd (a := (m : Int)) (b := y) (A := 131073) (B := 255) (by omega) (by omega) y1 y2
              obtain ⟨x, ex⟩ : ∃ x, x = (m : Int) * y := ⟨_, rfl⟩
              rw [← ex] at q2 x1 x2
              have HS := hid (HL3.out.setSum c (.int .i32 (x + y)))
              rw [sumA_set col m c hc4 (x + y) (by rw [ex, ← ey, Int.add_mul, Int.one_mul])] at HS
              clear ex ey
              have b1 : (c : Int) < 4 := by omega
              go_wp2
              go_roundw
              case rel => exact ⟨c + 1, by omega, by go_num, HS⟩
              case measure => simp [intOf]; omega
            · obtain rfl : c = 4 := by omega
              rw [sumA_four] at HL3
              go_wp2
              go_roundw
              case rel => exact ⟨m + 1, by omega, by go_num, HL3⟩
              case measure => simp [intOf]; omega
        · obtain rfl : m = W := by omega
          have hgt : ¬ (-(R : Int) + (m : Int) ≤ (R : Int)) := by have := EW.out; omega
          have kl := (HCB.out.at HL.out.grow).l0
          go_wp2
          clear kl hgt
          go_loopw [73] (fun cv w4 => ∃ (j : Nat) (qs : List Int), j ≤ Len ∧ cv = .int .i64 j ∧ Hid (Ln wB w4 gd nd bI (.slice (some ⟨gs, Xs, none⟩) (ns - Xs) (ns - Xs)) (sumA col m 0) qs) ∧ Hid (Painted qs old col nd (TS dl ds Len i j 0))) (fun j _ => Len - (intOf j).toNat)
          case atStart => exact ⟨0, ps, by omega, rfl, HL, HPT⟩
          case round =>
            obtain ⟨j, qs, hj, rfl, HL4, HP4⟩ := hrel
            by_cases hjL : j < Len
            · have hyd := HDS.out.mul j hjL
              have hp := HPD.out i j hiN hjL
              have hmo := HMOD.out i j hiN hjL
              obtain ⟨Yd, eYd⟩ : ∃ Y, Y = j * ds := ⟨_, rfl⟩
              rw [← eYd] at hyd hp hmo
              rw [← EXd.out] at hp hmo
              have EYd := hid eYd
              have HMO := hid hmo
              clear eYd hmo
              have kd := (HCB.out.at HL4.out.grow).d2
              go_wp2
              rw [show Yd + 4 - Yd = 4 from by omega]
              clear kd hyd
              go_loopw [87] (fun cv w5 => ∃ (c : Nat) (rs : List Int), c ≤ 4 ∧ cv = .int .i64 c ∧ Hid (Ln wB w5 gd nd bI (.slice (some ⟨gs, Xs, none⟩) (ns - Xs) (ns - Xs)) (sumA col m 0) rs) ∧ Hid (Painted rs old col nd (TS dl ds Len i j c))) (fun c _ => 4 - (intOf c).toNat)
              case atStart => exact ⟨0, qs, by omega, rfl, HL4, HP4⟩
              case round => as_aux_lemma =>
                obtain ⟨c, rs, hc, rfl, HL5, HP5⟩ := hrel
                by_cases hc4 : c < 4
                · have q2 := (HL5.out.sumCell c).trans (sumA_at col m 0 c hc4)
                  rw [if_neg (by omega)] at q2
                  have q4 := HL5.out.row.cell (Xd + Yd + c) (by omega)
                  have q5 := HL5.out.row.frozen (Xd + Yd + c)
                  obtain ⟨y1, y2⟩ := HCOL.out c hc4
                  have HPN := hid ((HP5.out.set HL5.out.row.len (Xd + Yd + c) c (by omega) (by have := HMO.out; omega)).cong (T' := TS dl ds Len i j (c + 1)) (fun k => by rw [TS_c, ← EXd.out, ← EYd.out]))
                  obtain ⟨y, ey⟩ : ∃ y, y = col.getD c 0 := ⟨_, rfl⟩
                  rw [← ey] at q2 y1 y2 HPN
                  obtain ⟨x1, x2⟩ := mul_bd (a := (m : Int)) (b := y) (A := 131073) (B := 255) (by omega) (by omega) y1 y2
                  have hq := mean_eq (m : Int) y (by omega)
                  obtain ⟨x, ex⟩ : ∃ x, x = (m : Int) * y := ⟨_, rfl⟩
                  rw [← ex] at q2 x1 x2 hq
                  have HS := hid (HL5.out.setRow (Xd + Yd + c) y)
                  clear ex ey
                  have b1 : (c : Int) < 4 := by omega
                  go_wp2
                  go_roundw
                  case rel => exact ⟨c + 1, _, by omega, by go_num, HS, HPN⟩
                  case measure => simp [intOf]; omega
                · obtain rfl : c = 4 := by omega
                  have HP6 := hid (HP5.out.cong (TS_j dl ds Len i j))
                  go_wp2_with fail
                  refine (at_ln HCB.out HL5.out HOSB.out hg HFL.out hiN EXs.out hns hLen hL1 HSS.out HPS.out _).mono ?_
                  rintro e w' ⟨o1, cp1, rfl, HCO1, rfl⟩
                  go_wp2_with fail
                  refine (at_ln HCB.out HL5.out HOSB.out hg HFL.out hiN EXs.out hns hLen hL1 HSS.out HPS.out _).mono ?_
                  rintro e w' ⟨o2, cp2, rfl, HCO2, rfl⟩
                  go_wp2
                  go_loopw [114] (fun cv w6 => ∃ c : Nat, c ≤ 4 ∧ cv = .int .i64 c ∧ Hid (Ln wB w6 gd nd bI (.slice (some ⟨gs, Xs, none⟩) (ns - Xs) (ns - Xs)) (sumA col m 0) rs)) (fun c _ => 4 - (intOf c).toNat)
                  case atStart => exact ⟨0, by omega, rfl, HL5⟩
                  case round => as_aux_lemma =>
                    obtain ⟨c, hc, rfl, HL6⟩ := hrel
                    by_cases hc4 : c < 4
                    · have q1 := HL6.out.grow.cell (HCO1.out c hc4) (by simp; exact fun e => hg e.symm)
                      have q1' := HL6.out.grow.cell (HCO2.out c hc4) (by simp; exact fun e => hg e.symm)
                      have q2 := (HL6.out.sumCell c).trans (sumA_at col m 0 c hc4)
                      rw [if_neg (by omega)] at q2
                      have q3 := HL6.out.sumFrozen c
                      obtain ⟨y1, y2⟩ := HCOL.out c hc4
                      obtain ⟨y, ey⟩ : ∃ y, y = col.getD c 0 := ⟨_, rfl⟩
                      rw [← ey] at q1 q1' q2 y1 y2
                      obtain ⟨x1, x2⟩ := mul_bd (a := (m : Int)) (b := y) (A := 131073) (B := 255) (by omega) (by omega) y1 y2
                      obtain ⟨x, ex⟩ : ∃ x, x = (m : Int) * y := ⟨_, rfl⟩
                      rw [← ex] at q2 x1 x2
                      have HS := hid (HL6.out.setSum c (.int .i32 x)).drew
                      rw [sumA_same col m c hc4 x (by rw [ex, ← ey])] at HS
                      clear ex ey
                      have b1 : (c : Int) < 4 := by omega
                      go_wp2
                      go_region
                      all_goals
                        go_wp2
                        go_roundw
                        case rel => exact ⟨c + 1, by omega, by go_num, HS⟩
                        case measure => simp [intOf]; omega
                    · go_wp2
                      go_roundw
                      case rel => exact ⟨j + 1, rs, by omega, by go_num, HL6, HP6⟩
                      case measure => simp [intOf]; omega
            · obtain rfl : j = Len := by omega
              have HPN := hid (HP4.out.cong (TS_i dl ds j i))
              go_wp2
              go_roundw
              case rel =>
                exact ⟨i + 1, qs, by omega, by go_num, HL4.out.row, HPN, HL4.out.grow⟩
              case measure => simp [intOf]; omega
    · obtain rfl : i = N := by omega
      go_wp2
      go_end0
      refine ⟨rfl, ps, HOW.out, HPT.out, ⟨HGR.out.os.trans HB.out.os, HGR.out.tape.trans HB.out.tape, HGR.out.output.trans HB.out.output, Nat.le_trans HB.out.size HGR.out.size, fun k hk hne => ?_⟩⟩
      exact (HGR.out.block k (Nat.lt_of_lt_of_le hk HB.out.size) hne).trans (HB.out.block k hk)

end Go.Proofs.Qxb6602704a.Wk
