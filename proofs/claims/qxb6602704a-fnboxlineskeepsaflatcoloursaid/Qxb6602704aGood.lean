import Derived.Test.Qxb6602704aNone
namespace Go.Proofs.Qxb6602704a.Wk
open Go.ChangeShapes Go.WideShapes Go.ChangeAt Go.RowKit
set_option linter.unusedVariables false
set_option maxRecDepth 100000

/-- What boxLines' own contract says, as the law's walk needs it. -/
def BoxSaid (nd ns N Len R : Nat) (dlI dsI slI ssI : Int) (dl ds sl ss : Nat) (zd zs col : List Int) : Prop :=
  ∀ (gd gs : Nat) (w : World), gd ≠ gs → Ow w gd nd zd → Ow w gs ns zs →
    Calls Try.prog 14 #[.slice (some ⟨gd, 0, none⟩) nd nd, .int .i64 dlI, .int .i64 dsI, .slice (some ⟨gs, 0, none⟩) ns ns, .int .i64 slI, .int .i64 ssI, .int .i64 N, .int .i64 Len, .int .i64 R] w fun e w' =>
      e = .returned (.tuple #[]) ∧ ∃ ps, Ow w' gd nd ps ∧ Painted ps zd col nd (TS dl ds Len N 0 0) ∧ w.grownBy w' (some gd)

theorem Ow.grown {w w' : World} {g n r : Nat} {ps : List Int} (h : Ow w g n ps) (hg : w.grownBy w' (some r)) (hne : g ≠ r) : Ow w' g n ps := World.ownsRow.kept h hg (.inr (by simpa [Value.ownBlock] using hne))
theorem Ob.grown {w w' : World} {g n r : Nat} {tb : List Bool} (h : Ob w g n tb) (hg : w.grownBy w' (some r)) (hne : g ≠ r) : Ob w' g n tb := World.ownsRow.kept h hg (.inr (by simpa [Value.ownBlock] using hne))
theorem Ow.rd {w : World} {g n : Nat} {zs : List Int} (h : Ow w g n zs) : Rd w (some ⟨g, 0, none⟩) n zs := ⟨h.len, (fun e => by cases e), fun _ => ⟨g, 0, rfl, h.lt, fun j hj => by rw [Nat.zero_add]; exact h.cell j hj⟩⟩
theorem grownBy.set {w w' : World} {g : Nat} (h : w.grownBy w' (some g)) (c : Nat) (v : Value) : w.grownBy (w'.setCell ⟨g, c, none⟩ v) (some g) :=
  ⟨h.os, h.tape, h.output, by rw [show (w'.setCell ⟨g, c, none⟩ v).heap.size = w'.heap.size by simp [World.setCell]]; exact h.size, fun k hk hne => by rw [Below.heap_setCell _ _ _ _ (by show k ≠ g; intro e; exact hne (by rw [e]))]; exact h.block k hk hne⟩

/-- The law's memory once all has been laid. -/
structure Mem (w0 w : World) (gc g1 g2 g3 g4 nd ns : Nat) (zd zs zb col : List Int) (tb : List Bool) : Prop where
  a : Ow w g1 nd zd
  s : Ow w g2 ns zs
  b : Ow w g3 nd zb
  t : Ob w g4 nd tb
  col : ∀ c, c < 4 → w.cell? ⟨gc, c, none⟩ = some (.int .u8 (col.getD c 0))
  n1 : gc < g1
  n2 : g1 < g2
  n3 : g2 < g3
  n4 : g3 < g4
  below : Below gc w0 w

theorem Mem.mark {w0 w : World} {gc g1 g2 g3 g4 nd ns : Nat} {zd zs zb col : List Int} {tb : List Bool} (h : Mem w0 w gc g1 g2 g3 g4 nd ns zd zs zb col tb) (p : Nat) : Mem w0 (w.setCell ⟨g4, p, none⟩ (.bool true)) gc g1 g2 g3 g4 nd ns zd zs zb col (tb.set p true) := by
  have a1 := h.n1; have a2 := h.n2; have a3 := h.n3; have a4 := h.n4
  have hg := grownBy.set (World.grownBy.refl w (some g4)) p (.bool true)
  exact ⟨h.a.grown hg (by omega), h.s.grown hg (by omega), h.b.grown hg (by omega), h.t.set p true, fun c hc => hg.cell (h.col c hc) (by simp; omega), a1, a2, a3, a4, h.below.setCell (p := ⟨g4, p, none⟩) (by show gc ≤ g4; omega) _⟩

theorem Mem.boxed {w0 w w' : World} {gc g1 g2 g3 g4 nd ns : Nat} {zd zs zb col ps : List Int} {tb : List Bool} (h : Mem w0 w gc g1 g2 g3 g4 nd ns zd zs zb col tb) (hg : w.grownBy w' (some g1)) (hp : Ow w' g1 nd ps) : Mem w0 w' gc g1 g2 g3 g4 nd ns ps zs zb col tb := by
  have a1 := h.n1; have a2 := h.n2; have a3 := h.n3; have a4 := h.n4
  refine ⟨hp, h.s.grown hg (by omega), h.b.grown hg (by omega), h.t.grown hg (by omega), fun c hc => hg.cell (h.col c hc) (by simp; omega), a1, a2, a3, a4, h.below.grown hg ?_ (fun k hk => by cases hk; omega)⟩
  have := h.a.lt
  omega

set_option maxHeartbeats 6400000 in
theorem main_good (ad sa : Addr) (nd cd ns cs N Len R dl ds sl ss : Nat) (dlI dsI slI ssI c0 c1 c2 c3 : Int) (zd zs : List Int) (w : World) (hs : nd + ns ≤ 1048576) (n1 : 1 ≤ N) (n2 : N ≤ 65536) (l1 : 1 ≤ Len) (l2 : Len ≤ 65536) (r2 : R ≤ 65536)
    (hd : Rd w (some ad) nd zd) (hsr : Rd w (some sa) ns zs) (hf : fitsB nd dlI dsI N Len = true) (hg : fitsB ns slI ssI N Len = true) (hp : (N : Int) * (Len : Int) ≤ 1048576) (hq : (N : Int) * (2 * (R : Int) + 1) ≤ 4194304)
    (hdl : Steps N dlI dl) (hds : Steps Len dsI ds) (hsl : Steps N slI sl) (hss : Steps Len ssI ss)
    (hPd : ∀ i j, i < N → j < Len → i * dl + j * ds + 4 ≤ nd) (hPs : ∀ i j, i < N → j < Len → i * sl + j * ss + 4 ≤ ns)
    (hm1 : 1 < N → 0 ≤ dlI ∧ dlI % 4 = 0) (hm2 : 1 < Len → 0 ≤ dsI ∧ dsI % 4 = 0)
    (hbox : FlatP zs [c0, c1, c2, c3] sl ss N Len → BoxSaid nd ns N Len R dlI dsI slI ssI dl ds sl ss zd zs [c0, c1, c2, c3]) :
    Calls Try.prog 4 #[.slice (some ad) nd cd, .int .i64 dlI, .int .i64 dsI, .slice (some sa) ns cs, .int .i64 slI, .int .i64 ssI, .int .i64 N, .int .i64 Len, .int .i64 R, .agg #[.int .u8 c0, .int .u8 c1, .int .u8 c2, .int .u8 c3]] w fun e w' =>
      e = .returned (.bool true) ∧ Below w.heap.size w w' := by
  have H := hid fun w1 => zz_yes (some ad) (some sa) nd cd ns cs dlI dsI slI ssI N Len R c0 c1 c2 c3 w1 hs
  have y3 : (nd : Int) + (ns : Int) ≤ (1048576 : Int) := by omega
  obtain ⟨i0, hi, hz0, hz1, hz2⟩ := info_parts info4
  obtain ⟨p1, p2⟩ := mul_bd (a := (N : Int)) (b := (Len : Int)) (A := 65536) (B := 65536) (by omega) (by omega) (by omega) (by omega)
  obtain ⟨q1, q2⟩ := mul_bd (a := (N : Int)) (b := 2 * (R : Int) + 1) (A := 65536) (B := 131073) (by omega) (by omega) (by omega) (by omega)
  have j1 : 1 ≤ (N : Int) := by omega
  have HD := hid hd
  have HSR := hid hsr
  have HDL := hid hdl
  have HDS := hid hds
  have HSL := hid hsl
  have HSS := hid hss
  have HPD := hid hPd
  have HPS := hid hPs
  have HM1 := hid hm1
  have HM2 := hid hm2
  have HBOX := hid hbox
  obtain ⟨bs, os, ebs, lbs, cbs⟩ := hsr.2.2 (by have := hPs 0 0 (by omega) (by omega); omega)
  have HCS := hid cbs
  have HLB := hid lbs
  cases ebs
  clear hd hsr hdl hds hsl hss hPd hPs hm1 hm2 hbox cbs lbs
  go_enter Try.func4, Try.ntmps4
  go_wp2_with fail
  refine (Hid.out H _).mono ?_
  rintro e w1 ⟨rfl, hb⟩
  obtain ⟨h1, h2, h3⟩ := after_zz hb
  have k0 := h3 0
  have k1 := h3 1
  have k2 := h3 2
  have k3 := h3 3
  simp only [List.getElem?_toArray, List.getElem?_cons_zero, List.getElem?_cons_succ] at k0 k1 k2 k3
  clear hb h3 H
  have HB1 := hid h1
  clear h1
  go_upto_if 109 with (go_at_call 11; refine (fits_any _ _ _ _ _ _ (by omega) (by omega) (by omega) (by omega) (by omega)).mono ?_; rintro e w' ⟨rfl, rfl⟩)
  go_cut [] (fun wc => Hid (Below w.heap.size w wc) ∧ w.heap.size < wc.heap.size ∧ Hid (FlatP zs [c0, c1, c2, c3] sl ss N Len) ∧ Hid (∀ c, c < 4 → wc.cell? ⟨w.heap.size, c, none⟩ = some (.int .u8 ([c0, c1, c2, c3].getD c 0))))
  case first =>
    have HF := hid (flat_any bs os ns cs slI ssI N Len sl ss zs [c0, c1, c2, c3] _ (by omega) n2 l2 HSL.out HSS.out HPS.out (fun j hj => (HB1.out.cell (p := ⟨bs, os + j, none⟩) HLB.out).trans (HCS.out j hj)))
    by_cases hN1 : 1 < N <;> by_cases hL1 : 1 < Len
    · obtain ⟨a1, a2⟩ := HM1.out hN1
      obtain ⟨a3, a4⟩ := HM2.out hL1
      go_wp2_with fail
      refine (Hid.out HF).mono ?_
      rintro e w2 ⟨r, rfl, hr, hb2⟩
      cases r
      · have HX := hid (HB1.out.trans (hb2.mono (by omega)))
        clear hr hb2
        go_wp2
        go_ret
        exact ⟨rfl, HX.out⟩
      · have HX := hid (HB1.out.trans (hb2.mono (by omega)))
        have HR := hid (hr rfl)
        have HZ := hid hb2.size
        have HK := hid (show ∀ c, c < 4 → w2.cell? ⟨w.heap.size, c, none⟩ = some (.int .u8 ([c0, c1, c2, c3].getD c 0)) from fun c hc => by
          rw [hb2.cell (p := ⟨w.heap.size, c, none⟩) h2]
          match c, hc with
          | 0, _ => exact k0
          | 1, _ => exact k1
          | 2, _ => exact k2
          | 3, _ => exact k3)
        clear hr hb2
        go_wp2
        go_meet
        case rel => exact ⟨HX, Nat.lt_of_lt_of_le h2 HZ.out, HR, HK⟩
    · obtain ⟨a1, a2⟩ := HM1.out hN1
      have hL2 : ¬ (1 : Int) < (Len : Int) := by omega
      go_wp2_with fail
      refine (Hid.out HF).mono ?_
      rintro e w2 ⟨r, rfl, hr, hb2⟩
      cases r
      · have HX := hid (HB1.out.trans (hb2.mono (by omega)))
        clear hr hb2
        go_wp2
        go_ret
        exact ⟨rfl, HX.out⟩
      · have HX := hid (HB1.out.trans (hb2.mono (by omega)))
        have HR := hid (hr rfl)
        have HZ := hid hb2.size
        have HK := hid (show ∀ c, c < 4 → w2.cell? ⟨w.heap.size, c, none⟩ = some (.int .u8 ([c0, c1, c2, c3].getD c 0)) from fun c hc => by
          rw [hb2.cell (p := ⟨w.heap.size, c, none⟩) h2]
          match c, hc with
          | 0, _ => exact k0
          | 1, _ => exact k1
          | 2, _ => exact k2
          | 3, _ => exact k3)
        clear hr hb2
        go_wp2
        go_meet
        case rel => exact ⟨HX, Nat.lt_of_lt_of_le h2 HZ.out, HR, HK⟩
    · obtain ⟨a3, a4⟩ := HM2.out hL1
      have hN2 : ¬ (1 : Int) < (N : Int) := by omega
      go_wp2_with fail
      refine (Hid.out HF).mono ?_
      rintro e w2 ⟨r, rfl, hr, hb2⟩
      cases r
      · have HX := hid (HB1.out.trans (hb2.mono (by omega)))
        clear hr hb2
        go_wp2
        go_ret
        exact ⟨rfl, HX.out⟩
      · have HX := hid (HB1.out.trans (hb2.mono (by omega)))
        have HR := hid (hr rfl)
        have HZ := hid hb2.size
        have HK := hid (show ∀ c, c < 4 → w2.cell? ⟨w.heap.size, c, none⟩ = some (.int .u8 ([c0, c1, c2, c3].getD c 0)) from fun c hc => by
          rw [hb2.cell (p := ⟨w.heap.size, c, none⟩) h2]
          match c, hc with
          | 0, _ => exact k0
          | 1, _ => exact k1
          | 2, _ => exact k2
          | 3, _ => exact k3)
        clear hr hb2
        go_wp2
        go_meet
        case rel => exact ⟨HX, Nat.lt_of_lt_of_le h2 HZ.out, HR, HK⟩
    · have hN2 : ¬ (1 : Int) < (N : Int) := by omega
      have hL2 : ¬ (1 : Int) < (Len : Int) := by omega
      go_wp2_with fail
      refine (Hid.out HF).mono ?_
      rintro e w2 ⟨r, rfl, hr, hb2⟩
      cases r
      · have HX := hid (HB1.out.trans (hb2.mono (by omega)))
        clear hr hb2
        go_wp2
        go_ret
        exact ⟨rfl, HX.out⟩
      · have HX := hid (HB1.out.trans (hb2.mono (by omega)))
        have HR := hid (hr rfl)
        have HZ := hid hb2.size
        have HK := hid (show ∀ c, c < 4 → w2.cell? ⟨w.heap.size, c, none⟩ = some (.int .u8 ([c0, c1, c2, c3].getD c 0)) from fun c hc => by
          rw [hb2.cell (p := ⟨w.heap.size, c, none⟩) h2]
          match c, hc with
          | 0, _ => exact k0
          | 1, _ => exact k1
          | 2, _ => exact k2
          | 3, _ => exact k3)
        clear hr hb2
        go_wp2
        go_meet
        case rel => exact ⟨HX, Nat.lt_of_lt_of_le h2 HZ.out, HR, HK⟩
  case rest =>
    obtain ⟨HBc, hsc, HFL, HCC⟩ := hcut
    clear k0 k1 k2 k3 HB1
    go_wp2_with fail
    refine (clone_some ad nd cd zd wc (HD.out.later HBc.out) (by omega)).mono ?_
    rintro e w2 ⟨rfl, ho2, hb2⟩
    have HA2 := hid ho2
    have HW2 := hid (HBc.out.trans (hb2.mono (by omega)))
    have HK2 := hid (fun (c : Nat) (hc : c < 4) => (hb2.cell (p := ⟨w.heap.size, c, none⟩) hsc).trans (HCC.out c hc))
    have HL2 := hid (HA2.out.lt)
    clear ho2 hb2
    go_wp2_with fail
    refine (clone_some ⟨bs, os, none⟩ ns cs zs w2 (HSR.out.later HW2.out) (by omega)).mono ?_
    rintro e w3 ⟨rfl, ho3, hb3⟩
    have HS3 := hid ho3
    have HA3 := hid (HA2.out.later hb3 HL2.out)
    have HW3 := hid (HW2.out.trans (hb3.mono HW2.out.size))
    have HK3 := hid (fun (c : Nat) (hc : c < 4) => (hb3.cell (p := ⟨w.heap.size, c, none⟩) (by show w.heap.size < w2.heap.size; have := HL2.out; omega)).trans (HK2.out c hc))
    have HL3 := hid (HS3.out.lt)
    clear ho3 hb3 HA2 HK2 HW2
    go_wp2_with fail
    refine (clone_some ⟨wc.heap.size, 0, none⟩ nd nd zd w3 HA3.out.rd (by omega)).mono ?_
    rintro e w4 ⟨rfl, ho4, hb4⟩
    have HB4 := hid ho4
    have HA4 := hid (HA3.out.later hb4 HA3.out.lt)
    have HS4 := hid (HS3.out.later hb4 HS3.out.lt)
    have HW4 := hid (HW3.out.trans (hb4.mono HW3.out.size))
    have HK4 := hid (fun (c : Nat) (hc : c < 4) => (hb4.cell (p := ⟨w.heap.size, c, none⟩) (by show w.heap.size < w3.heap.size; have := HL2.out; have := HL3.out; omega)).trans (HK3.out c hc))
    have HL4 := hid (HB4.out.lt)
    clear ho4 hb4 HA3 HS3 HK3 HW3
    go_wp2_with (at_make; refine wpList_make_full _ rfl _ _ 32 rfl w4.heap.size 4 i0 (.bool false) 1 Try.underlying32 hi hz0 hz1 .i64 .i64 _ _ nd rfl rfl rfl rfl (by rw [hz2]; omega) (by unfold maxLen; omega) (Nat.le_refl _) ?_; intro w5 hown hgrow; have HO := hid hown; have HB5 := hid ((Below.refl w4.heap.size w4).grown hgrow (Nat.le_refl _) (by intro k hk; cases hk)); clear hown hgrow)
    have HO5 : Hid (Ob w5 w4.heap.size nd (List.replicate nd false)) := by
      have h := HO.out
      rw [show (Value.bool false).cells = #[Value.bool false] from rfl, toList_madeCells_one, Nat.mul_one] at h
      show World.ownsRow _ _ _ _ _ _ _
      rw [List.map_replicate]
      exact h
    clear HO
    have HMEM := hid (show Mem w w5 w.heap.size wc.heap.size w2.heap.size w3.heap.size w4.heap.size nd ns zd zs zd [c0, c1, c2, c3] (List.replicate nd false) from
      ⟨HA4.out.later HB5.out HA4.out.lt, HS4.out.later HB5.out HS4.out.lt, HB4.out.later HB5.out HB4.out.lt, HO5.out, fun c hc => (HB5.out.cell (p := ⟨w.heap.size, c, none⟩) (by show w.heap.size < w4.heap.size; have := HL2.out; have := HL3.out; have := HL4.out; omega)).trans (HK4.out c hc), hsc, HL2.out, HL3.out, HL4.out, HW4.out.trans (HB5.out.mono HW4.out.size)⟩)
    clear HA4 HS4 HB4 HO5 HK4 HW4 HB5 HL2 HL3 HL4 HBc HCC hsc HLB HCS HD HSR
    generalize hgc : w.heap.size = gc at HMEM ⊢
    generalize wc.heap.size = g1 at HMEM ⊢
    generalize w2.heap.size = g2 at HMEM ⊢
    generalize w3.heap.size = g3 at HMEM ⊢
    generalize w4.heap.size = g4 at HMEM ⊢
    have HGC := hid hgc
    clear hgc
    go_loopw [23] (fun iv wr => ∃ (i : Nat) (tb : List Bool), i ≤ N ∧ iv = .int .i64 i ∧ Hid (Mem w wr gc g1 g2 g3 g4 nd ns zd zs zd [c0, c1, c2, c3] tb) ∧ Hid (Marked tb nd (TS dl ds Len i 0 0))) (fun i _ => N - (intOf i).toNat)
    case atStart => exact ⟨0, _, by omega, rfl, HMEM, Marked.start _ _ _ _⟩
    case round =>
      obtain ⟨i, tb, hiI, rfl, HME, HMK⟩ := hrel
      by_cases hiN : i < N
      · have hx := HDL.out i hiN
        obtain ⟨X, eX⟩ : ∃ X, X = i * dl := ⟨_, rfl⟩
        rw [← eX] at hx
        have EX := hid eX
        clear eX
        have HHX := hid hx
        clear hx
        go_wp2
        go_loopw [24] (fun jv wr => ∃ (j : Nat) (tb : List Bool), j ≤ Len ∧ jv = .int .i64 j ∧ Hid (Mem w wr gc g1 g2 g3 g4 nd ns zd zs zd [c0, c1, c2, c3] tb) ∧ Hid (Marked tb nd (TS dl ds Len i j 0))) (fun j _ => Len - (intOf j).toNat)
        case atStart => exact ⟨0, tb, by omega, rfl, HME, HMK⟩
        case round =>
          obtain ⟨j, tb2, hjJ, rfl, HME2, HMK2⟩ := hrel
          by_cases hjL : j < Len
          · have hy := HDS.out j hjL
            obtain ⟨Y, eY⟩ : ∃ Y, Y = j * ds := ⟨_, rfl⟩
            rw [← eY] at hy
            have EY := hid eY
            have hpos : X + Y + 4 ≤ nd := by have := HPD.out i j hiN hjL; rw [← eY, ← EX.out] at this; exact this
            clear eY
            have hx := HHX.out
            obtain ⟨P, eP⟩ : ∃ P, P = X + Y := ⟨_, rfl⟩
            have EP := hid eP
            have hpP : P + 4 ≤ nd := by omega
            have HPE := hid (show P = i * dl + j * ds by rw [eP, EX.out, EY.out])
            clear eP
            by_cases hn1 : (1 : Int) < (N : Int) <;> by_cases hl1 : (1 : Int) < (Len : Int)
            all_goals
              first | rw [if_pos hn1] at hx | rw [if_neg hn1] at hx
              first | rw [if_pos hl1] at hy | rw [if_neg hl1] at hy
            · go_wp2
              rw [show (X : Int) + (Y : Int) = (P : Int) from by have := EP.out; omega]
              go_loopw [26] (fun cv wr => ∃ (c : Nat) (tb : List Bool), c ≤ 4 ∧ cv = .int .i64 c ∧ Hid (Mem w wr gc g1 g2 g3 g4 nd ns zd zs zd [c0, c1, c2, c3] tb) ∧ Hid (Marked tb nd (TS dl ds Len i j c))) (fun c _ => 4 - (intOf c).toNat)
              case atStart => exact ⟨0, tb2, by omega, rfl, HME2, HMK2⟩
              case round =>
                obtain ⟨c, tb3, hc, rfl, HME3, HMK3⟩ := hrel
                by_cases hc4 : c < 4
                · have q1 := HME3.out.t.cell (P + c) (by omega)
                  have q2 := HME3.out.t.frozen (P + c)
                  have b1 : (P : Int) + (c : Int) < (nd : Int) := by omega
                  have b2 : (c : Int) < (nd : Int) := by omega
                  have HN := hid ((HMK3.out.set HME3.out.t.len (P + c) (by omega)).cong (T' := TS dl ds Len i j (c + 1)) (fun k => by rw [TS_c, ← HPE.out]))
                  have HM := hid (HME3.out.mark (P + c))
                  go_wp2
                  go_roundw
                  case rel => exact ⟨c + 1, _, by omega, by go_num, HM, HN⟩
                  case measure => simp [intOf]; omega
                · obtain rfl : c = 4 := by omega
                  have HN := hid (HMK3.out.cong (TS_j dl ds Len i j))
                  go_wp2
                  go_roundw
                  case rel => exact ⟨j + 1, tb3, by omega, by go_num, HME3, HN⟩
                  case measure => simp [intOf]; omega
            · obtain rfl : Y = 0 := by omega
              clear hy
              go_wp2
              rw [show (X : Int) = (P : Int) from by have := EP.out; omega]
              go_loopw [26] (fun cv wr => ∃ (c : Nat) (tb : List Bool), c ≤ 4 ∧ cv = .int .i64 c ∧ Hid (Mem w wr gc g1 g2 g3 g4 nd ns zd zs zd [c0, c1, c2, c3] tb) ∧ Hid (Marked tb nd (TS dl ds Len i j c))) (fun c _ => 4 - (intOf c).toNat)
              case atStart => exact ⟨0, tb2, by omega, rfl, HME2, HMK2⟩
              case round =>
                obtain ⟨c, tb3, hc, rfl, HME3, HMK3⟩ := hrel
                by_cases hc4 : c < 4
                · have q1 := HME3.out.t.cell (P + c) (by omega)
                  have q2 := HME3.out.t.frozen (P + c)
                  have b1 : (P : Int) + (c : Int) < (nd : Int) := by omega
                  have b2 : (c : Int) < (nd : Int) := by omega
                  have HN := hid ((HMK3.out.set HME3.out.t.len (P + c) (by omega)).cong (T' := TS dl ds Len i j (c + 1)) (fun k => by rw [TS_c, ← HPE.out]))
                  have HM := hid (HME3.out.mark (P + c))
                  go_wp2
                  go_roundw
                  case rel => exact ⟨c + 1, _, by omega, by go_num, HM, HN⟩
                  case measure => simp [intOf]; omega
                · obtain rfl : c = 4 := by omega
                  have HN := hid (HMK3.out.cong (TS_j dl ds Len i j))
                  go_wp2
                  go_roundw
                  case rel => exact ⟨j + 1, tb3, by omega, by go_num, HME3, HN⟩
                  case measure => simp [intOf]; omega
            · obtain rfl : X = 0 := by omega
              clear hx
              go_wp2
              rw [show (Y : Int) = (P : Int) from by have := EP.out; omega]
              go_loopw [26] (fun cv wr => ∃ (c : Nat) (tb : List Bool), c ≤ 4 ∧ cv = .int .i64 c ∧ Hid (Mem w wr gc g1 g2 g3 g4 nd ns zd zs zd [c0, c1, c2, c3] tb) ∧ Hid (Marked tb nd (TS dl ds Len i j c))) (fun c _ => 4 - (intOf c).toNat)
              case atStart => exact ⟨0, tb2, by omega, rfl, HME2, HMK2⟩
              case round =>
                obtain ⟨c, tb3, hc, rfl, HME3, HMK3⟩ := hrel
                by_cases hc4 : c < 4
                · have q1 := HME3.out.t.cell (P + c) (by omega)
                  have q2 := HME3.out.t.frozen (P + c)
                  have b1 : (P : Int) + (c : Int) < (nd : Int) := by omega
                  have b2 : (c : Int) < (nd : Int) := by omega
                  have HN := hid ((HMK3.out.set HME3.out.t.len (P + c) (by omega)).cong (T' := TS dl ds Len i j (c + 1)) (fun k => by rw [TS_c, ← HPE.out]))
                  have HM := hid (HME3.out.mark (P + c))
                  go_wp2
                  go_roundw
                  case rel => exact ⟨c + 1, _, by omega, by go_num, HM, HN⟩
                  case measure => simp [intOf]; omega
                · obtain rfl : c = 4 := by omega
                  have HN := hid (HMK3.out.cong (TS_j dl ds Len i j))
                  go_wp2
                  go_roundw
                  case rel => exact ⟨j + 1, tb3, by omega, by go_num, HME3, HN⟩
                  case measure => simp [intOf]; omega
            · obtain rfl : X = 0 := by omega
              obtain rfl : Y = 0 := by omega
              clear hx hy
              obtain rfl : P = 0 := by have := EP.out; omega
              go_wp2
              go_loopw [26] (fun cv wr => ∃ (c : Nat) (tb : List Bool), c ≤ 4 ∧ cv = .int .i64 c ∧ Hid (Mem w wr gc g1 g2 g3 g4 nd ns zd zs zd [c0, c1, c2, c3] tb) ∧ Hid (Marked tb nd (TS dl ds Len i j c))) (fun c _ => 4 - (intOf c).toNat)
              case atStart => exact ⟨0, tb2, by omega, rfl, HME2, HMK2⟩
              case round =>
                obtain ⟨c, tb3, hc, rfl, HME3, HMK3⟩ := hrel
                by_cases hc4 : c < 4
                · have q1 := HME3.out.t.cell ((0 : Nat) + c) (by omega)
                  have q2 := HME3.out.t.frozen ((0 : Nat) + c)
                  have b1 : ((0 : Nat) : Int) + (c : Int) < (nd : Int) := by omega
                  have b2 : (c : Int) < (nd : Int) := by omega
                  have HN := hid ((HMK3.out.set HME3.out.t.len ((0 : Nat) + c) (by omega)).cong (T' := TS dl ds Len i j (c + 1)) (fun k => by rw [TS_c, ← HPE.out]))
                  have HM := hid (HME3.out.mark ((0 : Nat) + c))
                  simp only [Nat.zero_add] at q1 q2 HN HM
                  go_wp2
                  go_roundw
                  case rel => exact ⟨c + 1, _, by omega, by go_num, HM, HN⟩
                  case measure => simp [intOf]; omega
                · obtain rfl : c = 4 := by omega
                  have HN := hid (HMK3.out.cong (TS_j dl ds Len i j))
                  go_wp2
                  go_roundw
                  case rel => exact ⟨j + 1, tb3, by omega, by go_num, HME3, HN⟩
                  case measure => simp [intOf]; omega
          · obtain rfl : j = Len := by omega
            have HN := hid (HMK2.out.cong (TS_i dl ds j i))
            go_wp2
            go_roundw
            case rel => exact ⟨i + 1, tb2, by omega, by go_num, HME2, HN⟩
            case measure => simp [intOf]; omega
      · obtain rfl : i = N := by omega
        go_wp2_with fail
        refine ((Hid.out HBOX) HFL.out g1 g2 _ (by have := HME.out.n2; omega) HME.out.a HME.out.s).mono ?_
        rintro e w7 ⟨rfl, ps, hps, hpt, hgr⟩
        have HM7 := hid (HME.out.boxed hgr hps)
        have HPT := hid hpt
        clear hps hpt hgr HME
        go_wp2
        go_loopw [27] (fun kv wr => ∃ k m : Nat, k ≤ nd ∧ kv = .int .i64 k ∧ wr = w7.drewN m) (fun k _ => nd - (intOf k).toNat)
        case atStart => exact ⟨0, 0, by omega, rfl, rfl⟩
        case round =>
          obtain ⟨k, m, hk, rfl, rfl⟩ := hrel
          by_cases hlt : k < nd
          · have q1 := HM7.out.a.cell k hlt
            have q2 := HM7.out.b.cell k hlt
            have q3 := HM7.out.t.cell k hlt
            have q4 := HM7.out.col (k % 4) (by omega)
            have b1 : (k : Int) < (nd : Int) := by omega
            have b2 : (k : Int) % 4 < 4 := by omega
            cases htk : tb.getD k false
            · have hnt : ¬ TS dl ds Len i 0 0 k := fun h => by have := (HMK.out k hlt).2 h; rw [htk] at this; cases this
              have e1 := (HPT.out k hlt).2 hnt
              rw [htk] at q3
              rw [e1] at q1
              obtain ⟨z, ez⟩ : ∃ z, z = zd.getD k 0 := ⟨_, rfl⟩
              rw [← ez] at q1 q2
              clear ez htk hnt e1 q4
              go_wp2
              go_quiet (fail)
              go_wp2
              go_roundw
              case rel => exact ⟨k + 1, _, by omega, by go_num, rfl⟩
              case measure => simp [intOf]; omega
            · have e1 := (HPT.out k hlt).1 ((HMK.out k hlt).1 htk)
              rw [htk] at q3
              rw [e1] at q1
              obtain ⟨z, ez⟩ : ∃ z, z = [c0, c1, c2, c3].getD (k % 4) 0 := ⟨_, rfl⟩
              rw [← ez] at q1 q4
              clear ez htk e1 q2
              go_wp2
              go_quiet (fail)
              go_wp2
              go_roundw
              case rel => exact ⟨k + 1, _, by omega, by go_num, rfl⟩
              case measure => simp [intOf]; omega
          · have HF := hid HM7.out.below
            go_wp2
            go_ret
            exact ⟨rfl, by rw [HGC.out]; exact below_drewN HF.out _⟩

end Go.Proofs.Qxb6602704a.Wk
