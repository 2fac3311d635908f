import Derived.Test.Qxb6602961aEarly
namespace Go.Proofs.Qxb6602961a.Wk
open Go.ChangeShapes Go.WideShapes Go.ChangeAt Go.RowKit
set_option linter.unusedVariables false

theorem OwE.form {w : World} {base n : Nat} {v : Value} {es : List Ed} (h : OwE w base v n es) : ∃ ao c, v = .slice ao n c := by
  rcases h.2 with ⟨h1, h2⟩ | ⟨g, cap, cur, h2, _⟩
  · subst h2; exact ⟨none, 0, h1⟩
  · exact ⟨_, _, h2⟩

set_option maxHeartbeats 12800000 in
set_option maxRecDepth 100000 in
theorem law_good (eo aa ab : Option Addr) (n c na ca nb cb : Nat) (es : List Ed) (za zb : List Int) (w : World) (hs : n + na + nb ≤ 1048576) (hn : n ≤ 8192) (hna : na ≤ 32768) (hnb : nb ≤ 32768)
    (he : RdE w eo n es) (ha : Rd w aa na za) (hca : aa = none → ca = 0) (hb : Rd w ab nb zb) (hcb : ab = none → cb = 0) :
    Calls Try.prog 5 #[.slice eo n c, .slice aa na ca, .slice ab nb cb] w fun e w' => e = .returned (.bool true) ∧ Below w.heap.size w w' := by
  have H := hid (zz_yes eo aa ab n c na ca nb cb w hs)
  have HE := hid he
  have HA := hid ha
  have HB := hid hb
  have HCA := hid hca
  have HCB := hid hcb
  have y1 : (n : Int) ≤ (8192 : Int) := by omega
  have y2 : (na : Int) ≤ (32768 : Int) := by omega
  have y3 : (nb : Int) ≤ (32768 : Int) := by omega
  clear he ha hb hca hcb
  go_enter Try.func5, Try.ntmps5
  go_wp2_with fail
  refine (Hid.out H).mono ?_
  rintro e w' ⟨rfl, rfl⟩
  clear H
  go_wp2_with fail
  refine (toEdits_any eo n c es _ HE.out hn).mono ?_
  rintro e w1 ⟨rfl, ho1, hb1⟩
  have HO1 := hid ho1
  have HB1 := hid hb1
  clear ho1 hb1
  rename World => w1
  go_wp2_with fail
  refine (clone_any aa na ca za _ (HA.out.later HB1.out) HCA.out (by omega)).mono ?_
  rintro e w2 ⟨a2, c2, rfl, hr2, hb2⟩
  have HR2 := hid hr2
  have HB2 := hid hb2
  clear hr2 hb2
  go_wp2_with fail
  refine (clone_any ab nb cb zb _ ((HB.out.later HB1.out).later HB2.out) HCB.out (by omega)).mono ?_
  rintro e w3 ⟨a3, c3, rfl, hr3, hb3⟩
  have HR3 := hid hr3
  have HA3 := hid (HR2.out.later hb3)
  have HE3 := hid ((HO1.out.rd.later HB2.out).later hb3)
  have HW3 := hid (HB1.out.trans ((HB2.out.trans (hb3.mono HB2.out.size)).mono HB1.out.size))
  clear hr3 hb3 HR2 HO1 HB1 HB2 HE HA HB HCA HCB
  go_wp2_with fail
  refine (valid_any _ a2 a3 n n na c2 nb c3 es za zb _ hn hna hnb HE3.out HA3.out HR3.out).mono ?_
  rintro e w4 ⟨r, rfl, hr, hb4⟩
  cases r
  · have HX := hid (HW3.out.trans (hb4.mono HW3.out.size))
    clear hr hb4
    go_wp2
    go_ret
    exact ⟨rfl, HX.out⟩
  have HV := hid (hr.1 rfl)
  have HE4 := hid (HE3.out.later hb4)
  have HA4 := hid (HA3.out.later hb4)
  have HR4 := hid (HR3.out.later hb4)
  have HW4 := hid (HW3.out.trans (hb4.mono HW3.out.size))
  clear hr hb4 HE3 HA3 HR3 HW3
  go_wp2_with fail
  refine (zzslide_any _ a2 a3 n n na c2 nb c3 es za zb _ hn hna hnb HE4.out HA4.out HR4.out HV.out).mono ?_
  rintro e w5 ⟨v, S, rfl, ho5, hg, hb5⟩
  obtain ⟨so, sc, rfl⟩ := ho5.form
  have HG := hid hg
  have HS5 := hid ho5.rd
  have HE5 := hid (HE4.out.later hb5)
  have HA5 := hid (HA4.out.later hb5)
  have HR5 := hid (HR4.out.later hb5)
  have HW5 := hid (HW4.out.trans (hb5.mono HW4.out.size))
  have hSn : S.length ≤ n := by have h1 := hg.len; have h2 := HE4.out.1; omega
  clear ho5 hg hb5 HE4 HA4 HR4 HW4
  obtain ⟨m, em⟩ : ∃ m, m = S.length := ⟨_, rfl⟩
  have EM := hid em
  rw [← em] at HS5 hSn
  rw [← em]
  clear em
  go_wp2_with fail
  refine (valid_any so a2 a3 m sc na c2 nb c3 S za zb _ (by omega) hna hnb HS5.out HA5.out HR5.out).mono ?_
  rintro e w6 ⟨r, rfl, hr, hb6⟩
  cases r
  · exact absurd (hr.2 HG.out.v) (by simp)
  have HE6 := hid (HE5.out.later hb6)
  have HS6 := hid (HS5.out.later hb6)
  have HA6 := hid (HA5.out.later hb6)
  have HR6 := hid (HR5.out.later hb6)
  have HW6 := hid (HW5.out.trans (hb6.mono HW5.out.size))
  clear hr hb6 HE5 HS5 HA5 HR5 HW5
  have z1 : (m : Int) ≤ (n : Int) := by omega
  have LA := hid (show za.length = na from HA6.out.1)
  have LB := hid (show zb.length = nb from HR6.out.1)
  have LE := hid (show es.length = n from HE6.out.1)
  have EACH := hid (Valid.each S 0 0 (by omega) (by omega) HG.out.v)
  have EACH0 := hid (Valid.each es 0 0 (by omega) (by omega) HV.out)
  go_wp2_with fail
  refine (totals_any _ n n es _ hn HE6.out (fun k hk => by have h := EACH0.out k (by rw [LE.out]; exact hk); rw [LA.out, LB.out] at h; omega)).mono ?_
  rintro e w7 ⟨rfl, rfl⟩
  go_wp2_with fail
  refine (totals_any so m sc S _ (by omega) HS6.out (fun k hk => by have h := EACH.out k (by rw [← EM.out]; exact hk); rw [LA.out, LB.out] at h; omega)).mono ?_
  rintro e w8 ⟨rfl, rfl⟩
  rename World => w6
  have e1 : dels S m = dels es n := by rw [EM.out, dels_all, HG.out.del, ← dels_all, LE.out]
  have e2 : inss S m = inss es n := by rw [EM.out, inss_all, HG.out.ins, ← inss_all, LE.out]
  rw [e1, e2]
  clear e1 e2
  obtain ⟨T1, eT1⟩ : ∃ t, t = dels es n := ⟨_, rfl⟩
  obtain ⟨T2, eT2⟩ : ∃ t, t = inss es n := ⟨_, rfl⟩
  rw [← eT1, ← eT2]
  clear eT1 eT2 EACH0 HE6 HV LE
  go_wp2
  go_loopw [13] (fun kv wr => ∃ k : Nat, k ≤ m ∧ kv = .int .i64 k ∧ Hid (Below w6.heap.size w6 wr)) (fun i _ => m - (intOf i).toNat)
  case atStart => exact ⟨0, by omega, rfl, Below.refl _ _⟩
  case round =>
    obtain ⟨k, hk, rfl, HK⟩ := hrel
    rename World => wr
    by_cases hlt : k < m
    · obtain ⟨b, off, rfl, hlt2, hc⟩ := HS6.out.2.2 (by omega)
      have HC := hid hc
      have HL2 := hid hlt2
      clear hc hlt2
      obtain ⟨c0, c1, c2', c3'⟩ := HC.out k hlt
      have q0 := (HK.out.cell (p := ⟨b, off + k * 4, none⟩) HL2.out).trans c0
      have q1 := (HK.out.cell (p := ⟨b, off + k * 4 + 1, none⟩) HL2.out).trans c1
      have q2 := (HK.out.cell (p := ⟨b, off + k * 4 + 2, none⟩) HL2.out).trans c2'
      have q3 := (HK.out.cell (p := ⟨b, off + k * 4 + 3, none⟩) HL2.out).trans c3'
      clear c0 c1 c2' c3'
      obtain ⟨t1, t2, t3, t4, t5, t6⟩ := EACH.out k (by rw [← EM.out]; exact hlt)
      have HD := hid (Downs.at S k (by rw [← EM.out]; exact hlt) HG.out.dn)
      have HBh := hid (HG.out.behind k (by rw [← EM.out]; exact hlt))
      rw [LA.out] at t3
      rw [LB.out] at t6
      obtain ⟨x, ex⟩ : ∃ x, x = ed S k := ⟨_, rfl⟩
      rw [← ex] at q0 q1 q2 q3 t1 t2 t3 t4 t5 t6 HD HBh
      clear ex
      obtain ⟨o1, o2, o3, o4⟩ := x
      simp only at q0 q1 q2 q3 t1 t2 t3 t4 t5 t6
      obtain ⟨p, rfl⟩ : ∃ p : Nat, o1 = p := ⟨o1.toNat, by omega⟩
      obtain ⟨q, rfl⟩ : ∃ q : Nat, o3 = q := ⟨o3.toNat, by omega⟩
      have b1 : (k : Int) < (m : Int) := by omega
      have WA := hid (show ∀ o, Below w6.heap.size w6 (wr.alloc o) from fun o => HK.out.alloc HK.out.size o)
      by_cases hP3 : 0 < o2 ∧ 0 < o4
      · obtain ⟨z3, z4⟩ := hP3
        have z5 : decide (0 < o2) = true := decide_eq_true z3
        have z6 : decide (0 < o4) = true := decide_eq_true z4
        go_wp2
        go_roundw
        case rel => exact ⟨k + 1, by omega, by go_num, WA.out _⟩
        case measure => simp [intOf]; omega
      by_cases hP1 : o2 = 0
      · subst hP1
        obtain ⟨u, rfl⟩ : ∃ u : Nat, o4 = u := ⟨o4.toNat, by omega⟩
        have HDD : Hid ((∀ x ∈ (if k + 1 < S.length then some (ed S (k + 1)).o else none), (p : Int) + 0 < x) ∧ ((0 : Int) < 0 → (p : Int) + 0 < za.length → nth za p ≠ nth za ((p : Int) + 0)) ∧ ((0 : Int) = 0 → (0 : Int) < (u : Int) → (p : Int) + 0 < za.length → nth zb q ≠ nth zb ((q : Int) + (u : Int)))) := by
          rcases HD.out with h | h
          · exact absurd h (by simp only; omega)
          · exact h
        have HNX : Hid (k + 1 < S.length → (p : Int) + 0 < (ed S (k + 1)).o) := fun h => HDD.out.1 _ (by rw [if_pos h]; rfl)
        have HNJ : Hid (k + 1 < S.length → (ed S (k + 1)).o ≠ (p : Int) + 0) := fun h e => by have := HNX.out h; omega

        have HD2 : Hid (((0 : Int) < 0 → True) ∧ ((0 : Int) = 0 → (0 : Int) < (u : Int) → (p : Int) < za.length → nth zb q ≠ nth zb ((q : Int) + (u : Int)))) := ⟨fun _ => trivial, fun h1 h2 h3 => HDD.out.2.2 h1 h2 (by omega)⟩
        clear HDD hP3
        by_cases hkn : k + 1 < m
        · obtain ⟨c0, _, _, _⟩ := HC.out (k + 1) hkn
          have n0 := (HK.out.cell (p := ⟨b, off + (k + 1) * 4, none⟩) HL2.out).trans c0
          clear c0
          have hy := HNX.out (by rw [← EM.out]; exact hkn)
          have hy2 := (EACH.out (k + 1) (by rw [← EM.out]; exact hkn))
          obtain ⟨_, hy3, hy4, _, _, _⟩ := hy2
          rw [LA.out] at hy4
          obtain ⟨y, ey⟩ : ∃ y, y = (ed S (k + 1)).o := ⟨_, rfl⟩
          rw [← ey] at n0 hy hy4
          clear ey
          have n1 := fun o => Lib.cell?_alloc_some o n0
          have m0 : (k : Int) + 1 < (m : Int) := by omega
          have hT : ¬ y = (p : Int) := by omega
          have hT2 : (y == (p : Int)) = false := by simpa using hT
          by_cases hu0 : u = 0
          · subst hu0
            go_wp2
            go_quiet (fail)
            go_wp2
            go_quiet (fail)
            go_wp2
            go_roundw
            case rel => exact ⟨k + 1, by omega, by go_num, by first | exact WA.out _ | exact below_drewN (WA.out _) _ | exact below_drewN (below_drewN (WA.out _) _) _⟩
            case measure => simp [intOf]; omega
          have hu1 : (0 : Int) < (u : Int) := by omega
          have hu2 : 0 < u := by omega
          have hu3 : decide ((0 : Int) < (u : Int)) = true := decide_eq_true hu1
          have hu4 : decide (0 < u) = true := decide_eq_true hu2
          by_cases hE : p < na
          · have hE1 : (p : Int) < (na : Int) := by omega
            have hE2 : decide ((p : Int) < (na : Int)) = true := decide_eq_true hE1
            have hE3 : decide (p < na) = true := decide_eq_true hE
            have hq : q + u < nb := by
              have h := HBh.out (by simp only; rw [LA.out]; omega) HNJ.out
              simp only at h
              rw [LB.out] at h
              omega
            obtain ⟨ba, offa, rfl, ltA, hca⟩ := HR6.out.2.2 (by omega)
            have g1 := (HK.out.cell (p := ⟨ba, offa + q, none⟩) ltA).trans (hca q (by omega))
            have g2 := (HK.out.cell (p := ⟨ba, offa + (q + u), none⟩) ltA).trans (hca (q + u) (by omega))
            clear hca ltA
            have d2 : (q : Int) < (nb : Int) := by omega
            have d4 : q < nb := by omega
            have d3 : (q : Int) + (u : Int) < (nb : Int) := by omega
            have hss : ¬ zb.getD q 0 = zb.getD (q + u) 0 := by
              rw [← nth_nat, ← nth_one]
              exact HD2.out.2 rfl hu1 (by rw [LA.out]; omega)
            obtain ⟨s1, es1⟩ : ∃ y, y = zb.getD q 0 := ⟨_, rfl⟩
            obtain ⟨s2, es2⟩ : ∃ z, z = zb.getD (q + u) 0 := ⟨_, rfl⟩
            rw [← es1] at g1 hss
            rw [← es2] at g2 hss
            clear es1 es2
            have hss2 : (s1 == s2) = false := by simpa using hss
            have a0 := fun o => Lib.cell?_alloc_some o g1
            have a1 := fun o => Lib.cell?_alloc_some o g2
            go_wp2
            go_quiet (fail)
            go_wp2
            go_quiet (fail)
            go_wp2
            go_roundw
            case rel => exact ⟨k + 1, by omega, by go_num, by first | exact WA.out _ | exact below_drewN (WA.out _) _ | exact below_drewN (below_drewN (WA.out _) _) _⟩
            case measure => simp [intOf]; omega
          have hE1 : ¬ (p : Int) < (na : Int) := by omega
          have hE2 : decide ((p : Int) < (na : Int)) = false := decide_eq_false hE1
          have hE3 : decide (p < na) = false := decide_eq_false hE
          omega
        have m0 : ¬ (k : Int) + 1 < (m : Int) := by omega
        by_cases hu0 : u = 0
        · subst hu0
          go_wp2
          go_quiet (fail)
          go_wp2
          go_quiet (fail)
          go_wp2
          go_roundw
          case rel => exact ⟨k + 1, by omega, by go_num, by first | exact WA.out _ | exact below_drewN (WA.out _) _ | exact below_drewN (below_drewN (WA.out _) _) _⟩
          case measure => simp [intOf]; omega
        have hu1 : (0 : Int) < (u : Int) := by omega
        have hu2 : 0 < u := by omega
        have hu3 : decide ((0 : Int) < (u : Int)) = true := decide_eq_true hu1
        have hu4 : decide (0 < u) = true := decide_eq_true hu2
        by_cases hE : p < na
        · have hE1 : (p : Int) < (na : Int) := by omega
          have hE2 : decide ((p : Int) < (na : Int)) = true := decide_eq_true hE1
          have hE3 : decide (p < na) = true := decide_eq_true hE
          have hq : q + u < nb := by
            have h := HBh.out (by simp only; rw [LA.out]; omega) HNJ.out
            simp only at h
            rw [LB.out] at h
            omega
          obtain ⟨ba, offa, rfl, ltA, hca⟩ := HR6.out.2.2 (by omega)
          have g1 := (HK.out.cell (p := ⟨ba, offa + q, none⟩) ltA).trans (hca q (by omega))
          have g2 := (HK.out.cell (p := ⟨ba, offa + (q + u), none⟩) ltA).trans (hca (q + u) (by omega))
          clear hca ltA
          have d2 : (q : Int) < (nb : Int) := by omega
          have d4 : q < nb := by omega
          have d3 : (q : Int) + (u : Int) < (nb : Int) := by omega
          have hss : ¬ zb.getD q 0 = zb.getD (q + u) 0 := by
            rw [← nth_nat, ← nth_one]
            exact HD2.out.2 rfl hu1 (by rw [LA.out]; omega)
          obtain ⟨s1, es1⟩ : ∃ y, y = zb.getD q 0 := ⟨_, rfl⟩
          obtain ⟨s2, es2⟩ : ∃ z, z = zb.getD (q + u) 0 := ⟨_, rfl⟩
          rw [← es1] at g1 hss
          rw [← es2] at g2 hss
          clear es1 es2
          have hss2 : (s1 == s2) = false := by simpa using hss
          have a0 := fun o => Lib.cell?_alloc_some o g1
          have a1 := fun o => Lib.cell?_alloc_some o g2
          go_wp2
          go_quiet (fail)
          go_wp2
          go_quiet (fail)
          go_wp2
          go_roundw
          case rel => exact ⟨k + 1, by omega, by go_num, by first | exact WA.out _ | exact below_drewN (WA.out _) _ | exact below_drewN (below_drewN (WA.out _) _) _⟩
          case measure => simp [intOf]; omega
        have hE1 : ¬ (p : Int) < (na : Int) := by omega
        have hE2 : decide ((p : Int) < (na : Int)) = false := decide_eq_false hE1
        have hE3 : decide (p < na) = false := decide_eq_false hE
        go_wp2
        go_quiet (fail)
        go_wp2
        go_quiet (fail)
        go_wp2
        go_roundw
        case rel => exact ⟨k + 1, by omega, by go_num, by first | exact WA.out _ | exact below_drewN (WA.out _) _ | exact below_drewN (below_drewN (WA.out _) _) _⟩
        case measure => simp [intOf]; omega
      obtain rfl : o4 = 0 := by omega
      obtain ⟨d, rfl⟩ : ∃ d : Nat, o2 = d := ⟨o2.toNat, by omega⟩
      have HDD : Hid ((∀ x ∈ (if k + 1 < S.length then some (ed S (k + 1)).o else none), (p : Int) + (d : Int) < x) ∧ ((0 : Int) < (d : Int) → (p : Int) + (d : Int) < za.length → nth za p ≠ nth za ((p : Int) + (d : Int))) ∧ (((d : Int) : Int) = 0 → (0 : Int) < 0 → (p : Int) + (d : Int) < za.length → nth zb q ≠ nth zb ((q : Int) + 0))) := by
        rcases HD.out with h | h
        · exact absurd h (by simp only; omega)
        · exact h
      have HNX : Hid (k + 1 < S.length → (p : Int) + (d : Int) < (ed S (k + 1)).o) := fun h => HDD.out.1 _ (by rw [if_pos h]; rfl)
      have HNJ : Hid (k + 1 < S.length → (ed S (k + 1)).o ≠ (p : Int) + (d : Int)) := fun h e => by have := HNX.out h; omega
      have HD2 : Hid (((0 : Int) < (d : Int) → (p : Int) + (d : Int) < za.length → nth za p ≠ nth za ((p : Int) + (d : Int))) ∧ True) := ⟨HDD.out.2.1, trivial⟩
      have hd0 : ¬ d = 0 := by omega
      have hd1 : (0 : Int) < (d : Int) := by omega
      have hd2 : 0 < d := by omega
      have hd3 : decide ((0 : Int) < (d : Int)) = true := decide_eq_true hd1
      have hd4 : decide (0 < d) = true := decide_eq_true hd2
      have hd5 : ((d : Int) == 0) = false := by simpa using hd0
      clear HDD hP1 hP3
      by_cases hkn : k + 1 < m
      · obtain ⟨c0, _, _, _⟩ := HC.out (k + 1) hkn
        have n0 := (HK.out.cell (p := ⟨b, off + (k + 1) * 4, none⟩) HL2.out).trans c0
        clear c0
        have hy := HNX.out (by rw [← EM.out]; exact hkn)
        have hy2 := (EACH.out (k + 1) (by rw [← EM.out]; exact hkn))
        obtain ⟨_, hy3, hy4, _, _, _⟩ := hy2
        rw [LA.out] at hy4
        obtain ⟨y, ey⟩ : ∃ y, y = (ed S (k + 1)).o := ⟨_, rfl⟩
        rw [← ey] at n0 hy hy4
        clear ey
        have n1 := fun o => Lib.cell?_alloc_some o n0
        have m0 : (k : Int) + 1 < (m : Int) := by omega
        have hT : ¬ y = (p : Int) + (d : Int) := by omega
        have hT2 : (y == (p : Int) + (d : Int)) = false := by simpa using hT
        by_cases hE : p + d < na
        · have hE1 : (p : Int) + (d : Int) < (na : Int) := by omega
          have hE2 : decide ((p : Int) + (d : Int) < (na : Int)) = true := decide_eq_true hE1
          obtain ⟨ba, offa, rfl, ltA, hca⟩ := HA6.out.2.2 (by omega)
          have g1 := (HK.out.cell (p := ⟨ba, offa + p, none⟩) ltA).trans (hca p (by omega))
          have g2 := (HK.out.cell (p := ⟨ba, offa + (p + d), none⟩) ltA).trans (hca (p + d) (by omega))
          clear hca ltA
          have d2 : (p : Int) < (na : Int) := by omega
          have d4 : p < na := by omega
          have d3 : (p : Int) + (d : Int) < (na : Int) := by omega
          have hss : ¬ za.getD p 0 = za.getD (p + d) 0 := by
            rw [← nth_nat, ← nth_one]
            exact HD2.out.1 hd1 (by rw [LA.out]; omega)
          obtain ⟨s1, es1⟩ : ∃ y, y = za.getD p 0 := ⟨_, rfl⟩
          obtain ⟨s2, es2⟩ : ∃ z, z = za.getD (p + d) 0 := ⟨_, rfl⟩
          rw [← es1] at g1 hss
          rw [← es2] at g2 hss
          clear es1 es2
          have hss2 : (s1 == s2) = false := by simpa using hss
          have a0 := fun o => Lib.cell?_alloc_some o g1
          have a1 := fun o => Lib.cell?_alloc_some o g2
          go_wp2
          go_quiet (fail)
          go_wp2
          go_quiet (fail)
          go_wp2
          go_roundw
          case rel => exact ⟨k + 1, by omega, by go_num, by first | exact WA.out _ | exact below_drewN (WA.out _) _ | exact below_drewN (below_drewN (WA.out _) _) _⟩
          case measure => simp [intOf]; omega
        have hE1 : ¬ (p : Int) + (d : Int) < (na : Int) := by omega
        have hE2 : decide ((p : Int) + (d : Int) < (na : Int)) = false := decide_eq_false hE1
        omega
      have m0 : ¬ (k : Int) + 1 < (m : Int) := by omega
      by_cases hE : p + d < na
      · have hE1 : (p : Int) + (d : Int) < (na : Int) := by omega
        have hE2 : decide ((p : Int) + (d : Int) < (na : Int)) = true := decide_eq_true hE1
        obtain ⟨ba, offa, rfl, ltA, hca⟩ := HA6.out.2.2 (by omega)
        have g1 := (HK.out.cell (p := ⟨ba, offa + p, none⟩) ltA).trans (hca p (by omega))
        have g2 := (HK.out.cell (p := ⟨ba, offa + (p + d), none⟩) ltA).trans (hca (p + d) (by omega))
        clear hca ltA
        have d2 : (p : Int) < (na : Int) := by omega
        have d4 : p < na := by omega
        have d3 : (p : Int) + (d : Int) < (na : Int) := by omega
        have hss : ¬ za.getD p 0 = za.getD (p + d) 0 := by
          rw [← nth_nat, ← nth_one]
          exact HD2.out.1 hd1 (by rw [LA.out]; omega)
        obtain ⟨s1, es1⟩ : ∃ y, y = za.getD p 0 := ⟨_, rfl⟩
        obtain ⟨s2, es2⟩ : ∃ z, z = za.getD (p + d) 0 := ⟨_, rfl⟩
        rw [← es1] at g1 hss
        rw [← es2] at g2 hss
        clear es1 es2
        have hss2 : (s1 == s2) = false := by simpa using hss
        have a0 := fun o => Lib.cell?_alloc_some o g1
        have a1 := fun o => Lib.cell?_alloc_some o g2
        go_wp2
        go_quiet (fail)
        go_wp2
        go_quiet (fail)
        go_wp2
        go_roundw
        case rel => exact ⟨k + 1, by omega, by go_num, by first | exact WA.out _ | exact below_drewN (WA.out _) _ | exact below_drewN (below_drewN (WA.out _) _) _⟩
        case measure => simp [intOf]; omega
      have hE1 : ¬ (p : Int) + (d : Int) < (na : Int) := by omega
      have hE2 : decide ((p : Int) + (d : Int) < (na : Int)) = false := decide_eq_false hE1
      go_wp2
      go_quiet (fail)
      go_wp2
      go_quiet (fail)
      go_wp2
      go_roundw
      case rel => exact ⟨k + 1, by omega, by go_num, by first | exact WA.out _ | exact below_drewN (WA.out _) _ | exact below_drewN (below_drewN (WA.out _) _) _⟩
      case measure => simp [intOf]; omega
    · obtain rfl : k = m := by omega
      have HX := hid (HW6.out.trans (HK.out.mono HW6.out.size))
      go_wp2
      go_ret
      exact ⟨rfl, HX.out⟩

end Go.Proofs.Qxb6602961a.Wk
