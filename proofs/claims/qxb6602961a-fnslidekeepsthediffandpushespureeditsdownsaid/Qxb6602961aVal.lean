import Derived.Test.Qxb6602961aPlain
namespace Go.Proofs.Qxb6602961a.Wk
open Go.ChangeShapes Go.WideShapes Go.ChangeAt Go.RowKit
set_option linter.unusedVariables false

theorem dn2 (w : World) (m k : Nat) : (w.drewN m).drewN k = w.drewN (m + k) := by simp [World.drewN, Nat.add_assoc]
theorem below_drewN {B : Nat} {w w' : World} (h : Below B w w') (n : Nat) : Below B w (w'.drewN n) := ⟨h.os, h.tape, h.output, h.size, h.block⟩

theorem nth_nat (a : List Int) (p t : Nat) : nth a ((p : Int) + (t : Int)) = a.getD (p + t) 0 := by
  unfold nth
  rw [show ((p : Int) + (t : Int)).toNat = p + t by omega]

theorem no_of {V : Prop} {a b : List Int} {e : Ed} {R : List Ed} {pa pb : Int} (H : V ↔ Valid a b (e :: R) pa pb) (h : ¬ Fit a b e pa pb) : (false = true) ↔ V :=
  ⟨(fun e => by cases e), fun v => absurd (H.1 v).1 h⟩

theorem no_agr {V : Prop} {a b : List Int} {e : Ed} {R : List Ed} {pa pb : Nat} (H : V ↔ Valid a b (e :: R) pa pb) (t : Nat) (ht : (t : Int) < e.o - pa) (h : ¬ a.getD (pa + t) 0 = b.getD (pb + t) 0) : (false = true) ↔ V :=
  no_of H fun f => h (by rw [← nth_nat, ← nth_nat]; exact f.2.2.2 t (by omega) ht)

theorem yes_of {V : Prop} {a b : List Int} {es : List Ed} {k pa pb : Nat} {xo xd xn xi : Int} (H : V ↔ Valid a b (⟨xo, xd, xn, xi⟩ :: es.drop (k + 1)) pa pb)
    (h1 : (pa : Int) ≤ xo) (h2 : xo ≤ a.length) (h3 : (pb : Int) ≤ xn) (h4 : xn ≤ b.length) (h5 : 0 ≤ xd) (h6 : 0 ≤ xi) (h7 : xd ≤ a.length - xo) (h8 : xi ≤ b.length - xn) (h9 : xo - pa = xn - pb)
    (ha : ∀ t : Nat, (t : Int) < xo - pa → a.getD (pa + t) 0 = b.getD (pb + t) 0) : V ↔ Valid a b (es.drop (k + 1)) (xo + xd) (xn + xi) :=
  H.trans ⟨fun h => h.2, fun h => ⟨⟨⟨h1, h2, h3, h4⟩, ⟨h5, h6, h7, h8⟩, h9, fun t t1 t2 => by
    obtain ⟨t, rfl⟩ : ∃ u : Nat, t = (u : Int) := ⟨t.toNat, by omega⟩
    rw [nth_nat, nth_nat]
    exact ha t t2⟩, h⟩⟩

theorem end_no {V : Prop} {a b : List Int} {pa pb : Nat} (H : V ↔ Valid a b [] pa pb) (h : ¬ ((a.length : Int) - pa = b.length - pb)) : (false = true) ↔ V :=
  ⟨(fun e => by cases e), fun v => absurd (H.1 v).1 h⟩
theorem end_agr {V : Prop} {a b : List Int} {pa pb : Nat} (H : V ↔ Valid a b [] pa pb) (t : Nat) (ht : (t : Int) < a.length - pa) (h : ¬ a.getD (pa + t) 0 = b.getD (pb + t) 0) : (false = true) ↔ V :=
  ⟨(fun e => by cases e), fun v => absurd (by rw [← nth_nat, ← nth_nat]; exact (H.1 v).2 t (by omega) ht) h⟩
theorem end_yes {V : Prop} {a b : List Int} {pa pb : Nat} (H : V ↔ Valid a b [] pa pb) (h : (a.length : Int) - pa = b.length - pb) (ha : ∀ t : Nat, (t : Int) < a.length - pa → a.getD (pa + t) 0 = b.getD (pb + t) 0) : (true = true) ↔ V :=
  ⟨fun _ => H.2 ⟨h, fun t t1 t2 => by
    obtain ⟨t, rfl⟩ : ∃ u : Nat, t = (u : Int) := ⟨t.toNat, by omega⟩
    rw [nth_nat, nth_nat]
    exact ha t t2⟩, fun _ => rfl⟩

theorem fits_no {a b : List Int} {xo xd xn xi : Int} {pa pb : Nat} (h : xo < pa ∨ (a.length : Int) < xo ∨ xn < pb ∨ (b.length : Int) < xn ∨ xd < 0 ∨ xi < 0 ∨ (a.length : Int) - xo < xd ∨ (b.length : Int) - xn < xi ∨ ¬ (xo - pa = xn - pb)) : ¬ Fit a b ⟨xo, xd, xn, xi⟩ pa pb := by
  rintro ⟨⟨f1, f2, f3, f4⟩, ⟨f5, f6, f7, f8⟩, f9, _⟩
  simp only at f1 f2 f3 f4 f5 f6 f7 f8 f9
  omega

/-- What the call leaves: a Bool that says V; nothing below turned. -/
def ValPost (V : Prop) (w : World) (e : Ending) (w' : World) : Prop := ∃ r, e = .returned (.bool r) ∧ (r = true ↔ V) ∧ Below w.heap.size w w'

set_option maxHeartbeats 6400000 in
set_option maxRecDepth 100000 in
theorem valid_any (eo aa ab : Option Addr) (n c na ca nb cb : Nat) (es : List Ed) (za zb : List Int) (w : World) (hn : n ≤ 8192) (hna : na ≤ 32768) (hnb : nb ≤ 32768)
    (he : RdE w eo n es) (ha : Rd w aa na za) (hb : Rd w ab nb zb) :
    Calls Try.prog 15 #[.slice eo n c, .slice aa na ca, .slice ab nb cb] w (ValPost (Valid za zb es 0 0) w) := by
  obtain ⟨V, eV⟩ : ∃ V, V = Valid za zb es 0 0 := ⟨_, rfl⟩
  rw [← eV]
  have HE := hid he
  have HA := hid ha
  have HBb := hid hb
  have EV := hid eV
  clear he ha hb eV
  have la : za.length = na := HA.out.1
  have lb : zb.length = nb := HBb.out.1
  have LA := hid la
  have LB := hid lb
  clear la lb
  go_enter Try.func15, Try.ntmps15
  go_wp2
  go_loopw [7, 8, 9] (fun av bv kv wr => ∃ k pa pb : Nat, k ≤ n ∧ pa ≤ na ∧ pb ≤ nb ∧ kv = .int .i64 k ∧ av = .int .i64 pa ∧ bv = .int .i64 pb ∧ Hid (Below w.heap.size w wr) ∧ Hid (V ↔ Valid za zb (es.drop k) pa pb)) (fun _ _ i _ => n - (intOf i).toNat)
  case atStart => exact ⟨0, 0, 0, by omega, by omega, by omega, rfl, rfl, rfl, Below.refl _ _, by show _ ↔ _; rw [EV.out]; rfl⟩
  case round =>
    obtain ⟨k, pa, pb, hk, hpa, hpb, rfl, rfl, rfl, HB, HV⟩ := hrel
    by_cases hlt : k < n
    · obtain ⟨b, off, rfl, hlt2, hc⟩ := HE.out.2.2 (by omega)
      obtain ⟨c0, c1, c2, c3⟩ := hc k hlt
      have q0 := (HB.out.cell (p := ⟨b, off + k * 4, none⟩) hlt2).trans c0
      have q1 := (HB.out.cell (p := ⟨b, off + k * 4 + 1, none⟩) hlt2).trans c1
      have q2 := (HB.out.cell (p := ⟨b, off + k * 4 + 2, none⟩) hlt2).trans c2
      have q3 := (HB.out.cell (p := ⟨b, off + k * 4 + 3, none⟩) hlt2).trans c3
      clear hc c0 c1 c2 c3 hlt2
      have HV2 := HV.out
      rw [drop_cons es k (by have := HE.out.1; omega)] at HV2
      obtain ⟨x, ex⟩ : ∃ x, x = ed es k := ⟨_, rfl⟩
      rw [← ex] at q0 q1 q2 q3 HV2
      clear ex
      obtain ⟨xo, xd, xn, xi⟩ := x
      simp only at q0 q1 q2 q3
      have HV3 := hid HV2
      clear HV2 HV
      have b1 : (k : Int) < (n : Int) := by omega
      by_cases x1 : xo < pa
      · go_wp2
        go_ret
        exact ⟨_, rfl, no_of HV3.out (fits_no (by rw [LA.out, LB.out]; omega)), HB.out.alloc (HB.out.size) _⟩
      have x1 := Int.not_lt.1 x1
      by_cases x2 : (na : Int) < xo
      · go_wp2
        go_ret
        exact ⟨_, rfl, no_of HV3.out (fits_no (by rw [LA.out, LB.out]; omega)), HB.out.alloc (HB.out.size) _⟩
      have x2 := Int.not_lt.1 x2
      by_cases x3 : xn < pb
      · go_wp2
        go_ret
        exact ⟨_, rfl, no_of HV3.out (fits_no (by rw [LA.out, LB.out]; omega)), HB.out.alloc (HB.out.size) _⟩
      have x3 := Int.not_lt.1 x3
      by_cases x4 : (nb : Int) < xn
      · go_wp2
        go_ret
        exact ⟨_, rfl, no_of HV3.out (fits_no (by rw [LA.out, LB.out]; omega)), HB.out.alloc (HB.out.size) _⟩
      have x4 := Int.not_lt.1 x4
      by_cases x5 : xd < 0
      · go_wp2
        go_ret
        exact ⟨_, rfl, no_of HV3.out (fits_no (by rw [LA.out, LB.out]; omega)), HB.out.alloc (HB.out.size) _⟩
      have x5 := Int.not_lt.1 x5
      by_cases x6 : xi < 0
      · go_wp2
        go_ret
        exact ⟨_, rfl, no_of HV3.out (fits_no (by rw [LA.out, LB.out]; omega)), HB.out.alloc (HB.out.size) _⟩
      have x6 := Int.not_lt.1 x6
      by_cases x7 : (na : Int) - xo < xd
      · go_wp2
        go_ret
        exact ⟨_, rfl, no_of HV3.out (fits_no (by rw [LA.out, LB.out]; omega)), HB.out.alloc (HB.out.size) _⟩
      have x7 := Int.not_lt.1 x7
      by_cases x8 : (nb : Int) - xn < xi
      · go_wp2
        go_ret
        exact ⟨_, rfl, no_of HV3.out (fits_no (by rw [LA.out, LB.out]; omega)), HB.out.alloc (HB.out.size) _⟩
      have x8 := Int.not_lt.1 x8
      by_cases x9 : ¬ (xo - pa = xn - pb)
      · go_wp2
        go_ret
        exact ⟨_, rfl, no_of HV3.out (fits_no (by rw [LA.out, LB.out]; omega)), HB.out.alloc (HB.out.size) _⟩
      have x9 := Decidable.not_not.1 x9
      obtain ⟨m, hm⟩ : ∃ m : Nat, (m : Int) = xo - pa := ⟨(xo - pa).toNat, by omega⟩
      obtain rfl : xo = (pa : Int) + m := by omega
      obtain rfl : xn = (pb : Int) + m := by omega
      clear hm x9 x1 x3
      go_wp2
      go_loopw [11] (fun tv w2 => ∃ t q : Nat, t ≤ m ∧ tv = .int .i64 t ∧ w2 = (wr.alloc (.cells #[.int .i64 (pa + m), .int .i64 xd, .int .i64 (pb + m), .int .i64 xi] 39)).drewN q ∧ Hid (∀ j, j < t → za.getD (pa + j) 0 = zb.getD (pb + j) 0)) (fun i _ => m - (intOf i).toNat)
      case atStart => exact ⟨0, 0, by omega, rfl, rfl, fun _ h => by omega⟩
      case round =>
        obtain ⟨t, q, ht, rfl, rfl, HT⟩ := hrel
        have HBA : Hid (∀ o r, Below w.heap.size w ((wr.alloc o).drewN r)) := fun o r => below_drewN (HB.out.alloc HB.out.size o) r
        by_cases htl : t < m
        · obtain ⟨ba, offa, rfl, ltA, hca⟩ := HA.out.2.2 (by omega)
          obtain ⟨bb, offb, rfl, ltB, hcb⟩ := HBb.out.2.2 (by omega)
          have qa := (HB.out.cell (p := ⟨ba, offa + (pa + t), none⟩) ltA).trans (hca (pa + t) (by omega))
          have qb := (HB.out.cell (p := ⟨bb, offb + (pb + t), none⟩) ltB).trans (hcb (pb + t) (by omega))
          clear hca hcb ltA ltB
          obtain ⟨y, ey⟩ : ∃ y, y = za.getD (pa + t) 0 := ⟨_, rfl⟩
          obtain ⟨z, ez⟩ : ∃ z, z = zb.getD (pb + t) 0 := ⟨_, rfl⟩
          rw [← ey] at qa
          rw [← ez] at qb
          have EY := hid ey
          have EZ := hid ez
          clear ey ez
          have a0 := fun o => Lib.cell?_alloc_some o qa
          have a1 := fun o => Lib.cell?_alloc_some o qb
          have d1 : (t : Int) < (m : Int) := by omega
          have d2 : (pa : Int) + (t : Int) < (na : Int) := by omega
          have d3 : (pb : Int) + (t : Int) < (nb : Int) := by omega
          by_cases hzy : y = z
          · subst hzy
            go_wp2
            go_quiet (fail)
            go_wp2
            go_roundw
            case rel =>
              refine ⟨t + 1, _, by omega, by go_num, rfl, ?_⟩
              intro j hj
              by_cases hjt : j = t
              · subst hjt; rw [← EY.out, ← EZ.out]
              · exact HT.out j (by omega)
            case measure => simp [intOf]; omega
          · have hne : (y == z) = false := by simpa using hzy
            go_wp2
            go_quiet (fail)
            go_wp2
            go_ret
            exact ⟨false, rfl, no_agr HV3.out t (by simp only; omega) (by rw [← EY.out, ← EZ.out]; exact hzy), below_drewN (HBA.out _ _) _⟩
        · obtain rfl : t = m := by omega
          go_wp2
          go_roundw
          case rel => exact ⟨k + 1, (pa + t + xd).toNat, (pb + t + xi).toNat, by omega, by omega, by omega, by go_num, by go_num, by go_num, HBA.out _ _, by
            show _ ↔ _
            rw [Int.toNat_of_nonneg (by omega), Int.toNat_of_nonneg (by omega)]
            exact yes_of HV3.out (by omega) (by rw [LA.out]; omega) (by omega) (by rw [LB.out]; omega) x5 x6 (by rw [LA.out]; omega) (by rw [LB.out]; omega) (by omega) (fun j hj => HT.out j (by omega))⟩
          case measure => simp [intOf]; omega
    · have e0 : es.drop k = [] := List.drop_eq_nil_of_le (by have := HE.out.1; omega)
      have HV2 := HV.out
      rw [e0] at HV2
      have HV3 := hid HV2
      clear HV2 HV e0
      have b1 : ¬ (k : Int) < (n : Int) := by omega
      by_cases x1 : ¬ ((na : Int) - pa = nb - pb)
      · go_wp2
        go_ret
        exact ⟨false, rfl, end_no HV3.out (by rw [LA.out, LB.out]; exact x1), HB.out⟩
      have x1 := Decidable.not_not.1 x1
      obtain ⟨m, rfl⟩ : ∃ m : Nat, na = pa + m := ⟨na - pa, by omega⟩
      obtain rfl : nb = pb + m := by omega
      clear x1
      go_wp2
      go_loopw [12] (fun tv w2 => ∃ t q : Nat, t ≤ m ∧ tv = .int .i64 t ∧ w2 = wr.drewN q ∧ Hid (∀ j, j < t → za.getD (pa + j) 0 = zb.getD (pb + j) 0)) (fun i _ => m - (intOf i).toNat)
      case atStart => exact ⟨0, 0, by omega, rfl, rfl, fun _ h => by omega⟩
      case round =>
        obtain ⟨t, q, ht, rfl, rfl, HT⟩ := hrel
        by_cases htl : t < m
        · obtain ⟨ba, offa, rfl, ltA, hca⟩ := HA.out.2.2 (by omega)
          obtain ⟨bb, offb, rfl, ltB, hcb⟩ := HBb.out.2.2 (by omega)
          have qa := (HB.out.cell (p := ⟨ba, offa + (pa + t), none⟩) ltA).trans (hca (pa + t) (by omega))
          have qb := (HB.out.cell (p := ⟨bb, offb + (pb + t), none⟩) ltB).trans (hcb (pb + t) (by omega))
          clear hca hcb ltA ltB
          obtain ⟨y, ey⟩ : ∃ y, y = za.getD (pa + t) 0 := ⟨_, rfl⟩
          obtain ⟨z, ez⟩ : ∃ z, z = zb.getD (pb + t) 0 := ⟨_, rfl⟩
          rw [← ey] at qa
          rw [← ez] at qb
          have EY := hid ey
          have EZ := hid ez
          clear ey ez
          have d1 : (t : Int) < (m : Int) := by omega
          have d2 : (pa : Int) + (t : Int) < ((pa + m : Nat) : Int) := by omega
          have d3 : (pb : Int) + (t : Int) < ((pb + m : Nat) : Int) := by omega
          by_cases hzy : y = z
          · subst hzy
            go_wp2
            go_quiet (fail)
            go_wp2
            go_roundw
            case rel =>
              refine ⟨t + 1, _, by omega, by go_num, rfl, ?_⟩
              intro j hj
              by_cases hjt : j = t
              · subst hjt; rw [← EY.out, ← EZ.out]
              · exact HT.out j (by omega)
            case measure => simp [intOf]; omega
          · have hne : (y == z) = false := by simpa using hzy
            go_wp2
            go_quiet (fail)
            go_wp2
            go_ret
            exact ⟨false, rfl, end_agr HV3.out t (by rw [LA.out]; omega) (by rw [← EY.out, ← EZ.out]; exact hzy), below_drewN (below_drewN HB.out _) _⟩
        · obtain rfl : t = m := by omega
          go_wp2
          go_ret
          exact ⟨true, rfl, end_yes HV3.out (by rw [LA.out, LB.out]; omega) (fun j hj => HT.out j (by rw [LA.out] at hj; omega)), below_drewN HB.out _⟩

end Go.Proofs.Qxb6602961a.Wk
