import Derived.Test.Qxb6602704aTch
namespace Go.Proofs.Qxb6602704a.Wk
open Go.ChangeShapes Go.WideShapes Go.ChangeAt Go.RowKit
set_option linter.unusedVariables false
set_option maxRecDepth 100000

/-- A clone: nil, or a row of the call's own. -/
def Cl (w : World) (ao : Option Addr) (n : Nat) (zs : List Int) : Prop := (ao = none ∧ n = 0 ∧ zs = []) ∨ ∃ g, ao = some ⟨g, 0, none⟩ ∧ Ow w g n zs

theorem Cl.later {w w' : World} {ao : Option Addr} {n : Nat} {zs : List Int} (h : Cl w ao n zs) (hb : Below w.heap.size w w') : Cl w' ao n zs := by
  rcases h with h | ⟨g, e, h⟩
  · exact .inl h
  · exact .inr ⟨g, e, h.later hb h.lt⟩

theorem Cl.rd {w : World} {ao : Option Addr} {n : Nat} {zs : List Int} (h : Cl w ao n zs) : Rd w ao n zs := by
  rcases h with ⟨rfl, rfl, rfl⟩ | ⟨g, rfl, h⟩
  · exact ⟨rfl, fun _ => rfl, fun h => by omega⟩
  · exact ⟨h.len, (fun e => by cases e), fun _ => ⟨g, 0, rfl, h.lt, fun j hj => by rw [Nat.zero_add]; exact h.cell j hj⟩⟩

theorem Cl.cell {w : World} {ao : Option Addr} {n : Nat} {zs : List Int} (h : Cl w ao n zs) (k : Nat) (hk : k < n) : ∃ g, ao = some ⟨g, 0, none⟩ ∧ w.cell? ⟨g, k, none⟩ = some (.int .u8 (zs.getD k 0)) := by
  rcases h with ⟨rfl, rfl, rfl⟩ | ⟨g, rfl, h⟩
  · omega
  · exact ⟨g, rfl, h.cell k hk⟩

theorem clone_opt (a : Option Addr) (n cap : Nat) (zs : List Int) (w : World) (hz : Rd w a n zs) (hcap : a = none → cap = 0) (hn : n ≤ 1048576) :
    Calls Try.prog 12 #[.slice a n cap] w fun e w' => ∃ ao, e = .returned (.slice ao n n) ∧ Cl w' ao n zs ∧ Below w.heap.size w w' := by
  cases a with
  | none =>
    obtain rfl := hz.2.1 rfl
    obtain rfl := hcap rfl
    refine (clone_nil w).mono ?_
    rintro e w' ⟨rfl, rfl⟩
    exact ⟨none, rfl, .inl ⟨rfl, rfl, List.eq_nil_of_length_eq_zero hz.1⟩, Below.refl _ _⟩
  | some a =>
    refine (clone_some a n cap zs w hz hn).mono ?_
    rintro e w' ⟨rfl, h, hb⟩
    exact ⟨_, rfl, .inr ⟨_, rfl, h⟩, hb⟩

set_option maxHeartbeats 6400000 in
theorem main_none (ad sa : Option Addr) (nd cd ns cs : Nat) (dlI dsI slI ssI n len c0 c1 c2 c3 : Int) (R : Nat) (zd zs : List Int) (w : World) (hs : nd + ns ≤ 1048576) (n2 : n ≤ 0) (l2 : len ≤ 65536) (r2 : R ≤ 65536)
    (hd : Rd w ad nd zd) (hcd : ad = none → cd = 0) (hsr : Rd w sa ns zs) (hcs : sa = none → cs = 0) :
    Calls Try.prog 4 #[.slice ad nd cd, .int .i64 dlI, .int .i64 dsI, .slice sa ns cs, .int .i64 slI, .int .i64 ssI, .int .i64 n, .int .i64 len, .int .i64 R, .agg #[.int .u8 c0, .int .u8 c1, .int .u8 c2, .int .u8 c3]] w fun e w' =>
      e = .returned (.bool true) ∧ Below w.heap.size w w' := by
  have H := hid fun w1 => zz_yes ad sa nd cd ns cs dlI dsI slI ssI n len R c0 c1 c2 c3 w1 hs
  have y3 : (nd : Int) + (ns : Int) ≤ (1048576 : Int) := by omega
  obtain ⟨i0, hi, hz0, hz1, hz2⟩ := info_parts info4
  have HD := hid hd
  have HSR := hid hsr
  have HCD := hid hcd
  have HCS := hid hcs
  clear hd hsr hcd hcs
  go_enter Try.func4, Try.ntmps4
  go_wp2_with fail
  refine (Hid.out H _).mono ?_
  rintro e w1 ⟨rfl, hb⟩
  obtain ⟨h1, h2, h3⟩ := after_zz hb
  clear hb h3 H
  go_wp2_with fail
  refine (clone_opt ad nd cd zd w1 (HD.out.later h1) HCD.out (by omega)).mono ?_
  rintro e w2 ⟨ao, rfl, hc2, hb2⟩
  have HA := hid hc2
  have h1' : Below w.heap.size w w2 := h1.trans (hb2.mono (by omega))
  clear hc2 hb2 h1
  go_wp2_with fail
  refine (clone_opt sa ns cs zs w2 (HSR.out.later h1') HCS.out (by omega)).mono ?_
  rintro e w3 ⟨so, rfl, hc3, hb3⟩
  have HA3 := hid (HA.out.later hb3)
  have h1'' : Below w.heap.size w w3 := h1'.trans (hb3.mono h1'.size)
  clear hc3 hb3 h1' HA
  go_wp2_with fail
  refine (clone_opt ao nd nd zd w3 HA3.out.rd (fun e => by have := HA3.out.rd.2.1 e; omega) (by omega)).mono ?_
  rintro e w4 ⟨bo, rfl, hc4, hb4⟩
  have HA4 := hid (HA3.out.later hb4)
  have HB4 := hid hc4
  have H4 := hid (h1''.trans (hb4.mono h1''.size))
  clear hc4 hb4 h1'' HA3
  go_wp2_with (at_make; refine wpList_make_full _ rfl _ _ 32 rfl w4.heap.size 4 i0 (.bool false) 1 Try.underlying32 hi hz0 hz1 .i64 .i64 _ _ nd rfl rfl rfl rfl (by rw [hz2]; omega) (by unfold maxLen; omega) (Nat.le_refl _) ?_; intro w5 hown hgrow; have HO := hid hown; have HB5 := hid ((Below.refl w4.heap.size w4).grown hgrow (Nat.le_refl _) (by intro k hk; cases hk)); clear hown hgrow)
  have HO5 : Hid (Ob w5 w4.heap.size nd (List.replicate nd false)) := by
    have h := HO.out
    rw [show (Value.bool false).cells = #[Value.bool false] from rfl, toList_madeCells_one, Nat.mul_one] at h
    show World.ownsRow _ _ _ _ _ _ _
    rw [List.map_replicate]
    exact h
  clear HO
  go_loopw [23] (fun iv wr => iv = .int .i64 0 ∧ wr = w5) (fun _ _ => 0)
  case atStart => exact ⟨rfl, rfl⟩
  case round =>
    obtain ⟨rfl, rfl⟩ := hrel
    go_wp2_with fail
    refine (zzbox_none _ _ _ _ _ _ _ _ _ _ _ _ R _ n2 r2).mono ?_
    rintro e w6 ⟨rfl, hb6⟩
    have HA6 := hid ((HA4.out.later HB5.out).later hb6)
    have HB6 := hid ((HB4.out.later HB5.out).later hb6)
    have HO6 := hid (HO5.out.later hb6 HO5.out.lt)
    have H6 := hid ((H4.out.trans (HB5.out.mono H4.out.size)).trans (hb6.mono (Nat.le_trans H4.out.size HB5.out.size)))
    clear hb6 HA4 HB4 HO5 H4 HB5
    go_wp2
    go_loopw [27] (fun kv wr => ∃ k m : Nat, k ≤ nd ∧ kv = .int .i64 k ∧ wr = w6.drewN m) (fun k _ => nd - (intOf k).toNat)
    case atStart => exact ⟨0, 0, by omega, rfl, rfl⟩
    case round =>
      obtain ⟨k, m, hk, rfl, rfl⟩ := hrel
      by_cases hlt : k < nd
      · obtain ⟨ga, rfl, q1⟩ := HA6.out.cell k hlt
        obtain ⟨gb, rfl, q2⟩ := HB6.out.cell k hlt
        have q3 := HO6.out.cell k hlt
        rw [show (List.replicate nd false).getD k false = false by simp [List.getD, hlt]] at q3
        obtain ⟨z, ez⟩ : ∃ z, z = zd.getD k 0 := ⟨_, rfl⟩
        rw [← ez] at q1 q2
        clear ez
        have b1 : (k : Int) < (nd : Int) := by omega
        go_wp2
        go_quiet (fail)
        go_wp2
        go_roundw
        case rel => exact ⟨k + 1, _, by omega, by go_num, rfl⟩
        case measure => simp [intOf]; omega
      · go_wp2
        go_ret
        exact ⟨rfl, below_drewN H6.out _⟩

end Go.Proofs.Qxb6602704a.Wk
