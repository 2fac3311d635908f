import Derived.Test.Qxb6602704aEarly
namespace Go.Proofs.Qxb6602704a.Wk
open Go.ChangeShapes Go.WideShapes Go.ChangeAt Go.RowKit
set_option linter.unusedVariables false
set_option maxRecDepth 100000
set_option maxHeartbeats 3200000

theorem early4a (ad sa : Option Addr) (nd cd ns cs : Nat) (dlI dsI slI ssI n len reach c0 c1 c2 c3 : Int) (w : World) (hs : nd + ns ≤ 1048576) (n1 : 1 ≤ n) (n2 : n ≤ 65536) (l2 : len ≤ 65536) (r1 : 0 ≤ reach) (r2 : reach ≤ 65536) (hf : fitsB nd dlI dsI n len = false) :
    Calls Try.prog 4 #[.slice ad nd cd, .int .i64 dlI, .int .i64 dsI, .slice sa ns cs, .int .i64 slI, .int .i64 ssI, .int .i64 n, .int .i64 len, .int .i64 reach, .agg #[.int .u8 c0, .int .u8 c1, .int .u8 c2, .int .u8 c3]] w fun e w' =>
      e = .returned (.bool true) ∧ Below w.heap.size w w' := by
  have H := hid fun w1 => zz_yes ad sa nd cd ns cs dlI dsI slI ssI n len reach c0 c1 c2 c3 w1 hs
  have y3 : (nd : Int) + (ns : Int) ≤ (1048576 : Int) := by omega
  go_enter Try.func4, Try.ntmps4
  go_wp2_with fail
  refine (Hid.out H _).mono ?_
  rintro e w1 ⟨rfl, hb⟩
  obtain ⟨h1, h2, h3⟩ := after_zz hb
  clear hb h3 H
  go_wp2_with (go_at_call 11; refine (fits_any _ _ _ _ _ _ (by omega) (by omega) (by omega) (by omega) (by omega)).mono ?_; rintro e w' ⟨rfl, rfl⟩)
  go_ret
  exact ⟨rfl, h1⟩

theorem early4b (ad sa : Option Addr) (nd cd ns cs : Nat) (dlI dsI slI ssI n len reach c0 c1 c2 c3 : Int) (w : World) (hs : nd + ns ≤ 1048576) (n1 : 1 ≤ n) (n2 : n ≤ 65536) (l2 : len ≤ 65536) (r1 : 0 ≤ reach) (r2 : reach ≤ 65536) (hf : fitsB nd dlI dsI n len = true) (hg : fitsB ns slI ssI n len = false) :
    Calls Try.prog 4 #[.slice ad nd cd, .int .i64 dlI, .int .i64 dsI, .slice sa ns cs, .int .i64 slI, .int .i64 ssI, .int .i64 n, .int .i64 len, .int .i64 reach, .agg #[.int .u8 c0, .int .u8 c1, .int .u8 c2, .int .u8 c3]] w fun e w' =>
      e = .returned (.bool true) ∧ Below w.heap.size w w' := by
  have H := hid fun w1 => zz_yes ad sa nd cd ns cs dlI dsI slI ssI n len reach c0 c1 c2 c3 w1 hs
  have y3 : (nd : Int) + (ns : Int) ≤ (1048576 : Int) := by omega
  go_enter Try.func4, Try.ntmps4
  go_wp2_with fail
  refine (Hid.out H _).mono ?_
  rintro e w1 ⟨rfl, hb⟩
  obtain ⟨h1, h2, h3⟩ := after_zz hb
  clear hb h3 H
  go_wp2_with (go_at_call 11; refine (fits_any _ _ _ _ _ _ (by omega) (by omega) (by omega) (by omega) (by omega)).mono ?_; rintro e w' ⟨rfl, rfl⟩)
  go_ret
  exact ⟨rfl, h1⟩

theorem early5a (ad sa : Option Addr) (nd cd ns cs : Nat) (dlI dsI slI ssI n len reach c0 c1 c2 c3 : Int) (w : World) (hs : nd + ns ≤ 1048576) (n1 : 1 ≤ n) (n2 : n ≤ 65536) (l2 : len ≤ 65536) (r1 : 0 ≤ reach) (r2 : reach ≤ 65536) (hf : fitsB nd dlI dsI n len = true) (hg : fitsB ns slI ssI n len = true) (l1 : 1 ≤ len) (hp : 1048576 < n * len) :
    Calls Try.prog 4 #[.slice ad nd cd, .int .i64 dlI, .int .i64 dsI, .slice sa ns cs, .int .i64 slI, .int .i64 ssI, .int .i64 n, .int .i64 len, .int .i64 reach, .agg #[.int .u8 c0, .int .u8 c1, .int .u8 c2, .int .u8 c3]] w fun e w' =>
      e = .returned (.bool true) ∧ Below w.heap.size w w' := by
  have H := hid fun w1 => zz_yes ad sa nd cd ns cs dlI dsI slI ssI n len reach c0 c1 c2 c3 w1 hs
  have y3 : (nd : Int) + (ns : Int) ≤ (1048576 : Int) := by omega
  obtain ⟨p1, p2⟩ := mul_bd (a := n) (b := len) (A := 65536) (B := 65536) (by omega) (by omega) (by omega) (by omega)
  go_enter Try.func4, Try.ntmps4
  go_wp2_with fail
  refine (Hid.out H _).mono ?_
  rintro e w1 ⟨rfl, hb⟩
  obtain ⟨h1, h2, h3⟩ := after_zz hb
  clear hb h3 H
  go_wp2_with (go_at_call 11; refine (fits_any _ _ _ _ _ _ (by omega) (by omega) (by omega) (by omega) (by omega)).mono ?_; rintro e w' ⟨rfl, rfl⟩)
  go_ret
  exact ⟨rfl, h1⟩

theorem early5b (ad sa : Option Addr) (nd cd ns cs : Nat) (dlI dsI slI ssI n len reach c0 c1 c2 c3 : Int) (w : World) (hs : nd + ns ≤ 1048576) (n1 : 1 ≤ n) (n2 : n ≤ 65536) (l2 : len ≤ 65536) (r1 : 0 ≤ reach) (r2 : reach ≤ 65536) (hf : fitsB nd dlI dsI n len = true) (hg : fitsB ns slI ssI n len = true) (l1 : 1 ≤ len) (hp : n * len ≤ 1048576) (hq : 4194304 < n * (2 * reach + 1)) :
    Calls Try.prog 4 #[.slice ad nd cd, .int .i64 dlI, .int .i64 dsI, .slice sa ns cs, .int .i64 slI, .int .i64 ssI, .int .i64 n, .int .i64 len, .int .i64 reach, .agg #[.int .u8 c0, .int .u8 c1, .int .u8 c2, .int .u8 c3]] w fun e w' =>
      e = .returned (.bool true) ∧ Below w.heap.size w w' := by
  have H := hid fun w1 => zz_yes ad sa nd cd ns cs dlI dsI slI ssI n len reach c0 c1 c2 c3 w1 hs
  have y3 : (nd : Int) + (ns : Int) ≤ (1048576 : Int) := by omega
  obtain ⟨p1, p2⟩ := mul_bd (a := n) (b := len) (A := 65536) (B := 65536) (by omega) (by omega) (by omega) (by omega)
  obtain ⟨q1, q2⟩ := mul_bd (a := n) (b := 2 * reach + 1) (A := 65536) (B := 131073) (by omega) (by omega) (by omega) (by omega)
  go_enter Try.func4, Try.ntmps4
  go_wp2_with fail
  refine (Hid.out H _).mono ?_
  rintro e w1 ⟨rfl, hb⟩
  obtain ⟨h1, h2, h3⟩ := after_zz hb
  clear hb h3 H
  go_wp2_with (go_at_call 11; refine (fits_any _ _ _ _ _ _ (by omega) (by omega) (by omega) (by omega) (by omega)).mono ?_; rintro e w' ⟨rfl, rfl⟩)
  go_ret
  exact ⟨rfl, h1⟩

theorem early6a (ad sa : Option Addr) (nd cd ns cs : Nat) (dlI dsI slI ssI n len reach c0 c1 c2 c3 : Int) (w : World) (hs : nd + ns ≤ 1048576) (n1 : 1 ≤ n) (n2 : n ≤ 65536) (l2 : len ≤ 65536) (r1 : 0 ≤ reach) (r2 : reach ≤ 65536) (hf : fitsB nd dlI dsI n len = true) (hg : fitsB ns slI ssI n len = true) (l1 : 1 ≤ len) (hp : n * len ≤ 1048576) (hq : n * (2 * reach + 1) ≤ 4194304) (k1 : 1 < n) (d0 : 0 ≤ dlI) (hm : (dlI % 4 == 0) = false) :
    Calls Try.prog 4 #[.slice ad nd cd, .int .i64 dlI, .int .i64 dsI, .slice sa ns cs, .int .i64 slI, .int .i64 ssI, .int .i64 n, .int .i64 len, .int .i64 reach, .agg #[.int .u8 c0, .int .u8 c1, .int .u8 c2, .int .u8 c3]] w fun e w' =>
      e = .returned (.bool true) ∧ Below w.heap.size w w' := by
  have H := hid fun w1 => zz_yes ad sa nd cd ns cs dlI dsI slI ssI n len reach c0 c1 c2 c3 w1 hs
  have y3 : (nd : Int) + (ns : Int) ≤ (1048576 : Int) := by omega
  obtain ⟨p1, p2⟩ := mul_bd (a := n) (b := len) (A := 65536) (B := 65536) (by omega) (by omega) (by omega) (by omega)
  obtain ⟨q1, q2⟩ := mul_bd (a := n) (b := 2 * reach + 1) (A := 65536) (B := 131073) (by omega) (by omega) (by omega) (by omega)
  go_enter Try.func4, Try.ntmps4
  go_wp2_with fail
  refine (Hid.out H _).mono ?_
  rintro e w1 ⟨rfl, hb⟩
  obtain ⟨h1, h2, h3⟩ := after_zz hb
  clear hb h3 H
  go_wp2_with (go_at_call 11; refine (fits_any _ _ _ _ _ _ (by omega) (by omega) (by omega) (by omega) (by omega)).mono ?_; rintro e w' ⟨rfl, rfl⟩)
  go_ret
  exact ⟨rfl, h1⟩

theorem early6b (ad sa : Option Addr) (nd cd ns cs : Nat) (dlI dsI slI ssI n len reach c0 c1 c2 c3 : Int) (w : World) (hs : nd + ns ≤ 1048576) (n1 : 1 ≤ n) (n2 : n ≤ 65536) (l2 : len ≤ 65536) (r1 : 0 ≤ reach) (r2 : reach ≤ 65536) (hf : fitsB nd dlI dsI n len = true) (hg : fitsB ns slI ssI n len = true) (l1 : 1 ≤ len) (hp : n * len ≤ 1048576) (hq : n * (2 * reach + 1) ≤ 4194304) (k0 : n = 1 ∨ (1 < n ∧ 0 ≤ dlI ∧ dlI % 4 = 0)) (k1 : 1 < len) (d0 : 0 ≤ dsI) (hm : (dsI % 4 == 0) = false) :
    Calls Try.prog 4 #[.slice ad nd cd, .int .i64 dlI, .int .i64 dsI, .slice sa ns cs, .int .i64 slI, .int .i64 ssI, .int .i64 n, .int .i64 len, .int .i64 reach, .agg #[.int .u8 c0, .int .u8 c1, .int .u8 c2, .int .u8 c3]] w fun e w' =>
      e = .returned (.bool true) ∧ Below w.heap.size w w' := by
  have H := hid fun w1 => zz_yes ad sa nd cd ns cs dlI dsI slI ssI n len reach c0 c1 c2 c3 w1 hs
  have y3 : (nd : Int) + (ns : Int) ≤ (1048576 : Int) := by omega
  obtain ⟨p1, p2⟩ := mul_bd (a := n) (b := len) (A := 65536) (B := 65536) (by omega) (by omega) (by omega) (by omega)
  obtain ⟨q1, q2⟩ := mul_bd (a := n) (b := 2 * reach + 1) (A := 65536) (B := 131073) (by omega) (by omega) (by omega) (by omega)
  rcases k0 with rfl | ⟨k2, k3, k4⟩
  · go_enter Try.func4, Try.ntmps4
    go_wp2_with fail
    refine (Hid.out H _).mono ?_
    rintro e w1 ⟨rfl, hb⟩
    obtain ⟨h1, h2, h3⟩ := after_zz hb
    clear hb h3 H
    go_wp2_with (go_at_call 11; refine (fits_any _ _ _ _ _ _ (by omega) (by omega) (by omega) (by omega) (by omega)).mono ?_; rintro e w' ⟨rfl, rfl⟩)
    go_ret
    exact ⟨rfl, h1⟩
  · go_enter Try.func4, Try.ntmps4
    go_wp2_with fail
    refine (Hid.out H _).mono ?_
    rintro e w1 ⟨rfl, hb⟩
    obtain ⟨h1, h2, h3⟩ := after_zz hb
    clear hb h3 H
    go_wp2_with (go_at_call 11; refine (fits_any _ _ _ _ _ _ (by omega) (by omega) (by omega) (by omega) (by omega)).mono ?_; rintro e w' ⟨rfl, rfl⟩)
    go_ret
    exact ⟨rfl, h1⟩

end Go.Proofs.Qxb6602704a.Wk
