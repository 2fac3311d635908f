import Derived.Test.Qxb6602704aLn
namespace Go.Proofs.Qxb6602704a.Wk
open Go.ChangeShapes Go.WideShapes Go.ChangeAt Go.RowKit
set_option linter.unusedVariables false
set_option maxRecDepth 100000
set_option maxHeartbeats 3200000

theorem zz_no (ad sa : Option Addr) (nd cd ns cs : Nat) (dlI dsI slI ssI n len reach : Int) (cv : Value) (c0 c1 c2 c3 : Int) (w : World) (hm1 : nd ≤ maxLen) (hm2 : ns ≤ maxLen) (h : 1048576 < nd ∨ 1048576 < ns ∨ 1048576 < nd + ns) :
    Calls Try.prog 16 #[.slice ad nd cd, .int .i64 dlI, .int .i64 dsI, .slice sa ns cs, .int .i64 slI, .int .i64 ssI, .int .i64 n, .int .i64 len, .int .i64 reach, .agg #[.int .u8 c0, .int .u8 c1, .int .u8 c2, .int .u8 c3]] w fun e w' =>
      e = .returned (.bool false) ∧ Below w.heap.size w w' := by
  unfold maxLen at hm1 hm2
  by_cases x1 : 1048576 < nd
  · have y1 : (1048576 : Int) < (nd : Int) := by omega
    clear h
    go_enter Try.func16, Try.ntmps16
    go_wp2
    go_ret
    exact ⟨rfl, (Below.refl _ _).alloc (Nat.le_refl _) _⟩
  · have y1 : (nd : Int) ≤ (1048576 : Int) := by omega
    by_cases x2 : 1048576 < ns
    · have y2 : (1048576 : Int) < (ns : Int) := by omega
      clear h
      go_enter Try.func16, Try.ntmps16
      go_wp2
      go_ret
      exact ⟨rfl, (Below.refl _ _).alloc (Nat.le_refl _) _⟩
    · have y2 : (ns : Int) ≤ (1048576 : Int) := by omega
      have y3 : (1048576 : Int) < (nd : Int) + (ns : Int) := by omega
      clear h
      go_enter Try.func16, Try.ntmps16
      go_wp2
      go_ret
      exact ⟨rfl, (Below.refl _ _).alloc (Nat.le_refl _) _⟩

theorem zz_yes (ad sa : Option Addr) (nd cd ns cs : Nat) (dlI dsI slI ssI n len reach : Int) (c0 c1 c2 c3 : Int) (w : World) (h : nd + ns ≤ 1048576) :
    Calls Try.prog 16 #[.slice ad nd cd, .int .i64 dlI, .int .i64 dsI, .slice sa ns cs, .int .i64 slI, .int .i64 ssI, .int .i64 n, .int .i64 len, .int .i64 reach, .agg #[.int .u8 c0, .int .u8 c1, .int .u8 c2, .int .u8 c3]] w fun e w' =>
      e = .returned (.bool true) ∧ Below w.heap.size w w' := by
  have y3 : (nd : Int) + (ns : Int) ≤ (1048576 : Int) := by omega
  go_enter Try.func16, Try.ntmps16
  go_wp2
  go_ret
  exact ⟨rfl, (Below.refl _ _).alloc (Nat.le_refl _) _⟩

/-- The world behind the first call: the colour's box is still there. -/
theorem after_zz {w w1 : World} {C : Array Value} (hb : Below (w.alloc (.cells C 29)).heap.size (w.alloc (.cells C 29)) w1) : Below w.heap.size w w1 ∧ w.heap.size < w1.heap.size ∧ ∀ c, w1.cell? ⟨w.heap.size, c, none⟩ = C[c]? := by
  have h0 : (w.alloc (.cells C 29)).heap.size = w.heap.size + 1 := by simp
  refine ⟨((Below.refl w.heap.size w).alloc (Nat.le_refl _) _).trans (hb.mono (by omega)), by have := hb.size; omega, fun c => ?_⟩
  rw [hb.cell (p := ⟨w.heap.size, c, none⟩) (by show w.heap.size < _; omega), World.cell?_alloc_new]

theorem early1 (ad sa : Option Addr) (nd cd ns cs : Nat) (dlI dsI slI ssI n len reach c0 c1 c2 c3 : Int) (w : World) (hm1 : nd ≤ maxLen) (hm2 : ns ≤ maxLen) (h : 1048576 < nd ∨ 1048576 < ns ∨ 1048576 < nd + ns) :
    Calls Try.prog 4 #[.slice ad nd cd, .int .i64 dlI, .int .i64 dsI, .slice sa ns cs, .int .i64 slI, .int .i64 ssI, .int .i64 n, .int .i64 len, .int .i64 reach, .agg #[.int .u8 c0, .int .u8 c1, .int .u8 c2, .int .u8 c3]] w fun e w' =>
      e = .returned (.bool true) ∧ Below w.heap.size w w' := by
  have H := hid fun w1 => zz_no ad sa nd cd ns cs dlI dsI slI ssI n len reach .nilIface c0 c1 c2 c3 w1 hm1 hm2 h
  clear h hm1 hm2
  go_enter Try.func4, Try.ntmps4
  go_wp2_with fail
  refine (Hid.out H _).mono ?_
  rintro e w1 ⟨rfl, hb⟩
  obtain ⟨h1, h2, h3⟩ := after_zz hb
  clear hb h3
  go_wp2
  go_ret
  exact ⟨rfl, h1⟩

theorem early3 (ad sa : Option Addr) (nd cd ns cs : Nat) (dlI dsI slI ssI n len reach c0 c1 c2 c3 : Int) (w : World) (hs : nd + ns ≤ 1048576) (h : 65536 < n ∨ 65536 < len ∨ reach < 0 ∨ 65536 < reach) :
    Calls Try.prog 4 #[.slice ad nd cd, .int .i64 dlI, .int .i64 dsI, .slice sa ns cs, .int .i64 slI, .int .i64 ssI, .int .i64 n, .int .i64 len, .int .i64 reach, .agg #[.int .u8 c0, .int .u8 c1, .int .u8 c2, .int .u8 c3]] w fun e w' =>
      e = .returned (.bool true) ∧ Below w.heap.size w w' := by
  have H := hid fun w1 => zz_yes ad sa nd cd ns cs dlI dsI slI ssI n len reach c0 c1 c2 c3 w1 hs
  have y3 : (nd : Int) + (ns : Int) ≤ (1048576 : Int) := by omega
  by_cases x1 : 65536 < n
  · clear h
    go_enter Try.func4, Try.ntmps4
    go_wp2_with fail
    refine (Hid.out H _).mono ?_
    rintro e w1 ⟨rfl, hb⟩
    obtain ⟨h1, h2, h3⟩ := after_zz hb
    clear hb h3
    go_wp2
    go_ret
    exact ⟨rfl, h1⟩
  by_cases x2 : 65536 < len
  · clear h
    go_enter Try.func4, Try.ntmps4
    go_wp2_with fail
    refine (Hid.out H _).mono ?_
    rintro e w1 ⟨rfl, hb⟩
    obtain ⟨h1, h2, h3⟩ := after_zz hb
    clear hb h3
    go_wp2
    go_ret
    exact ⟨rfl, h1⟩
  by_cases x3 : reach < 0
  · clear h
    go_enter Try.func4, Try.ntmps4
    go_wp2_with fail
    refine (Hid.out H _).mono ?_
    rintro e w1 ⟨rfl, hb⟩
    obtain ⟨h1, h2, h3⟩ := after_zz hb
    clear hb h3
    go_wp2
    go_ret
    exact ⟨rfl, h1⟩
  · have x4 : 65536 < reach := by omega
    clear h
    go_enter Try.func4, Try.ntmps4
    go_wp2_with fail
    refine (Hid.out H _).mono ?_
    rintro e w1 ⟨rfl, hb⟩
    obtain ⟨h1, h2, h3⟩ := after_zz hb
    clear hb h3
    go_wp2
    go_ret
    exact ⟨rfl, h1⟩

end Go.Proofs.Qxb6602704a.Wk
