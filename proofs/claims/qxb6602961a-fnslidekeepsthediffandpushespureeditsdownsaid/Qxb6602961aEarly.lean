import Derived.Test.Qxb6602961aSlide
namespace Go.Proofs.Qxb6602961a.Wk
open Go.ChangeShapes Go.WideShapes Go.ChangeAt Go.RowKit
set_option linter.unusedVariables false
set_option maxRecDepth 100000
set_option maxHeartbeats 3200000

theorem zz_yes (eo aa ab : Option Addr) (n c na ca nb cb : Nat) (w : World) (h : n + na + nb ≤ 1048576) :
    Calls Try.prog 13 #[.slice eo n c, .slice aa na ca, .slice ab nb cb] w fun e w' => e = .returned (.bool true) ∧ w' = w := by
  have y3 : (n : Int) + (na : Int) + (nb : Int) ≤ (1048576 : Int) := by omega
  have y2 : (n : Int) + (na : Int) ≤ (1048576 : Int) := by omega
  have y1 : (n : Int) ≤ (1048576 : Int) := by omega
  go_enter Try.func13, Try.ntmps13
  go_wp2
  go_ret
  exact ⟨rfl, rfl⟩

theorem zz_no (eo aa ab : Option Addr) (n c na ca nb cb : Nat) (w : World) (h1 : n ≤ maxLen) (h2 : na ≤ maxLen) (h3 : nb ≤ maxLen) (h : ¬ n + na + nb ≤ 1048576) :
    Calls Try.prog 13 #[.slice eo n c, .slice aa na ca, .slice ab nb cb] w fun e w' => e = .returned (.bool false) ∧ w' = w := by
  unfold maxLen at h1 h2 h3
  by_cases x1 : 1048576 < n
  · have y1 : (1048576 : Int) < (n : Int) := by omega
    clear h
    go_enter Try.func13, Try.ntmps13
    go_wp2
    go_ret
    exact ⟨rfl, rfl⟩
  have y1 : (n : Int) ≤ (1048576 : Int) := by omega
  by_cases x2 : 1048576 < na
  · have y2 : (1048576 : Int) < (na : Int) := by omega
    clear h
    go_enter Try.func13, Try.ntmps13
    go_wp2
    go_ret
    exact ⟨rfl, rfl⟩
  have y2 : (na : Int) ≤ (1048576 : Int) := by omega
  by_cases x3 : 1048576 < n + na
  · have y3 : (1048576 : Int) < (n : Int) + (na : Int) := by omega
    clear h
    go_enter Try.func13, Try.ntmps13
    go_wp2
    go_ret
    exact ⟨rfl, rfl⟩
  have y3 : (n : Int) + (na : Int) ≤ (1048576 : Int) := by omega
  by_cases x4 : 1048576 < nb
  · have y4 : (1048576 : Int) < (nb : Int) := by omega
    clear h
    go_enter Try.func13, Try.ntmps13
    go_wp2
    go_ret
    exact ⟨rfl, rfl⟩
  have y4 : (nb : Int) ≤ (1048576 : Int) := by omega
  have y5 : (1048576 : Int) < (n : Int) + (na : Int) + (nb : Int) := by omega
  clear h
  go_enter Try.func13, Try.ntmps13
  go_wp2
  go_ret
  exact ⟨rfl, rfl⟩

theorem zzslide_any (eo aa ab : Option Addr) (n c na ca nb cb : Nat) (es : List Ed) (za zb : List Int) (w : World) (hn : n ≤ 8192) (hna : na ≤ 32768) (hnb : nb ≤ 32768)
    (he : RdE w eo n es) (ha : Rd w aa na za) (hb : Rd w ab nb zb) (hv : Valid za zb es 0 0) :
    Calls Try.prog 16 #[.slice eo n c, .slice aa na ca, .slice ab nb cb] w (SlPost za zb es w) := by
  have H := hid (slide_any eo aa ab n c na ca nb cb es za zb w hn hna hnb he ha hb hv)
  clear he ha hb hv
  go_enter Try.func16, Try.ntmps16
  go_wp2_with fail
  refine (Hid.out H).mono ?_
  rintro e w' ⟨v, S, rfl, h⟩
  have HH := hid h
  clear h
  go_wp2
  go_ret
  exact ⟨v, S, rfl, HH.out⟩

/-- The early ways out. -/
theorem early (eo aa ab : Option Addr) (n c na ca nb cb : Nat) (w : World) (h1 : n ≤ maxLen) (h2 : na ≤ maxLen) (h3 : nb ≤ maxLen) (h : 1048576 < n + na + nb ∨ 8192 < n ∨ 32768 < na ∨ 32768 < nb) :
    Calls Try.prog 5 #[.slice eo n c, .slice aa na ca, .slice ab nb cb] w fun e w' => e = .returned (.bool true) ∧ Below w.heap.size w w' := by
  by_cases x1 : 1048576 < n + na + nb
  · have H := hid (zz_no eo aa ab n c na ca nb cb w h1 h2 h3 (by omega))
    clear h h1 h2 h3
    go_enter Try.func5, Try.ntmps5
    go_wp2_with fail
    refine (Hid.out H).mono ?_
    rintro e w' ⟨rfl, rfl⟩
    go_wp2
    go_ret
    exact ⟨rfl, Below.refl _ _⟩
  have H := hid (zz_yes eo aa ab n c na ca nb cb w (by omega))
  clear h1 h2 h3
  by_cases x2 : 8192 < n
  · have y2 : (8192 : Int) < (n : Int) := by omega
    clear h
    go_enter Try.func5, Try.ntmps5
    go_wp2_with fail
    refine (Hid.out H).mono ?_
    rintro e w' ⟨rfl, rfl⟩
    go_wp2
    go_ret
    exact ⟨rfl, Below.refl _ _⟩
  have y2 : (n : Int) ≤ (8192 : Int) := by omega
  by_cases x3 : 32768 < na
  · have y3 : (32768 : Int) < (na : Int) := by omega
    clear h
    go_enter Try.func5, Try.ntmps5
    go_wp2_with fail
    refine (Hid.out H).mono ?_
    rintro e w' ⟨rfl, rfl⟩
    go_wp2
    go_ret
    exact ⟨rfl, Below.refl _ _⟩
  have y3 : (na : Int) ≤ (32768 : Int) := by omega
  have y4 : (32768 : Int) < (nb : Int) := by omega
  clear h
  go_enter Try.func5, Try.ntmps5
  go_wp2_with fail
  refine (Hid.out H).mono ?_
  rintro e w' ⟨rfl, rfl⟩
  go_wp2
  go_ret
  exact ⟨rfl, Below.refl _ _⟩

end Go.Proofs.Qxb6602961a.Wk
