import Derived.Test.Qxb6602961aRows
import Derived.WalkKit
import Derived.ProofKit
import Derived.OpenShut
import Derived.Below
import Derived.Deep.QuietTactic
import Derived.BigQuiet
import Derived.WalkSpells
import Derived.WalkSmall
import Derived.Outline
import Derived.Laws.CopyOwn
import Derived.Lib.SliceRun
import Derived.LoopTactic
namespace Go.Proofs.Qxb6602961a.Wk
open Go.ChangeShapes Go.WideShapes Go.ChangeAt Go.RowKit
set_option linter.unusedVariables false

theorem hid {p : Prop} (h : p) : Hid p := h

/-- An edit: four numbers. -/
structure Ed where
  o : Int
  d : Int
  n : Int
  i : Int

instance : Inhabited Ed := ⟨⟨0, 0, 0, 0⟩⟩

/-- The edit at place k. -/
def ed (es : List Ed) (k : Nat) : Ed := es.getD k default

/-- A slice of ints as the walk meets it: its n numbers zs lie behind its address. -/
def Rd (w : World) (ao : Option Addr) (n : Nat) (zs : List Int) : Prop :=
  zs.length = n ∧ (ao = none → n = 0) ∧ (0 < n → ∃ b off, ao = some ⟨b, off, none⟩ ∧ b < w.heap.size ∧ ∀ j, j < n → w.cell? ⟨b, off + j, none⟩ = some (.int .i64 (zs.getD j 0)))

theorem Rd.later {w w' : World} {ao : Option Addr} {n : Nat} {zs : List Int} (h : Rd w ao n zs) (hb : Below w.heap.size w w') : Rd w' ao n zs := by
  obtain ⟨h1, h2, h3⟩ := h
  refine ⟨h1, h2, fun hn => ?_⟩
  obtain ⟨b, off, e, hlt, hc⟩ := h3 hn
  exact ⟨b, off, e, Nat.lt_of_lt_of_le hlt hb.size, fun j hj => (hb.cell (p := ⟨b, off + j, none⟩) hlt).trans (hc j hj)⟩

/-- A slice of edits as the walk meets it. -/
def RdE (w : World) (ao : Option Addr) (n : Nat) (es : List Ed) : Prop :=
  es.length = n ∧ (ao = none → n = 0) ∧ (0 < n → ∃ b off, ao = some ⟨b, off, none⟩ ∧ b < w.heap.size ∧ ∀ j, j < n →
    w.cell? ⟨b, off + j * 4, none⟩ = some (.int .i64 (ed es j).o) ∧ w.cell? ⟨b, off + j * 4 + 1, none⟩ = some (.int .i64 (ed es j).d) ∧
    w.cell? ⟨b, off + j * 4 + 2, none⟩ = some (.int .i64 (ed es j).n) ∧ w.cell? ⟨b, off + j * 4 + 3, none⟩ = some (.int .i64 (ed es j).i))

theorem RdE.later {w w' : World} {ao : Option Addr} {n : Nat} {es : List Ed} (h : RdE w ao n es) (hb : Below w.heap.size w w') : RdE w' ao n es := by
  obtain ⟨h1, h2, h3⟩ := h
  refine ⟨h1, h2, fun hn => ?_⟩
  obtain ⟨b, off, e, hlt, hc⟩ := h3 hn
  refine ⟨b, off, e, Nat.lt_of_lt_of_le hlt hb.size, fun j hj => ?_⟩
  obtain ⟨c0, c1, c2, c3⟩ := hc j hj
  exact ⟨(hb.cell (p := ⟨b, _, none⟩) hlt).trans c0, (hb.cell (p := ⟨b, _, none⟩) hlt).trans c1, (hb.cell (p := ⟨b, _, none⟩) hlt).trans c2, (hb.cell (p := ⟨b, _, none⟩) hlt).trans c3⟩

/-- What the first k edits delete, and insert. -/
def dels (es : List Ed) (k : Nat) : Int := ((es.take k).map (·.d)).sum
def inss (es : List Ed) (k : Nat) : Int := ((es.take k).map (·.i)).sum

theorem dels_succ (es : List Ed) (k : Nat) (hk : k < es.length) : dels es (k + 1) = dels es k + (ed es k).d := by
  unfold dels ed
  rw [List.take_add_one, List.getElem?_eq_getElem hk, List.map_append, List.sum_append]
  simp [List.getD, List.getElem?_eq_getElem hk]
theorem inss_succ (es : List Ed) (k : Nat) (hk : k < es.length) : inss es (k + 1) = inss es k + (ed es k).i := by
  unfold inss ed
  rw [List.take_add_one, List.getElem?_eq_getElem hk, List.map_append, List.sum_append]
  simp [List.getD, List.getElem?_eq_getElem hk]

theorem totals_any (ao : Option Addr) (n c : Nat) (es : List Ed) (w : World) (hn : n ≤ 8192) (h : RdE w ao n es)
    (hd : ∀ k, k < n → 0 ≤ (ed es k).d ∧ (ed es k).d ≤ 32768 ∧ 0 ≤ (ed es k).i ∧ (ed es k).i ≤ 32768) :
    Calls Try.prog 17 #[.slice ao n c] w fun e w' => e = .returned (.tuple #[.int .i64 (dels es n), .int .i64 (inss es n)]) ∧ w' = w := by
  obtain ⟨h1, _, h3⟩ := h
  go_enter Try.func17, Try.ntmps17
  go_wp2
  go_loopw [4, 5, 6] (fun dv iv kv wr => ∃ k : Nat, k ≤ n ∧ kv = .int .i64 k ∧ dv = .int .i64 (dels es k) ∧ iv = .int .i64 (inss es k) ∧ wr = w ∧ Hid (0 ≤ dels es k ∧ dels es k ≤ 32768 * k ∧ 0 ≤ inss es k ∧ inss es k ≤ 32768 * k)) (fun _ _ i _ => n - (intOf i).toNat)
  case atStart => exact ⟨0, by omega, rfl, rfl, rfl, rfl, by simp [dels, inss, Hid]⟩
  case round =>
    obtain ⟨k, hk, rfl, rfl, rfl, rfl, HB⟩ := hrel
    by_cases hlt : k < n
    · obtain ⟨b, off, rfl, _, hc⟩ := h3 (by omega)
      obtain ⟨c0, c1, c2, c3⟩ := hc k hlt
      have ⟨t1, t2, t3, t4⟩ := hd k hlt
      have ⟨u1, u2, u3, u4⟩ := HB.out
      have E1 := hid (dels_succ es k (by omega))
      have E2 := hid (inss_succ es k (by omega))
      clear hc hd HB h3
      obtain ⟨x, ex⟩ : ∃ x, x = ed es k := ⟨_, rfl⟩
      rw [← ex] at c0 c1 c2 c3 t1 t2 t3 t4 E1 E2
      clear ex
      obtain ⟨xo, xd, xn, xi⟩ := x
      simp only at c0 c1 c2 c3 t1 t2 t3 t4 E1 E2
      have b1 : (k : Int) < (n : Int) := by omega
      go_wp2
      go_roundw
      case rel => exact ⟨k + 1, by omega, by go_num, by rw [Hid.out E1], by rw [Hid.out E2], by simp, by rw [Hid.out E1, Hid.out E2]; exact ⟨by omega, by omega, by omega, by omega⟩⟩
      case measure => simp [intOf]; omega
    · have : k = n := by omega
      subst this
      go_wp2
      go_ret2
      exact ⟨rfl, rfl⟩

end Go.Proofs.Qxb6602961a.Wk
