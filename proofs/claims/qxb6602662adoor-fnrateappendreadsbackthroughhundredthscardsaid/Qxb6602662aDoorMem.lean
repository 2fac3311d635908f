import Derived.Test.Qxb6602662aDoorShelf
import Derived.WalkKit
import Derived.ProofKit
import Derived.OpenShut
import Derived.Below
import Derived.Deep.QuietTactic
import Derived.BigQuiet
import Derived.WalkSpells
import Derived.WalkSmall
import Derived.Outline
import Derived.ArgAppend
import Derived.Laws.CopyOwn
import Derived.Lib.SliceRun
import Derived.Lib.AppendStr
import Derived.Lib.AppendIntMem
namespace Go.Proofs.Qxb6602662aDoor.Wk
open Go.ChangeShapes Go.WideShapes Go.ChangeAt Go.RowKit
set_option linter.unusedVariables false

theorem hid {p : Prop} (h : p) : Hid p := h

theorem info5 : (Tryd.prog.info? 5).map (fun i => (i.zero, i.size, i.bytes)) = some (some (.int .u8 0), 1, 1) := by kernel_rfl
theorem isz5 : (Tryd.prog.info? 5).map (·.size) = some 1 := by kernel_rfl

/-- A slice of bytes without spare room: nil, or n cells, xs, as long as its capacity. -/
def Full (w : World) (sv : Value) (n : Nat) (xs : List Value) : Prop :=
  xs.length = n ∧ ((sv = .slice none 0 0 ∧ n = 0) ∨ ∃ a : Addr, sv = .slice (some a) n n ∧ ∀ j u, xs[j]? = some u → w.cell? (a.add j) = some u)

theorem full_run (w : World) (ty : TypeId) (sv : Value) (n : Nat) (xs : List Value) (hF : Full w sv n xs) (ad : Addr) (m c : Nat) (news : List Value) (hm : 0 < m) (hn : news.length = m)
    (hc : ∀ j u, news[j]? = some u → w.cell? (ad.add j) = some u) (h1 : ∀ u ∈ news, u.oneCell' = true) (hlim : n + m ≤ 140737488355328) :
    ∃ v' w', (Builtin.append_ #[22, 22] ty #[sv, .slice (some ad) m c]).run Tryd.prog w = .ok v' w' ∧ w'.ownsRow w.heap.size 5 1 v' (n + m) (xs ++ news) ∧ w.grownBy w' none := by
  obtain ⟨i0, hi, hz0, hz1, hz2⟩ := info_parts info5
  obtain ⟨hl, ⟨rfl, rfl⟩ | ⟨a, rfl, hcell⟩⟩ := hF
  · obtain rfl : xs = [] := List.eq_nil_of_length_eq_zero hl
    obtain ⟨v', w', hrun, r1, r2, _⟩ := run_append_own (P := Tryd.prog) w w.heap.size 22 ty 5 i0 (.int .u8 0) 1 1 Tryd.underlying22 hi hz0 hz1 hz2 rfl (by decide) (.slice none 0 0) 0 [] (World.ownsRow_nil w _ 5 1) ad m c news (by omega) hc h1 (by unfold maxLen; omega) (by omega) (Nat.le_refl _)
    exact ⟨v', w', hrun, r1, r2⟩
  · exact run_append_arg_grows (P := Tryd.prog) w 22 ty 5 i0 (.int .u8 0) 1 1 Tryd.underlying22 hi hz0 hz1 hz2 rfl (by decide) a n n xs (by omega) hcell ad m c news (by omega) hc (by omega) (by unfold maxLen; omega) (by omega)

theorem full_run_string (w : World) (ty : TypeId) (sv : Value) (n : Nat) (xs : List Value) (hF : Full w sv n xs) (s : ByteArray) (hm : 0 < s.size) (hlim : n + s.size ≤ 140737488355328) :
    ∃ v' w', (Builtin.append_ #[22, 9] ty #[sv, .string s]).run Tryd.prog w = .ok v' w' ∧ w'.ownsRow w.heap.size 5 1 v' (n + s.size) (xs ++ Lib.strCells s) ∧ w.grownBy w' none := by
  obtain ⟨i0, hi, hz0, hz1, hz2⟩ := info_parts info5
  obtain ⟨hl, ⟨rfl, rfl⟩ | ⟨a, rfl, hcell⟩⟩ := hF
  · obtain rfl : xs = [] := List.eq_nil_of_length_eq_zero hl
    obtain ⟨v', w', hrun, r1, r2, _⟩ := Lib.run_append_own_string (P := Tryd.prog) w w.heap.size 22 9 ty 5 i0 Tryd.underlying22 Tryd.underlying9 hi hz0 hz1 hz2 (.slice none 0 0) 0 [] (World.ownsRow_nil w _ 5 1) s (by unfold maxLen; omega) (by omega) (Nat.le_refl _)
    exact ⟨v', w', hrun, r1, r2⟩
  · have hge := grownCap_ge w (n + s.size) n 5
    have hcm : grownCap w (n + s.size) n 5 ≤ maxLen := grownCap_le_maxLen w (n + s.size) n 5 (by unfold maxLen; omega)
    have hr := Lib.run_append_grow_string (P := Tryd.prog) w 22 9 ty 5 i0 (.int .u8 0) Tryd.underlying22 Tryd.underlying9 hi hz0 a n n xs (by rw [hz1]; omega) hcell s (by omega) (by omega) (by rw [hz2]; exact growslice_fits (bytes := 1) (by omega) (by omega))
    have hlen : (xs ++ Lib.strCells s).length = (n + s.size) * 1 := by rw [List.length_append, hl, Lib.strCells_length]; omega
    refine ⟨_, _, hr, ⟨hlen, .inr ⟨w.heap.size, _, _, rfl, Nat.le_refl _, heap_alloc_new w.drew _, hge, hcm, ?_, ?_⟩⟩, ⟨rfl, rfl, rfl, by simp, fun k hk _ => Below.heap_alloc w.drew _ k hk⟩⟩
    · have hz1' : (Value.int IntKind.u8 0).cells.size = 1 := rfl
      simp only [Array.size_append, List.size_toArray, size_zeroCells, hz1', hl, Lib.strCells_length]
      omega
    · simp only [Array.toList_append, List.append_assoc]
      rw [← List.append_assoc, ← hlen]
      exact List.take_left

theorem wpList_full (w : World) {ops : Array Oper} {rest : List Oper} {o : Oper} {a : Act} {Q : Exit → Act → World → Prop}
    (hg : o.guard = none) (s x : Operand) (hop : o.op = Op.call { callee := Callee.builtin Builtin.append, args := #[s, x], argTypes := #[22, 22] })
    (sv : Value) (n : Nat) (xs : List Value) (hs : a.eval s = sv) (hF : Full w sv n xs)
    (ad : Addr) (m c : Nat) (news : List Value) (hx : a.eval x = .slice (some ad) m c) (hm : 0 < m) (hn : news.length = m) (hc : ∀ j u, news[j]? = some u → w.cell? (ad.add j) = some u) (h1c : ∀ u ∈ news, u.oneCell' = true)
    (hlim : n + m ≤ 140737488355328)
    (hK : ∀ v' w', w'.ownsRow w.heap.size 5 1 v' (n + m) (xs ++ news) → w.grownBy w' none → wpList Tryd.prog ops Q rest (a.put o.dst v') w') :
    wpList Tryd.prog ops Q (o :: rest) a w := by
  refine wpList_plain hg fun K hK' => ?_
  obtain ⟨v', w', hrun, r1, r2⟩ := full_run w o.type sv n xs hF ad m c news hm hn hc h1c hlim
  unfold Oper.wp
  simp [execOp, hop, resolve, invoke, builtin, hs, hx, hrun, Result.andThen]
  exact hK' _ _ (hK v' w' r1 r2)

theorem wpList_full_string (w : World) {ops : Array Oper} {rest : List Oper} {o : Oper} {a : Act} {Q : Exit → Act → World → Prop}
    (hg : o.guard = none) (s x : Operand) (hop : o.op = Op.call { callee := Callee.builtin Builtin.append, args := #[s, x], argTypes := #[22, 9] })
    (sv : Value) (n : Nat) (xs : List Value) (hs : a.eval s = sv) (hF : Full w sv n xs)
    (str : ByteArray) (hx : a.eval x = .string str) (hm : 0 < str.size) (hlim : n + str.size ≤ 140737488355328)
    (hK : ∀ v' w', w'.ownsRow w.heap.size 5 1 v' (n + str.size) (xs ++ Lib.strCells str) → w.grownBy w' none → wpList Tryd.prog ops Q rest (a.put o.dst v') w') :
    wpList Tryd.prog ops Q (o :: rest) a w := by
  refine wpList_plain hg fun K hK' => ?_
  obtain ⟨v', w', hrun, r1, r2⟩ := full_run_string w o.type sv n xs hF str hm hlim
  unfold Oper.wp
  simp [execOp, hop, resolve, invoke, builtin, hs, hx, hrun, Result.andThen]
  exact hK' _ _ (hK v' w' r1 r2)

end Go.Proofs.Qxb6602662aDoor.Wk
