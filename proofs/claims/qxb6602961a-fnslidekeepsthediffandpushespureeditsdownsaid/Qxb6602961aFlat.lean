import Derived.Test.Qxb6602961aClone
import Derived.BigRegion
namespace Go.Proofs.Qxb6602961a.Wk
open Go.ChangeShapes Go.WideShapes Go.ChangeAt Go.RowKit
set_option linter.unusedVariables false

theorem info39 : (Try.prog.info? 39).map (fun i => (i.zero, i.size, i.bytes)) = some (some (.agg #[.int .i64 0, .int .i64 0, .int .i64 0, .int .i64 0]), 4, 32) := by kernel_rfl

/-- The cells of edits. -/
def flat : List Ed → List Value
  | [] => []
  | e :: es => .int .i64 e.o :: .int .i64 e.d :: .int .i64 e.n :: .int .i64 e.i :: flat es

theorem flat_len : ∀ es : List Ed, (flat es).length = es.length * 4
  | [] => rfl
  | e :: es => by simp [flat, flat_len es]; omega

theorem flat_app : ∀ es fs : List Ed, flat (es ++ fs) = flat es ++ flat fs
  | [], _ => rfl
  | e :: es, fs => by simp [flat, flat_app es fs]

theorem flat_at : ∀ (es : List Ed) (k : Nat), k < es.length → (flat es)[k * 4]? = some (.int .i64 (ed es k).o) ∧ (flat es)[k * 4 + 1]? = some (.int .i64 (ed es k).d) ∧ (flat es)[k * 4 + 2]? = some (.int .i64 (ed es k).n) ∧ (flat es)[k * 4 + 3]? = some (.int .i64 (ed es k).i)
  | [], k, h => by simp at h
  | e :: es, 0, _ => by simp [flat, ed]
  | e :: es, k + 1, h => by
    have := flat_at es k (by simp at h; omega)
    rw [show (k + 1) * 4 = k * 4 + 4 by omega]
    simpa [flat, ed] using this

theorem flat_rep : ∀ n : Nat, flat (List.replicate n ⟨0, 0, 0, 0⟩) = List.replicate (n * 4) (.int .i64 0)
  | 0 => rfl
  | n + 1 => by
    rw [List.replicate_succ, show (n + 1) * 4 = n * 4 + 1 + 1 + 1 + 1 by omega]
    simp only [flat, flat_rep n, List.replicate_succ]

theorem flat_set : ∀ (es : List Ed) (k : Nat) (e : Ed), k < es.length → ((((flat es).set (k * 4) (.int .i64 e.o)).set (k * 4 + 1) (.int .i64 e.d)).set (k * 4 + 2) (.int .i64 e.n)).set (k * 4 + 3) (.int .i64 e.i) = flat (es.set k e)
  | [], k, e, h => by simp at h
  | x :: es, 0, e, _ => by simp [flat]
  | x :: es, k + 1, e, h => by
    have := flat_set es k e (by simp at h; omega)
    rw [show (k + 1) * 4 = k * 4 + 4 by omega]
    simpa [flat] using this

theorem ed_set (es : List Ed) (j k : Nat) (e : Ed) (hj : j < es.length) : ed (es.set j e) k = if k = j then e else ed es k := by
  unfold ed
  simp only [List.getD, List.getElem?_set]
  by_cases h : j = k
  · subst h
    simp [hj]
  · rw [if_neg h, if_neg (fun e => h e.symm)]

theorem ed_ext (es fs : List Ed) (n : Nat) (h1 : es.length = n) (h2 : fs.length = n) (h : ∀ j, j < n → ed es j = ed fs j) : es = fs := by
  apply List.ext_getElem (by omega)
  intro j a b
  have := h j (by omega)
  simpa [ed, List.getD, a, b] using this

/-- Edits in memory that the call has made. -/
def OwE (w : World) (base : Nat) (v : Value) (n : Nat) (es : List Ed) : Prop := w.ownsRow base 39 4 v n (flat es)

theorem OwE.len {w : World} {g n : Nat} {v : Value} {es : List Ed} (h : OwE w g v n es) : es.length = n := by
  have := h.1
  rw [flat_len] at this
  omega

theorem OwE.rd {w : World} {base n c : Nat} {ao : Option Addr} {es : List Ed} (h : OwE w base (.slice ao n c) n es) : RdE w ao n es := by
  have hl := h.len
  refine ⟨hl, ?_, fun hn => ?_⟩
  · intro e
    subst e
    rcases h.2 with ⟨_, h2⟩ | ⟨g, cap, cur, h2, _⟩
    · exact h2
    · simp at h2
  · rcases h.2 with ⟨_, h2⟩ | ⟨g, cap, cur, h2, h3⟩
    · omega
    · simp only [Value.slice.injEq] at h2
      obtain ⟨rfl, _, rfl⟩ := h2
      refine ⟨g, 0, rfl, (World.ownsRow.lt h g rfl).2, fun j hj => ?_⟩
      obtain ⟨c0, c1, c2, c3⟩ := flat_at es j (by omega)
      rw [Nat.zero_add]
      exact ⟨(World.ownsRow.cellAt h _ (by omega)).trans c0, (World.ownsRow.cellAt h _ (by omega)).trans c1, (World.ownsRow.cellAt h _ (by omega)).trans c2, (World.ownsRow.cellAt h _ (by omega)).trans c3⟩

/-- Four cells of the row written. -/
def put4 (w : World) (g p : Nat) (e : Ed) : World :=
  (((w.setCell ⟨g, p, none⟩ (.int .i64 e.o)).setCell ⟨g, p + 1, none⟩ (.int .i64 e.d)).setCell ⟨g, p + 2, none⟩ (.int .i64 e.n)).setCell ⟨g, p + 3, none⟩ (.int .i64 e.i)

theorem OwE.put {w : World} {base g n c : Nat} {es : List Ed} (h : OwE w base (.slice (some ⟨g, 0, none⟩) n c) n es) (k : Nat) (hk : k < n) (e : Ed) : OwE (put4 w g (k * 4) e) base (.slice (some ⟨g, 0, none⟩) n c) n (es.set k e) := by
  have hl := h.len
  have h1 := (World.ownsRow.stored h (k * 4) (.int .i64 e.o)).1
  have h2 := (World.ownsRow.stored h1 (k * 4 + 1) (.int .i64 e.d)).1
  have h3 := (World.ownsRow.stored h2 (k * 4 + 2) (.int .i64 e.n)).1
  have h4 := (World.ownsRow.stored h3 (k * 4 + 3) (.int .i64 e.i)).1
  rw [flat_set es k e (by omega)] at h4
  exact h4

theorem Below.put4 {B : Nat} {w w' : World} (h : Below B w w') (g p : Nat) (hg : B ≤ g) (e : Ed) : Below B w (put4 w' g p e) :=
  (((h.setCell (p := ⟨g, p, none⟩) hg _).setCell (p := ⟨g, p + 1, none⟩) hg _).setCell (p := ⟨g, p + 2, none⟩) hg _).setCell (p := ⟨g, p + 3, none⟩) hg _

theorem zero_at (j : Nat) : (#[Value.int .i64 0, .int .i64 0, .int .i64 0, .int .i64 0] : Array Value)[j % 4]! = .int .i64 0 := by
  have h : j % 4 < 4 := Nat.mod_lt _ (by omega)
  generalize j % 4 = r at h
  match r, h with
  | 0, _ => rfl
  | 1, _ => rfl
  | 2, _ => rfl
  | 3, _ => rfl

theorem made_rep (n : Nat) : (madeCells (Value.agg #[.int .i64 0, .int .i64 0, .int .i64 0, .int .i64 0]).cells (n * 4)).toList = flat (List.replicate n ⟨0, 0, 0, 0⟩) := by
  rw [flat_rep]
  unfold madeCells
  rw [show (Value.agg #[.int .i64 0, .int .i64 0, .int .i64 0, .int .i64 0]).cells = #[Value.int .i64 0, .int .i64 0, .int .i64 0, .int .i64 0] from rfl]
  rw [show (fun x => (#[Value.int .i64 0, .int .i64 0, .int .i64 0, .int .i64 0] : Array Value)[x % (#[Value.int .i64 0, .int .i64 0, .int .i64 0, .int .i64 0] : Array Value).size]!) = (fun _ => Value.int .i64 0) from funext zero_at]
  apply List.ext_getElem
  · simp
  · intro j h1 h2
    simp

set_option maxHeartbeats 1600000 in
theorem toEdits_any (ao : Option Addr) (n cap : Nat) (es : List Ed) (w : World) (hz : RdE w ao n es) (hn : n ≤ 8192) :
    Calls Try.prog 14 #[.slice ao n cap] w fun e w' => e = .returned (.slice (some ⟨w.heap.size, 0, none⟩) n n) ∧ OwE w' w.heap.size (.slice (some ⟨w.heap.size, 0, none⟩) n n) n es ∧ Below w.heap.size w w' := by
  obtain ⟨i0, hi, hz0, hz1, hz2⟩ := info_parts info39
  have HZ := hid hz
  clear hz
  go_enter Try.func14, Try.ntmps14
  go_wp2_with (at_make; refine wpList_make_full _ rfl _ _ 33 rfl w.heap.size 39 i0 _ 4 Try.underlying33 hi hz0 hz1 .i64 .i64 _ _ n rfl rfl rfl rfl (by rw [hz2]; omega) (by unfold maxLen; omega) (Nat.le_refl _) ?_; intro w1 hown hgrow; have HO := hid hown; have HB := hid ((Below.refl w.heap.size w).grown hgrow (Nat.le_refl _) (by intro k hk; cases hk)); clear hown hgrow)
  have HO1 : Hid (OwE w1 w.heap.size (.slice (some ⟨w.heap.size, 0, none⟩) n n) n (List.replicate n ⟨0, 0, 0, 0⟩)) := by
    have h := HO.out
    rw [made_rep] at h
    exact h
  clear HO
  go_loopw [4] (fun iv wr => ∃ (k : Nat) (ps : List Ed), k ≤ n ∧ iv = .int .i64 k ∧ Hid (OwE wr w.heap.size (.slice (some ⟨w.heap.size, 0, none⟩) n n) n ps) ∧ Hid (Below w.heap.size w wr) ∧ Hid (∀ j, j < k → ed ps j = ed es j)) (fun i _ => n - (intOf i).toNat)
  case atStart => exact ⟨0, _, by omega, rfl, HO1, HB, fun _ h => by omega⟩
  case round =>
    obtain ⟨k, ps, hk, rfl, HW, HB2, HE⟩ := hrel
    by_cases hlt : k < n
    · obtain ⟨b, off, ea, hlt2, hc⟩ := HZ.out.2.2 (by omega)
      subst ea
      obtain ⟨c0, c1, c2, c3⟩ := hc k hlt
      have q0 := (HB2.out.cell (p := ⟨b, off + k * 4, none⟩) hlt2).trans c0
      have q1 := (HB2.out.cell (p := ⟨b, off + k * 4 + 1, none⟩) hlt2).trans c1
      have q2 := (HB2.out.cell (p := ⟨b, off + k * 4 + 2, none⟩) hlt2).trans c2
      have q3 := (HB2.out.cell (p := ⟨b, off + k * 4 + 3, none⟩) hlt2).trans c3
      clear hc c0 c1 c2 c3
      have hl := HW.out.len
      obtain ⟨d0, d1, d2, d3⟩ := flat_at ps k (by omega)
      have r0 := (World.ownsRow.cellAt HW.out (k * 4) (by omega)).trans d0
      have r1 := (World.ownsRow.cellAt HW.out (k * 4 + 1) (by omega)).trans d1
      have r2 := (World.ownsRow.cellAt HW.out (k * 4 + 2) (by omega)).trans d2
      have r3 := (World.ownsRow.cellAt HW.out (k * 4 + 3) (by omega)).trans d3
      have f0 := World.ownsRow.frozenAt HW.out (k * 4)
      have f1 := World.ownsRow.frozenAt HW.out (k * 4 + 1)
      have f2 := World.ownsRow.frozenAt HW.out (k * 4 + 2)
      have f3 := World.ownsRow.frozenAt HW.out (k * 4 + 3)
      clear d0 d1 d2 d3
      obtain ⟨x, ex⟩ : ∃ x, x = ed es k := ⟨_, rfl⟩
      rw [← ex] at q0 q1 q2 q3
      have EX := hid ex
      clear ex
      have HS := hid (HW.out.put k hlt x)
      have R2 := hid (Below.put4 HB2.out w.heap.size (k * 4) (Nat.le_refl _) x)
      have R3 := hid (show ∀ j, j < k + 1 → ed (ps.set k x) j = ed es j by
        intro j hj
        rw [ed_set _ _ _ _ (by omega)]
        by_cases he : j = k
        · rw [if_pos he, EX.out, he]
        · rw [if_neg he]; exact HE.out j (by omega))
      have b1 : (k : Int) < (n : Int) := by omega
      clear hl
      go_wp2_with fail
      go_region
      all_goals (
        go_wp2
        go_roundw)
      case rel => exact ⟨k + 1, _, by omega, by go_num, HS, R2.out.drew, R3⟩
      case measure => simp [intOf]; omega
    · have e : ps = es := ed_ext ps es n HW.out.len HZ.out.1 (fun j hj => HE.out j (by omega))
      subst e
      go_wp2
      go_ret
      exact ⟨rfl, HW.out, HB2.out⟩

end Go.Proofs.Qxb6602961a.Wk
