/-
  THE LEAVES: errors.New by its contract; the stand-in (the law's closure, function 5) by its contract over 'Inv': what the law's own seven blocks hold when 'logs' has been heard.
-/
import Derived.Test.YbulkdplgFmtChecked
import Derived.WalkKit
import Derived.OneCell
namespace Go.Proofs.YbulkdplgFmt
open Go.RowKit

theorem Ybaf.info9 : (Ybaf.prog.info? 9).map (fun i => (i.zero, i.size, i.bytes)) = some (some (.string ByteArray.empty), 1, 16) := by kernel_rfl

def e0s : ByteArray := ⟨#[102, 105, 114, 115, 116, 32, 102, 97, 117, 108, 116]⟩
def e1s : ByteArray := ⟨#[108, 97, 115, 116, 32, 102, 97, 117, 108, 116]⟩

theorem new_any (s : ByteArray) (w : World) :
    Calls Ybaf.prog 4 #[.string s] w fun e w' => e = .returned (.iface 34 (.pointer (some ⟨w.heap.size, 0, none⟩))) ∧ w' = w.alloc (.cells #[.string s] 36) := by
  go_enter Ybaf.func4, Ybaf.ntmps4
  go_wp2
  go_ret
  exact ⟨rfl, rfl⟩

/-- What the law's blocks from B on hold when the stand-in has heard 'logs'. -/
structure Inv (B : Nat) (v0 v1 : Int) (f0 f1 : Bool) (logs : List ByteArray) (w : World) : Prop where
  b0 : w.heap[B]? = some (.cells #[.string e0s] 36 (0, 0))
  b1 : w.heap[B + 1]? = some (.cells #[.string e1s] 36 (0, 0))
  vals : w.heap[B + 2]? = some (.cells #[.int .i64 v0, .int .i64 v1] 25 (0, 0))
  fails : w.heap[B + 3]? = some (.cells #[.bool f0, .bool f1] 26 (0, 0))
  errs : w.heap[B + 4]? = some (.cells #[.iface 34 (.pointer (some ⟨B, 0, none⟩)), .iface 34 (.pointer (some ⟨B + 1, 0, none⟩))] 27 (0, 0))
  k : w.heap[B + 6]? = some (.cells #[.int .i64 (logs.length : Int)] 3 (0, 0))
  log : ∃ v, w.heap[B + 5]? = some (.cells #[v] 28 (0, 0)) ∧ w.ownsRow (B + 7) 9 1 v logs.length (logs.map Value.string)

theorem Inv.size {B : Nat} {v0 v1 : Int} {f0 f1 : Bool} {logs : List ByteArray} {w : World} (h : Inv B v0 v1 f0 f1 logs w) : B + 7 ≤ w.heap.size := by
  have := lt_of_block h.k
  omega

/-- New blocks and draws leave it. -/
theorem Inv.below {B : Nat} {v0 v1 : Int} {f0 f1 : Bool} {logs : List ByteArray} {w w' : World} (h : Inv B v0 v1 f0 f1 logs w) (hb : Below w.heap.size w w') : Inv B v0 v1 f0 f1 logs w' := by
  obtain ⟨v, hv, ho⟩ := h.log
  have hz := h.size
  refine ⟨?_, ?_, ?_, ?_, ?_, ?_, ⟨v, ?_, ?_⟩⟩
  · rw [hb.block _ (by omega)]; exact h.b0
  · rw [hb.block _ (by omega)]; exact h.b1
  · rw [hb.block _ (by omega)]; exact h.vals
  · rw [hb.block _ (by omega)]; exact h.fails
  · rw [hb.block _ (by omega)]; exact h.errs
  · rw [hb.block _ (by omega)]; exact h.k
  · rw [hb.block _ (by omega)]; exact hv
  · exact ho.kept (row := .none) ⟨hb.os, hb.tape, hb.output, hb.size, fun k hk _ => hb.block k hk⟩ (by cases hv' : v.ownBlock <;> simp)

theorem two_cells {w : World} {b : Nat} {x y : Value} {t : TypeId} (h : w.heap[b]? = some (.cells #[x, y] t (0, 0))) : w.cell? ⟨b, 0, none⟩ = some x ∧ w.cell? ⟨b, 1, none⟩ = some y := by
  constructor <;> simp [World.cell?, h]


theorem rel_heard {B : Nat} {v0 v1 : Int} {f0 f1 : Bool} {logs : List ByteArray} {s : ByteArray} {w w1 : World} {v v' : Value} {o : Obj} (h : Inv B v0 v1 f0 f1 logs w) (hv : w.heap[B + 5]? = some (.cells #[v] 28 (0, 0)))
    (hown : w.ownsRow (B + 7) 9 1 v logs.length (logs.map Value.string)) (hown' : w1.ownsRow (B + 7) 9 1 v' (logs.length + 1) (logs.map Value.string ++ [Value.string s])) (hg : (w.alloc o).grownBy w1 v.ownBlock) :
    (w1.cell? ⟨B + 5, 0, none⟩ = some v ∧ w1.frozen? ⟨B + 5, 0, none⟩ = false) ∧ (w1.cell? ⟨B + 6, 0, none⟩ = some (.int .i64 (logs.length : Int)) ∧ w1.frozen? ⟨B + 6, 0, none⟩ = false) ∧
    (w1.cell? ⟨B + 2, 0, none⟩ = some (.int .i64 v0) ∧ w1.cell? ⟨B + 2, 1, none⟩ = some (.int .i64 v1)) ∧ (w1.cell? ⟨B + 3, 0, none⟩ = some (.bool f0) ∧ w1.cell? ⟨B + 3, 1, none⟩ = some (.bool f1)) ∧
    (w1.cell? ⟨B + 4, 0, none⟩ = some (.iface 34 (.pointer (some ⟨B, 0, none⟩))) ∧ w1.cell? ⟨B + 4, 1, none⟩ = some (.iface 34 (.pointer (some ⟨B + 1, 0, none⟩)))) ∧
    (Inv B v0 v1 f0 f1 (logs ++ [s]) ((w1.setCell ⟨B + 5, 0, none⟩ v').setCell ⟨B + 6, 0, none⟩ (.int .i64 ((logs.length : Int) + 1))) ∧ Below B w ((w1.setCell ⟨B + 5, 0, none⟩ v').setCell ⟨B + 6, 0, none⟩ (.int .i64 ((logs.length : Int) + 1)))) := by
  have hz := h.size
  have hlt := hown.lt
  have old : ∀ j, j < B + 7 → w1.heap[j]? = w.heap[j]? := fun j hj => by
    rw [hg.block j (by simp; omega) (fun e => by have := (hlt j e.symm).1; omega)]
    exact Below.heap_alloc _ _ _ (by omega)
  have hk1 := (old (B + 6) (by omega)).trans h.k
  have hv1 := (old (B + 5) (by omega)).trans hv
  have e2 := two_cells ((old (B + 2) (by omega)).trans h.vals)
  have e3 := two_cells ((old (B + 3) (by omega)).trans h.fails)
  have e4 := two_cells ((old (B + 4) (by omega)).trans h.errs)
  have oth : ∀ j, j ≠ B + 5 → j ≠ B + 6 → ((w1.setCell ⟨B + 5, 0, none⟩ v').setCell ⟨B + 6, 0, none⟩ (.int .i64 ((logs.length : Int) + 1))).heap[j]? = w1.heap[j]? := fun j h5 h6 => by
    rw [Below.heap_setCell _ _ _ _ (by exact h6), Below.heap_setCell _ _ _ _ (by exact h5)]
  refine ⟨⟨cell_of_one hv1, free_of_one hv1⟩, ⟨cell_of_one hk1, free_of_one hk1⟩, e2, e3, e4, ⟨?_, ?_, ?_, ?_, ?_, ?_, ⟨v', ?_, ?_⟩⟩, ?_⟩
  · rw [oth _ (by omega) (by omega), old _ (by omega)]; exact h.b0
  · rw [oth _ (by omega) (by omega), old _ (by omega)]; exact h.b1
  · rw [oth _ (by omega) (by omega), old _ (by omega)]; exact h.vals
  · rw [oth _ (by omega) (by omega), old _ (by omega)]; exact h.fails
  · rw [oth _ (by omega) (by omega), old _ (by omega)]; exact h.errs
  · have e : ((logs ++ [s]).length : Int) = (logs.length : Int) + 1 := by simp
    rw [e]
    exact one_setCell (v := .int .i64 (logs.length : Int)) ((Below.heap_setCell _ _ _ _ (by show B + 6 ≠ B + 5; omega)).trans hk1)
  · exact (Below.heap_setCell _ _ _ _ (by show B + 5 ≠ B + 6; omega)).trans (one_setCell hv1)
  · have e : (logs ++ [s]).map Value.string = logs.map Value.string ++ [Value.string s] := by simp
    rw [e, List.length_append]
    exact ownsRow_setCell_below (ownsRow_setCell_below hown' (by show B + 5 < B + 7; omega) _) (by show B + 6 < B + 7; omega) _
  · refine (((((Below.refl B w).alloc (by omega) o).grown hg (by simp; omega) (fun j hj => by have := (hlt j hj).1; omega)).setCell (by show B ≤ B + 5; omega) _).setCell (by show B ≤ B + 6; omega) _)

/-- The stand-in's answer: what it returns at its first call (n = 0) and at its second. -/
def heard (B : Nat) (v0 v1 : Int) (f0 f1 : Bool) : Nat → Value
  | 0 => .tuple #[.int .i64 v0, if f0 then .iface 34 (.pointer (some ⟨B, 0, none⟩)) else .nilIface]
  | _ => .tuple #[.int .i64 v1, if f1 then .iface 34 (.pointer (some ⟨B + 1, 0, none⟩)) else .nilIface]

theorem owned_form {w1 : World} {B n : Nat} {v' : Value} {xs : List Value} (h : w1.ownsRow B 9 1 v' (n + 1) xs) : ∃ g cap, v' = .slice (some ⟨g, 0, none⟩) (n + 1) cap := by
  rcases h.2 with ⟨_, h0⟩ | ⟨g, cap, cur, hv, _⟩
  · omega
  · exact ⟨g, cap, hv⟩

set_option maxHeartbeats 1600000 in
theorem parse_any (B : Nat) (v0 v1 : Int) (f0 f1 : Bool) (logs : List ByteArray) (s : ByteArray) (w : World) (h : Inv B v0 v1 f0 f1 logs w) (hl : logs.length < 2) :
    Calls Ybaf.prog 5 #[.string s, .pointer (some ⟨B + 5, 0, none⟩), .pointer (some ⟨B + 6, 0, none⟩), .pointer (some ⟨B + 3, 0, none⟩), .pointer (some ⟨B + 2, 0, none⟩), .pointer (some ⟨B + 4, 0, none⟩)] w fun e w' =>
      e = .returned (heard B v0 v1 f0 f1 logs.length) ∧ Inv B v0 v1 f0 f1 (logs ++ [s]) w' ∧ Below B w w' := by
  obtain ⟨i0, hi, hz0, hz1, hz2⟩ := info_parts Ybaf.info9
  have hsz := h.size
  obtain ⟨v, hv, hown⟩ := h.log
  have cL := cell_of_one hv
  have fL := free_of_one hv
  rcases (show logs = [] ∨ ∃ x, logs = [x] by
    match logs, hl with
    | [], _ => exact Or.inl rfl
    | [x], _ => exact Or.inr ⟨x, rfl⟩) with rfl | ⟨x, rfl⟩
  · cases f0
    all_goals
      go_enter Ybaf.func5, Ybaf.ntmps5
      go_wp2_with (at_builtin; refine wpList_append_own _ rfl _ _ 28 rfl (B + 7) 9 i0 (.string ByteArray.empty) 1 16 Ybaf.underlying28 hi hz0 hz1 hz2 rfl (by decide) _ _ _ rfl (hown.alloc _) ⟨w.heap.size, 0, none⟩ 1 1 [.string s] rfl rfl ?c1 ?c2 ?c3 ?c4 ?c5 ?_)
      case c1 =>
        intro j u hj
        match j, hj with
        | 0, hj => simp at hj; subst hj; simp [Addr.add]
      case c2 => intro u hu; simp at hu; subst hu; rfl
      case c3 => unfold maxLen; simp
      case c4 => simp
      case c5 => simp; omega
      intro v' w1 hown' hgrow hnn
      obtain ⟨⟨c5, f5⟩, ⟨c6, f6⟩, ⟨c20, c21⟩, ⟨c30, c31⟩, ⟨c40, c41⟩, R0⟩ := rel_heard h hv hown hown' hgrow
      obtain ⟨g, cap, hv'⟩ := owned_form hown'
      rw [hv'] at R0 ⊢
      have R : Hid _ := R0
      clear hown' hgrow hown cL fL hv h hi hz0 hz1 hz2 R0 hv' hnn
      simp only [List.length_nil, Int.natCast_zero] at c6
      go_wp2
      try (go_region; go_wp2)
      go_ret2
      exact ⟨rfl, R.out.1.below (by repeat (first | exact Below.refl _ _ | apply Below.drew)), R.out.2.trans (by repeat (first | exact Below.refl _ _ | apply Below.drew))⟩
  · cases f1
    all_goals
      go_enter Ybaf.func5, Ybaf.ntmps5
      go_wp2_with (at_builtin; refine wpList_append_own _ rfl _ _ 28 rfl (B + 7) 9 i0 (.string ByteArray.empty) 1 16 Ybaf.underlying28 hi hz0 hz1 hz2 rfl (by decide) _ _ _ rfl (hown.alloc _) ⟨w.heap.size, 0, none⟩ 1 1 [.string s] rfl rfl ?c1 ?c2 ?c3 ?c4 ?c5 ?_)
      case c1 =>
        intro j u hj
        match j, hj with
        | 0, hj => simp at hj; subst hj; simp [Addr.add]
      case c2 => intro u hu; simp at hu; subst hu; rfl
      case c3 => unfold maxLen; simp
      case c4 => simp
      case c5 => simp; omega
      intro v' w1 hown' hgrow hnn
      obtain ⟨⟨c5, f5⟩, ⟨c6, f6⟩, ⟨c20, c21⟩, ⟨c30, c31⟩, ⟨c40, c41⟩, R0⟩ := rel_heard h hv hown hown' hgrow
      obtain ⟨g, cap, hv'⟩ := owned_form hown'
      rw [hv'] at R0 ⊢
      have R : Hid _ := R0
      clear hown' hgrow hown cL fL hv h hi hz0 hz1 hz2 R0 hv' hnn
      simp only [List.length_cons, List.length_nil, Nat.zero_add, Int.natCast_one] at c6
      go_wp2
      try (go_region; go_wp2)
      go_ret2
      exact ⟨rfl, R.out.1.below (by repeat (first | exact Below.refl _ _ | apply Below.drew)), R.out.2.trans (by repeat (first | exact Below.refl _ _ | apply Below.drew))⟩
end Go.Proofs.YbulkdplgFmt
