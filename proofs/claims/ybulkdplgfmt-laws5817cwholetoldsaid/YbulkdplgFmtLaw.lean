/-
  THE LAW's WALK: its three ways, out of the contracts.
-/
import Derived.Test.YbulkdplgFmtEnds
namespace Go.Proofs.YbulkdplgFmt
open Go.RowKit Go.Extern.Stop Go.Stop Go.Extern

/-- The law's seven blocks as it lays them. -/
theorem start_inv (v0 v1 : Int) (f0 f1 : Bool) (w : World) :
    Inv w.heap.size v0 v1 f0 f1 [] (((((((w.alloc (.cells #[.string e0s] 36)).alloc (.cells #[.string e1s] 36)).alloc (.cells #[.int .i64 v0, .int .i64 v1] 25)).alloc (.cells #[.bool f0, .bool f1] 26)).alloc (.cells #[.iface 34 (.pointer (some ⟨w.heap.size, 0, none⟩)), .iface 34 (.pointer (some ⟨w.heap.size + 1, 0, none⟩))] 27)).alloc (.cells #[.slice none 0 0] 28)).alloc (.cells #[.int .i64 0] 3)) := by
  have past : ∀ (u : World) (o : Obj) (k : Nat), k < u.heap.size → (u.alloc o).heap[k]? = u.heap[k]? := fun u o k h => Below.heap_alloc u o k h
  have new : ∀ (u : World) (o : Obj) (k : Nat), k = u.heap.size → (u.alloc o).heap[k]? = some o := fun u o k h => by subst h; show (u.heap.push o)[u.heap.size]? = _; simp
  refine ⟨?_, ?_, ?_, ?_, ?_, ?_, ⟨.slice none 0 0, ?_, World.ownsRow_nil _ _ _ _⟩⟩
  · iterate 6 rw [past _ _ _ (by simp <;> omega)]
    exact new _ _ _ (by simp <;> omega)
  · iterate 5 rw [past _ _ _ (by simp <;> omega)]
    exact new _ _ _ (by simp <;> omega)
  · iterate 4 rw [past _ _ _ (by simp <;> omega)]
    exact new _ _ _ (by simp <;> omega)
  · iterate 3 rw [past _ _ _ (by simp <;> omega)]
    exact new _ _ _ (by simp <;> omega)
  · iterate 2 rw [past _ _ _ (by simp <;> omega)]
    exact new _ _ _ (by simp <;> omega)
  · exact new _ _ _ (by simp <;> omega)
  · rw [past _ _ _ (by simp <;> omega)]
    exact new _ _ _ (by simp <;> omega)

theorem start_below (v0 v1 : Int) (f0 f1 : Bool) (w : World) :
    Below w.heap.size w (((((((w.alloc (.cells #[.string e0s] 36)).alloc (.cells #[.string e1s] 36)).alloc (.cells #[.int .i64 v0, .int .i64 v1] 25)).alloc (.cells #[.bool f0, .bool f1] 26)).alloc (.cells #[.iface 34 (.pointer (some ⟨w.heap.size, 0, none⟩)), .iface 34 (.pointer (some ⟨w.heap.size + 1, 0, none⟩))] 27)).alloc (.cells #[.slice none 0 0] 28)).alloc (.cells #[.int .i64 0] 3)) :=
  (((((((Below.refl _ _).alloc (by simp <;> omega) _).alloc (by simp <;> omega) _).alloc (by simp <;> omega) _).alloc (by simp <;> omega) _).alloc (by simp <;> omega) _).alloc (by simp <;> omega) _).alloc (by simp <;> omega) _

/-- 'x != y' at an interface type, the two of different dynamic types: true. -/
theorem run_neq_iface_types {P : Program} {ti : TypeId} {ms : Array (String × TypeId)} (tx ty : TypeId) (vx vy : Value) (hi : P.underlying ti = some (.interface ms)) (hne : tx ≠ ty) (w : World) :
    (binOp .neq ti (.iface tx vx) (.iface ty vy)).run P w = .ok (.bool true) w := by
  have h : ∀ d : Nat, (Op.equalIn (d + 1) ti (.iface tx vx) (.iface ty vy)).run P w = .ok false w := fun d => by simp [Op.equalIn, run_underlying hi, hne]
  simp only [binOp]
  simp [Op.equal, Op.maxDepth, h 9999]

theorem Inv.heardAt {B : Nat} {v0 v1 : Int} {f0 f1 : Bool} {x : ByteArray} {logs : List ByteArray} {w : World} (h : Inv B v0 v1 f0 f1 (x :: logs) w) :
    ∃ g cap, w.cell? ⟨B + 5, 0, none⟩ = some (.slice (some ⟨g, 0, none⟩) (logs.length + 1) cap) ∧ ∀ j s, (x :: logs)[j]? = some s → w.cell? ⟨g, j, none⟩ = some (.string s) := by
  obtain ⟨v, hv, ho⟩ := h.log
  obtain ⟨g, cap, rfl⟩ := owned_form ho
  refine ⟨g, cap, cell_of_one hv, fun j s hj => ?_⟩
  have := ho.cells (g := g) rfl j (.string s) (by rw [List.getElem?_map, hj]; rfl)
  rw [Addr.add_lit, Nat.zero_add] at this
  exact this

set_option maxHeartbeats 800000 in
theorem law_first (F : Interp) (a b c d : ByteArray) (v0 v1 : Int) (f1 : Bool) (w : World) (hF : F.answers w.tape) :
    Calls Ybaf.prog 3 #[.string a, .string b, .string c, .string d, .int .i64 v0, .int .i64 v1, .bool true, .bool f1] w fun e w' => e = .returned (.bool true) ∧ Below w.heap.size w w' := by
  have hI : Hid _ := start_inv v0 v1 true f1 w
  have hB : Hid _ := start_below v0 v1 true f1 w
  have hty := fun x y w => run_neq_iface_types (P := Ybaf.prog) 45 34 x y Ybaf.underlying23 (by decide) w
  go_enter Ybaf.func3, Ybaf.ntmps3
  go_wp2_with (go_at_call 4; refine (new_any _ _).mono ?_; rintro e w' ⟨rfl, rfl⟩)
  refine (ends_first F w.heap.size v0 v1 f1 a b c d _ ?_ hI.out).mono ?_
  · exact hF
  rintro e w1 ⟨⟨q, hq, rfl, hc⟩, h1, hb1⟩
  have hb := hB.out.trans hb1
  obtain ⟨g, cap, hl, hs⟩ := h1.heardAt
  have hs0 := hs 0 b rfl
  have b0 := h1.b0
  have b1 := h1.b1
  clear hI hB hb1 h1 hs
  go_wp2_with fail
  refine (is_wrap_same q 0 ⟨w.heap.size, 0, none⟩ _ hc).mono ?_
  rintro e w2 ⟨rfl, rfl⟩
  go_wp2_with fail
  refine (is_wrap_other q 0 ⟨w.heap.size + 1, 0, none⟩ ⟨w.heap.size, 0, none⟩ _ _ _ _ _ hc (by simp) b0 b1).mono ?_
  rintro e w3 ⟨rfl, rfl⟩
  go_wp2
  go_ret
  exact ⟨rfl, hb⟩

set_option maxHeartbeats 800000 in
theorem law_last (F : Interp) (a b c d : ByteArray) (v0 v1 : Int) (w : World) (hF : F.answers w.tape) :
    Calls Ybaf.prog 3 #[.string a, .string b, .string c, .string d, .int .i64 v0, .int .i64 v1, .bool false, .bool true] w fun e w' => e = .returned (.bool true) ∧ Below w.heap.size w w' := by
  have hI : Hid _ := start_inv v0 v1 false true w
  have hB : Hid _ := start_below v0 v1 false true w
  have hty := fun x y w => run_neq_iface_types (P := Ybaf.prog) 45 34 x y Ybaf.underlying23 (by decide) w
  go_enter Ybaf.func3, Ybaf.ntmps3
  go_wp2_with (go_at_call 4; refine (new_any _ _).mono ?_; rintro e w' ⟨rfl, rfl⟩)
  refine (ends_last F w.heap.size v0 v1 a b c d _ ?_ hI.out).mono ?_
  · exact hF
  rintro e w1 ⟨⟨q, hq, rfl, hc⟩, h1, hb1⟩
  have hb := hB.out.trans hb1
  obtain ⟨g, cap, hl, hs⟩ := h1.heardAt
  have hs0 := hs 0 b rfl
  have hs1 := hs 1 d rfl
  have b0 := h1.b0
  have b1 := h1.b1
  simp only [List.length_cons, List.length_nil, Nat.zero_add] at hl
  clear hI hB hb1 h1 hs
  go_wp2_with fail
  refine (is_wrap_same q 0 ⟨w.heap.size + 1, 0, none⟩ _ hc).mono ?_
  rintro e w2 ⟨rfl, rfl⟩
  go_wp2_with fail
  refine (is_wrap_other q 0 ⟨w.heap.size, 0, none⟩ ⟨w.heap.size + 1, 0, none⟩ _ _ _ _ _ hc (by simp) b1 b0).mono ?_
  rintro e w3 ⟨rfl, rfl⟩
  go_wp2
  go_ret
  exact ⟨rfl, hb⟩

set_option maxHeartbeats 800000 in
theorem law_fine (a b c d : ByteArray) (v0 v1 : Int) (w : World) :
    Calls Ybaf.prog 3 #[.string a, .string b, .string c, .string d, .int .i64 v0, .int .i64 v1, .bool false, .bool false] w fun e w' => e = .returned (.bool true) ∧ Below w.heap.size w w' := by
  have hI : Hid _ := start_inv v0 v1 false false w
  have hB : Hid _ := start_below v0 v1 false false w
  go_enter Ybaf.func3, Ybaf.ntmps3
  go_wp2_with (go_at_call 4; refine (new_any _ _).mono ?_; rintro e w' ⟨rfl, rfl⟩)
  refine (ends_fine w.heap.size v0 v1 a b c d _ hI.out).mono ?_
  rintro e w1 ⟨rfl, h1, hb1⟩
  have hb := hB.out.trans hb1
  obtain ⟨g, cap, hl, hs⟩ := h1.heardAt
  have hs0 := hs 0 b rfl
  have hs1 := hs 1 d rfl
  simp only [List.length_cons, List.length_nil, Nat.zero_add] at hl
  clear hI hB hb1 h1 hs
  go_wp2
  go_ret
  exact ⟨rfl, hb⟩

/-- THE LAW, whatever its arguments: true; nothing that was there has turned. -/
theorem law_any (F : Interp) (a b c d : ByteArray) (v0 v1 : Int) (f0 f1 : Bool) (w : World) (hF : F.answers w.tape) :
    Calls Ybaf.prog 3 #[.string a, .string b, .string c, .string d, .int .i64 v0, .int .i64 v1, .bool f0, .bool f1] w fun e w' => e = .returned (.bool true) ∧ Below w.heap.size w w' := by
  cases f0
  · cases f1
    · exact law_fine a b c d v0 v1 w
    · exact law_last F a b c d v0 v1 w hF
  · exact law_first F a b c d v0 v1 f1 w hF

end Go.Proofs.YbulkdplgFmt
