/-
  parseEnds[int] by its contract, called with the law's stand-in: its three ways.
-/
import Derived.Test.YbulkdplgFmtParse
import Derived.Test.YbulkdplgFmtErrorf
import Derived.Test.YbulkdplgFmtIs
namespace Go.Proofs.YbulkdplgFmt
open Go.RowKit Go.Extern.Stop Go.Stop Go.Extern

/-- What parseEnds hands back where it fails: a new wrapError, its inner error the stand-in's at block c. -/
def Wrapped (B c : Nat) (e : Ending) (w' : World) : Prop :=
  ∃ q, B + 7 ≤ q ∧ e = .returned (.tuple #[.int .i64 0, .int .i64 0, .iface 45 (.pointer (some ⟨q, 0, none⟩))]) ∧ w'.cell? ⟨q, 0 + 1, none⟩ = some (.iface 34 (.pointer (some ⟨c, 0, none⟩)))

def cl (B : Nat) : Value := .func (.func 5) #[] #[.pointer (some ⟨B + 5, 0, none⟩), .pointer (some ⟨B + 6, 0, none⟩), .pointer (some ⟨B + 3, 0, none⟩), .pointer (some ⟨B + 2, 0, none⟩), .pointer (some ⟨B + 4, 0, none⟩)]

/-- Behind the variadic slice's block and fmt.Errorf's: nothing old has turned; the new wrapError's second cell. -/
theorem behind {B : Nat} {v0 v1 : Int} {f0 f1 : Bool} {logs : List ByteArray} {w0 w1 : World} {a t : ByteArray} {x : Value} (h : Inv B v0 v1 f0 f1 logs w1) (hb : Below B w0 w1) :
    Inv B v0 v1 f0 f1 logs ((w1.alloc (.cells #[.iface 9 (.string a), x] 20)).alloc (.cells #[.string t, x] 80)).drew ∧ Below B w0 ((w1.alloc (.cells #[.iface 9 (.string a), x] 20)).alloc (.cells #[.string t, x] 80)).drew ∧
    ((w1.alloc (.cells #[.iface 9 (.string a), x] 20)).alloc (.cells #[.string t, x] 80)).drew.cell? ⟨w1.heap.size + 1, 0 + 1, none⟩ = some x := by
  have hz := h.size
  refine ⟨h.below ((((Below.refl _ _).alloc (Nat.le_refl _) _).alloc (by simp) _).drew), ((hb.alloc (by omega) _).alloc (by simp; omega) _).drew, ?_⟩
  go_simp

set_option maxHeartbeats 800000 in
theorem ends_first (F : Interp) (B : Nat) (v0 v1 : Int) (f1 : Bool) (a b c d : ByteArray) (w : World) (hF : F.answers w.tape) (h : Inv B v0 v1 true f1 [] w) :
    Calls Ybaf.prog 6 #[cl B, .string a, .string b, .string c, .string d] w fun e w' => Wrapped B B e w' ∧ Inv B v0 v1 true f1 [b] w' ∧ Below B w w' := by
  unfold cl
  go_enter Ybaf.func6, Ybaf.ntmps6
  go_wp2_with (go_at_call 5; refine (parse_any B v0 v1 true f1 [] b _ h (by simp)).mono ?_; rintro e w1 ⟨rfl, h1, hb1⟩; simp only [heard, List.length_nil, if_true, List.nil_append] at h1 ⊢)
  have hz := h1.size
  have hc := cell_of_one h1.b0
  refine (errorf_any F a e0s ⟨B, 0, none⟩ w1.heap.size _ ?_ ?_ ?_ ?_).mono ?_
  · show F.answers w1.tape; rw [hb1.tape]; exact hF
  · go_simp
  · go_simp
  · rw [World.cell?_alloc_past _ _ _ (by show B < _; omega)]; exact hc
  rintro e w2 ⟨rfl, t, rfl⟩
  have R0 := behind (a := a) (t := t) (x := .iface 34 (.pointer (some ⟨B, 0, none⟩))) h1 hb1
  have R : Hid _ := R0
  clear R0 hb1 h1
  go_wp2
  go_ret3
  exact ⟨⟨w1.heap.size + 1, by omega, rfl, R.out.2.2⟩, R.out.1, R.out.2.1⟩

set_option maxHeartbeats 800000 in
theorem ends_last (F : Interp) (B : Nat) (v0 v1 : Int) (a b c d : ByteArray) (w : World) (hF : F.answers w.tape) (h : Inv B v0 v1 false true [] w) :
    Calls Ybaf.prog 6 #[cl B, .string a, .string b, .string c, .string d] w fun e w' => Wrapped B (B + 1) e w' ∧ Inv B v0 v1 false true [b, d] w' ∧ Below B w w' := by
  unfold cl
  go_enter Ybaf.func6, Ybaf.ntmps6
  go_wp2_with fail
  refine (parse_any B v0 v1 false true [] b _ h (by simp)).mono ?_
  rintro e w1 ⟨rfl, h1, hb1⟩
  simp only [heard, List.length_nil, List.nil_append] at h1 ⊢
  go_wp2_with fail
  refine (parse_any B v0 v1 false true [b] d _ h1 (by simp)).mono ?_
  rintro e w2 ⟨rfl, h2, hb2⟩
  simp only [heard, List.length_cons, List.length_nil, Nat.zero_add, List.cons_append, List.nil_append, if_true] at h2 ⊢
  have hz := h2.size
  have hc := cell_of_one h2.b1
  have hb := hb1.trans hb2
  clear h1 hb1 hb2 h
  go_wp2_with fail
  refine (errorf_any F c e1s ⟨B + 1, 0, none⟩ w2.heap.size _ ?_ ?_ ?_ ?_).mono ?_
  · show F.answers w2.tape; rw [hb.tape]; exact hF
  · go_simp
  · go_simp
  · rw [World.cell?_alloc_past _ _ _ (by show B + 1 < _; omega)]; exact hc
  rintro e w3 ⟨rfl, t, rfl⟩
  have R0 := behind (a := c) (t := t) (x := .iface 34 (.pointer (some ⟨B + 1, 0, none⟩))) h2 hb
  have R : Hid _ := R0
  clear R0 hb h2
  go_wp2
  go_ret3
  exact ⟨⟨w2.heap.size + 1, by omega, rfl, R.out.2.2⟩, R.out.1, R.out.2.1⟩

set_option maxHeartbeats 800000 in
theorem ends_fine (B : Nat) (v0 v1 : Int) (a b c d : ByteArray) (w : World) (h : Inv B v0 v1 false false [] w) :
    Calls Ybaf.prog 6 #[cl B, .string a, .string b, .string c, .string d] w fun e w' => e = .returned (.tuple #[.int .i64 v0, .int .i64 v1, .nilIface]) ∧ Inv B v0 v1 false false [b, d] w' ∧ Below B w w' := by
  unfold cl
  go_enter Ybaf.func6, Ybaf.ntmps6
  go_wp2_with fail
  refine (parse_any B v0 v1 false false [] b _ h (by simp)).mono ?_
  rintro e w1 ⟨rfl, h1, hb1⟩
  simp only [heard, List.length_nil, List.nil_append] at h1 ⊢
  go_wp2_with fail
  refine (parse_any B v0 v1 false false [b] d _ h1 (by simp)).mono ?_
  rintro e w2 ⟨rfl, h2, hb2⟩
  simp only [heard, List.length_cons, List.length_nil, Nat.zero_add, List.cons_append, List.nil_append] at h2 ⊢
  have hb := hb1.trans hb2
  clear h1 hb1 hb2 h
  go_wp2
  go_ret3
  exact ⟨rfl, h2, hb⟩

end Go.Proofs.YbulkdplgFmt
