/-
  THE LAW's OWN BLOCKS AS IT LAYS THEM: the two channels and their array, in whatever order the region draws; then the List.
-/
import Derived.Test.YbulkdpnkSt
import Derived.Test.YbulkdpnkBits
namespace Go.Proofs.Ybulkdpnk
open Go.RowKit

theorem mk1 (w : World) : (Instr.makeChan 61 (.int .i64 1)).run Yba.prog w = .ok (.chan (some w.heap.size)) (w.alloc (.chan 1 #[] false 0 0 false)) := by
  have h : (Yba.prog.info? 24).map (·.bytes) = some 0 := by kernel_rfl
  obtain ⟨i, hi, hb⟩ := Option.map_eq_some_iff.1 h
  simpa using Conc.run_makeChan (P := Yba.prog) (w := w) Yba.underlying61 hi .i64 1 (by omega) (by rw [hb]; omega)

/-- What the region that makes the two channels leaves. -/
def Mid (N : Nat) (s : Int) (w w1 : World) (v : Value) : Prop :=
  ∃ p c0 c1, v = .pointer (some ⟨p, 0, none⟩) ∧ w1.cell? ⟨N, 0, none⟩ = some (.int .u64 s) ∧ w1.frozen? ⟨N, 0, none⟩ = false ∧ w1.cell? ⟨N, 31, none⟩ = some (.pointer none) ∧
    w1.heap[p]? = some (.cells #[.chan (some c0), .chan (some c1)] 63 (0, 0)) ∧ w1.heap[c0]? = some (.chan 1 #[] false 0 0 false) ∧ w1.heap[c1]? = some (.chan 1 #[] false 0 0 false) ∧ c0 ≠ c1 ∧ N < c0 ∧ N < c1 ∧ Below N w w1

theorem heap_new (u : World) (o : Obj) (k : Nat) (h : k = u.heap.size) : (u.alloc o).heap[k]? = some o := by
  subst h
  show (u.heap.push o)[u.heap.size]? = _
  simp

theorem four (w : World) (o0 o1 o2 o3 : Obj) : (((((w.alloc o0).alloc o1).alloc o2).alloc o3).drew.heap[w.heap.size]? = some o0 ∧ ((((w.alloc o0).alloc o1).alloc o2).alloc o3).drew.heap[w.heap.size + 1]? = some o1 ∧
    ((((w.alloc o0).alloc o1).alloc o2).alloc o3).drew.heap[w.heap.size + 1 + 1]? = some o2 ∧ ((((w.alloc o0).alloc o1).alloc o2).alloc o3).drew.heap[w.heap.size + 1 + 1 + 1]? = some o3) ∧
    Below w.heap.size w ((((w.alloc o0).alloc o1).alloc o2).alloc o3).drew := by
  have e : ((((w.alloc o0).alloc o1).alloc o2).alloc o3).drew.heap = ((((w.alloc o0).alloc o1).alloc o2).alloc o3).heap := rfl
  rw [e]
  refine ⟨⟨?_, ?_, ?_, heap_new _ _ _ (by simp)⟩, ((((Below.refl _ _).alloc (Nat.le_refl _) _).alloc (by simp) _).alloc (by simp <;> omega) _).alloc (by simp <;> omega) _ |>.drew⟩
  · rw [Below.heap_alloc _ _ _ (by simp <;> omega), Below.heap_alloc _ _ _ (by simp <;> omega), Below.heap_alloc _ _ _ (by simp)]
    exact heap_new _ _ _ rfl
  · rw [Below.heap_alloc _ _ _ (by simp <;> omega), Below.heap_alloc _ _ _ (by simp)]
    exact heap_new _ _ _ (by simp)
  · rw [Below.heap_alloc _ _ _ (by simp)]
    exact heap_new _ _ _ (by simp)

theorem mutex_cells {w1 : World} {N : Nat} {m : Array Value} {s : Int} (h : w1.heap[N]? = some (.cells m 59 (0, 0))) (h0 : m[0]? = some (.int .u64 s)) (h31 : m[31]? = some (.pointer none)) :
    w1.cell? ⟨N, 0, none⟩ = some (.int .u64 s) ∧ w1.frozen? ⟨N, 0, none⟩ = false ∧ w1.cell? ⟨N, 31, none⟩ = some (.pointer none) := by
  refine ⟨?_, ?_, ?_⟩
  · simp [World.cell?, h, h0]
  · simp [World.frozen?, h]
  · simp [World.cell?, h, h31]

theorem mid3 (w : World) (s : Int) (m : Array Value) (c0 c1 : Nat) (h0 : m[0]? = some (.int .u64 s)) (h31 : m[31]? = some (.pointer none))
    (hc : (c0 = w.heap.size + 1 ∧ c1 = w.heap.size + 1 + 1) ∨ (c0 = w.heap.size + 1 + 1 ∧ c1 = w.heap.size + 1)) :
    Mid w.heap.size s w ((((w.alloc (.cells m 59)).alloc (.chan 1 #[] false 0 0 false)).alloc (.chan 1 #[] false 0 0 false)).alloc (.cells #[.chan (some c0), .chan (some c1)] 63)).drew (.pointer (some ⟨w.heap.size + 1 + 1 + 1, 0, none⟩)) := by
  obtain ⟨⟨a, b, c, d⟩, hb⟩ := four w (.cells m 59) (.chan 1 #[] false 0 0 false) (.chan 1 #[] false 0 0 false) (.cells #[.chan (some c0), .chan (some c1)] 63)
  obtain ⟨e1, e2, e3⟩ := mutex_cells a h0 h31
  rcases hc with ⟨rfl, rfl⟩ | ⟨rfl, rfl⟩
  · exact ⟨_, _, _, rfl, e1, e2, e3, d, b, c, by omega, by omega, by omega, hb⟩
  · exact ⟨_, _, _, rfl, e1, e2, e3, d, c, b, by omega, by omega, by omega, hb⟩
theorem mid2 (w : World) (s : Int) (m : Array Value) (c0 c1 : Nat) (h0 : m[0]? = some (.int .u64 s)) (h31 : m[31]? = some (.pointer none))
    (hc : (c0 = w.heap.size + 1 ∧ c1 = w.heap.size + 1 + 1 + 1) ∨ (c0 = w.heap.size + 1 + 1 + 1 ∧ c1 = w.heap.size + 1)) :
    Mid w.heap.size s w ((((w.alloc (.cells m 59)).alloc (.chan 1 #[] false 0 0 false)).alloc (.cells #[.chan (some c0), .chan (some c1)] 63)).alloc (.chan 1 #[] false 0 0 false)).drew (.pointer (some ⟨w.heap.size + 1 + 1, 0, none⟩)) := by
  obtain ⟨⟨a, b, c, d⟩, hb⟩ := four w (.cells m 59) (.chan 1 #[] false 0 0 false) (.cells #[.chan (some c0), .chan (some c1)] 63) (.chan 1 #[] false 0 0 false)
  obtain ⟨e1, e2, e3⟩ := mutex_cells a h0 h31
  rcases hc with ⟨rfl, rfl⟩ | ⟨rfl, rfl⟩
  · exact ⟨_, _, _, rfl, e1, e2, e3, c, b, d, by omega, by omega, by omega, hb⟩
  · exact ⟨_, _, _, rfl, e1, e2, e3, c, d, b, by omega, by omega, by omega, hb⟩
theorem mid1 (w : World) (s : Int) (m : Array Value) (c0 c1 : Nat) (h0 : m[0]? = some (.int .u64 s)) (h31 : m[31]? = some (.pointer none))
    (hc : (c0 = w.heap.size + 1 + 1 ∧ c1 = w.heap.size + 1 + 1 + 1) ∨ (c0 = w.heap.size + 1 + 1 + 1 ∧ c1 = w.heap.size + 1 + 1)) :
    Mid w.heap.size s w ((((w.alloc (.cells m 59)).alloc (.cells #[.chan (some c0), .chan (some c1)] 63)).alloc (.chan 1 #[] false 0 0 false)).alloc (.chan 1 #[] false 0 0 false)).drew (.pointer (some ⟨w.heap.size + 1, 0, none⟩)) := by
  obtain ⟨⟨a, b, c, d⟩, hb⟩ := four w (.cells m 59) (.cells #[.chan (some c0), .chan (some c1)] 63) (.chan 1 #[] false 0 0 false) (.chan 1 #[] false 0 0 false)
  obtain ⟨e1, e2, e3⟩ := mutex_cells a h0 h31
  rcases hc with ⟨rfl, rfl⟩ | ⟨rfl, rfl⟩
  · exact ⟨_, _, _, rfl, e1, e2, e3, b, c, d, by omega, by omega, by omega, hb⟩
  · exact ⟨_, _, _, rfl, e1, e2, e3, b, d, c, by omega, by omega, by omega, hb⟩

theorem cell_at {w1 : World} {b o : Nat} {l : Array Value} {t : TypeId} {v : Value} (h : w1.heap[b]? = some (.cells l t (0, 0))) (hv : l[o]? = some v) : w1.cell? ⟨b, o, none⟩ = some v := by
  simp [World.cell?, h, hv]

/-- Behind the List's block. -/
theorem St.begin {p c0 c1 : Nat} {s : Int} {w wc : World} {l : Array Value} (m0 : wc.cell? ⟨w.heap.size, 0, none⟩ = some (.int .u64 s)) (m0f : wc.frozen? ⟨w.heap.size, 0, none⟩ = false) (m31 : wc.cell? ⟨w.heap.size, 31, none⟩ = some (.pointer none))
    (hp : wc.heap[p]? = some (.cells #[.chan (some c0), .chan (some c1)] 63 (0, 0))) (h0 : wc.heap[c0]? = some (.chan 1 #[] false 0 0 false)) (h1 : wc.heap[c1]? = some (.chan 1 #[] false 0 0 false)) (cc : c0 ≠ c1) (b0 : w.heap.size < c0) (b1 : w.heap.size < c1) (hb : Below w.heap.size w wc)
    (l0 : l[0]? = some (.int .u64 0)) (l1 : l[1]? = some (.pointer (some ⟨p, 0, none⟩))) :
    St w.heap.size wc.heap.size p c0 c1 s #[] #[] 0 0 w (wc.alloc (.cells l 53)) := by
  have hpw := lt_of hp
  have h0w := lt_of h0
  have h1w := lt_of h1
  have hn := heap_new wc (.cells l 53) _ rfl
  refine ⟨?_, ?_, ?_, ?_, ?_, (Below.heap_alloc _ _ _ hpw).trans hp, (Below.heap_alloc _ _ _ h0w).trans h0, (Below.heap_alloc _ _ _ h1w).trans h1, by omega, cc, Nat.le_refl _, by omega, by omega, hb.alloc (by omega) _⟩
  · rw [World.cell?_alloc_past _ _ _ (by show w.heap.size < _; omega)]; exact m0
  · rw [World.frozen?_of_block (w := wc) (Below.heap_alloc _ _ _ (by show w.heap.size < _; omega))]; exact m0f
  · rw [World.cell?_alloc_past _ _ _ (by show w.heap.size < _; omega)]; exact m31
  · exact cell_at hn l0
  · exact cell_at hn l1
end Go.Proofs.Ybulkdpnk
