/-
  WHAT THE LAW's OWN BLOCKS HOLD: the Mutex at M, the List at L, the two channels c0, c1 in the array at p; wakeOwn over it, its four ways.
-/
import Derived.Test.YbulkdpnkWake
namespace Go.Proofs.Ybulkdpnk
open Go.RowKit

structure St (M L p c0 c1 : Nat) (s : Int) (k0 k1 : Array Value) (n0 n1 : Nat) (w w1 : World) : Prop where
  m0 : w1.cell? ⟨M, 0, none⟩ = some (.int .u64 s)
  m0f : w1.frozen? ⟨M, 0, none⟩ = false
  m31 : w1.cell? ⟨M, 31, none⟩ = some (.pointer none)
  l0 : w1.cell? ⟨L, 0, none⟩ = some (.int .u64 0)
  l1 : w1.cell? ⟨L, 1, none⟩ = some (.pointer (some ⟨p, 0, none⟩))
  hp : w1.heap[p]? = some (.cells #[.chan (some c0), .chan (some c1)] 63 (0, 0))
  h0 : w1.heap[c0]? = some (.chan 1 k0 false n0 0 false)
  h1 : w1.heap[c1]? = some (.chan 1 k1 false n1 0 false)
  ml : L ≠ M
  cc : c0 ≠ c1
  bm : w.heap.size ≤ M
  b0 : w.heap.size ≤ c0
  b1 : w.heap.size ≤ c1
  bel : Below w.heap.size w w1

section
variable {M L p c0 c1 : Nat} {s : Int} {k0 k1 : Array Value} {n0 n1 : Nat} {w w1 : World}

/-- A block of cells is no channel. -/
theorem St.ne (h : St M L p c0 c1 s k0 k1 n0 n1 w w1) : p ≠ M ∧ c0 ≠ M ∧ c1 ≠ M ∧ c0 ≠ L ∧ c1 ≠ L ∧ p ≠ c0 ∧ p ≠ c1 ∧ p ≠ L := by
  have cell : ∀ {b o : Nat} {v : Value}, w1.cell? ⟨b, o, none⟩ = some v → ∀ {cap : Nat} {k : Array Value} {q : Bool} {n r : Nat} {t : Bool}, w1.heap[b]? ≠ some (.chan cap k q n r t) := by
    intro b o v hc cap k q n r t hb
    simp [World.cell?, hb] at hc
  refine ⟨?_, ?_, ?_, ?_, ?_, ?_, ?_, ?_⟩
  · intro e
    have := h.m0
    rw [← e, (pair_cells h.hp).1] at this
    simp at this
  · intro e; exact cell h.m0 (e ▸ h.h0)
  · intro e; exact cell h.m0 (e ▸ h.h1)
  · intro e; exact cell h.l0 (e ▸ h.h0)
  · intro e; exact cell h.l0 (e ▸ h.h1)
  · intro e; exact cell (pair_cells h.hp).1 (e ▸ h.h0)
  · intro e; exact cell (pair_cells h.hp).1 (e ▸ h.h1)
  · intro e
    have := h.l0
    rw [← e, (pair_cells h.hp).1] at this
    simp at this

theorem cell_other {w : World} {M j o i : Nat} {X v : Value} (h : j ≠ M) (hc : w.cell? ⟨j, o, none⟩ = some v) : (w.setCell ⟨M, i, none⟩ X).cell? ⟨j, o, none⟩ = some v := by
  rw [World.cell?_of_block (w := w) (Below.heap_setCell _ _ _ _ h)]
  exact hc

theorem lt_of {w : World} {c : Nat} {o : Obj} (h : w.heap[c]? = some o) : c < w.heap.size := (Array.getElem?_eq_some_iff.1 h).1

/-- A store into the state. -/
theorem St.set (h : St M L p c0 c1 s k0 k1 n0 n1 w w1) (s' : Int) : St M L p c0 c1 s' k0 k1 n0 n1 w (w1.setCell ⟨M, 0, none⟩ (.int .u64 s')) := by
  obtain ⟨e1, e2, e3, e4, e5, e6, e7, e8⟩ := h.ne
  refine ⟨?_, ?_, ?_, cell_other h.ml h.l0, cell_other h.ml h.l1, (old_set e1).trans h.hp, (old_set e2).trans h.h0, (old_set e3).trans h.h1, h.ml, h.cc, h.bm, h.b0, h.b1, h.bel.setCell h.bm _⟩
  · exact World.cell?_setCell_same _ _ _ h.m0
  · rw [World.frozen?_setCell]; exact h.m0f
  · exact (World.cell?_setCell_other _ _ _ _ (by simp)).trans h.m31

theorem chan_other {w : World} {c cap j : Nat} {k : Array Value} {q : Bool} {n r : Nat} {t : Bool} (h : j ≠ c) : (w.setChan c cap k q n r t).heap[j]? = w.heap[j]? := by
  simp only [World.setChan]
  rw [Array.getElem?_setIfInBounds_ne (by omega)]
theorem chan_cell {w : World} {c cap j o : Nat} {k : Array Value} {q : Bool} {n r : Nat} {t : Bool} {v : Value} (h : j ≠ c) (hc : w.cell? ⟨j, o, none⟩ = some v) : (w.setChan c cap k q n r t).cell? ⟨j, o, none⟩ = some v := by
  rw [World.cell?_of_block (w := w) (chan_other h)]
  exact hc

theorem St.drew (h : St M L p c0 c1 s k0 k1 n0 n1 w w1) : St M L p c0 c1 s k0 k1 n0 n1 w w1.drew :=
  ⟨h.m0, h.m0f, h.m31, h.l0, h.l1, h.hp, h.h0, h.h1, h.ml, h.cc, h.bm, h.b0, h.b1, h.bel.drew⟩

theorem St.sent0 (h : St M L p c0 c1 s k0 k1 n0 n1 w w1) (k : Array Value) (n : Nat) : St M L p c0 c1 s k k1 n n1 w (w1.setChan c0 1 k false n 0 false) := by
  obtain ⟨e1, e2, e3, e4, e5, e6, e7, e8⟩ := h.ne
  refine ⟨chan_cell e2.symm h.m0, ?_, chan_cell e2.symm h.m31, chan_cell e4.symm h.l0, chan_cell e4.symm h.l1, (chan_other e6).trans h.hp, Conc.heap_setChan _ _ _ _ _ _ _ _ (lt_of h.h0), (chan_other h.cc.symm).trans h.h1, h.ml, h.cc, h.bm, h.b0, h.b1, Conc.below_setChan h.bel h.b0 _ _ _ _ _ _⟩
  rw [World.frozen?_of_block (w := w1) (chan_other e2.symm)]
  exact h.m0f

theorem St.sent1 (h : St M L p c0 c1 s k0 k1 n0 n1 w w1) (k : Array Value) (n : Nat) : St M L p c0 c1 s k0 k n0 n w (w1.setChan c1 1 k false n 0 false) := by
  obtain ⟨e1, e2, e3, e4, e5, e6, e7, e8⟩ := h.ne
  refine ⟨chan_cell e3.symm h.m0, ?_, chan_cell e3.symm h.m31, chan_cell e5.symm h.l0, chan_cell e5.symm h.l1, (chan_other e7).trans h.hp, (chan_other h.cc).trans h.h0, Conc.heap_setChan _ _ _ _ _ _ _ _ (lt_of h.h1), h.ml, h.cc, h.bm, h.b0, h.b1, Conc.below_setChan h.bel h.b1 _ _ _ _ _ _⟩
  rw [World.frozen?_of_block (w := w1) (chan_other e3.symm)]
  exact h.m0f

theorem St.callNone (h : St M L p c0 c1 s k0 k1 n0 n1 w w1) (hs : (bits .and .u64 s 256 == 0) = true) :
    Calls Yba.prog 7 #[.pointer (some ⟨M, 0, none⟩), .pointer (some ⟨L, 0, none⟩)] w1 fun e w' => e = .returned (.bool false) ∧ St M L p c0 c1 s k0 k1 n0 n1 w w' :=
  (wake_none M L s w1 h.m0 hs).mono fun _ _ ⟨e1, e2⟩ => ⟨e1, by rw [e2]; exact h⟩

theorem St.callHeld (h : St M L p c0 c1 s k0 k1 n0 n1 w w1) (hs : (bits .and .u64 s 256 == 0) = false) (hl : (bits .and .u64 s 1 == 0) = false) :
    Calls Yba.prog 7 #[.pointer (some ⟨M, 0, none⟩), .pointer (some ⟨L, 0, none⟩)] w1 fun e w' => e = .returned (.bool true) ∧ St M L p c0 c1 (bits .or .u64 (bits .andNot .u64 s 256) 1024) k0 k1 n0 n1 w w' :=
  (wake_held M L s w1 h.m0 h.m0f hs hl).mono fun _ _ ⟨e1, e2⟩ => ⟨e1, by rw [e2]; exact h.set _⟩

theorem St.callSend0 (h : St M L p c0 c1 s #[] #[] 0 0 w w1) (hs : (bits .and .u64 s 256 == 0) = false) (hl : (bits .and .u64 s 1 == 0) = true) (hq : bits .and .u64 s 512 = 0) :
    Calls Yba.prog 7 #[.pointer (some ⟨M, 0, none⟩), .pointer (some ⟨L, 0, none⟩)] w1 fun e w' => e = .returned (.bool true) ∧ St M L p c0 c1 (bits .or .u64 (bits .andNot .u64 s 256) 32768) #[.agg #[]] #[] 1 0 w w' :=
  (wake_send0 M L p c0 _ s w1 h.m0 h.m0f hs hl hq h.l1 h.hp h.h0 h.ml h.ne.1 h.ne.2.1).mono fun _ _ ⟨e1, e2⟩ => ⟨e1, by rw [e2]; exact (h.set _).drew.sent0 _ _⟩

theorem St.callSend1 (h : St M L p c0 c1 s #[] #[] 0 0 w w1) (hs : (bits .and .u64 s 256 == 0) = false) (hl : (bits .and .u64 s 1 == 0) = true) (hq : bits .and .u64 s 512 = 512) :
    Calls Yba.prog 7 #[.pointer (some ⟨M, 0, none⟩), .pointer (some ⟨L, 0, none⟩)] w1 fun e w' => e = .returned (.bool true) ∧ St M L p c0 c1 (bits .or .u64 (bits .andNot .u64 s 256) 65536) #[] #[.agg #[]] 0 1 w w' :=
  (wake_send1 M L p c1 _ s w1 h.m0 h.m0f hs hl hq h.l1 h.hp h.h1 h.ml h.ne.1 h.ne.2.2.1).mono fun _ _ ⟨e1, e2⟩ => ⟨e1, by rw [e2]; exact (h.set _).drew.sent1 _ _⟩
end
end Go.Proofs.Ybulkdpnk
