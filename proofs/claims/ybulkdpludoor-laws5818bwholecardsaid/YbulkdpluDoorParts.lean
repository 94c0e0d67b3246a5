/-
  LEMMAS OUTSIDE THE WALKS: what formatPorts' loops keep, and what one more bit does to it.
-/
import Derived.Test.YbulkdpluDoorShelf
import Derived.Test.YbulkdpluDoorPlain
import Derived.Test.YbulkdpluDoorChecked
import Derived.WalkKit
import Derived.WalkLawsBesides
namespace Go.Proofs.YbulkdpluDoor
open Go.RowKit

theorem below_grow' (w : World) (k : Nat) (os : Array Obj) : Below w.heap.size w (Sort.grow (w.drewN k) os) :=
  ⟨rfl, rfl, rfl, by simp [Sort.grow], fun i hi => by
    show (w.heap ++ os)[i]? = w.heap[i]?
    rw [Array.getElem?_append_left hi]⟩
theorem below_drewN (w : World) (k : Nat) : Below w.heap.size w (w.drewN k) := ⟨rfl, rfl, rfl, Nat.le_refl _, fun _ _ => rfl⟩

theorem gPow : (Ybad.prog.globalNamed powName).isSome = true := by kernel_rfl

/-- The table lies where it lay. -/
theorem tab_below {w wr : World} (htab : Lib.TabIs Ybad.prog w powName .u64 Lib.pow10Tab) (hb : Below w.heap.size w wr) : Lib.TabIs Ybad.prog wr powName .u64 Lib.pow10Tab := by
  obtain ⟨g, hg⟩ := Option.isSome_iff_exists.1 gPow
  refine var?_below hb hg ?_ htab
  have hc := World.var?_cell hg htab 0
  rcases Nat.lt_or_ge g w.heap.size with h | h
  · exact h
  · exfalso
    simp [World.cell?, Array.getElem?_eq_none h, Lib.pow10Tab] at hc

def strV (l : List UInt8) : Value := .string ⟨l.toArray⟩

/-- Behind the first k bits: the slice v owns their texts; what was there is as it was. -/
def Rel (zs : List Int) (w : World) (k : Nat) (v : Value) (wr : World) : Prop :=
  wr.ownsRow (w.heap.size + 1) 9 1 v (texts zs k).length ((texts zs k).map strV) ∧ Below w.heap.size w wr ∧ w.heap.size + 1 ≤ wr.heap.size

theorem texts_len (zs : List Int) (k : Nat) : (texts zs k).length ≤ k := by
  unfold texts
  rw [List.length_map]
  exact ports_len zs k

theorem rel_own {zs : List Int} {w wr w1 : World} {k : Nat} {v : Value} (h : Rel zs w k v wr) (h1 : Below wr.heap.size wr w1) (o : Obj) : (w1.alloc o).ownsRow (w.heap.size + 1) 9 1 v (texts zs k).length ((texts zs k).map strV) :=
  (h.1.kept (row := none) ⟨h1.os, h1.tape, h1.output, h1.size, fun j hj _ => h1.block j hj⟩ (by cases hv : v.ownBlock <;> simp)).alloc o

theorem rel_hit {zs : List Int} {w wr w1 w2 : World} {k : Nat} {v v' : Value} {o : Obj} (hb : bitB zs k = true) (h : Rel zs w k v wr) (h1 : Below wr.heap.size wr w1)
    (hown : w2.ownsRow (w.heap.size + 1) 9 1 v' ((texts zs k).length + 1) ((texts zs k).map strV ++ [strV (Lib.decDigits k)])) (hg : (w1.alloc o).grownBy w2 v.ownBlock) : Rel zs w (k + 1) v' w2 := by
  have hs := h1.size
  have hw := h.2.2
  refine ⟨?_, ?_, ?_⟩
  · rw [texts_hit hb, List.length_append, List.map_append]
    exact hown
  · exact ((h.2.1.trans (h1.mono (by omega))).alloc (by omega) o).grown hg (by simp; omega) (fun j hj => by have := (h.1.lt j hj).1; omega)
  · have := hg.size
    simp at this
    omega

theorem rel_miss {zs : List Int} {w wr : World} {k : Nat} {v : Value} (hb : bitB zs k = false) (h : Rel zs w k v wr) : Rel zs w (k + 1) v wr := by
  unfold Rel
  rw [texts_miss hb]
  exact h

theorem pow_eq (j : Nat) (hj : j < 8) : (128 : Int) / 2 ^ j = ((2 ^ (7 - j) : Nat) : Int) := by
  have : j = 0 ∨ j = 1 ∨ j = 2 ∨ j = 3 ∨ j = 4 ∨ j = 5 ∨ j = 6 ∨ j = 7 := by omega
  rcases this with rfl | rfl | rfl | rfl | rfl | rfl | rfl | rfl <;> decide

/-- formatPorts' test, in the walk's spelling. -/
theorem testA (zs : List Int) (hr : ∀ j, 0 ≤ zs.getD j 0 ∧ zs.getD j 0 < 256) (i j : Nat) (hj : j < 8) : (bits .and .u8 (zs[i]?.getD 0) (128 / 2 ^ j) != 0) = bitB zs (8 * i + j) := by
  have hr' := hr i
  have e : zs[i]?.getD 0 = zs.getD i 0 := by simp
  obtain ⟨o, ho⟩ := Int.eq_ofNat_of_zero_le hr'.1
  rw [e, pow_eq j hj, ho, bit_and o j (by omega) hj]
  unfold bitB
  rw [show (8 * i + j) / 8 = i by omega, show (8 * i + j) % 8 = j by omega, ho]
  rfl


/-- strconv.Itoa of a small number. -/
theorem itoa_any (n : Int) (k : Nat) (hn : n = (k : Int)) (hk : k < 1000000) (w : World) (htab : Lib.TabIs Ybad.prog w powName .u64 Lib.pow10Tab) :
    Calls Ybad.prog 10 #[.int .i64 n] w fun e w' => e = .returned (strV (Lib.decDigits k)) ∧ Below w.heap.size w w' := by
  refine (Ybad.strconv_Itoa n (by omega) (by omega) w htab).mono ?_
  rintro e w' ⟨rfl, q, os, rfl⟩
  refine ⟨?_, below_grow' w q os⟩
  rw [hn, itoa_nat]
  rfl

/-- strings.Join of the texts. -/
theorem join_owned {zs : List Int} {w wr : World} {k : Nat} {v : Value} (h : Rel zs w k v wr) (hk : k ≤ 1000000) :
    Calls Ybad.prog 11 #[v, .string ⟨#[32]⟩] wr fun e w' => e = .returned (.string ⟨(wantL zs k).toArray⟩) ∧ Below wr.heap.size wr w' := by
  have hlen := texts_len zs k
  have hwl := want_len zs k hk
  rcases h.1.2 with ⟨rfl, h0⟩ | ⟨g, cap, cur, rfl, hg, hh, hnc, hcp, hcs, htake⟩
  · refine (Ybad.strings_Join_none none 0 ⟨#[32]⟩ wr).mono ?_
    rintro e w' ⟨rfl, rfl⟩
    refine ⟨?_, Below.refl _ _⟩
    have e : texts zs k = [] := List.length_eq_zero_iff.1 h0
    unfold wantL
    rw [e]
    rfl
  · have hL : ((texts zs k).map fun l => (⟨l.toArray⟩ : ByteArray)).length = (texts zs k).length := by simp
    have hm : ((texts zs k).map fun l => (⟨l.toArray⟩ : ByteArray)).map (·.data.toList) = texts zs k := by simp [Function.comp_def]
    have hcells : ∀ (j : Nat) x, ((texts zs k).map fun l => (⟨l.toArray⟩ : ByteArray))[j]? = some x → wr.cell? ⟨g, 0 + j, none⟩ = some (.string x) := by
      intro j x hj
      rw [List.getElem?_map, Option.map_eq_some_iff] at hj
      obtain ⟨l, hl, rfl⟩ := hj
      have := h.1.cells (g := g) rfl j (strV l) (by rw [List.getElem?_map, hl]; rfl)
      rw [Addr.add_lit] at this
      exact this
    have hlt : g < wr.heap.size := (Array.getElem?_eq_some_iff.1 hh).1
    have hj := Ybad.strings_Join g 0 cap ((texts zs k).map fun l => (⟨l.toArray⟩ : ByteArray)) ⟨#[32]⟩ wr hcells hlt (by rw [hL]; omega) (by rw [hL]; exact hnc) (by rw [hm]; show (wantL zs k).length ≤ _; omega)
    rw [hL, hm] at hj
    exact hj

end Go.Proofs.YbulkdpluDoor
