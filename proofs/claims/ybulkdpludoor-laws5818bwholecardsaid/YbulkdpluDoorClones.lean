/-
  THE TWO CLONES, EACH WITH WHAT THE LAW ASKS OF IT LATER: it is nil just where its original is; and in every later world Equal finds the two alike.
-/
import Derived.Test.YbulkdpluDoorDigits
import Derived.OpenShut
namespace Go.Proofs.YbulkdpluDoor
open Go.RowKit

/-- How a []string that came in lies: nil, or its strings in a row of old cells. -/
def NameIn (w : World) (a : Option Addr) (n c : Nat) (ss : List ByteArray) : Prop :=
  (a = none ∧ n = 0 ∧ c = 0) ∨ ∃ ad, a = some ad ∧ n ≤ ss.length ∧ n * 16 ≤ 140737488355328 ∧ ∀ i, i < ss.length → w.cell? (ad.add i) = some (.string (ss.getD i ByteArray.empty))

/-- How a []byte that came in lies. -/
def OctIn (w : World) (a : Option Addr) (n : Nat) (xs : List Int) : Prop :=
  xs.length = n ∧ (∀ j, 0 ≤ xs.getD j 0 ∧ xs.getD j 0 < 256) ∧ ((a = none ∧ n = 0) ∨ ∃ ad, a = some ad ∧ ∀ i, i < n → w.cell? (ad.add i) = some (.int .u8 (xs.getD i 0)))

theorem cell_lt {w : World} {a : Addr} {v : Value} (h : w.cell? a = some v) : a.block < w.heap.size := World.block_lt_of_cell? w a h

theorem later {w w2 : World} {a : Addr} {v : Value} (hb : Below w.heap.size w w2) (h : w.cell? a = some v) : w2.cell? a = some v := (hb.cell (cell_lt h)).trans h

theorem own_later {w w2 : World} {base e n : Nat} {v : Value} {xs : List Value} (h : w.ownsRow base e 1 v n xs) (hb : Below w.heap.size w w2) : w2.ownsRow base e 1 v n xs :=
  h.kept (row := none) ⟨hb.os, hb.tape, hb.output, hb.size, fun k hk _ => hb.block k hk⟩ (by cases hv : v.ownBlock <;> simp)

theorem own_cells {w : World} {base e n : Nat} {g : Nat} {c : Nat} {xs : List Value} (h : w.ownsRow base e 1 (.slice (some ⟨g, 0, none⟩) n c) n xs) (i : Nat) (u : Value) (hu : xs[i]? = some u) : w.cell? ⟨g, 0 + i, none⟩ = some u := by
  have := h.cells (g := g) rfl i u hu
  rw [Addr.add_lit] at this
  exact this

theorem cloneName (a : Option Addr) (n c : Nat) (ss : List ByteArray) (w : World) (h : NameIn w a n c ss) :
    Calls Ybad.prog 5 #[.slice a n c] w fun e w' => ∃ a' c', e = .returned (.slice a' n c') ∧ a'.isNone = a.isNone ∧ Below w.heap.size w w' ∧
      ∀ w2, Below w'.heap.size w' w2 → Calls Ybad.prog 9 #[.slice a n c, .slice a' n c'] w2 fun e w3 => e = .returned (.bool true) ∧ Below w2.heap.size w2 w3 := by
  rcases h with ⟨rfl, rfl, rfl⟩ | ⟨ad, rfl, hn, hbig, hc⟩
  · refine (Ybad.slices_Clone_string_nil 0 0 w).mono ?_
    rintro e w' ⟨rfl, rfl⟩
    refine ⟨none, 0, rfl, rfl, Below.refl _ _, fun w2 _ => ?_⟩
    refine (Ybad.slices_Equal_string_empty none none 0 0 0 w2 (by omega)).mono ?_
    rintro e w3 ⟨rfl, rfl⟩
    exact ⟨rfl, Below.refl _ _⟩
  · by_cases h0 : n = 0
    · subst h0
      refine (Ybad.slices_Clone_string_zero ad c w).mono ?_
      rintro e w' ⟨v', rfl, hown, hne, hb⟩
      rcases hown.2 with ⟨rfl, _⟩ | ⟨g, cap, cur, rfl, _⟩
      · exact absurd rfl hne
      · refine ⟨some ⟨g, 0, none⟩, cap, rfl, rfl, hb, fun w2 _ => ?_⟩
        refine (Ybad.slices_Equal_string_empty _ _ _ 0 _ w2 (by omega)).mono ?_
        rintro e w3 ⟨rfl, rfl⟩
        exact ⟨rfl, Below.refl _ _⟩
    · have hspot : ad.spot = none := by
        have := World.cell?_spot (hc 0 (by omega))
        simpa [Addr.add] using this
      obtain ⟨b, off, sp⟩ := ad
      simp only at hspot
      subst hspot
      have hc' : ∀ j, j < ss.length → w.cell? ⟨b, off + j, none⟩ = some (.string (ss.getD j ByteArray.empty)) := fun j hj => by
        have := hc j hj
        rw [Addr.add_lit] at this
        exact this
      refine (Ybad.slices_Clone_string b off n c ss w hn hbig hc').mono ?_
      rintro e w' ⟨v', rfl, hown, hne, hb⟩
      rcases hown.2 with ⟨rfl, _⟩ | ⟨g, cap, cur, rfl, hrest⟩
      · exact absurd rfl hne
      · refine ⟨some ⟨g, 0, none⟩, cap, rfl, rfl, hb, fun w2 hb2 => ?_⟩
        have hw2 : Below w.heap.size w w2 := hb.trans (hb2.mono hb.size)
        have hown2 := own_later hown hb2
        refine (Ybad.slices_Equal_string b off n c g 0 n cap ss (ss.take n) w2 hn (by simp; omega) (by omega) (by omega) (fun j hj => later hw2 (hc' j hj)) (fun j hj => own_cells hown2 j _ ?_)).mono ?_
        · rw [List.getElem?_map, List.getElem?_eq_getElem hj, List.getD_eq_getElem?_getD, List.getElem?_eq_getElem hj]
          rfl
        · rintro e w3 ⟨rfl, q, rfl⟩
          refine ⟨?_, below_drewN w2 q⟩
          rw [List.take_take, Nat.min_self, decide_eq_true rfl]

theorem cloneBytes (a : Option Addr) (n c : Nat) (xs : List Int) (w : World) (h : OctIn w a n xs) (hn : n ≤ 65536) :
    Calls Ybad.prog 4 #[.slice a n c] w fun e w' => ∃ a' c', e = .returned (.slice a' n c') ∧ a'.isNone = a.isNone ∧ Below w.heap.size w w' ∧
      ∀ w2, Below w'.heap.size w' w2 → Calls Ybad.prog 8 #[.slice a n c, .slice a' n c'] w2 fun e w3 => e = .returned (.bool true) ∧ w3 = w2 := by
  obtain ⟨hl, hr, h⟩ := h
  have hid : (Lib.bytesOf xs == Lib.bytesOf xs) = true := by simp
  rcases h with ⟨rfl, rfl⟩ | ⟨ad, rfl, hc⟩
  · refine (Ybad.bytes_Clone_nil 0 c w).mono ?_
    rintro e w' ⟨rfl, rfl⟩
    refine ⟨none, 0, rfl, rfl, Below.refl _ _, fun w2 _ => ?_⟩
    have := Ybad.bytes_Equal_all none none 0 c 0 0 xs xs w2 hl hl (Lib.BytesIn.nil _ _ _) (Lib.BytesIn.nil _ _ _)
    rw [hid] at this
    exact this
  · refine (Ybad.bytes_Clone_at ad n c xs w hl (by omega) hc).mono ?_
    rintro e w' ⟨v', rfl, hown, hne, hb⟩
    rcases hown.2 with ⟨rfl, _⟩ | ⟨g, cap, cur, rfl, hrest⟩
    · exact absurd rfl hne
    · refine ⟨some ⟨g, 0, none⟩, cap, rfl, rfl, hb, fun w2 hb2 => ?_⟩
      have hw2 : Below w.heap.size w w2 := hb.trans (hb2.mono hb.size)
      have hown2 := own_later hown hb2
      have := Ybad.bytes_Equal_all (some ad) (some ⟨g, 0, none⟩) n c n cap xs xs w2 hl hl (Lib.BytesIn.of_cells fun i hi => later hw2 (hc i hi)) (fun _ => ⟨g, 0, rfl, fun i hi => own_cells hown2 i _ ?_⟩)
      · rw [hid] at this
        exact this
      · rw [List.getElem?_map, List.getElem?_eq_getElem (by omega), List.getD_eq_getElem?_getD, List.getElem?_eq_getElem (by omega)]
        rfl

/-- zzs5818bdigits at whatever number below a million. -/
theorem digits_any (base : Nat) (v : Value) (xs : List Value) (n : Nat) (w : World) (hown : w.ownsRow base 5 1 v xs.length xs) (hbase : base ≤ w.heap.size) (hlen : xs.length ≤ 100000000) (hn6 : n < 1000000) :
    Calls Ybad.prog 7 #[v, .int .i64 n] w fun e w' => ∃ v', e = .returned v' ∧ w'.ownsRow base 5 1 v' (xs.length + (Lib.decDigits n).length) (xs ++ (Lib.decDigits n).map byteV) ∧ Below base w w' := by
  by_cases hn : 0 < n
  · exact digits_some base v xs n w hown hbase hlen hn hn6
  · obtain rfl : n = 0 := by omega
    have e : Lib.decDigits 0 = [48] := by rw [Lib.decDigits]; rfl
    rw [e]
    exact digits_zero base v xs w hown hbase hlen

end Go.Proofs.YbulkdpluDoor
