/-
  THE LAW's WALK, out of the contracts.
-/
import Derived.Test.YbulkdpluDoorClones
import Derived.Test.YbulkdpluDoorFormat
import Derived.Lib.SliceRun
import Derived.Laws.BytesArg
namespace Go.Proofs.YbulkdpluDoor
open Go.RowKit

theorem nameIn_later {w w2 : World} {a : Option Addr} {n c : Nat} {ss : List ByteArray} (h : NameIn w a n c ss) (hb : Below w.heap.size w w2) : NameIn w2 a n c ss := by
  rcases h with h | ⟨ad, ha, hn, hbig, hc⟩
  · exact Or.inl h
  · exact Or.inr ⟨ad, ha, hn, hbig, fun i hi => later hb (hc i hi)⟩

theorem law_big (an ab : Option Addr) (nn cn n cb : Nat) (num : Int) (w : World) (hn : 65536 < n) (hm : n ≤ maxLen) :
    Calls Ybad.prog 3 #[.slice an nn cn, .int .u32 num, .slice ab n cb] w fun e w' => e = .returned (.bool true) ∧ Below w.heap.size w w' := by
  unfold maxLen at hm
  go_enter Ybad.func3, Ybad.ntmps3
  go_wp2
  go_ret
  exact ⟨rfl, Below.refl _ _⟩

/-- What the loop that builds want keeps. -/
def WRel (xs : List Int) (w3 : World) (k : Nat) (v : Value) (wr : World) : Prop :=
  wr.ownsRow w3.heap.size 5 1 v (wantL xs k).length ((wantL xs k).map byteV) ∧ Below w3.heap.size w3 wr

/-- The law's own test on a bit, in the walk's spelling. -/
theorem testB (xs : List Int) (hr : ∀ j, 0 ≤ xs.getD j 0 ∧ xs.getD j 0 < 256) (k : Nat) : (bits .and .u8 (xs[k / 8]?.getD 0 / 2 ^ (7 - k % 8)) 1 == 1) = bitB xs k := by
  have hr' := hr (k / 8)
  have e : xs[k / 8]?.getD 0 = xs.getD (k / 8) 0 := by simp
  obtain ⟨o, ho⟩ := Int.eq_ofNat_of_zero_le hr'.1
  have e2 : ((o : Nat) : Int) / 2 ^ (7 - k % 8) = ((o / 2 ^ (7 - k % 8) : Nat) : Int) := by
    rw [Int.natCast_ediv]
    simp
  rw [e, ho, e2, bit_shr o _ (by omega)]
  unfold bitB
  rw [ho]
  rfl

theorem wrel_len {xs : List Int} {w3 : World} {k : Nat} {v : Value} {wr : World} (h : WRel xs w3 k v wr) : wr.ownsRow w3.heap.size 5 1 v ((wantL xs k).map byteV).length ((wantL xs k).map byteV) := by
  rw [List.length_map]
  exact h.1

theorem wrel_first {xs : List Int} {w3 wr w5 : World} {k : Nat} {v v' : Value} (h : WRel xs w3 k v wr) (hb : bitB xs k = true) (hf : ports xs k = [])
    (hown : w5.ownsRow w3.heap.size 5 1 v' (((wantL xs k).map byteV).length + (Lib.decDigits k).length) ((wantL xs k).map byteV ++ (Lib.decDigits k).map byteV)) (hbel : Below w3.heap.size wr w5) : WRel xs w3 (k + 1) v' w5 := by
  refine ⟨?_, h.2.trans hbel⟩
  rw [want_hit hb, if_pos hf, List.append_nil, List.length_append, List.map_append]
  rw [List.length_map] at hown
  exact hown

theorem wrel_more {xs : List Int} {w3 wr w4 w5 : World} {k : Nat} {v v' : Value} (h : WRel xs w3 k v wr) (hb : bitB xs k = true) (hf : ports xs k ≠ [])
    (hbel4 : Below w3.heap.size wr w4)
    (hown : w5.ownsRow w3.heap.size 5 1 v' (((wantL xs k).map byteV ++ [byteV 32]).length + (Lib.decDigits k).length) (((wantL xs k).map byteV ++ [byteV 32]) ++ (Lib.decDigits k).map byteV)) (hbel : Below w3.heap.size w4 w5) : WRel xs w3 (k + 1) v' w5 := by
  refine ⟨?_, (h.2.trans hbel4).trans hbel⟩
  rw [want_hit hb, if_neg hf, List.length_append, List.map_append, List.map_append]
  simp only [List.length_append, List.length_map, List.length_cons, List.length_nil] at hown ⊢
  exact hown

theorem wrel_miss {xs : List Int} {w3 wr : World} {k : Nat} {v : Value} (h : WRel xs w3 k v wr) (hb : bitB xs k = false) : WRel xs w3 (k + 1) v wr := by
  unfold WRel
  rw [want_miss hb]
  exact h

/-- string(want). -/
theorem text_of {xs : List Int} {w3 wr : World} {k : Nat} {v : Value} (h : WRel xs w3 k v wr) : (convert 24 9 v).run Ybad.prog wr = .ok (.string ⟨(wantL xs k).toArray⟩) wr := by
  rcases h.1.2 with ⟨rfl, h0⟩ | ⟨g, cap, cur, rfl, hrest⟩
  · rw [run_convert_bytes_nil wr 24 5 Ybad.underlying24 Ybad.underlying5 0 0 9 Ybad.underlying9, List.length_eq_zero_iff.1 h0]
    rfl
  · refine run_convert_bytes_back wr 24 9 5 ⟨g, 0, none⟩ cap (wantL xs k) Ybad.underlying24 Ybad.underlying5 Ybad.underlying9 (fun j hj => ?_)
    refine h.1.cells (g := g) rfl j _ ?_
    rw [List.getElem?_map, List.getElem?_eq_getElem hj]
    rfl

set_option maxHeartbeats 1600000 in
theorem law_some (an : Option Addr) (nn cn : Nat) (ss : List ByteArray) (num : Int) (b off n cb : Nat) (xs : List Int) (w : World) (hN : NameIn w an nn cn ss) (hO : OctIn w (some ⟨b, off, none⟩) n xs) (hpos : 0 < n) (hn : n ≤ 65536)
    (htab : Lib.TabIs Ybad.prog w powName .u64 Lib.pow10Tab) :
    Calls Ybad.prog 3 #[.slice an nn cn, .int .u32 num, .slice (some ⟨b, off, none⟩) n cb] w fun e w' => e = .returned (.bool true) ∧ Below w.heap.size w w' := by
  obtain ⟨i0, hi0, hz0, hz1, hz2⟩ := info_parts Ybad.info5
  have hcell : ∀ j, j < n → w.cell? ⟨b, off + j, none⟩ = some (.int .u8 (xs.getD j 0)) := by
    obtain ⟨_, _, ⟨h, _⟩ | ⟨ad, h, hc⟩⟩ := hO
    · cases h
    · obtain rfl := Option.some.inj h
      exact fun j hj => by have := hc j hj; rw [Addr.add_lit] at this; exact this
  have hbw := cell_lt (hcell 0 hpos)
  have HC : Hid _ := hcell
  have HR : Hid _ := hO.2.1
  have HLn : Hid _ := hO.1
  have HT : Hid (Lib.TabIs Ybad.prog w powName .u64 Lib.pow10Tab) := htab
  have HN : Hid (NameIn w an nn cn ss) := hN
  have HO : Hid (OctIn w (some ⟨b, off, none⟩) n xs) := hO
  clear hcell htab hN hO
  go_enter Ybad.func3, Ybad.ntmps3
  go_wp2_with fail
  refine (cloneBytes (some ⟨b, off, none⟩) n cb xs _ HO.out hn).mono ?_
  rintro e w1 ⟨a1, c1, rfl, hi1, hb1, heq1⟩
  have HE1 : Hid _ := heq1
  clear heq1
  go_wp2_with fail
  refine (cloneName an nn cn ss _ (nameIn_later HN.out hb1)).mono ?_
  rintro e w2 ⟨a2, c2, rfl, hi2, hb2, heq2⟩
  have HE2 : Hid _ := heq2
  clear heq2
  have hb12 : Below w.heap.size w w2 := hb1.trans (hb2.mono hb1.size)
  have hs2 := hb12.size
  go_wp2_with fail
  refine (format_any _ _ b off n cb xs _ hn (by have := HLn.out; omega) ?_ ?_ HR.out ?_).mono ?_
  · simp; omega
  · intro j hj
    rw [World.cell?_alloc_past _ _ _ (by show b < _; omega)]
    exact later hb12 (HC.out j (by have := HLn.out; omega))
  · exact tab_below HT.out (hb12.alloc hs2 _)
  rintro e w3 ⟨rfl, hb3⟩
  have hb03 : Below w.heap.size w w3 := (hb12.alloc hs2 _).trans (hb3.mono (by simp; omega))
  have hb13 : Below w1.heap.size w1 w3 := (hb2.trans (((Below.refl _ _).alloc (Nat.le_refl _) _ |>.mono hb2.size))).trans (hb3.mono (by have := hb2.size; simp; omega))
  have hb23 : Below w2.heap.size w2 w3 := ((Below.refl _ _).alloc (Nat.le_refl _) _).trans (hb3.mono (by simp))
  clear hb3
  go_wp2
  go_loopw [11, 12, 13] (fun v f p wr => ∃ k : Nat, k ≤ 8 * n ∧ p = .int .i64 k ∧ f = .bool (decide (ports xs k = [])) ∧ WRel xs w3 k v wr) (fun _ _ p _ => 8 * n - (intOf p).toNat)
  case atStart => exact ⟨0, Nat.zero_le _, rfl, rfl, World.ownsRow_nil _ _ _ _, Below.refl _ _⟩
  case round =>
    obtain ⟨k, hk, rfl, rfl, hrel⟩ := hrel
    by_cases hlt : k < 8 * n
    · have hck : wr.cell? ⟨b, off + k / 8, none⟩ = some (.int .u8 (xs.getD (k / 8) 0)) := later (hb03.trans (hrel.2.mono hb03.size)) (HC.out (k / 8) (by omega))
      have ht := testB xs HR.out k
      have hwl := want_len xs k (by omega)
      cases hbit : bitB xs k with
      | false =>
        rw [hbit] at ht
        have R : Hid (WRel xs w3 (k + 1) u11 wr) := wrel_miss hrel hbit
        have hpm := ports_miss hbit
        have HP : Hid (ports xs (k + 1) = ports xs k) := hpm
        clear hbit hrel hpm
        go_wp2
        go_roundw
        case rel => exact ⟨k + 1, by omega, by go_num, by rw [HP.out], R.out⟩
        case measure => simp [intOf]; omega
      | true =>
        rw [hbit] at ht
        have HB : Hid (bitB xs k = true) := hbit
        have hp' : decide (ports xs (k + 1) = []) = false := by rw [ports_hit hbit]; simp
        have HP : Hid (decide (ports xs (k + 1) = []) = false) := hp'
        clear hp'
        clear hbit
        by_cases hf : ports xs k = []
        · have hfd : decide (ports xs k = []) = true := decide_eq_true hf
          have HF : Hid (ports xs k = []) := hf
          clear hf
          go_wp2_with fail
          refine (digits_any w3.heap.size _ ((wantL xs k).map byteV) k _ (wrel_len hrel) hrel.2.size (by rw [List.length_map]; omega) (by omega)).mono ?_
          rintro e w5 ⟨v', rfl, hown', hbel'⟩
          have R : Hid (WRel xs w3 (k + 1) v' w5) := wrel_first hrel HB.out HF.out hown' hbel'
          clear hrel hown' hbel'
          go_wp2
          go_roundw
          case rel => exact ⟨k + 1, by omega, by go_num, by rw [HP.out], R.out⟩
          case measure => simp [intOf]; omega
        · have hfd : decide (ports xs k = []) = false := decide_eq_false hf
          have HF : Hid (ports xs k ≠ []) := hf
          clear hf
          go_wp2_with (at_builtin; refine wpList_append_own _ rfl _ _ 24 rfl w3.heap.size 5 i0 (.int .u8 0) 1 1 Ybad.underlying24 hi0 hz0 hz1 hz2 rfl (by decide) _ _ _ rfl (hrel.1.alloc _) ⟨wr.heap.size, 0, none⟩ 1 1 [byteV 32] rfl rfl ?c1 ?c2 ?c3 ?c4 ?c5 ?_)
          case c1 =>
            intro q u hq
            match q, hq with
            | 0, hq => simp at hq; subst hq; simp [Addr.add, byteV]
          case c2 => intro u hu; simp at hu; subst hu; rfl
          case c3 => unfold maxLen; omega
          case c4 => omega
          case c5 => have := hrel.2.size; simp; omega
          intro v4 w4 hown4 hgrow4 hnn4
          have hlt4 := hrel.1.lt
          have hb4 : Below w3.heap.size wr w4 := ((Below.refl _ _).alloc hrel.2.size _).grown hgrow4 (by have := hrel.2.size; simp; omega) (fun j hj => (hlt4 j hj).1)
          have hown4' : w4.ownsRow w3.heap.size 5 1 v4 ((wantL xs k).map byteV ++ [byteV 32]).length ((wantL xs k).map byteV ++ [byteV 32]) := by
            simp only [List.length_append, List.length_map, List.length_cons, List.length_nil]
            exact hown4
          clear hown4 hgrow4 hnn4 hlt4
          go_wp2_with fail
          refine (digits_any w3.heap.size _ ((wantL xs k).map byteV ++ [byteV 32]) k _ hown4' (Nat.le_trans hrel.2.size hb4.size) (by simp; omega) (by omega)).mono ?_
          rintro e w5 ⟨v', rfl, hown', hbel'⟩
          have R : Hid (WRel xs w3 (k + 1) v' w5) := wrel_more hrel HB.out HF.out hb4 hown' hbel'
          clear hrel hown' hbel' hown4' hb4
          go_wp2
          go_roundw
          case rel => exact ⟨k + 1, by omega, by go_num, by rw [HP.out], R.out⟩
          case measure => simp [intOf]; omega
    · obtain rfl : k = 8 * n := by omega
      have hcv := text_of hrel
      have hnb := fun (a : Option Addr) (p q : Nat) (wx : World) => Lib.run_eql_slice_nil (P := Ybad.prog) wx 24 5 a p q 0 0 Ybad.underlying24
      have hnn := fun (a : Option Addr) (p q : Nat) (wx : World) => Lib.run_eql_slice_nil (P := Ybad.prog) wx 22 9 a p q 0 0 Ybad.underlying22
      have hb1r := hb13.trans (hrel.2.mono hb13.size)
      have hb2r := hb23.trans (hrel.2.mono hb23.size)
      have hb0r := hb03.trans (hrel.2.mono hb03.size)
      clear hrel hb13 hb23 hb03
      go_wp2_with fail
      refine (HE1.out _ hb1r).mono ?_
      rintro e w6 ⟨rfl, hw6⟩
      subst hw6
      go_wp2_with fail
      refine (HE2.out _ hb2r).mono ?_
      rintro e w7 ⟨rfl, hb7⟩
      have HZ : Hid (Below w.heap.size w w7) := hb0r.trans (hb7.mono hb0r.size)
      clear hb7 hb0r hb1r hb2r hcv
      go_wp2
      go_ret
      exact ⟨rfl, HZ.out⟩

/-- formatPorts of no octet. -/
theorem format_none (nv nm : Value) (a : Option Addr) (cap : Nat) (w : World) :
    Calls Ybad.prog 6 #[.agg #[nv, nm, .slice a 0 cap]] w fun e w' => e = .returned (.string ⟨#[]⟩) ∧ Below w.heap.size w w' := by
  go_enter Ybad.func6, Ybad.ntmps6
  go_wp2
  refine wp_loop_rounds 1 ?_
  rw [rounds_succ]
  go_wp2_with fail
  refine (Ybad.strings_Join_none none 0 _ _).mono ?_
  rintro e w1 ⟨rfl, rfl⟩
  go_wp2
  go_ret
  exact ⟨rfl, (Below.refl _ _).alloc (Nat.le_refl _) _⟩

set_option maxHeartbeats 1600000 in
theorem law_none (an : Option Addr) (nn cn : Nat) (ss : List ByteArray) (num : Int) (ab : Option Addr) (cb : Nat) (xs : List Int) (w : World) (hN : NameIn w an nn cn ss) (hO : OctIn w ab 0 xs) :
    Calls Ybad.prog 3 #[.slice an nn cn, .int .u32 num, .slice ab 0 cb] w fun e w' => e = .returned (.bool true) ∧ Below w.heap.size w w' := by
  have HN : Hid (NameIn w an nn cn ss) := hN
  have HO : Hid (OctIn w ab 0 xs) := hO
  have hnb := fun (a : Option Addr) (p q : Nat) (wx : World) => Lib.run_eql_slice_nil (P := Ybad.prog) wx 24 5 a p q 0 0 Ybad.underlying24
  have hnn := fun (a : Option Addr) (p q : Nat) (wx : World) => Lib.run_eql_slice_nil (P := Ybad.prog) wx 22 9 a p q 0 0 Ybad.underlying22
  have hcv := fun (wx : World) => run_convert_bytes_nil (P := Ybad.prog) wx 24 5 Ybad.underlying24 Ybad.underlying5 0 0 9 Ybad.underlying9
  clear hN hO
  go_enter Ybad.func3, Ybad.ntmps3
  go_wp2_with fail
  refine (cloneBytes ab 0 cb xs _ HO.out (by omega)).mono ?_
  rintro e w1 ⟨a1, c1, rfl, hi1, hb1, heq1⟩
  have HE1 : Hid _ := heq1
  clear heq1
  go_wp2_with fail
  refine (cloneName an nn cn ss _ (nameIn_later HN.out hb1)).mono ?_
  rintro e w2 ⟨a2, c2, rfl, hi2, hb2, heq2⟩
  have HE2 : Hid _ := heq2
  clear heq2
  have hb12 : Below w.heap.size w w2 := hb1.trans (hb2.mono hb1.size)
  have hs2 := hb12.size
  go_wp2_with fail
  refine (format_none _ _ ab cb _).mono ?_
  rintro e w3 ⟨rfl, hb3⟩
  have hb03 : Below w.heap.size w w3 := (hb12.alloc hs2 _).trans (hb3.mono (by simp; omega))
  have hb13 : Below w1.heap.size w1 w3 := (hb2.trans (((Below.refl _ _).alloc (Nat.le_refl _) _ |>.mono hb2.size))).trans (hb3.mono (by have := hb2.size; simp; omega))
  have hb23 : Below w2.heap.size w2 w3 := ((Below.refl _ _).alloc (Nat.le_refl _) _).trans (hb3.mono (by simp))
  clear hb3
  go_wp2
  refine wp_loop_rounds 1 ?_
  rw [rounds_succ]
  go_wp2_with fail
  refine (HE1.out _ hb13).mono ?_
  rintro e w6 ⟨rfl, hw6⟩
  subst hw6
  go_wp2_with fail
  refine (HE2.out _ hb23).mono ?_
  rintro e w7 ⟨rfl, hb7⟩
  have HZ : Hid (Below w.heap.size w w7) := hb03.trans (hb7.mono hb03.size)
  clear hb7 hb03 hb13 hb23
  go_wp2
  go_ret
  exact ⟨rfl, HZ.out⟩

/-- THE LAW, however its arguments lie. -/
theorem law_any (an : Option Addr) (nn cn : Nat) (ss : List ByteArray) (num : Int) (ab : Option Addr) (n cb : Nat) (xs : List Int) (w : World) (hN : NameIn w an nn cn ss) (hO : OctIn w ab n xs) (hm : n ≤ maxLen)
    (htab : Lib.TabIs Ybad.prog w powName .u64 Lib.pow10Tab) :
    Calls Ybad.prog 3 #[.slice an nn cn, .int .u32 num, .slice ab n cb] w fun e w' => e = .returned (.bool true) ∧ Below w.heap.size w w' := by
  by_cases hbig : 65536 < n
  · exact law_big an ab nn cn n cb num w hbig hm
  · by_cases h0 : n = 0
    · subst h0
      exact law_none an nn cn ss num ab cb xs w hN hO
    · obtain ⟨hl, hr, ⟨_, h⟩ | ⟨ad, rfl, hc⟩⟩ := hO
      · exact absurd h h0
      · have hspot : ad.spot = none := by
          have := World.cell?_spot (hc 0 (by omega))
          simpa [Addr.add] using this
        obtain ⟨b, off, sp⟩ := ad
        simp only at hspot
        subst hspot
        exact law_some an nn cn ss num b off n cb xs w hN ⟨hl, hr, Or.inr ⟨_, rfl, hc⟩⟩ (by omega) (by omega) htab

end Go.Proofs.YbulkdpluDoor
