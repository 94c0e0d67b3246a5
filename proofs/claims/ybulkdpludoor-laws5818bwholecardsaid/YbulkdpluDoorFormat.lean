/-
  formatPorts by its contract: the list of the ports whose bits are set, a blank between two; nothing old has turned.
-/
import Derived.Test.YbulkdpluDoorParts
namespace Go.Proofs.YbulkdpluDoor
open Go.RowKit

theorem Ybad.info9 : (Ybad.prog.info? 9).map (fun i => (i.zero, i.size, i.bytes)) = some (some (.string ByteArray.empty), 1, 16) := by kernel_rfl

set_option maxHeartbeats 1600000 in
theorem format_any (nv nm : Value) (b off len cap : Nat) (zs : List Int) (w : World) (hl : len ≤ 65536) (hz : len ≤ zs.length) (hb : b < w.heap.size) (hc : ∀ j, j < zs.length → w.cell? ⟨b, off + j, none⟩ = some (.int .u8 (zs.getD j 0))) (hr : ∀ j, 0 ≤ zs.getD j 0 ∧ zs.getD j 0 < 256)
    (htab : Lib.TabIs Ybad.prog w powName .u64 Lib.pow10Tab) :
    Calls Ybad.prog 6 #[.agg #[nv, nm, .slice (some ⟨b, off, none⟩) len cap]] w fun e w' => e = .returned (.string ⟨(wantL zs (8 * len)).toArray⟩) ∧ Below w.heap.size w w' := by
  obtain ⟨i0, hi0, hz0, hz1, hz2⟩ := info_parts Ybad.info9
  have HR : Hid _ := hr
  have HT : Hid _ := htab
  clear hr htab
  go_enter Ybad.func6, Ybad.ntmps6
  go_wp2
  go_loopw [3, 10] (fun v i wr => ∃ k : Nat, k ≤ len ∧ i = .int .i64 k ∧ Rel zs w (8 * k) v wr) (fun _ i _ => len - (intOf i).toNat)
  case atStart =>
    exact ⟨0, Nat.zero_le _, rfl, World.ownsRow_nil _ _ _ _, (Below.refl _ _).alloc (Nat.le_refl _) _, by simp⟩
  case round =>
    obtain ⟨i, hi, rfl, hrel⟩ := hrel
    by_cases hlt : i < len
    · have hci : wr.cell? ⟨b, off + i, none⟩ = some (.int .u8 (zs.getD i 0)) := (hrel.2.1.cell hb).trans (hc i (by omega))
      go_wp2
      go_loopw [3, 6] (fun v bt w2 => ∃ j : Nat, j ≤ 8 ∧ bt = .int .i64 j ∧ Rel zs w (8 * i + j) v w2) (fun _ bt _ => 8 - (intOf bt).toNat)
      case atStart => exact ⟨0, Nat.zero_le _, rfl, hrel⟩
      case round =>
        obtain ⟨j, hj, rfl, hrel⟩ := hrel
        by_cases hj8 : j < 8
        · have ht := testA zs HR.out i j hj8
          cases hbit : bitB zs (8 * i + j) with
          | true =>
            rw [hbit] at ht
            have HB : Hid _ := hbit
            clear hbit
            go_wp2_with fail
            refine (itoa_any _ (8 * i + j) (by omega) (by omega) _ (tab_below HT.out hrel.2.1)).mono ?_
            rintro e w3 ⟨rfl, h3⟩
            unfold strV
            have hlen := texts_len zs (8 * i + j)
            go_wp2_with (at_builtin; refine wpList_append_own _ rfl _ _ 22 rfl (w.heap.size + 1) 9 i0 (.string ByteArray.empty) 1 16 Ybad.underlying22 hi0 hz0 hz1 hz2 rfl (by decide) _ _ _ rfl (rel_own hrel h3 _) ⟨w3.heap.size, 0, none⟩ 1 1 [strV (Lib.decDigits (8 * i + j))] rfl rfl ?c1 ?c2 ?c3 ?c4 ?c5 ?_)
            case c1 =>
              intro q u hq
              match q, hq with
              | 0, hq => simp at hq; subst hq; simp [Addr.add, strV]
            case c2 => intro u hu; simp at hu; subst hu; rfl
            case c3 => unfold maxLen; omega
            case c4 => omega
            case c5 => have := h3.size; have := hrel.2.2; simp; omega
            intro v' w4 hown' hgrow hnn
            have R : Hid _ := rel_hit HB.out hrel h3 hown' hgrow
            clear hown' hgrow hnn hrel h3
            go_wp2
            go_roundw
            case rel => exact ⟨j + 1, by omega, by go_num, R.out⟩
            case measure => simp [intOf]; omega
          | false =>
            rw [hbit] at ht
            have R : Hid _ := rel_miss hbit hrel
            clear hbit hrel
            go_wp2
            go_roundw
            case rel => exact ⟨j + 1, by omega, by go_num, R.out⟩
            case measure => simp [intOf]; omega
        · have e8 : j = 8 := by omega
          subst e8
          go_wp2
          go_roundw
          case rel => exact ⟨i + 1, by omega, by go_num, hrel⟩
          case measure => simp [intOf]; omega
    · have e : i = len := by omega
      subst e
      go_wp2_with fail
      refine (join_owned hrel (by omega)).mono ?_
      rintro e w3 ⟨rfl, h3⟩
      have HB : Hid _ := hrel.2.1.trans (h3.mono (by have := hrel.2.2; omega))
      clear hrel h3
      go_wp2
      go_ret
      exact ⟨rfl, HB.out⟩
end Go.Proofs.YbulkdpluDoor
