/-
  zzs5818bdigits by its contract: onto a slice that the call owns, the decimal numeral.
-/
import Derived.Test.YbulkdpluDoorParts
namespace Go.Proofs.YbulkdpluDoor
open Go.RowKit

def byteV (c : UInt8) : Value := .int .u8 (c.toNat : Int)

theorem Ybad.info5 : (Ybad.prog.info? 5).map (fun i => (i.zero, i.size, i.bytes)) = some (some (.int .u8 0), 1, 1) := by kernel_rfl

theorem own_other {w : World} {base e n : Nat} {v : Value} {xs : List Value} (h : w.ownsRow base e 1 v n xs) {a : Addr} (ha : v.ownBlock ≠ some a.block) (u : Value) : (w.setCell a u).ownsRow base e 1 v n xs := by
  refine h.kept (row := some a.block) ⟨rfl, rfl, rfl, by simp [World.setCell], fun k _ hne => Below.heap_setCell _ _ _ _ (fun e => hne (by rw [e]))⟩ (Or.inr ha)

theorem row_set {w : World} {T i : Nat} {cur : Array Value} {t : TypeId} {x : Value} (h : w.heap[T]? = some (.cells cur t (0, 0))) : (w.setCell ⟨T, i, none⟩ x).heap[T]? = some (.cells (cur.setIfInBounds i x) t (0, 0)) := by
  simp [World.setCell, Array.getElem?_modify, h]

theorem drop_set {α : Type} (l : List α) (i : Nat) (x : α) (h : i < l.length) : (l.set i x).drop i = x :: l.drop (i + 1) := by
  rw [List.drop_eq_getElem_cons (by simpa using h)]
  simp [List.drop_set]

/-- What the loop keeps: m is what is left of n; the digits from place kk on stand in the row at the heap's old end. -/
structure Dig (w : World) (base : Nat) (v : Value) (xs : List Value) (n m kk : Nat) (wr : World) : Prop where
  suf : ∃ (s : List UInt8) (cur : Array Value), s.length + kk = 20 ∧ (if m = 0 then [] else Lib.decDigits m) ++ s = Lib.decDigits n ∧ wr.heap[w.heap.size]? = some (.cells cur 38 (0, 0)) ∧ cur.size = 20 ∧ cur.toList.drop kk = s.map byteV
  small : ∃ r, kk = 14 + r ∧ r ≤ 6 ∧ m < 10 ^ r
  own : wr.ownsRow base 5 1 v xs.length xs
  bel : Below w.heap.size w wr
  size : w.heap.size + 1 ≤ wr.heap.size
  old : ∀ k, v.ownBlock = some k → k < w.heap.size

section
variable {w : World} {base : Nat} {v : Value} {xs : List Value} {n m kk : Nat} {wr : World}

theorem Dig.bound (h : Dig w base v xs n m kk wr) : m < 1000000 ∧ 14 ≤ kk ∧ kk ≤ 20 := by
  obtain ⟨r, hk, hr, hm⟩ := h.small
  have : 10 ^ r ≤ 10 ^ 6 := Nat.pow_le_pow_right (by omega) hr
  have e : (10 : Nat) ^ 6 = 1000000 := by decide
  omega

theorem Dig.room (h : Dig w base v xs n m kk wr) (hm : 0 < m) : 14 < kk := by
  obtain ⟨r, hk, hr, hlt⟩ := h.small
  cases r with
  | zero => simp at hlt; omega
  | succ r => omega

theorem Dig.cell (h : Dig w base v xs n m kk wr) (i : Nat) (hi : i < 20) : ∃ u, wr.cell? ⟨w.heap.size, i, none⟩ = some u := by
  obtain ⟨s, cur, h1, h2, h3, h4, h5⟩ := h.suf
  exact ⟨cur[i]'(by omega), by simp [World.cell?, h3, h4, hi]⟩
theorem Dig.free (h : Dig w base v xs n m kk wr) (i : Nat) : wr.frozen? ⟨w.heap.size, i, none⟩ = false := by
  obtain ⟨s, cur, h1, h2, h3, h4, h5⟩ := h.suf
  simp [World.frozen?, h3]

theorem digits_split (m : Nat) (hm : 0 < m) : Lib.decDigits m = (if m / 10 = 0 then [] else Lib.decDigits (m / 10)) ++ [UInt8.ofNat (48 + m % 10)] := by
  rw [Lib.decDigits]
  split
  · rename_i h
    rw [if_pos (by omega), Nat.mod_eq_of_lt h]
    rfl
  · rw [if_neg (by omega)]

theorem Dig.step (h : Dig w base v xs n m kk wr) (hm : 0 < m) : Dig w base v xs n (m / 10) (kk - 1) (wr.setCell ⟨w.heap.size, kk - 1, none⟩ (.int .u8 (48 + (m : Int) % 10))) := by
  have hroom := h.room hm
  have hb := h.bound
  obtain ⟨s, cur, h1, h2, h3, h4, h5⟩ := h.suf
  refine ⟨⟨UInt8.ofNat (48 + m % 10) :: s, cur.setIfInBounds (kk - 1) (.int .u8 (48 + (m : Int) % 10)), ?_, ?_, row_set h3, by simp [h4], ?_⟩, ?_, ?_, h.bel.setCell (Nat.le_refl _) _, ?_, h.old⟩
  · simp; omega
  · rw [if_neg (by omega), digits_split m hm, List.append_assoc] at h2
    exact h2
  · rw [Array.toList_setIfInBounds, drop_set _ _ _ (by simp; omega), show kk - 1 + 1 = kk by omega, h5]
    have e : byteV (UInt8.ofNat (48 + m % 10)) = .int .u8 (48 + (m : Int) % 10) := by
      have e1 : (UInt8.ofNat (48 + m % 10)).toNat = 48 + m % 10 := by
        rw [UInt8.toNat_ofNat']
        omega
      unfold byteV
      rw [e1]
      congr 1
    rw [List.map_cons, e]
  · obtain ⟨r, hk, hr, hlt⟩ := h.small
    cases r with
    | zero => omega
    | succ r => exact ⟨r, by omega, by omega, Nat.div_lt_of_lt_mul (by rw [Nat.pow_succ] at hlt; omega)⟩
  · refine own_other h.own (fun e => ?_) _
    have := h.old _ e
    simp at this
  · simp [World.setCell]; exact h.size
end

set_option maxHeartbeats 800000 in
theorem digits_zero (base : Nat) (v : Value) (xs : List Value) (w : World) (hown : w.ownsRow base 5 1 v xs.length xs) (hbase : base ≤ w.heap.size) (hlen : xs.length ≤ 100000000) :
    Calls Ybad.prog 7 #[v, .int .i64 0] w fun e w' => ∃ v', e = .returned v' ∧ w'.ownsRow base 5 1 v' (xs.length + 1) (xs ++ [byteV 48]) ∧ Below base w w' := by
  obtain ⟨i0, hi0, hz0, hz1, hz2⟩ := info_parts Ybad.info5
  go_enter Ybad.func7, Ybad.ntmps7
  go_wp2_with (at_builtin; refine wpList_append_own _ rfl _ _ 24 rfl base 5 i0 (.int .u8 0) 1 1 Ybad.underlying24 hi0 hz0 hz1 hz2 rfl (by decide) _ _ _ rfl (hown.alloc _) ⟨w.heap.size, 0, none⟩ 1 1 [byteV 48] rfl rfl ?c1 ?c2 ?c3 ?c4 ?c5 ?_)
  case c1 =>
    intro q u hq
    match q, hq with
    | 0, hq => simp at hq; subst hq; simp [Addr.add, byteV]
  case c2 => intro u hu; simp at hu; subst hu; rfl
  case c3 => unfold maxLen; omega
  case c4 => omega
  case c5 => simp; omega
  intro v' w1 hown' hgrow hnn
  have hlt := hown.lt
  have HB : Hid _ := ((Below.refl base w).alloc hbase _).grown hgrow (by simp; omega) (fun j hj => (hlt j hj).1)
  have HO : Hid _ := hown'
  clear hown' hgrow hnn hown hlt
  go_wp2
  go_ret
  exact ⟨_, rfl, HO.out, HB.out⟩

theorem Ybad.arr38 : Ybad.prog.arrayLen 38 = 20 := by kernel_rfl
theorem Ybad.elem38 : Ybad.prog.elem 38 = 5 := by kernel_rfl
theorem Ybad.under38 : Ybad.prog.underlying 38 = some (.array (Ybad.prog.arrayLen 38) (Ybad.prog.elem 38)) := by kernel_rfl
theorem slice20 (T kk : Nat) (hk : kk < 20) (w : World) : (Instr.sliceAt 38 (.pointer (some ⟨T, 0, none⟩)) (some (.int .i64 kk)) none none).run Ybad.prog w = .ok (.slice (some ⟨T, kk, none⟩) (20 - kk) (20 - kk)) w := by
  rw [run_sliceAt_array_l w 38 ⟨T, 0, none⟩ Ybad.under38 .i64 kk (by omega) (by rw [Ybad.arr38]; omega), Ybad.elem38]
  have hs : (sizeOf 5).run Ybad.prog w = .ok 1 w := by kernel_rfl
  rw [hs, Ybad.arr38]
  simp only [Result.andThen_ok, slicedAt, Int.toNat_natCast, Nat.mul_one]
  rw [if_neg (by omega), Addr.add_lit, Nat.zero_add]

/-- When nothing is left the row's end is the numeral. -/
theorem Dig.done {w : World} {base : Nat} {v : Value} {xs : List Value} {n kk : Nat} {wr : World} (h : Dig w base v xs n 0 kk wr) :
    kk < 20 ∧ (Lib.decDigits n).length = 20 - kk ∧ ∀ j u, ((Lib.decDigits n).map byteV)[j]? = some u → wr.cell? ((⟨w.heap.size, kk, none⟩ : Addr).add j) = some u := by
  obtain ⟨s, cur, h1, h2, h3, h4, h5⟩ := h.suf
  simp only [if_true, List.nil_append] at h2
  have hs : 0 < s.length := by
    rw [h2, Lib.decDigits]
    split <;> simp
  refine ⟨by omega, by rw [← h2]; omega, fun j u hj => ?_⟩
  rw [← h2, ← h5, List.getElem?_drop] at hj
  rw [Addr.add_lit]
  simp [World.cell?, h3]
  simpa using hj

theorem zeros20 (w : World) : (w.alloc (.cells #[.int .u8 0, .int .u8 0, .int .u8 0, .int .u8 0, .int .u8 0, .int .u8 0, .int .u8 0, .int .u8 0, .int .u8 0, .int .u8 0, .int .u8 0, .int .u8 0, .int .u8 0, .int .u8 0, .int .u8 0, .int .u8 0, .int .u8 0, .int .u8 0, .int .u8 0, .int .u8 0] 38)).heap[w.heap.size]? = some (.cells #[.int .u8 0, .int .u8 0, .int .u8 0, .int .u8 0, .int .u8 0, .int .u8 0, .int .u8 0, .int .u8 0, .int .u8 0, .int .u8 0, .int .u8 0, .int .u8 0, .int .u8 0, .int .u8 0, .int .u8 0, .int .u8 0, .int .u8 0, .int .u8 0, .int .u8 0, .int .u8 0] 38 (0, 0)) := by
  show (w.heap.push _)[w.heap.size]? = _
  simp

set_option maxHeartbeats 1600000 in
theorem digits_some (base : Nat) (v : Value) (xs : List Value) (n : Nat) (w : World) (hown : w.ownsRow base 5 1 v xs.length xs) (hbase : base ≤ w.heap.size) (hlen : xs.length ≤ 100000000) (hn : 0 < n) (hn6 : n < 1000000) :
    Calls Ybad.prog 7 #[v, .int .i64 n] w fun e w' => ∃ v', e = .returned v' ∧ w'.ownsRow base 5 1 v' (xs.length + (Lib.decDigits n).length) (xs ++ (Lib.decDigits n).map byteV) ∧ Below base w w' := by
  obtain ⟨i0, hi0, hz0, hz1, hz2⟩ := info_parts Ybad.info5
  have hn0 : ((n : Int) == 0) = false := by simp; omega
  have hlt := hown.lt
  have H0 : Hid (Dig w base v xs n n 20 _) := (⟨⟨[], _, rfl, by rw [if_neg (by omega)]; simp, zeros20 w, rfl, rfl⟩, ⟨6, rfl, Nat.le_refl _, by simpa using hn6⟩, hown.alloc _, (Below.refl _ _).alloc (Nat.le_refl _) _, by simp, fun k hk => (hlt k hk).2⟩ : Dig w base v xs n n 20 _)
  clear hown
  go_enter Ybad.func7, Ybad.ntmps7
  go_wp2
  go_loopw [1, 6] (fun nv kv wr => ∃ m kk : Nat, nv = .int .i64 m ∧ kv = .int .i64 kk ∧ Dig w base v xs n m kk wr) (fun nv _ _ => (intOf nv).toNat)
  case atStart => exact ⟨n, 20, rfl, rfl, H0.out⟩
  case round =>
    obtain ⟨m, kk, rfl, rfl, hd⟩ := hrel
    have hb := hd.bound
    by_cases hm : 0 < m
    · have hroom := hd.room hm
      obtain ⟨u, hu⟩ := hd.cell (kk - 1) (by omega)
      have hf := hd.free (kk - 1)
      have R : Hid _ := hd.step hm
      clear hd
      go_wp2
      go_roundw
      case rel => exact ⟨m / 10, kk - 1, by go_num, by go_num, R.out⟩
      case measure => simp [intOf]; omega
    · have e : m = 0 := by omega
      subst e
      obtain ⟨hk, hL, hcell⟩ := hd.done
      have hsl := slice20 w.heap.size kk hk
      have hown := hd.own
      have hbel := hd.bel
      have hsz := hd.size
      have hdl := digits_len n hn6
      have HC : Hid _ := hcell
      clear hd H0 hcell
      go_wp2_with (at_builtin; refine wpList_append_own _ rfl _ _ 24 rfl base 5 i0 (.int .u8 0) 1 1 Ybad.underlying24 hi0 hz0 hz1 hz2 rfl (by decide) _ _ _ rfl hown ⟨w.heap.size, kk, none⟩ (20 - kk) (20 - kk) ((Lib.decDigits n).map byteV) rfl ?c0 ?c1 ?c2 ?c3 ?c4 ?c5 ?_)
      case c0 => rw [List.length_map, hL, Nat.mul_one]
      case c1 => exact HC.out
      case c2 => intro u hu; rw [List.mem_map] at hu; obtain ⟨c, _, rfl⟩ := hu; rfl
      case c3 => unfold maxLen; omega
      case c4 => omega
      case c5 => omega
      intro v' w1 hown' hgrow hnn
      have hlt' := hown.lt
      have HB : Hid _ := (hbel.mono hbase).grown hgrow (by omega) (fun j hj => (hlt' j hj).1)
      rw [← hL] at hown'
      have HO : Hid _ := hown'
      clear hown' hgrow hnn hown hlt' hbel hsl
      go_wp2
      go_ret
      exact ⟨_, rfl, HO.out, HB.out⟩
end Go.Proofs.YbulkdpluDoor
