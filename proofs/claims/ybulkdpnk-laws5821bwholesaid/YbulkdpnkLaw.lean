/-
  THE LAW's WALK: one theorem for each setting of its three flags (typed by a program of ours, off one text); then the law for whatever flags.
-/
import Derived.Test.YbulkdpnkMid
import Derived.Deep.DeepCutAuto
import Derived.Lib.Builder
namespace Go.Proofs.Ybulkdpnk
open Go.RowKit
set_option linter.unusedSimpArgs false
set_option linter.unusedVariables false

theorem run_len_chan' {P : Program} {w : World} {c cap s r : Nat} {buf : Array Value} {closed : Bool} (hc : w.heap[c]? = some (.chan cap buf closed s r false)) (h : P.underlying 61 = some (.chan .both 24) := by exact Yba.underlying61) :
    (Builtin.len_ #[61] 3 #[.chan (some c)]).run P w = .ok (.int .i64 buf.size) w := by
  simp [Builtin.len_, run_underlying h, run_getObj_chan _ _ hc]
  rfl
theorem neq_same (a : Addr) (w : World) : (binOp .neq 37 (.pointer (some a)) (.pointer (some a))).run Yba.prog w = .ok (.bool false) w := by
  obtain ⟨j, hj, _⟩ := Option.map_eq_some_iff.1 Yba.size63
  exact Lib.run_neq_ptr_same w a Yba.underlying37 hj

set_option maxRecDepth 100000 in
set_option maxHeartbeats 1600000 in
theorem law_000 (a0 : Int) (w : World) (g1 : 0 ≤ a0) (g2 : a0 < 18446744073709551616) :
    Calls Yba.prog 3 #[.int .u64 a0, .bool false, .bool false, .bool false] w fun e w' => e = .returned (.bool true) ∧ Below w.heap.size w w' := by
  have HS : Hid _ := t256 a0 g1 g2 false false false
  have HL : Hid _ := t1 a0 g1 g2 false false false
  have HQ : Hid _ := t512 a0 g1 g2 false false false
  have hmk := mk1
  go_enter Yba.func3, Yba.ntmps3
  go_upto_region 10 with (go_at_call 5; refine (store_any w.heap.size 0 0 _ _ ?_ ?_).mono ?_; go_simp; go_simp; rintro e w' ⟨rfl, rfl⟩)
  go_cut [11] (fun s11 wx => Mid w.heap.size (bits .andNot .u64 a0 769) w wx s11)
  case first =>
    go_region
    all_goals (go_wp2_with fail; go_meet)
    all_goals first | exact mid3 w _ _ _ _ rfl rfl (by simp) | exact mid2 w _ _ _ _ rfl rfl (by simp) | exact mid1 w _ _ _ _ rfl rfl (by simp)
  case rest =>
    obtain ⟨p, c0, c1, rfl, m0, m0f, m31, hp, h0, h1, cc, b0, b1, hb⟩ := hcut
    clear hmk
    have hpw := lt_of hp
    go_wp2_with fail
    refine (storep_any wc.heap.size 1 p none (.chan (some c0)) _ ?_ ?_ ?_).mono ?_
    · go_simp
    · go_simp
    · rw [World.cell?_alloc_past _ _ _ hpw]; exact (pair_cells hp).1
    rintro e w1 ⟨rfl, rfl⟩
    go_wp2_with fail
    have hst := fun l l0 l1 => St.begin (l := l) m0 m0f m31 hp h0 h1 cc b0 b1 hb l0 l1
    clear m0 m0f m31 hp h0 h1 b0 b1 hb hpw
    have hs : (bits .and .u64 (bits .andNot .u64 a0 769) 256 == 0) = true := by
      have := HS.out
      simp only [layI, if_true, if_false, Bool.false_eq_true, ↓reduceIte] at this
      rw [this]; rfl
    refine (St.callNone (hst _ rfl rfl) hs).mono ?_
    rintro e w2 ⟨rfl, h2⟩
    clear hst hs
    have q0 := (pair_cells h2.hp).1
    have q1 := (pair_cells h2.hp).2
    have np := neq_same
    have n0 := run_len_chan' (P := Yba.prog) h2.h0
    have n1 := run_len_chan' (P := Yba.prog) h2.h1
    go_wp2_with fail
    refine (load_any w.heap.size 0 _ _ h2.m0).mono ?_
    rintro e w3 ⟨rfl, hw3⟩
    have hb3 := h2.bel
    subst hw3
    go_wp2_with fail
    refine (loadp_any wc.heap.size 1 p _ _ _ h2.l1 h2.hp).mono ?_
    rintro e w3 ⟨rfl, hw3⟩
    subst hw3
    go_wp2_with fail
    refine (loadn_any w.heap.size 31 _ h2.m31).mono ?_
    rintro e w3 ⟨rfl, hw3⟩
    subst hw3
    go_wp2_with fail
    refine (load_any wc.heap.size 0 _ _ h2.l0).mono ?_
    rintro e w3 ⟨rfl, hw3⟩
    subst hw3
    clear h2
    go_wp2
    go_ret
    exact ⟨rfl, hb3⟩

set_option maxRecDepth 100000 in
set_option maxHeartbeats 1600000 in
theorem law_001 (a0 : Int) (w : World) (g1 : 0 ≤ a0) (g2 : a0 < 18446744073709551616) :
    Calls Yba.prog 3 #[.int .u64 a0, .bool false, .bool false, .bool true] w fun e w' => e = .returned (.bool true) ∧ Below w.heap.size w w' := by
  have HS : Hid _ := t256 a0 g1 g2 false false true
  have HL : Hid _ := t1 a0 g1 g2 false false true
  have HQ : Hid _ := t512 a0 g1 g2 false false true
  have hmk := mk1
  go_enter Yba.func3, Yba.ntmps3
  go_upto_region 10 with (go_at_call 5; refine (store_any w.heap.size 0 0 _ _ ?_ ?_).mono ?_; go_simp; go_simp; rintro e w' ⟨rfl, rfl⟩)
  go_cut [11] (fun s11 wx => Mid w.heap.size (bits .or .u64 (bits .andNot .u64 a0 769) 512) w wx s11)
  case first =>
    go_region
    all_goals (go_wp2_with fail; go_meet)
    all_goals first | exact mid3 w _ _ _ _ rfl rfl (by simp) | exact mid2 w _ _ _ _ rfl rfl (by simp) | exact mid1 w _ _ _ _ rfl rfl (by simp)
  case rest =>
    obtain ⟨p, c0, c1, rfl, m0, m0f, m31, hp, h0, h1, cc, b0, b1, hb⟩ := hcut
    clear hmk
    have hpw := lt_of hp
    go_wp2_with fail
    refine (storep_any wc.heap.size 1 p none (.chan (some c0)) _ ?_ ?_ ?_).mono ?_
    · go_simp
    · go_simp
    · rw [World.cell?_alloc_past _ _ _ hpw]; exact (pair_cells hp).1
    rintro e w1 ⟨rfl, rfl⟩
    go_wp2_with fail
    have hst := fun l l0 l1 => St.begin (l := l) m0 m0f m31 hp h0 h1 cc b0 b1 hb l0 l1
    clear m0 m0f m31 hp h0 h1 b0 b1 hb hpw
    have hs : (bits .and .u64 (bits .or .u64 (bits .andNot .u64 a0 769) 512) 256 == 0) = true := by
      have := HS.out
      simp only [layI, if_true, if_false, Bool.false_eq_true, ↓reduceIte] at this
      rw [this]; rfl
    refine (St.callNone (hst _ rfl rfl) hs).mono ?_
    rintro e w2 ⟨rfl, h2⟩
    clear hst hs
    have q0 := (pair_cells h2.hp).1
    have q1 := (pair_cells h2.hp).2
    have np := neq_same
    have n0 := run_len_chan' (P := Yba.prog) h2.h0
    have n1 := run_len_chan' (P := Yba.prog) h2.h1
    go_wp2_with fail
    refine (load_any w.heap.size 0 _ _ h2.m0).mono ?_
    rintro e w3 ⟨rfl, hw3⟩
    have hb3 := h2.bel
    subst hw3
    go_wp2_with fail
    refine (loadp_any wc.heap.size 1 p _ _ _ h2.l1 h2.hp).mono ?_
    rintro e w3 ⟨rfl, hw3⟩
    subst hw3
    go_wp2_with fail
    refine (loadn_any w.heap.size 31 _ h2.m31).mono ?_
    rintro e w3 ⟨rfl, hw3⟩
    subst hw3
    go_wp2_with fail
    refine (load_any wc.heap.size 0 _ _ h2.l0).mono ?_
    rintro e w3 ⟨rfl, hw3⟩
    subst hw3
    clear h2
    go_wp2
    go_ret
    exact ⟨rfl, hb3⟩

set_option maxRecDepth 100000 in
set_option maxHeartbeats 1600000 in
theorem law_010 (a0 : Int) (w : World) (g1 : 0 ≤ a0) (g2 : a0 < 18446744073709551616) :
    Calls Yba.prog 3 #[.int .u64 a0, .bool false, .bool true, .bool false] w fun e w' => e = .returned (.bool true) ∧ Below w.heap.size w w' := by
  have HS : Hid _ := t256 a0 g1 g2 false true false
  have HL : Hid _ := t1 a0 g1 g2 false true false
  have HQ : Hid _ := t512 a0 g1 g2 false true false
  have hmk := mk1
  go_enter Yba.func3, Yba.ntmps3
  go_upto_region 10 with (go_at_call 5; refine (store_any w.heap.size 0 0 _ _ ?_ ?_).mono ?_; go_simp; go_simp; rintro e w' ⟨rfl, rfl⟩)
  go_cut [11] (fun s11 wx => Mid w.heap.size (bits .or .u64 (bits .andNot .u64 a0 769) 1) w wx s11)
  case first =>
    go_region
    all_goals (go_wp2_with fail; go_meet)
    all_goals first | exact mid3 w _ _ _ _ rfl rfl (by simp) | exact mid2 w _ _ _ _ rfl rfl (by simp) | exact mid1 w _ _ _ _ rfl rfl (by simp)
  case rest =>
    obtain ⟨p, c0, c1, rfl, m0, m0f, m31, hp, h0, h1, cc, b0, b1, hb⟩ := hcut
    clear hmk
    have hpw := lt_of hp
    go_wp2_with fail
    refine (storep_any wc.heap.size 1 p none (.chan (some c0)) _ ?_ ?_ ?_).mono ?_
    · go_simp
    · go_simp
    · rw [World.cell?_alloc_past _ _ _ hpw]; exact (pair_cells hp).1
    rintro e w1 ⟨rfl, rfl⟩
    go_wp2_with fail
    have hst := fun l l0 l1 => St.begin (l := l) m0 m0f m31 hp h0 h1 cc b0 b1 hb l0 l1
    clear m0 m0f m31 hp h0 h1 b0 b1 hb hpw
    have hs : (bits .and .u64 (bits .or .u64 (bits .andNot .u64 a0 769) 1) 256 == 0) = true := by
      have := HS.out
      simp only [layI, if_true, if_false, Bool.false_eq_true, ↓reduceIte] at this
      rw [this]; rfl
    refine (St.callNone (hst _ rfl rfl) hs).mono ?_
    rintro e w2 ⟨rfl, h2⟩
    clear hst hs
    have q0 := (pair_cells h2.hp).1
    have q1 := (pair_cells h2.hp).2
    have np := neq_same
    have n0 := run_len_chan' (P := Yba.prog) h2.h0
    have n1 := run_len_chan' (P := Yba.prog) h2.h1
    go_wp2_with fail
    refine (load_any w.heap.size 0 _ _ h2.m0).mono ?_
    rintro e w3 ⟨rfl, hw3⟩
    have hb3 := h2.bel
    subst hw3
    go_wp2_with fail
    refine (loadp_any wc.heap.size 1 p _ _ _ h2.l1 h2.hp).mono ?_
    rintro e w3 ⟨rfl, hw3⟩
    subst hw3
    go_wp2_with fail
    refine (loadn_any w.heap.size 31 _ h2.m31).mono ?_
    rintro e w3 ⟨rfl, hw3⟩
    subst hw3
    go_wp2_with fail
    refine (load_any wc.heap.size 0 _ _ h2.l0).mono ?_
    rintro e w3 ⟨rfl, hw3⟩
    subst hw3
    clear h2
    go_wp2
    go_ret
    exact ⟨rfl, hb3⟩

set_option maxRecDepth 100000 in
set_option maxHeartbeats 1600000 in
theorem law_011 (a0 : Int) (w : World) (g1 : 0 ≤ a0) (g2 : a0 < 18446744073709551616) :
    Calls Yba.prog 3 #[.int .u64 a0, .bool false, .bool true, .bool true] w fun e w' => e = .returned (.bool true) ∧ Below w.heap.size w w' := by
  have HS : Hid _ := t256 a0 g1 g2 false true true
  have HL : Hid _ := t1 a0 g1 g2 false true true
  have HQ : Hid _ := t512 a0 g1 g2 false true true
  have hmk := mk1
  go_enter Yba.func3, Yba.ntmps3
  go_upto_region 10 with (go_at_call 5; refine (store_any w.heap.size 0 0 _ _ ?_ ?_).mono ?_; go_simp; go_simp; rintro e w' ⟨rfl, rfl⟩)
  go_cut [11] (fun s11 wx => Mid w.heap.size (bits .or .u64 (bits .or .u64 (bits .andNot .u64 a0 769) 1) 512) w wx s11)
  case first =>
    go_region
    all_goals (go_wp2_with fail; go_meet)
    all_goals first | exact mid3 w _ _ _ _ rfl rfl (by simp) | exact mid2 w _ _ _ _ rfl rfl (by simp) | exact mid1 w _ _ _ _ rfl rfl (by simp)
  case rest =>
    obtain ⟨p, c0, c1, rfl, m0, m0f, m31, hp, h0, h1, cc, b0, b1, hb⟩ := hcut
    clear hmk
    have hpw := lt_of hp
    go_wp2_with fail
    refine (storep_any wc.heap.size 1 p none (.chan (some c0)) _ ?_ ?_ ?_).mono ?_
    · go_simp
    · go_simp
    · rw [World.cell?_alloc_past _ _ _ hpw]; exact (pair_cells hp).1
    rintro e w1 ⟨rfl, rfl⟩
    go_wp2_with fail
    have hst := fun l l0 l1 => St.begin (l := l) m0 m0f m31 hp h0 h1 cc b0 b1 hb l0 l1
    clear m0 m0f m31 hp h0 h1 b0 b1 hb hpw
    have hs : (bits .and .u64 (bits .or .u64 (bits .or .u64 (bits .andNot .u64 a0 769) 1) 512) 256 == 0) = true := by
      have := HS.out
      simp only [layI, if_true, if_false, Bool.false_eq_true, ↓reduceIte] at this
      rw [this]; rfl
    refine (St.callNone (hst _ rfl rfl) hs).mono ?_
    rintro e w2 ⟨rfl, h2⟩
    clear hst hs
    have q0 := (pair_cells h2.hp).1
    have q1 := (pair_cells h2.hp).2
    have np := neq_same
    have n0 := run_len_chan' (P := Yba.prog) h2.h0
    have n1 := run_len_chan' (P := Yba.prog) h2.h1
    go_wp2_with fail
    refine (load_any w.heap.size 0 _ _ h2.m0).mono ?_
    rintro e w3 ⟨rfl, hw3⟩
    have hb3 := h2.bel
    subst hw3
    go_wp2_with fail
    refine (loadp_any wc.heap.size 1 p _ _ _ h2.l1 h2.hp).mono ?_
    rintro e w3 ⟨rfl, hw3⟩
    subst hw3
    go_wp2_with fail
    refine (loadn_any w.heap.size 31 _ h2.m31).mono ?_
    rintro e w3 ⟨rfl, hw3⟩
    subst hw3
    go_wp2_with fail
    refine (load_any wc.heap.size 0 _ _ h2.l0).mono ?_
    rintro e w3 ⟨rfl, hw3⟩
    subst hw3
    clear h2
    go_wp2
    go_ret
    exact ⟨rfl, hb3⟩

set_option maxRecDepth 100000 in
set_option maxHeartbeats 1600000 in
theorem law_100 (a0 : Int) (w : World) (g1 : 0 ≤ a0) (g2 : a0 < 18446744073709551616) :
    Calls Yba.prog 3 #[.int .u64 a0, .bool true, .bool false, .bool false] w fun e w' => e = .returned (.bool true) ∧ Below w.heap.size w w' := by
  have HS : Hid _ := t256 a0 g1 g2 true false false
  have HL : Hid _ := t1 a0 g1 g2 true false false
  have HQ : Hid _ := t512 a0 g1 g2 true false false
  have HC : Hid _ := cleared a0 g1 g2 false false
  have HG : Hid _ := lay_ge a0 g1 g2 false false
  have hmk := mk1
  go_enter Yba.func3, Yba.ntmps3
  go_upto_region 10 with (go_at_call 5; refine (store_any w.heap.size 0 0 _ _ ?_ ?_).mono ?_; go_simp; go_simp; rintro e w' ⟨rfl, rfl⟩)
  go_cut [11] (fun s11 wx => Mid w.heap.size (bits .or .u64 (bits .andNot .u64 a0 769) 256) w wx s11)
  case first =>
    go_region
    all_goals (go_wp2_with fail; go_meet)
    all_goals first | exact mid3 w _ _ _ _ rfl rfl (by simp) | exact mid2 w _ _ _ _ rfl rfl (by simp) | exact mid1 w _ _ _ _ rfl rfl (by simp)
  case rest =>
    obtain ⟨p, c0, c1, rfl, m0, m0f, m31, hp, h0, h1, cc, b0, b1, hb⟩ := hcut
    clear hmk
    have hpw := lt_of hp
    go_wp2_with fail
    refine (storep_any wc.heap.size 1 p none (.chan (some c0)) _ ?_ ?_ ?_).mono ?_
    · go_simp
    · go_simp
    · rw [World.cell?_alloc_past _ _ _ hpw]; exact (pair_cells hp).1
    rintro e w1 ⟨rfl, rfl⟩
    go_wp2_with fail
    have hst := fun l l0 l1 => St.begin (l := l) m0 m0f m31 hp h0 h1 cc b0 b1 hb l0 l1
    clear m0 m0f m31 hp h0 h1 b0 b1 hb hpw
    have hs : (bits .and .u64 (bits .or .u64 (bits .andNot .u64 a0 769) 256) 256 == 0) = false := by
      have := HS.out
      simp only [layI, if_true, if_false, Bool.false_eq_true, ↓reduceIte] at this
      rw [this]; rfl
    have hl : (bits .and .u64 (bits .or .u64 (bits .andNot .u64 a0 769) 256) 1 == 0) = true := by
      have := HL.out
      simp only [layI, if_true, if_false, Bool.false_eq_true, ↓reduceIte] at this
      rw [this]; rfl
    have hq : bits .and .u64 (bits .or .u64 (bits .andNot .u64 a0 769) 256) 512 = 0 := by
      have := HQ.out
      simp only [layI, if_true, if_false, Bool.false_eq_true, ↓reduceIte] at this
      exact this
    refine (St.callSend0 (hst _ rfl rfl) hs hl hq).mono ?_
    rintro e w2 ⟨rfl, h2⟩
    clear hst hs hl hq
    have q0 := (pair_cells h2.hp).1
    have q1 := (pair_cells h2.hp).2
    have np := neq_same
    have n0 := run_len_chan' (P := Yba.prog) h2.h0
    have n1 := run_len_chan' (P := Yba.prog) h2.h1
    go_wp2_with fail
    refine (load_any w.heap.size 0 _ _ h2.m0).mono ?_
    rintro e w3 ⟨rfl, hw3⟩
    have hb3 := h2.bel
    subst hw3
    go_wp2_with fail
    refine (loadp_any wc.heap.size 1 p _ _ _ h2.l1 h2.hp).mono ?_
    rintro e w3 ⟨rfl, hw3⟩
    subst hw3
    go_wp2_with fail
    refine (loadn_any w.heap.size 31 _ h2.m31).mono ?_
    rintro e w3 ⟨rfl, hw3⟩
    subst hw3
    go_wp2_with fail
    refine (load_any wc.heap.size 0 _ _ h2.l0).mono ?_
    rintro e w3 ⟨rfl, hw3⟩
    subst hw3
    clear h2
    have hcl : bits .andNot .u64 (bits .or .u64 (bits .andNot .u64 a0 769) 256) 256 = IntKind.u64.wrap (bits .or .u64 (bits .andNot .u64 a0 769) 256 - 256) := by
      have hc1 := HC.out
      have hg1 := HG.out
      simp only [layI, if_true, if_false, Bool.false_eq_true, ↓reduceIte] at hc1 hg1
      rw [hc1, IntKind.wrap_u64]
      omega
    go_wp2
    go_ret
    exact ⟨rfl, hb3⟩

set_option maxRecDepth 100000 in
set_option maxHeartbeats 1600000 in
theorem law_101 (a0 : Int) (w : World) (g1 : 0 ≤ a0) (g2 : a0 < 18446744073709551616) :
    Calls Yba.prog 3 #[.int .u64 a0, .bool true, .bool false, .bool true] w fun e w' => e = .returned (.bool true) ∧ Below w.heap.size w w' := by
  have HS : Hid _ := t256 a0 g1 g2 true false true
  have HL : Hid _ := t1 a0 g1 g2 true false true
  have HQ : Hid _ := t512 a0 g1 g2 true false true
  have HC : Hid _ := cleared a0 g1 g2 false true
  have HG : Hid _ := lay_ge a0 g1 g2 false true
  have hmk := mk1
  go_enter Yba.func3, Yba.ntmps3
  go_upto_region 10 with (go_at_call 5; refine (store_any w.heap.size 0 0 _ _ ?_ ?_).mono ?_; go_simp; go_simp; rintro e w' ⟨rfl, rfl⟩)
  go_cut [11] (fun s11 wx => Mid w.heap.size (bits .or .u64 (bits .or .u64 (bits .andNot .u64 a0 769) 256) 512) w wx s11)
  case first =>
    go_region
    all_goals (go_wp2_with fail; go_meet)
    all_goals first | exact mid3 w _ _ _ _ rfl rfl (by simp) | exact mid2 w _ _ _ _ rfl rfl (by simp) | exact mid1 w _ _ _ _ rfl rfl (by simp)
  case rest =>
    obtain ⟨p, c0, c1, rfl, m0, m0f, m31, hp, h0, h1, cc, b0, b1, hb⟩ := hcut
    clear hmk
    have hpw := lt_of hp
    go_wp2_with fail
    refine (storep_any wc.heap.size 1 p none (.chan (some c0)) _ ?_ ?_ ?_).mono ?_
    · go_simp
    · go_simp
    · rw [World.cell?_alloc_past _ _ _ hpw]; exact (pair_cells hp).1
    rintro e w1 ⟨rfl, rfl⟩
    go_wp2_with fail
    have hst := fun l l0 l1 => St.begin (l := l) m0 m0f m31 hp h0 h1 cc b0 b1 hb l0 l1
    clear m0 m0f m31 hp h0 h1 b0 b1 hb hpw
    have hs : (bits .and .u64 (bits .or .u64 (bits .or .u64 (bits .andNot .u64 a0 769) 256) 512) 256 == 0) = false := by
      have := HS.out
      simp only [layI, if_true, if_false, Bool.false_eq_true, ↓reduceIte] at this
      rw [this]; rfl
    have hl : (bits .and .u64 (bits .or .u64 (bits .or .u64 (bits .andNot .u64 a0 769) 256) 512) 1 == 0) = true := by
      have := HL.out
      simp only [layI, if_true, if_false, Bool.false_eq_true, ↓reduceIte] at this
      rw [this]; rfl
    have hq : bits .and .u64 (bits .or .u64 (bits .or .u64 (bits .andNot .u64 a0 769) 256) 512) 512 = 512 := by
      have := HQ.out
      simp only [layI, if_true, if_false, Bool.false_eq_true, ↓reduceIte] at this
      exact this
    refine (St.callSend1 (hst _ rfl rfl) hs hl hq).mono ?_
    rintro e w2 ⟨rfl, h2⟩
    clear hst hs hl hq
    have q0 := (pair_cells h2.hp).1
    have q1 := (pair_cells h2.hp).2
    have np := neq_same
    have n0 := run_len_chan' (P := Yba.prog) h2.h0
    have n1 := run_len_chan' (P := Yba.prog) h2.h1
    go_wp2_with fail
    refine (load_any w.heap.size 0 _ _ h2.m0).mono ?_
    rintro e w3 ⟨rfl, hw3⟩
    have hb3 := h2.bel
    subst hw3
    go_wp2_with fail
    refine (loadp_any wc.heap.size 1 p _ _ _ h2.l1 h2.hp).mono ?_
    rintro e w3 ⟨rfl, hw3⟩
    subst hw3
    go_wp2_with fail
    refine (loadn_any w.heap.size 31 _ h2.m31).mono ?_
    rintro e w3 ⟨rfl, hw3⟩
    subst hw3
    go_wp2_with fail
    refine (load_any wc.heap.size 0 _ _ h2.l0).mono ?_
    rintro e w3 ⟨rfl, hw3⟩
    subst hw3
    clear h2
    have hcl : bits .andNot .u64 (bits .or .u64 (bits .or .u64 (bits .andNot .u64 a0 769) 256) 512) 256 = IntKind.u64.wrap (bits .or .u64 (bits .or .u64 (bits .andNot .u64 a0 769) 256) 512 - 256) := by
      have hc1 := HC.out
      have hg1 := HG.out
      simp only [layI, if_true, if_false, Bool.false_eq_true, ↓reduceIte] at hc1 hg1
      rw [hc1, IntKind.wrap_u64]
      omega
    go_wp2
    go_ret
    exact ⟨rfl, hb3⟩

set_option maxRecDepth 100000 in
set_option maxHeartbeats 1600000 in
theorem law_110 (a0 : Int) (w : World) (g1 : 0 ≤ a0) (g2 : a0 < 18446744073709551616) :
    Calls Yba.prog 3 #[.int .u64 a0, .bool true, .bool true, .bool false] w fun e w' => e = .returned (.bool true) ∧ Below w.heap.size w w' := by
  have HS : Hid _ := t256 a0 g1 g2 true true false
  have HL : Hid _ := t1 a0 g1 g2 true true false
  have HQ : Hid _ := t512 a0 g1 g2 true true false
  have HC : Hid _ := cleared a0 g1 g2 true false
  have HG : Hid _ := lay_ge a0 g1 g2 true false
  have hmk := mk1
  go_enter Yba.func3, Yba.ntmps3
  go_upto_region 10 with (go_at_call 5; refine (store_any w.heap.size 0 0 _ _ ?_ ?_).mono ?_; go_simp; go_simp; rintro e w' ⟨rfl, rfl⟩)
  go_cut [11] (fun s11 wx => Mid w.heap.size (bits .or .u64 (bits .or .u64 (bits .andNot .u64 a0 769) 256) 1) w wx s11)
  case first =>
    go_region
    all_goals (go_wp2_with fail; go_meet)
    all_goals first | exact mid3 w _ _ _ _ rfl rfl (by simp) | exact mid2 w _ _ _ _ rfl rfl (by simp) | exact mid1 w _ _ _ _ rfl rfl (by simp)
  case rest =>
    obtain ⟨p, c0, c1, rfl, m0, m0f, m31, hp, h0, h1, cc, b0, b1, hb⟩ := hcut
    clear hmk
    have hpw := lt_of hp
    go_wp2_with fail
    refine (storep_any wc.heap.size 1 p none (.chan (some c0)) _ ?_ ?_ ?_).mono ?_
    · go_simp
    · go_simp
    · rw [World.cell?_alloc_past _ _ _ hpw]; exact (pair_cells hp).1
    rintro e w1 ⟨rfl, rfl⟩
    go_wp2_with fail
    have hst := fun l l0 l1 => St.begin (l := l) m0 m0f m31 hp h0 h1 cc b0 b1 hb l0 l1
    clear m0 m0f m31 hp h0 h1 b0 b1 hb hpw
    have hs : (bits .and .u64 (bits .or .u64 (bits .or .u64 (bits .andNot .u64 a0 769) 256) 1) 256 == 0) = false := by
      have := HS.out
      simp only [layI, if_true, if_false, Bool.false_eq_true, ↓reduceIte] at this
      rw [this]; rfl
    have hl : (bits .and .u64 (bits .or .u64 (bits .or .u64 (bits .andNot .u64 a0 769) 256) 1) 1 == 0) = false := by
      have := HL.out
      simp only [layI, if_true, if_false, Bool.false_eq_true, ↓reduceIte] at this
      rw [this]; rfl
    refine (St.callHeld (hst _ rfl rfl) hs hl).mono ?_
    rintro e w2 ⟨rfl, h2⟩
    clear hst hs hl
    have q0 := (pair_cells h2.hp).1
    have q1 := (pair_cells h2.hp).2
    have np := neq_same
    have n0 := run_len_chan' (P := Yba.prog) h2.h0
    have n1 := run_len_chan' (P := Yba.prog) h2.h1
    go_wp2_with fail
    refine (load_any w.heap.size 0 _ _ h2.m0).mono ?_
    rintro e w3 ⟨rfl, hw3⟩
    have hb3 := h2.bel
    subst hw3
    go_wp2_with fail
    refine (loadp_any wc.heap.size 1 p _ _ _ h2.l1 h2.hp).mono ?_
    rintro e w3 ⟨rfl, hw3⟩
    subst hw3
    go_wp2_with fail
    refine (loadn_any w.heap.size 31 _ h2.m31).mono ?_
    rintro e w3 ⟨rfl, hw3⟩
    subst hw3
    go_wp2_with fail
    refine (load_any wc.heap.size 0 _ _ h2.l0).mono ?_
    rintro e w3 ⟨rfl, hw3⟩
    subst hw3
    clear h2
    have hcl : bits .andNot .u64 (bits .or .u64 (bits .or .u64 (bits .andNot .u64 a0 769) 256) 1) 256 = IntKind.u64.wrap (bits .or .u64 (bits .or .u64 (bits .andNot .u64 a0 769) 256) 1 - 256) := by
      have hc1 := HC.out
      have hg1 := HG.out
      simp only [layI, if_true, if_false, Bool.false_eq_true, ↓reduceIte] at hc1 hg1
      rw [hc1, IntKind.wrap_u64]
      omega
    go_wp2
    go_ret
    exact ⟨rfl, hb3⟩

set_option maxRecDepth 100000 in
set_option maxHeartbeats 1600000 in
theorem law_111 (a0 : Int) (w : World) (g1 : 0 ≤ a0) (g2 : a0 < 18446744073709551616) :
    Calls Yba.prog 3 #[.int .u64 a0, .bool true, .bool true, .bool true] w fun e w' => e = .returned (.bool true) ∧ Below w.heap.size w w' := by
  have HS : Hid _ := t256 a0 g1 g2 true true true
  have HL : Hid _ := t1 a0 g1 g2 true true true
  have HQ : Hid _ := t512 a0 g1 g2 true true true
  have HC : Hid _ := cleared a0 g1 g2 true true
  have HG : Hid _ := lay_ge a0 g1 g2 true true
  have hmk := mk1
  go_enter Yba.func3, Yba.ntmps3
  go_upto_region 10 with (go_at_call 5; refine (store_any w.heap.size 0 0 _ _ ?_ ?_).mono ?_; go_simp; go_simp; rintro e w' ⟨rfl, rfl⟩)
  go_cut [11] (fun s11 wx => Mid w.heap.size (bits .or .u64 (bits .or .u64 (bits .or .u64 (bits .andNot .u64 a0 769) 256) 1) 512) w wx s11)
  case first =>
    go_region
    all_goals (go_wp2_with fail; go_meet)
    all_goals first | exact mid3 w _ _ _ _ rfl rfl (by simp) | exact mid2 w _ _ _ _ rfl rfl (by simp) | exact mid1 w _ _ _ _ rfl rfl (by simp)
  case rest =>
    obtain ⟨p, c0, c1, rfl, m0, m0f, m31, hp, h0, h1, cc, b0, b1, hb⟩ := hcut
    clear hmk
    have hpw := lt_of hp
    go_wp2_with fail
    refine (storep_any wc.heap.size 1 p none (.chan (some c0)) _ ?_ ?_ ?_).mono ?_
    · go_simp
    · go_simp
    · rw [World.cell?_alloc_past _ _ _ hpw]; exact (pair_cells hp).1
    rintro e w1 ⟨rfl, rfl⟩
    go_wp2_with fail
    have hst := fun l l0 l1 => St.begin (l := l) m0 m0f m31 hp h0 h1 cc b0 b1 hb l0 l1
    clear m0 m0f m31 hp h0 h1 b0 b1 hb hpw
    have hs : (bits .and .u64 (bits .or .u64 (bits .or .u64 (bits .or .u64 (bits .andNot .u64 a0 769) 256) 1) 512) 256 == 0) = false := by
      have := HS.out
      simp only [layI, if_true, if_false, Bool.false_eq_true, ↓reduceIte] at this
      rw [this]; rfl
    have hl : (bits .and .u64 (bits .or .u64 (bits .or .u64 (bits .or .u64 (bits .andNot .u64 a0 769) 256) 1) 512) 1 == 0) = false := by
      have := HL.out
      simp only [layI, if_true, if_false, Bool.false_eq_true, ↓reduceIte] at this
      rw [this]; rfl
    refine (St.callHeld (hst _ rfl rfl) hs hl).mono ?_
    rintro e w2 ⟨rfl, h2⟩
    clear hst hs hl
    have q0 := (pair_cells h2.hp).1
    have q1 := (pair_cells h2.hp).2
    have np := neq_same
    have n0 := run_len_chan' (P := Yba.prog) h2.h0
    have n1 := run_len_chan' (P := Yba.prog) h2.h1
    go_wp2_with fail
    refine (load_any w.heap.size 0 _ _ h2.m0).mono ?_
    rintro e w3 ⟨rfl, hw3⟩
    have hb3 := h2.bel
    subst hw3
    go_wp2_with fail
    refine (loadp_any wc.heap.size 1 p _ _ _ h2.l1 h2.hp).mono ?_
    rintro e w3 ⟨rfl, hw3⟩
    subst hw3
    go_wp2_with fail
    refine (loadn_any w.heap.size 31 _ h2.m31).mono ?_
    rintro e w3 ⟨rfl, hw3⟩
    subst hw3
    go_wp2_with fail
    refine (load_any wc.heap.size 0 _ _ h2.l0).mono ?_
    rintro e w3 ⟨rfl, hw3⟩
    subst hw3
    clear h2
    have hcl : bits .andNot .u64 (bits .or .u64 (bits .or .u64 (bits .or .u64 (bits .andNot .u64 a0 769) 256) 1) 512) 256 = IntKind.u64.wrap (bits .or .u64 (bits .or .u64 (bits .or .u64 (bits .andNot .u64 a0 769) 256) 1) 512 - 256) := by
      have hc1 := HC.out
      have hg1 := HG.out
      simp only [layI, if_true, if_false, Bool.false_eq_true, ↓reduceIte] at hc1 hg1
      rw [hc1, IntKind.wrap_u64]
      omega
    go_wp2
    go_ret
    exact ⟨rfl, hb3⟩

theorem law_any (a0 : Int) (f1 f2 f3 : Bool) (w : World) (g1 : 0 ≤ a0) (g2 : a0 < 18446744073709551616) :
    Calls Yba.prog 3 #[.int .u64 a0, .bool f1, .bool f2, .bool f3] w fun e w' => e = .returned (.bool true) ∧ Below w.heap.size w w' := by
  cases f1 <;> cases f2 <;> cases f3
  · exact law_000 a0 w g1 g2
  · exact law_001 a0 w g1 g2
  · exact law_010 a0 w g1 g2
  · exact law_011 a0 w g1 g2
  · exact law_100 a0 w g1 g2
  · exact law_101 a0 w g1 g2
  · exact law_110 a0 w g1 g2
  · exact law_111 a0 w g1 g2

end Go.Proofs.Ybulkdpnk
