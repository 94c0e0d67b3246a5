/-
  wakeOwn by its contract: nobody waits; the mutex is held; it is not held (a send into a buffer with room: by the machine's own step).
-/
import Derived.Test.YbulkdpnkLeaves
import Derived.Test.YbulkdpnkLone
import Derived.Deep.RegionWith
namespace Go.Proofs.Ybulkdpnk
open Go.RowKit

set_option maxHeartbeats 400000 in
theorem wake_none (M L : Nat) (s : Int) (w : World) (hc : w.cell? ⟨M, 0, none⟩ = some (.int .u64 s)) (hs : (bits .and .u64 s 256 == 0) = true) :
    Calls Yba.prog 7 #[.pointer (some ⟨M, 0, none⟩), .pointer (some ⟨L, 0, none⟩)] w fun e w' => e = .returned (.bool false) ∧ w' = w := by
  go_enter Yba.func7, Yba.ntmps7
  go_wp2
  refine wp_loop_rounds 1 ?_
  rw [rounds_succ]
  go_wp2_with (go_at_call 8; refine (load_any M 0 s _ hc).mono ?_; rintro e w' ⟨rfl, rfl⟩)
  go_ret
  exact ⟨rfl, rfl⟩

set_option maxHeartbeats 400000 in
theorem wake_held (M L : Nat) (s : Int) (w : World) (hc : w.cell? ⟨M, 0, none⟩ = some (.int .u64 s)) (hf : w.frozen? ⟨M, 0, none⟩ = false) (hs : (bits .and .u64 s 256 == 0) = false) (hl : (bits .and .u64 s 1 == 0) = false) :
    Calls Yba.prog 7 #[.pointer (some ⟨M, 0, none⟩), .pointer (some ⟨L, 0, none⟩)] w fun e w' => e = .returned (.bool true) ∧ w' = w.setCell ⟨M, 0, none⟩ (.int .u64 (bits .or .u64 (bits .andNot .u64 s 256) 1024)) := by
  go_enter Yba.func7, Yba.ntmps7
  go_wp2
  refine wp_loop_rounds 1 ?_
  rw [rounds_succ]
  go_wp2_with (first | (go_at_call 8; refine (load_any M 0 s _ hc).mono ?_; rintro e w' ⟨rfl, rfl⟩) | (go_at_call 16; refine (cas_any M 0 s _ _ hc hf).mono ?_; rintro e w' ⟨rfl, rfl⟩))
  go_ret
  exact ⟨rfl, rfl⟩


theorem pair_cells {w : World} {b : Nat} {x y : Value} {t : TypeId} (h : w.heap[b]? = some (.cells #[x, y] t (0, 0))) : w.cell? ⟨b, 0, none⟩ = some x ∧ w.cell? ⟨b, 1, none⟩ = some y := by
  constructor <;> simp [World.cell?, h]
theorem old_set {w : World} {M j : Nat} {X : Value} (h : j ≠ M) : (w.setCell ⟨M, 0, none⟩ X).heap[j]? = w.heap[j]? := Below.heap_setCell _ _ _ _ h
theorem cell_set {w : World} {M j o : Nat} {X v : Value} (h : j ≠ M) (hc : w.cell? ⟨j, o, none⟩ = some v) : (w.setCell ⟨M, 0, none⟩ X).cell? ⟨j, o, none⟩ = some v := by
  rw [World.cell?_of_block (w := w) (old_set h)]
  exact hc

set_option maxRecDepth 100000 in
set_option maxHeartbeats 800000 in
theorem wake_send0 (M L p c0 : Nat) (v1 : Value) (s : Int) (w : World) (hc : w.cell? ⟨M, 0, none⟩ = some (.int .u64 s)) (hf : w.frozen? ⟨M, 0, none⟩ = false) (hs : (bits .and .u64 s 256 == 0) = false) (hl : (bits .and .u64 s 1 == 0) = true)
    (hp0 : bits .and .u64 s 512 = 0) (ho : w.cell? ⟨L, 1, none⟩ = some (.pointer (some ⟨p, 0, none⟩))) (hp : w.heap[p]? = some (.cells #[.chan (some c0), v1] 63 (0, 0))) (hch : w.heap[c0]? = some (.chan 1 #[] false 0 0 false)) (hML : L ≠ M) (hMp : p ≠ M) (hMc : c0 ≠ M) :
    Calls Yba.prog 7 #[.pointer (some ⟨M, 0, none⟩), .pointer (some ⟨L, 0, none⟩)] w fun e w' => e = .returned (.bool true) ∧
      w' = (w.setCell ⟨M, 0, none⟩ (.int .u64 (bits .or .u64 (bits .andNot .u64 s 256) 32768))).drew.setChan c0 1 #[.agg #[]] false 1 0 false := by
  refine calls_of_ends Yba.func7 rfl fun cs => ?_
  simp only [Yba.ntmps7, List.size_toArray, List.length_cons, List.length_nil, Nat.reduceAdd, Nat.reduceSub, Array.replicate_succ, Array.replicate_zero, List.push_toArray, List.append_toArray, List.nil_append, List.cons_append]
  refine Ends.one step_seq ?_
  refine Ends.code (fun K hK => ?_)
  go_wp2
  refine Ends.one step_block ?_
  refine Ends.one step_loop ?_
  refine Ends.one step_block ?_
  refine Ends.one step_seq ?_
  refine Ends.code (fun K hK => ?_)
  go_wp2_with (go_at_call 8; refine (load_any M 0 s _ hc).mono ?_; rintro e w' ⟨rfl, rfl⟩)
  refine Ends.one step_seq ?_
  refine Ends.code (fun K hK => ?_)
  go_wp2
  refine Ends.one step_seq ?_
  refine Ends.code (fun K hK => ?_)
  go_wp2
  refine Ends.one step_seq ?_
  refine Ends.code (fun K hK => ?_)
  go_region_with (first | (go_at_call 17; refine (ownBit_zero _).mono ?_; rintro e w' ⟨rfl, rfl⟩) | (go_at_call 16; refine (cas_any M 0 s _ _ ?_ ?_).mono ?_; exact hc; exact hf; rintro e w' ⟨rfl, rfl⟩))
  refine hK _ _ ?_
  clear hK K
  refine Ends.one (step_cond (t := true) rfl) ?_
  simp only [if_true]
  refine Ends.one step_seq ?_
  refine Ends.one step_region ?_
  simp only [List.size_toArray, List.length_cons, List.length_nil, Nat.reduceAdd, Nat.zero_add, List.range, List.range.loop]
  have ho1 : ∀ X, (w'.setCell ⟨M, 0, none⟩ X).cell? ⟨L, 1, none⟩ = some (.pointer (some ⟨p, 0, none⟩)) := fun X => cell_set hML ho
  have hp1 : ∀ X, (w'.setCell ⟨M, 0, none⟩ X).heap[p]? = some (.cells #[.chan (some c0), v1] 63 (0, 0)) := fun X => (old_set hMp).trans hp
  have hc1 : ∀ X, (w'.setCell ⟨M, 0, none⟩ X).heap[c0]? = some (.chan 1 #[] false 0 0 false) := fun X => (old_set hMc).trans hch
  have hk : (baseOf 7).kind ≠ .early := by simp [baseOf]
  refine Ends.oper rfl rfl ?_
  go_simp
  refine Ends.oper rfl rfl ?_
  go_simp
  refine Ends.oper rfl rfl ?_
  go_simp
  refine Ends.oper rfl rfl ?_
  go_simp
  refine (loadp_any L 1 p (.chan (some c0)) v1 _ ?_ ?_).mono ?_
  · exact ho1 _
  · exact hp1 _
  rintro e w2 ⟨rfl, rfl⟩
  refine Ends.oper rfl rfl ?_
  go_simp
  refine Ends.oper rfl rfl ?_
  go_simp
  refine (of_zero p s (.chan (some c0)) _ (by simp [hp0]) ?_).mono ?_
  · exact (pair_cells (hp1 _)).1
  rintro e w3 ⟨rfl, rfl⟩
  refine Ends.oper rfl rfl ?_
  go_simp
  refine Ends.send (c := c0) (v := .agg #[]) (z := .tuple #[]) (buf := #[]) (cap := 1) (n := 0) (r := 0) (tm := false) rfl rfl hk ?_ ?_ (by simp) ?_
  · simp [execOp, Conc.scase, Act.eval]
  · exact hc1 _
  refine Ends.one step_region_end ?_
  refine Ends.one step_seq ?_
  refine Ends.code (fun K hK => ?_)
  go_wp2
  refine Ends.ret rfl rfl rfl Yba.func7 (v := .bool true) ?_ ?_
  · exact results_tmp (fn := Yba.f7) (t := 4) rfl _ _ _
  · exact ⟨rfl, rfl⟩
set_option maxRecDepth 100000 in
set_option maxHeartbeats 800000 in
theorem wake_send1 (M L p c1 : Nat) (v0 : Value) (s : Int) (w : World) (hc : w.cell? ⟨M, 0, none⟩ = some (.int .u64 s)) (hf : w.frozen? ⟨M, 0, none⟩ = false) (hs : (bits .and .u64 s 256 == 0) = false) (hl : (bits .and .u64 s 1 == 0) = true)
    (hp0 : bits .and .u64 s 512 = 512) (ho : w.cell? ⟨L, 1, none⟩ = some (.pointer (some ⟨p, 0, none⟩))) (hp : w.heap[p]? = some (.cells #[v0, .chan (some c1)] 63 (0, 0))) (hch : w.heap[c1]? = some (.chan 1 #[] false 0 0 false)) (hML : L ≠ M) (hMp : p ≠ M) (hMc : c1 ≠ M) :
    Calls Yba.prog 7 #[.pointer (some ⟨M, 0, none⟩), .pointer (some ⟨L, 0, none⟩)] w fun e w' => e = .returned (.bool true) ∧
      w' = (w.setCell ⟨M, 0, none⟩ (.int .u64 (bits .or .u64 (bits .andNot .u64 s 256) 65536))).drew.setChan c1 1 #[.agg #[]] false 1 0 false := by
  refine calls_of_ends Yba.func7 rfl fun cs => ?_
  simp only [Yba.ntmps7, List.size_toArray, List.length_cons, List.length_nil, Nat.reduceAdd, Nat.reduceSub, Array.replicate_succ, Array.replicate_zero, List.push_toArray, List.append_toArray, List.nil_append, List.cons_append]
  refine Ends.one step_seq ?_
  refine Ends.code (fun K hK => ?_)
  go_wp2
  refine Ends.one step_block ?_
  refine Ends.one step_loop ?_
  refine Ends.one step_block ?_
  refine Ends.one step_seq ?_
  refine Ends.code (fun K hK => ?_)
  go_wp2_with (go_at_call 8; refine (load_any M 0 s _ hc).mono ?_; rintro e w' ⟨rfl, rfl⟩)
  refine Ends.one step_seq ?_
  refine Ends.code (fun K hK => ?_)
  go_wp2
  refine Ends.one step_seq ?_
  refine Ends.code (fun K hK => ?_)
  go_wp2
  refine Ends.one step_seq ?_
  refine Ends.code (fun K hK => ?_)
  go_region_with (first | (go_at_call 17; refine (ownBit_one _).mono ?_; rintro e w' ⟨rfl, rfl⟩) | (go_at_call 16; refine (cas_any M 0 s _ _ ?_ ?_).mono ?_; exact hc; exact hf; rintro e w' ⟨rfl, rfl⟩))
  refine hK _ _ ?_
  clear hK K
  refine Ends.one (step_cond (t := true) rfl) ?_
  simp only [if_true]
  refine Ends.one step_seq ?_
  refine Ends.one step_region ?_
  simp only [List.size_toArray, List.length_cons, List.length_nil, Nat.reduceAdd, Nat.zero_add, List.range, List.range.loop]
  have ho1 : ∀ X, (w'.setCell ⟨M, 0, none⟩ X).cell? ⟨L, 1, none⟩ = some (.pointer (some ⟨p, 0, none⟩)) := fun X => cell_set hML ho
  have hp1 : ∀ X, (w'.setCell ⟨M, 0, none⟩ X).heap[p]? = some (.cells #[v0, .chan (some c1)] 63 (0, 0)) := fun X => (old_set hMp).trans hp
  have hc1 : ∀ X, (w'.setCell ⟨M, 0, none⟩ X).heap[c1]? = some (.chan 1 #[] false 0 0 false) := fun X => (old_set hMc).trans hch
  have hk : (baseOf 7).kind ≠ .early := by simp [baseOf]
  refine Ends.oper rfl rfl ?_
  go_simp
  refine Ends.oper rfl rfl ?_
  go_simp
  refine Ends.oper rfl rfl ?_
  go_simp
  refine Ends.oper rfl rfl ?_
  go_simp
  refine (loadp_any L 1 p v0 (.chan (some c1)) _ ?_ ?_).mono ?_
  · exact ho1 _
  · exact hp1 _
  rintro e w2 ⟨rfl, rfl⟩
  refine Ends.oper rfl rfl ?_
  go_simp
  refine Ends.oper rfl rfl ?_
  go_simp
  refine (of_one p s (.chan (some c1)) _ (by simp [hp0]) ?_).mono ?_
  · exact (pair_cells (hp1 _)).2
  rintro e w3 ⟨rfl, rfl⟩
  refine Ends.oper rfl rfl ?_
  go_simp
  refine Ends.send (c := c1) (v := .agg #[]) (z := .tuple #[]) (buf := #[]) (cap := 1) (n := 0) (r := 0) (tm := false) rfl rfl hk ?_ ?_ (by simp) ?_
  · simp [execOp, Conc.scase, Act.eval]
  · exact hc1 _
  refine Ends.one step_region_end ?_
  refine Ends.one step_seq ?_
  refine Ends.code (fun K hK => ?_)
  go_wp2
  refine Ends.ret rfl rfl rfl Yba.func7 (v := .bool true) ?_ ?_
  · exact results_tmp (fn := Yba.f7) (t := 4) rfl _ _ _
  · exact ⟨rfl, rfl⟩
end Go.Proofs.Ybulkdpnk
