/-
  THE LEAVES of this seat: sync/atomic's Uint64 and Pointer methods, ownBit, ownChans.of: each by its contract.
-/
import Derived.Test.YbulkdpnkChecked
import Derived.WalkKit
import Derived.WalkLawsBesides
import Derived.Laws.LoneSync
import Derived.Laws.BitsAllLaws
namespace Go.Proofs.Ybulkdpnk
open Go.RowKit

section
variable {P : Program} {f : FuncId} {fn : Func}
theorem run_call_loadp (hf : P.funcs[f]? = some fn) (hname : (fn.name == "runtime.NumGoroutine") = false) (hb : fn.body.isNone = true) (hn : Extern.findNext fn = none)
    (he : Extern.find fn = some (Extern.Atomic.loadT .ptr)) {a : Addr} {x : Option Addr} {w : World} (hc : w.cell? a = some (.pointer x)) :
    (callFunc f #[.pointer (some a)]).run P w = .ok (.value (.pointer x)) w := by
  rw [run_callFunc_extern hf hname hb hn he]
  change (Sem.run P (do Extern.Atomic.read .ptr (← asAddr (.pointer (some a)))) w).andThen _ = _
  simp [Extern.Atomic.read, asAddr, hc, Result.andThen]
theorem run_call_storep (hf : P.funcs[f]? = some fn) (hname : (fn.name == "runtime.NumGoroutine") = false) (hb : fn.body.isNone = true) (hn : Extern.findNext fn = none)
    (he : Extern.find fn = some Extern.Atomic.storeT) {a : Addr} {x : Option Addr} {u : Value} {w : World} (hc : w.cell? a = some u) (hz : w.frozen? a = false) :
    (callFunc f #[.pointer (some a), .pointer x]).run P w = .ok (.value (.tuple #[])) (w.setCell a (.pointer x)) := by
  rw [run_callFunc_extern hf hname hb hn he]
  change (Sem.run P (do
    store (← asAddr (.pointer (some a))) (.pointer x) .atomic
    pure Extern.Atomic.none_) w).andThen _ = _
  simp [asAddr, hc, hz, run_store P w a (.pointer x) .atomic rfl, Result.andThen, Extern.Atomic.none_]
end

/-! A pointer made plain and back again: the address as it is. -/
theorem run_prog {α : Type} {P : Program} {w : World} (k : Program → Sem α) : (Sem.program k).run P w = (k P).run P w := rfl
theorem Yba.lies63 : liesAt Yba.prog Yba.prog.depth 63 (2 / Yba.prog.cellsOf 63) 0 63 1 = true := by kernel_rfl
theorem Yba.size63 : (Yba.prog.info? 63).map (·.size) = some 2 := by kernel_rfl
theorem Yba.back37 (p : Nat) (c0 c1 : Value) (w : World) (hp : w.heap[p]? = some (.cells #[c0, c1] 63 (0, 0))) : (convert 39 37 (.pointer (some ⟨p, 0, none⟩))).run Yba.prog w = .ok (.pointer (some ⟨p, 0, none⟩)) w := by
  obtain ⟨i, hi, hz⟩ := Option.map_eq_some_iff.1 Yba.size63
  have hsh : w.shape? p = some (63, 2) := by simp [World.shape?, hp]
  have hl := Yba.lies63
  simp [convert, run_underlying Yba.underlying39, run_underlying Yba.underlying37]
  conv => lhs; arg 2; whnf
  rw [run_prog, Sem.run_bind', Sem.run_bind']
  simp [Sem.run, run_underlying Yba.underlying37, Yba.underlying39, Conv.seenAt, viewAt, hsh, variablesAt, hl, sizeOf, typeInfo, hi]
theorem Yba.to39 (p : Nat) (u : Value) (w : World) (hc : w.cell? ⟨p, 0, none⟩ = some u) : (convert 37 39 (.pointer (some ⟨p, 0, none⟩))).run Yba.prog w = .ok (.pointer (some ⟨p, 0, none⟩)) w := by
  obtain ⟨e, n, hsh, hlt, hsp⟩ := World.shape?_of_cell? hc
  obtain ⟨i, hi, hz⟩ := Option.map_eq_some_iff.1 Yba.size63
  have hz0 : i.size ≠ 0 := by omega
  have hge : ¬ (n ≤ 0) := by simp at hlt; omega
  simp [convert, run_underlying Yba.underlying39, run_underlying Yba.underlying37]
  conv => lhs; arg 2; whnf
  rw [run_prog, Sem.run_bind', Sem.run_bind']
  simp only [] at hsh
  simp [Sem.run, run_underlying Yba.underlying39, Yba.underlying37, Conv.seenAt, viewAt, cellsIn, hsh, sizeOf, typeInfo, hi, hz0]
  omega

/-- (*atomic.Uint64).Store. -/
theorem store_any (b o : Nat) (x y : Int) (w : World) (hc : w.cell? ⟨b, o, none⟩ = some (.int .u64 x)) (hz : w.frozen? ⟨b, o, none⟩ = false) :
    Calls Yba.prog 5 #[.pointer (some ⟨b, o, none⟩), .int .u64 y] w fun e w' => e = .returned (.tuple #[]) ∧ w' = w.setCell ⟨b, o, none⟩ (.int .u64 y) := by
  have h := run_call_store (P := Yba.prog) Yba.func14 (by kernel_rfl) (by kernel_rfl) (by kernel_rfl) (by kernel_rfl) (k := .u64) (y := y) hc hz
  go_enter Yba.func5, Yba.ntmps5
  go_wp2
  go_end0
  exact ⟨rfl, rfl⟩

/-- (*atomic.Uint64).Load. -/
theorem load_any (b o : Nat) (x : Int) (w : World) (hc : w.cell? ⟨b, o, none⟩ = some (.int .u64 x)) :
    Calls Yba.prog 8 #[.pointer (some ⟨b, o, none⟩)] w fun e w' => e = .returned (.int .u64 x) ∧ w' = w := by
  have h := run_call_load (P := Yba.prog) Yba.func19 (by kernel_rfl) (by kernel_rfl) (by kernel_rfl) .u64 (by kernel_rfl) hc
  go_enter Yba.func8, Yba.ntmps8
  go_wp2
  go_ret
  exact ⟨rfl, rfl⟩

/-- (*atomic.Uint64).CompareAndSwap, where the cell holds 'old'. -/
theorem cas_any (b o : Nat) (x y : Int) (w : World) (hc : w.cell? ⟨b, o, none⟩ = some (.int .u64 x)) (hz : w.frozen? ⟨b, o, none⟩ = false) :
    Calls Yba.prog 16 #[.pointer (some ⟨b, o, none⟩), .int .u64 x, .int .u64 y] w fun e w' => e = .returned (.bool true) ∧ w' = w.setCell ⟨b, o, none⟩ (.int .u64 y) := by
  have h := run_call_cas_hit (P := Yba.prog) Yba.func27 (by kernel_rfl) (by kernel_rfl) (by kernel_rfl) .u64 (by kernel_rfl) (y := y) hc hz
  go_enter Yba.func16, Yba.ntmps16
  go_wp2
  go_ret
  exact ⟨rfl, rfl⟩

/-- (*atomic.Pointer[ownChans]).Store of a pointer to a cell. -/
theorem storep_any (b o p : Nat) (x : Option Addr) (u : Value) (w : World) (hc : w.cell? ⟨b, o, none⟩ = some (.pointer x)) (hz : w.frozen? ⟨b, o, none⟩ = false) (hp : w.cell? ⟨p, 0, none⟩ = some u) :
    Calls Yba.prog 6 #[.pointer (some ⟨b, o, none⟩), .pointer (some ⟨p, 0, none⟩)] w fun e w' => e = .returned (.tuple #[]) ∧ w' = w.setCell ⟨b, o, none⟩ (.pointer (some ⟨p, 0, none⟩)) := by
  have h := run_call_storep (P := Yba.prog) Yba.func15 (by kernel_rfl) (by kernel_rfl) (by kernel_rfl) (by kernel_rfl) (x := some ⟨p, 0, none⟩) hc hz
  have hcv := Yba.to39 p u w hp
  go_enter Yba.func6, Yba.ntmps6
  go_wp2
  go_end0
  exact ⟨rfl, rfl⟩

/-- (*atomic.Pointer[ownChans]).Load. -/
theorem loadp_any (b o p : Nat) (c0 c1 : Value) (w : World) (hc : w.cell? ⟨b, o, none⟩ = some (.pointer (some ⟨p, 0, none⟩))) (hp : w.heap[p]? = some (.cells #[c0, c1] 63 (0, 0))) :
    Calls Yba.prog 9 #[.pointer (some ⟨b, o, none⟩)] w fun e w' => e = .returned (.pointer (some ⟨p, 0, none⟩)) ∧ w' = w := by
  have h := run_call_loadp (P := Yba.prog) Yba.func20 (by kernel_rfl) (by kernel_rfl) (by kernel_rfl) (by kernel_rfl) hc
  have hcv := Yba.back37 p c0 c1 w hp
  go_enter Yba.func9, Yba.ntmps9
  go_wp2
  go_ret
  exact ⟨rfl, rfl⟩

/-- (*atomic.Pointer[List]).Load of nil. -/
theorem loadn_any (b o : Nat) (w : World) (hc : w.cell? ⟨b, o, none⟩ = some (.pointer none)) :
    Calls Yba.prog 10 #[.pointer (some ⟨b, o, none⟩)] w fun e w' => e = .returned (.pointer none) ∧ w' = w := by
  have h := run_call_loadp (P := Yba.prog) Yba.func20 (by kernel_rfl) (by kernel_rfl) (by kernel_rfl) (by kernel_rfl) hc
  have hcv : (convert 39 54 (.pointer none)).run Yba.prog w = .ok (.pointer none) w := by kernel_rfl
  go_enter Yba.func10, Yba.ntmps10
  go_wp2
  go_ret
  exact ⟨rfl, rfl⟩

/-- ownBit at either parity. -/
theorem ownBit_zero (w : World) : Calls Yba.prog 17 #[.int .u64 32768, .int .u64 0] w fun e w' => e = .returned (.int .u64 32768) ∧ w' = w := by
  go_enter Yba.func17, Yba.ntmps17
  go_wp2
  go_ret
  exact ⟨rfl, rfl⟩
theorem ownBit_one (w : World) : Calls Yba.prog 17 #[.int .u64 32768, .int .u64 512] w fun e w' => e = .returned (.int .u64 65536) ∧ w' = w := by
  go_enter Yba.func17, Yba.ntmps17
  go_wp2
  go_ret
  exact ⟨rfl, rfl⟩

/-- (*ownChans).of. -/
theorem of_zero (p : Nat) (s : Int) (c0 : Value) (w : World) (hs : (bits .and .u64 s 512 == 0) = true) (hc : w.cell? ⟨p, 0, none⟩ = some c0) :
    Calls Yba.prog 18 #[.pointer (some ⟨p, 0, none⟩), .int .u64 s] w fun e w' => e = .returned c0 ∧ w' = w := by
  go_enter Yba.func18, Yba.ntmps18
  go_wp2
  go_ret
  exact ⟨rfl, rfl⟩
theorem of_one (p : Nat) (s : Int) (c1 : Value) (w : World) (hs : (bits .and .u64 s 512 == 0) = false) (hc : w.cell? ⟨p, 1, none⟩ = some c1) :
    Calls Yba.prog 18 #[.pointer (some ⟨p, 0, none⟩), .int .u64 s] w fun e w' => e = .returned c1 ∧ w' = w := by
  go_enter Yba.func18, Yba.ntmps18
  go_wp2
  go_ret
  exact ⟨rfl, rfl⟩
end Go.Proofs.Ybulkdpnk
