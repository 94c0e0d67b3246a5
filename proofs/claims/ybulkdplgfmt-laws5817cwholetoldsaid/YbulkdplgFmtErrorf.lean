/-
  fmt.Errorf at the one format of this program, by its contract: a string and an error behind a colon: of a string and an error of errors.New's make: a new wrapError that wraps that very error; its text is left open ('∃ t').
-/
import Derived.Test.YbulkdplgFmtChecked
import Derived.WalkKit
import Derived.WalkSpells
import Derived.Stop.CallBack
import Derived.Stop.IfaceNil
import GoSem.ClaimData
namespace Go.Proofs.YbulkdplgFmt
open Go.RowKit Go.Extern.Stop Go.Stop Go.Extern

theorem Ybaf.call11 (args : Array Value) (w : World) : (callFunc 11 args).run Ybaf.prog w = ((FmtStop.errorf #[9, 44] #[23] args).run Ybaf.prog w).andThen fun v w' => .ok (.value v) w' :=
  run_callFunc_extern Ybaf.func11 (by kernel_rfl) (by kernel_rfl) (by kernel_rfl) (by kernel_rfl) args w
theorem Ybaf.guard (name : String) (w : World) : (FmtStop.guard name).run Ybaf.prog w = .ok () w := by kernel_rfl
theorem Ybaf.fmt0 : FmtStop.printed? ⟨#[37, 115, 58, 32, 37, 119]⟩ 2 = some [(0, 115, false), (1, 119, false)] := by kernel_rfl
theorem Ybaf.fmt0r (w : World) : (FmtDoors.printed ⟨#[37, 115, 58, 32, 37, 119]⟩ 2).run Ybaf.prog w = .ok [(0, 115, false), (1, 119, false)] w := by kernel_rfl
def Ybaf.shape9 : List UInt8 := [12, 6, 0, 0, 0, 0, 0, 0, 0, 115, 116, 114, 105, 110, 103]
theorem Ybaf.op9_115w (name : String) (x : ByteArray) (w : World) : (FmtStop.operand name true 115 false (.iface 9 (.string x))).run Ybaf.prog w = .ok (Ybaf.shape9, FmtStop.pack x.data.toList) w := by kernel_rfl
theorem Ybaf.ptr34 (w : World) : (FmtStop.ptrTo "errors.errorString").run Ybaf.prog w = .ok 34 w := by kernel_rfl
theorem Ybaf.elem34 (w : World) : (elemOf 34).run Ybaf.prog w = .ok 36 w := by kernel_rfl
theorem Ybaf.isError34' (w : World) : (FmtDoors.textMethod 34 "Error").run Ybaf.prog w = .ok true w := by kernel_rfl
theorem Ybaf.ptr45 (w : World) : (FmtStop.ptrTo "fmt.wrapError").run Ybaf.prog w = .ok 45 w := by kernel_rfl
theorem Ybaf.elem45 (w : World) : (elemOf 45).run Ybaf.prog w = .ok 80 w := by kernel_rfl
theorem Ybaf.isError45' (w : World) : (FmtDoors.textMethod 45 "Error").run Ybaf.prog w = .ok true w := by kernel_rfl
theorem Ybaf.opPlain34_119w (name : String) (a : Addr) (s : ByteArray) (w : World) (hc : w.cell? a = some (.string s)) :
    ∃ pl, (FmtStop.operand name true 119 false (.iface 34 (.pointer (some a)))).run Ybaf.prog w = .ok (pl, s.data.toList) w := by
  have h1 : (typeStr 34).run Ybaf.prog w = .ok Ybaf.t34.str w := by kernel_rfl
  have d2 : Ybaf.t34.desc = .pointer 36 := rfl
  have d3 : Ybaf.t36.desc = .named "errors.errorString" 35 := rfl
  exact ⟨_, by simp [FmtStop.operand, h1, d2, d3, run_load, hc]; rfl⟩

attribute [local go_sem] Ybaf.call11 Ybaf.guard Ybaf.fmt0 Ybaf.fmt0r Ybaf.op9_115w Ybaf.ptr34 Ybaf.elem34 Ybaf.isError34' Ybaf.ptr45 Ybaf.elem45 Ybaf.isError45'

set_option maxHeartbeats 800000 in
theorem errorf_any (F : Interp) (nm s : ByteArray) (a : Addr) (k : Nat) (w : World) (hF : F.answers w.tape) (h0 : w.cell? ⟨k, 0, none⟩ = some (.iface 9 (.string nm))) (h1 : w.cell? ⟨k, 1, none⟩ = some (.iface 34 (.pointer (some a)))) (hs : w.cell? a = some (.string s)) :
    Calls Ybaf.prog 8 #[.string ⟨#[37, 115, 58, 32, 37, 119]⟩, .slice (some ⟨k, 0, none⟩) 2 2] w fun e w' => e = .returned (.iface 45 (.pointer (some ⟨w.heap.size, 0, none⟩))) ∧ ∃ t, w' = (w.alloc (.cells #[.string t, .iface 34 (.pointer (some a))] 80)).drew := by
  have hF' := answers_open hF
  obtain ⟨pl, hop⟩ := Ybaf.opPlain34_119w "fmt.errorf" a s w hs
  go_enter Ybaf.func8, Ybaf.ntmps8
  go_wp2
  go_ret
  exact ⟨rfl, _, rfl⟩
end Go.Proofs.YbulkdplgFmt
