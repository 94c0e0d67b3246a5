/-
  A CALL WHOSE BODY HOLDS A SEND: what the walk's own goal says ('Code.wp') is used for every part of the body but the send; the parts are strung together on the machine's steps. 'Ends': from this machine the call of f comes to its end as R says.
-/
import Derived.Calls
import Derived.Conc.LoneCalls
namespace Go.Proofs.Ybulkdpnk
open Go.RowKit

def Ends (P : Program) (f : FuncId) (R : Ending → World → Prop) (cs : List Frame) (m : Machine) : Prop :=
  ∃ e w' fr, R e w' ∧ Comes P m (lone fr cs w') e ∧ fr.fn = f ∧ fr.leaving P w' e

section
variable {P : Program} {f : FuncId} {R : Ending → World → Prop} {cs : List Frame} {b : Frame} {a : Act} {k : List Item} {w : World}

theorem Ends.steps {m m₁ : Machine} (h : Steps P m m₁) (h' : Ends P f R cs m₁) : Ends P f R cs m :=
  let ⟨e, w', fr, hR, hc, hf, hl⟩ := h'
  ⟨e, w', fr, hR, Comes.of_steps h hc, hf, hl⟩

theorem Ends.one {m m₁ : Machine} (h : step P m = .next m₁) (h' : Ends P f R cs m₁) : Ends P f R cs m := Ends.steps (.one h) h'

/-- A part of the body by the walk's own goal. -/
theorem Ends.code {c : Code} (h : ∀ K : Act → World → Prop, (∀ a' w', Ends P f R cs (lone (b.at a' k) cs w') → K a' w') → c.wp P (Exit.then K (fun _ _ _ => False)) a w) : Ends P f R cs (lone (b.at a (.code c :: k)) cs w) := by
  obtain ⟨e, a', w', hE, harr⟩ := h _ (fun _ _ x => x) b k cs
  cases e with
  | normal => exact Ends.steps harr hE
  | _ => exact hE.elim

/-- One operation of a region, whether it hands back a value or calls a Go function. -/
theorem Ends.oper {ops : Array Oper} {i : Nat} {rest : List Nat} {o : Oper} (ho : ops[i]? = some o) (hw : Region.wanted o (yielded ops a.tmps) = true)
    (h : o.wp P a w (fun a' w' => Ends P f R cs (lone (b.at a' (.inRegion ops rest :: k)) cs w')) (fun _ _ _ => False)) :
    Ends P f R cs (lone (b.at a (.inRegion ops (i :: rest) :: k)) cs w) := by
  have hg := stepG_op (P := P) (b := b) (k := k) (cs := cs) (w := w) (rest := rest) ho hw
  have hfin : ∀ v, (b.at a (.inRegion ops (i :: rest) :: k)).finish v = b.at (a.put o.dst v) (.inRegion ops rest :: k) := by
    intro v
    rw [Frame.finish_at, ho]
    rfl
  simp only [Oper.wp] at h
  cases hr : (execOp a.eval o).run P w with
  | halt x w' =>
    rw [hr] at h
    cases x <;> exact h.elim
  | ok x w' =>
    rw [hr] at h
    cases x with
    | value v =>
      refine Ends.one (step_lone_go ?_) h
      rw [hg, ← hfin]
      simp [stepG.apply, hr]
    | enter g args =>
      have h' : Calls P g args w' _ := h
      obtain ⟨e, w'', fr, hR, hsteps, _, hleave⟩ := h' (b.at a (.inRegion ops (i :: rest) :: k) :: cs)
      have henter : step P (lone (b.at a (.inRegion ops (i :: rest) :: k)) cs w) = .next (lone (Frame.enter P g args .normal) (b.at a (.inRegion ops (i :: rest) :: k) :: cs) w') :=
        step_lone_go (by rw [hg]; simp [stepG.apply, hr, Frame.at])
      cases e with
      | returned v =>
        refine Ends.steps (Steps.head henter (Steps.trans hsteps (.one ?_))) hR
        rw [← hfin]
        exact step_leave_returned hleave
      | panicked chain => exact hR.elim
      | outgrown => obtain ⟨_, _, hq⟩ := hR; exact hq.elim
    | skip =>
      refine Ends.one (step_lone_go ?_) h
      rw [hg, ← hfin]
      simp [stepG.apply, hr]
    | row r args =>
      obtain ⟨v, w'', hR, hsteps⟩ := h (b.at a (.inRegion ops (i :: rest) :: k)) cs
      have henter : step P (lone (b.at a (.inRegion ops (i :: rest) :: k)) cs w) = .next (lone (Frame.ofRow P r args .normal) (b.at a (.inRegion ops (i :: rest) :: k) :: cs) w') :=
        step_lone_go (by rw [hg]; simp [stepG.apply, hr, Frame.at])
      refine Ends.steps (Steps.head henter ?_) hR
      rw [← hfin]
      exact hsteps
    | defer d =>
      refine Ends.one (step_lone_go ?_) h
      have e : ({ b.at a (.inRegion ops (i :: rest) :: k) with defers := d :: a.defers } : Frame).finish undef = b.at ({ a with defers := d :: a.defers }.put o.dst undef) (.inRegion ops rest :: k) := by
        have := Frame.finish_at b { a with defers := d :: a.defers } ops i rest k undef
        rw [ho] at this
        exact this
      rw [hg]
      simp only [stepG.apply, Sem.runT_eq, hr, GStep.bare_after]
      exact congrArg (fun fr => GStep.go { frame := fr, callers := cs, status := .running, dying := none } w') e
    | _ => exact h.elim

/-- A send into a buffer with room. -/
theorem Ends.send {ops : Array Oper} {i : Nat} {rest : List Nat} {o : Oper} {c cap n r : Nat} {buf : Array Value} {tm : Bool} {v z : Value} (ho : ops[i]? = some o) (hw : Region.wanted o (yielded ops a.tmps) = true) (hk : b.kind ≠ .early)
    (hr : (execOp a.eval o).run P w = .ok (.comm #[Conc.scase c v z] true .send) w) (hc : w.heap[c]? = some (.chan cap buf false n r tm)) (hroom : buf.size < cap)
    (h : Ends P f R cs (lone (b.at (a.put o.dst undef) (.inRegion ops rest :: k)) cs (w.setChan c cap (buf.push v) false (n + 1) r tm))) :
    Ends P f R cs (lone (b.at a (.inRegion ops (i :: rest) :: k)) cs w) := by
  have hs := Conc.step_lone_send_room (P := P) (cs := cs) (Conc.stepG_comm (main := true) (b := b) (a := a) (k := k) (cs := cs) (rest := rest) ho hw hk hr) hc hroom
  rw [Frame.finish_at, ho] at hs
  exact Ends.one hs h

theorem Ends.ret {fn : Func} {v : Value} (hb : b.fn = f) (hk : b.kind = .normal) (hd : a.defers = []) (hf : P.funcs[f]? = some fn) (hv : (results fn a.tmps).run P w = .ok v w) (hR : R (.returned v) w) : Ends P f R cs (lone (b.at a (.code .ret :: k)) cs w) := by
  refine ⟨.returned v, w, _, hR, Steps.one step_ret, hb, rfl, hd, hk, fn, ?_, hv⟩
  show P.funcs[b.fn]? = some fn
  rw [hb]
  exact hf

/-- The frame in which a call of f begins. -/
def baseOf (f : FuncId) : Frame := { (default : Frame) with fn := f, kind := .normal }

theorem calls_of_ends {fn : Func} {c : Code} {args : Array Value} (hf : P.funcs[f]? = some fn) (hb : fn.body = some c)
    (h : ∀ cs, Ends P f R cs (lone ((baseOf f).at { tmps := args ++ Array.replicate (fn.ntmps - args.size) undef, defers := [] } [.code c]) cs w)) : Calls P f args w R := by
  intro cs
  obtain ⟨e, w', fr, hR, hc, h1, h2⟩ := h cs
  refine ⟨e, w', fr, hR, ?_, h1, h2⟩
  have e0 : Frame.enter P f args .normal = (baseOf f).at { tmps := args ++ Array.replicate (fn.ntmps - args.size) undef, defers := [] } [.code c] := by
    simp [Frame.enter, Frame.at, hf, hb, baseOf]
  rw [e0]
  exact hc
end
end Go.Proofs.Ybulkdpnk
