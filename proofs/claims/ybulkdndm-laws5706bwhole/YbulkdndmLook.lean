/- Look-ups in every world behind draws. -/
import Derived.Test.YbulkdndmLitInv
namespace Go.Proofs.Ybulkdndm
open Go.RowKit Go.Maps

theorem lit_inj {a b : Int} (h : DataW.lit (H := Unit) (.int .i64 a) = .lit (.int .i64 b)) : a = b := Lit.int.inj (DataW.lit.inj h) |>.2

theorem look41 {W : World} {B n : Nat} {D : DataW Unit} (o : W.ownsMap Yba.prog 9 (plainElem Yba.prog 25) B n D) {key : Value} {kl : Lit} (hkey : keyOf Yba.prog 9 key = some kl) {c : Int} {b : Bool}
    (hc : D.atKey kl (.lit (.int .i64 0)) = .lit (.int .i64 c)) (hh : Maps.has D kl = b) (m : Nat) :
    Sem.run Yba.prog (Instr.lookup 41 (.map (some B)) key true) (W.drewN m) = .ok (.tuple #[.int .i64 c, .bool b]) (W.drewN m) := by
  have o' : (W.drewN m).ownsMap Yba.prog 9 (plainElem Yba.prog 25) B n D := o
  obtain ⟨v, ps, hrun, hv⟩ := o'.look_ok law9 Yba.underlying41 (zero25 _) (plainElem_int Yba.underlying25 (a := 0) (by decide)) hkey
  obtain ⟨c', rfl, hc', _⟩ := plainElem_int_inv Yba.underlying25 hv
  have e : DataW.lit (H := Unit) (.int .i64 c) = .lit (.int .i64 c') := hc.symm.trans (congrArg Prod.fst hc')
  have e2 := lit_inj e
  subst e2
  rw [hrun, hh]

theorem look47 {W : World} {B n : Nat} {D : DataW Unit} (o : W.ownsMap Yba.prog 9 (plainElem Yba.prog 2) B n D) {key : Value} {kl : Lit} (hkey : keyOf Yba.prog 9 key = some kl) {c : Int}
    (hc : D.atKey kl (.lit (.int .i64 0)) = .lit (.int .i64 c)) (m : Nat) :
    Sem.run Yba.prog (Instr.lookup 47 (.map (some B)) key false) (W.drewN m) = .ok (.int .i64 c) (W.drewN m) := by
  have o' : (W.drewN m).ownsMap Yba.prog 9 (plainElem Yba.prog 2) B n D := o
  obtain ⟨c', hrun, hc', _⟩ := o'.lookup_int law9 Yba.underlying47 Yba.underlying2 (zero2 _) hkey
  have e : DataW.lit (H := Unit) (.int .i64 c) = .lit (.int .i64 c') := hc.symm.trans hc'
  have e2 := lit_inj e
  subst e2
  exact hrun

theorem atKey_some {W : World} {B n : Nat} {D : DataW Unit} (o : W.ownsMap Yba.prog 9 (plainElem Yba.prog 2) B n D) {key : Value} {kl : Lit} (hkey : keyOf Yba.prog 9 key = some kl) : ∃ c, D.atKey kl (.lit (.int .i64 0)) = .lit (.int .i64 c) ∧ (Lit.int .i64 c).wf = true := by
  obtain ⟨c', _, hc', hw⟩ := o.lookup_int law9 Yba.underlying47 Yba.underlying2 (zero2 _) hkey
  exact ⟨c', hc', hw⟩
end Go.Proofs.Ybulkdndm
