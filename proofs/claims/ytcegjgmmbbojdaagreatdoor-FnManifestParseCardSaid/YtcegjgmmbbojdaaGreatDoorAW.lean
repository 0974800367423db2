/- Short words: the slots of a region by what it is itself; so many truths. -/
import Derived.Test.YtcegjgmmbbojdaaGreatDoorAM3
namespace Go.V
set_option linter.unusedVariables false
def dr : Nat → Nat → List (Option Nat)
  | _, 0 => []
  | a, n + 1 => some a :: dr (a + 1) n
def tr : Nat → List Bool
  | 0 => []
  | n + 1 => true :: tr n
def trs : List Oper → List Bool
  | [] => []
  | _ :: l => true :: trs l
theorem tr_all : ∀ n, (tr n).all (fun b => b) = true
  | 0 => rfl
  | n + 1 => tr_all n
theorem tr_len : ∀ n, (tr n).length = n
  | 0 => rfl
  | n + 1 => congrArg (· + 1) (tr_len n)
theorem trs_all : ∀ l, (trs l).all (fun b => b) = true
  | [] => rfl
  | _ :: l => trs_all l
theorem trs_len : ∀ l : List Oper, l.length = (trs l).length
  | [] => rfl
  | _ :: l => congrArg (· + 1) (trs_len l)
theorem lb {a b : Nat} (h : Nat.ble a b = true) : a ≤ b := Nat.le_of_ble_eq_true h
section
variable {P : Program} {n : Nat} {C : Cx} {k : List Item} {env : Env} {L : Own} {I : Imm} {id : Nat} {l : List Oper}
theorem rO (h : ∀ Z : Env → Prop, (∀ e, Run P n C k e L I → Z e) → QD P n C (l.map (·.dst)) L I Z (trs l) l env) : Run P n C (.code (.region id l.toArray false) :: k) env L I :=
  Run.regionO (trs l) (trs_all l) rfl (trs_len l) h
theorem rP (m : Nat) (h : ∀ Z : Env → Prop, (∀ e, Ops P n C l.toArray m (l.drop m) k e L I → Z e) → QD P n C (l.map (·.dst)) L I Z (tr m) l env) : Run P n C (.code (.region id l.toArray false) :: k) env L I :=
  Run.regionP (tr m) m (tr_all m) (tr_len m) rfl rfl h
theorem rQ (h : ∀ Z : Env → Prop, (∀ e, Run P n C k e L I → Z e) → QD P n C (l.map (·.dst)) L I Z (trs l) l env) (hm : P.follows .mixedOrders = true := by kernel_rfl) (hB : quietB .any l.toArray (trs l) (trs l) = true := by kernel_rfl) (hf : Nat.beq (trues (trs l) + 0) l.length = true := by kernel_rfl) (hr : Region.ready .any l.toArray (trs l).toArray = [] := by kernel_rfl) : Run P n C (.code (.region id l.toArray true) :: k) env L I :=
  Run.regionQ (trs l) (trs l) hm hB hf hr rfl h
theorem zN {Z Q : Env → Prop} (hZ : ∀ e, Q e → Z e) (h : Q env) {D : List (Option Nat)} : QD P n C D L I Z [] l env := hZ _ h
theorem rS {x y : Code} (h : Run P n C (.code x :: .code y :: k) env L I) : Run P n C (.code (.seq x y) :: k) env L I := Run.seq h
theorem rF {s : Nat} {x y : Code} (hl : look env s = some (.bool false)) (h : Run P n C (.code y :: k) env L I) : Run P n C (.code (.cond (.tmp s) x y) :: k) env L I := Run.cond_f hl h
theorem rT {s : Nat} {x y : Code} (hl : look env s = some (.bool true)) (h : Run P n C (.code x :: k) env L I) : Run P n C (.code (.cond (.tmp s) x y) :: k) env L I := Run.cond_t hl h
theorem rK (h : Run P n C k env L I) : Run P n C (.code .skip :: k) env L I := Run.skip h
theorem rB {c : Code} (h : Run P n C (.code c :: .inBlock id :: k) env L I) : Run P n C (.code (.block id c) :: k) env L I := Run.block h
theorem rI (h : Run P n C k env L I) : Run P n C (.inBlock id :: k) env L I := Run.inBlock h
end
section
variable {n : Nat} {C : Cx} {k : List Item} {env : Env} {L : Own} {I : Imm} {D : List (Option Nat)} {Z : Env → Prop} {m : List Bool} {r : List Oper} {ty : TypeId} {ps : String} {af : Array Edge} {g : Option (Nat × Bool)} {d : Nat}
theorem eE {op : Op} {v : Value} (h : evalOp T env op = some v) (next : QD Proofs.Tryz.prog n C D L I Z m r ((d, v) :: env)) (hd : d < n := by decide) (hg : wantD env D g = some true := by rfl) : QD Proofs.Tryz.prog n C D L I Z (true :: m) (⟨some d, op, ty, ps, af, g⟩ :: r) env := QD.ev T hd hg h next
theorem fE {op : Op} {v : Value} (h : Ev Proofs.Tryz.prog n env op v) (next : QD Proofs.Tryz.prog n C D L I Z m r ((d, v) :: env)) (hd : d < n := by decide) (hg : wantD env D g = some true := by rfl) : QD Proofs.Tryz.prog n C D L I Z (true :: m) (⟨some d, op, ty, ps, af, g⟩ :: r) env := QD.e h hd hg next
theorem gY {op : Op} {v : Value} (h : Yv Proofs.Tryz.prog n env (Holds I L) op v) (next : QD Proofs.Tryz.prog n C D L I Z m r ((d, v) :: env)) (hd : d < n := by decide) (hg : wantD env D g = some true := by rfl) : QD Proofs.Tryz.prog n C D L I Z (true :: m) (⟨some d, op, ty, ps, af, g⟩ :: r) env := QD.yv hd hg h next
theorem oF {op : Op} (next : QD Proofs.Tryz.prog n C D L I Z m r ((d, undef) :: env)) (hd : d < n := by decide) (hg : wantD env D g = some false := by rfl) : QD Proofs.Tryz.prog n C D L I Z (true :: m) (⟨some d, op, ty, ps, af, g⟩ :: r) env := QD.off hd hg next
theorem kF {op : Op} {p : Prop} {i : Decidable p} (h : Ev Proofs.Tryz.prog n env op (.bool (decide p))) (hp : ¬p) (next : QD Proofs.Tryz.prog n C D L I Z m r ((d, .bool false) :: env)) (hd : d < n := by decide) (hg : wantD env D g = some true := by rfl) : QD Proofs.Tryz.prog n C D L I Z (true :: m) (⟨some d, op, ty, ps, af, g⟩ :: r) env := qf h hp hd hg next
theorem kT {op : Op} {p : Prop} {i : Decidable p} (h : Ev Proofs.Tryz.prog n env op (.bool (decide p))) (hp : p) (next : QD Proofs.Tryz.prog n C D L I Z m r ((d, .bool true) :: env)) (hd : d < n := by decide) (hg : wantD env D g = some true := by rfl) : QD Proofs.Tryz.prog n C D L I Z (true :: m) (⟨some d, op, ty, ps, af, g⟩ :: r) env := qt h hp hd hg next
theorem oP {ops : Array Oper} {i : Nat} {l : List Oper} {op : Op} {v : Value} (h : evalOp T env op = some v) (next : Ops Proofs.Tryz.prog n C ops (i + 1) l k ((d, v) :: env) L I) (hd : d < n := by decide) (hg : want env ops g = some true := by rfl) : Ops Proofs.Tryz.prog n C ops i (⟨some d, op, ty, ps, af, g⟩ :: l) k env L I := Ops.pure T hg hd h next
end
end Go.V
