/-
  A text turned to bytes.
-/
import Derived.Test.YtmdpfceigmimhaaMV17
namespace Go.V
open Go.RowKit
set_option linter.unusedVariables false
set_option linter.unusedSimpArgs false
theorem size_bytes (s : List UInt8) : (⟨s.toArray⟩ : ByteArray).size = s.length := str_size s
theorem run_stringToBytes {P : Program} {e : TypeId} {s : List UInt8} (W : World) : ∃ cap cs, s.length ≤ cap ∧ cs.toList.take s.length = s.map (fun b => Value.int .u8 (b.toNat : Int)) ∧
    (Conv.stringToBytes e ⟨s.toArray⟩).run P W = .ok (.slice (some ⟨W.heap.size, 0, none⟩) s.length cap) ((W.drew.alloc (.cells cs e (0, 0))).freeze ⟨W.heap.size, cs.size, none⟩ 1) := by
  refine ⟨grownCap W s.length 0 e, (s.map fun b => Value.int .u8 (b.toNat : Int)).toArray ++ Array.replicate (grownCap W s.length 0 e - s.length) (.int .u8 0), grownCap_ge _ _ _ _, ?_, ?_⟩
  · simp
  · have hsh : ∀ cs : Array Value, (W.drew.alloc (.cells cs e (0, 0))).shape? W.heap.size = some (e, cs.size) := fun cs => by
      show (W.drew.alloc _).shape? W.drew.heap.size = _
      simp only [World.shape?, heap_alloc_new]
    simp [Conv.stringToBytes, markStringish, newRow, grownCap, size_bytes, Question.forced, hsh]
section
variable {P : Program} {n : Nat} {C : Cx} {k : List Item} {env : Env} {L : Own} {I : Imm} {ops : Array Oper} {i : Nat} {l : List Oper}
variable {ty : TypeId} {ps : String} {af : Array Edge} {g : Option (Nat × Bool)} {d : Nat}
theorem Inv.bytes {w0 : World} {I0 : Imm} {L0 : List Nat} {W : World} {e : TypeId} {cs : Array Value} (hi : Inv w0 I0 L0 I L W) :
    Inv w0 I0 L0 I ((W.heap.size, .cells cs e (cs.size, cs.size + 1)) :: L) ((W.drew.alloc (.cells cs e (0, 0))).freeze ⟨W.heap.size, cs.size, none⟩ 1) := by
  have h1 := hi.drew.alloc (.cells cs e (0, 0))
  refine h1.upd ?_ ?_ ?_ ?_ ?_ ?_
  · simp [World.freeze]
  · simp [World.freeze]
  · simp [World.freeze]
  · simp [World.freeze]
  · intro c _ hcb
    have : W.heap.size ≠ c := fun e => hcb e.symm
    simp [World.freeze, Array.getElem?_modify, this]
  · have h2 : (W.drew.alloc (.cells cs e (0, 0))).heap[W.heap.size]? = some (.cells cs e (0, 0)) := heap_alloc_new W.drew _
    unfold World.freeze
    rw [if_neg (by decide)]
    show (Array.modify _ W.heap.size _)[W.heap.size]? = _
    rw [Array.getElem?_modify, if_pos rfl, h2]
    simp
/-- []byte(s) -/
theorem Ops.convBytes {x : Operand} {src dst e : TypeId} {s : List UInt8} (T : Tab P) (hg : want env ops g = some true) (hd : d < n) (hs : T.und src = some .string) (ht : T.und dst = some (.slice e)) (he8 : T.und e = some (.int .u8)) (hx : opnd env x = some (str s))
    (next : ∀ v J, Le I J → Sl tU8 J v s → Ops P n C ops (i + 1) l k ((d, v) :: env) L J) : Ops P n C ops i (⟨some d, .convert src dst x, ty, ps, af, g⟩ :: l) k env L I :=
  Ops.valW hg (dOk hd) fun a W he hi => by
    obtain ⟨cap, cs, h1, h2, hr⟩ := run_stringToBytes (P := P) (e := e) (s := s) W
    have hi2 := hi.bytes (e := e) (cs := cs)
    have hle := hi2.le_iset
    refine ⟨.slice (some ⟨W.heap.size, 0, none⟩) s.length cap, _, L, _, .inl ?_, hi2.freeze, next _ _ hle ?_⟩
    · simp only [execOp, eval_opnd he hx, convert, Sem.run_bind, T.undOk hs, T.undOk ht, T.undOk he8, str, Result.andThen_ok, hr]; rfl
    · refine ⟨_, _, rfl, h1, .inr ⟨W.heap.size, 0, rfl, ?_⟩⟩
      intro j y hy
      have hj : j < s.length := (List.getElem?_eq_some_iff.1 hy).1
      refine ⟨[.int .u8 (y.toNat : Int)], rfl, cs, e, (cs.size, cs.size + 1), by simp [iset], ?_⟩
      intro q u hu
      have hq : q = 0 := by
        cases q with
        | zero => rfl
        | succ q => simp at hu
      subst hq
      simp at hu; subst hu
      have h3 : (cs.toList.take s.length)[j]? = some (.int .u8 (y.toNat : Int)) := by rw [h2]; simp [hy]
      rw [List.getElem?_take_of_lt hj] at h3
      simpa [tU8] using h3
end
end Go.V
