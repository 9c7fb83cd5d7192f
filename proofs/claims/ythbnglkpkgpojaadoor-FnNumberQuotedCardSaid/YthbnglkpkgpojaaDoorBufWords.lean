/-
  Words for buffers: two bytes behind a buffer, a buffer of one byte.
-/
import Derived.Test.YthbnglkpkgpojaaDoorImplP
import Derived.Test.YthbnglkpkgpojaaDoorSpecEnc
import Derived.Test.YthbnglkpkgpojaaDoorCodePoint
namespace Go.Proofs.YthbnglkpkgpojaaDoor
open Go.RowKit
set_option linter.unusedVariables false
section
variable {P : Program}
/-- 'buf = append(buf, b, c)' -/
theorem wpList_buf_two {ops : Array Oper} {rest : List Oper} {o : Oper} {a : Act} {Q : Exit → Act → World → Prop} (hgd : o.guard = none) (s x : Operand) (t : TypeId)
    (ho : o.op = .call { callee := .builtin .append, args := #[s, x], argTypes := #[t, t] })
    (B : Nat) (e : TypeId) (i : TypeInfo) (ht : P.underlying t = some (.slice e)) (hi : P.info? e = some i) (hz : i.zero = some (.int .u8 0)) (hsize : i.size = 1) (hby : i.bytes = 1)
    (v : Value) (l : List UInt8) (hs : a.eval s = v) (W0 w0 : World) (c d : Int) (b b' : UInt8) (hc : c = b.toNat) (hd : d = b'.toNat) (hb : Buf e B v l W0 w0)
    (hx : a.eval x = .slice (some ⟨w0.heap.size, 0, none⟩) 2 2) (hlen : l.length + 2 ≤ 140737488355328)
    (h : ∀ v' w', Buf e B v' (l ++ [b, b']) W0 w' → wpList P ops Q rest (a.put o.dst v') w') : wpList P ops Q (o :: rest) a (w0.alloc (.cells #[.int .u8 c, .int .u8 d] e)) := by
  have hb' := hb.alloc (.cells #[.int .u8 c, .int .u8 d] e)
  refine wpList_append_ownF _ hgd s x t ho B e i (.int .u8 0) 1 1 ht hi hz hsize hby rfl (by decide) v l.length (bcells l) hs hb'.1 ⟨w0.heap.size, 0, none⟩ 2 2 [.int .u8 c, .int .u8 d] hx rfl ?_ ?_ (by unfold maxLen; omega) (by omega) hb'.2.2 ?_
  · intro j u hj
    match j, hj with
    | 0, hj => simp at hj; subst hj; simp [Addr.add]
    | 1, hj => simp at hj; subst hj; simp [Addr.add]
    | (j + 2), hj => simp at hj
  · intro u hu; simp at hu; rcases hu with rfl | rfl <;> rfl
  · intro v' w' ho' hg _
    refine h v' w' ?_
    have := Lib.OwnBuf.grown hb' ho' hg
    subst hc hd
    simpa [Buf, bcells] using this
end
theorem buf_one (w : World) (b : UInt8) (c : Int) (hc : c = b.toNat) : Buf 5 w.heap.size (.slice (some ⟨w.heap.size, 0, none⟩) 1 1) [b] w (w.alloc (.cells #[.int .u8 c] 5)) := by
  have h := own_one w 5 (.int .u8 c)
  subst hc
  exact ⟨World.ownsRowF_of h.1, h.2.1, h.2.2⟩
theorem flat_snoc {β : Type} (f : Int → List β) (l : List Int) (k : Nat) (h : k < l.length) : (l.take (k + 1)).flatMap f = (l.take k).flatMap f ++ f (l[k]) := by
  rw [List.take_succ_eq_append_getElem h, List.flatMap_append]; simp
end Go.Proofs.YthbnglkpkgpojaaDoor
