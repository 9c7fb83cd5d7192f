/-
  Words for memory: rows of one-cell elements that a call owns. No program in sight.
-/
import Derived.Test.YthbnglkpkgpojaaDoorWords
namespace Go.Proofs.YthbnglkpkgpojaaDoor
open Go.RowKit

/-! Rows of one-cell elements that a call owns. -/
def Own (T : TypeId) (B : Nat) (v : Value) (xs : List Value) (W0 w : World) : Prop := w.ownsRow B T 1 v xs.length xs ∧ Below B W0 w ∧ B ≤ w.heap.size
theorem Own.isBelow {T B v xs W0 w} (h : Own T B v xs W0 w) : Below B W0 w := h.2.1
theorem Own.base {T B v xs W0 w} (h : Own T B v xs W0 w) : B ≤ w.heap.size := h.2.2
theorem ownsRow_kept {w w' : World} {base : Nat} {e : TypeId} {size : Nat} {v : Value} {n : Nat} {xs : List Value} (h : w.ownsRow base e size v n xs) (hb : Below w.heap.size w w') : w'.ownsRow base e size v n xs := by
  obtain ⟨h1, h2⟩ := h
  refine ⟨h1, ?_⟩
  rcases h2 with h2 | ⟨g, cap, cur, hv, hg, hh, r⟩
  · exact .inl h2
  · refine .inr ⟨g, cap, cur, hv, hg, ?_, r⟩
    have : g < w.heap.size := by
      rcases Nat.lt_or_ge g w.heap.size with hlt | hge
      · exact hlt
      · rw [Array.getElem?_eq_none hge] at hh; cases hh
    rw [hb.block g this]; exact hh
theorem Own.below {T B v xs W0 w w'} (h : Own T B v xs W0 w) (hb : Below w.heap.size w w') : Own T B v xs W0 w' :=
  ⟨ownsRow_kept h.1 hb, h.2.1.trans ⟨hb.os, hb.tape, hb.output, hb.size, fun k hk => hb.block k (Nat.lt_of_lt_of_le hk h.2.2)⟩, Nat.le_trans h.2.2 hb.size⟩
theorem Own.since {T B v xs W0 W1 w} (h : Own T B v xs W1 w) (hb : Below B W0 W1) : Own T B v xs W0 w := ⟨h.1, hb.trans h.2.1, h.2.2⟩
theorem Own.lower {T B B' v xs W0 w} (h : Own T B v xs W0 w) (hB : B' ≤ B) : Own T B' v xs W0 w := by
  obtain ⟨⟨h1, h2⟩, h3, h4⟩ := h
  refine ⟨⟨h1, ?_⟩, h3.mono hB, Nat.le_trans hB h4⟩
  rcases h2 with h2 | ⟨g, cap, cur, a1, a2, a3⟩
  · exact .inl h2
  · exact .inr ⟨g, cap, cur, a1, Nat.le_trans hB a2, a3⟩
theorem Own.form {T B v xs W0 w} (h : Own T B v xs W0 w) : ∃ A c, v = .slice A xs.length c ∧ xs.length ≤ c ∧ c ≤ maxLen ∧ Reads w w.heap.size 1 A xs.length xs := by
  rcases h.1.2 with ⟨rfl, h0⟩ | ⟨g, cap, cur, rfl, r⟩
  · have : xs = [] := List.eq_nil_of_length_eq_zero h0
    subst this
    exact ⟨none, 0, rfl, by simp, by simp [maxLen], Reads.none_⟩
  · exact ⟨some ⟨g, 0, none⟩, cap, rfl, r.2.2.1, r.2.2.2.1, Reads.of_own h.1⟩
theorem own_start (w : World) (e : TypeId) : Own e w.heap.size (.slice (some ⟨w.heap.size, 0, none⟩) 0 0) [] w (w.alloc (.cells #[] e)) :=
  ⟨⟨by simp, .inr ⟨w.heap.size, 0, #[], rfl, Nat.le_refl _, by show (w.heap.push _)[w.heap.size]? = _; simp, by simp, by simp [maxLen], by simp, by simp⟩⟩, (Below.refl _ _).alloc (Nat.le_refl _) _, by simp⟩
theorem own_one (w : World) (e : TypeId) (c : Value) : Own e w.heap.size (.slice (some ⟨w.heap.size, 0, none⟩) 1 1) [c] w (w.alloc (.cells #[c] e)) :=
  ⟨⟨by simp, .inr ⟨w.heap.size, 1, #[c], rfl, Nat.le_refl _, by show (w.heap.push _)[w.heap.size]? = _; simp, by simp, by simp [maxLen], by simp, by simp⟩⟩, (Below.refl _ _).alloc (Nat.le_refl _) _, by simp⟩
section
variable {P : Program}
/-- 'out = append(out, x)' -/
theorem wpList_own_push {ops : Array Oper} {rest : List Oper} {o : Oper} {a : Act} {Q : Exit → Act → World → Prop} (hgd : o.guard = none) (s x : Operand) (t : TypeId)
    (ho : o.op = .call { callee := .builtin .append, args := #[s, x], argTypes := #[t, t] })
    (B : Nat) (e : TypeId) (i : TypeInfo) (z : Value) (bytes : Nat) (ht : P.underlying t = some (.slice e)) (hi : P.info? e = some i) (hz : i.zero = some z) (hsize : i.size = 1) (hby : i.bytes = bytes) (hzs : z.cells.size = 1)
    (v : Value) (xs : List Value) (hs : a.eval s = v) (W0 w0 : World) (c : Value) (hc : c.oneCell' = true) (hb : Own e B v xs W0 w0)
    (hx : a.eval x = .slice (some ⟨w0.heap.size, 0, none⟩) 1 1) (hlen : (xs.length + 1) * bytes ≤ 140737488355328) (hl2 : xs.length + 1 ≤ 140737488355328)
    (h : ∀ v' w', Own e B v' (xs ++ [c]) W0 w' → wpList P ops Q rest (a.put o.dst v') w') : wpList P ops Q (o :: rest) a (w0.alloc (.cells #[c] e)) := by
  have hb' : Own e B v xs W0 (w0.alloc (.cells #[c] e)) := hb.below ((Below.refl _ _).alloc (Nat.le_refl _) _)
  have hr : Reads (w0.alloc (.cells #[c] e)) (w0.heap.size + 1) 1 (some ⟨w0.heap.size, 0, none⟩) 1 [c] := by
    refine ⟨by simp, fun _ => ⟨_, rfl, by simp, fun j u hu => ?_⟩⟩
    match j, hu with
    | 0, hu => simp at hu; subst hu; simp [Addr.add]
    | (j + 1), hu => simp at hu
  refine wpList_append_any _ hgd s x t ho B e i z 1 bytes ht hi hz hsize hby hzs (by decide) v xs.length xs hs hb'.1 _ _ 1 1 [c] hx hr ?_ (by unfold maxLen; omega) hlen hb'.2.2 ?_
  · intro u hu; simp at hu; subst hu; exact hc
  · intro v' w' h1 h2 h3
    refine h v' w' ⟨by simpa using h1, hb'.2.1.grown h2 hb'.2.2 (fun k hk => ?_), Nat.le_trans hb'.2.2 h2.size⟩
    rcases hb'.1.2 with ⟨rfl, _⟩ | ⟨g, cap, cur, rfl, hg, _⟩
    · cases hk
    · simp [Value.ownBlock] at hk; omega
end

end Go.Proofs.YthbnglkpkgpojaaDoor
