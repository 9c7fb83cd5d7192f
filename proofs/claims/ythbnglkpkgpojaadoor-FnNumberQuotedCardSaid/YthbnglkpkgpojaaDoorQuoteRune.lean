/-
  Contracts: strconv.appendQuotedRuneWith and quoteRuneWith with all flags; laws.one.
-/
import Derived.Test.YthbnglkpkgpojaaDoorEsc
import Derived.Test.YthbnglkpkgpojaaDoorBufWords
namespace Go.Proofs.YthbnglkpkgpojaaDoor
open Go.RowKit
set_option linter.unusedVariables false
/-- the number itself, or the replacement character -/
def fixR (r : Int) : Int := if isCP r then r else 65533
theorem fixR_cp (r : Int) : isCP (fixR r) = true := by
  unfold fixR
  split
  · assumption
  · decide
theorem valid_eq (r : Int) : Lib.validRune r = isCP r := by
  unfold Lib.validRune isCP
  rw [decide_eq_decide]; omega
theorem one_any (r : Int) (w : World) : Calls Tryd.prog 21 #[.int .i32 r] w fun e w' => ∃ v, e = .returned v ∧ Own 21 w.heap.size v (icells [fixR r]) w w' := by
  have C := Lib.hid (isCodePoint_any r w)
  have h1 := own_one w 21 (.int .i32 (fixR r))
  cases hc : isCP r
  · rw [hc] at C
    have e : fixR r = 65533 := by simp [fixR, hc]
    rw [e] at h1 ⊢
    clear hc e
    have H1 := Lib.hid h1
    clear h1
    go_enter Tryd.func21, Tryd.ntmps21
    go_wp2_with (go_at_call 12; refine C.out.mono ?_; rintro e w1 ⟨rfl, rfl⟩)
    go_ret
    exact ⟨_, rfl, H1.out⟩
  · rw [hc] at C
    have e : fixR r = r := by simp [fixR, hc]
    rw [e] at h1 ⊢
    clear hc e
    have H1 := Lib.hid h1
    clear h1
    go_enter Tryd.func21, Tryd.ntmps21
    go_wp2_with (go_at_call 12; refine C.out.mono ?_; rintro e w1 ⟨rfl, rfl⟩)
    go_ret
    exact ⟨_, rfl, H1.out⟩
theorem buf_nil (w : World) (W0 : World) (B : Nat) (hb : Below B W0 w) (hB : B ≤ w.heap.size) : Buf 5 B (.slice none 0 0) [] W0 w := ⟨World.ownsRowF_nil w B 5 1, hb, hB⟩
set_option maxHeartbeats 1000000 in
theorem aqrw_any (B : Nat) (v : Value) (l : List UInt8) (r q : Int) (asc gr : Bool) (W0 w : World) (hb : Buf 5 B v l W0 w) (hlen : l.length + 12 ≤ 140737488355328) (hB : B = W0.heap.size) (hT : PrintT W0) (hG : GraphicT W0) (hq : q = 34 ∨ q = 39) :
    Calls Tryd.prog 69 #[v, .int .i32 r, .int .u8 q, .bool asc, .bool gr] w fun e w' => ∃ v', e = .returned v' ∧ Buf 5 B v' (l ++ quoteL q (stayB asc gr) [fixR r]) W0 w' := by
  obtain ⟨i0, hi, hz0, hz1, hz2⟩ := info_parts byte_info
  have hqb : q = ((byteZ q).toNat : Int) := by rcases hq with rfl | rfl <;> rfl
  have hql := Lib.hid (show l ++ quoteL q (stayB asc gr) [fixR r] = (l ++ [byteZ q]) ++ elemL q (stayB asc gr (fixR r)) (fixR r) ++ [byteZ q] by simp [quoteL])
  have hel := (elemL_length q (stayB asc gr (fixR r)) (fixR r)).2
  have cE := fun (vb : Value) (W : World) (hW : Buf 5 B vb (l ++ [byteZ q]) W0 W) => Lib.hid (appendEscapedRune_any B vb (l ++ [byteZ q]) (fixR r) q asc gr W0 W hW (by simp only [List.length_append, List.length_cons, List.length_nil]; omega) (hT.below (by have := hW.isBelow; rwa [hB] at this)) (hG.below (by have := hW.isBelow; rwa [hB] at this)) (fixR_cp r) hq)
  have HQB := Lib.hid hqb
  obtain ⟨L2, hL2⟩ : ∃ L2, L2 = l ++ [byteZ q] ++ elemL q (stayB asc gr (fixR r)) (fixR r) := ⟨_, rfl⟩
  rw [← hL2] at cE hql
  have hlo : L2.length + 1 ≤ 140737488355328 := by rw [hL2]; simp only [List.length_append, List.length_cons, List.length_nil]; omega
  clear hL2
  have cV := fun W : World => Lib.hid (validRune_any r W)
  rw [valid_eq] at cV
  clear hT hG hqb hq hel hB
  cases hc : isCP r
  · rw [hc] at cV
    have e : fixR r = 65533 := by simp [fixR, hc]
    rw [e] at cE
    clear hc e
    go_enter Tryd.func69, Tryd.ntmps69
    have tok1 : True := trivial
    go_wp2_with (first
      | (at_builtin; have _t := tok1; refine wpList_buf_byte rfl _ _ 39 rfl B 5 i0 Tryd.underlying39 hi hz0 hz1 hz2 _ l rfl W0 _ _ (byteZ q) HQB.out (by assumption) rfl (by omega) ?_; intro v1 w1 hb1; clear tok1)
      | (at_builtin; refine wpList_buf_byte rfl _ _ 39 rfl B 5 i0 Tryd.underlying39 hi hz0 hz1 hz2 _ L2 rfl W0 _ _ (byteZ q) HQB.out (by assumption) rfl hlo ?_; intro v3 w3 hb3)
      | (go_at_call 86; refine (cV _).out.mono ?_; rintro e w2 ⟨rfl, rfl⟩)
      | (go_at_call 85; refine (cE _ _ hb1).out.mono ?_; rintro e w2 ⟨v2, rfl, hb2⟩))
    go_ret
    exact ⟨_, rfl, by rw [hql.out]; exact hb3⟩
  · rw [hc] at cV
    have e : fixR r = r := by simp [fixR, hc]
    rw [e] at cE
    clear hc e
    go_enter Tryd.func69, Tryd.ntmps69
    have tok1 : True := trivial
    go_wp2_with (first
      | (at_builtin; have _t := tok1; refine wpList_buf_byte rfl _ _ 39 rfl B 5 i0 Tryd.underlying39 hi hz0 hz1 hz2 _ l rfl W0 _ _ (byteZ q) HQB.out (by assumption) rfl (by omega) ?_; intro v1 w1 hb1; clear tok1)
      | (at_builtin; refine wpList_buf_byte rfl _ _ 39 rfl B 5 i0 Tryd.underlying39 hi hz0 hz1 hz2 _ L2 rfl W0 _ _ (byteZ q) HQB.out (by assumption) rfl hlo ?_; intro v3 w3 hb3)
      | (go_at_call 86; refine (cV _).out.mono ?_; rintro e w2 ⟨rfl, rfl⟩)
      | (go_at_call 85; refine (cE _ _ hb1).out.mono ?_; rintro e w2 ⟨v2, rfl, hb2⟩))
    go_ret
    exact ⟨_, rfl, by rw [hql.out]; exact hb3⟩
/-- string(v) of a buffer of the call's own, as one law -/
theorem conv_buf {B : Nat} {v : Value} {l : List UInt8} {W0 w : World} (h : Buf 5 B v l W0 w) : (convert 39 9 v).run Tryd.prog w = .ok (.string (str l)) w := by
  obtain ⟨A, c, rfl, _, _, hr⟩ := h.form
  exact run_convert_reads (P := Tryd.prog) w 39 5 9 Tryd.underlying39 Tryd.underlying5 Tryd.underlying9 c hr
set_option maxHeartbeats 1000000 in
theorem qrw_any (r q : Int) (asc gr : Bool) (w : World) (hT : PrintT w) (hG : GraphicT w) (hq : q = 34 ∨ q = 39) :
    Calls Tryd.prog 57 #[.int .i32 r, .int .u8 q, .bool asc, .bool gr] w fun e w' => e = .returned (.string (str (quoteL q (stayB asc gr) [fixR r]))) ∧ Below w.heap.size w w' := by
  have C := Lib.hid (aqrw_any w.heap.size (.slice none 0 0) [] r q asc gr w w (buf_nil w w _ (Below.refl _ _) (Nat.le_refl _)) (by simp) rfl hT hG hq)
  obtain ⟨L, hL⟩ : ∃ L, L = quoteL q (stayB asc gr) [fixR r] := ⟨_, rfl⟩
  simp only [List.nil_append] at C
  rw [← hL] at C ⊢
  clear hL hT hG hq
  go_enter Tryd.func57, Tryd.ntmps57
  go_wp2_with (go_at_call 69; refine C.out.mono ?_; rintro e w1 ⟨v1, rfl, hb1⟩; obtain ⟨A1, c1, hv1, _, _, _⟩ := hb1.form; have hcv := conv_buf hb1; rw [hv1] at hcv ⊢)
  go_ret
  exact ⟨rfl, hb1.isBelow⟩
end Go.Proofs.YthbnglkpkgpojaaDoor
