/-
  Contracts: the functions that quote one character, and those of the thin package over them.
-/
import Derived.Test.YthbnglkpkgpojaaDoorQuoteRune
namespace Go.Proofs.YthbnglkpkgpojaaDoor
open Go.RowKit
theorem quoteL_congr (q : Int) (s t : Int → Bool) (es : List Int) (h : ∀ r ∈ es, elemL q (s r) r = elemL q (t r) r) : quoteL q s es = quoteL q t es := by
  have : es.flatMap (fun r => elemL q (s r) r) = es.flatMap (fun r => elemL q (t r) r) := by
    induction es with
    | nil => rfl
    | cons x es ih =>
      simp only [List.flatMap_cons]
      rw [h x (List.mem_cons_self ..), ih fun r hr => h r (List.mem_cons_of_mem _ hr)]
  simp only [quoteL, this]
theorem fixR_bounds (r : Int) : 0 ≤ fixR r ∧ fixR r ≤ 1114111 := by
  have := isCP_bounds (fixR_cp r)
  omega
theorem q39_P (asc : Bool) (q r : Int) : quoteL q (stayB asc false) [fixR r] = quoteL q (stP asc) [fixR r] := quoteL_congr q _ _ _ fun x hx => by
  simp at hx; subst hx; rw [stP_stay asc _ (fixR_bounds r).1]
theorem q39_G (q r : Int) : quoteL q (stayB false true) [fixR r] = quoteL q stG [fixR r] := quoteL_congr q _ _ _ fun x hx => by
  simp at hx; subst hx; rw [stG_stay _ (fixR_bounds r).1]

theorem sQuoteRune_any (r : Int) (w : World) (hT : PrintT w) (hG : GraphicT w) : Calls Tryd.prog 38 #[.int .i32 r] w fun e w' => e = .returned (.string (str (quoteL 39 (stP false) [fixR r]))) ∧ Below w.heap.size w w' := by
  have C := Lib.hid (qrw_any r 39 false false w hT hG (.inr rfl))
  rw [q39_P false 39 r] at C
  obtain ⟨L, hL⟩ : ∃ L, L = quoteL 39 (stP false) [fixR r] := ⟨_, rfl⟩
  rw [← hL] at C ⊢
  clear hL hT hG
  go_enter Tryd.func38, Tryd.ntmps38
  go_wp2_with (go_at_call 57; refine C.out.mono ?_; rintro e w1 ⟨rfl, hw⟩)
  go_ret
  exact ⟨rfl, hw⟩
theorem iQuoteRune_any (r : Int) (w : World) (hT : PrintT w) (hG : GraphicT w) : Calls Tryd.prog 19 #[.int .i32 r] w fun e w' => e = .returned (.string (str (quoteL 39 (stP false) [fixR r]))) ∧ Below w.heap.size w w' := by
  have C := Lib.hid (sQuoteRune_any r w hT hG)
  obtain ⟨L, hL⟩ : ∃ L, L = quoteL 39 (stP false) [fixR r] := ⟨_, rfl⟩
  rw [← hL] at C ⊢
  clear hL hT hG
  go_enter Tryd.func19, Tryd.ntmps19
  go_wp2_with (go_at_call 38; refine C.out.mono ?_; rintro e w1 ⟨rfl, hw⟩)
  go_ret
  exact ⟨rfl, hw⟩
theorem sQuoteRuneToASCII_any (r : Int) (w : World) (hT : PrintT w) (hG : GraphicT w) : Calls Tryd.prog 37 #[.int .i32 r] w fun e w' => e = .returned (.string (str (quoteL 39 (stP true) [fixR r]))) ∧ Below w.heap.size w w' := by
  have C := Lib.hid (qrw_any r 39 true false w hT hG (.inr rfl))
  rw [q39_P true 39 r] at C
  obtain ⟨L, hL⟩ : ∃ L, L = quoteL 39 (stP true) [fixR r] := ⟨_, rfl⟩
  rw [← hL] at C ⊢
  clear hL hT hG
  go_enter Tryd.func37, Tryd.ntmps37
  go_wp2_with (go_at_call 57; refine C.out.mono ?_; rintro e w1 ⟨rfl, hw⟩)
  go_ret
  exact ⟨rfl, hw⟩
theorem iQuoteRuneToASCII_any (r : Int) (w : World) (hT : PrintT w) (hG : GraphicT w) : Calls Tryd.prog 17 #[.int .i32 r] w fun e w' => e = .returned (.string (str (quoteL 39 (stP true) [fixR r]))) ∧ Below w.heap.size w w' := by
  have C := Lib.hid (sQuoteRuneToASCII_any r w hT hG)
  obtain ⟨L, hL⟩ : ∃ L, L = quoteL 39 (stP true) [fixR r] := ⟨_, rfl⟩
  rw [← hL] at C ⊢
  clear hL hT hG
  go_enter Tryd.func17, Tryd.ntmps17
  go_wp2_with (go_at_call 37; refine C.out.mono ?_; rintro e w1 ⟨rfl, hw⟩)
  go_ret
  exact ⟨rfl, hw⟩
theorem sQuoteRuneToGraphic_any (r : Int) (w : World) (hT : PrintT w) (hG : GraphicT w) : Calls Tryd.prog 40 #[.int .i32 r] w fun e w' => e = .returned (.string (str (quoteL 39 stG [fixR r]))) ∧ Below w.heap.size w w' := by
  have C := Lib.hid (qrw_any r 39 false true w hT hG (.inr rfl))
  rw [q39_G 39 r] at C
  obtain ⟨L, hL⟩ : ∃ L, L = quoteL 39 stG [fixR r] := ⟨_, rfl⟩
  rw [← hL] at C ⊢
  clear hL hT hG
  go_enter Tryd.func40, Tryd.ntmps40
  go_wp2_with (go_at_call 57; refine C.out.mono ?_; rintro e w1 ⟨rfl, hw⟩)
  go_ret
  exact ⟨rfl, hw⟩
theorem iQuoteRuneToGraphic_any (r : Int) (w : World) (hT : PrintT w) (hG : GraphicT w) : Calls Tryd.prog 22 #[.int .i32 r] w fun e w' => e = .returned (.string (str (quoteL 39 stG [fixR r]))) ∧ Below w.heap.size w w' := by
  have C := Lib.hid (sQuoteRuneToGraphic_any r w hT hG)
  obtain ⟨L, hL⟩ : ∃ L, L = quoteL 39 stG [fixR r] := ⟨_, rfl⟩
  rw [← hL] at C ⊢
  clear hL hT hG
  go_enter Tryd.func22, Tryd.ntmps22
  go_wp2_with (go_at_call 40; refine C.out.mono ?_; rintro e w1 ⟨rfl, hw⟩)
  go_ret
  exact ⟨rfl, hw⟩
end Go.Proofs.YthbnglkpkgpojaaDoor
