/-
  Contract: strconv.appendEscapedRune at every code point, with both quotes and all flags: it appends the element's text to a buffer of the call's own. (After the shelf's own proof of the case that strconv.Quote calls; printed by wip/gen_esc.py.)
-/
import Derived.Test.YthbnglkpkgpojaaDoorOwn
import Derived.Test.YthbnglkpkgpojaaDoorPlainQuote
import Derived.Test.YthbnglkpkgpojaaDoorPrintTabs
import Derived.Lib.QuoteBits
import Derived.LoopN
import Derived.BigGuardPart
import Derived.BigCall
namespace Go.Proofs.YthbnglkpkgpojaaDoor
open Go.RowKit
set_option linter.unusedVariables false
set_option linter.unusedSimpArgs false
theorem isCP_bounds {r : Int} (h : isCP r = true) : 0 ≤ r ∧ r ≤ 1114111 ∧ (r < 55296 ∨ 57343 < r) := by simpa [isCP] using h
theorem valid_of {r : Int} (h : isCP r = true) : Lib.validRune r = true := by
  have := isCP_bounds h
  simp only [Lib.validRune, decide_eq_true_eq]; omega
theorem validRune_any (r : Int) (w : World) : Calls Tryd.prog 86 #[.int .i32 r] w fun e w' => e = .returned (.bool (Lib.validRune r)) ∧ w = w' :=
  (Tryd.utf8_ValidRune r w).mono fun e w' ⟨h1, h2⟩ => ⟨h1, h2.symm⟩
/-- what stays as it is under the flags -/
def stayB (asc gr : Bool) (r : Int) : Bool := if asc then decide (r < 128) && printB r else printB r || (gr && inGraphic r)
theorem stayB_false {asc gr : Bool} {r : Int} (h : stayB asc gr r = false) : (asc = true ∧ r < 128 ∧ printB r = false) ∨ (asc = true ∧ ¬ r < 128) ∨ (asc = false ∧ printB r = false ∧ gr = false) ∨ (asc = false ∧ printB r = false ∧ gr = true ∧ inGraphic r = false) := by
  unfold stayB at h
  cases asc <;> cases gr <;> simp_all
  · by_cases h1 : r < 128
    · exact .inl ⟨h1, h h1⟩
    · exact .inr (by omega)
  · by_cases h1 : r < 128
    · exact .inl ⟨h1, h h1⟩
    · exact .inr (by omega)
theorem stP_stay (asc : Bool) (r : Int) (h : 0 ≤ r) : stayB asc false r = stP asc r := by
  cases asc <;> simp [stayB, stP, printB, h]
theorem stG_stay (r : Int) (h : 0 ≤ r) : stayB false true r = stG r := by
  simp [stayB, stG, printB, h]
theorem runeCells_eq (r : Int) (h : isCP r = true) : Lib.runeCells r = bcells (encL r) := by
  have h' := isCP_bounds h
  rw [← encL_eq r h]
  unfold Lib.runeCells Lib.encodeRune bcells
  rw [List.map_map]
  apply List.map_congr_left
  intro x hx
  have : 0 ≤ x ∧ x ≤ 255 := by
    unfold Lib.encodeRuneZ at hx
    repeat' split at hx
    all_goals (simp at hx; omega)
  show Value.int .u8 x = Value.int .u8 ((x.toNat.toUInt8).toNat : Int)
  have e : ((x.toNat.toUInt8).toNat : Int) = x := by
    show ((UInt8.ofNat x.toNat).toNat : Int) = x
    rw [UInt8.toNat_ofNat']; omega
  rw [e]

set_option maxHeartbeats 4000000 in
set_option maxRecDepth 1000000 in
/-- the quote itself or a backslash -/
theorem esc_quoted (B : Nat) (v : Value) (l : List UInt8) (r q : Int) (asc gr : Bool) (W0 w : World) (hb : Buf 5 B v l W0 w) (hlen : l.length + 10 ≤ 140737488355328) (hT : PrintT w) (hG : GraphicT w) (hcp : isCP r = true) (hq : q = 34 ∨ q = 39) (hx : r = q ∨ r = 92) :
    Calls Tryd.prog 85 #[v, .int .i32 r, .int .u8 q, .bool asc, .bool gr] w fun e w' => ∃ v', e = .returned v' ∧ Buf 5 B v' (l ++ elemL q (stayB asc gr r) r) W0 w' := by
  obtain ⟨i0, hi, hz0, hz1, hz2⟩ := info_parts byte_info
  have hr := isCP_bounds hcp
  have hr0 : 0 ≤ r := hr.1
  have hr1 : r ≤ 1114111 := hr.2.1
  have hwq : IntKind.i32.wrap q = q := by rcases hq with rfl | rfl <;> rfl
  have hE : elemL q (stayB asc gr r) r = [92, byteZ r] := by simp only [elemL, if_pos hx]
  rw [hE]
  unfold Buf at hb
  clear hT hG
  have key : (r = 34 ∧ q = 34) ∨ (r = 39 ∧ q = 39) ∨ (r = 92 ∧ q = 34) ∨ (r = 92 ∧ q = 39) := by omega
  clear hE hx hq hcp hr hr0 hr1
  rcases key with ⟨rfl, rfl⟩ | ⟨rfl, rfl⟩ | ⟨rfl, rfl⟩ | ⟨rfl, rfl⟩
  all_goals (
    go_enter Tryd.func85, Tryd.ntmps85
    go_big_wp2_with (at_builtin; first
      | (refine Lib.wpList_append_byte rfl _ _ 39 rfl B 5 i0 Tryd.underlying39 hi hz0 hz1 hz2 _ _ _ rfl W0 _ _ (by assumption) rfl (by first | omega | (simp only [Lib.size_two]; omega)) ?_; intro _ _ hb)
      | (refine Lib.wpList_append_text rfl _ _ 39 9 rfl B 5 i0 Tryd.underlying39 Tryd.underlying9 hi hz0 hz1 hz2 _ _ _ rfl W0 (by assumption) _ rfl (by first | omega | (simp only [Lib.size_two]; omega)) ?_; intro _ _ hb))
    go_ret
    refine ⟨_, rfl, ?_⟩
    show Lib.OwnBuf B 5 _ _ _ W0 _
    simpa [bcells, byteZ] using hb)

set_option maxHeartbeats 4000000 in
set_option maxRecDepth 1000000 in
/-- ASCII alone is asked, and the character stays -/
theorem esc_ascii (B : Nat) (v : Value) (l : List UInt8) (r q : Int) (gr : Bool) (W0 w : World) (hb : Buf 5 B v l W0 w) (hlen : l.length + 10 ≤ 140737488355328) (hT : PrintT w) (hG : GraphicT w) (hcp : isCP r = true) (hq : q = 34 ∨ q = 39) (hn : ¬ (r = q ∨ r = 92)) (h1 : r < 128) (hp : printB r = true) :
    Calls Tryd.prog 85 #[v, .int .i32 r, .int .u8 q, .bool true, .bool gr] w fun e w' => ∃ v', e = .returned v' ∧ Buf 5 B v' (l ++ elemL q (stayB true gr r) r) W0 w' := by
  obtain ⟨i0, hi, hz0, hz1, hz2⟩ := info_parts byte_info
  have hr := isCP_bounds hcp
  have hr0 : 0 ≤ r := hr.1
  have hr1 : r ≤ 1114111 := hr.2.1
  have hwq : IntKind.i32.wrap q = q := by rcases hq with rfl | rfl <;> rfl
  have hE : elemL q (stayB true gr r) r = [byteZ r] := by simp only [elemL, if_neg hn, stayB, hp, encL, if_pos h1]; simp [h1]
  rw [hE]
  have hbz : ((byteZ r).toNat : Int) = r := byteZ_toNat (by omega) (by omega)
  have HB := Lib.hid hbz
  have cP := Lib.hid (isPrint_any r w (by omega) (by omega) hT)
  rw [hp] at cP
  have hbq : ∀ k, Lib.OwnBuf B 5 v l.length (bcells l) W0 (w.drewN k) := Lib.OwnBuf.drewN hb
  unfold Buf at hb
  have hw8 : IntKind.u8.wrap r = r := by simp [IntKind.wrap, IntKind.bits, IntKind.signed]; omega
  have n1 : (r == q) = false := by simp; omega
  have n2 : (r == 92) = false := by simp; omega
  clear hT hG hE hcp hp hn hr hbz hq hb
  go_enter Tryd.func85, Tryd.ntmps85
  go_big_wp2_with (first | (go_at_call 32; refine cP.out.mono ?_; rintro e w1 ⟨rfl, q1, rfl⟩; have hb1 := hbq q1) | (at_builtin; first
      | (refine Lib.wpList_append_byte rfl _ _ 39 rfl B 5 i0 Tryd.underlying39 hi hz0 hz1 hz2 _ _ _ rfl W0 _ _ (by assumption) rfl (by first | omega | (simp only [Lib.size_two]; omega)) ?_; intro _ _ hb)
      | (refine Lib.wpList_append_text rfl _ _ 39 9 rfl B 5 i0 Tryd.underlying39 Tryd.underlying9 hi hz0 hz1 hz2 _ _ _ rfl W0 (by assumption) _ rfl (by first | omega | (simp only [Lib.size_two]; omega)) ?_; intro _ _ hb)))
  go_ret
  refine ⟨_, rfl, ?_⟩
  show Lib.OwnBuf B 5 _ _ _ W0 _
  simpa [bcells, HB.out] using hb

set_option maxHeartbeats 4000000 in
set_option maxRecDepth 1000000 in
/-- all characters may stay, and this one does -/
theorem esc_rune (B : Nat) (v : Value) (l : List UInt8) (r q : Int) (gr : Bool) (W0 w : World) (hb : Buf 5 B v l W0 w) (hlen : l.length + 10 ≤ 140737488355328) (hT : PrintT w) (hG : GraphicT w) (hcp : isCP r = true) (hq : q = 34 ∨ q = 39) (hn : ¬ (r = q ∨ r = 92)) (hst : stayB false gr r = true) :
    Calls Tryd.prog 85 #[v, .int .i32 r, .int .u8 q, .bool false, .bool gr] w fun e w' => ∃ v', e = .returned v' ∧ Buf 5 B v' (l ++ elemL q (stayB false gr r) r) W0 w' := by
  obtain ⟨i0, hi, hz0, hz1, hz2⟩ := info_parts byte_info
  have hr := isCP_bounds hcp
  have hr0 : 0 ≤ r := hr.1
  have hr1 : r ≤ 1114111 := hr.2.1
  have hwq : IntKind.i32.wrap q = q := by rcases hq with rfl | rfl <;> rfl
  have hE : elemL q (stayB false gr r) r = encL r := by simp only [elemL, if_neg hn, hst, if_true]
  rw [hE]
  have hc := runeCells_eq r hcp
  have HC := Lib.hid hc
  obtain ⟨p, hp⟩ : ∃ p, printB r = p := ⟨_, rfl⟩
  have cP := Lib.hid (isPrint_any r w (by omega) (by omega) hT)
  rw [hp] at cP
  have cG := fun k => Lib.hid (isInGraphicList_any r (w.drewN k) (hG.below (below_drewN w k)))
  have hl : (encL r).length ≤ 4 := (encL_length r).2
  have cA0 : ∀ W : World, Buf 5 B v l W0 W → Calls Tryd.prog 75 #[v, .int .i32 r] W fun e w' => ∃ v', e = .returned v' ∧ Buf 5 B v' (l ++ encL r) W0 w' := fun W hW =>
    (Tryd.utf8_AppendRune_row B v l.length (bcells l) r (by omega) (by omega) W hW.1 (by omega) hW.2.2).mono fun e w' ⟨v', h1, h2, o, h3⟩ => ⟨v', h1, by
      have := (Lib.OwnBuf.alloc hW o).grown h2 h3
      rw [HC.out] at this
      simpa [Buf, bcells_append, bcells_length] using this⟩
  have cA := fun W h => Lib.hid (cA0 W h)
  clear cA0 hc
  have hbq : ∀ k, Buf 5 B v l W0 (w.drewN k) := fun k => hb.drewN k
  have n1 : (r == q) = false := by simp; omega
  have n2 : (r == 92) = false := by simp; omega
  have key : p = true ∨ (p = false ∧ gr = true ∧ inGraphic r = true) := by
    rw [← hp]; revert hst; unfold stayB; cases printB r <;> cases gr <;> simp
  clear hT hG hE hst hcp hp hn hr hq hb
  rcases key with rfl | ⟨rfl, rfl, hg⟩
  · go_enter Tryd.func85, Tryd.ntmps85
    go_big_wp2_with (first | (go_at_call 32; refine cP.out.mono ?_; rintro e w1 ⟨rfl, q1, rfl⟩) | (go_at_call 75; refine (cA _ (hbq q1)).out.mono ?_; rintro e w2 ⟨v2, rfl, hb2⟩))
    go_ret
    exact ⟨_, rfl, hb2⟩
  · rw [hg] at cG
    clear hg
    go_enter Tryd.func85, Tryd.ntmps85
    go_big_wp2_with (first | (go_at_call 32; refine cP.out.mono ?_; rintro e w1 ⟨rfl, q1, rfl⟩) | (go_at_call 55; refine (cG _).out.mono ?_; rintro e w1 ⟨rfl, q2, rfl⟩) | (go_at_call 75; refine (cA _ (hbq (q1 + q2))).out.mono ?_; rintro e w2 ⟨v2, rfl, hb2⟩))
    go_ret
    exact ⟨_, rfl, hb2⟩

theorem elemL_esc {q : Int} {st : Bool} {r : Int} (hn : ¬ (r = q ∨ r = 92)) (hst : st = false) : elemL q st r = escL r := by
  subst hst; simp only [elemL, if_neg hn]; rfl

set_option maxHeartbeats 4000000 in
set_option maxRecDepth 1000000 in
/-- the letter of 7 -/
theorem esc_7 (B : Nat) (v : Value) (l : List UInt8) (r q : Int) (asc gr : Bool) (W0 w : World) (hb : Buf 5 B v l W0 w) (hlen : l.length + 10 ≤ 140737488355328) (hT : PrintT w) (hG : GraphicT w) (hcp : isCP r = true) (hq : q = 34 ∨ q = 39) (hx : r = 7) (hst : stayB asc gr r = false) :
    Calls Tryd.prog 85 #[v, .int .i32 r, .int .u8 q, .bool asc, .bool gr] w fun e w' => ∃ v', e = .returned v' ∧ Buf 5 B v' (l ++ elemL q (stayB asc gr r) r) W0 w' := by
  obtain ⟨i0, hi, hz0, hz1, hz2⟩ := info_parts byte_info
  have hr := isCP_bounds hcp
  have hr0 : 0 ≤ r := hr.1
  have hr1 : r ≤ 1114111 := hr.2.1
  have hwq : IntKind.i32.wrap q = q := by rcases hq with rfl | rfl <;> rfl
  obtain ⟨p, hp⟩ : ∃ p, printB r = p := ⟨_, rfl⟩
  obtain ⟨g, hg⟩ : ∃ g, inGraphic r = g := ⟨_, rfl⟩
  have cP := Lib.hid (isPrint_any r w (by omega) (by omega) hT)
  rw [hp] at cP
  have cG := fun k => Lib.hid (isInGraphicList_any r (w.drewN k) (hG.below (below_drewN w k)))
  rw [hg] at cG
  have cV := fun W : World => Lib.hid (show Calls Tryd.prog 86 #[.int .i32 r] W fun e w' => e = .returned (.bool true) ∧ W = w' from (validRune_any r W).mono fun e w' ⟨h1, h2⟩ => ⟨by rw [h1, valid_of hcp], h2⟩)
  have hbq : ∀ k, Lib.OwnBuf B 5 v l.length (bcells l) W0 (w.drewN k) := Lib.OwnBuf.drewN hb
  unfold Buf at hb
  have key : (asc = true ∧ r < 128 ∧ p = false) ∨ (asc = true ∧ ¬ r < 128) ∨ (asc = false ∧ p = false ∧ gr = false) ∨ (asc = false ∧ p = false ∧ gr = true ∧ g = false) := by
    rw [← hp, ← hg]; exact stayB_false hst
  have HST := Lib.hid hst
  have HP := Lib.hid hp
  clear hT hG hp hg hst hcp
  have hE := Lib.hid (show elemL q (stayB asc gr r) r = [92, 97] by rw [elemL_esc (by omega) HST.out, hx]; rfl)
  subst hx
  have n1 : ((7 : Int) == q) = false := by simp; omega
  clear hr hr0 hr1 HP HST
  rcases key with ⟨rfl, h1, rfl⟩ | ⟨rfl, h1⟩ | ⟨rfl, rfl, rfl⟩ | ⟨rfl, rfl, rfl, rfl⟩
  all_goals first
  | omega
  | (go_enter Tryd.func85, Tryd.ntmps85
     go_big_wp2_with (first | (go_at_call 32; refine cP.out.mono ?_; rintro e w1 ⟨rfl, q1, rfl⟩; have hb1 := hbq q1) | (go_at_call 55; refine (cG _).out.mono ?_; rintro e w1 ⟨rfl, q2, rfl⟩; have hb2 := hbq (q1 + q2)) | (go_at_call 86; refine (cV _).out.mono ?_; rintro e w2 ⟨rfl, rfl⟩) | (at_builtin; first
       | (refine Lib.wpList_append_byte rfl _ _ 39 rfl B 5 i0 Tryd.underlying39 hi hz0 hz1 hz2 _ _ _ rfl W0 _ _ (by assumption) rfl (by first | omega | (simp only [Lib.size_two]; omega)) ?_; intro _ _ hb)
       | (refine Lib.wpList_append_text rfl _ _ 39 9 rfl B 5 i0 Tryd.underlying39 Tryd.underlying9 hi hz0 hz1 hz2 _ _ _ rfl W0 (by assumption) _ rfl (by first | omega | (simp only [Lib.size_two]; omega)) ?_; intro _ _ hb)))
     go_ret
     refine ⟨_, rfl, ?_⟩
     show Lib.OwnBuf B 5 _ _ _ W0 _
     rw [hE.out]
     simpa [bcells, Lib.strCells, ByteArray.size] using hb)

set_option maxHeartbeats 4000000 in
set_option maxRecDepth 1000000 in
/-- the letter of 8 -/
theorem esc_8 (B : Nat) (v : Value) (l : List UInt8) (r q : Int) (asc gr : Bool) (W0 w : World) (hb : Buf 5 B v l W0 w) (hlen : l.length + 10 ≤ 140737488355328) (hT : PrintT w) (hG : GraphicT w) (hcp : isCP r = true) (hq : q = 34 ∨ q = 39) (hx : r = 8) (hst : stayB asc gr r = false) :
    Calls Tryd.prog 85 #[v, .int .i32 r, .int .u8 q, .bool asc, .bool gr] w fun e w' => ∃ v', e = .returned v' ∧ Buf 5 B v' (l ++ elemL q (stayB asc gr r) r) W0 w' := by
  obtain ⟨i0, hi, hz0, hz1, hz2⟩ := info_parts byte_info
  have hr := isCP_bounds hcp
  have hr0 : 0 ≤ r := hr.1
  have hr1 : r ≤ 1114111 := hr.2.1
  have hwq : IntKind.i32.wrap q = q := by rcases hq with rfl | rfl <;> rfl
  obtain ⟨p, hp⟩ : ∃ p, printB r = p := ⟨_, rfl⟩
  obtain ⟨g, hg⟩ : ∃ g, inGraphic r = g := ⟨_, rfl⟩
  have cP := Lib.hid (isPrint_any r w (by omega) (by omega) hT)
  rw [hp] at cP
  have cG := fun k => Lib.hid (isInGraphicList_any r (w.drewN k) (hG.below (below_drewN w k)))
  rw [hg] at cG
  have cV := fun W : World => Lib.hid (show Calls Tryd.prog 86 #[.int .i32 r] W fun e w' => e = .returned (.bool true) ∧ W = w' from (validRune_any r W).mono fun e w' ⟨h1, h2⟩ => ⟨by rw [h1, valid_of hcp], h2⟩)
  have hbq : ∀ k, Lib.OwnBuf B 5 v l.length (bcells l) W0 (w.drewN k) := Lib.OwnBuf.drewN hb
  unfold Buf at hb
  have key : (asc = true ∧ r < 128 ∧ p = false) ∨ (asc = true ∧ ¬ r < 128) ∨ (asc = false ∧ p = false ∧ gr = false) ∨ (asc = false ∧ p = false ∧ gr = true ∧ g = false) := by
    rw [← hp, ← hg]; exact stayB_false hst
  have HST := Lib.hid hst
  have HP := Lib.hid hp
  clear hT hG hp hg hst hcp
  have hE := Lib.hid (show elemL q (stayB asc gr r) r = [92, 98] by rw [elemL_esc (by omega) HST.out, hx]; rfl)
  subst hx
  have n1 : ((8 : Int) == q) = false := by simp; omega
  clear hr hr0 hr1 HP HST
  rcases key with ⟨rfl, h1, rfl⟩ | ⟨rfl, h1⟩ | ⟨rfl, rfl, rfl⟩ | ⟨rfl, rfl, rfl, rfl⟩
  all_goals first
  | omega
  | (go_enter Tryd.func85, Tryd.ntmps85
     go_big_wp2_with (first | (go_at_call 32; refine cP.out.mono ?_; rintro e w1 ⟨rfl, q1, rfl⟩; have hb1 := hbq q1) | (go_at_call 55; refine (cG _).out.mono ?_; rintro e w1 ⟨rfl, q2, rfl⟩; have hb2 := hbq (q1 + q2)) | (go_at_call 86; refine (cV _).out.mono ?_; rintro e w2 ⟨rfl, rfl⟩) | (at_builtin; first
       | (refine Lib.wpList_append_byte rfl _ _ 39 rfl B 5 i0 Tryd.underlying39 hi hz0 hz1 hz2 _ _ _ rfl W0 _ _ (by assumption) rfl (by first | omega | (simp only [Lib.size_two]; omega)) ?_; intro _ _ hb)
       | (refine Lib.wpList_append_text rfl _ _ 39 9 rfl B 5 i0 Tryd.underlying39 Tryd.underlying9 hi hz0 hz1 hz2 _ _ _ rfl W0 (by assumption) _ rfl (by first | omega | (simp only [Lib.size_two]; omega)) ?_; intro _ _ hb)))
     go_ret
     refine ⟨_, rfl, ?_⟩
     show Lib.OwnBuf B 5 _ _ _ W0 _
     rw [hE.out]
     simpa [bcells, Lib.strCells, ByteArray.size] using hb)

set_option maxHeartbeats 4000000 in
set_option maxRecDepth 1000000 in
/-- the letter of 12 -/
theorem esc_12 (B : Nat) (v : Value) (l : List UInt8) (r q : Int) (asc gr : Bool) (W0 w : World) (hb : Buf 5 B v l W0 w) (hlen : l.length + 10 ≤ 140737488355328) (hT : PrintT w) (hG : GraphicT w) (hcp : isCP r = true) (hq : q = 34 ∨ q = 39) (hx : r = 12) (hst : stayB asc gr r = false) :
    Calls Tryd.prog 85 #[v, .int .i32 r, .int .u8 q, .bool asc, .bool gr] w fun e w' => ∃ v', e = .returned v' ∧ Buf 5 B v' (l ++ elemL q (stayB asc gr r) r) W0 w' := by
  obtain ⟨i0, hi, hz0, hz1, hz2⟩ := info_parts byte_info
  have hr := isCP_bounds hcp
  have hr0 : 0 ≤ r := hr.1
  have hr1 : r ≤ 1114111 := hr.2.1
  have hwq : IntKind.i32.wrap q = q := by rcases hq with rfl | rfl <;> rfl
  obtain ⟨p, hp⟩ : ∃ p, printB r = p := ⟨_, rfl⟩
  obtain ⟨g, hg⟩ : ∃ g, inGraphic r = g := ⟨_, rfl⟩
  have cP := Lib.hid (isPrint_any r w (by omega) (by omega) hT)
  rw [hp] at cP
  have cG := fun k => Lib.hid (isInGraphicList_any r (w.drewN k) (hG.below (below_drewN w k)))
  rw [hg] at cG
  have cV := fun W : World => Lib.hid (show Calls Tryd.prog 86 #[.int .i32 r] W fun e w' => e = .returned (.bool true) ∧ W = w' from (validRune_any r W).mono fun e w' ⟨h1, h2⟩ => ⟨by rw [h1, valid_of hcp], h2⟩)
  have hbq : ∀ k, Lib.OwnBuf B 5 v l.length (bcells l) W0 (w.drewN k) := Lib.OwnBuf.drewN hb
  unfold Buf at hb
  have key : (asc = true ∧ r < 128 ∧ p = false) ∨ (asc = true ∧ ¬ r < 128) ∨ (asc = false ∧ p = false ∧ gr = false) ∨ (asc = false ∧ p = false ∧ gr = true ∧ g = false) := by
    rw [← hp, ← hg]; exact stayB_false hst
  have HST := Lib.hid hst
  have HP := Lib.hid hp
  clear hT hG hp hg hst hcp
  have hE := Lib.hid (show elemL q (stayB asc gr r) r = [92, 102] by rw [elemL_esc (by omega) HST.out, hx]; rfl)
  subst hx
  have n1 : ((12 : Int) == q) = false := by simp; omega
  clear hr hr0 hr1 HP HST
  rcases key with ⟨rfl, h1, rfl⟩ | ⟨rfl, h1⟩ | ⟨rfl, rfl, rfl⟩ | ⟨rfl, rfl, rfl, rfl⟩
  all_goals first
  | omega
  | (go_enter Tryd.func85, Tryd.ntmps85
     go_big_wp2_with (first | (go_at_call 32; refine cP.out.mono ?_; rintro e w1 ⟨rfl, q1, rfl⟩; have hb1 := hbq q1) | (go_at_call 55; refine (cG _).out.mono ?_; rintro e w1 ⟨rfl, q2, rfl⟩; have hb2 := hbq (q1 + q2)) | (go_at_call 86; refine (cV _).out.mono ?_; rintro e w2 ⟨rfl, rfl⟩) | (at_builtin; first
       | (refine Lib.wpList_append_byte rfl _ _ 39 rfl B 5 i0 Tryd.underlying39 hi hz0 hz1 hz2 _ _ _ rfl W0 _ _ (by assumption) rfl (by first | omega | (simp only [Lib.size_two]; omega)) ?_; intro _ _ hb)
       | (refine Lib.wpList_append_text rfl _ _ 39 9 rfl B 5 i0 Tryd.underlying39 Tryd.underlying9 hi hz0 hz1 hz2 _ _ _ rfl W0 (by assumption) _ rfl (by first | omega | (simp only [Lib.size_two]; omega)) ?_; intro _ _ hb)))
     go_ret
     refine ⟨_, rfl, ?_⟩
     show Lib.OwnBuf B 5 _ _ _ W0 _
     rw [hE.out]
     simpa [bcells, Lib.strCells, ByteArray.size] using hb)

set_option maxHeartbeats 4000000 in
set_option maxRecDepth 1000000 in
/-- the letter of 10 -/
theorem esc_10 (B : Nat) (v : Value) (l : List UInt8) (r q : Int) (asc gr : Bool) (W0 w : World) (hb : Buf 5 B v l W0 w) (hlen : l.length + 10 ≤ 140737488355328) (hT : PrintT w) (hG : GraphicT w) (hcp : isCP r = true) (hq : q = 34 ∨ q = 39) (hx : r = 10) (hst : stayB asc gr r = false) :
    Calls Tryd.prog 85 #[v, .int .i32 r, .int .u8 q, .bool asc, .bool gr] w fun e w' => ∃ v', e = .returned v' ∧ Buf 5 B v' (l ++ elemL q (stayB asc gr r) r) W0 w' := by
  obtain ⟨i0, hi, hz0, hz1, hz2⟩ := info_parts byte_info
  have hr := isCP_bounds hcp
  have hr0 : 0 ≤ r := hr.1
  have hr1 : r ≤ 1114111 := hr.2.1
  have hwq : IntKind.i32.wrap q = q := by rcases hq with rfl | rfl <;> rfl
  obtain ⟨p, hp⟩ : ∃ p, printB r = p := ⟨_, rfl⟩
  obtain ⟨g, hg⟩ : ∃ g, inGraphic r = g := ⟨_, rfl⟩
  have cP := Lib.hid (isPrint_any r w (by omega) (by omega) hT)
  rw [hp] at cP
  have cG := fun k => Lib.hid (isInGraphicList_any r (w.drewN k) (hG.below (below_drewN w k)))
  rw [hg] at cG
  have cV := fun W : World => Lib.hid (show Calls Tryd.prog 86 #[.int .i32 r] W fun e w' => e = .returned (.bool true) ∧ W = w' from (validRune_any r W).mono fun e w' ⟨h1, h2⟩ => ⟨by rw [h1, valid_of hcp], h2⟩)
  have hbq : ∀ k, Lib.OwnBuf B 5 v l.length (bcells l) W0 (w.drewN k) := Lib.OwnBuf.drewN hb
  unfold Buf at hb
  have key : (asc = true ∧ r < 128 ∧ p = false) ∨ (asc = true ∧ ¬ r < 128) ∨ (asc = false ∧ p = false ∧ gr = false) ∨ (asc = false ∧ p = false ∧ gr = true ∧ g = false) := by
    rw [← hp, ← hg]; exact stayB_false hst
  have HST := Lib.hid hst
  have HP := Lib.hid hp
  clear hT hG hp hg hst hcp
  have hE := Lib.hid (show elemL q (stayB asc gr r) r = [92, 110] by rw [elemL_esc (by omega) HST.out, hx]; rfl)
  subst hx
  have n1 : ((10 : Int) == q) = false := by simp; omega
  clear hr hr0 hr1 HP HST
  rcases key with ⟨rfl, h1, rfl⟩ | ⟨rfl, h1⟩ | ⟨rfl, rfl, rfl⟩ | ⟨rfl, rfl, rfl, rfl⟩
  all_goals first
  | omega
  | (go_enter Tryd.func85, Tryd.ntmps85
     go_big_wp2_with (first | (go_at_call 32; refine cP.out.mono ?_; rintro e w1 ⟨rfl, q1, rfl⟩; have hb1 := hbq q1) | (go_at_call 55; refine (cG _).out.mono ?_; rintro e w1 ⟨rfl, q2, rfl⟩; have hb2 := hbq (q1 + q2)) | (go_at_call 86; refine (cV _).out.mono ?_; rintro e w2 ⟨rfl, rfl⟩) | (at_builtin; first
       | (refine Lib.wpList_append_byte rfl _ _ 39 rfl B 5 i0 Tryd.underlying39 hi hz0 hz1 hz2 _ _ _ rfl W0 _ _ (by assumption) rfl (by first | omega | (simp only [Lib.size_two]; omega)) ?_; intro _ _ hb)
       | (refine Lib.wpList_append_text rfl _ _ 39 9 rfl B 5 i0 Tryd.underlying39 Tryd.underlying9 hi hz0 hz1 hz2 _ _ _ rfl W0 (by assumption) _ rfl (by first | omega | (simp only [Lib.size_two]; omega)) ?_; intro _ _ hb)))
     go_ret
     refine ⟨_, rfl, ?_⟩
     show Lib.OwnBuf B 5 _ _ _ W0 _
     rw [hE.out]
     simpa [bcells, Lib.strCells, ByteArray.size] using hb)

set_option maxHeartbeats 4000000 in
set_option maxRecDepth 1000000 in
/-- the letter of 13 -/
theorem esc_13 (B : Nat) (v : Value) (l : List UInt8) (r q : Int) (asc gr : Bool) (W0 w : World) (hb : Buf 5 B v l W0 w) (hlen : l.length + 10 ≤ 140737488355328) (hT : PrintT w) (hG : GraphicT w) (hcp : isCP r = true) (hq : q = 34 ∨ q = 39) (hx : r = 13) (hst : stayB asc gr r = false) :
    Calls Tryd.prog 85 #[v, .int .i32 r, .int .u8 q, .bool asc, .bool gr] w fun e w' => ∃ v', e = .returned v' ∧ Buf 5 B v' (l ++ elemL q (stayB asc gr r) r) W0 w' := by
  obtain ⟨i0, hi, hz0, hz1, hz2⟩ := info_parts byte_info
  have hr := isCP_bounds hcp
  have hr0 : 0 ≤ r := hr.1
  have hr1 : r ≤ 1114111 := hr.2.1
  have hwq : IntKind.i32.wrap q = q := by rcases hq with rfl | rfl <;> rfl
  obtain ⟨p, hp⟩ : ∃ p, printB r = p := ⟨_, rfl⟩
  obtain ⟨g, hg⟩ : ∃ g, inGraphic r = g := ⟨_, rfl⟩
  have cP := Lib.hid (isPrint_any r w (by omega) (by omega) hT)
  rw [hp] at cP
  have cG := fun k => Lib.hid (isInGraphicList_any r (w.drewN k) (hG.below (below_drewN w k)))
  rw [hg] at cG
  have cV := fun W : World => Lib.hid (show Calls Tryd.prog 86 #[.int .i32 r] W fun e w' => e = .returned (.bool true) ∧ W = w' from (validRune_any r W).mono fun e w' ⟨h1, h2⟩ => ⟨by rw [h1, valid_of hcp], h2⟩)
  have hbq : ∀ k, Lib.OwnBuf B 5 v l.length (bcells l) W0 (w.drewN k) := Lib.OwnBuf.drewN hb
  unfold Buf at hb
  have key : (asc = true ∧ r < 128 ∧ p = false) ∨ (asc = true ∧ ¬ r < 128) ∨ (asc = false ∧ p = false ∧ gr = false) ∨ (asc = false ∧ p = false ∧ gr = true ∧ g = false) := by
    rw [← hp, ← hg]; exact stayB_false hst
  have HST := Lib.hid hst
  have HP := Lib.hid hp
  clear hT hG hp hg hst hcp
  have hE := Lib.hid (show elemL q (stayB asc gr r) r = [92, 114] by rw [elemL_esc (by omega) HST.out, hx]; rfl)
  subst hx
  have n1 : ((13 : Int) == q) = false := by simp; omega
  clear hr hr0 hr1 HP HST
  rcases key with ⟨rfl, h1, rfl⟩ | ⟨rfl, h1⟩ | ⟨rfl, rfl, rfl⟩ | ⟨rfl, rfl, rfl, rfl⟩
  all_goals first
  | omega
  | (go_enter Tryd.func85, Tryd.ntmps85
     go_big_wp2_with (first | (go_at_call 32; refine cP.out.mono ?_; rintro e w1 ⟨rfl, q1, rfl⟩; have hb1 := hbq q1) | (go_at_call 55; refine (cG _).out.mono ?_; rintro e w1 ⟨rfl, q2, rfl⟩; have hb2 := hbq (q1 + q2)) | (go_at_call 86; refine (cV _).out.mono ?_; rintro e w2 ⟨rfl, rfl⟩) | (at_builtin; first
       | (refine Lib.wpList_append_byte rfl _ _ 39 rfl B 5 i0 Tryd.underlying39 hi hz0 hz1 hz2 _ _ _ rfl W0 _ _ (by assumption) rfl (by first | omega | (simp only [Lib.size_two]; omega)) ?_; intro _ _ hb)
       | (refine Lib.wpList_append_text rfl _ _ 39 9 rfl B 5 i0 Tryd.underlying39 Tryd.underlying9 hi hz0 hz1 hz2 _ _ _ rfl W0 (by assumption) _ rfl (by first | omega | (simp only [Lib.size_two]; omega)) ?_; intro _ _ hb)))
     go_ret
     refine ⟨_, rfl, ?_⟩
     show Lib.OwnBuf B 5 _ _ _ W0 _
     rw [hE.out]
     simpa [bcells, Lib.strCells, ByteArray.size] using hb)

set_option maxHeartbeats 4000000 in
set_option maxRecDepth 1000000 in
/-- the letter of 9 -/
theorem esc_9 (B : Nat) (v : Value) (l : List UInt8) (r q : Int) (asc gr : Bool) (W0 w : World) (hb : Buf 5 B v l W0 w) (hlen : l.length + 10 ≤ 140737488355328) (hT : PrintT w) (hG : GraphicT w) (hcp : isCP r = true) (hq : q = 34 ∨ q = 39) (hx : r = 9) (hst : stayB asc gr r = false) :
    Calls Tryd.prog 85 #[v, .int .i32 r, .int .u8 q, .bool asc, .bool gr] w fun e w' => ∃ v', e = .returned v' ∧ Buf 5 B v' (l ++ elemL q (stayB asc gr r) r) W0 w' := by
  obtain ⟨i0, hi, hz0, hz1, hz2⟩ := info_parts byte_info
  have hr := isCP_bounds hcp
  have hr0 : 0 ≤ r := hr.1
  have hr1 : r ≤ 1114111 := hr.2.1
  have hwq : IntKind.i32.wrap q = q := by rcases hq with rfl | rfl <;> rfl
  obtain ⟨p, hp⟩ : ∃ p, printB r = p := ⟨_, rfl⟩
  obtain ⟨g, hg⟩ : ∃ g, inGraphic r = g := ⟨_, rfl⟩
  have cP := Lib.hid (isPrint_any r w (by omega) (by omega) hT)
  rw [hp] at cP
  have cG := fun k => Lib.hid (isInGraphicList_any r (w.drewN k) (hG.below (below_drewN w k)))
  rw [hg] at cG
  have cV := fun W : World => Lib.hid (show Calls Tryd.prog 86 #[.int .i32 r] W fun e w' => e = .returned (.bool true) ∧ W = w' from (validRune_any r W).mono fun e w' ⟨h1, h2⟩ => ⟨by rw [h1, valid_of hcp], h2⟩)
  have hbq : ∀ k, Lib.OwnBuf B 5 v l.length (bcells l) W0 (w.drewN k) := Lib.OwnBuf.drewN hb
  unfold Buf at hb
  have key : (asc = true ∧ r < 128 ∧ p = false) ∨ (asc = true ∧ ¬ r < 128) ∨ (asc = false ∧ p = false ∧ gr = false) ∨ (asc = false ∧ p = false ∧ gr = true ∧ g = false) := by
    rw [← hp, ← hg]; exact stayB_false hst
  have HST := Lib.hid hst
  have HP := Lib.hid hp
  clear hT hG hp hg hst hcp
  have hE := Lib.hid (show elemL q (stayB asc gr r) r = [92, 116] by rw [elemL_esc (by omega) HST.out, hx]; rfl)
  subst hx
  have n1 : ((9 : Int) == q) = false := by simp; omega
  clear hr hr0 hr1 HP HST
  rcases key with ⟨rfl, h1, rfl⟩ | ⟨rfl, h1⟩ | ⟨rfl, rfl, rfl⟩ | ⟨rfl, rfl, rfl, rfl⟩
  all_goals first
  | omega
  | (go_enter Tryd.func85, Tryd.ntmps85
     go_big_wp2_with (first | (go_at_call 32; refine cP.out.mono ?_; rintro e w1 ⟨rfl, q1, rfl⟩; have hb1 := hbq q1) | (go_at_call 55; refine (cG _).out.mono ?_; rintro e w1 ⟨rfl, q2, rfl⟩; have hb2 := hbq (q1 + q2)) | (go_at_call 86; refine (cV _).out.mono ?_; rintro e w2 ⟨rfl, rfl⟩) | (at_builtin; first
       | (refine Lib.wpList_append_byte rfl _ _ 39 rfl B 5 i0 Tryd.underlying39 hi hz0 hz1 hz2 _ _ _ rfl W0 _ _ (by assumption) rfl (by first | omega | (simp only [Lib.size_two]; omega)) ?_; intro _ _ hb)
       | (refine Lib.wpList_append_text rfl _ _ 39 9 rfl B 5 i0 Tryd.underlying39 Tryd.underlying9 hi hz0 hz1 hz2 _ _ _ rfl W0 (by assumption) _ rfl (by first | omega | (simp only [Lib.size_two]; omega)) ?_; intro _ _ hb)))
     go_ret
     refine ⟨_, rfl, ?_⟩
     show Lib.OwnBuf B 5 _ _ _ W0 _
     rw [hE.out]
     simpa [bcells, Lib.strCells, ByteArray.size] using hb)

set_option maxHeartbeats 4000000 in
set_option maxRecDepth 1000000 in
/-- the letter of 11 -/
theorem esc_11 (B : Nat) (v : Value) (l : List UInt8) (r q : Int) (asc gr : Bool) (W0 w : World) (hb : Buf 5 B v l W0 w) (hlen : l.length + 10 ≤ 140737488355328) (hT : PrintT w) (hG : GraphicT w) (hcp : isCP r = true) (hq : q = 34 ∨ q = 39) (hx : r = 11) (hst : stayB asc gr r = false) :
    Calls Tryd.prog 85 #[v, .int .i32 r, .int .u8 q, .bool asc, .bool gr] w fun e w' => ∃ v', e = .returned v' ∧ Buf 5 B v' (l ++ elemL q (stayB asc gr r) r) W0 w' := by
  obtain ⟨i0, hi, hz0, hz1, hz2⟩ := info_parts byte_info
  have hr := isCP_bounds hcp
  have hr0 : 0 ≤ r := hr.1
  have hr1 : r ≤ 1114111 := hr.2.1
  have hwq : IntKind.i32.wrap q = q := by rcases hq with rfl | rfl <;> rfl
  obtain ⟨p, hp⟩ : ∃ p, printB r = p := ⟨_, rfl⟩
  obtain ⟨g, hg⟩ : ∃ g, inGraphic r = g := ⟨_, rfl⟩
  have cP := Lib.hid (isPrint_any r w (by omega) (by omega) hT)
  rw [hp] at cP
  have cG := fun k => Lib.hid (isInGraphicList_any r (w.drewN k) (hG.below (below_drewN w k)))
  rw [hg] at cG
  have cV := fun W : World => Lib.hid (show Calls Tryd.prog 86 #[.int .i32 r] W fun e w' => e = .returned (.bool true) ∧ W = w' from (validRune_any r W).mono fun e w' ⟨h1, h2⟩ => ⟨by rw [h1, valid_of hcp], h2⟩)
  have hbq : ∀ k, Lib.OwnBuf B 5 v l.length (bcells l) W0 (w.drewN k) := Lib.OwnBuf.drewN hb
  unfold Buf at hb
  have key : (asc = true ∧ r < 128 ∧ p = false) ∨ (asc = true ∧ ¬ r < 128) ∨ (asc = false ∧ p = false ∧ gr = false) ∨ (asc = false ∧ p = false ∧ gr = true ∧ g = false) := by
    rw [← hp, ← hg]; exact stayB_false hst
  have HST := Lib.hid hst
  have HP := Lib.hid hp
  clear hT hG hp hg hst hcp
  have hE := Lib.hid (show elemL q (stayB asc gr r) r = [92, 118] by rw [elemL_esc (by omega) HST.out, hx]; rfl)
  subst hx
  have n1 : ((11 : Int) == q) = false := by simp; omega
  clear hr hr0 hr1 HP HST
  rcases key with ⟨rfl, h1, rfl⟩ | ⟨rfl, h1⟩ | ⟨rfl, rfl, rfl⟩ | ⟨rfl, rfl, rfl, rfl⟩
  all_goals first
  | omega
  | (go_enter Tryd.func85, Tryd.ntmps85
     go_big_wp2_with (first | (go_at_call 32; refine cP.out.mono ?_; rintro e w1 ⟨rfl, q1, rfl⟩; have hb1 := hbq q1) | (go_at_call 55; refine (cG _).out.mono ?_; rintro e w1 ⟨rfl, q2, rfl⟩; have hb2 := hbq (q1 + q2)) | (go_at_call 86; refine (cV _).out.mono ?_; rintro e w2 ⟨rfl, rfl⟩) | (at_builtin; first
       | (refine Lib.wpList_append_byte rfl _ _ 39 rfl B 5 i0 Tryd.underlying39 hi hz0 hz1 hz2 _ _ _ rfl W0 _ _ (by assumption) rfl (by first | omega | (simp only [Lib.size_two]; omega)) ?_; intro _ _ hb)
       | (refine Lib.wpList_append_text rfl _ _ 39 9 rfl B 5 i0 Tryd.underlying39 Tryd.underlying9 hi hz0 hz1 hz2 _ _ _ rfl W0 (by assumption) _ rfl (by first | omega | (simp only [Lib.size_two]; omega)) ?_; intro _ _ hb)))
     go_ret
     refine ⟨_, rfl, ?_⟩
     show Lib.OwnBuf B 5 _ _ _ W0 _
     rw [hE.out]
     simpa [bcells, Lib.strCells, ByteArray.size] using hb)

set_option maxHeartbeats 4000000 in
set_option maxRecDepth 1000000 in
/-- x and two digits -/
theorem esc_hex2 (B : Nat) (v : Value) (l : List UInt8) (r q : Int) (asc gr : Bool) (W0 w : World) (hb : Buf 5 B v l W0 w) (hlen : l.length + 10 ≤ 140737488355328) (hT : PrintT w) (hG : GraphicT w) (hcp : isCP r = true) (hq : q = 34 ∨ q = 39) (hx : r < 32 ∨ r = 127) (h7 : ¬ (r = 7 ∨ r = 8 ∨ r = 12 ∨ r = 10 ∨ r = 13 ∨ r = 9 ∨ r = 11)) (hst : stayB asc gr r = false) :
    Calls Tryd.prog 85 #[v, .int .i32 r, .int .u8 q, .bool asc, .bool gr] w fun e w' => ∃ v', e = .returned v' ∧ Buf 5 B v' (l ++ elemL q (stayB asc gr r) r) W0 w' := by
  obtain ⟨i0, hi, hz0, hz1, hz2⟩ := info_parts byte_info
  have hr := isCP_bounds hcp
  have hr0 : 0 ≤ r := hr.1
  have hr1 : r ≤ 1114111 := hr.2.1
  have hwq : IntKind.i32.wrap q = q := by rcases hq with rfl | rfl <;> rfl
  obtain ⟨p, hp⟩ : ∃ p, printB r = p := ⟨_, rfl⟩
  obtain ⟨g, hg⟩ : ∃ g, inGraphic r = g := ⟨_, rfl⟩
  have cP := Lib.hid (isPrint_any r w (by omega) (by omega) hT)
  rw [hp] at cP
  have cG := fun k => Lib.hid (isInGraphicList_any r (w.drewN k) (hG.below (below_drewN w k)))
  rw [hg] at cG
  have cV := fun W : World => Lib.hid (show Calls Tryd.prog 86 #[.int .i32 r] W fun e w' => e = .returned (.bool true) ∧ W = w' from (validRune_any r W).mono fun e w' ⟨h1, h2⟩ => ⟨by rw [h1, valid_of hcp], h2⟩)
  have hbq : ∀ k, Lib.OwnBuf B 5 v l.length (bcells l) W0 (w.drewN k) := Lib.OwnBuf.drewN hb
  unfold Buf at hb
  have key : (asc = true ∧ r < 128 ∧ p = false) ∨ (asc = true ∧ ¬ r < 128) ∨ (asc = false ∧ p = false ∧ gr = false) ∨ (asc = false ∧ p = false ∧ gr = true ∧ g = false) := by
    rw [← hp, ← hg]; exact stayB_false hst
  have HST := Lib.hid hst
  have HP := Lib.hid hp
  clear hT hG hp hg hst hcp
  obtain ⟨k, hk⟩ := Int.eq_ofNat_of_zero_le hr0
  have hk128 : k < 128 := by omega
  have hE := Lib.hid (show elemL q (stayB asc gr r) r = [92, 120, hexB (k / 16), hexB (k % 16)] by
    rw [elemL_esc (by omega) HST.out]
    unfold escL
    rw [if_neg (by omega), if_neg (by omega), if_neg (by omega), if_neg (by omega), if_neg (by omega), if_neg (by omega), if_neg (by omega), if_neg (by omega), if_pos hx, hk]
    simp only [hexL, Int.toNat_natCast, Nat.pow_zero, Nat.div_one, Nat.pow_one]
    rw [show k / 16 % 16 = k / 16 by omega])
  have hX1 := Lib.hid (hexB_toNat (x := k / 16) (by omega))
  have hX2 := Lib.hid (hexB_toNat (x := k % 16) (by omega))
  subst hk
  have hw8 : IntKind.u8.wrap (k : Int) = (k : Int) := by
    have e : (k : Int) % 256 = k := Int.emod_eq_of_lt (by omega) (by omega)
    simp [IntKind.wrap, IntKind.bits, IntKind.signed, e]
  have n1 : ((k : Int) == q) = false := by simp; omega
  have n2 : ((k : Int) == 92) = false := by simp; omega
  clear hr HP HST
  rcases key with ⟨rfl, h1, rfl⟩ | ⟨rfl, h1⟩ | ⟨rfl, rfl, rfl⟩ | ⟨rfl, rfl, rfl, rfl⟩
  all_goals first
  | omega
  | (go_enter Tryd.func85, Tryd.ntmps85
     go_big_wp2_with (first | (go_at_call 32; refine cP.out.mono ?_; rintro e w1 ⟨rfl, q1, rfl⟩; have hb1 := hbq q1) | (go_at_call 55; refine (cG _).out.mono ?_; rintro e w1 ⟨rfl, q2, rfl⟩; have hb2 := hbq (q1 + q2)) | (go_at_call 86; refine (cV _).out.mono ?_; rintro e w2 ⟨rfl, rfl⟩) | (at_builtin; first
       | (refine Lib.wpList_append_byte rfl _ _ 39 rfl B 5 i0 Tryd.underlying39 hi hz0 hz1 hz2 _ _ _ rfl W0 _ _ (by assumption) rfl (by first | omega | (simp only [Lib.size_two]; omega)) ?_; intro _ _ hb)
       | (refine Lib.wpList_append_text rfl _ _ 39 9 rfl B 5 i0 Tryd.underlying39 Tryd.underlying9 hi hz0 hz1 hz2 _ _ _ rfl W0 (by assumption) _ rfl (by first | omega | (simp only [Lib.size_two]; omega)) ?_; intro _ _ hb)))
     all_goals (
     go_ret
     refine ⟨_, rfl, ?_⟩
     show Lib.OwnBuf B 5 _ _ _ W0 _
     rw [hE.out]
     simpa [bcells, Lib.strCells, Lib.size_two, Lib.lowerhex_at, hX1.out, hX2.out] using hb))

set_option maxHeartbeats 4000000 in
set_option maxRecDepth 1000000 in
/-- u and four digits -/
theorem esc_u4 (B : Nat) (v : Value) (l : List UInt8) (r q : Int) (asc gr : Bool) (W0 w : World) (hb : Buf 5 B v l W0 w) (hlen : l.length + 10 ≤ 140737488355328) (hT : PrintT w) (hG : GraphicT w) (hcp : isCP r = true) (hq : q = 34 ∨ q = 39) (h80 : 128 ≤ r) (hlt : r < 65536) (hst : stayB asc gr r = false) :
    Calls Tryd.prog 85 #[v, .int .i32 r, .int .u8 q, .bool asc, .bool gr] w fun e w' => ∃ v', e = .returned v' ∧ Buf 5 B v' (l ++ elemL q (stayB asc gr r) r) W0 w' := by
  obtain ⟨i0, hi, hz0, hz1, hz2⟩ := info_parts byte_info
  have hr := isCP_bounds hcp
  have hr0 : 0 ≤ r := hr.1
  have hr1 : r ≤ 1114111 := hr.2.1
  have hwq : IntKind.i32.wrap q = q := by rcases hq with rfl | rfl <;> rfl
  obtain ⟨p, hp⟩ : ∃ p, printB r = p := ⟨_, rfl⟩
  obtain ⟨g, hg⟩ : ∃ g, inGraphic r = g := ⟨_, rfl⟩
  have cP := Lib.hid (isPrint_any r w (by omega) (by omega) hT)
  rw [hp] at cP
  have cG := fun k => Lib.hid (isInGraphicList_any r (w.drewN k) (hG.below (below_drewN w k)))
  rw [hg] at cG
  have cV := fun W : World => Lib.hid (show Calls Tryd.prog 86 #[.int .i32 r] W fun e w' => e = .returned (.bool true) ∧ W = w' from (validRune_any r W).mono fun e w' ⟨h1, h2⟩ => ⟨by rw [h1, valid_of hcp], h2⟩)
  have hbq : ∀ k, Lib.OwnBuf B 5 v l.length (bcells l) W0 (w.drewN k) := Lib.OwnBuf.drewN hb
  unfold Buf at hb
  have key : (asc = true ∧ r < 128 ∧ p = false) ∨ (asc = true ∧ ¬ r < 128) ∨ (asc = false ∧ p = false ∧ gr = false) ∨ (asc = false ∧ p = false ∧ gr = true ∧ g = false) := by
    rw [← hp, ← hg]; exact stayB_false hst
  have HST := Lib.hid hst
  have HP := Lib.hid hp
  clear hT hG hp hg hst hcp
  obtain ⟨k, hk⟩ := Int.eq_ofNat_of_zero_le hr0
  have hk31 : k < 2147483648 := by omega
  obtain ⟨d0, hd0⟩ : ∃ d, d = k / 4096 % 16 := ⟨_, rfl⟩
  have hD0 : bits .and .i32 (r / 4096) 15 = (d0 : Int) := by
    have e := Lib.and15_shift r k hk hk31 4096
    rw [hd0]; simpa using e
  have hL0 : d0 < 16 := by omega
  have hL0' : (d0 : Int) < 16 := by omega
  have hX0 := Lib.hid (hexB_toNat (x := d0) hL0)
  obtain ⟨d1, hd1⟩ : ∃ d, d = k / 256 % 16 := ⟨_, rfl⟩
  have hD1 : bits .and .i32 (r / 256) 15 = (d1 : Int) := by
    have e := Lib.and15_shift r k hk hk31 256
    rw [hd1]; simpa using e
  have hL1 : d1 < 16 := by omega
  have hL1' : (d1 : Int) < 16 := by omega
  have hX1 := Lib.hid (hexB_toNat (x := d1) hL1)
  obtain ⟨d2, hd2⟩ : ∃ d, d = k / 16 % 16 := ⟨_, rfl⟩
  have hD2 : bits .and .i32 (r / 16) 15 = (d2 : Int) := by
    have e := Lib.and15_shift r k hk hk31 16
    rw [hd2]; simpa using e
  have hL2 : d2 < 16 := by omega
  have hL2' : (d2 : Int) < 16 := by omega
  have hX2 := Lib.hid (hexB_toNat (x := d2) hL2)
  obtain ⟨d3, hd3⟩ : ∃ d, d = k / 1 % 16 := ⟨_, rfl⟩
  have hD3 : bits .and .i32 (r) 15 = (d3 : Int) := by
    have e := Lib.and15_shift r k hk hk31 1
    rw [hd3]; simpa using e
  have hL3 : d3 < 16 := by omega
  have hL3' : (d3 : Int) < 16 := by omega
  have hX3 := Lib.hid (hexB_toNat (x := d3) hL3)
  have hE := Lib.hid (show elemL q (stayB asc gr r) r = 92 :: 117 :: [hexB d0, hexB d1, hexB d2, hexB d3] by
    rw [elemL_esc (by omega) HST.out]
    unfold escL
    rw [if_neg (by omega), if_neg (by omega), if_neg (by omega), if_neg (by omega), if_neg (by omega), if_neg (by omega), if_neg (by omega), if_neg (by omega), if_neg (by omega), if_pos hlt, hk]
    simp only [hexL, Int.toNat_natCast, Nat.pow_zero, Nat.div_one, Nat.pow_one, hd0, hd1, hd2, hd3])
  have n1 : (r == q) = false := by simp; omega
  have n2 : (r == 92) = false := by simp; omega
  clear hr HP HST hk31 hk hd0 hd1 hd2 hd3
  rcases key with ⟨rfl, h1, rfl⟩ | ⟨rfl, h1⟩ | ⟨rfl, rfl, rfl⟩ | ⟨rfl, rfl, rfl, rfl⟩
  all_goals first
  | omega
  | (go_enter Tryd.func85, Tryd.ntmps85
     go_big_wp2_with (first | (go_at_call 32; refine cP.out.mono ?_; rintro e w1 ⟨rfl, q1, rfl⟩; have hb1 := hbq q1) | (go_at_call 55; refine (cG _).out.mono ?_; rintro e w1 ⟨rfl, q2, rfl⟩; have hb2 := hbq (q1 + q2)) | (go_at_call 86; refine (cV _).out.mono ?_; rintro e w2 ⟨rfl, rfl⟩) | (at_builtin; first
       | (refine Lib.wpList_append_byte rfl _ _ 39 rfl B 5 i0 Tryd.underlying39 hi hz0 hz1 hz2 _ _ _ rfl W0 _ _ (by assumption) rfl (by first | omega | (simp only [Lib.size_two]; omega)) ?_; intro _ _ hb)
       | (refine Lib.wpList_append_text rfl _ _ 39 9 rfl B 5 i0 Tryd.underlying39 Tryd.underlying9 hi hz0 hz1 hz2 _ _ _ rfl W0 (by assumption) _ rfl (by first | omega | (simp only [Lib.size_two]; omega)) ?_; intro _ _ hb)))
     refine wp_loop_rounds 5 ?_
     rw [rounds_succ]
     go_big_wp2_with (at_builtin; first
      | (refine Lib.wpList_append_byte rfl _ _ 39 rfl B 5 i0 Tryd.underlying39 hi hz0 hz1 hz2 _ _ _ rfl W0 _ _ (by assumption) rfl (by first | omega | (simp only [Lib.size_two]; omega)) ?_; intro _ _ hb)
      | (refine Lib.wpList_append_text rfl _ _ 39 9 rfl B 5 i0 Tryd.underlying39 Tryd.underlying9 hi hz0 hz1 hz2 _ _ _ rfl W0 (by assumption) _ rfl (by first | omega | (simp only [Lib.size_two]; omega)) ?_; intro _ _ hb))
     rw [rounds_succ]
     go_big_wp2_with (at_builtin; first
      | (refine Lib.wpList_append_byte rfl _ _ 39 rfl B 5 i0 Tryd.underlying39 hi hz0 hz1 hz2 _ _ _ rfl W0 _ _ (by assumption) rfl (by first | omega | (simp only [Lib.size_two]; omega)) ?_; intro _ _ hb)
      | (refine Lib.wpList_append_text rfl _ _ 39 9 rfl B 5 i0 Tryd.underlying39 Tryd.underlying9 hi hz0 hz1 hz2 _ _ _ rfl W0 (by assumption) _ rfl (by first | omega | (simp only [Lib.size_two]; omega)) ?_; intro _ _ hb))
     rw [rounds_succ]
     go_big_wp2_with (at_builtin; first
      | (refine Lib.wpList_append_byte rfl _ _ 39 rfl B 5 i0 Tryd.underlying39 hi hz0 hz1 hz2 _ _ _ rfl W0 _ _ (by assumption) rfl (by first | omega | (simp only [Lib.size_two]; omega)) ?_; intro _ _ hb)
      | (refine Lib.wpList_append_text rfl _ _ 39 9 rfl B 5 i0 Tryd.underlying39 Tryd.underlying9 hi hz0 hz1 hz2 _ _ _ rfl W0 (by assumption) _ rfl (by first | omega | (simp only [Lib.size_two]; omega)) ?_; intro _ _ hb))
     rw [rounds_succ]
     go_big_wp2_with (at_builtin; first
      | (refine Lib.wpList_append_byte rfl _ _ 39 rfl B 5 i0 Tryd.underlying39 hi hz0 hz1 hz2 _ _ _ rfl W0 _ _ (by assumption) rfl (by first | omega | (simp only [Lib.size_two]; omega)) ?_; intro _ _ hb)
      | (refine Lib.wpList_append_text rfl _ _ 39 9 rfl B 5 i0 Tryd.underlying39 Tryd.underlying9 hi hz0 hz1 hz2 _ _ _ rfl W0 (by assumption) _ rfl (by first | omega | (simp only [Lib.size_two]; omega)) ?_; intro _ _ hb))
     rw [rounds_succ]
     go_big_wp2_with (at_builtin; first
      | (refine Lib.wpList_append_byte rfl _ _ 39 rfl B 5 i0 Tryd.underlying39 hi hz0 hz1 hz2 _ _ _ rfl W0 _ _ (by assumption) rfl (by first | omega | (simp only [Lib.size_two]; omega)) ?_; intro _ _ hb)
      | (refine Lib.wpList_append_text rfl _ _ 39 9 rfl B 5 i0 Tryd.underlying39 Tryd.underlying9 hi hz0 hz1 hz2 _ _ _ rfl W0 (by assumption) _ rfl (by first | omega | (simp only [Lib.size_two]; omega)) ?_; intro _ _ hb))
     go_ret
     refine ⟨_, rfl, ?_⟩
     show Lib.OwnBuf B 5 _ _ _ W0 _
     rw [hE.out]
     simpa [bcells, Lib.strCells, Lib.size_two, Lib.lowerhex_at, hX0.out, hX1.out, hX2.out, hX3.out] using hb)

set_option maxHeartbeats 4000000 in
set_option maxRecDepth 1000000 in
/-- U and eight digits -/
theorem esc_u8 (B : Nat) (v : Value) (l : List UInt8) (r q : Int) (asc gr : Bool) (W0 w : World) (hb : Buf 5 B v l W0 w) (hlen : l.length + 10 ≤ 140737488355328) (hT : PrintT w) (hG : GraphicT w) (hcp : isCP r = true) (hq : q = 34 ∨ q = 39) (h80 : 65536 ≤ r) (hst : stayB asc gr r = false) :
    Calls Tryd.prog 85 #[v, .int .i32 r, .int .u8 q, .bool asc, .bool gr] w fun e w' => ∃ v', e = .returned v' ∧ Buf 5 B v' (l ++ elemL q (stayB asc gr r) r) W0 w' := by
  obtain ⟨i0, hi, hz0, hz1, hz2⟩ := info_parts byte_info
  have hr := isCP_bounds hcp
  have hr0 : 0 ≤ r := hr.1
  have hr1 : r ≤ 1114111 := hr.2.1
  have hwq : IntKind.i32.wrap q = q := by rcases hq with rfl | rfl <;> rfl
  obtain ⟨p, hp⟩ : ∃ p, printB r = p := ⟨_, rfl⟩
  obtain ⟨g, hg⟩ : ∃ g, inGraphic r = g := ⟨_, rfl⟩
  have cP := Lib.hid (isPrint_any r w (by omega) (by omega) hT)
  rw [hp] at cP
  have cG := fun k => Lib.hid (isInGraphicList_any r (w.drewN k) (hG.below (below_drewN w k)))
  rw [hg] at cG
  have cV := fun W : World => Lib.hid (show Calls Tryd.prog 86 #[.int .i32 r] W fun e w' => e = .returned (.bool true) ∧ W = w' from (validRune_any r W).mono fun e w' ⟨h1, h2⟩ => ⟨by rw [h1, valid_of hcp], h2⟩)
  have hbq : ∀ k, Lib.OwnBuf B 5 v l.length (bcells l) W0 (w.drewN k) := Lib.OwnBuf.drewN hb
  unfold Buf at hb
  have key : (asc = true ∧ r < 128 ∧ p = false) ∨ (asc = true ∧ ¬ r < 128) ∨ (asc = false ∧ p = false ∧ gr = false) ∨ (asc = false ∧ p = false ∧ gr = true ∧ g = false) := by
    rw [← hp, ← hg]; exact stayB_false hst
  have HST := Lib.hid hst
  have HP := Lib.hid hp
  clear hT hG hp hg hst hcp
  obtain ⟨k, hk⟩ := Int.eq_ofNat_of_zero_le hr0
  have hk31 : k < 2147483648 := by omega
  obtain ⟨d0, hd0⟩ : ∃ d, d = k / 268435456 % 16 := ⟨_, rfl⟩
  have hD0 : bits .and .i32 (r / 268435456) 15 = (d0 : Int) := by
    have e := Lib.and15_shift r k hk hk31 268435456
    rw [hd0]; simpa using e
  have hL0 : d0 < 16 := by omega
  have hL0' : (d0 : Int) < 16 := by omega
  have hX0 := Lib.hid (hexB_toNat (x := d0) hL0)
  obtain ⟨d1, hd1⟩ : ∃ d, d = k / 16777216 % 16 := ⟨_, rfl⟩
  have hD1 : bits .and .i32 (r / 16777216) 15 = (d1 : Int) := by
    have e := Lib.and15_shift r k hk hk31 16777216
    rw [hd1]; simpa using e
  have hL1 : d1 < 16 := by omega
  have hL1' : (d1 : Int) < 16 := by omega
  have hX1 := Lib.hid (hexB_toNat (x := d1) hL1)
  obtain ⟨d2, hd2⟩ : ∃ d, d = k / 1048576 % 16 := ⟨_, rfl⟩
  have hD2 : bits .and .i32 (r / 1048576) 15 = (d2 : Int) := by
    have e := Lib.and15_shift r k hk hk31 1048576
    rw [hd2]; simpa using e
  have hL2 : d2 < 16 := by omega
  have hL2' : (d2 : Int) < 16 := by omega
  have hX2 := Lib.hid (hexB_toNat (x := d2) hL2)
  obtain ⟨d3, hd3⟩ : ∃ d, d = k / 65536 % 16 := ⟨_, rfl⟩
  have hD3 : bits .and .i32 (r / 65536) 15 = (d3 : Int) := by
    have e := Lib.and15_shift r k hk hk31 65536
    rw [hd3]; simpa using e
  have hL3 : d3 < 16 := by omega
  have hL3' : (d3 : Int) < 16 := by omega
  have hX3 := Lib.hid (hexB_toNat (x := d3) hL3)
  obtain ⟨d4, hd4⟩ : ∃ d, d = k / 4096 % 16 := ⟨_, rfl⟩
  have hD4 : bits .and .i32 (r / 4096) 15 = (d4 : Int) := by
    have e := Lib.and15_shift r k hk hk31 4096
    rw [hd4]; simpa using e
  have hL4 : d4 < 16 := by omega
  have hL4' : (d4 : Int) < 16 := by omega
  have hX4 := Lib.hid (hexB_toNat (x := d4) hL4)
  obtain ⟨d5, hd5⟩ : ∃ d, d = k / 256 % 16 := ⟨_, rfl⟩
  have hD5 : bits .and .i32 (r / 256) 15 = (d5 : Int) := by
    have e := Lib.and15_shift r k hk hk31 256
    rw [hd5]; simpa using e
  have hL5 : d5 < 16 := by omega
  have hL5' : (d5 : Int) < 16 := by omega
  have hX5 := Lib.hid (hexB_toNat (x := d5) hL5)
  obtain ⟨d6, hd6⟩ : ∃ d, d = k / 16 % 16 := ⟨_, rfl⟩
  have hD6 : bits .and .i32 (r / 16) 15 = (d6 : Int) := by
    have e := Lib.and15_shift r k hk hk31 16
    rw [hd6]; simpa using e
  have hL6 : d6 < 16 := by omega
  have hL6' : (d6 : Int) < 16 := by omega
  have hX6 := Lib.hid (hexB_toNat (x := d6) hL6)
  obtain ⟨d7, hd7⟩ : ∃ d, d = k / 1 % 16 := ⟨_, rfl⟩
  have hD7 : bits .and .i32 (r) 15 = (d7 : Int) := by
    have e := Lib.and15_shift r k hk hk31 1
    rw [hd7]; simpa using e
  have hL7 : d7 < 16 := by omega
  have hL7' : (d7 : Int) < 16 := by omega
  have hX7 := Lib.hid (hexB_toNat (x := d7) hL7)
  have hE := Lib.hid (show elemL q (stayB asc gr r) r = 92 :: 85 :: [hexB d0, hexB d1, hexB d2, hexB d3, hexB d4, hexB d5, hexB d6, hexB d7] by
    rw [elemL_esc (by omega) HST.out]
    unfold escL
    rw [if_neg (by omega), if_neg (by omega), if_neg (by omega), if_neg (by omega), if_neg (by omega), if_neg (by omega), if_neg (by omega), if_neg (by omega), if_neg (by omega), if_neg (by omega), hk]
    simp only [hexL, Int.toNat_natCast, Nat.pow_zero, Nat.div_one, Nat.pow_one, hd0, hd1, hd2, hd3, hd4, hd5, hd6, hd7])
  have n1 : (r == q) = false := by simp; omega
  have n2 : (r == 92) = false := by simp; omega
  clear hr HP HST hk31 hk hd0 hd1 hd2 hd3 hd4 hd5 hd6 hd7
  rcases key with ⟨rfl, h1, rfl⟩ | ⟨rfl, h1⟩ | ⟨rfl, rfl, rfl⟩ | ⟨rfl, rfl, rfl, rfl⟩
  all_goals first
  | omega
  | (go_enter Tryd.func85, Tryd.ntmps85
     go_big_wp2_with (first | (go_at_call 32; refine cP.out.mono ?_; rintro e w1 ⟨rfl, q1, rfl⟩; have hb1 := hbq q1) | (go_at_call 55; refine (cG _).out.mono ?_; rintro e w1 ⟨rfl, q2, rfl⟩; have hb2 := hbq (q1 + q2)) | (go_at_call 86; refine (cV _).out.mono ?_; rintro e w2 ⟨rfl, rfl⟩) | (at_builtin; first
       | (refine Lib.wpList_append_byte rfl _ _ 39 rfl B 5 i0 Tryd.underlying39 hi hz0 hz1 hz2 _ _ _ rfl W0 _ _ (by assumption) rfl (by first | omega | (simp only [Lib.size_two]; omega)) ?_; intro _ _ hb)
       | (refine Lib.wpList_append_text rfl _ _ 39 9 rfl B 5 i0 Tryd.underlying39 Tryd.underlying9 hi hz0 hz1 hz2 _ _ _ rfl W0 (by assumption) _ rfl (by first | omega | (simp only [Lib.size_two]; omega)) ?_; intro _ _ hb)))
     refine wp_loop_rounds 9 ?_
     rw [rounds_succ]
     go_big_wp2_with (at_builtin; first
      | (refine Lib.wpList_append_byte rfl _ _ 39 rfl B 5 i0 Tryd.underlying39 hi hz0 hz1 hz2 _ _ _ rfl W0 _ _ (by assumption) rfl (by first | omega | (simp only [Lib.size_two]; omega)) ?_; intro _ _ hb)
      | (refine Lib.wpList_append_text rfl _ _ 39 9 rfl B 5 i0 Tryd.underlying39 Tryd.underlying9 hi hz0 hz1 hz2 _ _ _ rfl W0 (by assumption) _ rfl (by first | omega | (simp only [Lib.size_two]; omega)) ?_; intro _ _ hb))
     rw [rounds_succ]
     go_big_wp2_with (at_builtin; first
      | (refine Lib.wpList_append_byte rfl _ _ 39 rfl B 5 i0 Tryd.underlying39 hi hz0 hz1 hz2 _ _ _ rfl W0 _ _ (by assumption) rfl (by first | omega | (simp only [Lib.size_two]; omega)) ?_; intro _ _ hb)
      | (refine Lib.wpList_append_text rfl _ _ 39 9 rfl B 5 i0 Tryd.underlying39 Tryd.underlying9 hi hz0 hz1 hz2 _ _ _ rfl W0 (by assumption) _ rfl (by first | omega | (simp only [Lib.size_two]; omega)) ?_; intro _ _ hb))
     rw [rounds_succ]
     go_big_wp2_with (at_builtin; first
      | (refine Lib.wpList_append_byte rfl _ _ 39 rfl B 5 i0 Tryd.underlying39 hi hz0 hz1 hz2 _ _ _ rfl W0 _ _ (by assumption) rfl (by first | omega | (simp only [Lib.size_two]; omega)) ?_; intro _ _ hb)
      | (refine Lib.wpList_append_text rfl _ _ 39 9 rfl B 5 i0 Tryd.underlying39 Tryd.underlying9 hi hz0 hz1 hz2 _ _ _ rfl W0 (by assumption) _ rfl (by first | omega | (simp only [Lib.size_two]; omega)) ?_; intro _ _ hb))
     rw [rounds_succ]
     go_big_wp2_with (at_builtin; first
      | (refine Lib.wpList_append_byte rfl _ _ 39 rfl B 5 i0 Tryd.underlying39 hi hz0 hz1 hz2 _ _ _ rfl W0 _ _ (by assumption) rfl (by first | omega | (simp only [Lib.size_two]; omega)) ?_; intro _ _ hb)
      | (refine Lib.wpList_append_text rfl _ _ 39 9 rfl B 5 i0 Tryd.underlying39 Tryd.underlying9 hi hz0 hz1 hz2 _ _ _ rfl W0 (by assumption) _ rfl (by first | omega | (simp only [Lib.size_two]; omega)) ?_; intro _ _ hb))
     rw [rounds_succ]
     go_big_wp2_with (at_builtin; first
      | (refine Lib.wpList_append_byte rfl _ _ 39 rfl B 5 i0 Tryd.underlying39 hi hz0 hz1 hz2 _ _ _ rfl W0 _ _ (by assumption) rfl (by first | omega | (simp only [Lib.size_two]; omega)) ?_; intro _ _ hb)
      | (refine Lib.wpList_append_text rfl _ _ 39 9 rfl B 5 i0 Tryd.underlying39 Tryd.underlying9 hi hz0 hz1 hz2 _ _ _ rfl W0 (by assumption) _ rfl (by first | omega | (simp only [Lib.size_two]; omega)) ?_; intro _ _ hb))
     rw [rounds_succ]
     go_big_wp2_with (at_builtin; first
      | (refine Lib.wpList_append_byte rfl _ _ 39 rfl B 5 i0 Tryd.underlying39 hi hz0 hz1 hz2 _ _ _ rfl W0 _ _ (by assumption) rfl (by first | omega | (simp only [Lib.size_two]; omega)) ?_; intro _ _ hb)
      | (refine Lib.wpList_append_text rfl _ _ 39 9 rfl B 5 i0 Tryd.underlying39 Tryd.underlying9 hi hz0 hz1 hz2 _ _ _ rfl W0 (by assumption) _ rfl (by first | omega | (simp only [Lib.size_two]; omega)) ?_; intro _ _ hb))
     rw [rounds_succ]
     go_big_wp2_with (at_builtin; first
      | (refine Lib.wpList_append_byte rfl _ _ 39 rfl B 5 i0 Tryd.underlying39 hi hz0 hz1 hz2 _ _ _ rfl W0 _ _ (by assumption) rfl (by first | omega | (simp only [Lib.size_two]; omega)) ?_; intro _ _ hb)
      | (refine Lib.wpList_append_text rfl _ _ 39 9 rfl B 5 i0 Tryd.underlying39 Tryd.underlying9 hi hz0 hz1 hz2 _ _ _ rfl W0 (by assumption) _ rfl (by first | omega | (simp only [Lib.size_two]; omega)) ?_; intro _ _ hb))
     rw [rounds_succ]
     go_big_wp2_with (at_builtin; first
      | (refine Lib.wpList_append_byte rfl _ _ 39 rfl B 5 i0 Tryd.underlying39 hi hz0 hz1 hz2 _ _ _ rfl W0 _ _ (by assumption) rfl (by first | omega | (simp only [Lib.size_two]; omega)) ?_; intro _ _ hb)
      | (refine Lib.wpList_append_text rfl _ _ 39 9 rfl B 5 i0 Tryd.underlying39 Tryd.underlying9 hi hz0 hz1 hz2 _ _ _ rfl W0 (by assumption) _ rfl (by first | omega | (simp only [Lib.size_two]; omega)) ?_; intro _ _ hb))
     rw [rounds_succ]
     go_big_wp2_with (at_builtin; first
      | (refine Lib.wpList_append_byte rfl _ _ 39 rfl B 5 i0 Tryd.underlying39 hi hz0 hz1 hz2 _ _ _ rfl W0 _ _ (by assumption) rfl (by first | omega | (simp only [Lib.size_two]; omega)) ?_; intro _ _ hb)
      | (refine Lib.wpList_append_text rfl _ _ 39 9 rfl B 5 i0 Tryd.underlying39 Tryd.underlying9 hi hz0 hz1 hz2 _ _ _ rfl W0 (by assumption) _ rfl (by first | omega | (simp only [Lib.size_two]; omega)) ?_; intro _ _ hb))
     go_ret
     refine ⟨_, rfl, ?_⟩
     show Lib.OwnBuf B 5 _ _ _ W0 _
     rw [hE.out]
     simpa [bcells, Lib.strCells, Lib.size_two, Lib.lowerhex_at, hX0.out, hX1.out, hX2.out, hX3.out, hX4.out, hX5.out, hX6.out, hX7.out] using hb)

/-- strconv.appendEscapedRune at every code point -/
theorem appendEscapedRune_any (B : Nat) (v : Value) (l : List UInt8) (r q : Int) (asc gr : Bool) (W0 w : World) (hb : Buf 5 B v l W0 w) (hlen : l.length + 10 ≤ 140737488355328) (hT : PrintT w) (hG : GraphicT w) (hcp : isCP r = true) (hq : q = 34 ∨ q = 39) :
    Calls Tryd.prog 85 #[v, .int .i32 r, .int .u8 q, .bool asc, .bool gr] w fun e w' => ∃ v', e = .returned v' ∧ Buf 5 B v' (l ++ elemL q (stayB asc gr r) r) W0 w' := by
  have hr := isCP_bounds hcp
  by_cases hx : r = q ∨ r = 92
  · exact esc_quoted B v l r q asc gr W0 w hb hlen hT hG hcp hq hx
  cases hst : stayB asc gr r with
  | true =>
    rw [← hst]
    cases asc with
    | true =>
      have h' : r < 128 ∧ printB r = true := by simpa [stayB] using hst
      exact esc_ascii B v l r q gr W0 w hb hlen hT hG hcp hq hx h'.1 h'.2
    | false => exact esc_rune B v l r q gr W0 w hb hlen hT hG hcp hq hx hst
  | false =>
    rw [← hst]
    by_cases h7 : r = 7 ∨ r = 8 ∨ r = 12 ∨ r = 10 ∨ r = 13 ∨ r = 9 ∨ r = 11
    · rcases h7 with h | h | h | h | h | h | h
      · exact esc_7 B v l r q asc gr W0 w hb hlen hT hG hcp hq h hst
      · exact esc_8 B v l r q asc gr W0 w hb hlen hT hG hcp hq h hst
      · exact esc_12 B v l r q asc gr W0 w hb hlen hT hG hcp hq h hst
      · exact esc_10 B v l r q asc gr W0 w hb hlen hT hG hcp hq h hst
      · exact esc_13 B v l r q asc gr W0 w hb hlen hT hG hcp hq h hst
      · exact esc_9 B v l r q asc gr W0 w hb hlen hT hG hcp hq h hst
      · exact esc_11 B v l r q asc gr W0 w hb hlen hT hG hcp hq h hst
    by_cases h2 : r < 32 ∨ r = 127
    · exact esc_hex2 B v l r q asc gr W0 w hb hlen hT hG hcp hq h2 h7 hst
    have h80 : 128 ≤ r := by
      by_cases h : r ≤ 126
      · exfalso
        have : printB r = true := by
          unfold printB
          rw [print_latin r (by omega)]
          simp only [Lib.isPrintLatin, Bool.or_eq_true, Bool.and_eq_true, decide_eq_true_eq]; omega
        have : stayB asc gr r = true := by
          cases asc
          · simp [stayB, this]
          · simp [stayB, this]; omega
        rw [this] at hst; cases hst
      · omega
    by_cases hlt : r < 65536
    · exact esc_u4 B v l r q asc gr W0 w hb hlen hT hG hcp hq h80 hlt hst
    · exact esc_u8 B v l r q asc gr W0 w hb hlen hT hG hcp hq (by omega) hst
end Go.Proofs.YthbnglkpkgpojaaDoor
