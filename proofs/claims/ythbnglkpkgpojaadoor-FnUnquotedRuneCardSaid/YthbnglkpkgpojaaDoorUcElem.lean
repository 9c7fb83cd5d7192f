/-
  Contract: strconv.UnquoteChar at an element of a quoted text, whatever follows it.
-/
import Derived.Test.YthbnglkpkgpojaaDoorUcEsc
namespace Go.Proofs.YthbnglkpkgpojaaDoor
open Go.RowKit
set_option maxRecDepth 1000000
set_option linter.unusedVariables false
set_option linter.unusedSimpArgs false
set_option maxHeartbeats 4000000 in
theorem uc_enc (r : Int) (hcp : isCP r = true) (h128 : ¬ r < 128) (t : List UInt8) (q : Int) (hq : q = 34 ∨ q = 39) (w : World) (hU : Utf8T w) :
    Calls Tryd.prog 74 #[.string (str (encL r ++ t)), .int .u8 q] w fun e w' => e = .returned (ucV r true t) ∧ Below w.heap.size w w' := by
  have hne : encL r ++ t ≠ [] := by simp [encL_ne]
  have C := Tryd.utf8_DecodeRuneInString (str (encL r ++ t)) w hU
  rw [decodeGo_str hne, (decL_enc hcp t).1, (decL_enc hcp t).2] at C
  obtain ⟨c, hc⟩ : ∃ c, (encL r ++ t)[0]? = some c := by
    have := List.length_pos_iff.2 hne
    exact ⟨_, List.getElem?_eq_getElem this⟩
  have hc128 : 128 ≤ c.toNat := by
    refine encL_big hcp h128 c ?_
    rw [List.getElem?_append_left (List.length_pos_iff.2 (encL_ne r))] at hc
    exact List.mem_of_getElem? hc
  have hidx := idx_str0 (P := Tryd.prog) 9 Tryd.underlying9 hc
  have hsl := fun wx => slice_str_from (P := Tryd.prog) 9 Tryd.underlying9 .i64 (encL r ++ t) (encL r).length (by simp) wx
  rw [List.drop_left] at hsl
  obtain ⟨n, hn⟩ : ∃ n, n = (encL r ++ t).length := ⟨_, rfl⟩
  have n1 : 1 ≤ n := by rw [hn]; exact List.length_pos_iff.2 hne
  have eL : (str (encL r ++ t)).size = n := by rw [size_str, hn]
  obtain ⟨y, hy⟩ : ∃ y : Int, y = (c.toNat : Int) := ⟨_, rfl⟩
  rw [← hy] at hidx
  have y0 : 128 ≤ y := by omega
  have y1 : y ≤ 255 := by have := c.toNat_lt; omega
  have q0 : ((n : Int) == 0) = false := by simp; omega
  have q1 : (y == q) = false := by simp; omega
  obtain ⟨l, hl⟩ : ∃ l, l = encL r ++ t := ⟨_, rfl⟩
  rw [← hl] at C hidx hsl eL ⊢
  obtain ⟨k, hk⟩ : ∃ k : Int, k = ((encL r).length : Int) := ⟨_, rfl⟩
  rw [← hk] at C hsl
  have C := Lib.hid C
  clear hn hy hl hc hc128 hq hne hcp hU hk h128
  go_enter Tryd.func74, Tryd.ntmps74
  go_wp2_with (go_at_call 73; refine C.out.mono ?_; rintro e w1 ⟨rfl, hw1⟩)
  all_goals first | (exfalso; omega) | skip
  go_quiet (fail)
  go_wp2_with fail
  (try simp only [Exit.inBlock, Exit.then])
  refine bodyPost_ret (results_tmp4 rfl _ _ _) rfl ?_
  exact ⟨rfl, hw1.trans ((below_drewN _ _).mono hw1.size)⟩
/-- the number that an element stands for: a code point, or a byte -/
def numE (r : Int) : Int := if r < 0 then -1 - r else r
theorem uc_elem {st : Int → Bool} (hs : OkSt st) {r : Int} (hv : valE r) (t : List UInt8) (ht : t.length ≤ 1000000000) (q : Int) (hq : q = 34 ∨ q = 39) (w : World) (hU : Utf8T w) :
    Calls Tryd.prog 74 #[.string (str (elemL q (st r) r ++ t)), .int .u8 q] w fun e w' => e = .returned (ucV (numE r) (decide (128 ≤ r)) t) ∧ Below w.heap.size w w' := by
  by_cases hrq : r = q
  · subst hrq
    have e : elemL r (st r) r = [92, byteZ r] := by rw [elemL, if_pos (.inl rfl)]
    have en : numE r = r := by rw [numE, if_neg (by omega)]
    have ed : decide (128 ≤ r) = false := by simp; omega
    rw [e, en, ed]
    refine uc_quote (byteZ r) t r ?_ w
    rcases hq with rfl | rfl
    · exact .inl ⟨rfl, rfl⟩
    · exact .inr ⟨rfl, rfl⟩
  by_cases hr92 : r = 92
  · subst hr92
    have e : elemL q (st 92) 92 = [92, 92] := by rw [elemL, if_pos (.inr rfl)]; rfl
    rw [e]
    exact uc_letter 92 92 t q hq (by simp) w
  have hel : elemL q (st r) r = if st r then encL r else escL r := by rw [elemL, if_neg (by omega)]
  rw [hel]
  cases hst : st r
  case true =>
    rw [if_pos rfl]
    have h0 := hs.nonneg r hst
    have hcp := hv.resolve_left (by omega)
    have en : numE r = r := by rw [numE, if_neg (by omega)]
    rw [en]
    by_cases h128 : r < 128
    · have e2 := byteZ_toNat (r := r) h0 (by omega)
      rw [encL_small h128, show decide (128 ≤ r) = false by simp; omega]
      have := uc_ascii (byteZ r) t q hq (by omega) (by omega) (by omega) w
      rw [e2] at this
      exact this
    · rw [show decide (128 ≤ r) = true by simp; omega]
      exact uc_enc r hcp h128 t q hq w hU
  case false =>
    rw [if_neg (by simp)]
    have hk : ¬ (32 ≤ r ∧ r ≤ 126) := fun h => by rw [hs.keeps r h.1 h.2] at hst; cases hst
    by_cases hl : r = 7 ∨ r = 8 ∨ r = 12 ∨ r = 10 ∨ r = 13 ∨ r = 9 ∨ r = 11
    · have en : numE r = r := by rw [numE, if_neg (by omega)]
      rw [en, show decide (128 ≤ r) = false by simp; omega]
      rcases hl with rfl | rfl | rfl | rfl | rfl | rfl | rfl
      · exact uc_letter 97 7 t q hq (by simp) w
      · exact uc_letter 98 8 t q hq (by simp) w
      · exact uc_letter 102 12 t q hq (by simp) w
      · exact uc_letter 110 10 t q hq (by simp) w
      · exact uc_letter 114 13 t q hq (by simp) w
      · exact uc_letter 116 9 t q hq (by simp) w
      · exact uc_letter 118 11 t q hq (by simp) w
    · have ee : escL r = if r < 0 then 92 :: 120 :: hexL (-1 - r).toNat 2 else if r < 32 ∨ r = 127 then 92 :: 120 :: hexL r.toNat 2 else if r < 65536 then 92 :: 117 :: hexL r.toNat 4 else 92 :: 85 :: hexL r.toNat 8 := by
        unfold escL
        rw [if_neg (by omega), if_neg (by omega), if_neg (by omega), if_neg (by omega), if_neg (by omega), if_neg (by omega), if_neg (by omega)]
      rw [ee]
      by_cases h0 : r < 0
      · have hr : -256 ≤ r ∧ r ≤ -129 := by
          rcases hv with h | h
          · exact h
          · have := cp_bounds h; omega
        rw [if_pos h0, show decide (128 ≤ r) = false by simp; omega, show numE r = ((-1 - r).toNat : Int) by rw [numE, if_pos h0]; omega]
        exact uc_hexx (-1 - r).toNat (by omega) t ht q hq w
      · have hcp := hv.resolve_left (by omega)
        have hb := cp_bounds hcp
        have er : ((r.toNat : Nat) : Int) = r := by omega
        rw [if_neg h0, show numE r = ((r.toNat : Nat) : Int) by rw [numE, if_neg h0]; omega]
        by_cases h1 : r < 32 ∨ r = 127
        · rw [if_pos h1, show decide (128 ≤ r) = false by simp; omega]
          exact uc_hexx r.toNat (by omega) t ht q hq w
        · rw [if_neg h1, show decide (128 ≤ r) = true by simp; omega]
          by_cases h2 : r < 65536
          · rw [if_pos h2]
            exact uc_hexu r.toNat (by rw [er]; exact hcp) (by omega) t ht q hq w
          · rw [if_neg h2]
            exact uc_hexU r.toNat (by rw [er]; exact hcp) t ht q hq w
end Go.Proofs.YthbnglkpkgpojaaDoor
