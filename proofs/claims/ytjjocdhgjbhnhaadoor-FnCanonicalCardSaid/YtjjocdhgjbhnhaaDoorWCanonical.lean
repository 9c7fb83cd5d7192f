/-
  The walk of laws.FnCanonical: it returns true.
-/
import Derived.Test.YtjjocdhgjbhnhaaDoorAgreeI
import Derived.Test.YtjjocdhgjbhnhaaDoorPlainCanon
import Derived.Test.YtjjocdhgjbhnhaaDoorNumRange
import Derived.Test.YtjjocdhgjbhnhaaDoorParse
import Derived.Outline
namespace Go.Proofs.YtjjocdhgjbhnhaaDoor.fnCanonical
open Go.RowKit
set_option maxRecDepth 100000
set_option linter.unusedVariables false
set_option linter.unusedSimpArgs false
def strLen (v : Value) : Nat := match v with | .string x => x.size | _ => 0
/-- the text of what was read -/
theorem text {l : List UInt8} {b : Nat} (h2 : 2 ≤ b) (h36 : b ≤ 36) (hk : (iSpec (specRead (noSign l) b) (!l.isEmpty) (isMinus l) (mostN 64 (isMinus l))).2.1 = 0) (ho : (iSpec (specRead (noSign l) b) (!l.isEmpty) (isMinus l) (mostN 64 (isMinus l))).2.2 = false) :
    noSign l ≠ [] ∧ (-9223372036854775808 ≤ (iSpec (specRead (noSign l) b) (!l.isEmpty) (isMinus l) (mostN 64 (isMinus l))).1 ∧ (iSpec (specRead (noSign l) b) (!l.isEmpty) (isMinus l) (mostN 64 (isMinus l))).1 ≤ 9223372036854775807) ∧
    fmtI b (iSpec (specRead (noSign l) b) (!l.isEmpty) (isMinus l) (mostN 64 (isMinus l))).1 = if (iSpec (specRead (noSign l) b) (!l.isEmpty) (isMinus l) (mostN 64 (isMinus l))).1 < 0 then 45 :: stripZ (noSign l) else stripZ (noSign l) := by
  have hgood := specRead_good (l := noSign l) h2
  have hcan := canon h2 h36 (noSign l)
  have e64' : (2 : Nat) ^ (bitsN 64 - 1) = 9223372036854775808 := by decide
  rw [mostN, e64'] at hk ho ⊢
  generalize noSign l = m at *
  generalize hr : specRead m b = r at *
  obtain ⟨g, o, v⟩ := r
  simp only at hgood
  generalize isMinus l = mn at *
  generalize (!l.isEmpty) = ne at *
  unfold iSpec at hk ho ⊢
  simp only at hk ho ⊢
  cases g
  · simp at hk
  · simp only [Bool.true_eq_false, if_false] at hk ho ⊢
    cases mn
    · simp only [Bool.false_eq_true, if_false] at hk ho ⊢
      by_cases hv : 9223372036854775808 - 1 < v
      · rw [if_pos hv] at hk; simp at hk
      · rw [if_neg hv] at ho ⊢
        obtain ⟨hne, hd, hfv⟩ := hgood rfl ho
        refine ⟨hne, ⟨by simp only; omega, by simp only; omega⟩, ?_⟩
        simp only
        rw [if_neg (by omega), fmtI, if_neg (by omega), show ((v : Int)).toNat = v by omega, hfv, hcan hne hd]
    · simp only [if_true] at hk ho ⊢
      by_cases hv : 9223372036854775808 < v
      · rw [if_pos hv] at hk; simp at hk
      · rw [if_neg hv] at ho ⊢
        obtain ⟨hne, hd, hfv⟩ := hgood rfl ho
        refine ⟨hne, ⟨by simp only; omega, by simp only; omega⟩, ?_⟩
        simp only
        have h1 := hcan hne hd
        rw [← hfv] at h1
        by_cases h0 : v = 0
        · subst h0
          rw [if_neg (by omega), fmtI, if_neg (by omega)]; exact h1
        · rw [if_pos (by omega), fmtI, if_pos (by omega), show (-(v : Int)).natAbs = v by omega, h1]
set_option maxHeartbeats 8000000 in
theorem walk (w : World) (s : ByteArray) (hs : s.size ≤ 140737488351232) (base : Int) (hbase : (Lit.int .i64 base).wf = true) (hL : laidMetH Tryd.prog Rows.fnCanonicalRow.laid w) :
    Calls Tryd.prog 13 #[.string s, .int .i64 base] w fun e w' => e = .returned (.bool true) ∧ Below w.heap.size w w' := by
  have hT : NumT w := ⟨pow10T_of hL (by kernel_rfl) (by simp [Rows.fnCanonicalRow]), bruT_of hL (by kernel_rfl) (by simp [Rows.fnCanonicalRow])⟩
  obtain ⟨aS, aR, hE⟩ := errT_of hL (by kernel_rfl) (by simp [Rows.fnCanonicalRow, Rows.laid_strconv_ErrSyntax, synText]) (by simp [Rows.fnCanonicalRow, Rows.laid_strconv_ErrRange, rngText])
  obtain ⟨l, rfl⟩ : ∃ l, s = str l := ⟨s.data.toList, (str_toList s).symm⟩
  rw [size_str] at hs
  have hbase := wf_i64 hbase
  clear hL
  rcases base_cases base with h | h | ⟨b, rfl, h2, h36⟩
  · have g1 : decide (base < 2) = true := by simpa using h
    go_enter Tryd.func13, Tryd.ntmps13
    go_wp2_with fail
    go_ret
    exact ⟨rfl, Below.refl _ _⟩
  · have g1 : decide (base < 2) = false := by simp; omega
    have g2 : decide (36 < base) = true := by simpa using h
    go_enter Tryd.func13, Tryd.ntmps13
    go_wp2_with fail
    go_ret
    exact ⟨rfl, Below.refl _ _⟩
  · have g1 : decide ((b : Int) < 2) = false := by simp; omega
    have g2 : decide (36 < (b : Int)) = false := by simp; omega
    have SA := specParseInt_any l (b : Int) 64 w (.inr (by omega)) (by omega) (by omega) hs
    rw [show (64 : Int).toNat = 64 from rfl, show ((b : Int)).toNat = b by omega] at SA
    have P := fun wx (hbx : Below w.heap.size w wx) => ParseInt_any l (b : Int) 64 wx (.inr (by omega)) (by omega) (by omega) (by omega) aS aR (hE.below hbx)
    rw [show (64 : Int).toNat = 64 from rfl, show ((b : Int)).toNat = b by omega] at P
    have SG := Lib.hid (fun wx => signed_any l wx)
    have hag := agreedI l b 64 (.inr ⟨h2, h36⟩) (by omega)
    have htx := text (l := l) h2 h36
    have FF := fun (i : Int) wx (hbx : Below w.heap.size w wx) h0 h1 => FormatInt_any i b wx h2 h36 h0 h1 (hT.below hbx)
    have hml : (noSign l).length ≤ l.length := by rw [noSign]; split <;> simp
    generalize iSpec (specRead (noSign l) b) (!l.isEmpty) (isMinus l) (mostN 64 (isMinus l)) = U at *
    obtain ⟨v, k, o⟩ := U
    simp only at SA hag htx
    obtain ⟨bI, hbI⟩ : ∃ bI : Int, bI = (b : Int) := ⟨_, rfl⟩
    obtain ⟨kI, hkI⟩ : ∃ kI : Int, kI = (k : Int) := ⟨_, rfl⟩
    rw [← hkI, ← hbI] at SA
    rw [← hbI] at g1 g2 P ⊢
    simp only [← hbI] at FF
    have SA := Lib.hid SA
    cases o
    rotate_left
    · clear hE hT P hag htx FF hbI hkI hbase
      go_enter Tryd.func13, Tryd.ntmps13
      go_wp2_with (go_at_call 27; refine SA.out.mono ?_; rintro e w1 ⟨rfl, hw1⟩)
      go_ret
      exact ⟨rfl, hw1⟩
    by_cases hk : k = 0
    rotate_left
    · have q1 : (kI == 0) = false := by simp; omega
      clear hE hT P hag htx FF hbI hkI hbase hk
      go_enter Tryd.func13, Tryd.ntmps13
      go_wp2_with (go_at_call 27; refine SA.out.mono ?_; rintro e w1 ⟨rfl, hw1⟩)
      go_ret
      exact ⟨rfl, hw1⟩
    obtain ⟨v', k', hp, hkk, hv⟩ := hag rfl
    obtain rfl : k' = 0 := by omega
    subst hv
    obtain ⟨hne, hv01, htext⟩ := htx hk rfl
    rw [hp] at P
    have PP := Lib.hid (show ∀ wx, Below w.heap.size w wx → Calls Tryd.prog 28 #[.string (str l), .int .i64 bI, .int .i64 64] wx fun e w' => e = .returned (.tuple #[.int .i64 v, .agg #[.int .i64 0, .string (str []), .string (str [])]]) ∧ Below wx.heap.size wx w' from P)
    have FV := Lib.hid (fun wx hbx => FF v wx hbx hv01.1 hv01.2)
    have HT := Lib.hid htext
    have v0 := hv01.1
    have v1 := hv01.2
    obtain rfl : kI = 0 := by omega
    obtain ⟨m, hm⟩ : ∃ m, m = noSign l := ⟨_, rfl⟩
    rw [← hm] at SG HT hne hml
    obtain ⟨sg, hsg⟩ : ∃ x, x = hasSign l := ⟨_, rfl⟩
    obtain ⟨mn, hmn⟩ : ∃ x, x = isMinus l := ⟨_, rfl⟩
    rw [← hsg, ← hmn] at SG
    obtain ⟨D, hD⟩ : ∃ D, D = fmtI b v := ⟨_, rfl⟩
    rw [← hD] at FV HT
    have hmb : m.length ≤ 140737488351232 := by omega
    clear hE hT P hag htx FF hbI hkI hbase hk htext hp hkk hm hsg hmn hD hv01 hml hs
    go_enter Tryd.func13, Tryd.ntmps13
    go_wp2_with (first
      | (go_at_call 27; refine SA.out.mono ?_; rintro e w1 ⟨rfl, hw1⟩)
      | (go_at_call 29; refine (SG.out w1).mono ?_; rintro e w2 ⟨rfl, hw2⟩; have hb2 := hw1.trans (hw2.mono hw1.size)))
    go_loop [8] (fun v8 => ∃ L : List UInt8, v8 = .string (str L) ∧ Hid (L ≠ [] ∧ stripZ L = stripZ m) ∧ L.length ≤ 140737488351232) (fun v8 => strLen v8)
    case atStart => exact ⟨m, rfl, ⟨hne, rfl⟩, hmb⟩
    case round =>
      obtain ⟨L, rfl, hLs, hLl⟩ := hrel
      obtain ⟨n, hn⟩ : ∃ n, n = L.length := ⟨_, rfl⟩
      have eL : (str L).size = n := by rw [size_str, hn]
      have HN := Lib.hid hn
      have n1 : 1 ≤ n := by rw [hn]; exact List.length_pos_iff.2 hLs.out.1
      rw [← hn] at hLl
      obtain ⟨c, hc⟩ : ∃ c, L[0]? = some c := ⟨L[0]'(by rw [← hn]; exact n1), List.getElem?_eq_getElem (by rw [← hn]; exact n1)⟩
      have hidx := idx_str0 (P := Tryd.prog) 9 Tryd.underlying9 hc
      have hsl := slice_str1 (P := Tryd.prog) 9 Tryd.underlying9 L (by rw [← hn]; exact n1)
      obtain ⟨y, hy⟩ : ∃ y : Int, y = (c.toNat : Int) := ⟨_, rfl⟩
      rw [← hy] at hidx
      have HC := Lib.hid hc
      clear hn hc
      by_cases hgo : 1 < n ∧ c = 48
      · obtain ⟨hg1, hg2⟩ := hgo
        have q1 : (y == 48) = true := by rw [hy, hg2]; rfl
        have HC2 := Lib.hid hg2
        clear hy hg2
        go_wp2_with fail
        go_round
        case rel => exact ⟨L.drop 1, by rw [List.drop_one], ⟨by intro h; have := congrArg List.length h; rw [List.length_drop, ← HN.out] at this; simp at this; omega, by rw [← stripZ_drop L (by rw [← HN.out]; exact hg1) (by rw [HC.out, HC2.out]), hLs.out.2]⟩, by rw [List.length_drop, ← HN.out]; omega⟩
        case measure =>
          show (str L.tail).size < (str L).size
          rw [size_str, eL, List.length_tail, ← HN.out]; omega
      · have hstrip : L = stripZ m := by
          rw [← hLs.out.2]
          by_cases h1 : 1 < n
          · exact (stripZ_head L (by rw [HC.out]; intro h; exact hgo ⟨h1, by simpa using h⟩)).symm
          · exact (stripZ_one L (by rw [← HN.out]; exact h1)).symm
        have HS := Lib.hid hstrip
        by_cases hneg : v < 0
        · have hcat : (ByteArray.mk #[45]) ++ str L = str (45 :: L) := str_append [45] L
          have hcat2 : str [45] ++ str L = str (45 :: L) := str_append [45] L
          have hsum : ¬ 9223372036854775807 < (str [45]).size + (str L).size := by rw [size_str, eL]; simp; omega
          have hsum2 : ¬ 9223372036854775807 < (str [45]).size + n := by rw [size_str]; simp; omega
          have HD := Lib.hid (show D = 45 :: L by rw [HT.out, if_pos hneg, HS.out])
          have e1 : (str D).toList = D := by rw [Lib.toList_data]; rfl
          have e2 : (str (45 :: L)).toList = D := by rw [Lib.toList_data, HD.out]; rfl
          by_cases h1 : 1 < n
          · have hg2 : ¬ c = 48 := fun h => hgo ⟨h1, h⟩
            have q1 : (y == 48) = false := by rw [hy]; exact u8_ne (n := 48) (by omega) hg2
            clear hy hgo hstrip hg2
            go_wp2_with (first
              | (go_at_call 28; refine (PP.out w2 hb2).mono ?_; rintro e w3 ⟨rfl, hw3⟩; have hb3 := hb2.trans (hw3.mono hb2.size); have hb3' := hb3.trans ((Below.refl _ w3).alloc hb3.size (.cells #[.int .i64 0, .string (str []), .string (str [])] 25)))
              | (go_at_call 30; refine (FV.out _ hb3').mono ?_; rintro e w4 ⟨rfl, hw4⟩; have hb4 := hb3'.trans (hw4.mono hb3'.size)))
            all_goals first | (exfalso; omega) | skip
            go_ret
            exact ⟨by simp, hb4⟩
          · have h1' : n ≤ 1 := by omega
            clear hy hgo hstrip h1
            go_wp2_with (first
              | (go_at_call 28; refine (PP.out w2 hb2).mono ?_; rintro e w3 ⟨rfl, hw3⟩; have hb3 := hb2.trans (hw3.mono hb2.size); have hb3' := hb3.trans ((Below.refl _ w3).alloc hb3.size (.cells #[.int .i64 0, .string (str []), .string (str [])] 25)))
              | (go_at_call 30; refine (FV.out _ hb3').mono ?_; rintro e w4 ⟨rfl, hw4⟩; have hb4 := hb3'.trans (hw4.mono hb3'.size)))
            all_goals first | (exfalso; omega) | skip
            go_ret
            exact ⟨by simp, hb4⟩
        · have hneg' : 0 ≤ v := by omega
          have HD := Lib.hid (show D = L by rw [HT.out, if_neg hneg, HS.out])
          have e1 : (str D).toList = D := by rw [Lib.toList_data]; rfl
          have e2 : (str L).toList = D := by rw [Lib.toList_data, HD.out]; rfl
          by_cases h1 : 1 < n
          · have hg2 : ¬ c = 48 := fun h => hgo ⟨h1, h⟩
            have q1 : (y == 48) = false := by rw [hy]; exact u8_ne (n := 48) (by omega) hg2
            clear hy hgo hstrip hg2 hneg
            go_wp2_with (first
              | (go_at_call 28; refine (PP.out w2 hb2).mono ?_; rintro e w3 ⟨rfl, hw3⟩; have hb3 := hb2.trans (hw3.mono hb2.size); have hb3' := hb3.trans ((Below.refl _ w3).alloc hb3.size (.cells #[.int .i64 0, .string (str []), .string (str [])] 25)))
              | (go_at_call 30; refine (FV.out _ hb3').mono ?_; rintro e w4 ⟨rfl, hw4⟩; have hb4 := hb3'.trans (hw4.mono hb3'.size)))
            all_goals first | (exfalso; omega) | skip
            go_ret
            exact ⟨by simp, hb4⟩
          · have h1' : n ≤ 1 := by omega
            clear hy hgo hstrip h1 hneg
            go_wp2_with (first
              | (go_at_call 28; refine (PP.out w2 hb2).mono ?_; rintro e w3 ⟨rfl, hw3⟩; have hb3 := hb2.trans (hw3.mono hb2.size); have hb3' := hb3.trans ((Below.refl _ w3).alloc hb3.size (.cells #[.int .i64 0, .string (str []), .string (str [])] 25)))
              | (go_at_call 30; refine (FV.out _ hb3').mono ?_; rintro e w4 ⟨rfl, hw4⟩; have hb4 := hb3'.trans (hw4.mono hb3'.size)))
            all_goals first | (exfalso; omega) | skip
            go_ret
            exact ⟨by simp, hb4⟩
end Go.Proofs.YtjjocdhgjbhnhaaDoor.fnCanonical
