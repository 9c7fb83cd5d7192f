/-
  Contract: spec.Read reads a text without a sign.
-/
import Derived.Test.YtlnokggbejfocaaDoorSpecBase
import Derived.Test.YtlnokggbejfocaaDoorSpecPlain
import Derived.Test.YtlnokggbejfocaaDoorDigit
import Derived.Deep.DeepCutAuto
import Derived.Deep.CutBlock
import Derived.BigGuardPart
import Derived.Outline
namespace Go.Proofs.YtlnokggbejfocaaDoor
open Go.RowKit
set_option maxRecDepth 100000
set_option linter.unusedVariables false
set_option linter.unusedSimpArgs false
/-- block g holds four cells -/
def RD (g : Nat) (a b c d : Value) (w : World) : Prop := w.heap[g]? = some (.cells #[a, b, c, d] 63 (0, 0))
theorem RD.cells {g : Nat} {a b c d : Value} {w : World} (h : RD g a b c d w) : w.cell? ⟨g, 0, none⟩ = some a ∧ w.cell? ⟨g, 1, none⟩ = some b ∧ w.cell? ⟨g, 2, none⟩ = some c ∧ w.cell? ⟨g, 3, none⟩ = some d := by
  unfold RD at h
  refine ⟨?_, ?_, ?_, ?_⟩ <;> simp [World.cell?, h]
theorem RD.free {g : Nat} {a b c d : Value} {w : World} (h : RD g a b c d w) (j : Nat) : w.frozen? ⟨g, j, none⟩ = false := by
  unfold RD at h
  simp [World.frozen?, h]
theorem RD.set0 {g : Nat} {a b c d : Value} {w : World} (h : RD g a b c d w) (x : Value) : RD g x b c d (w.setCell ⟨g, 0, none⟩ x) := by
  unfold RD at h ⊢
  simp only [World.setCell, Array.getElem?_modify, if_pos, h, Option.map_some]; rfl
theorem RD.set1 {g : Nat} {a b c d : Value} {w : World} (h : RD g a b c d w) (x : Value) : RD g a x c d (w.setCell ⟨g, 1, none⟩ x) := by
  unfold RD at h ⊢
  simp only [World.setCell, Array.getElem?_modify, if_pos, h, Option.map_some]; rfl
theorem RD.set2 {g : Nat} {a b c d : Value} {w : World} (h : RD g a b c d w) (x : Value) : RD g a b x d (w.setCell ⟨g, 2, none⟩ x) := by
  unfold RD at h ⊢
  simp only [World.setCell, Array.getElem?_modify, if_pos, h, Option.map_some]; rfl
theorem RD.set3 {g : Nat} {a b c d : Value} {w : World} (h : RD g a b c d w) (x : Value) : RD g a b c x (w.setCell ⟨g, 3, none⟩ x) := by
  unfold RD at h ⊢
  simp only [World.setCell, Array.getElem?_modify, if_pos, h, Option.map_some]; rfl
theorem RD.below {g : Nat} {a b c d : Value} {w w' : World} (h : RD g a b c d w) (hb : Below w.heap.size w w') : RD g a b c d w' := by
  unfold RD at h ⊢
  rw [hb.block g (Array.getElem?_eq_some_iff.1 h).1]; exact h
theorem RD.drew {g : Nat} {a b c d : Value} {w : World} (h : RD g a b c d w) : RD g a b c d w.drew := h
theorem RD.drewN {g : Nat} {a b c d : Value} {w : World} (h : RD g a b c d w) (n : Nat) : RD g a b c d (w.drewN n) := h
theorem below_drewN3 (B : Nat) (w : World) (n : Nat) : Below B w (w.drewN n) := ⟨rfl, rfl, rfl, Nat.le_refl _, fun _ _ => rfl⟩
def readV (r : ReadR) : Value := .agg #[.bool r.good, .bool (decide (18446744073709551616 ≤ r.v)), .bool r.op, .int .u64 ((r.v % 18446744073709551616 : Nat) : Int)]
theorem specBase_b (l : List UInt8) (base : Nat) (h : base = 0 ∨ 2 ≤ base ∧ base ≤ 36) : 2 ≤ (specBase l base).b ∧ (specBase l base).b ≤ 36 := by
  unfold specBase; repeat' split
  all_goals (simp only; omega)
theorem specBase_len (l : List UInt8) (base : Nat) : (specBase l base).t.length ≤ l.length := by
  unfold specBase; repeat' split
  all_goals simp
/-- what holds behind i digits -/
structure RInv (b : Nat) (D : List UInt8) (cap : Bool) (i : Nat) (bg op : Bool) (sz : Int) : Prop where
  dig : ∀ c ∈ D.take i, digN c < b
  big : bg = decide (18446744073709551616 ≤ foldV b (D.take i) 0)
  opn : op = (cap || (D.take i).any capD)
  size : sz = ((foldV b (D.take i) 0 % 18446744073709551616 : Nat) : Int)
theorem RInv.start (b : Nat) (D : List UInt8) (cap : Bool) : RInv b D cap 0 false cap 0 := ⟨by simp, by simp [foldV], by simp, by simp [foldV]⟩
theorem digP_stop {b : Nat} : ∀ {D : List UInt8} {i : Nat} {c : UInt8}, (∀ x ∈ D.take i, digN x < b) → D[i]? = some c → b ≤ digN c → digP b D = D.take i ∧ allD b D = false
  | [], i, c, _, hc, _ => by simp at hc
  | x :: r, 0, c, _, hc, h => by
    simp at hc; subst hc
    exact ⟨by rw [digP, if_neg (by omega)]; rfl, by rw [allD_cons]; simp; omega⟩
  | x :: r, i + 1, c, hd, hc, h => by
    have hx : digN x < b := hd x (by simp)
    obtain ⟨h1, h2⟩ := digP_stop (D := r) (i := i) (fun y hy => hd y (by simp [hy])) (by simpa using hc) h
    exact ⟨by rw [digP, if_pos hx, h1]; rfl, by rw [allD_cons, h2]; simp⟩
theorem RInv.stop {b : Nat} {D : List UInt8} {cap : Bool} {i : Nat} {bg op : Bool} {sz : Int} (h : RInv b D cap i bg op sz) {c : UInt8} (hc : D[i]? = some c) (hb : b ≤ digN c) {g : Bool} :
    readV ⟨g && !D.isEmpty && allD b D, cap || (digP b D).any capD, foldV b (digP b D) 0⟩ = .agg #[.bool false, .bool bg, .bool op, .int .u64 sz] := by
  obtain ⟨h1, h2⟩ := digP_stop h.dig hc hb
  rw [readV, h1, h2, ← h.big, ← h.opn, ← h.size]; simp
theorem RInv.fin {b : Nat} {D : List UInt8} {cap : Bool} {i : Nat} {bg op : Bool} {sz : Int} (h : RInv b D cap i bg op sz) (hi : D.length ≤ i) {g : Bool} :
    readV ⟨g && !D.isEmpty && allD b D, cap || (digP b D).any capD, foldV b (digP b D) 0⟩ = .agg #[.bool (g && !D.isEmpty), .bool bg, .bool op, .int .u64 sz] := by
  obtain ⟨h1, h2, h3, h4⟩ := h
  rw [List.take_of_length_le hi] at h1 h2 h3 h4
  have ha : allD b D = true := by simpa [allD] using h1
  rw [readV, digP_all ha, ha, ← h2, ← h3, ← h4]; simp
theorem RInv.next {b : Nat} {D : List UInt8} {cap : Bool} {i : Nat} {bg op : Bool} {sz : Int} (h : RInv b D cap i bg op sz) {c : UInt8} (hc : D[i]? = some c) (hb : digN c < b) (h1 : 1 ≤ b) :
    RInv b D cap (i + 1) (bg || decide (18446744073709551615 < sz * (b : Int) + (digN c : Int))) (op || capB c) (((foldV b (D.take i) 0 * b + digN c) % 18446744073709551616 : Nat) : Int) := by
  have e : D.take (i + 1) = D.take i ++ [c] := take_snoc' hc
  have ev : foldV b (D.take (i + 1)) 0 = foldV b (D.take i) 0 * b + digN c := by rw [e, foldV_append]; rfl
  refine ⟨?_, ?_, ?_, by rw [ev]⟩
  · intro x hx
    rw [e, List.mem_append] at hx
    rcases hx with hx | hx
    · exact h.dig x hx
    · simp at hx; subst hx; exact hb
  · rw [ev, h.big, h.size]
    generalize foldV b (D.take i) 0 = V
    rw [Bool.eq_iff_iff]
    simp only [Bool.or_eq_true, decide_eq_true_eq]
    rw [← Int.natCast_mul]
    by_cases hV : 18446744073709551616 ≤ V
    · have : V * 1 ≤ V * b := Nat.mul_le_mul_left V h1
      constructor
      · intro _; omega
      · intro _; exact .inl hV
    · rw [Nat.mod_eq_of_lt (by omega)]
      omega
  · rw [e, List.any_append, h.opn]
    simp only [List.any_cons, List.any_nil, Bool.or_false, Bool.or_assoc]; rfl
theorem read_size {V b d : Nat} {sz bI dI pr : Int} (hpr : pr = sz * bI) (hsz : sz = ((V % 18446744073709551616 : Nat) : Int)) (hb : bI = (b : Int)) (hd : dI = (d : Int)) : (pr % 18446744073709551616 + dI) % 18446744073709551616 = (((V * b + d) % 18446744073709551616 : Nat) : Int) := by
  subst hpr hsz hb hd
  rw [← Int.natCast_mul, Int.emod_add_emod, ← Int.natCast_add]
  have : (V % 18446744073709551616 * b + d) % 18446744073709551616 = (V * b + d) % 18446744073709551616 := by
    rw [Nat.add_mod, Nat.mod_mul_mod, ← Nat.add_mod]
  rw [← this]; rfl
theorem read_big {b d : Nat} {sz bI dI : Int} (hb : bI = (b : Int)) (hd : dI = (d : Int)) (h2 : 2 ≤ bI) (h0 : 0 ≤ sz) : (18446744073709551615 - dI) / bI < sz ↔ 18446744073709551615 < sz * (b : Int) + (d : Int) := by
  subst hb hd
  rw [Int.ediv_lt_iff_lt_mul (by omega)]
  omega
set_option maxHeartbeats 8000000 in
theorem read_any (l : List UInt8) (base : Int) (w : World) (hb : base = 0 ∨ 2 ≤ base ∧ base ≤ 36) (hl : l.length ≤ 140737488351232) :
    Calls Tryd.prog 29 #[.string (str l), .int .i64 base] w fun e w' => e = .returned (readV (specRead l base.toNat)) ∧ Below w.heap.size w w' := by
  obtain ⟨R, hR⟩ : ∃ R, R = specRead l base.toNat := ⟨_, rfl⟩
  rw [← hR]
  have C0 := fun wx => base_any l base (by omega) wx
  obtain ⟨hb2, hb36⟩ := specBase_b l base.toNat (by omega)
  have htl := specBase_len l base.toNat
  have hR2 : R = ⟨(!(specBase l base.toNat).may || rightB (specBase l base.toNat).before (specBase l base.toNat).t) && !(readDig (specBase l base.toNat)).isEmpty && allD (specBase l base.toNat).b (readDig (specBase l base.toNat)), (specBase l base.toNat).cap || (digP (specBase l base.toNat).b (readDig (specBase l base.toNat))).any capD, foldV (specBase l base.toNat).b (digP (specBase l base.toNat).b (readDig (specBase l base.toNat))) 0⟩ := hR
  obtain ⟨BB, hBB⟩ : ∃ BB, BB = specBase l base.toNat := ⟨_, rfl⟩
  rw [← hBB] at C0 hb2 hb36 htl hR2
  obtain ⟨b, t, may, before, cap⟩ := BB
  simp only at hb2 hb36 htl hR2
  obtain ⟨D, hD⟩ : ∃ D, D = readDig ⟨b, t, may, before, cap⟩ := ⟨_, rfl⟩
  rw [← hD] at hR2
  have P := Lib.hid fun wx => plain_any t before wx (by omega)
  have C := Lib.hid C0
  unfold baseV at C
  simp only at C
  obtain ⟨bI, hbI⟩ : ∃ bI : Int, bI = (b : Int) := ⟨_, rfl⟩
  rw [← hbI] at C
  have b1 : 2 ≤ bI := by omega
  have b2 : bI ≤ 36 := by omega
  obtain ⟨g0, hg0⟩ : ∃ g0 : Bool, g0 = (!may || rightB before t) := ⟨_, rfl⟩
  rw [← hg0] at hR2
  have HG0 := Lib.hid hg0
  have HD := Lib.hid hD
  have HR := Lib.hid hR2
  have HBI := Lib.hid hbI
  have hDl : D.length ≤ 140737488351232 := by
    rw [hD, readDig]
    have := noU_len t
    split <;> (simp only; omega)
  clear hR hR2 hBB C0 hg0 hD hbI
  go_enter Tryd.func29, Tryd.ntmps29
  go_upto_if 26 with (go_at_call 38; refine (C.out _).mono ?_; rintro e w1 ⟨rfl, hw1⟩; clear C)
  have hz1 : RD w.heap.size (.bool false) (.bool false) (.bool false) (.int .u64 0) w1 := RD.below (w := w.alloc (.cells #[.bool false, .bool false, .bool false, .int .u64 0] 63)) (by show (w.heap.push _)[w.heap.size]? = _; simp) hw1
  have hw : Below w.heap.size w w1 := ((Below.refl _ _).alloc (Nat.le_refl _) _).trans (hw1.mono (by simp))
  have hlt1 : w.heap.size < w1.heap.size := (Array.getElem?_eq_some_iff.1 hz1).1
  obtain ⟨W2, hW2⟩ : ∃ W2, W2 = w1.alloc (.cells #[.bool true, .bool false, .bool cap, .int .u64 0] 63) := ⟨_, rfl⟩
  have hrd0 : RD w1.heap.size (.bool true) (.bool false) (.bool cap) (.int .u64 0) W2 := by rw [hW2]; show (w1.heap.push _)[w1.heap.size]? = _; simp
  have hbw0 : Below w1.heap.size w1 W2 := by rw [hW2]; exact (Below.refl _ _).alloc (Nat.le_refl _) _
  rw [← hW2]
  have HZ1 := Lib.hid hz1
  have HRD0 := Lib.hid hrd0
  have HBW0 := Lib.hid hbw0
  clear hW2 hz1 hrd0 hbw0 hw1
  go_cut [5, 6] (fun v5 _ wx => v5 = .string (str D) ∧ Hid (RD w1.heap.size (.bool g0) (.bool false) (.bool cap) (.int .u64 0) wx) ∧ Hid (Below w1.heap.size w1 wx))
  case first =>
    cases hmay : may
    · have H1 := Lib.hid (show D = t by rw [HD.out, readDig, hmay]; rfl)
      have H2 := Lib.hid (show g0 = true by rw [HG0.out, hmay]; rfl)
      go_wp2_with fail
      all_goals first | (exfalso; omega) | skip
      go_meet
      exact ⟨by rw [H1.out], by rw [H2.out]; exact HRD0, HBW0⟩
    · have H1 := Lib.hid (show D = noU t by rw [HD.out, readDig, hmay]; rfl)
      have H2 := Lib.hid (show g0 = rightB before t by rw [HG0.out, hmay]; rfl)
      go_wp2_with (go_at_call 39; refine (P.out W2).mono ?_; rintro e w3 ⟨rfl, hw3⟩; have hr3 := HRD0.out.below hw3; obtain ⟨k0, k1, k2, k3⟩ := hr3.cells; have f0 := hr3.free 0; have HR3 := Lib.hid (hr3.set0 (.bool (rightB before t))); have HB3 := Lib.hid ((HBW0.out.trans (hw3.mono HBW0.out.size)).setCell (Nat.le_refl _) (p := ⟨w1.heap.size, 0, none⟩) (.bool (rightB before t))); clear hr3)
      all_goals first | (exfalso; omega) | skip
      go_meet
      exact ⟨by rw [H1.out], by rw [H2.out]; exact HR3, HB3⟩
  case rest =>
    obtain ⟨rfl, hrd, hbw⟩ := hcut
    obtain ⟨wq, rfl⟩ : ∃ wq : World, wq = wc := ⟨_, rfl⟩
    obtain ⟨k, hk⟩ : ∃ k, k = D.length := ⟨_, rfl⟩
    have eD : (str D).size = k := by rw [size_str, hk]
    obtain ⟨em, hem⟩ : ∃ em : Bool, em = D.isEmpty := ⟨_, rfl⟩
    have heL : (str D).toList.isEmpty = em := by rw [Lib.toList_data, hem]; rfl
    have HK := Lib.hid hk
    have HEM := Lib.hid hem
    rw [← hk] at hDl
    clear hk hem HRD0 HBW0
    obtain ⟨k0, k1, k2, k3⟩ := hrd.out.cells
    have f0 := hrd.out.free 0
    obtain ⟨gg, hgg⟩ : ∃ gg : Bool, gg = (g0 && !em) := ⟨_, rfl⟩
    have HGG := Lib.hid hgg
    have HRD := Lib.hid (hrd.out.set0 (.bool gg))
    have HBW := Lib.hid (hbw.out.setCell (Nat.le_refl _) (p := ⟨w1.heap.size, 0, none⟩) (.bool gg))
    go_upto_region 7 with fail
    go_cut [41] (fun v wx => Hid (RD w1.heap.size (.bool gg) (.bool false) (.bool cap) (.int .u64 0) wx) ∧ Hid (Below w1.heap.size w1 wx))
    case first =>
      have hnil : em = true ↔ (str D).toList = [] := by rw [← heL]; simp
      cases g0
      · have G := Lib.hid (show gg = false by rw [HGG.out]; rfl)
        rw [G.out] at HRD HBW
        clear hgg hnil heL
        go_wp2_with fail
        all_goals first | (exfalso; omega) | skip
        all_goals (go_meet; exact ⟨by rw [G.out]; exact HRD, HBW⟩)
      · cases em
        · have G := Lib.hid (show gg = true by rw [HGG.out]; rfl)
          rw [G.out] at HRD HBW
          have hne : ¬ (str D).toList = [] := fun h => by have := hnil.2 h; cases this
          clear hgg hnil
          go_wp2_with fail
          all_goals first | (exfalso; omega) | skip
          all_goals (go_meet; exact ⟨by rw [G.out]; exact HRD, HBW⟩)
        · have G := Lib.hid (show gg = false by rw [HGG.out]; rfl)
          rw [G.out] at HRD HBW
          have hne : (str D).toList = [] := hnil.1 rfl
          clear hgg hnil
          go_wp2_with fail
          all_goals first | (exfalso; omega) | skip
          all_goals (go_meet; exact ⟨by rw [G.out]; exact HRD, HBW⟩)
    case rest =>
      obtain ⟨hrd1, hbw1⟩ := hcut
      clear k0 k1 k2 k3 f0 hrd hbw HRD HBW hgg
      go_wp2_with fail
      go_loopw [12] (fun v12 wr => ∃ (i : Nat) (bg op : Bool) (sz : Int), v12 = .int .i64 i ∧ i ≤ k ∧ 0 ≤ sz ∧ sz ≤ 18446744073709551615 ∧ Hid (RD w1.heap.size (.bool gg) (.bool bg) (.bool op) (.int .u64 sz) wr) ∧ Hid (Below w1.heap.size w1 wr) ∧ Hid (RInv b D cap i bg op sz)) (fun v12 _ => k - (intOf v12).toNat)
      case atStart => exact ⟨0, false, cap, 0, rfl, by omega, by omega, by omega, hrd1, hbw1, RInv.start b D cap⟩
      case round =>
        obtain ⟨i, bg, op, sz, rfl, hik, hs0, hs1, hrd, hbw, hinv⟩ := hrel
        have hz2 := HZ1.out.below hbw.out
        obtain ⟨z0, z1, z2, z3⟩ := hz2.cells
        have zf0 := hz2.free 0
        have zf1 := hz2.free 1
        have zf2 := hz2.free 2
        have zf3 := hz2.free 3
        obtain ⟨k0, k1, k2, k3⟩ := hrd.out.cells
        have f0 := hrd.out.free 0
        have f1 := hrd.out.free 1
        have f2 := hrd.out.free 2
        have f3 := hrd.out.free 3
        clear hz2
        by_cases hlt : i < k
        · obtain ⟨c, hc⟩ : ∃ c, D[i]? = some c := ⟨D[i]'(by rw [← HK.out]; exact hlt), List.getElem?_eq_getElem (by rw [← HK.out]; exact hlt)⟩
          have hidx := fun wx => idx_str (P := Tryd.prog) 9 Tryd.underlying9 .i64 hc wx
          have DC := Lib.hid (digit_any c wr)
          obtain ⟨d, hd⟩ : ∃ d, d = digN c := ⟨_, rfl⟩
          obtain ⟨cp, hcp⟩ : ∃ cp, cp = capB c := ⟨_, rfl⟩
          obtain ⟨dI, hdI⟩ : ∃ dI : Int, dI = (d : Int) := ⟨_, rfl⟩
          rw [← hd, ← hcp, ← hdI] at DC
          have d0 : 0 ≤ dI := by omega
          by_cases hdb : bI ≤ dI
          · have HE := Lib.hid (show readV R = .agg #[.bool false, .bool bg, .bool op, .int .u64 sz] from by rw [HR.out]; exact hinv.out.stop hc (by rw [← hd]; have := HBI.out; omega))
            have hgw : w.heap.size ≠ w1.heap.size := by omega
            have hwr := hw.trans (hbw.out.mono (Nat.le_of_lt hlt1))
            have hwr2 := hwr.setCell (Nat.le_of_lt hlt1) (p := ⟨w1.heap.size, 0, none⟩) (.bool false)
            clear hinv hd hdI hcp hc hwr
            have hwr := hwr2
            go_wp2_with (go_at_call 14; refine DC.out.mono ?_; rintro e w3 ⟨rfl, rfl⟩)
            all_goals first | (exfalso; omega) | skip
            refine bodyPost_ret (v := .agg #[.bool false, .bool bg, .bool op, .int .u64 sz]) (by simp [results, Tryd.results29, go_sem, z0, z1, z2, z3, k1, k2, k3, hgw, hgw.symm]) rfl ⟨by rw [HE.out], ?_⟩
            exact ((((hwr.setCell (Nat.le_refl _) _).setCell (Nat.le_refl _) _).setCell (Nat.le_refl _) _).setCell (Nat.le_refl _) _)
          · have hdb' : d < b := by have := HBI.out; omega
            obtain ⟨V, hV⟩ : ∃ V, V = foldV b (D.take i) 0 := ⟨_, rfl⟩
            have hnx := hinv.out.next hc (by rw [← hd]; exact hdb') (by omega)
            rw [← hd, ← hcp, ← hV] at hnx
            have hszV : sz = ((V % 18446744073709551616 : Nat) : Int) := by rw [hV]; exact hinv.out.size
            obtain ⟨pr, hpr⟩ : ∃ pr : Int, pr = sz * bI := ⟨_, rfl⟩
            obtain ⟨pm, hpm⟩ : ∃ pm : Int, pm = pr % 18446744073709551616 := ⟨_, rfl⟩
            obtain ⟨s2, hs2⟩ : ∃ s2 : Int, s2 = (((V * b + d) % 18446744073709551616 : Nat) : Int) := ⟨_, rfl⟩
            have hmul : sz * bI = pr := hpr.symm
            have hw1' : IntKind.u64.wrap pr = pm := by rw [IntKind.wrap_u64, hpm]
            have hw2' : IntKind.u64.wrap (pm + dI) = s2 := by rw [IntKind.wrap_u64, hpm, hs2]; exact read_size hpr hszV HBI.out hdI
            have hq : (18446744073709551615 - dI) / bI < sz ↔ 18446744073709551615 < sz * b + d := read_big HBI.out hdI b1 hs0
            rw [← hs2] at hnx
            have s20 : 0 ≤ s2 := by omega
            have s21 : s2 ≤ 18446744073709551615 := by omega
            have dd : dI ≤ 35 := by omega
            have hgw : w.heap.size ≠ w1.heap.size := by omega
            have pm0 : 0 ≤ pm := by omega
            have pm1 : pm ≤ 18446744073709551615 := by omega
            by_cases hbig : (18446744073709551615 - dI) / bI < sz
            · rw [show decide (18446744073709551615 < sz * (b : Int) + (d : Int)) = true by simpa using hq.1 hbig, Bool.or_true] at hnx
              have HNX := Lib.hid hnx
              clear hnx hd hdI hcp hc hinv hV hszV hpr hpm hs2 hq
              cases op
              · go_wp2_with (go_at_call 14; refine DC.out.mono ?_; rintro e w3 ⟨rfl, rfl⟩)
                all_goals first | (exfalso; omega) | skip
                go_quiet (fail)
                go_wp2_with fail
                all_goals first | (exfalso; omega) | skip
                go_roundw
                case rel => exact ⟨i + 1, true, cp, s2, by go_num, by omega, s20, s21, ((((hrd.out.set2 (.bool cp)).drewN nq).set1 (.bool true))).set3 (.int .u64 s2), (((hbw.out.setCell (Nat.le_refl _) (p := ⟨w1.heap.size, 2, none⟩) (.bool cp)).trans (below_drewN3 _ _ nq)).setCell (Nat.le_refl _) (p := ⟨w1.heap.size, 1, none⟩) (.bool true)).setCell (Nat.le_refl _) (p := ⟨w1.heap.size, 3, none⟩) (.int .u64 s2), HNX.out⟩
                case measure => simp [intOf]; omega
              · go_wp2_with (go_at_call 14; refine DC.out.mono ?_; rintro e w3 ⟨rfl, rfl⟩)
                all_goals first | (exfalso; omega) | skip
                go_quiet (fail)
                go_wp2_with fail
                all_goals first | (exfalso; omega) | skip
                go_roundw
                case rel => exact ⟨i + 1, true, true, s2, by go_num, by omega, s20, s21, ((((hrd.out.set2 (.bool true)).drewN nq).set1 (.bool true))).set3 (.int .u64 s2), (((hbw.out.setCell (Nat.le_refl _) (p := ⟨w1.heap.size, 2, none⟩) (.bool true)).trans (below_drewN3 _ _ nq)).setCell (Nat.le_refl _) (p := ⟨w1.heap.size, 1, none⟩) (.bool true)).setCell (Nat.le_refl _) (p := ⟨w1.heap.size, 3, none⟩) (.int .u64 s2), HNX.out⟩
                case measure => simp [intOf]; omega
            · rw [show decide (18446744073709551615 < sz * (b : Int) + (d : Int)) = false by rw [decide_eq_false_iff_not]; exact fun h => hbig (hq.2 h), Bool.or_false] at hnx
              have HNX := Lib.hid hnx
              clear hnx hd hdI hcp hc hinv hV hszV hpr hpm hs2 hq
              cases op
              · go_wp2_with (go_at_call 14; refine DC.out.mono ?_; rintro e w3 ⟨rfl, rfl⟩)
                all_goals first | (exfalso; omega) | skip
                go_quiet (fail)
                go_wp2_with fail
                all_goals first | (exfalso; omega) | skip
                go_roundw
                case rel => exact ⟨i + 1, bg, cp, s2, by go_num, by omega, s20, s21, ((hrd.out.set2 (.bool cp)).drewN nq).set3 (.int .u64 s2), (((hbw.out.setCell (Nat.le_refl _) (p := ⟨w1.heap.size, 2, none⟩) (.bool cp)).trans (below_drewN3 _ _ nq))).setCell (Nat.le_refl _) (p := ⟨w1.heap.size, 3, none⟩) (.int .u64 s2), HNX.out⟩
                case measure => simp [intOf]; omega
              · go_wp2_with (go_at_call 14; refine DC.out.mono ?_; rintro e w3 ⟨rfl, rfl⟩)
                all_goals first | (exfalso; omega) | skip
                go_quiet (fail)
                go_wp2_with fail
                all_goals first | (exfalso; omega) | skip
                go_roundw
                case rel => exact ⟨i + 1, bg, true, s2, by go_num, by omega, s20, s21, ((hrd.out.set2 (.bool true)).drewN nq).set3 (.int .u64 s2), (((hbw.out.setCell (Nat.le_refl _) (p := ⟨w1.heap.size, 2, none⟩) (.bool true)).trans (below_drewN3 _ _ nq))).setCell (Nat.le_refl _) (p := ⟨w1.heap.size, 3, none⟩) (.int .u64 s2), HNX.out⟩
                case measure => simp [intOf]; omega
        · obtain rfl : i = k := by omega
          have HE := Lib.hid (show readV R = .agg #[.bool gg, .bool bg, .bool op, .int .u64 sz] from by rw [HR.out, HGG.out, HEM.out]; exact hinv.out.fin (by rw [← HK.out]; exact Nat.le_refl _))
          have hgw : w.heap.size ≠ w1.heap.size := by omega
          have hwr := hw.trans (hbw.out.mono (Nat.le_of_lt hlt1))
          clear hinv
          go_wp2_with fail
          all_goals first | (exfalso; omega) | skip
          refine bodyPost_ret (v := .agg #[.bool gg, .bool bg, .bool op, .int .u64 sz]) (by simp [results, Tryd.results29, go_sem, z0, z1, z2, z3]) rfl ⟨by rw [HE.out], ?_⟩
          exact ((((hwr.setCell (Nat.le_refl _) _).setCell (Nat.le_refl _) _).setCell (Nat.le_refl _) _).setCell (Nat.le_refl _) _)
end Go.Proofs.YtlnokggbejfocaaDoor
