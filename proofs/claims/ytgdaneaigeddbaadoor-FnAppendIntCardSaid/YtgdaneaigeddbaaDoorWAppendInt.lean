/-
  The walk of laws.FnAppendInt: it returns true.
-/
import Derived.Test.YtgdaneaigeddbaaDoorApp
import Derived.Test.YtgdaneaigeddbaaDoorNumRange
import Derived.Deep.RegionHeld3
import Derived.Deep.QuietTactic
import Derived.BigQuiet
namespace Go.Proofs.YtgdaneaigeddbaaDoor.fnAppendInt
open Go.RowKit
set_option linter.unusedVariables false
theorem below_drewN (w : World) (n : Nat) : Below w.heap.size w (w.drewN n) := ⟨rfl, rfl, rfl, Nat.le_refl _, fun _ _ => rfl⟩
set_option linter.unusedSimpArgs false
set_option maxHeartbeats 4000000 in
theorem walk (w : World) (A : Option Addr) (c : Nat) (l : List UInt8) (hr : Reads w w.heap.size 1 A l.length (bcells l)) (hl : l.length ≤ 140737488351232) (x : Int) (hx : (Lit.int .i64 x).wf = true) (base : Int) (hbase : (Lit.int .i64 base).wf = true) (hL : laidMetH Tryd.prog Rows.fnAppendIntRow.laid w) :
    Calls Tryd.prog 9 #[.slice A l.length c, .int .i64 x, .int .i64 base] w fun e w' => e = .returned (.bool true) ∧ Below w.heap.size w w' := by
  have hT : NumT w := ⟨pow10T_of hL (by kernel_rfl) (by simp [Rows.fnAppendIntRow]), bruT_of hL (by kernel_rfl) (by simp [Rows.fnAppendIntRow])⟩
  have hx : -9223372036854775808 ≤ x ∧ x ≤ 9223372036854775807 := wf_i64 hx
  have hbase := wf_i64 hbase
  clear hL
  rcases base_cases base with h | h | ⟨b, rfl, h2, h36⟩
  · have g1 : decide (base < 2) = true := by simpa using h
    go_enter Tryd.func9, Tryd.ntmps9
    go_wp2_with fail
    go_quiet (fail)
    go_wp2_with fail
    go_ret
    exact ⟨rfl, below_drewN _ _⟩
  · have g1 : decide (base < 2) = false := by simp; omega
    have g2 : decide (36 < base) = true := by simpa using h
    go_enter Tryd.func9, Tryd.ntmps9
    go_wp2_with fail
    go_quiet (fail)
    go_wp2_with fail
    go_ret
    exact ⟨rfl, below_drewN _ _⟩
  · have g1 : decide ((b : Int) < 2) = false := by simp; omega
    have g2 : decide (36 < (b : Int)) = false := by simp; omega
    have hcv : ∀ wx : World, Below w.heap.size w wx → (convert 31 9 (.slice A l.length c)).run Tryd.prog wx = .ok (.string (str l)) wx :=
      fun wx hb => run_convert_reads (P := Tryd.prog) wx 31 5 9 Tryd.underlying31 Tryd.underlying5 Tryd.underlying9 c (hr.below hb)
    obtain ⟨L, hL⟩ : ∃ L, L = l ++ fmtI b x := ⟨_, rfl⟩
    have C0 := AppendInt_any x b A c l w.drew h2 h36 hx.1 hx.2 (hT.below ((Below.refl _ _).drew)) hr.drew (by omega)
    skip
    rw [← hL] at C0
    have C1 := Lib.hid (show Calls Tryd.prog 18 #[.slice A l.length c, .int .i64 x, .int .i64 b] w.drew fun e w' => ∃ v', e = .returned v' ∧ Own 5 w.heap.size v' (bcells L) w w' from
      C0.mono fun e w' ⟨v', h1, h2⟩ => ⟨v', h1, Own.since h2 ((Below.refl _ _).drew)⟩)
    have D := Lib.hid (fun wx => specFormatInt_any x b wx h2 h36 hx.1 hx.2)
    have hlen := fmtI_length (b := b) (i := x) h2 hx.1 hx.2
    obtain ⟨M, hM⟩ : ∃ M, M = fmtI b x := ⟨_, rfl⟩
    rw [← hM] at D hlen hL
    have HL := Lib.hid hL; clear hL
    have hcv0 := hcv w.drew ((Below.refl _ _).drew)
    have hsum : ¬ 9223372036854775807 < (str l).size + (str M).size := by rw [size_str, size_str]; omega
    have he : str l ++ str M = str L := by rw [str_append, HL.out]
    obtain ⟨n, hn⟩ : ∃ n, n = l.length := ⟨_, rfl⟩
    rw [← hn] at hcv hcv0 C1 ⊢
    clear hM hT C0 hlen hr hl hn HL
    go_enter Tryd.func9, Tryd.ntmps9
    go_wp2_with fail
    refine wp_region_held_drew (S := fun w' => (convert 31 9 (.slice A n c)).run Tryd.prog w' = .ok (.string (str l)) w') (by kernel_rfl) hcv0 (fun hHeld => ?_)
    refine wpAnyH_take (i := 0) (oi := ⟨some 7, _, _, _, _, _⟩) (v := ?_) rfl (by kernel_rfl) (by kernel_rfl) (by kernel_rfl) (fun _ _ _ h => h) (Or.inl ⟨by kernel_rfl, ?_⟩) (by assumption) ?_
    case refine_2 => (intro w hSw; (try dsimp only at hSw); go_simp; (try with_reducible rfl))
    try simp only [Act.put, List.setIfInBounds_toArray, List.set_cons_zero, List.set_cons_succ]
    refine wpAnyH_take (i := 1) (oi := ⟨some 8, _, _, _, _, _⟩) (v := ?_) rfl (by kernel_rfl) (by kernel_rfl) (by kernel_rfl) (fun _ _ _ h => h) (Or.inl ⟨by kernel_rfl, ?_⟩) (by assumption) ?_
    case refine_2 => (intro w hSw; (try dsimp only at hSw); go_simp; (try with_reducible rfl))
    try simp only [Act.put, List.setIfInBounds_toArray, List.set_cons_zero, List.set_cons_succ]
    refine wpAnyH_take (i := 2) (oi := ⟨some 9, _, _, _, _, _⟩) (v := ?_) rfl (by kernel_rfl) (by kernel_rfl) (by kernel_rfl) (fun _ _ _ h => h) (Or.inl ⟨by kernel_rfl, ?_⟩) (by assumption) ?_
    case refine_2 => (intro w hSw; (try dsimp only at hSw); go_simp; (try with_reducible rfl))
    try simp only [Act.put, List.setIfInBounds_toArray, List.set_cons_zero, List.set_cons_succ]
    refine wpAnyH_take (i := 3) (oi := ⟨some 10, _, _, _, _, _⟩) (v := ?_) rfl (by kernel_rfl) (by kernel_rfl) (by kernel_rfl) (fun _ _ _ h => h) (Or.inl ⟨by kernel_rfl, ?_⟩) (by assumption) ?_
    case refine_2 => (intro w hSw; (try dsimp only at hSw); go_simp; (try with_reducible rfl))
    try simp only [Act.put, List.setIfInBounds_toArray, List.set_cons_zero, List.set_cons_succ]
    refine wpAnyH_take (i := 4) (oi := ⟨some 11, _, _, _, _, _⟩) (v := ?_) rfl (by kernel_rfl) (by kernel_rfl) (by kernel_rfl) (fun _ _ _ h => h) (Or.inl ⟨by kernel_rfl, ?_⟩) (by assumption) ?_
    case refine_2 => (intro w hSw; (try dsimp only at hSw); go_simp; (try with_reducible rfl))
    try simp only [Act.put, List.setIfInBounds_toArray, List.set_cons_zero, List.set_cons_succ]
    refine wpAnyH_take (i := 5) (oi := ⟨some 12, _, _, _, _, _⟩) (v := ?_) rfl (by kernel_rfl) (by kernel_rfl) (by kernel_rfl) (fun _ _ _ h => h) (Or.inl ⟨by kernel_rfl, ?_⟩) (by assumption) ?_
    case refine_2 => (intro w hSw; (try dsimp only at hSw); go_simp; (try with_reducible rfl))
    try simp only [Act.put, List.setIfInBounds_toArray, List.set_cons_zero, List.set_cons_succ]
    refine wpAnyH_take (i := 6) (oi := ⟨some 13, _, _, _, _, _⟩) (v := ?_) rfl (by kernel_rfl) (by kernel_rfl) (by kernel_rfl) (fun _ _ _ h => h) (Or.inl ⟨by kernel_rfl, ?_⟩) (by assumption) ?_
    case refine_2 => (intro w hSw; (try dsimp only at hSw); go_simp; (try with_reducible rfl))
    try simp only [Act.put, List.setIfInBounds_toArray, List.set_cons_zero, List.set_cons_succ]
    refine wpAnyH_take (i := 7) (oi := ⟨some 14, _, _, _, _, _⟩) (v := ?_) rfl (by kernel_rfl) (by kernel_rfl) (by kernel_rfl) (fun _ _ _ h => h) (Or.inl ⟨by kernel_rfl, ?_⟩) (by assumption) ?_
    case refine_2 => (intro w hSw; (try dsimp only at hSw); go_simp; (try with_reducible rfl))
    try simp only [Act.put, List.setIfInBounds_toArray, List.set_cons_zero, List.set_cons_succ]
    refine wpAnyH_take (i := 8) (oi := ⟨some 15, _, _, _, _, _⟩) (v := ?_) rfl (by kernel_rfl) (by kernel_rfl) (by kernel_rfl) (fun _ _ _ h => h) (Or.inl ⟨by kernel_rfl, ?_⟩) (by assumption) ?_
    case refine_2 => (intro w hSw; (try dsimp only at hSw); go_simp; (try with_reducible rfl))
    try simp only [Act.put, List.setIfInBounds_toArray, List.set_cons_zero, List.set_cons_succ]
    refine wpAnyH_take (i := 9) (oi := ⟨some 16, _, _, _, _, _⟩) (v := ?_) rfl (by kernel_rfl) (by kernel_rfl) (by kernel_rfl) (fun _ _ _ h => h) (Or.inl ⟨by kernel_rfl, ?_⟩) (by assumption) ?_
    case refine_2 => (intro w hSw; (try dsimp only at hSw); go_simp; (try with_reducible rfl))
    try simp only [Act.put, List.setIfInBounds_toArray, List.set_cons_zero, List.set_cons_succ]
    refine wpAnyH_take (i := 12) (oi := ⟨some 19, _, _, _, _, _⟩) (v := ?_) rfl (by kernel_rfl) (by kernel_rfl) (by kernel_rfl) (fun _ _ _ h => h) (Or.inl ⟨by kernel_rfl, ?_⟩) (by assumption) ?_
    case refine_2 => (intro w hSw; (try dsimp only at hSw); go_simp; (try with_reducible rfl))
    try simp only [Act.put, List.setIfInBounds_toArray, List.set_cons_zero, List.set_cons_succ]
    refine wpAnyH_take (i := 13) (oi := ⟨some 20, _, _, _, _, _⟩) (v := ?_) rfl (by kernel_rfl) (by kernel_rfl) (by kernel_rfl) (fun _ _ _ h => h) (Or.inl ⟨by kernel_rfl, ?_⟩) (by assumption) ?_
    case refine_2 => (intro w hSw; (try dsimp only at hSw); go_simp; (try with_reducible rfl))
    try simp only [Act.put, List.setIfInBounds_toArray, List.set_cons_zero, List.set_cons_succ]
    refine wpAnyH_take (i := 14) (oi := ⟨some 21, _, _, _, _, _⟩) (v := ?_) rfl (by kernel_rfl) (by kernel_rfl) (by kernel_rfl) (fun _ _ _ h => h) (Or.inl ⟨by kernel_rfl, ?_⟩) (by assumption) ?_
    case refine_2 => (intro w hSw; (try dsimp only at hSw); go_simp; (try with_reducible rfl))
    try simp only [Act.put, List.setIfInBounds_toArray, List.set_cons_zero, List.set_cons_succ]
    refine wpAnyH_take (i := 15) (oi := ⟨some 22, _, _, _, _, _⟩) (v := ?_) rfl (by kernel_rfl) (by kernel_rfl) (by kernel_rfl) (fun _ _ _ h => h) (Or.inl ⟨by kernel_rfl, ?_⟩) (by assumption) ?_
    case refine_2 => (intro w hSw; (try dsimp only at hSw); go_simp; (try with_reducible rfl))
    try simp only [Act.put, List.setIfInBounds_toArray, List.set_cons_zero, List.set_cons_succ]
    refine wpAnyH_ready (rs := [10]) (by kernel_rfl) (by simp) ?_
    refine AllReadyH.cons rfl (fun K hK => ?_) AllReadyH.nil
    go_simp
    (go_at_call 18; refine C1.out.mono ?_; rintro e w1 ⟨v1, rfl, hob⟩; have hba := hob.isBelow; have hbz := hob.base; obtain ⟨A1, c1, hv1, _, _, hr1⟩ := hob.form; rw [bcells_length] at hv1 hr1; have hk1 := run_convert_reads (P := Tryd.prog) w1 31 5 9 Tryd.underlying31 Tryd.underlying5 Tryd.underlying9 c1 hr1; have HK := Lib.hid (fun wx hb => run_convert_reads (P := Tryd.prog) wx 31 5 9 Tryd.underlying31 Tryd.underlying5 Tryd.underlying9 c1 (hr1.below hb)); rw [hv1]; clear hob hr1 hv1; obtain ⟨n1, hn1⟩ : ∃ n1, n1 = L.length := ⟨_, rfl⟩; rw [← hn1] at hk1 HK ⊢; clear hn1)
    go_wp2_with fail
    refine hK.out _ _ ?_ (fun hHeld => ?_)
    case refine_1 => (first | exact hcv _ hba | exact hcv _ hbb)
    clear hK K
    try simp only [Act.put, List.setIfInBounds_toArray, List.set_cons_zero, List.set_cons_succ]
    refine wpAnyH_ready (rs := [11, 16]) (by kernel_rfl) (by simp) ?_
    refine AllReadyH.cons rfl (fun K hK => ?_) (AllReadyH.cons rfl (fun K hK => ?_) AllReadyH.nil)
    · skip
      go_simp
      refine hK.out _ _ ?_ (fun hHeld => ?_)
      case refine_1 => (first | exact hcv _ hba | exact hcv _ hbb)
      clear hK K
      try simp only [Act.put, List.setIfInBounds_toArray, List.set_cons_zero, List.set_cons_succ]
      refine wpAnyH_ready (rs := [16]) (by kernel_rfl) (by simp) ?_
      refine AllReadyH.cons rfl (fun K hK => ?_) AllReadyH.nil
      go_simp
      (go_at_call 16; refine (D.out w1).mono ?_; rintro e w2 ⟨rfl, hw2⟩; have hbb := hba.trans (hw2.mono hbz); have hk2 := HK.out w2 hw2; clear hk1)
      go_wp2_with fail
      refine hK.out _ _ ?_ (fun hHeld => ?_)
      case refine_1 => (first | exact hcv _ hba | exact hcv _ hbb)
      clear hK K
      try simp only [Act.put, List.setIfInBounds_toArray, List.set_cons_zero, List.set_cons_succ]
      refine wpAnyH_take (i := 17) (oi := ⟨some 24, _, _, _, _, _⟩) (v := ?_) rfl (by kernel_rfl) (by kernel_rfl) (by kernel_rfl) (fun _ _ _ h => h) (Or.inl ⟨by kernel_rfl, ?_⟩) (by assumption) ?_
      case refine_2 => (intro w hSw; (try dsimp only at hSw); go_simp; (try with_reducible rfl))
      try simp only [Act.put, List.setIfInBounds_toArray, List.set_cons_zero, List.set_cons_succ]
      refine wpAnyH_take (i := 18) (oi := ⟨some 25, _, _, _, _, _⟩) (v := ?_) rfl (by kernel_rfl) (by kernel_rfl) (by kernel_rfl) (fun _ _ _ h => h) (Or.inl ⟨by kernel_rfl, ?_⟩) (by assumption) ?_
      case refine_2 => (intro w hSw; (try dsimp only at hSw); go_simp; (try with_reducible rfl))
      try simp only [Act.put, List.setIfInBounds_toArray, List.set_cons_zero, List.set_cons_succ]
      refine wpAnyH_take (i := 19) (oi := ⟨some 26, _, _, _, _, _⟩) (v := ?_) rfl (by kernel_rfl) (by kernel_rfl) (by kernel_rfl) (fun _ _ _ h => h) (Or.inl ⟨by kernel_rfl, ?_⟩) (by assumption) ?_
      case refine_2 => (intro w hSw; (try dsimp only at hSw); go_simp; (try with_reducible rfl))
      try simp only [Act.put, List.setIfInBounds_toArray, List.set_cons_zero, List.set_cons_succ]
      refine wpAnyH_take (i := 20) (oi := ⟨some 6, _, _, _, _, _⟩) (v := ?_) rfl (by kernel_rfl) (by kernel_rfl) (by kernel_rfl) (fun _ _ _ h => h) (Or.inl ⟨by kernel_rfl, ?_⟩) (by assumption) ?_
      case refine_2 => (intro w hSw; (try dsimp only at hSw); go_simp; (try with_reducible rfl))
      try simp only [Act.put, List.setIfInBounds_toArray, List.set_cons_zero, List.set_cons_succ]
      refine wpAnyH_done (by kernel_rfl) ?_ _
      go_wp2_with fail
      go_ret
      exact ⟨rfl, hbb⟩
    · skip
      go_simp
      (go_at_call 16; refine (D.out w1).mono ?_; rintro e w2 ⟨rfl, hw2⟩; have hbb := hba.trans (hw2.mono hbz); have hk2 := HK.out w2 hw2; clear hk1)
      go_wp2_with fail
      refine hK.out _ _ ?_ (fun hHeld => ?_)
      case refine_1 => (first | exact hcv _ hba | exact hcv _ hbb)
      clear hK K
      try simp only [Act.put, List.setIfInBounds_toArray, List.set_cons_zero, List.set_cons_succ]
      refine wpAnyH_take (i := 17) (oi := ⟨some 24, _, _, _, _, _⟩) (v := ?_) rfl (by kernel_rfl) (by kernel_rfl) (by kernel_rfl) (fun _ _ _ h => h) (Or.inl ⟨by kernel_rfl, ?_⟩) (by assumption) ?_
      case refine_2 => (intro w hSw; (try dsimp only at hSw); go_simp; (try with_reducible rfl))
      try simp only [Act.put, List.setIfInBounds_toArray, List.set_cons_zero, List.set_cons_succ]
      refine wpAnyH_ready (rs := [11]) (by kernel_rfl) (by simp) ?_
      refine AllReadyH.cons rfl (fun K hK => ?_) AllReadyH.nil
      go_simp
      refine hK.out _ _ ?_ (fun hHeld => ?_)
      case refine_1 => (first | exact hcv _ hba | exact hcv _ hbb)
      clear hK K
      try simp only [Act.put, List.setIfInBounds_toArray, List.set_cons_zero, List.set_cons_succ]
      refine wpAnyH_take (i := 18) (oi := ⟨some 25, _, _, _, _, _⟩) (v := ?_) rfl (by kernel_rfl) (by kernel_rfl) (by kernel_rfl) (fun _ _ _ h => h) (Or.inl ⟨by kernel_rfl, ?_⟩) (by assumption) ?_
      case refine_2 => (intro w hSw; (try dsimp only at hSw); go_simp; (try with_reducible rfl))
      try simp only [Act.put, List.setIfInBounds_toArray, List.set_cons_zero, List.set_cons_succ]
      refine wpAnyH_take (i := 19) (oi := ⟨some 26, _, _, _, _, _⟩) (v := ?_) rfl (by kernel_rfl) (by kernel_rfl) (by kernel_rfl) (fun _ _ _ h => h) (Or.inl ⟨by kernel_rfl, ?_⟩) (by assumption) ?_
      case refine_2 => (intro w hSw; (try dsimp only at hSw); go_simp; (try with_reducible rfl))
      try simp only [Act.put, List.setIfInBounds_toArray, List.set_cons_zero, List.set_cons_succ]
      refine wpAnyH_take (i := 20) (oi := ⟨some 6, _, _, _, _, _⟩) (v := ?_) rfl (by kernel_rfl) (by kernel_rfl) (by kernel_rfl) (fun _ _ _ h => h) (Or.inl ⟨by kernel_rfl, ?_⟩) (by assumption) ?_
      case refine_2 => (intro w hSw; (try dsimp only at hSw); go_simp; (try with_reducible rfl))
      try simp only [Act.put, List.setIfInBounds_toArray, List.set_cons_zero, List.set_cons_succ]
      refine wpAnyH_done (by kernel_rfl) ?_ _
      go_wp2_with fail
      go_ret
      exact ⟨rfl, hbb⟩
end Go.Proofs.YtgdaneaigeddbaaDoor.fnAppendInt
