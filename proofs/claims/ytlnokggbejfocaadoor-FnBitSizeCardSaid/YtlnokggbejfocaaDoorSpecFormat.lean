/-
  Contracts: spec.FormatUint writes the digits of a number in a base.
-/
import Derived.Test.YtlnokggbejfocaaDoorPlainNum
import Derived.Test.YtlnokggbejfocaaDoorByteInfo
import Derived.Outline
import Derived.WalkKit
namespace Go.Proofs.YtlnokggbejfocaaDoor
set_option maxRecDepth 100000
open Go.RowKit
set_option linter.unusedVariables false
set_option linter.unusedSimpArgs false
theorem Own.form' {T B v xs W0 w} (h : Own T B v xs W0 w) (hn : 0 < xs.length) : ∃ g c, v = .slice (some ⟨g, 0, none⟩) xs.length c ∧ xs.length ≤ c ∧ c ≤ maxLen := by
  rcases h.1.2 with ⟨rfl, h0⟩ | ⟨g, cap, cur, rfl, _, _, h1, h2, _⟩
  · omega
  · exact ⟨g, cap, rfl, h1, h2⟩
def lenOf (v : Value) : Nat := match v with | .slice _ n _ => n | _ => 0
theorem bcells_set (l : List UInt8) (k : Nat) (b : UInt8) : bcells (l.set k b) = (bcells l).set k (.int .u8 b.toNat) := by simp [bcells, List.map_set]
theorem bcells_at {l : List UInt8} {k : Nat} {b : UInt8} (h : l[k]? = some b) : (bcells l)[k]? = some (.int .u8 b.toNat) := by simp [bcells, h]
theorem fmt_step {b u u0 : Nat} {D : List UInt8} (h2 : 2 ≤ b) (h : (D = [] ∧ u = u0) ∨ (D ≠ [] ∧ D ++ tailB b u = revB b u0)) (hgo : 0 < u ∨ D = []) : D ++ [dgc (u % b)] ++ tailB b (u / b) = revB b u0 := by
  rcases h with ⟨rfl, rfl⟩ | ⟨hD, h⟩
  · simpa using (revB_step h2).symm
  · have hu : u ≠ 0 := by
      rcases hgo with h | h
      · omega
      · exact absurd h hD
    rw [← h, List.append_assoc, tailB_step h2 hu]; rfl
theorem fmt_meas {b u n : Nat} (h2 : 2 ≤ b) (hgo : 0 < u ∨ n = 0) : u / b + 0 < u + (if n = 0 then 1 else 0) := by
  rcases Nat.eq_zero_or_pos u with h0 | h0
  · subst h0
    rw [if_pos (by omega), Nat.zero_div]; omega
  · have := Nat.div_lt_self h0 (show 1 < b by omega)
    omega
set_option maxHeartbeats 1000000 in
set_option maxRecDepth 100000 in
theorem specFormatUint_any (u0 b : Nat) (w : World) (h2 : 2 ≤ b) (h36 : b ≤ 36) (hu : u0 < 18446744073709551616) :
    Calls Tryd.prog 13 #[.int .u64 u0, .int .i64 b] w fun e w' => e = .returned (.string (str (digB b u0))) ∧ Below w.heap.size w w' := by
  obtain ⟨i0, hi, hz0, hz1, hz2⟩ := info_parts byte_info
  have HS := Lib.hid (own_start w 5)
  have HL := Lib.hid (revB_length_64 h2 hu)
  go_enter Tryd.func13, Tryd.ntmps13
  go_wp2
  go_loopw [0, 5, 6] (fun vu vo _ wr => ∃ (u : Nat) (D : List UInt8), vu = .int .u64 u ∧ u < 18446744073709551616 ∧ Hid (Own 5 w.heap.size vo (bcells D) w wr) ∧ Hid ((D = [] ∧ u = u0) ∨ (D ≠ [] ∧ D ++ tailB b u = revB b u0))) (fun vu vo _ _ => (intOf vu).toNat + (if lenOf vo = 0 then 1 else 0))
  case atStart => exact ⟨u0, [], rfl, hu, HS.out, .inl ⟨rfl, rfl⟩⟩
  case round =>
    obtain ⟨u, D, rfl, hu', ho, hrel'⟩ := hrel
    obtain ⟨A, c, rfl, hAc, hcm, _⟩ := ho.out.form
    obtain ⟨n, hn⟩ : ∃ n, n = (bcells D).length := ⟨_, rfl⟩
    have hn64 : n ≤ 64 := by
      rw [hn, bcells_length]
      rcases hrel'.out with ⟨rfl, _⟩ | ⟨_, h⟩
      · simp
      · have := HL.out; rw [← h, List.length_append] at this; omega
    rw [← hn] at ho hAc ⊢
    have hd0 : (0 : Int) ≤ (u : Int) % (b : Int) := Int.emod_nonneg _ (by omega)
    have hd1 : (u : Int) % (b : Int) < (b : Int) := Int.emod_lt_of_pos _ (by omega)
    have hq0 : (0 : Int) ≤ (u : Int) / (b : Int) := Int.ediv_nonneg (by omega) (by omega)
    have hq1 : (u : Int) / (b : Int) ≤ (u : Int) := Int.ediv_le_self _ (by omega)
    have HN := Lib.hid hn
    clear hn
    by_cases hgo : 0 < u ∨ n = 0
    · have hgoD : 0 < u ∨ D = [] := hgo.imp id fun h => by rw [HN.out, bcells_length] at h; exact List.eq_nil_of_length_eq_zero h
      have hstep := Lib.hid (fmt_step h2 hrel'.out hgoD)
      have hmeas := Lib.hid (fmt_meas (b := b) (u := u) (n := n) h2 hgo)
      have hcs := Lib.hid (bcells_append D [dgc (u % b)])
      have hmod : ((u % b : Nat) : Int) = (u : Int) % (b : Int) := Int.natCast_emod u b
      have hdiv : ((u / b : Nat) : Int) = (u : Int) / (b : Int) := Int.natCast_ediv u b
      have hdg : (dgc (u % b)).toNat = if u % b < 10 then 48 + u % b else 87 + u % b := dgc_toNat (by omega)
      have key : (0 < u) ∨ (u = 0 ∧ n = 0) := by omega
      have ho' := ho.out
      obtain ⟨L, hL⟩ : ∃ L, L = bcells D := ⟨_, rfl⟩
      rw [← hL] at ho' hcs HN
      have hL64 : L.length ≤ 64 := by rw [← HN.out]; exact hn64
      have HLL := Lib.hid hL
      clear hL
      have hval : bcells [dgc (u % b)] = [.int .u8 (((dgc (u % b)).toNat : Nat) : Int)] := rfl
      have HV := Lib.hid hval
      clear hval
      rcases key with hk | ⟨rfl, rfl⟩
      · by_cases h10 : (u : Int) % (b : Int) < 10
        · have HE := Lib.hid (show bcells [dgc (u % b)] = [.int .u8 (48 + (u : Int) % (b : Int))] by rw [HV.out, hdg, if_pos (by omega), Int.natCast_add, hmod]; rfl)
          clear hdg
          go_wp2_with (at_builtin; skip; refine wpList_own_push rfl _ _ 38 rfl w.heap.size 5 i0 _ 1 Tryd.underlying38 hi hz0 hz1 hz2 ?_ _ L rfl w _ _ ?_ ?_ ?_ ?_ ?_ ?_)
          all_goals first | exact ho' | rfl | omega | skip
          intro v2 w2 ho2
          go_wp2
          go_roundw
          case rel => exact ⟨u / b, D ++ [dgc (u % b)], by rw [hdiv], Nat.lt_of_le_of_lt (Nat.div_le_self u b) hu', by rw [hcs.out, HE.out]; exact ho2, .inr ⟨by simp, hstep.out⟩⟩
          case measure =>
            obtain ⟨A2, c2, rfl, _⟩ := ho2.form
            have hm' := hmeas.out
            simp only [lenOf, intOf, List.length_append, List.length_cons, List.length_nil, ← hdiv, Int.toNat_natCast]
            split at hm' <;> simp_all <;> omega
        · have HE := Lib.hid (show bcells [dgc (u % b)] = [.int .u8 (97 + (u : Int) % (b : Int) - 10)] by rw [HV.out, hdg, if_neg (by omega), Int.natCast_add, hmod, show (97 + (u : Int) % (b : Int) - 10) = ((87 : Nat) : Int) + (u : Int) % (b : Int) by omega])
          clear hdg
          go_wp2_with (at_builtin; skip; refine wpList_own_push rfl _ _ 38 rfl w.heap.size 5 i0 _ 1 Tryd.underlying38 hi hz0 hz1 hz2 ?_ _ L rfl w _ _ ?_ ?_ ?_ ?_ ?_ ?_)
          all_goals first | exact ho' | rfl | omega | skip
          intro v2 w2 ho2
          go_wp2
          go_roundw
          case rel => exact ⟨u / b, D ++ [dgc (u % b)], by rw [hdiv], Nat.lt_of_le_of_lt (Nat.div_le_self u b) hu', by rw [hcs.out, HE.out]; exact ho2, .inr ⟨by simp, hstep.out⟩⟩
          case measure =>
            obtain ⟨A2, c2, rfl, _⟩ := ho2.form
            have hm' := hmeas.out
            simp only [lenOf, intOf, List.length_append, List.length_cons, List.length_nil, ← hdiv, Int.toNat_natCast]
            split at hm' <;> simp_all <;> omega
      · have HE := Lib.hid (show bcells [dgc (0 % b)] = [.int .u8 48] by rw [Nat.zero_mod]; rfl)
        clear hdg hmod hd0 hd1 hq0 hq1
        have hzm : ((0 : Nat) : Int) % (b : Int) = 0 := by simp
        have hzd : ((0 : Nat) : Int) / (b : Int) = 0 := by simp
        go_wp2_with (at_builtin; skip; refine wpList_own_push rfl _ _ 38 rfl w.heap.size 5 i0 _ 1 Tryd.underlying38 hi hz0 hz1 hz2 ?_ _ L rfl w _ _ ?_ ?_ ?_ ?_ ?_ ?_)
        all_goals first | exact ho' | rfl | omega | skip
        intro v2 w2 ho2
        go_wp2
        go_roundw
        case rel => exact ⟨0 / b, D ++ [dgc (0 % b)], by rw [hdiv, hzd], by rw [Nat.zero_div]; omega, by rw [hcs.out, HE.out]; exact ho2, .inr ⟨by simp, hstep.out⟩⟩
        case measure =>
          obtain ⟨A2, c2, rfl, _⟩ := ho2.form
          have hm' := hmeas.out
          simp only [lenOf, intOf, List.length_append, List.length_cons, List.length_nil, ← hdiv, Int.toNat_natCast]
          split at hm' <;> simp_all <;> omega
    · have hu0 : u = 0 := by omega
      subst hu0
      have hnn : n ≠ 0 := by omega
      have hDn : D ≠ [] := fun h => hnn (by rw [HN.out, h]; rfl)
      have hrev : D = revB b u0 := by
        rcases hrel'.out with ⟨h, _⟩ | ⟨_, h⟩
        · exact absurd h hDn
        · rw [tailB_zero, List.append_nil] at h; exact h
      have hn0 : ¬ ((n : Int) = 0) := by omega
      obtain ⟨g, c', hgc, _, _⟩ := ho.out.form' (by rw [← HN.out]; omega)
      injection hgc with e1 e2 e3
      subst e1 e3
      have HR := Lib.hid hrev
      have hnD : n = D.length := by rw [HN.out, bcells_length]
      have HND := Lib.hid hnD
      clear hrev hDn hnD e2
      go_wp2
      go_loopw [7, 8] (fun vi _ wx => ∃ (i : Nat) (m : List UInt8), vi = .int .i64 i ∧ i ≤ n ∧ Hid (Own 5 w.heap.size (.slice (some ⟨g, 0, none⟩) n c) (bcells m) w wx) ∧ Hid (Swapped D m i)) (fun vi _ _ => n - (intOf vi).toNat)
      case atStart => exact ⟨0, D, rfl, Nat.zero_le _, ho.out, swapped_start D⟩
      case round =>
        obtain ⟨i, m, rfl, hin, hom, hsw⟩ := hrel
        have hml : m.length = n := by rw [hsw.out.1, ← HND.out]
        by_cases hlt : i < n / 2
        · obtain ⟨k, hk⟩ : ∃ k, k = n - 1 - i := ⟨_, rfl⟩
          have hki : i < k := by omega
          have hkn : k < n := by omega
          have hsub : (n : Int) - 1 - (i : Int) = (k : Int) := by omega
          obtain ⟨x, hx⟩ : ∃ x, m[i]? = some x := ⟨m[i]'(by omega), List.getElem?_eq_getElem (by omega)⟩
          obtain ⟨y, hy⟩ : ∃ y, m[k]? = some y := ⟨m[k]'(by omega), List.getElem?_eq_getElem (by omega)⟩
          obtain ⟨hcx, hfx⟩ := hom.out.at_ (bcells_at hx)
          obtain ⟨hcy, hfy⟩ := hom.out.at_ (bcells_at hy)
          have hnext := Lib.hid (swapped_next hsw.out (show i < D.length / 2 by rw [← HND.out]; exact hlt) hx (by rw [← HND.out, ← hk]; exact hy))
          rw [show D.length - 1 - i = k by rw [← HND.out, hk]] at hnext
          have hset := Lib.hid ((hom.out.set i (.int .u8 y.toNat)).set k (.int .u8 x.toNat))
          rw [← bcells_set, ← bcells_set] at hset
          have hcy2 : (wr.setCell ⟨g, i, none⟩ (.int .u8 y.toNat)).cell? ⟨g, k, none⟩ = some (.int .u8 y.toNat) := by
            rw [World.cell?_setCell_other _ _ _ _ (by simp <;> omega)]; exact hcy
          have hfy2 : (wr.setCell ⟨g, i, none⟩ (.int .u8 y.toNat)).frozen? ⟨g, k, none⟩ = false := ((hom.out.set i (.int .u8 y.toNat)).at_ (by rw [List.getElem?_set_ne (by omega)]; exact bcells_at hy)).2
          obtain ⟨X, hX⟩ : ∃ X : Int, X = (x.toNat : Int) := ⟨_, rfl⟩
          obtain ⟨Y, hY⟩ : ∃ Y : Int, Y = (y.toNat : Int) := ⟨_, rfl⟩
          rw [← hX] at hcx hset
          rw [← hY] at hcy hset hcy2 hfy2
          clear hX hY hk hx hy
          have hltI : (i : Int) < (n : Int) / 2 := by omega
          go_wp2
          go_roundw
          case rel => exact ⟨i + 1, _, by go_num, by omega, hset.out, hnext.out⟩
          case measure => simp [intOf]; omega
        · have hfin := swapped_end hsw.out (by rw [← HND.out]; omega)
          have hme : m = digB b u0 := by rw [hfin, HR.out]; rfl
          have hrd := hom.out.form
          have hbel := Lib.hid hom.out.isBelow
          have hcv : (convert 38 9 (.slice (some ⟨g, 0, none⟩) n c)).run Tryd.prog wr = .ok (.string (str m)) wr := by
            obtain ⟨A', c', hv, _, _, hr⟩ := hom.out.form
            injection hv with e1 e2 e3
            subst e1 e3
            rw [← hml]
            rw [bcells_length] at hr
            exact run_convert_reads (P := Tryd.prog) wr 38 5 9 Tryd.underlying38 Tryd.underlying5 Tryd.underlying9 c hr
          rw [hme] at hcv
          have hltI : ¬ (i : Int) < (n : Int) / 2 := by omega
          clear hrd hfin hme
          go_wp2
          go_ret
          exact ⟨rfl, hbel.out⟩
theorem specFormatUint_int (x : Int) (b : Nat) (w : World) (h2 : 2 ≤ b) (h36 : b ≤ 36) (h0 : 0 ≤ x) (h1 : x < 18446744073709551616) :
    Calls Tryd.prog 13 #[.int .u64 x, .int .i64 b] w fun e w' => e = .returned (.string (str (digB b x.toNat))) ∧ Below w.heap.size w w' := by
  obtain ⟨n, rfl⟩ : ∃ n : Nat, x = n := ⟨x.toNat, by omega⟩
  exact specFormatUint_any n b w h2 h36 (by omega)
end Go.Proofs.YtlnokggbejfocaaDoor
