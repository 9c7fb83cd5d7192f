/-
  Contracts: strconv.unquote at a quoted text in which nothing is escaped. Printed by wip/gen/unq.py.
-/
import Derived.Test.YthbnglkpkgpojaaDoorUnqBase
import Derived.Test.YthbnglkpkgpojaaDoorValid
namespace Go.Proofs.YthbnglkpkgpojaaDoor
open Go.RowKit
set_option maxRecDepth 1000000
set_option linter.unusedVariables false
set_option linter.unusedSimpArgs false

set_option maxHeartbeats 16000000 in
theorem unq_pl34 {st : Int → Bool} (hs : OkSt st) (es : List Int) (hv : ∀ r ∈ es, valE r) (hp : ∀ r ∈ es, plainE 34 st r) (hlen : (quoteL 34 st es).length ≤ 100000000) (w : World) (hU : Utf8T w) :
    Calls Tryd.prog 58 #[.string (str (quoteL 34 st es)), .bool true] w fun e w' => e = .returned (unqV (es.flatMap bytesE)) ∧ Below w.heap.size w w' := by
  obtain ⟨h1, h2, h3, h4, h5⟩ := unq_plain hs (q := 34) (.inl rfl) es hv hp
  have hin : quoteL 34 st es = 34 :: (es.flatMap bytesE ++ [34]) := by rw [quoteL_eq, h5]; rfl
  rw [hin] at h2 h3 hlen ⊢
  rw [h5, show byteZ 34 = 34 from rfl] at h1
  rw [h5] at h4
  obtain ⟨F, hF⟩ : ∃ F, F = es.flatMap bytesE := ⟨_, rfl⟩
  rw [← hF] at h1 h2 h3 h4 hlen ⊢
  obtain ⟨R, hR⟩ : ∃ R, R = F ++ [34] := ⟨_, rfl⟩
  rw [← hR] at h1 h2 h3 hlen ⊢
  obtain ⟨m, hm⟩ : ∃ m, m = F.length := ⟨_, rfl⟩
  have hRm : R.length = m + 1 := by rw [hR, hm]; simp
  rw [← hm] at h1
  have hidx := idx_str0 (P := Tryd.prog) 9 Tryd.underlying9 (l := 34 :: R) (c := 34) rfl
  rw [show (((34 : UInt8).toNat : Nat) : Int) = 34 from rfl] at hidx
  have hsl1 := slice_str1 (P := Tryd.prog) 9 Tryd.underlying9 (34 :: R) (by simp)
  rw [show (34 :: R).drop 1 = R from rfl] at hsl1
  have hto : ∀ wx, (Instr.slice 9 (.string (str (34 :: R))) none (some (.int .i64 ((m : Int) + 2))) none).run Tryd.prog wx = .ok (.string (str (34 :: R))) wx := fun wx => by
    have := slice_str_to (P := Tryd.prog) 9 Tryd.underlying9 .i64 (34 :: R) (m + 2) (by simp; omega) wx
    rw [List.take_of_length_le (by simp; omega)] at this; exact this
  have hmid : ∀ wx, (Instr.slice 9 (.string (str (34 :: R))) (some (.int .i64 1)) (some (.int .i64 ((m : Int) + 1))) none).run Tryd.prog wx = .ok (.string (str F)) wx := fun wx => by
    have := slice_str (P := Tryd.prog) 9 Tryd.underlying9 .i64 .i64 (34 :: R) 1 (m + 1) (by omega) (by simp; omega) wx
    rw [show ((34 :: R).drop 1).take (m + 1 - 1) = F by rw [hR, hm]; simp] at this; exact this
  have hmid2 : ∀ wx, (Instr.slice 9 (.string (str (34 :: R))) (some (.int .i64 1)) (some (.int .i64 ((m : Int) + 2 - 1))) none).run Tryd.prog wx = .ok (.string (str F)) wx := fun wx => by
    have := hmid wx
    rwa [show (m : Int) + 1 = (m : Int) + 2 - 1 by omega] at this
  have hfrom : ∀ wx, (Instr.slice 9 (.string (str (34 :: R))) (some (.int .i64 ((m : Int) + 2))) none none).run Tryd.prog wx = .ok (.string (str [])) wx := fun wx => by
    have := slice_str_from (P := Tryd.prog) 9 Tryd.underlying9 .i64 (34 :: R) (m + 2) (by simp; omega) wx
    rw [List.drop_of_length_le (by simp; omega)] at this; exact this
  have CI := Lib.hid (index_any R 34 34 rfl w)
  rw [h1] at CI
  have CC := Lib.hid (contains_any (34 :: R) 92 92 rfl false (by rw [h2]; rfl) w)
  have CN := Lib.hid (contains_any (34 :: R) 10 10 rfl false (by rw [h3]; rfl) w)
  have CV := Tryd.utf8_ValidString (str F) w (by rw [size_str]; simp at hlen; omega) hU
  rw [toList_str, h4] at CV
  have CV := Lib.hid CV
  obtain ⟨n, hnn⟩ : ∃ n, n = (34 :: R).length := ⟨_, rfl⟩
  have eL : (str (34 :: R)).size = n := by rw [size_str, hnn]
  have n2 : n = m + 2 := by rw [hnn]; simp; omega
  rw [← hnn] at hlen
  obtain ⟨l, hl⟩ : ∃ l, l = 34 :: R := ⟨_, rfl⟩
  rw [← hl] at hidx hsl1 hto hmid hmid2 hfrom eL CC CN ⊢
  have n3 : 2 ≤ n := by omega
  have m9 : m ≤ 100000000 := by omega
  clear h1 h2 h3 h4 h5 hin hF hR hm hRm hnn hl hs hv hp hU n2
  go_enter Tryd.func58, Tryd.ntmps58
  go_big_wp2_with (first
    | (go_at_call 70; refine CI.out.mono ?_; rintro e w1 ⟨rfl, rfl⟩)
    | (go_at_call 71; first | (refine CC.out.mono ?_; rintro e w1 ⟨rfl, rfl⟩) | (refine CN.out.mono ?_; rintro e w1 ⟨rfl, rfl⟩))
    | (go_at_call 72; refine CV.out.mono ?_; rintro e w1 ⟨rfl, hw1⟩))
  clear hto hmid hmid2 hidx hsl1 CI CC CN CV eL n3 hlen
  obtain ⟨E, hE⟩ : ∃ E : Int, E = (m : Int) + 2 := ⟨_, rfl⟩
  rw [← hE] at hfrom ⊢
  clear hE m9
  go_quiet (fail)
  go_big_wp2_with fail
  go_ret3
  exact ⟨rfl, hw1.trans ((below_drewN _ _).mono hw1.size)⟩
set_option maxHeartbeats 16000000 in
theorem unq_pl39 {st : Int → Bool} (hs : OkSt st) (r : Int) (hvr : valE r) (hp : ∀ x ∈ [r], plainE 39 st x) (hlen : (quoteL 39 st [r]).length ≤ 100000000) (w : World) (hU : Utf8T w) :
    Calls Tryd.prog 58 #[.string (str (quoteL 39 st [r])), .bool true] w fun e w' => e = .returned (unqV ([r].flatMap bytesE)) ∧ Below w.heap.size w w' := by
  have hv : ∀ x ∈ [r], valE x := fun x hx => by
    have e : x = r := by simpa using hx
    rw [e]; exact hvr
  obtain ⟨h1, h2, h3, h4, h5⟩ := unq_plain hs (q := 39) (.inr rfl) [r] hv hp
  have hin : quoteL 39 st [r] = 39 :: ([r].flatMap bytesE ++ [39]) := by rw [quoteL_eq, h5]; rfl
  rw [hin] at h2 h3 hlen ⊢
  rw [h5, show byteZ 39 = 39 from rfl] at h1
  rw [h5] at h4
  have hpr := hp r (by simp)
  have hcp := plain_cp hs hvr hpr
  have hFr : [r].flatMap bytesE = encL r := by simp [bytesE]; exact fun h => absurd (cp_bounds hcp).1 (by omega)
  have CD := Tryd.utf8_DecodeRuneInString (str (encL r)) w hU
  have hdd := decL_enc hcp []
  rw [List.append_nil] at hdd
  rw [decodeGo_str (encL_ne r), hdd.1, hdd.2, ← hFr] at CD
  have hw65 : r = 65533 → ([r].flatMap bytesE).length = 3 := fun h => by rw [hFr, h]; rfl
  obtain ⟨F, hF⟩ : ∃ F, F = [r].flatMap bytesE := ⟨_, rfl⟩
  rw [← hF] at h1 h2 h3 h4 hlen ⊢
  rw [← hF] at CD hw65
  obtain ⟨R, hR⟩ : ∃ R, R = F ++ [39] := ⟨_, rfl⟩
  rw [← hR] at h1 h2 h3 hlen ⊢
  obtain ⟨m, hm⟩ : ∃ m, m = F.length := ⟨_, rfl⟩
  have hRm : R.length = m + 1 := by rw [hR, hm]; simp
  rw [← hm] at h1 CD hw65
  have hidx := idx_str0 (P := Tryd.prog) 9 Tryd.underlying9 (l := 39 :: R) (c := 39) rfl
  rw [show (((39 : UInt8).toNat : Nat) : Int) = 39 from rfl] at hidx
  have hsl1 := slice_str1 (P := Tryd.prog) 9 Tryd.underlying9 (39 :: R) (by simp)
  rw [show (39 :: R).drop 1 = R from rfl] at hsl1
  have hto : ∀ wx, (Instr.slice 9 (.string (str (39 :: R))) none (some (.int .i64 ((m : Int) + 2))) none).run Tryd.prog wx = .ok (.string (str (39 :: R))) wx := fun wx => by
    have := slice_str_to (P := Tryd.prog) 9 Tryd.underlying9 .i64 (39 :: R) (m + 2) (by simp; omega) wx
    rw [List.take_of_length_le (by simp; omega)] at this; exact this
  have hmid : ∀ wx, (Instr.slice 9 (.string (str (39 :: R))) (some (.int .i64 1)) (some (.int .i64 ((m : Int) + 1))) none).run Tryd.prog wx = .ok (.string (str F)) wx := fun wx => by
    have := slice_str (P := Tryd.prog) 9 Tryd.underlying9 .i64 .i64 (39 :: R) 1 (m + 1) (by omega) (by simp; omega) wx
    rw [show ((39 :: R).drop 1).take (m + 1 - 1) = F by rw [hR, hm]; simp] at this; exact this
  have hmid2 : ∀ wx, (Instr.slice 9 (.string (str (39 :: R))) (some (.int .i64 1)) (some (.int .i64 ((m : Int) + 2 - 1))) none).run Tryd.prog wx = .ok (.string (str F)) wx := fun wx => by
    have := hmid wx
    rwa [show (m : Int) + 1 = (m : Int) + 2 - 1 by omega] at this
  have hfrom : ∀ wx, (Instr.slice 9 (.string (str (39 :: R))) (some (.int .i64 ((m : Int) + 2))) none none).run Tryd.prog wx = .ok (.string (str [])) wx := fun wx => by
    have := slice_str_from (P := Tryd.prog) 9 Tryd.underlying9 .i64 (39 :: R) (m + 2) (by simp; omega) wx
    rw [List.drop_of_length_le (by simp; omega)] at this; exact this
  have CI := Lib.hid (index_any R 39 39 rfl w)
  rw [h1] at CI
  have CC := Lib.hid (contains_any (39 :: R) 92 92 rfl false (by rw [h2]; rfl) w)
  have CN := Lib.hid (contains_any (39 :: R) 10 10 rfl false (by rw [h3]; rfl) w)
  have CV := Tryd.utf8_ValidString (str F) w (by rw [size_str]; simp at hlen; omega) hU
  rw [toList_str, h4] at CV
  have CV := Lib.hid CV
  obtain ⟨n, hnn⟩ : ∃ n, n = (39 :: R).length := ⟨_, rfl⟩
  have eL : (str (39 :: R)).size = n := by rw [size_str, hnn]
  have n2 : n = m + 2 := by rw [hnn]; simp; omega
  rw [← hnn] at hlen
  obtain ⟨l, hl⟩ : ∃ l, l = 39 :: R := ⟨_, rfl⟩
  rw [← hl] at hidx hsl1 hto hmid hmid2 hfrom eL CC CN ⊢
  have n3 : 2 ≤ n := by omega
  have m9 : m ≤ 100000000 := by omega
  have CD := Lib.hid CD
  have q5 : (1 + (m : Int) + 1 == (m : Int) + 2) = true := by simp; omega
  clear h1 h2 h3 h4 h5 hin hF hR hm hRm hnn hl hs hv hp hU n2 hcp hdd hFr hpr CV hvr
  by_cases hr65 : r = 65533
  · have m3 := hw65 hr65
    subst hr65
    have q7 : ((m : Int) == 1) = false := by simp; omega
    clear hw65 m3
    go_enter Tryd.func58, Tryd.ntmps58
    go_big_wp2_with (first
      | (go_at_call 70; refine CI.out.mono ?_; rintro e w1 ⟨rfl, rfl⟩)
      | (go_at_call 71; first | (refine CC.out.mono ?_; rintro e w1 ⟨rfl, rfl⟩) | (refine CN.out.mono ?_; rintro e w1 ⟨rfl, rfl⟩))
      | (go_at_call 73; refine CD.out.mono ?_; rintro e w1 ⟨rfl, hw1⟩))
    clear hto hmid hmid2 hidx hsl1 CI CC CN CD q5 q7 eL n3 hlen
    obtain ⟨E, hE⟩ : ∃ E : Int, E = (m : Int) + 2 := ⟨_, rfl⟩
    rw [← hE] at hfrom ⊢
    clear hE m9
    go_quiet (fail)
    go_big_wp2_with fail
    go_ret3
    exact ⟨rfl, hw1.trans ((below_drewN _ _).mono hw1.size)⟩
  · have q6 : (r == 65533) = false := by simpa using hr65
    clear hw65 hr65
    go_enter Tryd.func58, Tryd.ntmps58
    go_big_wp2_with (first
      | (go_at_call 70; refine CI.out.mono ?_; rintro e w1 ⟨rfl, rfl⟩)
      | (go_at_call 71; first | (refine CC.out.mono ?_; rintro e w1 ⟨rfl, rfl⟩) | (refine CN.out.mono ?_; rintro e w1 ⟨rfl, rfl⟩))
      | (go_at_call 73; refine CD.out.mono ?_; rintro e w1 ⟨rfl, hw1⟩))
    clear hto hmid hmid2 hidx hsl1 CI CC CN CD q5 q6 eL n3 hlen
    obtain ⟨E, hE⟩ : ∃ E : Int, E = (m : Int) + 2 := ⟨_, rfl⟩
    rw [← hE] at hfrom ⊢
    clear hE m9
    go_quiet (fail)
    go_big_wp2_with fail
    go_ret3
    exact ⟨rfl, hw1.trans ((below_drewN _ _).mono hw1.size)⟩
end Go.Proofs.YthbnglkpkgpojaaDoor
