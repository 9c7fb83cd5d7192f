/-
  Contracts: spec.ParseUint and laws.asked.
-/
import Derived.Test.YtlnokggbejfocaaDoorSpecRead
import Derived.Test.YtlnokggbejfocaaDoorGreatest
namespace Go.Proofs.YtlnokggbejfocaaDoor
open Go.RowKit
set_option maxRecDepth 100000
set_option linter.unusedVariables false
set_option linter.unusedSimpArgs false
def okB (base : Int) : Bool := decide (base = 0) || (decide (2 ≤ base) && decide (base ≤ 36))
def askedB (base bits : Int) : Bool := okB base && decide (0 ≤ bits) && decide (bits ≤ 64)
theorem askedB_iff {base bits : Int} : askedB base bits = true ↔ (base = 0 ∨ 2 ≤ base ∧ base ≤ 36) ∧ 0 ≤ bits ∧ bits ≤ 64 := by
  simp [askedB, okB, and_assoc]
theorem asked_any (base bits : Int) (w : World) : Calls Tryd.prog 10 #[.int .i64 base, .int .i64 bits] w fun e w' => e = .returned (.bool (askedB base bits)) ∧ w = w' := by
  obtain ⟨z, hz⟩ : ∃ z, z = askedB base bits := ⟨_, rfl⟩
  rw [← hz]
  by_cases h0 : base = 0
  · subst h0
    by_cases h1 : 0 ≤ bits
    · by_cases h2 : bits ≤ 64
      · have HZ := Lib.hid (show z = true by rw [hz, askedB_iff]; omega)
        clear hz
        go_enter Tryd.func10, Tryd.ntmps10
        go_wp2_with fail
        all_goals first | (exfalso; omega) | skip
        go_ret
        exact ⟨by rw [HZ.out]; rfl, rfl⟩
      · have HZ := Lib.hid (show z = false by rw [hz, Bool.eq_false_iff, Ne, askedB_iff]; omega)
        clear hz
        go_enter Tryd.func10, Tryd.ntmps10
        go_wp2_with fail
        all_goals first | (exfalso; omega) | skip
        go_ret
        exact ⟨by rw [HZ.out]; rfl, rfl⟩
    · have HZ := Lib.hid (show z = false by rw [hz, Bool.eq_false_iff, Ne, askedB_iff]; omega)
      clear hz
      go_enter Tryd.func10, Tryd.ntmps10
      go_wp2_with fail
      all_goals first | (exfalso; omega) | skip
      go_ret
      exact ⟨by rw [HZ.out]; rfl, rfl⟩
  · have q0 : (base == 0) = false := by simpa using h0
    by_cases h3 : 2 ≤ base
    · by_cases h4 : base ≤ 36
      · by_cases h1 : 0 ≤ bits
        · by_cases h2 : bits ≤ 64
          · have HZ := Lib.hid (show z = true by rw [hz, askedB_iff]; omega)
            clear hz h0
            go_enter Tryd.func10, Tryd.ntmps10
            go_wp2_with fail
            all_goals first | (exfalso; omega) | skip
            go_ret
            exact ⟨by rw [HZ.out]; rfl, rfl⟩
          · have HZ := Lib.hid (show z = false by rw [hz, Bool.eq_false_iff, Ne, askedB_iff]; omega)
            clear hz h0
            go_enter Tryd.func10, Tryd.ntmps10
            go_wp2_with fail
            all_goals first | (exfalso; omega) | skip
            go_ret
            exact ⟨by rw [HZ.out]; rfl, rfl⟩
        · have HZ := Lib.hid (show z = false by rw [hz, Bool.eq_false_iff, Ne, askedB_iff]; omega)
          clear hz h0
          go_enter Tryd.func10, Tryd.ntmps10
          go_wp2_with fail
          all_goals first | (exfalso; omega) | skip
          go_ret
          exact ⟨by rw [HZ.out]; rfl, rfl⟩
      · have HZ := Lib.hid (show z = false by rw [hz, Bool.eq_false_iff, Ne, askedB_iff]; omega)
        clear hz h0
        go_enter Tryd.func10, Tryd.ntmps10
        go_wp2_with fail
        all_goals first | (exfalso; omega) | skip
        go_ret
        exact ⟨by rw [HZ.out]; rfl, rfl⟩
    · have HZ := Lib.hid (show z = false by rw [hz, Bool.eq_false_iff, Ne, askedB_iff]; omega)
      clear hz h0
      go_enter Tryd.func10, Tryd.ntmps10
      go_wp2_with fail
      all_goals first | (exfalso; omega) | skip
      go_ret
      exact ⟨by rw [HZ.out]; rfl, rfl⟩
/-- what the reference says of a number without a sign: the number, the kind, and whether it is left open -/
def uSpec (r : ReadR) (ne : Bool) (mx : Nat) : Nat × Nat × Bool :=
  if r.good = false then (0, 1, ne && (r.op || decide (mx < r.v))) else if mx < r.v then (mx, 2, r.op) else (r.v, 0, r.op)
theorem mx_fin : ∀ B : Fin 65, 2 ^ B.val - 1 < 18446744073709551616 := by decide +kernel
set_option maxHeartbeats 4000000 in
theorem specParseUint_any (l : List UInt8) (base bits : Int) (w : World) (hb : base = 0 ∨ 2 ≤ base ∧ base ≤ 36) (hb0 : 0 ≤ bits) (hb64 : bits ≤ 64) (hl : l.length ≤ 140737488351232) :
    Calls Tryd.prog 19 #[.string (str l), .int .i64 base, .int .i64 bits] w fun e w' => e = .returned (.tuple #[.int .u64 ((uSpec (specRead l base.toNat) (!l.isEmpty) (2 ^ bitsN bits.toNat - 1)).1 : Int), .int .i64 ((uSpec (specRead l base.toNat) (!l.isEmpty) (2 ^ bitsN bits.toNat - 1)).2.1 : Int), .bool (uSpec (specRead l base.toNat) (!l.isEmpty) (2 ^ bitsN bits.toNat - 1)).2.2]) ∧ Below w.heap.size w w' := by
  have G := Lib.hid (greatest_u bits hb0 hb64 w)
  have RR := Lib.hid (read_any l base w hb hl)
  have hmx : 2 ^ bitsN bits.toNat - 1 < 18446744073709551616 := mx_fin ⟨bitsN bits.toNat, by rw [bitsN]; split <;> omega⟩
  obtain ⟨mx, hm⟩ : ∃ mx, mx = 2 ^ bitsN bits.toNat - 1 := ⟨_, rfl⟩
  rw [← hm] at G hmx ⊢
  obtain ⟨r, hr⟩ : ∃ r, r = specRead l base.toNat := ⟨_, rfl⟩
  rw [← hr] at RR ⊢
  obtain ⟨g, o, v⟩ := r
  unfold readV at RR
  simp only at RR
  obtain ⟨ne, hne⟩ : ∃ ne : Bool, ne = !l.isEmpty := ⟨_, rfl⟩
  rw [← hne]
  have hem : (str l).toList.isEmpty = !ne := by rw [Lib.toList_data, hne]; simp [str]
  have hnil : (str l).toList = [] ↔ ne = false := by rw [Lib.toList_data, hne]; simp [str]
  obtain ⟨mI, hmI⟩ : ∃ mI : Int, mI = (mx : Int) := ⟨_, rfl⟩
  rw [← hmI] at G
  obtain ⟨U, hU⟩ : ∃ U, U = uSpec ⟨g, o, v⟩ ne mx := ⟨_, rfl⟩
  rw [← hU]
  by_cases hbig : 18446744073709551616 ≤ v
  · rw [show decide (18446744073709551616 ≤ v) = true by simpa using hbig] at RR
    have hlg : mx < v := by omega
    obtain ⟨s, hs⟩ : ∃ s : Int, s = ((v % 18446744073709551616 : Nat) : Int) := ⟨_, rfl⟩
    rw [← hs] at RR
    have HMI := Lib.hid hmI
    clear hs hmx hne hmI
    cases g
    · cases ne
      · skip
        have hnil0 : (str l).toList = [] := hnil.2 rfl
        have hnil1 := hnil0
        clear hnil
        have HE := Lib.hid (show U = (0, 1, false) by rw [hU, uSpec]; simp [hlg])
        clear hU hr hm hlg hbig hnil0
        go_enter Tryd.func19, Tryd.ntmps19
        go_wp2_with (first | (go_at_call 28; refine G.out.mono ?_; rintro e w1 ⟨rfl, rfl⟩) | (go_at_call 29; refine RR.out.mono ?_; rintro e w2 ⟨rfl, hw2⟩))
        all_goals first | (exfalso; omega) | skip
        go_ret3
        exact ⟨by rw [HE.out]; rfl, hw2.trans ((Below.refl _ _).alloc hw2.size _)⟩
      · skip
        have hnil0 : ¬ (str l).toList = [] := fun h => by have := hnil.1 h; cases this
        have hnil1 := hnil0
        clear hnil
        cases o
        · skip
          have HE := Lib.hid (show U = (0, 1, true) by rw [hU, uSpec]; simp [hlg])
          clear hU hr hm hlg hbig hnil0
          go_enter Tryd.func19, Tryd.ntmps19
          go_wp2_with (first | (go_at_call 28; refine G.out.mono ?_; rintro e w1 ⟨rfl, rfl⟩) | (go_at_call 29; refine RR.out.mono ?_; rintro e w2 ⟨rfl, hw2⟩))
          all_goals first | (exfalso; omega) | skip
          go_ret3
          exact ⟨by rw [HE.out]; rfl, hw2.trans ((Below.refl _ _).alloc hw2.size _)⟩
        · skip
          have HE := Lib.hid (show U = (0, 1, true) by rw [hU, uSpec]; simp [hlg])
          clear hU hr hm hlg hbig hnil0
          go_enter Tryd.func19, Tryd.ntmps19
          go_wp2_with (first | (go_at_call 28; refine G.out.mono ?_; rintro e w1 ⟨rfl, rfl⟩) | (go_at_call 29; refine RR.out.mono ?_; rintro e w2 ⟨rfl, hw2⟩))
          all_goals first | (exfalso; omega) | skip
          go_ret3
          exact ⟨by rw [HE.out]; rfl, hw2.trans ((Below.refl _ _).alloc hw2.size _)⟩
    · cases ne
      · skip
        have hnil0 : (str l).toList = [] := hnil.2 rfl
        have hnil1 := hnil0
        clear hnil
        have HE := Lib.hid (show U = (mx, 2, o) by rw [hU, uSpec]; simp [hlg])
        clear hU hr hm hlg hbig hnil0
        go_enter Tryd.func19, Tryd.ntmps19
        go_wp2_with (first | (go_at_call 28; refine G.out.mono ?_; rintro e w1 ⟨rfl, rfl⟩) | (go_at_call 29; refine RR.out.mono ?_; rintro e w2 ⟨rfl, hw2⟩))
        all_goals first | (exfalso; omega) | skip
        go_quiet (fail)
        go_wp2_with fail
        go_ret3
        exact ⟨by rw [HE.out]; show _ = Ending.returned (.tuple #[.int .u64 (mx : Int), .int .i64 2, .bool o]); rw [← HMI.out]; rfl, (hw2.trans ((Below.refl _ _).alloc hw2.size _)).trans (below_drewN3 _ _ _)⟩
      · skip
        have hnil0 : ¬ (str l).toList = [] := fun h => by have := hnil.1 h; cases this
        have hnil1 := hnil0
        clear hnil
        have HE := Lib.hid (show U = (mx, 2, o) by rw [hU, uSpec]; simp [hlg])
        clear hU hr hm hlg hbig hnil0
        go_enter Tryd.func19, Tryd.ntmps19
        go_wp2_with (first | (go_at_call 28; refine G.out.mono ?_; rintro e w1 ⟨rfl, rfl⟩) | (go_at_call 29; refine RR.out.mono ?_; rintro e w2 ⟨rfl, hw2⟩))
        all_goals first | (exfalso; omega) | skip
        go_quiet (fail)
        go_wp2_with fail
        go_ret3
        exact ⟨by rw [HE.out]; show _ = Ending.returned (.tuple #[.int .u64 (mx : Int), .int .i64 2, .bool o]); rw [← HMI.out]; rfl, (hw2.trans ((Below.refl _ _).alloc hw2.size _)).trans (below_drewN3 _ _ _)⟩
  · rw [show decide (18446744073709551616 ≤ v) = false by simpa using hbig, Nat.mod_eq_of_lt (show v < 18446744073709551616 by omega)] at RR
    obtain ⟨s, hs⟩ : ∃ s : Int, s = (v : Int) := ⟨_, rfl⟩
    rw [← hs] at RR
    have s0 : 0 ≤ s := by omega
    have s1 : s ≤ 18446744073709551615 := by omega
    by_cases hlg : mx < v
    · have hlI : mI < s := by omega
      have HMI := Lib.hid hmI
      have HS := Lib.hid hs
      clear hmx hne hmI hs
      cases g
      · cases ne
        · skip
          have hnil0 : (str l).toList = [] := hnil.2 rfl
          have hnil1 := hnil0
          clear hnil
          have HE := Lib.hid (show U = (0, 1, false) by rw [hU, uSpec]; simp [hlg])
          clear hU hr hm hlg hbig hnil0
          go_enter Tryd.func19, Tryd.ntmps19
          go_wp2_with (first | (go_at_call 28; refine G.out.mono ?_; rintro e w1 ⟨rfl, rfl⟩) | (go_at_call 29; refine RR.out.mono ?_; rintro e w2 ⟨rfl, hw2⟩))
          all_goals first | (exfalso; omega) | skip
          go_ret3
          exact ⟨by rw [HE.out]; rfl, hw2.trans ((Below.refl _ _).alloc hw2.size _)⟩
        · skip
          have hnil0 : ¬ (str l).toList = [] := fun h => by have := hnil.1 h; cases this
          have hnil1 := hnil0
          clear hnil
          cases o
          · skip
            have HE := Lib.hid (show U = (0, 1, true) by rw [hU, uSpec]; simp [hlg])
            clear hU hr hm hlg hbig hnil0
            go_enter Tryd.func19, Tryd.ntmps19
            go_wp2_with (first | (go_at_call 28; refine G.out.mono ?_; rintro e w1 ⟨rfl, rfl⟩) | (go_at_call 29; refine RR.out.mono ?_; rintro e w2 ⟨rfl, hw2⟩))
            all_goals first | (exfalso; omega) | skip
            go_ret3
            exact ⟨by rw [HE.out]; rfl, hw2.trans ((Below.refl _ _).alloc hw2.size _)⟩
          · skip
            have HE := Lib.hid (show U = (0, 1, true) by rw [hU, uSpec]; simp [hlg])
            clear hU hr hm hlg hbig hnil0
            go_enter Tryd.func19, Tryd.ntmps19
            go_wp2_with (first | (go_at_call 28; refine G.out.mono ?_; rintro e w1 ⟨rfl, rfl⟩) | (go_at_call 29; refine RR.out.mono ?_; rintro e w2 ⟨rfl, hw2⟩))
            all_goals first | (exfalso; omega) | skip
            go_ret3
            exact ⟨by rw [HE.out]; rfl, hw2.trans ((Below.refl _ _).alloc hw2.size _)⟩
      · cases ne
        · skip
          have hnil0 : (str l).toList = [] := hnil.2 rfl
          have hnil1 := hnil0
          clear hnil
          have HE := Lib.hid (show U = (mx, 2, o) by rw [hU, uSpec]; simp [hlg])
          clear hU hr hm hlg hbig hnil0
          go_enter Tryd.func19, Tryd.ntmps19
          go_wp2_with (first | (go_at_call 28; refine G.out.mono ?_; rintro e w1 ⟨rfl, rfl⟩) | (go_at_call 29; refine RR.out.mono ?_; rintro e w2 ⟨rfl, hw2⟩))
          all_goals first | (exfalso; omega) | skip
          go_quiet (fail)
          go_wp2_with fail
          go_ret3
          exact ⟨by rw [HE.out]; show _ = Ending.returned (.tuple #[.int .u64 (mx : Int), .int .i64 2, .bool o]); rw [← HMI.out]; rfl, (hw2.trans ((Below.refl _ _).alloc hw2.size _)).trans (below_drewN3 _ _ _)⟩
        · skip
          have hnil0 : ¬ (str l).toList = [] := fun h => by have := hnil.1 h; cases this
          have hnil1 := hnil0
          clear hnil
          have HE := Lib.hid (show U = (mx, 2, o) by rw [hU, uSpec]; simp [hlg])
          clear hU hr hm hlg hbig hnil0
          go_enter Tryd.func19, Tryd.ntmps19
          go_wp2_with (first | (go_at_call 28; refine G.out.mono ?_; rintro e w1 ⟨rfl, rfl⟩) | (go_at_call 29; refine RR.out.mono ?_; rintro e w2 ⟨rfl, hw2⟩))
          all_goals first | (exfalso; omega) | skip
          go_quiet (fail)
          go_wp2_with fail
          go_ret3
          exact ⟨by rw [HE.out]; show _ = Ending.returned (.tuple #[.int .u64 (mx : Int), .int .i64 2, .bool o]); rw [← HMI.out]; rfl, (hw2.trans ((Below.refl _ _).alloc hw2.size _)).trans (below_drewN3 _ _ _)⟩
    · have hlI : s ≤ mI := by omega
      have hlD : decide (mI < s) = false := by simp; omega
      have HMI := Lib.hid hmI
      have HS := Lib.hid hs
      clear hmx hne hmI hs
      cases g
      · cases ne
        · skip
          have hnil0 : (str l).toList = [] := hnil.2 rfl
          have hnil1 := hnil0
          clear hnil
          have HE := Lib.hid (show U = (0, 1, false) by rw [hU, uSpec]; simp [hlg])
          clear hU hr hm hlg hbig hnil0
          go_enter Tryd.func19, Tryd.ntmps19
          go_wp2_with (first | (go_at_call 28; refine G.out.mono ?_; rintro e w1 ⟨rfl, rfl⟩) | (go_at_call 29; refine RR.out.mono ?_; rintro e w2 ⟨rfl, hw2⟩))
          all_goals first | (exfalso; omega) | skip
          go_ret3
          exact ⟨by rw [HE.out]; rfl, hw2.trans ((Below.refl _ _).alloc hw2.size _)⟩
        · skip
          have hnil0 : ¬ (str l).toList = [] := fun h => by have := hnil.1 h; cases this
          have hnil1 := hnil0
          clear hnil
          cases o
          · skip
            have HE := Lib.hid (show U = (0, 1, false) by rw [hU, uSpec]; simp [hlg])
            clear hU hr hm hlg hbig hnil0
            go_enter Tryd.func19, Tryd.ntmps19
            go_wp2_with (first | (go_at_call 28; refine G.out.mono ?_; rintro e w1 ⟨rfl, rfl⟩) | (go_at_call 29; refine RR.out.mono ?_; rintro e w2 ⟨rfl, hw2⟩))
            all_goals first | (exfalso; omega) | skip
            go_ret3
            exact ⟨by rw [HE.out]; rfl, hw2.trans ((Below.refl _ _).alloc hw2.size _)⟩
          · skip
            have HE := Lib.hid (show U = (0, 1, true) by rw [hU, uSpec]; simp [hlg])
            clear hU hr hm hlg hbig hnil0
            go_enter Tryd.func19, Tryd.ntmps19
            go_wp2_with (first | (go_at_call 28; refine G.out.mono ?_; rintro e w1 ⟨rfl, rfl⟩) | (go_at_call 29; refine RR.out.mono ?_; rintro e w2 ⟨rfl, hw2⟩))
            all_goals first | (exfalso; omega) | skip
            go_ret3
            exact ⟨by rw [HE.out]; rfl, hw2.trans ((Below.refl _ _).alloc hw2.size _)⟩
      · cases ne
        · skip
          have hnil0 : (str l).toList = [] := hnil.2 rfl
          have hnil1 := hnil0
          clear hnil
          have HE := Lib.hid (show U = (v, 0, o) by rw [hU, uSpec]; simp [hlg])
          clear hU hr hm hlg hbig hnil0
          go_enter Tryd.func19, Tryd.ntmps19
          go_wp2_with (first | (go_at_call 28; refine G.out.mono ?_; rintro e w1 ⟨rfl, rfl⟩) | (go_at_call 29; refine RR.out.mono ?_; rintro e w2 ⟨rfl, hw2⟩))
          all_goals first | (exfalso; omega) | skip
          go_quiet (fail)
          go_wp2_with fail
          go_ret3
          exact ⟨by rw [HE.out]; show _ = Ending.returned (.tuple #[.int .u64 (v : Int), .int .i64 0, .bool o]); rw [← HS.out]; rfl, (hw2.trans ((Below.refl _ _).alloc hw2.size _)).trans (below_drewN3 _ _ _)⟩
        · skip
          have hnil0 : ¬ (str l).toList = [] := fun h => by have := hnil.1 h; cases this
          have hnil1 := hnil0
          clear hnil
          have HE := Lib.hid (show U = (v, 0, o) by rw [hU, uSpec]; simp [hlg])
          clear hU hr hm hlg hbig hnil0
          go_enter Tryd.func19, Tryd.ntmps19
          go_wp2_with (first | (go_at_call 28; refine G.out.mono ?_; rintro e w1 ⟨rfl, rfl⟩) | (go_at_call 29; refine RR.out.mono ?_; rintro e w2 ⟨rfl, hw2⟩))
          all_goals first | (exfalso; omega) | skip
          go_quiet (fail)
          go_wp2_with fail
          go_ret3
          exact ⟨by rw [HE.out]; show _ = Ending.returned (.tuple #[.int .u64 (v : Int), .int .i64 0, .bool o]); rw [← HS.out]; rfl, (hw2.trans ((Below.refl _ _).alloc hw2.size _)).trans (below_drewN3 _ _ _)⟩
end Go.Proofs.YtlnokggbejfocaaDoor
