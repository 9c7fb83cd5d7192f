/-
  Contract: spec.ParseInt.
-/
import Derived.Test.YtlnokggbejfocaaDoorSpecParseU
namespace Go.Proofs.YtlnokggbejfocaaDoor
open Go.RowKit
set_option maxRecDepth 100000
set_option linter.unusedVariables false
set_option linter.unusedSimpArgs false
/-- what the reference says of a number with a sign: the number, the kind, and whether it is left open; mx: the greatest magnitude -/
def iSpec (r : ReadR) (ne mn : Bool) (mx : Nat) : Int × Nat × Bool :=
  if r.good = false then (0, 1, ne && (r.op || decide (mx < r.v))) else if mx < r.v then ((if mn = true then -(mx : Int) else (mx : Int)), 2, r.op) else ((if mn = true then -(r.v : Int) else (r.v : Int)), 0, r.op)
/-- the greatest magnitude of a number of bits -/
def mostN (bits : Nat) (mn : Bool) : Nat := if mn = true then 2 ^ (bitsN bits - 1) else 2 ^ (bitsN bits - 1) - 1
theorem int_of_u : True := trivial
theorem half_mx : ∀ B : Fin 65, 1 ≤ B.val → 1 ≤ 2 ^ (B.val - 1) ∧ 2 ^ (B.val - 1) ≤ 9223372036854775808 := by decide +kernel
set_option maxHeartbeats 8000000 in
theorem specParseInt_any (l : List UInt8) (base bits : Int) (w : World) (hb : base = 0 ∨ 2 ≤ base ∧ base ≤ 36) (hb0 : 0 ≤ bits) (hb64 : bits ≤ 64) (hl : l.length ≤ 140737488351232) :
    Calls Tryd.prog 18 #[.string (str l), .int .i64 base, .int .i64 bits] w fun e w' => e = .returned (.tuple #[.int .i64 (iSpec (specRead (noSign l) base.toNat) (!l.isEmpty) (isMinus l) (mostN bits.toNat (isMinus l))).1, .int .i64 ((iSpec (specRead (noSign l) base.toNat) (!l.isEmpty) (isMinus l) (mostN bits.toNat (isMinus l))).2.1 : Int), .bool (iSpec (specRead (noSign l) base.toNat) (!l.isEmpty) (isMinus l) (mostN bits.toNat (isMinus l))).2.2]) ∧ Below w.heap.size w w' := by
  have SG := Lib.hid (signed_any l w)
  have G := Lib.hid fun wx => greatest_s bits hb0 hb64 wx
  have hnl : (noSign l).length ≤ l.length := by rw [noSign]; split <;> simp
  have RR := Lib.hid fun wx => read_any (noSign l) base wx hb (by omega)
  obtain ⟨r, hr⟩ : ∃ r, r = specRead (noSign l) base.toNat := ⟨_, rfl⟩
  rw [← hr] at RR ⊢
  obtain ⟨g, o, v⟩ := r
  unfold readV at RR
  simp only at RR
  obtain ⟨H, hH⟩ : ∃ H, H = 2 ^ (bitsN bits.toNat - 1) := ⟨_, rfl⟩
  have hHb : 1 ≤ H ∧ H ≤ 9223372036854775808 := by rw [hH]; exact half_mx ⟨bitsN bits.toNat, by rw [bitsN]; split <;> omega⟩ (by simp only [bitsN]; split <;> omega)
  rw [← hH] at G
  have hmost : mostN bits.toNat (isMinus l) = if isMinus l = true then H else H - 1 := by rw [mostN, hH]
  obtain ⟨mn, hmn⟩ : ∃ mn, mn = isMinus l := ⟨_, rfl⟩
  obtain ⟨ne, hne⟩ : ∃ ne : Bool, ne = !l.isEmpty := ⟨_, rfl⟩
  obtain ⟨sg, hsg⟩ : ∃ sg : Bool, sg = hasSign l := ⟨_, rfl⟩
  rw [hmost, ← hmn, ← hne]
  rw [← hmn, ← hsg] at SG
  obtain ⟨rest, hrest⟩ : ∃ rest, rest = noSign l := ⟨_, rfl⟩
  rw [← hrest] at SG RR
  have hem : (str l).toList.isEmpty = !ne := by rw [Lib.toList_data, hne]; simp [str]
  have hnil : (str l).toList = [] ↔ ne = false := by rw [Lib.toList_data, hne]; simp [str]
  obtain ⟨hI, hhI⟩ : ∃ hI : Int, hI = ((H - 1 : Nat) : Int) := ⟨_, rfl⟩
  rw [← hhI] at G
  have hI0 : 0 ≤ hI := by omega
  have hI1 : hI ≤ 9223372036854775807 := by omega
  have HH1 := Lib.hid hHb.1
  obtain ⟨U, hU⟩ : ∃ U, U = iSpec ⟨g, o, v⟩ ne mn (if mn = true then H else H - 1) := ⟨_, rfl⟩
  rw [← hU]
  cases mn
  · skip
    have HHI := Lib.hid hhI
    by_cases hbig : 18446744073709551616 ≤ v
    · rw [show decide (18446744073709551616 ≤ v) = true by simpa using hbig] at RR
      have hlg : H - 1 < v := by omega
      obtain ⟨s, hs⟩ : ∃ s : Int, s = ((v % 18446744073709551616 : Nat) : Int) := ⟨_, rfl⟩
      rw [← hs] at RR
      clear hs hne hhI hr hmn hsg hrest hmost hH hHb hnl
      cases g
      · cases ne
        · skip
          have hnil0 : (str l).toList = [] := hnil.2 rfl
          have hnil1 := hnil0
          clear hnil
          have HE := Lib.hid (show U = ((0 : Int), 1, false) by rw [hU, iSpec]; simp [hlg])
          clear hU hlg hbig hnil0
          go_enter Tryd.func18, Tryd.ntmps18
          go_wp2_with (first | (go_at_call 17; refine SG.out.mono ?_; rintro e w1 ⟨rfl, hw1⟩) | (go_at_call 28; refine (G.out w1).mono ?_; rintro e w2 ⟨rfl, rfl⟩) | (go_at_call 29; refine (RR.out w1).mono ?_; rintro e w3 ⟨rfl, hw3⟩))
          all_goals first | (exfalso; omega) | skip
          go_ret3
          exact ⟨by rw [HE.out]; rfl, (hw1.trans (hw3.mono hw1.size)).trans ((Below.refl _ _).alloc (Nat.le_trans hw1.size hw3.size) _)⟩
        · skip
          have hnil0 : ¬ (str l).toList = [] := fun h => by have := hnil.1 h; cases this
          have hnil1 := hnil0
          clear hnil
          cases o
          · skip
            have HE := Lib.hid (show U = ((0 : Int), 1, true) by rw [hU, iSpec]; simp [hlg])
            clear hU hlg hbig hnil0
            go_enter Tryd.func18, Tryd.ntmps18
            go_wp2_with (first | (go_at_call 17; refine SG.out.mono ?_; rintro e w1 ⟨rfl, hw1⟩) | (go_at_call 28; refine (G.out w1).mono ?_; rintro e w2 ⟨rfl, rfl⟩) | (go_at_call 29; refine (RR.out w1).mono ?_; rintro e w3 ⟨rfl, hw3⟩))
            all_goals first | (exfalso; omega) | skip
            go_ret3
            exact ⟨by rw [HE.out]; rfl, (hw1.trans (hw3.mono hw1.size)).trans ((Below.refl _ _).alloc (Nat.le_trans hw1.size hw3.size) _)⟩
          · skip
            have HE := Lib.hid (show U = ((0 : Int), 1, true) by rw [hU, iSpec]; simp [hlg])
            clear hU hlg hbig hnil0
            go_enter Tryd.func18, Tryd.ntmps18
            go_wp2_with (first | (go_at_call 17; refine SG.out.mono ?_; rintro e w1 ⟨rfl, hw1⟩) | (go_at_call 28; refine (G.out w1).mono ?_; rintro e w2 ⟨rfl, rfl⟩) | (go_at_call 29; refine (RR.out w1).mono ?_; rintro e w3 ⟨rfl, hw3⟩))
            all_goals first | (exfalso; omega) | skip
            go_ret3
            exact ⟨by rw [HE.out]; rfl, (hw1.trans (hw3.mono hw1.size)).trans ((Below.refl _ _).alloc (Nat.le_trans hw1.size hw3.size) _)⟩
      · have hnil0 := hnil
        clear hnil
        have HE := Lib.hid (show U = ((((H - 1 : Nat) : Int) : Int), 2, o) by rw [hU, iSpec]; simp [hlg])
        clear hU hlg hbig hnil0
        go_enter Tryd.func18, Tryd.ntmps18
        go_wp2_with (first | (go_at_call 17; refine SG.out.mono ?_; rintro e w1 ⟨rfl, hw1⟩) | (go_at_call 28; refine (G.out w1).mono ?_; rintro e w2 ⟨rfl, rfl⟩) | (go_at_call 29; refine (RR.out w1).mono ?_; rintro e w3 ⟨rfl, hw3⟩))
        all_goals first | (exfalso; omega) | skip
        go_quiet (fail)
        go_wp2_with fail
        go_ret3
        exact ⟨by rw [HE.out]; show _ = Ending.returned (.tuple #[.int .i64 ((H - 1 : Nat) : Int), .int .i64 2, .bool o]); rw [← HHI.out]; rfl, ((hw1.trans (hw3.mono hw1.size)).trans ((Below.refl _ _).alloc (Nat.le_trans hw1.size hw3.size) _)).trans (below_drewN3 _ _ _)⟩
    · rw [show decide (18446744073709551616 ≤ v) = false by simpa using hbig, Nat.mod_eq_of_lt (show v < 18446744073709551616 by omega)] at RR
      obtain ⟨s, hs⟩ : ∃ s : Int, s = (v : Int) := ⟨_, rfl⟩
      rw [← hs] at RR
      have s0 : 0 ≤ s := by omega
      have s1 : s ≤ 18446744073709551615 := by omega
      have HS := Lib.hid hs
      by_cases hlg : H - 1 < v
      · have hlI : hI < s := by omega
        clear hs hne hhI hr hmn hsg hrest hmost hH hHb hnl
        cases g
        · cases ne
          · skip
            have hnil0 : (str l).toList = [] := hnil.2 rfl
            have hnil1 := hnil0
            clear hnil
            have HE := Lib.hid (show U = ((0 : Int), 1, false) by rw [hU, iSpec]; simp [hlg])
            clear hU hlg hbig hnil0
            go_enter Tryd.func18, Tryd.ntmps18
            go_wp2_with (first | (go_at_call 17; refine SG.out.mono ?_; rintro e w1 ⟨rfl, hw1⟩) | (go_at_call 28; refine (G.out w1).mono ?_; rintro e w2 ⟨rfl, rfl⟩) | (go_at_call 29; refine (RR.out w1).mono ?_; rintro e w3 ⟨rfl, hw3⟩))
            all_goals first | (exfalso; omega) | skip
            go_ret3
            exact ⟨by rw [HE.out]; rfl, (hw1.trans (hw3.mono hw1.size)).trans ((Below.refl _ _).alloc (Nat.le_trans hw1.size hw3.size) _)⟩
          · skip
            have hnil0 : ¬ (str l).toList = [] := fun h => by have := hnil.1 h; cases this
            have hnil1 := hnil0
            clear hnil
            cases o
            · skip
              have HE := Lib.hid (show U = ((0 : Int), 1, true) by rw [hU, iSpec]; simp [hlg])
              clear hU hlg hbig hnil0
              go_enter Tryd.func18, Tryd.ntmps18
              go_wp2_with (first | (go_at_call 17; refine SG.out.mono ?_; rintro e w1 ⟨rfl, hw1⟩) | (go_at_call 28; refine (G.out w1).mono ?_; rintro e w2 ⟨rfl, rfl⟩) | (go_at_call 29; refine (RR.out w1).mono ?_; rintro e w3 ⟨rfl, hw3⟩))
              all_goals first | (exfalso; omega) | skip
              go_ret3
              exact ⟨by rw [HE.out]; rfl, (hw1.trans (hw3.mono hw1.size)).trans ((Below.refl _ _).alloc (Nat.le_trans hw1.size hw3.size) _)⟩
            · skip
              have HE := Lib.hid (show U = ((0 : Int), 1, true) by rw [hU, iSpec]; simp [hlg])
              clear hU hlg hbig hnil0
              go_enter Tryd.func18, Tryd.ntmps18
              go_wp2_with (first | (go_at_call 17; refine SG.out.mono ?_; rintro e w1 ⟨rfl, hw1⟩) | (go_at_call 28; refine (G.out w1).mono ?_; rintro e w2 ⟨rfl, rfl⟩) | (go_at_call 29; refine (RR.out w1).mono ?_; rintro e w3 ⟨rfl, hw3⟩))
              all_goals first | (exfalso; omega) | skip
              go_ret3
              exact ⟨by rw [HE.out]; rfl, (hw1.trans (hw3.mono hw1.size)).trans ((Below.refl _ _).alloc (Nat.le_trans hw1.size hw3.size) _)⟩
        · have hnil0 := hnil
          clear hnil
          have HE := Lib.hid (show U = ((((H - 1 : Nat) : Int) : Int), 2, o) by rw [hU, iSpec]; simp [hlg])
          clear hU hlg hbig hnil0
          go_enter Tryd.func18, Tryd.ntmps18
          go_wp2_with (first | (go_at_call 17; refine SG.out.mono ?_; rintro e w1 ⟨rfl, hw1⟩) | (go_at_call 28; refine (G.out w1).mono ?_; rintro e w2 ⟨rfl, rfl⟩) | (go_at_call 29; refine (RR.out w1).mono ?_; rintro e w3 ⟨rfl, hw3⟩))
          all_goals first | (exfalso; omega) | skip
          go_quiet (fail)
          go_wp2_with fail
          go_ret3
          exact ⟨by rw [HE.out]; show _ = Ending.returned (.tuple #[.int .i64 ((H - 1 : Nat) : Int), .int .i64 2, .bool o]); rw [← HHI.out]; rfl, ((hw1.trans (hw3.mono hw1.size)).trans ((Below.refl _ _).alloc (Nat.le_trans hw1.size hw3.size) _)).trans (below_drewN3 _ _ _)⟩
      · have hlI : s ≤ hI := by omega
        have hlD : decide (hI < s) = false := by simp; omega
        clear hs hne hhI hr hmn hsg hrest hmost hH hHb hnl
        cases g
        · cases ne
          · skip
            have hnil0 : (str l).toList = [] := hnil.2 rfl
            have hnil1 := hnil0
            clear hnil
            have HE := Lib.hid (show U = ((0 : Int), 1, false) by rw [hU, iSpec]; simp [hlg])
            clear hU hlg hbig hnil0
            go_enter Tryd.func18, Tryd.ntmps18
            go_wp2_with (first | (go_at_call 17; refine SG.out.mono ?_; rintro e w1 ⟨rfl, hw1⟩) | (go_at_call 28; refine (G.out w1).mono ?_; rintro e w2 ⟨rfl, rfl⟩) | (go_at_call 29; refine (RR.out w1).mono ?_; rintro e w3 ⟨rfl, hw3⟩))
            all_goals first | (exfalso; omega) | skip
            go_ret3
            exact ⟨by rw [HE.out]; rfl, (hw1.trans (hw3.mono hw1.size)).trans ((Below.refl _ _).alloc (Nat.le_trans hw1.size hw3.size) _)⟩
          · skip
            have hnil0 : ¬ (str l).toList = [] := fun h => by have := hnil.1 h; cases this
            have hnil1 := hnil0
            clear hnil
            cases o
            · skip
              have HE := Lib.hid (show U = ((0 : Int), 1, false) by rw [hU, iSpec]; simp [hlg])
              clear hU hlg hbig hnil0
              go_enter Tryd.func18, Tryd.ntmps18
              go_wp2_with (first | (go_at_call 17; refine SG.out.mono ?_; rintro e w1 ⟨rfl, hw1⟩) | (go_at_call 28; refine (G.out w1).mono ?_; rintro e w2 ⟨rfl, rfl⟩) | (go_at_call 29; refine (RR.out w1).mono ?_; rintro e w3 ⟨rfl, hw3⟩))
              all_goals first | (exfalso; omega) | skip
              go_ret3
              exact ⟨by rw [HE.out]; rfl, (hw1.trans (hw3.mono hw1.size)).trans ((Below.refl _ _).alloc (Nat.le_trans hw1.size hw3.size) _)⟩
            · skip
              have HE := Lib.hid (show U = ((0 : Int), 1, true) by rw [hU, iSpec]; simp [hlg])
              clear hU hlg hbig hnil0
              go_enter Tryd.func18, Tryd.ntmps18
              go_wp2_with (first | (go_at_call 17; refine SG.out.mono ?_; rintro e w1 ⟨rfl, hw1⟩) | (go_at_call 28; refine (G.out w1).mono ?_; rintro e w2 ⟨rfl, rfl⟩) | (go_at_call 29; refine (RR.out w1).mono ?_; rintro e w3 ⟨rfl, hw3⟩))
              all_goals first | (exfalso; omega) | skip
              go_ret3
              exact ⟨by rw [HE.out]; rfl, (hw1.trans (hw3.mono hw1.size)).trans ((Below.refl _ _).alloc (Nat.le_trans hw1.size hw3.size) _)⟩
        · have hnil0 := hnil
          clear hnil
          have HE := Lib.hid (show U = (((v : Int) : Int), 0, o) by rw [hU, iSpec]; simp [hlg])
          clear hU hlg hbig hnil0
          go_enter Tryd.func18, Tryd.ntmps18
          go_wp2_with (first | (go_at_call 17; refine SG.out.mono ?_; rintro e w1 ⟨rfl, hw1⟩) | (go_at_call 28; refine (G.out w1).mono ?_; rintro e w2 ⟨rfl, rfl⟩) | (go_at_call 29; refine (RR.out w1).mono ?_; rintro e w3 ⟨rfl, hw3⟩))
          all_goals first | (exfalso; omega) | skip
          go_quiet (fail)
          go_wp2_with fail
          go_ret3
          exact ⟨by rw [HE.out]; show _ = Ending.returned (.tuple #[.int .i64 (v : Int), .int .i64 0, .bool o]); rw [← HS.out]; rfl, ((hw1.trans (hw3.mono hw1.size)).trans ((Below.refl _ _).alloc (Nat.le_trans hw1.size hw3.size) _)).trans (below_drewN3 _ _ _)⟩
  · skip
    have HHI := Lib.hid hhI
    by_cases hbig : 18446744073709551616 ≤ v
    · rw [show decide (18446744073709551616 ≤ v) = true by simpa using hbig] at RR
      have hlg : H < v := by omega
      obtain ⟨s, hs⟩ : ∃ s : Int, s = ((v % 18446744073709551616 : Nat) : Int) := ⟨_, rfl⟩
      rw [← hs] at RR
      clear hs hne hhI hr hmn hsg hrest hmost hH hHb hnl
      cases g
      · cases ne
        · skip
          have hnil0 : (str l).toList = [] := hnil.2 rfl
          have hnil1 := hnil0
          clear hnil
          have HE := Lib.hid (show U = ((0 : Int), 1, false) by rw [hU, iSpec]; simp [hlg])
          clear hU hlg hbig hnil0
          go_enter Tryd.func18, Tryd.ntmps18
          go_wp2_with (first | (go_at_call 17; refine SG.out.mono ?_; rintro e w1 ⟨rfl, hw1⟩) | (go_at_call 28; refine (G.out w1).mono ?_; rintro e w2 ⟨rfl, rfl⟩) | (go_at_call 29; refine (RR.out w1).mono ?_; rintro e w3 ⟨rfl, hw3⟩))
          all_goals first | (exfalso; omega) | skip
          go_ret3
          exact ⟨by rw [HE.out]; rfl, (hw1.trans (hw3.mono hw1.size)).trans ((Below.refl _ _).alloc (Nat.le_trans hw1.size hw3.size) _)⟩
        · skip
          have hnil0 : ¬ (str l).toList = [] := fun h => by have := hnil.1 h; cases this
          have hnil1 := hnil0
          clear hnil
          cases o
          · skip
            have HE := Lib.hid (show U = ((0 : Int), 1, true) by rw [hU, iSpec]; simp [hlg])
            clear hU hlg hbig hnil0
            go_enter Tryd.func18, Tryd.ntmps18
            go_wp2_with (first | (go_at_call 17; refine SG.out.mono ?_; rintro e w1 ⟨rfl, hw1⟩) | (go_at_call 28; refine (G.out w1).mono ?_; rintro e w2 ⟨rfl, rfl⟩) | (go_at_call 29; refine (RR.out w1).mono ?_; rintro e w3 ⟨rfl, hw3⟩))
            all_goals first | (exfalso; omega) | skip
            go_ret3
            exact ⟨by rw [HE.out]; rfl, (hw1.trans (hw3.mono hw1.size)).trans ((Below.refl _ _).alloc (Nat.le_trans hw1.size hw3.size) _)⟩
          · skip
            have HE := Lib.hid (show U = ((0 : Int), 1, true) by rw [hU, iSpec]; simp [hlg])
            clear hU hlg hbig hnil0
            go_enter Tryd.func18, Tryd.ntmps18
            go_wp2_with (first | (go_at_call 17; refine SG.out.mono ?_; rintro e w1 ⟨rfl, hw1⟩) | (go_at_call 28; refine (G.out w1).mono ?_; rintro e w2 ⟨rfl, rfl⟩) | (go_at_call 29; refine (RR.out w1).mono ?_; rintro e w3 ⟨rfl, hw3⟩))
            all_goals first | (exfalso; omega) | skip
            go_ret3
            exact ⟨by rw [HE.out]; rfl, (hw1.trans (hw3.mono hw1.size)).trans ((Below.refl _ _).alloc (Nat.le_trans hw1.size hw3.size) _)⟩
      · have hnil0 := hnil
        clear hnil
        have HE := Lib.hid (show U = ((-(H : Int) : Int), 2, o) by rw [hU, iSpec]; simp [hlg])
        clear hU hlg hbig hnil0
        go_enter Tryd.func18, Tryd.ntmps18
        go_wp2_with (first | (go_at_call 17; refine SG.out.mono ?_; rintro e w1 ⟨rfl, hw1⟩) | (go_at_call 28; refine (G.out w1).mono ?_; rintro e w2 ⟨rfl, rfl⟩) | (go_at_call 29; refine (RR.out w1).mono ?_; rintro e w3 ⟨rfl, hw3⟩))
        all_goals first | (exfalso; omega) | skip
        go_quiet (fail)
        go_wp2_with fail
        go_ret3
        exact ⟨by rw [HE.out]; show _ = Ending.returned (.tuple #[.int .i64 (-(H : Int)), .int .i64 2, .bool o]); rw [show -(H : Int) = -hI - 1 by have := HHI.out; have := HH1.out; omega]; rfl, ((hw1.trans (hw3.mono hw1.size)).trans ((Below.refl _ _).alloc (Nat.le_trans hw1.size hw3.size) _)).trans (below_drewN3 _ _ _)⟩
    · rw [show decide (18446744073709551616 ≤ v) = false by simpa using hbig, Nat.mod_eq_of_lt (show v < 18446744073709551616 by omega)] at RR
      obtain ⟨s, hs⟩ : ∃ s : Int, s = (v : Int) := ⟨_, rfl⟩
      rw [← hs] at RR
      have s0 : 0 ≤ s := by omega
      have s1 : s ≤ 18446744073709551615 := by omega
      have HS := Lib.hid hs
      by_cases hlg : H < v
      · have hlI : hI + 1 < s := by omega
        clear hs hne hhI hr hmn hsg hrest hmost hH hHb hnl
        cases g
        · cases ne
          · skip
            have hnil0 : (str l).toList = [] := hnil.2 rfl
            have hnil1 := hnil0
            clear hnil
            have HE := Lib.hid (show U = ((0 : Int), 1, false) by rw [hU, iSpec]; simp [hlg])
            clear hU hlg hbig hnil0
            go_enter Tryd.func18, Tryd.ntmps18
            go_wp2_with (first | (go_at_call 17; refine SG.out.mono ?_; rintro e w1 ⟨rfl, hw1⟩) | (go_at_call 28; refine (G.out w1).mono ?_; rintro e w2 ⟨rfl, rfl⟩) | (go_at_call 29; refine (RR.out w1).mono ?_; rintro e w3 ⟨rfl, hw3⟩))
            all_goals first | (exfalso; omega) | skip
            go_ret3
            exact ⟨by rw [HE.out]; rfl, (hw1.trans (hw3.mono hw1.size)).trans ((Below.refl _ _).alloc (Nat.le_trans hw1.size hw3.size) _)⟩
          · skip
            have hnil0 : ¬ (str l).toList = [] := fun h => by have := hnil.1 h; cases this
            have hnil1 := hnil0
            clear hnil
            cases o
            · skip
              have HE := Lib.hid (show U = ((0 : Int), 1, true) by rw [hU, iSpec]; simp [hlg])
              clear hU hlg hbig hnil0
              go_enter Tryd.func18, Tryd.ntmps18
              go_wp2_with (first | (go_at_call 17; refine SG.out.mono ?_; rintro e w1 ⟨rfl, hw1⟩) | (go_at_call 28; refine (G.out w1).mono ?_; rintro e w2 ⟨rfl, rfl⟩) | (go_at_call 29; refine (RR.out w1).mono ?_; rintro e w3 ⟨rfl, hw3⟩))
              all_goals first | (exfalso; omega) | skip
              go_ret3
              exact ⟨by rw [HE.out]; rfl, (hw1.trans (hw3.mono hw1.size)).trans ((Below.refl _ _).alloc (Nat.le_trans hw1.size hw3.size) _)⟩
            · skip
              have HE := Lib.hid (show U = ((0 : Int), 1, true) by rw [hU, iSpec]; simp [hlg])
              clear hU hlg hbig hnil0
              go_enter Tryd.func18, Tryd.ntmps18
              go_wp2_with (first | (go_at_call 17; refine SG.out.mono ?_; rintro e w1 ⟨rfl, hw1⟩) | (go_at_call 28; refine (G.out w1).mono ?_; rintro e w2 ⟨rfl, rfl⟩) | (go_at_call 29; refine (RR.out w1).mono ?_; rintro e w3 ⟨rfl, hw3⟩))
              all_goals first | (exfalso; omega) | skip
              go_ret3
              exact ⟨by rw [HE.out]; rfl, (hw1.trans (hw3.mono hw1.size)).trans ((Below.refl _ _).alloc (Nat.le_trans hw1.size hw3.size) _)⟩
        · have hnil0 := hnil
          clear hnil
          have HE := Lib.hid (show U = ((-(H : Int) : Int), 2, o) by rw [hU, iSpec]; simp [hlg])
          clear hU hlg hbig hnil0
          go_enter Tryd.func18, Tryd.ntmps18
          go_wp2_with (first | (go_at_call 17; refine SG.out.mono ?_; rintro e w1 ⟨rfl, hw1⟩) | (go_at_call 28; refine (G.out w1).mono ?_; rintro e w2 ⟨rfl, rfl⟩) | (go_at_call 29; refine (RR.out w1).mono ?_; rintro e w3 ⟨rfl, hw3⟩))
          all_goals first | (exfalso; omega) | skip
          go_quiet (fail)
          go_wp2_with fail
          go_ret3
          exact ⟨by rw [HE.out]; show _ = Ending.returned (.tuple #[.int .i64 (-(H : Int)), .int .i64 2, .bool o]); rw [show -(H : Int) = -hI - 1 by have := HHI.out; have := HH1.out; omega]; rfl, ((hw1.trans (hw3.mono hw1.size)).trans ((Below.refl _ _).alloc (Nat.le_trans hw1.size hw3.size) _)).trans (below_drewN3 _ _ _)⟩
      · have hlI : s ≤ hI + 1 := by omega
        have hlD : decide (hI + 1 < s) = false := by simp; omega
        clear hs hne hhI hr hmn hsg hrest hmost hH hHb hnl
        cases g
        · cases ne
          · skip
            have hnil0 : (str l).toList = [] := hnil.2 rfl
            have hnil1 := hnil0
            clear hnil
            have HE := Lib.hid (show U = ((0 : Int), 1, false) by rw [hU, iSpec]; simp [hlg])
            clear hU hlg hbig hnil0
            go_enter Tryd.func18, Tryd.ntmps18
            go_wp2_with (first | (go_at_call 17; refine SG.out.mono ?_; rintro e w1 ⟨rfl, hw1⟩) | (go_at_call 28; refine (G.out w1).mono ?_; rintro e w2 ⟨rfl, rfl⟩) | (go_at_call 29; refine (RR.out w1).mono ?_; rintro e w3 ⟨rfl, hw3⟩))
            all_goals first | (exfalso; omega) | skip
            go_ret3
            exact ⟨by rw [HE.out]; rfl, (hw1.trans (hw3.mono hw1.size)).trans ((Below.refl _ _).alloc (Nat.le_trans hw1.size hw3.size) _)⟩
          · skip
            have hnil0 : ¬ (str l).toList = [] := fun h => by have := hnil.1 h; cases this
            have hnil1 := hnil0
            clear hnil
            cases o
            · skip
              have HE := Lib.hid (show U = ((0 : Int), 1, false) by rw [hU, iSpec]; simp [hlg])
              clear hU hlg hbig hnil0
              go_enter Tryd.func18, Tryd.ntmps18
              go_wp2_with (first | (go_at_call 17; refine SG.out.mono ?_; rintro e w1 ⟨rfl, hw1⟩) | (go_at_call 28; refine (G.out w1).mono ?_; rintro e w2 ⟨rfl, rfl⟩) | (go_at_call 29; refine (RR.out w1).mono ?_; rintro e w3 ⟨rfl, hw3⟩))
              all_goals first | (exfalso; omega) | skip
              go_ret3
              exact ⟨by rw [HE.out]; rfl, (hw1.trans (hw3.mono hw1.size)).trans ((Below.refl _ _).alloc (Nat.le_trans hw1.size hw3.size) _)⟩
            · skip
              have HE := Lib.hid (show U = ((0 : Int), 1, true) by rw [hU, iSpec]; simp [hlg])
              clear hU hlg hbig hnil0
              go_enter Tryd.func18, Tryd.ntmps18
              go_wp2_with (first | (go_at_call 17; refine SG.out.mono ?_; rintro e w1 ⟨rfl, hw1⟩) | (go_at_call 28; refine (G.out w1).mono ?_; rintro e w2 ⟨rfl, rfl⟩) | (go_at_call 29; refine (RR.out w1).mono ?_; rintro e w3 ⟨rfl, hw3⟩))
              all_goals first | (exfalso; omega) | skip
              go_ret3
              exact ⟨by rw [HE.out]; rfl, (hw1.trans (hw3.mono hw1.size)).trans ((Below.refl _ _).alloc (Nat.le_trans hw1.size hw3.size) _)⟩
        · have hnil0 := hnil
          clear hnil
          by_cases hs0 : s = 0
          · have hV0 : (v : Int) = 0 := by have := HS.out; omega
            have HE := Lib.hid (show U = ((0 : Int), 0, o) by rw [hU, iSpec]; simp [hlg]; omega)
            subst hs0
            clear hU hlg hbig hnil0
            go_enter Tryd.func18, Tryd.ntmps18
            go_wp2_with (first | (go_at_call 17; refine SG.out.mono ?_; rintro e w1 ⟨rfl, hw1⟩) | (go_at_call 28; refine (G.out w1).mono ?_; rintro e w2 ⟨rfl, rfl⟩) | (go_at_call 29; refine (RR.out w1).mono ?_; rintro e w3 ⟨rfl, hw3⟩))
            all_goals first | (exfalso; omega) | skip
            go_quiet (fail)
            go_wp2_with fail
            go_ret3
            exact ⟨by rw [HE.out]; exact (show _ = Ending.returned (.tuple #[.int .i64 (wrap64 (wrap64 (-wrap64 (IntKind.u64.wrap (-1))) - 1)), .int .i64 0, .bool o]) from rfl).trans (by rw [show wrap64 (wrap64 (-wrap64 (IntKind.u64.wrap (-1))) - 1) = 0 by decide +kernel]; rfl), ((hw1.trans (hw3.mono hw1.size)).trans ((Below.refl _ _).alloc (Nat.le_trans hw1.size hw3.size) _)).trans (below_drewN3 _ _ _)⟩
          · have hs00 : 1 ≤ s := by omega
            have HE := Lib.hid (show U = ((-(v : Int) : Int), 0, o) by rw [hU, iSpec]; simp [hlg])
            clear hU hlg hbig hnil0
            go_enter Tryd.func18, Tryd.ntmps18
            go_wp2_with (first | (go_at_call 17; refine SG.out.mono ?_; rintro e w1 ⟨rfl, hw1⟩) | (go_at_call 28; refine (G.out w1).mono ?_; rintro e w2 ⟨rfl, rfl⟩) | (go_at_call 29; refine (RR.out w1).mono ?_; rintro e w3 ⟨rfl, hw3⟩))
            all_goals first | (exfalso; omega) | skip
            go_quiet (fail)
            go_wp2_with fail
            go_ret3
            exact ⟨by rw [HE.out]; show _ = Ending.returned (.tuple #[.int .i64 (-(v : Int)), .int .i64 0, .bool o]); rw [← HS.out, show -s = -(s - 1) - 1 by omega]; rfl, ((hw1.trans (hw3.mono hw1.size)).trans ((Below.refl _ _).alloc (Nat.le_trans hw1.size hw3.size) _)).trans (below_drewN3 _ _ _)⟩
end Go.Proofs.YtlnokggbejfocaaDoor
