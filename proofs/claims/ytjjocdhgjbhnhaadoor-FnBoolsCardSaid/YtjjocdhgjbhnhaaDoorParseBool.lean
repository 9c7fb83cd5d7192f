/-
  Contracts: spec.ParseBool and impl.ParseBool.
-/
import Derived.Test.YtjjocdhgjbhnhaaDoorFail
import Derived.Test.YtjjocdhgjbhnhaaDoorShelf
import Derived.Test.YtjjocdhgjbhnhaaDoorStrWords
import Derived.Lib.ParseBool
namespace Go.Proofs.YtjjocdhgjbhnhaaDoor
open Go.RowKit
set_option maxRecDepth 100000
set_option linter.unusedVariables false
set_option linter.unusedSimpArgs false
def trueL : List (List UInt8) := [[49], [116], [84], [84, 82, 85, 69], [116, 114, 117, 101], [84, 114, 117, 101]]
def falseL : List (List UInt8) := [[48], [102], [70], [70, 65, 76, 83, 69], [102, 97, 108, 115, 101], [70, 97, 108, 115, 101]]
theorem parseBool_lists (l : List UInt8) : Lib.parseBool l = if l ∈ trueL then some true else if l ∈ falseL then some false else none := by
  rw [Lib.parseBool_bytes]
  have e1 : (l == [49] || l == [116] || l == [84] || l == [116, 114, 117, 101] || l == [84, 82, 85, 69] || l == [84, 114, 117, 101]) = true ↔ l ∈ trueL := by
    simp only [trueL, Bool.or_eq_true, beq_iff_eq, List.mem_cons, List.not_mem_nil, or_false]
    constructor
    · rintro (((((h | h) | h) | h) | h) | h) <;> simp [h]
    · rintro (h | h | h | h | h | h) <;> simp [h]
  have e2 : (l == [48] || l == [102] || l == [70] || l == [102, 97, 108, 115, 101] || l == [70, 65, 76, 83, 69] || l == [70, 97, 108, 115, 101]) = true ↔ l ∈ falseL := by
    simp only [falseL, Bool.or_eq_true, beq_iff_eq, List.mem_cons, List.not_mem_nil, or_false]
    constructor
    · rintro (((((h | h) | h) | h) | h) | h) <;> simp [h]
    · rintro (h | h | h | h | h | h) <;> simp [h]
  simp only [e1, e2]
theorem trueL_at (w : World) (T : TypeId) (k : Nat) (hk : k < 6) : ∃ x, trueL[k]? = some x ∧ (w.alloc (.cells #[.string ⟨#[49]⟩, .string ⟨#[116]⟩, .string ⟨#[84]⟩, .string ⟨#[84, 82, 85, 69]⟩, .string ⟨#[116, 114, 117, 101]⟩, .string ⟨#[84, 114, 117, 101]⟩] T)).cell? ⟨w.heap.size, k, none⟩ = some (.string (str x)) := by
  refine ⟨trueL[k]'hk, List.getElem?_eq_getElem hk, ?_⟩
  rw [World.cell?_alloc_new]
  have : k = 0 ∨ k = 1 ∨ k = 2 ∨ k = 3 ∨ k = 4 ∨ k = 5 := by omega
  rcases this with rfl | rfl | rfl | rfl | rfl | rfl <;> rfl
theorem falseL_at (w : World) (T : TypeId) (k : Nat) (hk : k < 6) : ∃ x, falseL[k]? = some x ∧ (w.alloc (.cells #[.string ⟨#[48]⟩, .string ⟨#[102]⟩, .string ⟨#[70]⟩, .string ⟨#[70, 65, 76, 83, 69]⟩, .string ⟨#[102, 97, 108, 115, 101]⟩, .string ⟨#[70, 97, 108, 115, 101]⟩] T)).cell? ⟨w.heap.size, k, none⟩ = some (.string (str x)) := by
  refine ⟨falseL[k]'hk, List.getElem?_eq_getElem hk, ?_⟩
  rw [World.cell?_alloc_new]
  have : k = 0 ∨ k = 1 ∨ k = 2 ∨ k = 3 ∨ k = 4 ∨ k = 5 := by omega
  rcases this with rfl | rfl | rfl | rfl | rfl | rfl <;> rfl
def pbVal (l : List UInt8) : Bool := (Lib.parseBool l).getD false
def pbOk (l : List UInt8) : Bool := (Lib.parseBool l).isSome
theorem pb_true {l : List UInt8} (h : l ∈ trueL) : pbVal l = true ∧ pbOk l = true := by
  unfold pbVal pbOk; rw [parseBool_lists, if_pos h]; exact ⟨rfl, rfl⟩
theorem pb_false {l : List UInt8} (h : l ∉ trueL) (h2 : l ∈ falseL) : pbVal l = false ∧ pbOk l = true := by
  unfold pbVal pbOk; rw [parseBool_lists, if_neg h, if_pos h2]; exact ⟨rfl, rfl⟩
theorem pb_none {l : List UInt8} (h : l ∉ trueL) (h2 : l ∉ falseL) : pbVal l = false ∧ pbOk l = false := by
  unfold pbVal pbOk; rw [parseBool_lists, if_neg h, if_neg h2]; exact ⟨rfl, rfl⟩
theorem not_mem_of_take {α : Type} {l : List α} {x : α} {n : Nat} (h : ∀ j, j < n → l[j]? ≠ some x) (hn : l.length ≤ n) : x ∉ l := by
  intro hm
  obtain ⟨j, hj, rfl⟩ := List.mem_iff_getElem.1 hm
  exact h j (by omega) (List.getElem?_eq_getElem hj)
set_option maxHeartbeats 1000000 in
theorem specParseBool_any (l : List UInt8) (w : World) : Calls Tryd.prog 15 #[.string (str l)] w fun e w' => e = .returned (.tuple #[.bool (pbVal l), .bool (pbOk l)]) ∧ Below w.heap.size w w' := by
  have el : (str l).toList = l := by rw [Lib.toList_data]; rfl
  obtain ⟨v, hv⟩ : ∃ v, v = pbVal l := ⟨_, rfl⟩
  obtain ⟨o, ho⟩ : ∃ o, o = pbOk l := ⟨_, rfl⟩
  rw [← hv, ← ho]
  have HV := Lib.hid hv
  have HO := Lib.hid ho
  clear hv ho
  go_enter Tryd.func15, Tryd.ntmps15
  go_wp2
  go_loop [10] (fun vk => ∃ k : Nat, vk = .int .i64 k ∧ k ≤ 6 ∧ Hid (∀ j, j < k → trueL[j]? ≠ some l)) (fun vk => 6 - (intOf vk).toNat)
  case atStart => exact ⟨0, rfl, by omega, fun j hj => by omega⟩
  case round =>
    obtain ⟨k, rfl, hk, hno⟩ := hrel
    by_cases hlt : k < 6
    · obtain ⟨x, hx, hcell⟩ := trueL_at w 9 k hlt
      have ex : (str x).toList = x := by rw [Lib.toList_data]; rfl
      by_cases hxl : l = x
      · have hq : (l == x) = true := by simpa using hxl
        obtain ⟨e1, e2⟩ := pb_true (l := l) (by rw [hxl]; exact List.mem_of_getElem? hx)
        have HE := Lib.hid (HV.out.trans e1)
        have HE2 := Lib.hid (HO.out.trans e2)
        clear hxl hx e1 e2 HV HO
        go_wp2
        go_ret2
        exact ⟨by rw [HE.out, HE2.out]; rfl, (Below.refl _ _).alloc (Nat.le_refl _) _⟩
      · have hq : (l == x) = false := by simpa using hxl
        have hno2 : Hid (∀ j, j < k + 1 → trueL[j]? ≠ some l) := fun j hj => by
          rcases Nat.lt_or_ge j k with h | h
          · exact hno.out j h
          · obtain rfl : j = k := by omega
            rw [hx]; intro e; exact hxl (Option.some.inj e).symm
        clear hxl hx
        go_wp2
        go_round
        case rel => exact ⟨k + 1, by go_num, by omega, hno2⟩
        case measure => simp [intOf]; omega
    · have hnot : l ∉ trueL := not_mem_of_take hno.out (by show 6 ≤ k; omega)
      have HNT := Lib.hid hnot
      clear hnot
      obtain ⟨w2, hw2⟩ : ∃ w2, w2 = w.alloc (.cells #[.string ⟨#[49]⟩, .string ⟨#[116]⟩, .string ⟨#[84]⟩, .string ⟨#[84, 82, 85, 69]⟩, .string ⟨#[116, 114, 117, 101]⟩, .string ⟨#[84, 114, 117, 101]⟩] 9) := ⟨_, rfl⟩
      have hb2 : Below w.heap.size w w2 := by rw [hw2]; exact (Below.refl _ _).alloc (Nat.le_refl _) _
      rw [← hw2]
      clear hw2
      go_wp2
      go_loop [20] (fun vk => ∃ k : Nat, vk = .int .i64 k ∧ k ≤ 6 ∧ Hid (∀ j, j < k → falseL[j]? ≠ some l)) (fun vk => 6 - (intOf vk).toNat)
      case atStart => exact ⟨0, rfl, by omega, fun j hj => by omega⟩
      case round =>
        obtain ⟨k, rfl, hk, hno⟩ := hrel
        by_cases hlt : k < 6
        · obtain ⟨x, hx, hcell⟩ := falseL_at w2 9 k hlt
          have ex : (str x).toList = x := by rw [Lib.toList_data]; rfl
          by_cases hxl : l = x
          · have hq : (l == x) = true := by simpa using hxl
            obtain ⟨e1, e2⟩ := pb_false (l := l) HNT.out (by rw [hxl]; exact List.mem_of_getElem? hx)
            have HE := Lib.hid (HV.out.trans e1)
            have HE2 := Lib.hid (HO.out.trans e2)
            clear hxl hx e1 e2 HV HO
            go_wp2
            go_ret2
            exact ⟨by rw [HE.out, HE2.out]; rfl, hb2.trans ((Below.refl _ _).alloc hb2.size _)⟩
          · have hq : (l == x) = false := by simpa using hxl
            have hno2 : Hid (∀ j, j < k + 1 → falseL[j]? ≠ some l) := fun j hj => by
              rcases Nat.lt_or_ge j k with h | h
              · exact hno.out j h
              · obtain rfl : j = k := by omega
                rw [hx]; intro e; exact hxl (Option.some.inj e).symm
            clear hxl hx
            go_wp2
            go_round
            case rel => exact ⟨k + 1, by go_num, by omega, hno2⟩
            case measure => simp [intOf]; omega
        · have hnot : l ∉ falseL := not_mem_of_take hno.out (by show 6 ≤ k; omega)
          obtain ⟨e1, e2⟩ := pb_none (l := l) HNT.out hnot
          have HE := Lib.hid (HV.out.trans e1)
          have HE2 := Lib.hid (HO.out.trans e2)
          clear e1 e2 HV HO hnot
          go_wp2
          go_ret2
          exact ⟨by rw [HE.out, HE2.out]; rfl, hb2.trans ((Below.refl _ _).alloc hb2.size _)⟩
theorem bcell {W w1 : World} (hb : Below W.heap.size W w1) : (∀ b o, b < W.heap.size → w1.cell? ⟨b, o, none⟩ = W.cell? ⟨b, o, none⟩) ∧ (∀ b o, b < W.heap.size → w1.frozen? ⟨b, o, none⟩ = W.frozen? ⟨b, o, none⟩) :=
  ⟨fun b o h => hb.cell (p := ⟨b, o, none⟩) h, fun b o h => hb.frozen (p := ⟨b, o, none⟩) h⟩
def pbText : List UInt8 := [80, 97, 114, 115, 101, 66, 111, 111, 108]
theorem ParseBool_ok (l : List UInt8) (w : World) (h : pbOk l = true) : Calls Tryd.prog 16 #[.string (str l)] w fun e w' => e = .returned (.tuple #[.bool (pbVal l), failV 0 (str []) (str [])]) ∧ Below w.heap.size w w' := by
  obtain ⟨b, hb⟩ := Option.isSome_iff_exists.1 h
  have hv : pbVal l = b := by unfold pbVal; rw [hb]; rfl
  rw [hv]
  have C := Lib.hid fun wx => Tryd.strconv_ParseBool (str l) b hb wx
  have D := Lib.hid fun wx => failure_nil wx
  clear hb h hv
  go_enter Tryd.func16, Tryd.ntmps16
  go_wp2_with (first
    | (go_at_call 31; refine (C.out _).mono ?_; rintro e w1 ⟨rfl, rfl⟩)
    | (go_at_call 32; refine (D.out _).mono ?_; rintro e w2 ⟨rfl, hw2⟩; unfold failV; obtain ⟨hc, hf⟩ := bcell hw2))
  refine bodyPost_ret (v := .tuple #[.bool b, failV 0 (str []) (str [])]) (by simp [failV, results, Tryd.results16, go_sem, hc]) rfl ⟨rfl, ?_⟩
  exact (((((Below.refl _ _).alloc (Nat.le_refl _) _).trans (hw2.mono (by simp))).setCell (Nat.le_refl _) _).setCell (Nat.le_refl _) _).setCell (Nat.le_refl _) _
theorem ParseBool_err (l : List UInt8) (w : World) (h : pbOk l = false) (aS aR : Addr) (hE : ErrT w aS aR) (hlim : l.length ≤ 281474976710656) : Calls Tryd.prog 16 #[.string (str l)] w fun e w' => e = .returned (.tuple #[.bool false, failV 1 (str pbText) (str l)]) ∧ Below w.heap.size w w' := by
  have hb : Lib.parseBool l = none := by simpa [pbOk] using h
  have C := Lib.hid fun wx (hbx : Below w.heap.size w wx) => Tryd.strconv_ParseBool_err (str l) (by rw [size_str]; exact hlim) hb _ wx (hE.below hbx).syn.var (.inr ⟨_, _, rfl⟩)
  have D := Lib.hid fun wx (hbx : Below w.heap.size w wx) N (hN : wx.heap[N]? = some (.cells #[.string (str pbText), .string (str l), .iface 102 (.pointer (some aS))] 75 (0, 0))) => failure_num wx N (str pbText) (str l) _ 1 hN (fun wy hby => kind_syn wy aS aR (hE.below (hbx.trans (hby.mono hbx.size))))
  clear hb h hE
  go_enter Tryd.func16, Tryd.ntmps16
  go_wp2_with (first
    | (go_at_call 31; refine (C.out _ ((Below.refl _ _).alloc (Nat.le_refl _) _)).mono ?_; rintro e w1 ⟨N, rfl, hNs, hN, hw1⟩; have DD := Lib.hid (D.out w1 (((Below.refl _ _).alloc (Nat.le_refl _) _).trans (hw1.mono (by simp))) N hN); clear hN)
    | (go_at_call 32; refine DD.out.mono ?_; rintro e w2 ⟨rfl, hw2⟩; unfold failV; obtain ⟨hc, hf⟩ := bcell (show Below (w.alloc (.cells #[.int .i64 0, .string ⟨#[]⟩, .string ⟨#[]⟩] 25)).heap.size (w.alloc (.cells #[.int .i64 0, .string ⟨#[]⟩, .string ⟨#[]⟩] 25)) w2 from hw1.trans (hw2.mono hw1.size))))
  refine bodyPost_ret (v := .tuple #[.bool false, failV 1 (str pbText) (str l)]) (by simp [failV, results, Tryd.results16, go_sem, hc]) rfl ⟨rfl, ?_⟩
  exact (((((Below.refl _ _).alloc (Nat.le_refl _) _).trans ((hw1.trans (hw2.mono hw1.size)).mono (by simp))).setCell (Nat.le_refl _) _).setCell (Nat.le_refl _) _).setCell (Nat.le_refl _) _
end Go.Proofs.YtjjocdhgjbhnhaaDoor
