/-
  Contracts: strconv.ParseInt and the thin package's, at every text, base and size that are asked. (XParse without its ParseUint: cut by wip/gen/numq.py.)
-/
import Derived.Test.YthbnglkpkgpojaaDoorParseInt
import Derived.Test.YthbnglkpkgpojaaDoorFail
namespace Go.Proofs.YthbnglkpkgpojaaDoor
open Go.RowKit
set_option maxRecDepth 100000
set_option linter.unusedVariables false
set_option linter.unusedSimpArgs false
theorem bcell2 {W w1 : World} (hb : Below W.heap.size W w1) : (∀ b o, b < W.heap.size → w1.cell? ⟨b, o, none⟩ = W.cell? ⟨b, o, none⟩) ∧ (∀ b o, b < W.heap.size → w1.frozen? ⟨b, o, none⟩ = W.frozen? ⟨b, o, none⟩) :=
  ⟨fun b o h => hb.cell (p := ⟨b, o, none⟩) h, fun b o h => hb.frozen (p := ⟨b, o, none⟩) h⟩
theorem iParseInt_nil (base bits : Int) (w : World) : Calls Tryd.prog 60 #[.string (str []), .int .i64 base, .int .i64 bits] w fun e w' => e = .returned (pIv 0 2) ∧ w = w' := by
  have hem : (str []).toList.isEmpty = true := by rw [Lib.toList_data]; rfl
  go_enter Tryd.func60, Tryd.ntmps60
  go_wp2_with fail
  go_ret2
  exact ⟨rfl, rfl⟩
theorem iParseInt_e (l : List UInt8) (base bits : Int) (w : World) (hb : base = 0 ∨ 2 ≤ base ∧ base ≤ 36) (hb0 : 0 ≤ bits) (hb64 : bits ≤ 64) (hl : l.length ≤ 140737488355328) :
    Calls Tryd.prog 60 #[.string (str l), .int .i64 base, .int .i64 bits] w fun e w' => e = .returned (pIv (pIe l base.toNat bits.toNat).1 (pIe l base.toNat bits.toNat).2) ∧ Below w.heap.size w w' := by
  by_cases h : l = []
  · subst h
    exact (iParseInt_nil base bits w).mono fun e w' ⟨h1, h2⟩ => ⟨by rw [h1]; rfl, by rw [← h2]; exact Below.refl _ _⟩
  · have := iParseInt_b l base bits w h hb hb0 hb64 hl
    rw [pIe, if_neg h]; exact this
theorem pIe_code (l : List UInt8) (base bits : Nat) : (pIe l base bits).2 = 0 ∨ (pIe l base bits).2 = 1 ∨ (pIe l base bits).2 = 2 := by
  unfold pIe; split
  · exact .inr (.inr rfl)
  · unfold pIb
    repeat' split
    all_goals simp
/-- a failure of a kind: 0 none, 1 out of range, 2 no number (the library's own numbers) -/
def failOf (k : Nat) (fn l : List UInt8) : Value := if k = 0 then failV 0 (str []) (str []) else if k = 1 then failV 2 (str fn) (str l) else failV 1 (str fn) (str l)
def puText : List UInt8 := [80, 97, 114, 115, 101, 85, 105, 110, 116]
def piText : List UInt8 := [80, 97, 114, 115, 101, 73, 110, 116]
theorem sParseInt_ok (l : List UInt8) (base bits : Int) (w : World) (hb : base = 0 ∨ 2 ≤ base ∧ base ≤ 36) (hb0 : 0 ≤ bits) (hb64 : bits ≤ 64) (hl : l.length ≤ 140737488355328) (v : Int) (h : pIe l base.toNat bits.toNat = (v, 0)) :
    Calls Tryd.prog 42 #[.string (str l), .int .i64 base, .int .i64 bits] w fun e w' => e = .returned (.tuple #[.int .i64 v, .nilIface]) ∧ Below w.heap.size w w' := by
  have C := iParseInt_e l base bits w hb hb0 hb64 hl
  rw [h] at C
  have C := Lib.hid (show Calls Tryd.prog 60 #[.string (str l), .int .i64 base, .int .i64 bits] w fun e w' => e = .returned (.tuple #[.int .i64 v, .nilIface]) ∧ Below w.heap.size w w' from C)
  clear h
  go_enter Tryd.func42, Tryd.ntmps42
  go_wp2_with (go_at_call 60; refine C.out.mono ?_; rintro e w1 ⟨rfl, hw1⟩)
  go_ret2
  exact ⟨rfl, hw1⟩
theorem sParseInt_syn (l : List UInt8) (base bits : Int) (w : World) (hb : base = 0 ∨ 2 ≤ base ∧ base ≤ 36) (hb0 : 0 ≤ bits) (hb64 : bits ≤ 64) (hl : l.length ≤ 140737488355328) (v : Int) (h : pIe l base.toNat bits.toNat = (v, 2)) (aS aR : Addr) (hE : ErrT w aS aR) :
    Calls Tryd.prog 42 #[.string (str l), .int .i64 base, .int .i64 bits] w fun e w' => ∃ N, e = .returned (.tuple #[.int .i64 v, .iface 55 (.pointer (some ⟨N, 0, none⟩))]) ∧ w'.heap[N]? = some (.cells #[.string (str piText), .string (str l), .iface 112 (.pointer (some aS))] 74 (0, 0)) ∧ Below w.heap.size w w' := by
  have C := iParseInt_e l base bits w hb hb0 hb64 hl
  rw [h] at C
  have C := Lib.hid (show Calls Tryd.prog 60 #[.string (str l), .int .i64 base, .int .i64 bits] w fun e w' => e = .returned (.tuple #[.int .i64 v, .iface 91 (.int .i64 2)]) ∧ Below w.heap.size w w' from C)
  have T := Lib.hid fun wx (hbx : Below w.heap.size w wx) => Tryd.strconv_toError_syntax (str piText) (str l) base bits _ wx (by rw [size_str]; omega) (hE.below hbx).syn.var (.inr ⟨_, _, rfl⟩)
  clear h hE
  go_enter Tryd.func42, Tryd.ntmps42
  go_wp2_with (first
    | (go_at_call 60; refine C.out.mono ?_; rintro e w1 ⟨rfl, hw1⟩)
    | (go_at_call 61; refine (T.out w1 hw1).mono ?_; rintro e w2 ⟨N, rfl, hNs, hN, hw2⟩; have HN := Lib.hid hN; clear hN))
  go_ret2
  exact ⟨N, rfl, HN.out, hw1.trans (hw2.mono hw1.size)⟩
theorem sParseInt_rng (l : List UInt8) (base bits : Int) (w : World) (hb : base = 0 ∨ 2 ≤ base ∧ base ≤ 36) (hb0 : 0 ≤ bits) (hb64 : bits ≤ 64) (hl : l.length ≤ 140737488355328) (v : Int) (h : pIe l base.toNat bits.toNat = (v, 1)) (aS aR : Addr) (hE : ErrT w aS aR) :
    Calls Tryd.prog 42 #[.string (str l), .int .i64 base, .int .i64 bits] w fun e w' => ∃ N, e = .returned (.tuple #[.int .i64 v, .iface 55 (.pointer (some ⟨N, 0, none⟩))]) ∧ w'.heap[N]? = some (.cells #[.string (str piText), .string (str l), .iface 112 (.pointer (some aR))] 74 (0, 0)) ∧ Below w.heap.size w w' := by
  have C := iParseInt_e l base bits w hb hb0 hb64 hl
  rw [h] at C
  have C := Lib.hid (show Calls Tryd.prog 60 #[.string (str l), .int .i64 base, .int .i64 bits] w fun e w' => e = .returned (.tuple #[.int .i64 v, .iface 91 (.int .i64 1)]) ∧ Below w.heap.size w w' from C)
  have T := Lib.hid fun wx (hbx : Below w.heap.size w wx) => Tryd.strconv_toError_range (str piText) (str l) base bits _ wx (by rw [size_str]; omega) (hE.below hbx).rng.var (.inr ⟨_, _, rfl⟩)
  clear h hE
  go_enter Tryd.func42, Tryd.ntmps42
  go_wp2_with (first
    | (go_at_call 60; refine C.out.mono ?_; rintro e w1 ⟨rfl, hw1⟩)
    | (go_at_call 61; refine (T.out w1 hw1).mono ?_; rintro e w2 ⟨N, rfl, hNs, hN, hw2⟩; have HN := Lib.hid hN; clear hN))
  go_ret2
  exact ⟨N, rfl, HN.out, hw1.trans (hw2.mono hw1.size)⟩
theorem ParseInt_ok (l : List UInt8) (base bits : Int) (w : World) (hb : base = 0 ∨ 2 ≤ base ∧ base ≤ 36) (hb0 : 0 ≤ bits) (hb64 : bits ≤ 64) (hl : l.length ≤ 140737488355328) (v : Int) (h : pIe l base.toNat bits.toNat = (v, 0)) :
    Calls Tryd.prog 24 #[.string (str l), .int .i64 base, .int .i64 bits] w fun e w' => e = .returned (.tuple #[.int .i64 v, failV 0 (str []) (str [])]) ∧ Below w.heap.size w w' := by
  have C := Lib.hid fun wx => sParseInt_ok l base bits wx hb hb0 hb64 hl v h
  have D := Lib.hid fun wx => failure_nil wx
  clear h
  go_enter Tryd.func24, Tryd.ntmps24
  go_wp2_with (first
    | (go_at_call 42; refine (C.out _).mono ?_; rintro e w1 ⟨rfl, hw1⟩)
    | (go_at_call 43; refine (D.out w1).mono ?_; rintro e w2 ⟨rfl, hw2⟩; unfold failV; obtain ⟨hc, hf⟩ := bcell2 (show Below (w.alloc (.cells #[.int .i64 0, .string ⟨#[]⟩, .string ⟨#[]⟩] 34)).heap.size (w.alloc (.cells #[.int .i64 0, .string ⟨#[]⟩, .string ⟨#[]⟩] 34)) w2 from hw1.trans (hw2.mono hw1.size))))
  refine bodyPost_ret (v := .tuple #[.int .i64 v, failV 0 (str []) (str [])]) (by simp [failV, str, results, Tryd.results24, go_sem, hc]) rfl ⟨rfl, ?_⟩
  exact (((((Below.refl _ _).alloc (Nat.le_refl _) _).trans ((hw1.trans (hw2.mono hw1.size)).mono (by simp))).setCell (Nat.le_refl _) _).setCell (Nat.le_refl _) _).setCell (Nat.le_refl _) _
theorem ParseInt_syn (l : List UInt8) (base bits : Int) (w : World) (hb : base = 0 ∨ 2 ≤ base ∧ base ≤ 36) (hb0 : 0 ≤ bits) (hb64 : bits ≤ 64) (hl : l.length ≤ 140737488355328) (v : Int) (h : pIe l base.toNat bits.toNat = (v, 2)) (aS aR : Addr) (hE : ErrT w aS aR) :
    Calls Tryd.prog 24 #[.string (str l), .int .i64 base, .int .i64 bits] w fun e w' => e = .returned (.tuple #[.int .i64 v, failV 1 (str piText) (str l)]) ∧ Below w.heap.size w w' := by
  have C := Lib.hid fun wx (hbx : Below w.heap.size w wx) => sParseInt_syn l base bits wx hb hb0 hb64 hl v h aS aR (hE.below hbx)
  have D := Lib.hid fun wx (hbx : Below w.heap.size w wx) N (hN : wx.heap[N]? = some (.cells #[.string (str piText), .string (str l), .iface 112 (.pointer (some aS))] 74 (0, 0))) => failure_num wx N (str piText) (str l) _ 1 hN (fun wy hby => kind_syn wy aS aR (hE.below (hbx.trans (hby.mono hbx.size))))
  clear h hE
  go_enter Tryd.func24, Tryd.ntmps24
  go_wp2_with (first
    | (go_at_call 42; refine (C.out _ ((Below.refl _ _).alloc (Nat.le_refl _) _)).mono ?_; rintro e w1 ⟨N, rfl, hN, hw1⟩; have DD := Lib.hid (D.out w1 (((Below.refl _ _).alloc (Nat.le_refl _) _).trans (hw1.mono (by simp))) N hN); clear hN)
    | (go_at_call 43; refine DD.out.mono ?_; rintro e w2 ⟨rfl, hw2⟩; unfold failV; obtain ⟨hc, hf⟩ := bcell2 (show Below (w.alloc (.cells #[.int .i64 0, .string ⟨#[]⟩, .string ⟨#[]⟩] 34)).heap.size (w.alloc (.cells #[.int .i64 0, .string ⟨#[]⟩, .string ⟨#[]⟩] 34)) w2 from hw1.trans (hw2.mono hw1.size))))
  refine bodyPost_ret (v := .tuple #[.int .i64 v, failV 1 (str piText) (str l)]) (by simp [failV, str, results, Tryd.results24, go_sem, hc]) rfl ⟨rfl, ?_⟩
  exact (((((Below.refl _ _).alloc (Nat.le_refl _) _).trans ((hw1.trans (hw2.mono hw1.size)).mono (by simp))).setCell (Nat.le_refl _) _).setCell (Nat.le_refl _) _).setCell (Nat.le_refl _) _
theorem ParseInt_rng (l : List UInt8) (base bits : Int) (w : World) (hb : base = 0 ∨ 2 ≤ base ∧ base ≤ 36) (hb0 : 0 ≤ bits) (hb64 : bits ≤ 64) (hl : l.length ≤ 140737488355328) (v : Int) (h : pIe l base.toNat bits.toNat = (v, 1)) (aS aR : Addr) (hE : ErrT w aS aR) :
    Calls Tryd.prog 24 #[.string (str l), .int .i64 base, .int .i64 bits] w fun e w' => e = .returned (.tuple #[.int .i64 v, failV 2 (str piText) (str l)]) ∧ Below w.heap.size w w' := by
  have C := Lib.hid fun wx (hbx : Below w.heap.size w wx) => sParseInt_rng l base bits wx hb hb0 hb64 hl v h aS aR (hE.below hbx)
  have D := Lib.hid fun wx (hbx : Below w.heap.size w wx) N (hN : wx.heap[N]? = some (.cells #[.string (str piText), .string (str l), .iface 112 (.pointer (some aR))] 74 (0, 0))) => failure_num wx N (str piText) (str l) _ 2 hN (fun wy hby => kind_rng wy aS aR (hE.below (hbx.trans (hby.mono hbx.size))))
  clear h hE
  go_enter Tryd.func24, Tryd.ntmps24
  go_wp2_with (first
    | (go_at_call 42; refine (C.out _ ((Below.refl _ _).alloc (Nat.le_refl _) _)).mono ?_; rintro e w1 ⟨N, rfl, hN, hw1⟩; have DD := Lib.hid (D.out w1 (((Below.refl _ _).alloc (Nat.le_refl _) _).trans (hw1.mono (by simp))) N hN); clear hN)
    | (go_at_call 43; refine DD.out.mono ?_; rintro e w2 ⟨rfl, hw2⟩; unfold failV; obtain ⟨hc, hf⟩ := bcell2 (show Below (w.alloc (.cells #[.int .i64 0, .string ⟨#[]⟩, .string ⟨#[]⟩] 34)).heap.size (w.alloc (.cells #[.int .i64 0, .string ⟨#[]⟩, .string ⟨#[]⟩] 34)) w2 from hw1.trans (hw2.mono hw1.size))))
  refine bodyPost_ret (v := .tuple #[.int .i64 v, failV 2 (str piText) (str l)]) (by simp [failV, str, results, Tryd.results24, go_sem, hc]) rfl ⟨rfl, ?_⟩
  exact (((((Below.refl _ _).alloc (Nat.le_refl _) _).trans ((hw1.trans (hw2.mono hw1.size)).mono (by simp))).setCell (Nat.le_refl _) _).setCell (Nat.le_refl _) _).setCell (Nat.le_refl _) _
theorem ParseInt_any (l : List UInt8) (base bits : Int) (w : World) (hb : base = 0 ∨ 2 ≤ base ∧ base ≤ 36) (hb0 : 0 ≤ bits) (hb64 : bits ≤ 64) (hl : l.length ≤ 140737488355328) (aS aR : Addr) (hE : ErrT w aS aR) :
    Calls Tryd.prog 24 #[.string (str l), .int .i64 base, .int .i64 bits] w fun e w' => e = .returned (.tuple #[.int .i64 (pIe l base.toNat bits.toNat).1, failOf (pIe l base.toNat bits.toNat).2 piText l]) ∧ Below w.heap.size w w' := by
  have hk := pIe_code l base.toNat bits.toNat
  obtain ⟨r, hr⟩ : ∃ r, r = pIe l base.toNat bits.toNat := ⟨_, rfl⟩
  rw [← hr] at hk ⊢
  obtain ⟨v, k⟩ := r
  simp only at hk ⊢
  rcases hk with rfl | rfl | rfl
  · exact ParseInt_ok l base bits w hb hb0 hb64 hl v hr.symm
  · exact ParseInt_rng l base bits w hb hb0 hb64 hl v hr.symm aS aR hE
  · exact ParseInt_syn l base bits w hb hb0 hb64 hl v hr.symm aS aR hE
end Go.Proofs.YthbnglkpkgpojaaDoor
