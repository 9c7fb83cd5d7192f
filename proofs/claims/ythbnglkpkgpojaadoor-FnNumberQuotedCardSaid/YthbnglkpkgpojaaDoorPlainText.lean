/-
  Plain: the elements of a text and its bytes; what the quoting functions write of them. No program in sight.
-/
import Derived.Test.YthbnglkpkgpojaaDoorPlainDecode
import Derived.Lib.MapLaws
namespace Go.Proofs.YthbnglkpkgpojaaDoor
open Go.Lib
set_option linter.unusedVariables false
set_option linter.unusedSimpArgs false
/-- the bytes of an element -/
def bytesE (r : Int) : List UInt8 := if r < 0 then [byteZ (-1 - r)] else encL r
theorem byteZ_nat (c : UInt8) : byteZ (c.toNat : Int) = c := by simp [byteZ]
theorem byteZ_of {z : Int} {c : UInt8} (h : z = (c.toNat : Int)) : byteZ z = c := by rw [h, byteZ_nat]
/-- the first element, and the bytes that it stands for -/
theorem step_shape {l : List UInt8} (hne : l ≠ []) : ((-256 ≤ (stepL l).1 ∧ (stepL l).1 ≤ -129) ∨ isCP (stepL l).1 = true) ∧ bytesE (stepL l).1 = l.take (stepL l).2 := by
  have hl : 0 < l.length := List.length_pos_iff.2 hne
  have k0 := (l.getD 0 0).toNat_lt
  have k1 := (l.getD 1 0).toNat_lt
  have k2 := (l.getD 2 0).toNat_lt
  have k3 := (l.getD 3 0).toNat_lt
  unfold stepL
  simp only
  rcases decodeN_shape l.length (l.getD 0 0).toNat (l.getD 1 0).toNat (l.getD 2 0).toNat (l.getD 3 0).toNat with ⟨c, e⟩ | ⟨c1, c2, c3, cv, e⟩ | ⟨c1, c2, c3, c4, cv, cs, e⟩ | ⟨c1, c2, c3, c4, c5, cv, cw, e⟩ | e
  · rw [e, if_neg (by simp only; omega)]
    refine ⟨.inr (by simp only [isCP, decide_eq_true_eq]; omega), ?_⟩
    simp only
    rw [bytesE, if_neg (by omega), encL, if_pos (by omega), takeA l hl, byteZ_nat]
  · rw [e, if_neg (by simp only; omega)]
    refine ⟨.inr (by simp only [isCP, decide_eq_true_eq]; omega), ?_⟩
    simp only
    rw [bytesE, if_neg (by omega), encL, if_neg (by omega), if_pos (by omega), takeB l c2]
    rw [byteZ_of (c := l.getD 0 0) (by omega), byteZ_of (c := l.getD 1 0) (by omega)]
  · rw [e, if_neg (by simp only; omega)]
    refine ⟨.inr (by simp only [isCP, decide_eq_true_eq]; omega), ?_⟩
    simp only
    rw [bytesE, if_neg (by omega), encL, if_neg (by omega), if_neg (by omega), if_pos (by omega), takeC l c2]
    rw [byteZ_of (c := l.getD 0 0) (by omega), byteZ_of (c := l.getD 1 0) (by omega), byteZ_of (c := l.getD 2 0) (by omega)]
  · rw [e, if_neg (by simp only; omega)]
    refine ⟨.inr (by simp only [isCP, decide_eq_true_eq]; omega), ?_⟩
    simp only
    rw [bytesE, if_neg (by omega), encL, if_neg (by omega), if_neg (by omega), if_neg (by omega), takeD l c2]
    rw [byteZ_of (c := l.getD 0 0) (by omega), byteZ_of (c := l.getD 1 0) (by omega), byteZ_of (c := l.getD 2 0) (by omega), byteZ_of (c := l.getD 3 0) (by omega)]
  · have h128 : 128 ≤ (l.getD 0 0).toNat := by
      rcases Nat.lt_or_ge (l.getD 0 0).toNat 128 with h | h
      · unfold decodeN at e
        rw [if_pos h] at e
        have := congrArg Prod.fst e
        simp only at this
        omega
      · exact h
    rw [e, if_pos ⟨rfl, rfl⟩]
    refine ⟨.inl (by simp only; omega), ?_⟩
    simp only
    rw [bytesE, if_pos (by omega), takeA l hl, byteZ_of (c := l.getD 0 0) (by omega)]
/-- an element of a text: a code point, or less than -128 -/
def valE (r : Int) : Prop := (-256 ≤ r ∧ r ≤ -129) ∨ isCP r = true
theorem elems_ind (P : List UInt8 → Prop) (h0 : P []) (h1 : ∀ l, l ≠ [] → P (l.drop (stepL l).2) → P l) (l : List UInt8) : P l := by
  obtain ⟨n, hn⟩ : ∃ n, n = l.length := ⟨_, rfl⟩
  induction n using Nat.strongRecOn generalizing l with
  | _ n ih =>
    by_cases hl : l = []
    · rw [hl]; exact h0
    · have hp := stepL_pos l
      have hp2 := List.length_pos_iff.2 hl
      exact h1 l hl (ih (l.drop (stepL l).2).length (by rw [List.length_drop]; omega) _ rfl)
theorem elems_val (l : List UInt8) : ∀ r ∈ elemsOf l, valE r := by
  refine elems_ind (fun l => ∀ r ∈ elemsOf l, valE r) (by simp [elemsOf_nil]) (fun l hl ih r hr => ?_) l
  rw [elemsOf_cons l hl] at hr
  rcases List.mem_cons.1 hr with rfl | hr
  · exact (step_shape hl).1
  · exact ih r hr
theorem elems_bytes (l : List UInt8) : (elemsOf l).flatMap bytesE = l := by
  refine elems_ind (fun l => (elemsOf l).flatMap bytesE = l) rfl (fun l hl ih => ?_) l
  rw [elemsOf_cons l hl, List.flatMap_cons, ih, (step_shape hl).2, List.take_append_drop]
theorem cp_bounds {r : Int} (h : isCP r = true) : 0 ≤ r ∧ r ≤ 1114111 ∧ (r < 55296 ∨ 57343 < r) := by simpa [isCP] using h
/-- the first element behind the bytes of a code point -/
theorem step_enc {r : Int} (h : isCP r = true) (x : List UInt8) : stepL (encL r ++ x) = (r, (encL r).length) := by
  have hb := cp_bounds h
  unfold encL
  by_cases c1 : r < 128
  · rw [if_pos c1]
    have e : ((byteZ r).toNat : Int) = r := byteZ_toNat (by omega) (by omega)
    rw [dec_1 (c := byteZ r) rfl (by omega), e]; rfl
  rw [if_neg c1]
  by_cases c2 : r < 2048
  · rw [if_pos c2]
    have e0 : ((byteZ (192 + r / 64)).toNat : Int) = 192 + r / 64 := byteZ_toNat (by omega) (by omega)
    have e1 : ((byteZ (128 + r % 64)).toNat : Int) = 128 + r % 64 := byteZ_toNat (by omega) (by omega)
    rw [dec_2 (c := byteZ (192 + r / 64)) (c1 := byteZ (128 + r % 64)) rfl rfl (by omega) (by omega), if_pos (by omega)]
    refine Prod.ext ?_ rfl
    simp only; omega
  rw [if_neg c2]
  by_cases c3 : r < 65536
  · rw [if_pos c3]
    have e0 : ((byteZ (224 + r / 4096)).toNat : Int) = 224 + r / 4096 := byteZ_toNat (by omega) (by omega)
    have e1 : ((byteZ (128 + r / 64 % 64)).toNat : Int) = 128 + r / 64 % 64 := byteZ_toNat (by omega) (by omega)
    have e2 : ((byteZ (128 + r % 64)).toNat : Int) = 128 + r % 64 := byteZ_toNat (by omega) (by omega)
    rw [dec_3 (c := byteZ (224 + r / 4096)) (c1 := byteZ (128 + r / 64 % 64)) (c2 := byteZ (128 + r % 64)) rfl rfl rfl (by omega) (by omega) (by omega), if_pos (by omega)]
    refine Prod.ext ?_ rfl
    simp only; omega
  rw [if_neg c3]
  have e0 : ((byteZ (240 + r / 262144)).toNat : Int) = 240 + r / 262144 := byteZ_toNat (by omega) (by omega)
  have e1 : ((byteZ (128 + r / 4096 % 64)).toNat : Int) = 128 + r / 4096 % 64 := byteZ_toNat (by omega) (by omega)
  have e2 : ((byteZ (128 + r / 64 % 64)).toNat : Int) = 128 + r / 64 % 64 := byteZ_toNat (by omega) (by omega)
  have e3 : ((byteZ (128 + r % 64)).toNat : Int) = 128 + r % 64 := byteZ_toNat (by omega) (by omega)
  rw [dec_4 (c := byteZ (240 + r / 262144)) (c1 := byteZ (128 + r / 4096 % 64)) (c2 := byteZ (128 + r / 64 % 64)) (c3 := byteZ (128 + r % 64)) rfl rfl rfl rfl (by omega) (by omega) (by omega) (by omega), if_pos (by omega)]
  refine Prod.ext ?_ rfl
  simp only; omega
theorem encL_ne (r : Int) : encL r ≠ [] := fun h => by have := (encL_length r).1; rw [h] at this; simp at this
theorem elems_enc {r : Int} (h : isCP r = true) (x : List UInt8) : elemsOf (encL r ++ x) = r :: elemsOf x := by
  rw [elemsOf_cons _ (by simp [encL_ne]), step_enc h]
  simp
theorem elems_one {r : Int} (h : isCP r = true) : elemsOf (encL r) = [r] := by
  have := elems_enc h []
  rwa [List.append_nil] at this
/-- elements of two texts, one behind the other, if the first one is UTF-8 -/
theorem elems_append (a b : List UInt8) (h : ∀ r ∈ elemsOf a, 0 ≤ r) : elemsOf (a ++ b) = elemsOf a ++ elemsOf b := by
  have key : ∀ es : List Int, (∀ r ∈ es, isCP r = true) → elemsOf (es.flatMap bytesE ++ b) = es ++ elemsOf b := by
    intro es hes
    induction es with
    | nil => rfl
    | cons r es ih =>
      have hr := hes r (List.mem_cons_self ..)
      rw [List.flatMap_cons, List.append_assoc, bytesE, if_neg (by have := (cp_bounds hr).1; omega), elems_enc hr, ih fun x hx => hes x (List.mem_cons_of_mem _ hx)]; rfl
  have h2 := key (elemsOf a) fun r hr => by
    rcases elems_val a r hr with h' | h'
    · have := h r hr; omega
    · exact h'
  rwa [elems_bytes] at h2
/-! What stays unchanged. -/
theorem print_ascii_fin : ∀ k : Fin 128, isPrintR goPrintTabs (k.val : Int) = decide (32 ≤ k.val ∧ k.val ≤ 126) := by decide +kernel
theorem print_ascii {r : Int} (h0 : 0 ≤ r) (h1 : r < 128) : isPrintR goPrintTabs r = decide (32 ≤ r ∧ r ≤ 126) := by
  have := print_ascii_fin ⟨r.toNat, by omega⟩
  simp only at this
  rw [show ((r.toNat : Nat) : Int) = r by omega] at this
  rw [this, Bool.eq_iff_iff]
  simp only [decide_eq_true_eq]
  omega
theorem spaceZ_ge {r : Int} (h : spaceZ r) : 128 ≤ r := by unfold spaceZ at h; omega
theorem stP_ascii {asc : Bool} {r : Int} (h : stP asc r = true) (h1 : r < 128) : 32 ≤ r ∧ r ≤ 126 := by
  simp only [stP, Bool.and_eq_true, decide_eq_true_eq] at h
  rw [print_ascii h.1 h1] at h
  simpa using h.2.2
theorem stG_ascii {r : Int} (h : stG r = true) (h1 : r < 128) : 32 ≤ r ∧ r ≤ 126 := by
  simp only [stG, Bool.and_eq_true, Bool.or_eq_true, decide_eq_true_eq] at h
  rcases h.2 with h2 | h2
  · rw [print_ascii h.1 h1] at h2
    simpa using h2
  · have := spaceZ_ge ((inGraphic_eq r h.1).1 h2); omega
theorem st_of_ascii {r : Int} (h0 : 32 ≤ r) (h1 : r ≤ 126) (asc : Bool) : stP asc r = true ∧ stG r = true := by
  have hp := print_ascii (r := r) (by omega) (by omega)
  have hp2 : isPrintR goPrintTabs r = true := by rw [hp]; simp; omega
  refine ⟨?_, ?_⟩
  · simp [stP, hp2]; constructor
    · omega
    · right; omega
  · simp [stG, hp2]; omega
/-- a way to tell what stays, that holds for no negative and in ASCII only for what is seen -/
structure OkSt (st : Int → Bool) : Prop where
  nonneg : ∀ r, st r = true → 0 ≤ r
  ascii : ∀ r, st r = true → r < 128 → 32 ≤ r ∧ r ≤ 126
  keeps : ∀ r, 32 ≤ r → r ≤ 126 → st r = true
theorem okP (asc : Bool) : OkSt (stP asc) := ⟨fun r h => by simp [stP] at h; exact h.1, fun r h h1 => stP_ascii h h1, fun r h1 h2 => (st_of_ascii h1 h2 asc).1⟩
theorem okG : OkSt stG := ⟨fun r h => by simp [stG] at h; exact h.1, fun r h h1 => stG_ascii h h1, fun r h1 h2 => (st_of_ascii h1 h2 false).2⟩
end Go.Proofs.YthbnglkpkgpojaaDoor
