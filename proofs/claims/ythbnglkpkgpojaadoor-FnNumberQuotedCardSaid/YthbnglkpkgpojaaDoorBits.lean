/-
  Contract: internal/strconv.formatBits in a base that is neither 10 nor a power of two, and in those that are. Printed by wip/gen_bits.py.
-/
import Derived.Test.YthbnglkpkgpojaaDoorFormatBits
import Derived.WalkKit
import Derived.Outline
namespace Go.Proofs.YthbnglkpkgpojaaDoor
set_option maxRecDepth 100000
open Go.RowKit
set_option linter.unusedVariables false
set_option linter.unusedSimpArgs false
def zeros65 : Array Value := Array.replicate 65 (.int .u8 0)
theorem zeros65_size : zeros65.size = 65 := by simp [zeros65]
theorem zero65 (w : World) : (zeroValue 105).run Tryd.prog w = .ok (.agg zeros65) w := by kernel_rfl
theorem agg65 (w : World) : (isAgg 105).run Tryd.prog w = .ok true w := by kernel_rfl
theorem size65 (w : World) : (Go.sizeOf 105).run Tryd.prog w = .ok 65 w := by kernel_rfl
theorem cell65 (w : World) (cur : Array Value) (m : Nat) (T : TypeId) (h : m < cur.size) : ∃ x, (w.alloc (.cells cur T)).cell? ⟨w.heap.size, m, none⟩ = some x ∧ (w.alloc (.cells cur T)).frozen? ⟨w.heap.size, m, none⟩ = false :=
  ⟨cur[m], by rw [World.cell?_alloc_new]; simp [h], World.frozen?_alloc_new _ _ _ _⟩
theorem reads65 {w : World} {cur : Array Value} {m : Nat} {L : List UInt8} (T : TypeId) (hs : cur.size = 65) (hd : cur.toList.drop m = bcells L) (hm : m ≤ 65) : Reads (w.alloc (.cells cur T)) (w.heap.size + 1) 1 (some ⟨w.heap.size, m, none⟩) L.length (bcells L) := by
  refine ⟨by simp [bcells], fun _ => ⟨_, rfl, by simp, fun j u hu => ?_⟩⟩
  rw [← hd, List.getElem?_drop] at hu
  rw [Lib.add_plain, World.cell?_alloc_new]
  simpa using hu
theorem len65 {cur : Array Value} {m : Nat} {L : List UInt8} (hs : cur.size = 65) (hd : cur.toList.drop m = bcells L) (hm : m ≤ 65) : 65 - m = L.length := by
  have := congrArg List.length hd
  simpa [hs, bcells] using this
theorem conv65 (w : World) (cur : Array Value) (m : Nat) (L : List UInt8) (hs : cur.size = 65) (hd : cur.toList.drop m = bcells L) (hm : m ≤ 65) :
    (convert 39 9 (.slice (some ⟨w.heap.size, m, none⟩) (65 - m) (65 - m))).run Tryd.prog (w.alloc (.cells cur 105)) = .ok (.string (str L)) (w.alloc (.cells cur 105)) := by
  rw [len65 hs hd hm]
  exact run_convert_reads (P := Tryd.prog) _ 39 5 9 Tryd.underlying39 Tryd.underlying5 Tryd.underlying9 _ (reads65 105 hs hd hm)
theorem slice65 (w : World) (m : Nat) (hm : m ≤ 64) (W : World) : (Instr.sliceAt 105 (.pointer (some ⟨w.heap.size, 0, none⟩)) (some (.int .i64 (m : Int))) none none).run Tryd.prog W = .ok (.slice (some ⟨w.heap.size, m, none⟩) (65 - m) (65 - m)) W := by
  have hal : Tryd.prog.arrayLen 105 = 65 := by kernel_rfl
  have hel : Tryd.prog.elem 105 = 5 := by kernel_rfl
  have hz : (Go.sizeOf 5).run Tryd.prog W = .ok 1 W := by kernel_rfl
  rw [run_sliceAt_array_l W 105 ⟨w.heap.size, 0, none⟩ Tryd.underlying105 .i64 (m : Int) (by omega) (by rw [hal]; omega), hal, hel, hz]
  have hne : ¬ (65 = m) := by omega
  simp only [Result.andThen_ok, slicedAt, Int.toNat_natCast, if_neg hne, Nat.mul_one, Lib.add_plain, Nat.zero_add]
theorem sign65 {cur : Array Value} {k : Nat} {L : List UInt8} (hs : cur.size = 65) (hd : cur.toList.drop (k + 1) = bcells L) (hk : k < 65) : (cur.setIfInBounds k (.int .u8 45)).size = 65 ∧ (cur.setIfInBounds k (.int .u8 45)).toList.drop k = bcells (45 :: L) := by
  refine ⟨by simpa using hs, ?_⟩
  rw [Array.toList_setIfInBounds, drop_set_eq _ _ _ (by simp [hs]; omega), hd]; rfl
section
variable {P : Program}
/-- 'out = append(out, src...)' of what reads as a list -/
theorem wpList_own_reads {ops : Array Oper} {rest : List Oper} {o : Oper} {a : Act} {Q : Exit → Act → World → Prop} {w : World} (hgd : o.guard = none) (s x : Operand) (t : TypeId)
    (ho : o.op = .call { callee := .builtin .append, args := #[s, x], argTypes := #[t, t] })
    (B : Nat) (e : TypeId) (i : TypeInfo) (z : Value) (bytes : Nat) (ht : P.underlying t = some (.slice e)) (hi : P.info? e = some i) (hz : i.zero = some z) (hsize : i.size = 1) (hby : i.bytes = bytes) (hzs : z.cells.size = 1)
    (v : Value) (xs : List Value) (hs : a.eval s = v) (W0 : World) (hb : Own e B v xs W0 w) (Bx : Nat) (A : Option Addr) (m c : Nat) (news : List Value)
    (hx : a.eval x = .slice A m c) (hr : Reads w Bx 1 A m news) (h1 : ∀ u ∈ news, u.oneCell' = true) (hlen : (xs.length + m) * bytes ≤ 140737488355328) (hl2 : xs.length + m ≤ 140737488355328)
    (h : ∀ v' w', Own e B v' (xs ++ news) W0 w' → wpList P ops Q rest (a.put o.dst v') w') : wpList P ops Q (o :: rest) a w := by
  refine wpList_append_any _ hgd s x t ho B e i z 1 bytes ht hi hz hsize hby hzs (by decide) v xs.length xs hs hb.1 Bx A m c news hx hr h1 (by unfold maxLen; omega) hlen hb.2.2 ?_
  intro v' w' h1' h2 h3
  have hm : m = news.length := by have := hr.1; omega
  refine h v' w' ⟨by rw [List.length_append, ← hm]; exact h1', hb.2.1.grown h2 hb.2.2 (fun k hk => ?_), Nat.le_trans hb.2.2 h2.size⟩
  rcases hb.1.2 with ⟨rfl, _⟩ | ⟨g, cap, cur, rfl, hg, _⟩
  · cases hk
  · simp [Value.ownBlock] at hk; omega
end
theorem and_maskB (u k : Nat) (hk : k = 1 ∨ k = 2 ∨ k = 3 ∨ k = 4 ∨ k = 5) (hu : u < 18446744073709551616) : bits BinOp.and IntKind.u64 (u : Int) (((2 ^ k : Nat) : Int) - 1) = ((u % 2 ^ k : Nat) : Int) := by
  have h1 : 1 ≤ 2 ^ k ∧ 2 ^ k ≤ 32 := by rcases hk with rfl | rfl | rfl | rfl | rfl <;> decide
  have h := bits_and_u64_nat u (2 ^ k - 1) hu (by omega)
  rw [Nat.and_two_pow_sub_one_eq_mod] at h
  rw [← h]
  congr 1
  omega
theorem shr_pow (u k : Nat) : (u : Int) / 2 ^ k = ((u / 2 ^ k : Nat) : Int) := by simp
set_option maxHeartbeats 2000000 in
set_option maxRecDepth 100000 in
theorem bits_gen (u0 b : Nat) (w : World) (h2 : 2 ≤ b) (h36 : b ≤ 36) (h10 : b ≠ 10) (hp : pow2B b = false) (hu : u0 < 18446744073709551616) :
    Calls Tryd.prog 79 #[.slice none 0 0, .int .u64 u0, .int .i64 b, .bool false, .bool false] w fun e w' => e = .returned (.tuple #[.slice none 0 0, .string (str (digB b u0))]) ∧ Below w.heap.size w w' := by
  have HP := Lib.hid fun wx => isPow2_any b wx h2 h36
  rw [hp] at HP
  have g1 : decide ((b : Int) < 2) = false := by simp; omega
  have g2 : ((b : Int) == 10) = false := by simp; omega
  have g3 : decide ((36 : Int) < (b : Int)) = false := by simp; omega
  have hz := zero65
  have ha := agg65
  have hs := size65
  clear hp
  go_enter Tryd.func79, Tryd.ntmps79
  go_name_bytes_deep 30 PT hPT
  clear hPT
  go_name_bytes_deep 30 DG hDG
  have eDG : DG = Lib.digits36 := by rw [← hDG]; decide +kernel
  subst eDG
  clear hDG
  go_wp2_with (go_at_call 95; refine (HP.out _).mono ?_; rintro e w1 ⟨rfl, rfl⟩)
  go_loopw [1, 13, 18] (fun vu vi _ wr => ∃ (u i : Nat) (cur : Array Value) (D : List UInt8), vu = .int .u64 u ∧ vi = .int .i64 i ∧ wr = w.alloc (.cells cur 105) ∧ u < 18446744073709551616 ∧ Hid (Laid b u0 u i cur D)) (fun vu _ _ _ => (intOf vu).toNat)
  case atStart => exact ⟨u0, 65, zeros65, [], rfl, rfl, rfl, hu, Laid.start _ zeros65_size⟩
  case round =>
    obtain ⟨u, i, cur, D, rfl, rfl, rfl, hu', hl⟩ := hrel
    have hi := hl.out.two h2 hu
    obtain ⟨m, rfl⟩ : ∃ m, i = m + 1 := ⟨i - 1, by omega⟩
    obtain ⟨x, hcx, hfx⟩ := cell65 w cur m 105 (by rw [hl.out.size]; omega)
    by_cases hge : b ≤ u
    · have hstep := hl.out.step h2 hge
      obtain ⟨q, hq⟩ : ∃ q, q = u / b := ⟨_, rfl⟩
      rw [← hq] at hstep
      have hlt : u % b < b := Nat.mod_lt _ (by omega)
      have hmeas : q < u := by rw [hq]; exact Nat.div_lt_self (by omega) (by omega)
      have HS := Lib.hid hstep
      obtain ⟨p, hp⟩ : ∃ p, p = q * b := ⟨_, rfl⟩
      have hpu : p ≤ u := by rw [hp, hq]; exact Nat.div_mul_le_self u b
      have hr : u - p = u % b := by rw [hp, hq, Nat.mod_eq_sub_div_mul]
      have hdiv : (u : Int) / (b : Int) = (q : Int) := by rw [hq]; exact (Int.natCast_ediv u b).symm
      have hmul : (q : Int) * (b : Int) = (p : Int) := by rw [hp]; exact (Int.natCast_mul q b).symm
      have hidx : ∀ wx, (Instr.index 9 (.string Lib.digits36) (.int .u64 ((u : Int) - (p : Int)))).run Tryd.prog wx = .ok (.int .u8 ((dgc (u % b)).toNat : Int)) wx := fun wx => idx_digits _ Tryd.underlying9 _ _ (u % b) (by omega) (by omega) wx
      clear hstep hq hp hr hlt hl
      obtain ⟨d, hd⟩ : ∃ d : Int, d = ((dgc (u % b)).toNat : Int) := ⟨_, rfl⟩
      rw [← hd] at hidx HS
      have HD := Lib.hid hd
      clear hd
      go_wp2
      go_roundw
      case rel => exact ⟨q, m, _, _, rfl, rfl, rfl, by omega, HS.out⟩
      case measure => simp [intOf]; omega
    · have hidx : ∀ wx, (Instr.index 9 (.string Lib.digits36) (.int .u64 (u : Int))).run Tryd.prog wx = .ok (.int .u8 ((dgc u).toNat : Int)) wx := fun wx => idx_digits _ Tryd.underlying9 _ _ u rfl (by omega) wx
      obtain ⟨hm, hsz, hdr⟩ := hl.out.last (by omega)
      obtain ⟨d, hd⟩ : ∃ d : Int, d = ((dgc u).toNat : Int) := ⟨_, rfl⟩
      rw [← hd] at hidx hsz hdr
      clear hd
      have hsl := slice65 w m (by omega)
      have hcv := conv65 w _ m (digB b u0) hsz hdr (by omega)
      clear hm hl hsz hdr
      go_wp2
      go_ret2
      exact ⟨rfl, (Below.refl _ _).alloc (Nat.le_refl _) _⟩
set_option maxHeartbeats 2000000 in
set_option maxRecDepth 100000 in
theorem bits_gen_neg (u0 b : Nat) (w : World) (h2 : 2 ≤ b) (h36 : b ≤ 36) (h10 : b ≠ 10) (hp : pow2B b = false) (hu : u0 < 18446744073709551616) (z : Int) (hneg : IntKind.u64.wrap (-z) = (u0 : Int)) :
    Calls Tryd.prog 79 #[.slice none 0 0, .int .u64 z, .int .i64 b, .bool true, .bool false] w fun e w' => e = .returned (.tuple #[.slice none 0 0, .string (str (45 :: digB b u0))]) ∧ Below w.heap.size w w' := by
  have HP := Lib.hid fun wx => isPow2_any b wx h2 h36
  rw [hp] at HP
  have g1 : decide ((b : Int) < 2) = false := by simp; omega
  have g2 : ((b : Int) == 10) = false := by simp; omega
  have g3 : decide ((36 : Int) < (b : Int)) = false := by simp; omega
  have hz := zero65
  have ha := agg65
  have hs := size65
  clear hp
  go_enter Tryd.func79, Tryd.ntmps79
  go_name_bytes_deep 30 PT hPT
  clear hPT
  go_name_bytes_deep 30 DG hDG
  have eDG : DG = Lib.digits36 := by rw [← hDG]; decide +kernel
  subst eDG
  clear hDG
  go_wp2_with (go_at_call 95; refine (HP.out _).mono ?_; rintro e w1 ⟨rfl, rfl⟩)
  clear hneg
  go_loopw [1, 13, 18] (fun vu vi _ wr => ∃ (u i : Nat) (cur : Array Value) (D : List UInt8), vu = .int .u64 u ∧ vi = .int .i64 i ∧ wr = w.alloc (.cells cur 105) ∧ u < 18446744073709551616 ∧ Hid (Laid b u0 u i cur D)) (fun vu _ _ _ => (intOf vu).toNat)
  case atStart => exact ⟨u0, 65, zeros65, [], rfl, rfl, rfl, hu, Laid.start _ zeros65_size⟩
  case round =>
    obtain ⟨u, i, cur, D, rfl, rfl, rfl, hu', hl⟩ := hrel
    have hi := hl.out.two h2 hu
    obtain ⟨m, rfl⟩ : ∃ m, i = m + 1 := ⟨i - 1, by omega⟩
    obtain ⟨x, hcx, hfx⟩ := cell65 w cur m 105 (by rw [hl.out.size]; omega)
    by_cases hge : b ≤ u
    · have hstep := hl.out.step h2 hge
      obtain ⟨q, hq⟩ : ∃ q, q = u / b := ⟨_, rfl⟩
      rw [← hq] at hstep
      have hlt : u % b < b := Nat.mod_lt _ (by omega)
      have hmeas : q < u := by rw [hq]; exact Nat.div_lt_self (by omega) (by omega)
      have HS := Lib.hid hstep
      obtain ⟨p, hp⟩ : ∃ p, p = q * b := ⟨_, rfl⟩
      have hpu : p ≤ u := by rw [hp, hq]; exact Nat.div_mul_le_self u b
      have hr : u - p = u % b := by rw [hp, hq, Nat.mod_eq_sub_div_mul]
      have hdiv : (u : Int) / (b : Int) = (q : Int) := by rw [hq]; exact (Int.natCast_ediv u b).symm
      have hmul : (q : Int) * (b : Int) = (p : Int) := by rw [hp]; exact (Int.natCast_mul q b).symm
      have hidx : ∀ wx, (Instr.index 9 (.string Lib.digits36) (.int .u64 ((u : Int) - (p : Int)))).run Tryd.prog wx = .ok (.int .u8 ((dgc (u % b)).toNat : Int)) wx := fun wx => idx_digits _ Tryd.underlying9 _ _ (u % b) (by omega) (by omega) wx
      clear hstep hq hp hr hlt hl
      obtain ⟨d, hd⟩ : ∃ d : Int, d = ((dgc (u % b)).toNat : Int) := ⟨_, rfl⟩
      rw [← hd] at hidx HS
      have HD := Lib.hid hd
      clear hd
      go_wp2
      go_roundw
      case rel => exact ⟨q, m, _, _, rfl, rfl, rfl, by omega, HS.out⟩
      case measure => simp [intOf]; omega
    · have hidx : ∀ wx, (Instr.index 9 (.string Lib.digits36) (.int .u64 (u : Int))).run Tryd.prog wx = .ok (.int .u8 ((dgc u).toNat : Int)) wx := fun wx => idx_digits _ Tryd.underlying9 _ _ u rfl (by omega) wx
      obtain ⟨hm, hsz, hdr⟩ := hl.out.last (by omega)
      obtain ⟨d, hd⟩ : ∃ d : Int, d = ((dgc u).toNat : Int) := ⟨_, rfl⟩
      rw [← hd] at hidx hsz hdr
      clear hd
      obtain ⟨j, rfl⟩ : ∃ j, m = j + 1 := ⟨m - 1, by omega⟩
      obtain ⟨x2, hcx2, hfx2⟩ := cell65 w _ j 105 (Nat.lt_of_lt_of_eq (by omega) hsz.symm)
      obtain ⟨hsz2, hdr2⟩ := sign65 hsz hdr (by omega)
      clear hsz hdr
      have hsl := slice65 w j (by omega)
      have hcv := conv65 w _ j (45 :: digB b u0) hsz2 hdr2 (by omega)
      clear hm hl hsz2 hdr2
      go_wp2
      go_ret2
      exact ⟨rfl, (Below.refl _ _).alloc (Nat.le_refl _) _⟩
set_option maxHeartbeats 2000000 in
set_option maxRecDepth 100000 in
theorem bits_gen_app (u0 b : Nat) (w : World) (h2 : 2 ≤ b) (h36 : b ≤ 36) (h10 : b ≠ 10) (hp : pow2B b = false) (hu : u0 < 18446744073709551616) (B : Nat) (v : Value) (xs : List Value) (W0 : World) (hown : Own 5 B v xs W0 w) (hlim : xs.length + 65 ≤ 140737488355328) :
    Calls Tryd.prog 79 #[v, .int .u64 u0, .int .i64 b, .bool false, .bool true] w fun e w' => ∃ v', e = .returned (.tuple #[v', .string (str [])]) ∧ Own 5 B v' (xs ++ bcells (digB b u0)) W0 w' := by
  have HP := Lib.hid fun wx => isPow2_any b wx h2 h36
  rw [hp] at HP
  have g1 : decide ((b : Int) < 2) = false := by simp; omega
  have g2 : ((b : Int) == 10) = false := by simp; omega
  have g3 : decide ((36 : Int) < (b : Int)) = false := by simp; omega
  have hz := zero65
  have ha := agg65
  have hs := size65
  obtain ⟨i0, hi0, hz0, hz1, hz2⟩ := info_parts byte_info
  have HO := Lib.hid hown
  clear hp hown
  go_enter Tryd.func79, Tryd.ntmps79
  go_name_bytes_deep 30 PT hPT
  clear hPT
  go_name_bytes_deep 30 DG hDG
  have eDG : DG = Lib.digits36 := by rw [← hDG]; decide +kernel
  subst eDG
  clear hDG
  go_wp2_with (go_at_call 95; refine (HP.out _).mono ?_; rintro e w1 ⟨rfl, rfl⟩)
  go_loopw [1, 13, 18] (fun vu vi _ wr => ∃ (u i : Nat) (cur : Array Value) (D : List UInt8), vu = .int .u64 u ∧ vi = .int .i64 i ∧ wr = w.alloc (.cells cur 105) ∧ u < 18446744073709551616 ∧ Hid (Laid b u0 u i cur D)) (fun vu _ _ _ => (intOf vu).toNat)
  case atStart => exact ⟨u0, 65, zeros65, [], rfl, rfl, rfl, hu, Laid.start _ zeros65_size⟩
  case round =>
    obtain ⟨u, i, cur, D, rfl, rfl, rfl, hu', hl⟩ := hrel
    have hi := hl.out.two h2 hu
    obtain ⟨m, rfl⟩ : ∃ m, i = m + 1 := ⟨i - 1, by omega⟩
    obtain ⟨x, hcx, hfx⟩ := cell65 w cur m 105 (by rw [hl.out.size]; omega)
    by_cases hge : b ≤ u
    · have hstep := hl.out.step h2 hge
      obtain ⟨q, hq⟩ : ∃ q, q = u / b := ⟨_, rfl⟩
      rw [← hq] at hstep
      have hlt : u % b < b := Nat.mod_lt _ (by omega)
      have hmeas : q < u := by rw [hq]; exact Nat.div_lt_self (by omega) (by omega)
      have HS := Lib.hid hstep
      obtain ⟨p, hp⟩ : ∃ p, p = q * b := ⟨_, rfl⟩
      have hpu : p ≤ u := by rw [hp, hq]; exact Nat.div_mul_le_self u b
      have hr : u - p = u % b := by rw [hp, hq, Nat.mod_eq_sub_div_mul]
      have hdiv : (u : Int) / (b : Int) = (q : Int) := by rw [hq]; exact (Int.natCast_ediv u b).symm
      have hmul : (q : Int) * (b : Int) = (p : Int) := by rw [hp]; exact (Int.natCast_mul q b).symm
      have hidx : ∀ wx, (Instr.index 9 (.string Lib.digits36) (.int .u64 ((u : Int) - (p : Int)))).run Tryd.prog wx = .ok (.int .u8 ((dgc (u % b)).toNat : Int)) wx := fun wx => idx_digits _ Tryd.underlying9 _ _ (u % b) (by omega) (by omega) wx
      clear hstep hq hp hr hlt hl
      obtain ⟨d, hd⟩ : ∃ d : Int, d = ((dgc (u % b)).toNat : Int) := ⟨_, rfl⟩
      rw [← hd] at hidx HS
      have HD := Lib.hid hd
      clear hd
      go_wp2
      go_roundw
      case rel => exact ⟨q, m, _, _, rfl, rfl, rfl, by omega, HS.out⟩
      case measure => simp [intOf]; omega
    · have hidx : ∀ wx, (Instr.index 9 (.string Lib.digits36) (.int .u64 (u : Int))).run Tryd.prog wx = .ok (.int .u8 ((dgc u).toNat : Int)) wx := fun wx => idx_digits _ Tryd.underlying9 _ _ u rfl (by omega) wx
      obtain ⟨hm, hsz, hdr⟩ := hl.out.last (by omega)
      obtain ⟨d, hd⟩ : ∃ d : Int, d = ((dgc u).toNat : Int) := ⟨_, rfl⟩
      rw [← hd] at hidx hsz hdr
      clear hd
      have hsl := slice65 w m (by omega)
      have hR := Lib.hid (reads65 (w := w) 105 hsz hdr (by omega))
      have hlen := len65 hsz hdr (by omega)
      rw [← hlen] at hR
      clear hm hl hlen hsz hdr
      go_wp2_with (at_builtin; refine wpList_own_reads rfl _ _ 39 rfl B 5 i0 _ 1 Tryd.underlying39 hi0 hz0 hz1 hz2 rfl v xs rfl W0 (HO.out.below ((Below.refl w.heap.size w).alloc (Nat.le_refl _) _)) _ _ _ _ _ rfl hR.out (bcells_one _) (by omega) (by omega) ?_; intro v2 w2 ho2)
      go_ret2
      exact ⟨v2, rfl, ho2⟩
set_option maxHeartbeats 2000000 in
set_option maxRecDepth 100000 in
theorem bits_gen_neg_app (u0 b : Nat) (w : World) (h2 : 2 ≤ b) (h36 : b ≤ 36) (h10 : b ≠ 10) (hp : pow2B b = false) (hu : u0 < 18446744073709551616) (z : Int) (hneg : IntKind.u64.wrap (-z) = (u0 : Int)) (B : Nat) (v : Value) (xs : List Value) (W0 : World) (hown : Own 5 B v xs W0 w) (hlim : xs.length + 65 ≤ 140737488355328) :
    Calls Tryd.prog 79 #[v, .int .u64 z, .int .i64 b, .bool true, .bool true] w fun e w' => ∃ v', e = .returned (.tuple #[v', .string (str [])]) ∧ Own 5 B v' (xs ++ bcells (45 :: digB b u0)) W0 w' := by
  have HP := Lib.hid fun wx => isPow2_any b wx h2 h36
  rw [hp] at HP
  have g1 : decide ((b : Int) < 2) = false := by simp; omega
  have g2 : ((b : Int) == 10) = false := by simp; omega
  have g3 : decide ((36 : Int) < (b : Int)) = false := by simp; omega
  have hz := zero65
  have ha := agg65
  have hs := size65
  obtain ⟨i0, hi0, hz0, hz1, hz2⟩ := info_parts byte_info
  have HO := Lib.hid hown
  clear hp hown
  go_enter Tryd.func79, Tryd.ntmps79
  go_name_bytes_deep 30 PT hPT
  clear hPT
  go_name_bytes_deep 30 DG hDG
  have eDG : DG = Lib.digits36 := by rw [← hDG]; decide +kernel
  subst eDG
  clear hDG
  go_wp2_with (go_at_call 95; refine (HP.out _).mono ?_; rintro e w1 ⟨rfl, rfl⟩)
  clear hneg
  go_loopw [1, 13, 18] (fun vu vi _ wr => ∃ (u i : Nat) (cur : Array Value) (D : List UInt8), vu = .int .u64 u ∧ vi = .int .i64 i ∧ wr = w.alloc (.cells cur 105) ∧ u < 18446744073709551616 ∧ Hid (Laid b u0 u i cur D)) (fun vu _ _ _ => (intOf vu).toNat)
  case atStart => exact ⟨u0, 65, zeros65, [], rfl, rfl, rfl, hu, Laid.start _ zeros65_size⟩
  case round =>
    obtain ⟨u, i, cur, D, rfl, rfl, rfl, hu', hl⟩ := hrel
    have hi := hl.out.two h2 hu
    obtain ⟨m, rfl⟩ : ∃ m, i = m + 1 := ⟨i - 1, by omega⟩
    obtain ⟨x, hcx, hfx⟩ := cell65 w cur m 105 (by rw [hl.out.size]; omega)
    by_cases hge : b ≤ u
    · have hstep := hl.out.step h2 hge
      obtain ⟨q, hq⟩ : ∃ q, q = u / b := ⟨_, rfl⟩
      rw [← hq] at hstep
      have hlt : u % b < b := Nat.mod_lt _ (by omega)
      have hmeas : q < u := by rw [hq]; exact Nat.div_lt_self (by omega) (by omega)
      have HS := Lib.hid hstep
      obtain ⟨p, hp⟩ : ∃ p, p = q * b := ⟨_, rfl⟩
      have hpu : p ≤ u := by rw [hp, hq]; exact Nat.div_mul_le_self u b
      have hr : u - p = u % b := by rw [hp, hq, Nat.mod_eq_sub_div_mul]
      have hdiv : (u : Int) / (b : Int) = (q : Int) := by rw [hq]; exact (Int.natCast_ediv u b).symm
      have hmul : (q : Int) * (b : Int) = (p : Int) := by rw [hp]; exact (Int.natCast_mul q b).symm
      have hidx : ∀ wx, (Instr.index 9 (.string Lib.digits36) (.int .u64 ((u : Int) - (p : Int)))).run Tryd.prog wx = .ok (.int .u8 ((dgc (u % b)).toNat : Int)) wx := fun wx => idx_digits _ Tryd.underlying9 _ _ (u % b) (by omega) (by omega) wx
      clear hstep hq hp hr hlt hl
      obtain ⟨d, hd⟩ : ∃ d : Int, d = ((dgc (u % b)).toNat : Int) := ⟨_, rfl⟩
      rw [← hd] at hidx HS
      have HD := Lib.hid hd
      clear hd
      go_wp2
      go_roundw
      case rel => exact ⟨q, m, _, _, rfl, rfl, rfl, by omega, HS.out⟩
      case measure => simp [intOf]; omega
    · have hidx : ∀ wx, (Instr.index 9 (.string Lib.digits36) (.int .u64 (u : Int))).run Tryd.prog wx = .ok (.int .u8 ((dgc u).toNat : Int)) wx := fun wx => idx_digits _ Tryd.underlying9 _ _ u rfl (by omega) wx
      obtain ⟨hm, hsz, hdr⟩ := hl.out.last (by omega)
      obtain ⟨d, hd⟩ : ∃ d : Int, d = ((dgc u).toNat : Int) := ⟨_, rfl⟩
      rw [← hd] at hidx hsz hdr
      clear hd
      obtain ⟨j, rfl⟩ : ∃ j, m = j + 1 := ⟨m - 1, by omega⟩
      obtain ⟨x2, hcx2, hfx2⟩ := cell65 w _ j 105 (Nat.lt_of_lt_of_eq (by omega) hsz.symm)
      obtain ⟨hsz2, hdr2⟩ := sign65 hsz hdr (by omega)
      clear hsz hdr
      have hsl := slice65 w j (by omega)
      have hR := Lib.hid (reads65 (w := w) 105 hsz2 hdr2 (by omega))
      have hlen := len65 hsz2 hdr2 (by omega)
      rw [← hlen] at hR
      clear hm hl hlen hsz2 hdr2
      go_wp2_with (at_builtin; refine wpList_own_reads rfl _ _ 39 rfl B 5 i0 _ 1 Tryd.underlying39 hi0 hz0 hz1 hz2 rfl v xs rfl W0 (HO.out.below ((Below.refl w.heap.size w).alloc (Nat.le_refl _) _)) _ _ _ _ _ rfl hR.out (bcells_one _) (by omega) (by omega) ?_; intro v2 w2 ho2)
      go_ret2
      exact ⟨v2, rfl, ho2⟩
set_option maxHeartbeats 2000000 in
set_option maxRecDepth 100000 in
theorem bits_pow (u0 b : Nat) (w : World) (h2 : 2 ≤ b) (h36 : b ≤ 36) (h10 : b ≠ 10) (k : Nat) (hk : b = 2 ^ k) (hk5 : k = 1 ∨ k = 2 ∨ k = 3 ∨ k = 4 ∨ k = 5) (hT : BruT w) (hu : u0 < 18446744073709551616) :
    Calls Tryd.prog 79 #[.slice none 0 0, .int .u64 u0, .int .i64 b, .bool false, .bool false] w fun e w' => e = .returned (.tuple #[.slice none 0 0, .string (str (digB b u0))]) ∧ Below w.heap.size w w' := by
  have hp : pow2B b = true := by rcases hk5 with rfl | rfl | rfl | rfl | rfl <;> subst hk <;> rfl
  have HT := Lib.hid fun wx (hb : Below w.heap.size w wx) => tz0_any k wx hk5 (hT.below hb)
  rw [← hk] at HT
  have HA := Lib.hid fun u => and_maskB u k hk5
  rw [← hk] at HA
  have HSH := Lib.hid fun u => shr_pow u k
  rw [← hk] at HSH
  have hk6 : k ≤ 5 := by omega
  clear hk hk5 hT
  have HP := Lib.hid fun wx => isPow2_any b wx h2 h36
  rw [hp] at HP
  have g1 : decide ((b : Int) < 2) = false := by simp; omega
  have g2 : ((b : Int) == 10) = false := by simp; omega
  have g3 : decide ((36 : Int) < (b : Int)) = false := by simp; omega
  have hz := zero65
  have ha := agg65
  have hs := size65
  clear hp
  go_enter Tryd.func79, Tryd.ntmps79
  go_name_bytes_deep 30 PT hPT
  clear hPT
  go_name_bytes_deep 30 DG hDG
  have eDG : DG = Lib.digits36 := by rw [← hDG]; decide +kernel
  subst eDG
  clear hDG
  go_wp2_with (first
    | (go_at_call 95; refine (HP.out _).mono ?_; rintro e w1 ⟨rfl, rfl⟩)
    | (go_at_call 96; refine (HT.out _ ((Below.refl _ _).alloc (Nat.le_refl _) _)).mono ?_; rintro e w1 ⟨rfl, rfl⟩))
  go_loopw [1, 13] (fun vu vi wr => ∃ (u i : Nat) (cur : Array Value) (D : List UInt8), vu = .int .u64 u ∧ vi = .int .i64 i ∧ wr = w.alloc (.cells cur 105) ∧ u < 18446744073709551616 ∧ Hid (Laid b u0 u i cur D)) (fun vu _ _ => (intOf vu).toNat)
  case atStart => exact ⟨u0, 65, zeros65, [], rfl, rfl, rfl, hu, Laid.start _ zeros65_size⟩
  case round =>
    obtain ⟨u, i, cur, D, rfl, rfl, rfl, hu', hl⟩ := hrel
    have hi := hl.out.two h2 hu
    obtain ⟨m, rfl⟩ : ∃ m, i = m + 1 := ⟨i - 1, by omega⟩
    obtain ⟨x, hcx, hfx⟩ := cell65 w cur m 105 (by rw [hl.out.size]; omega)
    by_cases hge : b ≤ u
    · have hstep := hl.out.step h2 hge
      obtain ⟨q, hq⟩ : ∃ q, q = u / b := ⟨_, rfl⟩
      rw [← hq] at hstep
      have hlt : u % b < b := Nat.mod_lt _ (by omega)
      have hmeas : q < u := by rw [hq]; exact Nat.div_lt_self (by omega) (by omega)
      have HS := Lib.hid hstep
      have hand := HA.out u hu'
      have hshr := HSH.out u
      rw [← hq] at hshr
      have hidx : ∀ wx, (Instr.index 9 (.string Lib.digits36) (.int .u64 ((u % b : Nat) : Int))).run Tryd.prog wx = .ok (.int .u8 ((dgc (u % b)).toNat : Int)) wx := fun wx => idx_digits _ Tryd.underlying9 _ _ (u % b) rfl (by omega) wx
      clear hstep hq hl
      obtain ⟨d, hd⟩ : ∃ d : Int, d = ((dgc (u % b)).toNat : Int) := ⟨_, rfl⟩
      obtain ⟨r, hr⟩ : ∃ r : Int, r = ((u % b : Nat) : Int) := ⟨_, rfl⟩
      rw [← hd] at hidx HS
      rw [← hr] at hidx hand
      have HD := Lib.hid hd
      clear hd hr
      go_wp2
      go_roundw
      case rel => exact ⟨q, m, _, _, rfl, rfl, rfl, by omega, HS.out⟩
      case measure => simp [intOf]; omega
    · have hidx : ∀ wx, (Instr.index 9 (.string Lib.digits36) (.int .u64 (u : Int))).run Tryd.prog wx = .ok (.int .u8 ((dgc u).toNat : Int)) wx := fun wx => idx_digits _ Tryd.underlying9 _ _ u rfl (by omega) wx
      obtain ⟨hm, hsz, hdr⟩ := hl.out.last (by omega)
      obtain ⟨d, hd⟩ : ∃ d : Int, d = ((dgc u).toNat : Int) := ⟨_, rfl⟩
      rw [← hd] at hidx hsz hdr
      clear hd
      have hsl := slice65 w m (by omega)
      have hcv := conv65 w _ m (digB b u0) hsz hdr (by omega)
      clear hm hl hsz hdr
      go_wp2
      go_ret2
      exact ⟨rfl, (Below.refl _ _).alloc (Nat.le_refl _) _⟩
set_option maxHeartbeats 2000000 in
set_option maxRecDepth 100000 in
theorem bits_pow_neg (u0 b : Nat) (w : World) (h2 : 2 ≤ b) (h36 : b ≤ 36) (h10 : b ≠ 10) (k : Nat) (hk : b = 2 ^ k) (hk5 : k = 1 ∨ k = 2 ∨ k = 3 ∨ k = 4 ∨ k = 5) (hT : BruT w) (hu : u0 < 18446744073709551616) (z : Int) (hneg : IntKind.u64.wrap (-z) = (u0 : Int)) :
    Calls Tryd.prog 79 #[.slice none 0 0, .int .u64 z, .int .i64 b, .bool true, .bool false] w fun e w' => e = .returned (.tuple #[.slice none 0 0, .string (str (45 :: digB b u0))]) ∧ Below w.heap.size w w' := by
  have hp : pow2B b = true := by rcases hk5 with rfl | rfl | rfl | rfl | rfl <;> subst hk <;> rfl
  have HT := Lib.hid fun wx (hb : Below w.heap.size w wx) => tz0_any k wx hk5 (hT.below hb)
  rw [← hk] at HT
  have HA := Lib.hid fun u => and_maskB u k hk5
  rw [← hk] at HA
  have HSH := Lib.hid fun u => shr_pow u k
  rw [← hk] at HSH
  have hk6 : k ≤ 5 := by omega
  clear hk hk5 hT
  have HP := Lib.hid fun wx => isPow2_any b wx h2 h36
  rw [hp] at HP
  have g1 : decide ((b : Int) < 2) = false := by simp; omega
  have g2 : ((b : Int) == 10) = false := by simp; omega
  have g3 : decide ((36 : Int) < (b : Int)) = false := by simp; omega
  have hz := zero65
  have ha := agg65
  have hs := size65
  clear hp
  go_enter Tryd.func79, Tryd.ntmps79
  go_name_bytes_deep 30 PT hPT
  clear hPT
  go_name_bytes_deep 30 DG hDG
  have eDG : DG = Lib.digits36 := by rw [← hDG]; decide +kernel
  subst eDG
  clear hDG
  go_wp2_with (first
    | (go_at_call 95; refine (HP.out _).mono ?_; rintro e w1 ⟨rfl, rfl⟩)
    | (go_at_call 96; refine (HT.out _ ((Below.refl _ _).alloc (Nat.le_refl _) _)).mono ?_; rintro e w1 ⟨rfl, rfl⟩))
  clear hneg
  go_loopw [1, 13] (fun vu vi wr => ∃ (u i : Nat) (cur : Array Value) (D : List UInt8), vu = .int .u64 u ∧ vi = .int .i64 i ∧ wr = w.alloc (.cells cur 105) ∧ u < 18446744073709551616 ∧ Hid (Laid b u0 u i cur D)) (fun vu _ _ => (intOf vu).toNat)
  case atStart => exact ⟨u0, 65, zeros65, [], rfl, rfl, rfl, hu, Laid.start _ zeros65_size⟩
  case round =>
    obtain ⟨u, i, cur, D, rfl, rfl, rfl, hu', hl⟩ := hrel
    have hi := hl.out.two h2 hu
    obtain ⟨m, rfl⟩ : ∃ m, i = m + 1 := ⟨i - 1, by omega⟩
    obtain ⟨x, hcx, hfx⟩ := cell65 w cur m 105 (by rw [hl.out.size]; omega)
    by_cases hge : b ≤ u
    · have hstep := hl.out.step h2 hge
      obtain ⟨q, hq⟩ : ∃ q, q = u / b := ⟨_, rfl⟩
      rw [← hq] at hstep
      have hlt : u % b < b := Nat.mod_lt _ (by omega)
      have hmeas : q < u := by rw [hq]; exact Nat.div_lt_self (by omega) (by omega)
      have HS := Lib.hid hstep
      have hand := HA.out u hu'
      have hshr := HSH.out u
      rw [← hq] at hshr
      have hidx : ∀ wx, (Instr.index 9 (.string Lib.digits36) (.int .u64 ((u % b : Nat) : Int))).run Tryd.prog wx = .ok (.int .u8 ((dgc (u % b)).toNat : Int)) wx := fun wx => idx_digits _ Tryd.underlying9 _ _ (u % b) rfl (by omega) wx
      clear hstep hq hl
      obtain ⟨d, hd⟩ : ∃ d : Int, d = ((dgc (u % b)).toNat : Int) := ⟨_, rfl⟩
      obtain ⟨r, hr⟩ : ∃ r : Int, r = ((u % b : Nat) : Int) := ⟨_, rfl⟩
      rw [← hd] at hidx HS
      rw [← hr] at hidx hand
      have HD := Lib.hid hd
      clear hd hr
      go_wp2
      go_roundw
      case rel => exact ⟨q, m, _, _, rfl, rfl, rfl, by omega, HS.out⟩
      case measure => simp [intOf]; omega
    · have hidx : ∀ wx, (Instr.index 9 (.string Lib.digits36) (.int .u64 (u : Int))).run Tryd.prog wx = .ok (.int .u8 ((dgc u).toNat : Int)) wx := fun wx => idx_digits _ Tryd.underlying9 _ _ u rfl (by omega) wx
      obtain ⟨hm, hsz, hdr⟩ := hl.out.last (by omega)
      obtain ⟨d, hd⟩ : ∃ d : Int, d = ((dgc u).toNat : Int) := ⟨_, rfl⟩
      rw [← hd] at hidx hsz hdr
      clear hd
      obtain ⟨j, rfl⟩ : ∃ j, m = j + 1 := ⟨m - 1, by omega⟩
      obtain ⟨x2, hcx2, hfx2⟩ := cell65 w _ j 105 (Nat.lt_of_lt_of_eq (by omega) hsz.symm)
      obtain ⟨hsz2, hdr2⟩ := sign65 hsz hdr (by omega)
      clear hsz hdr
      have hsl := slice65 w j (by omega)
      have hcv := conv65 w _ j (45 :: digB b u0) hsz2 hdr2 (by omega)
      clear hm hl hsz2 hdr2
      go_wp2
      go_ret2
      exact ⟨rfl, (Below.refl _ _).alloc (Nat.le_refl _) _⟩
set_option maxHeartbeats 2000000 in
set_option maxRecDepth 100000 in
theorem bits_pow_app (u0 b : Nat) (w : World) (h2 : 2 ≤ b) (h36 : b ≤ 36) (h10 : b ≠ 10) (k : Nat) (hk : b = 2 ^ k) (hk5 : k = 1 ∨ k = 2 ∨ k = 3 ∨ k = 4 ∨ k = 5) (hT : BruT w) (hu : u0 < 18446744073709551616) (B : Nat) (v : Value) (xs : List Value) (W0 : World) (hown : Own 5 B v xs W0 w) (hlim : xs.length + 65 ≤ 140737488355328) :
    Calls Tryd.prog 79 #[v, .int .u64 u0, .int .i64 b, .bool false, .bool true] w fun e w' => ∃ v', e = .returned (.tuple #[v', .string (str [])]) ∧ Own 5 B v' (xs ++ bcells (digB b u0)) W0 w' := by
  have hp : pow2B b = true := by rcases hk5 with rfl | rfl | rfl | rfl | rfl <;> subst hk <;> rfl
  have HT := Lib.hid fun wx (hb : Below w.heap.size w wx) => tz0_any k wx hk5 (hT.below hb)
  rw [← hk] at HT
  have HA := Lib.hid fun u => and_maskB u k hk5
  rw [← hk] at HA
  have HSH := Lib.hid fun u => shr_pow u k
  rw [← hk] at HSH
  have hk6 : k ≤ 5 := by omega
  clear hk hk5 hT
  have HP := Lib.hid fun wx => isPow2_any b wx h2 h36
  rw [hp] at HP
  have g1 : decide ((b : Int) < 2) = false := by simp; omega
  have g2 : ((b : Int) == 10) = false := by simp; omega
  have g3 : decide ((36 : Int) < (b : Int)) = false := by simp; omega
  have hz := zero65
  have ha := agg65
  have hs := size65
  obtain ⟨i0, hi0, hz0, hz1, hz2⟩ := info_parts byte_info
  have HO := Lib.hid hown
  clear hp hown
  go_enter Tryd.func79, Tryd.ntmps79
  go_name_bytes_deep 30 PT hPT
  clear hPT
  go_name_bytes_deep 30 DG hDG
  have eDG : DG = Lib.digits36 := by rw [← hDG]; decide +kernel
  subst eDG
  clear hDG
  go_wp2_with (first
    | (go_at_call 95; refine (HP.out _).mono ?_; rintro e w1 ⟨rfl, rfl⟩)
    | (go_at_call 96; refine (HT.out _ ((Below.refl _ _).alloc (Nat.le_refl _) _)).mono ?_; rintro e w1 ⟨rfl, rfl⟩))
  go_loopw [1, 13] (fun vu vi wr => ∃ (u i : Nat) (cur : Array Value) (D : List UInt8), vu = .int .u64 u ∧ vi = .int .i64 i ∧ wr = w.alloc (.cells cur 105) ∧ u < 18446744073709551616 ∧ Hid (Laid b u0 u i cur D)) (fun vu _ _ => (intOf vu).toNat)
  case atStart => exact ⟨u0, 65, zeros65, [], rfl, rfl, rfl, hu, Laid.start _ zeros65_size⟩
  case round =>
    obtain ⟨u, i, cur, D, rfl, rfl, rfl, hu', hl⟩ := hrel
    have hi := hl.out.two h2 hu
    obtain ⟨m, rfl⟩ : ∃ m, i = m + 1 := ⟨i - 1, by omega⟩
    obtain ⟨x, hcx, hfx⟩ := cell65 w cur m 105 (by rw [hl.out.size]; omega)
    by_cases hge : b ≤ u
    · have hstep := hl.out.step h2 hge
      obtain ⟨q, hq⟩ : ∃ q, q = u / b := ⟨_, rfl⟩
      rw [← hq] at hstep
      have hlt : u % b < b := Nat.mod_lt _ (by omega)
      have hmeas : q < u := by rw [hq]; exact Nat.div_lt_self (by omega) (by omega)
      have HS := Lib.hid hstep
      have hand := HA.out u hu'
      have hshr := HSH.out u
      rw [← hq] at hshr
      have hidx : ∀ wx, (Instr.index 9 (.string Lib.digits36) (.int .u64 ((u % b : Nat) : Int))).run Tryd.prog wx = .ok (.int .u8 ((dgc (u % b)).toNat : Int)) wx := fun wx => idx_digits _ Tryd.underlying9 _ _ (u % b) rfl (by omega) wx
      clear hstep hq hl
      obtain ⟨d, hd⟩ : ∃ d : Int, d = ((dgc (u % b)).toNat : Int) := ⟨_, rfl⟩
      obtain ⟨r, hr⟩ : ∃ r : Int, r = ((u % b : Nat) : Int) := ⟨_, rfl⟩
      rw [← hd] at hidx HS
      rw [← hr] at hidx hand
      have HD := Lib.hid hd
      clear hd hr
      go_wp2
      go_roundw
      case rel => exact ⟨q, m, _, _, rfl, rfl, rfl, by omega, HS.out⟩
      case measure => simp [intOf]; omega
    · have hidx : ∀ wx, (Instr.index 9 (.string Lib.digits36) (.int .u64 (u : Int))).run Tryd.prog wx = .ok (.int .u8 ((dgc u).toNat : Int)) wx := fun wx => idx_digits _ Tryd.underlying9 _ _ u rfl (by omega) wx
      obtain ⟨hm, hsz, hdr⟩ := hl.out.last (by omega)
      obtain ⟨d, hd⟩ : ∃ d : Int, d = ((dgc u).toNat : Int) := ⟨_, rfl⟩
      rw [← hd] at hidx hsz hdr
      clear hd
      have hsl := slice65 w m (by omega)
      have hR := Lib.hid (reads65 (w := w) 105 hsz hdr (by omega))
      have hlen := len65 hsz hdr (by omega)
      rw [← hlen] at hR
      clear hm hl hlen hsz hdr
      go_wp2_with (at_builtin; refine wpList_own_reads rfl _ _ 39 rfl B 5 i0 _ 1 Tryd.underlying39 hi0 hz0 hz1 hz2 rfl v xs rfl W0 (HO.out.below ((Below.refl w.heap.size w).alloc (Nat.le_refl _) _)) _ _ _ _ _ rfl hR.out (bcells_one _) (by omega) (by omega) ?_; intro v2 w2 ho2)
      go_ret2
      exact ⟨v2, rfl, ho2⟩
set_option maxHeartbeats 2000000 in
set_option maxRecDepth 100000 in
theorem bits_pow_neg_app (u0 b : Nat) (w : World) (h2 : 2 ≤ b) (h36 : b ≤ 36) (h10 : b ≠ 10) (k : Nat) (hk : b = 2 ^ k) (hk5 : k = 1 ∨ k = 2 ∨ k = 3 ∨ k = 4 ∨ k = 5) (hT : BruT w) (hu : u0 < 18446744073709551616) (z : Int) (hneg : IntKind.u64.wrap (-z) = (u0 : Int)) (B : Nat) (v : Value) (xs : List Value) (W0 : World) (hown : Own 5 B v xs W0 w) (hlim : xs.length + 65 ≤ 140737488355328) :
    Calls Tryd.prog 79 #[v, .int .u64 z, .int .i64 b, .bool true, .bool true] w fun e w' => ∃ v', e = .returned (.tuple #[v', .string (str [])]) ∧ Own 5 B v' (xs ++ bcells (45 :: digB b u0)) W0 w' := by
  have hp : pow2B b = true := by rcases hk5 with rfl | rfl | rfl | rfl | rfl <;> subst hk <;> rfl
  have HT := Lib.hid fun wx (hb : Below w.heap.size w wx) => tz0_any k wx hk5 (hT.below hb)
  rw [← hk] at HT
  have HA := Lib.hid fun u => and_maskB u k hk5
  rw [← hk] at HA
  have HSH := Lib.hid fun u => shr_pow u k
  rw [← hk] at HSH
  have hk6 : k ≤ 5 := by omega
  clear hk hk5 hT
  have HP := Lib.hid fun wx => isPow2_any b wx h2 h36
  rw [hp] at HP
  have g1 : decide ((b : Int) < 2) = false := by simp; omega
  have g2 : ((b : Int) == 10) = false := by simp; omega
  have g3 : decide ((36 : Int) < (b : Int)) = false := by simp; omega
  have hz := zero65
  have ha := agg65
  have hs := size65
  obtain ⟨i0, hi0, hz0, hz1, hz2⟩ := info_parts byte_info
  have HO := Lib.hid hown
  clear hp hown
  go_enter Tryd.func79, Tryd.ntmps79
  go_name_bytes_deep 30 PT hPT
  clear hPT
  go_name_bytes_deep 30 DG hDG
  have eDG : DG = Lib.digits36 := by rw [← hDG]; decide +kernel
  subst eDG
  clear hDG
  go_wp2_with (first
    | (go_at_call 95; refine (HP.out _).mono ?_; rintro e w1 ⟨rfl, rfl⟩)
    | (go_at_call 96; refine (HT.out _ ((Below.refl _ _).alloc (Nat.le_refl _) _)).mono ?_; rintro e w1 ⟨rfl, rfl⟩))
  clear hneg
  go_loopw [1, 13] (fun vu vi wr => ∃ (u i : Nat) (cur : Array Value) (D : List UInt8), vu = .int .u64 u ∧ vi = .int .i64 i ∧ wr = w.alloc (.cells cur 105) ∧ u < 18446744073709551616 ∧ Hid (Laid b u0 u i cur D)) (fun vu _ _ => (intOf vu).toNat)
  case atStart => exact ⟨u0, 65, zeros65, [], rfl, rfl, rfl, hu, Laid.start _ zeros65_size⟩
  case round =>
    obtain ⟨u, i, cur, D, rfl, rfl, rfl, hu', hl⟩ := hrel
    have hi := hl.out.two h2 hu
    obtain ⟨m, rfl⟩ : ∃ m, i = m + 1 := ⟨i - 1, by omega⟩
    obtain ⟨x, hcx, hfx⟩ := cell65 w cur m 105 (by rw [hl.out.size]; omega)
    by_cases hge : b ≤ u
    · have hstep := hl.out.step h2 hge
      obtain ⟨q, hq⟩ : ∃ q, q = u / b := ⟨_, rfl⟩
      rw [← hq] at hstep
      have hlt : u % b < b := Nat.mod_lt _ (by omega)
      have hmeas : q < u := by rw [hq]; exact Nat.div_lt_self (by omega) (by omega)
      have HS := Lib.hid hstep
      have hand := HA.out u hu'
      have hshr := HSH.out u
      rw [← hq] at hshr
      have hidx : ∀ wx, (Instr.index 9 (.string Lib.digits36) (.int .u64 ((u % b : Nat) : Int))).run Tryd.prog wx = .ok (.int .u8 ((dgc (u % b)).toNat : Int)) wx := fun wx => idx_digits _ Tryd.underlying9 _ _ (u % b) rfl (by omega) wx
      clear hstep hq hl
      obtain ⟨d, hd⟩ : ∃ d : Int, d = ((dgc (u % b)).toNat : Int) := ⟨_, rfl⟩
      obtain ⟨r, hr⟩ : ∃ r : Int, r = ((u % b : Nat) : Int) := ⟨_, rfl⟩
      rw [← hd] at hidx HS
      rw [← hr] at hidx hand
      have HD := Lib.hid hd
      clear hd hr
      go_wp2
      go_roundw
      case rel => exact ⟨q, m, _, _, rfl, rfl, rfl, by omega, HS.out⟩
      case measure => simp [intOf]; omega
    · have hidx : ∀ wx, (Instr.index 9 (.string Lib.digits36) (.int .u64 (u : Int))).run Tryd.prog wx = .ok (.int .u8 ((dgc u).toNat : Int)) wx := fun wx => idx_digits _ Tryd.underlying9 _ _ u rfl (by omega) wx
      obtain ⟨hm, hsz, hdr⟩ := hl.out.last (by omega)
      obtain ⟨d, hd⟩ : ∃ d : Int, d = ((dgc u).toNat : Int) := ⟨_, rfl⟩
      rw [← hd] at hidx hsz hdr
      clear hd
      obtain ⟨j, rfl⟩ : ∃ j, m = j + 1 := ⟨m - 1, by omega⟩
      obtain ⟨x2, hcx2, hfx2⟩ := cell65 w _ j 105 (Nat.lt_of_lt_of_eq (by omega) hsz.symm)
      obtain ⟨hsz2, hdr2⟩ := sign65 hsz hdr (by omega)
      clear hsz hdr
      have hsl := slice65 w j (by omega)
      have hR := Lib.hid (reads65 (w := w) 105 hsz2 hdr2 (by omega))
      have hlen := len65 hsz2 hdr2 (by omega)
      rw [← hlen] at hR
      clear hm hl hlen hsz2 hdr2
      go_wp2_with (at_builtin; refine wpList_own_reads rfl _ _ 39 rfl B 5 i0 _ 1 Tryd.underlying39 hi0 hz0 hz1 hz2 rfl v xs rfl W0 (HO.out.below ((Below.refl w.heap.size w).alloc (Nat.le_refl _) _)) _ _ _ _ _ rfl hR.out (bcells_one _) (by omega) (by omega) ?_; intro v2 w2 ho2)
      go_ret2
      exact ⟨v2, rfl, ho2⟩
end Go.Proofs.YthbnglkpkgpojaaDoor
