/-
  Contracts: spec.Quoted writes the elements between quotes; laws.one.
-/
import Derived.Test.YtpboiodigfdajaaDoorPrints
import Derived.Test.YtpboiodigfdajaaDoorSpecText
import Derived.Test.YtpboiodigfdajaaDoorCodePoint
namespace Go.Proofs.YtpboiodigfdajaaDoor
open Go.RowKit
set_option linter.unusedVariables false
section
variable {P : Program}
/-- 'buf = append(buf, b, c)' -/
theorem wpList_buf_two {ops : Array Oper} {rest : List Oper} {o : Oper} {a : Act} {Q : Exit → Act → World → Prop} (hgd : o.guard = none) (s x : Operand) (t : TypeId)
    (ho : o.op = .call { callee := .builtin .append, args := #[s, x], argTypes := #[t, t] })
    (B : Nat) (e : TypeId) (i : TypeInfo) (ht : P.underlying t = some (.slice e)) (hi : P.info? e = some i) (hz : i.zero = some (.int .u8 0)) (hsize : i.size = 1) (hby : i.bytes = 1)
    (v : Value) (l : List UInt8) (hs : a.eval s = v) (W0 w0 : World) (c d : Int) (b b' : UInt8) (hc : c = b.toNat) (hd : d = b'.toNat) (hb : Buf e B v l W0 w0)
    (hx : a.eval x = .slice (some ⟨w0.heap.size, 0, none⟩) 2 2) (hlen : l.length + 2 ≤ 140737488355328)
    (h : ∀ v' w', Buf e B v' (l ++ [b, b']) W0 w' → wpList P ops Q rest (a.put o.dst v') w') : wpList P ops Q (o :: rest) a (w0.alloc (.cells #[.int .u8 c, .int .u8 d] e)) := by
  have hb' := hb.alloc (.cells #[.int .u8 c, .int .u8 d] e)
  refine wpList_append_ownF _ hgd s x t ho B e i (.int .u8 0) 1 1 ht hi hz hsize hby rfl (by decide) v l.length (bcells l) hs hb'.1 ⟨w0.heap.size, 0, none⟩ 2 2 [.int .u8 c, .int .u8 d] hx rfl ?_ ?_ (by unfold maxLen; omega) (by omega) hb'.2.2 ?_
  · intro j u hj
    match j, hj with
    | 0, hj => simp at hj; subst hj; simp [Addr.add]
    | 1, hj => simp at hj; subst hj; simp [Addr.add]
    | (j + 2), hj => simp at hj
  · intro u hu; simp at hu; rcases hu with rfl | rfl <;> rfl
  · intro v' w' ho' hg _
    refine h v' w' ?_
    have := Lib.OwnBuf.grown hb' ho' hg
    subst hc hd
    simpa [Buf, bcells] using this
end
theorem buf_one (w : World) (b : UInt8) (c : Int) (hc : c = b.toNat) : Buf 5 w.heap.size (.slice (some ⟨w.heap.size, 0, none⟩) 1 1) [b] w (w.alloc (.cells #[.int .u8 c] 5)) := by
  have h := own_one w 5 (.int .u8 c)
  subst hc
  exact ⟨World.ownsRowF_of h.1, h.2.1, h.2.2⟩
theorem flat_snoc {β : Type} (f : Int → List β) (l : List Int) (k : Nat) (h : k < l.length) : (l.take (k + 1)).flatMap f = (l.take k).flatMap f ++ f (l[k]) := by
  rw [List.take_succ_eq_append_getElem h, List.flatMap_append]; simp
set_option maxHeartbeats 2000000 in
theorem quoted_any (A A2 : Option Addr) (c c2 : Nat) (es : List Int) (st : Int → Bool) (q : Int) (w : World) (hr : Reads w w.heap.size 1 A es.length (icells es)) (hr2 : Reads w w.heap.size 1 A2 es.length (tcells (es.map st)))
    (hv : ∀ r ∈ es, -256 ≤ r ∧ r ≤ 1114111 ∧ (st r = true → 0 ≤ r)) (hn : es.length ≤ 1048576) (hq : q = 34 ∨ q = 39) :
    Calls Tryd.prog 17 #[.slice A es.length c, .slice A2 es.length c2, .int .u8 q] w fun e w' => e = .returned (.string (str (quoteL q st es))) ∧ Below w.heap.size w w' := by
  obtain ⟨i0, hi, hz0, hz1, hz2⟩ := info_parts byte_info
  have hwq : IntKind.i32.wrap q = q := by rcases hq with rfl | rfl <;> rfl
  have hqb : q = ((byteZ q).toNat : Int) := by rcases hq with rfl | rfl <;> rfl
  have hst := buf_one w (byteZ q) q hqb
  have hqr : 0 ≤ q ∧ q ≤ 255 := by omega
  have HQ := Lib.hid hq
  have HQB := Lib.hid hqb
  have HR := Lib.hid hr
  have HR2 := Lib.hid hr2
  have HV := Lib.hid hv
  have HS := Lib.hid hst
  clear hr hr2 hv hst hq hqb
  obtain ⟨n, hnn⟩ : ∃ n, n = es.length := ⟨_, rfl⟩
  rw [← hnn] at hn ⊢
  have HN := Lib.hid hnn
  clear hnn
  go_enter Tryd.func17, Tryd.ntmps17
  go_wp2
  go_loopw [7, 8, 9, 14] (fun vo _ _ vi wr => ∃ k : Nat, k ≤ n ∧ vi = .int .i64 k ∧ Hid (Buf 5 w.heap.size vo (byteZ q :: (es.take k).flatMap (fun r => elemL q (st r) r)) w wr)) (fun _ _ _ vi _ => n - (intOf vi).toNat)
  case atStart => exact ⟨0, Nat.zero_le _, rfl, by simpa [Hid] using HS.out⟩
  case round =>
    obtain ⟨k, hk, rfl, ho⟩ := hrel
    by_cases hlt : k < n
    · have hke : k < es.length := by have := HN.out; omega
      obtain ⟨ad, u, hA, _, hu, hc⟩ := (HR.out.below ho.out.isBelow).at_ (k := k) hke
      obtain ⟨ad2, u2, hA2, _, hu2, hc2⟩ := (HR2.out.below ho.out.isBelow).at_ (k := k) hke
      obtain ⟨r, hr⟩ : ∃ r, r = es[k] := ⟨_, rfl⟩
      have hu' : u = .int .i32 r := by
        rw [hr]; simp [icells, List.getElem?_eq_getElem hke] at hu; exact hu.symm
      obtain ⟨b, hb⟩ : ∃ b, st r = b := ⟨_, rfl⟩
      have hu2' : u2 = .bool b := by
        rw [← hb, hr]; simp [tcells, List.getElem?_eq_getElem hke] at hu2; exact hu2.symm
      subst hu' hu2' hA hA2
      have hrb := HV.out r (by rw [hr]; exact List.getElem_mem hke)
      have HRr := Lib.hid hr
      have HB := Lib.hid hb
      clear hr hb hu hu2
      have hfl := flat_length q st (es.take k)
      have hlo : (byteZ q :: (es.take k).flatMap (fun r => elemL q (st r) r)).length + 10 ≤ 140737488355328 := by
        rw [List.length_take] at hfl
        simp only [List.length_cons]; omega
      clear hfl
      have HK := Lib.hid (show byteZ q :: (es.take (k + 1)).flatMap (fun r => elemL q (st r) r) = (byteZ q :: (es.take k).flatMap (fun r => elemL q (st r) r)) ++ elemL q b r by
        rw [flat_snoc _ _ _ hke, ← HRr.out, HB.out]; rfl)
      have ho' := ho.out
      obtain ⟨L, hL⟩ : ∃ L, L = byteZ q :: (es.take k).flatMap (fun r => elemL q (st r) r) := ⟨_, rfl⟩
      rw [← hL] at HK hlo ho'
      clear hL
      by_cases hx : r = q ∨ r = 92
      · have hE := Lib.hid (show elemL q b r = [92, byteZ r] by simp only [elemL, if_pos hx])
        have hrr : 0 ≤ r ∧ r ≤ 255 := by omega
        have hw8 : IntKind.u8.wrap r = r := by simp [IntKind.wrap, IntKind.bits, IntKind.signed]; omega
        have hbz := Lib.hid (byteZ_toNat hrr.1 hrr.2)
        by_cases hx1 : r = q
        · have n1 : (r == q) = true := by simpa using hx1
          clear hx hx1
          go_wp2_with (at_builtin; refine wpList_buf_two rfl _ _ 30 rfl w.heap.size 5 i0 Tryd.underlying30 hi hz0 hz1 hz2 _ L rfl w _ _ _ 92 (byteZ r) rfl hbz.out.symm (by assumption) rfl (by omega) ?_; intro v' w' ho2)
          go_roundw
          case rel => exact ⟨k + 1, by omega, by go_num, by rw [HK.out, hE.out]; exact ho2⟩
          case measure => simp [intOf]; omega
        · have n1 : (r == q) = false := by simpa using hx1
          have n2 : (r == 92) = true := by simp; omega
          clear hx hx1
          go_wp2_with (at_builtin; refine wpList_buf_two rfl _ _ 30 rfl w.heap.size 5 i0 Tryd.underlying30 hi hz0 hz1 hz2 _ L rfl w _ _ _ 92 (byteZ r) rfl hbz.out.symm (by assumption) rfl (by omega) ?_; intro v' w' ho2)
          go_roundw
          case rel => exact ⟨k + 1, by omega, by go_num, by rw [HK.out, hE.out]; exact ho2⟩
          case measure => simp [intOf]; omega
      · have n1 : (r == q) = false := by simp; omega
        have n2 : (r == 92) = false := by simp; omega
        cases b with
        | true =>
          have hE := Lib.hid (show elemL q true r = encL r by simp only [elemL, if_neg hx, if_true])
          have hr0 := hrb.2.2 HB.out
          have C := Lib.hid (encode_any r wr hr0 hrb.2.1)
          have hel := (encL_length r).2
          clear hx
          go_wp2_with (first | (go_at_call 30; refine C.out.mono ?_; rintro e w1 ⟨rfl, hw1⟩; have ho3 := ho'.below hw1) | (at_builtin; refine wpList_buf_text rfl _ _ 30 9 rfl w.heap.size 5 i0 Tryd.underlying30 Tryd.underlying9 hi hz0 hz1 hz2 _ L rfl w (by assumption) _ rfl ?_ ?_; (rw [toList_str]; omega); intro v' w' ho2))
          go_roundw
          case rel => exact ⟨k + 1, by omega, by go_num, by rw [HK.out, hE.out]; exact ho2⟩
          case measure => simp [intOf]; omega
        | false =>
          have hE := Lib.hid (show elemL q false r = escL r by simp only [elemL, if_neg hx]; rfl)
          have C := Lib.hid (escape_any r wr hrb.1 hrb.2.1)
          have hel := (escL_length r).2
          clear hx
          go_wp2_with (first | (go_at_call 36; refine C.out.mono ?_; rintro e w1 ⟨rfl, hw1⟩; have ho3 := ho'.below hw1) | (at_builtin; refine wpList_buf_text rfl _ _ 30 9 rfl w.heap.size 5 i0 Tryd.underlying30 Tryd.underlying9 hi hz0 hz1 hz2 _ L rfl w (by assumption) _ rfl ?_ ?_; (rw [toList_str]; omega); intro v' w' ho2))
          go_roundw
          case rel => exact ⟨k + 1, by omega, by go_num, by rw [HK.out, hE.out]; exact ho2⟩
          case measure => simp [intOf]; omega
    · have ho' := ho.out
      have hke : es.take k = es := List.take_of_length_le (by have := HN.out; omega)
      have hfl := flat_length q st es
      have hlo : (byteZ q :: es.flatMap (fun r => elemL q (st r) r)).length + 1 ≤ 140737488355328 := by
        have := HN.out
        simp only [List.length_cons]; omega
      rw [hke] at ho'
      have HQL := Lib.hid (show quoteL q st es = (byteZ q :: es.flatMap (fun r => elemL q (st r) r)) ++ [byteZ q] from rfl)
      obtain ⟨L, hL⟩ : ∃ L, L = byteZ q :: es.flatMap (fun r => elemL q (st r) r) := ⟨_, rfl⟩
      rw [← hL] at HQL hlo ho'
      clear hL hfl
      go_wp2_with (at_builtin; refine wpList_buf_byte rfl _ _ 30 rfl w.heap.size 5 i0 Tryd.underlying30 hi hz0 hz1 hz2 _ L rfl w _ _ (byteZ q) HQB.out (by assumption) rfl hlo ?_; intro v' w' ho2; obtain ⟨A3, c3, hv3, _, _, hr3⟩ := ho2.form; rw [hv3]; have hcv := run_convert_reads (P := Tryd.prog) w' 30 5 9 Tryd.underlying30 Tryd.underlying5 Tryd.underlying9 c3 hr3; obtain ⟨m, hm⟩ : ∃ m, m = (L ++ [byteZ q]).length := ⟨_, rfl⟩; rw [← hm] at hcv ⊢; clear hm)
      go_ret
      exact ⟨by rw [HQL.out]; rfl, ho2.isBelow⟩
end Go.Proofs.YtpboiodigfdajaaDoor
