/-
  The walk of laws.FnListed: it returns true. Printed by wip/gen/listed.py.
-/
import Derived.Test.YtpboiodigfdajaaDoorStays
import Derived.Test.YtpboiodigfdajaaDoorQuotes
import Derived.Test.YtpboiodigfdajaaDoorElements
import Derived.Test.YtpboiodigfdajaaDoorQuoted
import Derived.Test.YtpboiodigfdajaaDoorPlainText
import Derived.Test.YtpboiodigfdajaaDoorPlainQLaws
namespace Go.Proofs.YtpboiodigfdajaaDoor.fnListed
open Go.RowKit
set_option linter.unusedVariables false
set_option linter.unusedSimpArgs false
set_option maxHeartbeats 4000000 in
theorem walk (w : World) (a : ByteArray) (hsz : a.size ≤ 1048576) (hL : laidMetH Tryd.prog Rows.fnListedUptoRow.laid w) :
    Calls Tryd.prog 8 #[.string a] w fun e w' => e = .returned (.bool true) ∧ Below w.heap.size w w' := by
  have hT : PrintT w := printT_of hL (by kernel_rfl) (by simp [Rows.fnListedUptoRow, Rows.laid_strconv_isPrint16]) (by simp [Rows.fnListedUptoRow, Rows.laid_strconv_isNotPrint16]) (by simp [Rows.fnListedUptoRow, Rows.laid_strconv_isPrint32]) (by simp [Rows.fnListedUptoRow, Rows.laid_strconv_isNotPrint32])
  have hG : GraphicT w := graphicT_of hL (by kernel_rfl) (by simp [Rows.fnListedUptoRow, Rows.laid_strconv_isGraphic])
  have hU : Utf8T w := utf8T_of hL (by kernel_rfl) (by simp [Rows.fnListedUptoRow, Rows.laid_unicode_utf8_first]) (by simp [Rows.fnListedUptoRow, Rows.laid_unicode_utf8_acceptRanges]; kernel_rfl)
  obtain ⟨s, rfl⟩ : ∃ s, a = str s := ⟨a.data.toList, (str_toList a).symm⟩
  rw [size_str] at hsz
  have hv0 : ∀ x ∈ elemsOf s, -256 ≤ x ∧ x ≤ 1114111 := fun x hx => by
    have h1 := elems_val s x hx
    rcases h1 with h | h
    · omega
    · have := cp_bounds h; omega
  have hv2 : ∀ (st : Int → Bool), OkSt st → ∀ x ∈ elemsOf s, -256 ≤ x ∧ x ≤ 1114111 ∧ (st x = true → 0 ≤ x) := fun st hs x hx => ⟨(hv0 x hx).1, (hv0 x hx).2, hs.nonneg x⟩
  have hv : ∀ x ∈ elemsOf s, -2147483648 ≤ x ∧ x ≤ 2147483647 := fun x hx => by have := hv0 x hx; omega
  have hel := elemsOf_length s
  obtain ⟨La, ha⟩ : ∃ L, L = quoteL 34 (stP false) (elemsOf s) := ⟨_, rfl⟩
  obtain ⟨Lb, hb⟩ : ∃ L, L = quoteL 34 (stP true) (elemsOf s) := ⟨_, rfl⟩
  obtain ⟨Lc, hc⟩ : ∃ L, L = quoteL 34 stG (elemsOf s) := ⟨_, rfl⟩
  have hla : La.length ≤ 4 * s.length + 2 := by rw [ha]; exact (quote_len (okP _) s).2
  have hlb : Lb.length ≤ 4 * s.length + 2 := by rw [hb]; exact (quote_len (okP _) s).2
  have hlc : Lc.length ≤ 4 * s.length + 2 := by rw [hc]; exact (quote_len okG s).2
  obtain ⟨E, hE⟩ : ∃ E, E = elemsOf s := ⟨_, rfl⟩
  rw [← hE] at hv2 hv hel ha hb hc
  obtain ⟨m, hm⟩ : ∃ m, m = E.length := ⟨_, rfl⟩
  rw [← hm] at hel
  -- the specification's side
  have sQ : ∀ (st : Int → Bool) (L : List UInt8), OkSt st → L = quoteL 34 st E → ∀ (W : World) (A1 A2 : Option Addr) (c1 c2 : Nat), Reads W W.heap.size 1 A1 m (icells E) → Reads W W.heap.size 1 A2 m (tcells (E.map st)) → Hid (Calls Tryd.prog 17 #[.slice A1 m c1, .slice A2 m c2, .int .u8 34] W fun e w' => e = .returned (.string (str L)) ∧ Below W.heap.size W w') :=
    fun st L hok hL W A1 A2 c1 c2 h1 h2 => by rw [hm] at h1 h2 ⊢; rw [hL]; exact quoted_any A1 A2 c1 c2 E st 34 W h1 h2 (hv2 st hok) (by omega) (.inl rfl)
  obtain ⟨kn, hkn⟩ : ∃ kn, kn = E.all okE := ⟨_, rfl⟩
  have ca : ∀ (W : World) (A1 : Option Addr) (c1 : Nat), Reads W W.heap.size 1 A1 m (icells E) → Hid (Calls Tryd.prog 26 #[.slice A1 m c1, .bool false, .bool false] W fun e w' => ∃ v, e = .returned (.tuple #[v, .bool kn]) ∧ Own 4 W.heap.size v (tcells (E.map (stL false false))) W w') :=
    fun W A1 c1 hR => by rw [hm] at hR ⊢; rw [hkn]; exact stays_false_false A1 c1 E W hR (by omega)
  have cb : ∀ (W : World) (A1 : Option Addr) (c1 : Nat), Reads W W.heap.size 1 A1 m (icells E) → Hid (Calls Tryd.prog 26 #[.slice A1 m c1, .bool false, .bool true] W fun e w' => ∃ v, e = .returned (.tuple #[v, .bool kn]) ∧ Own 4 W.heap.size v (tcells (E.map (stL false true))) W w') :=
    fun W A1 c1 hR => by rw [hm] at hR ⊢; rw [hkn]; exact stays_false_true A1 c1 E W hR (by omega)
  have cc : ∀ (W : World) (A1 : Option Addr) (c1 : Nat), Reads W W.heap.size 1 A1 m (icells E) → Hid (Calls Tryd.prog 26 #[.slice A1 m c1, .bool true, .bool false] W fun e w' => ∃ v, e = .returned (.tuple #[v, .bool kn]) ∧ Own 4 W.heap.size v (tcells (E.map (stL true false))) W w') :=
    fun W A1 c1 hR => by rw [hm] at hR ⊢; rw [hkn]; exact stays_true_false A1 c1 E W hR (by omega)
  have qa : ∀ W : World, Below w.heap.size w W → Hid (Calls Tryd.prog 16 #[.string (str s)] W fun e w' => e = .returned (.string (str La)) ∧ Below W.heap.size W w') :=
    fun W hb' => by rw [ha, hE]; exact iQuote_any s W (by omega) (hT.below hb') (hG.below hb') (hU.below hb')
  have qb : ∀ W : World, Below w.heap.size w W → Hid (Calls Tryd.prog 19 #[.string (str s)] W fun e w' => e = .returned (.string (str Lb)) ∧ Below W.heap.size W w') :=
    fun W hb' => by rw [hb, hE]; exact iQuoteToASCII_any s W (by omega) (hT.below hb') (hG.below hb') (hU.below hb')
  have qc : ∀ W : World, Below w.heap.size w W → Hid (Calls Tryd.prog 20 #[.string (str s)] W fun e w' => e = .returned (.string (str Lc)) ∧ Below W.heap.size W w') :=
    fun W hb' => by rw [hc, hE]; exact iQuoteToGraphic_any s W (by omega) (hT.below hb') (hG.below hb') (hU.below hb')
  have mP : kn = true → ∀ asc, E.map (stL false asc) = E.map (stP asc) := fun hk asc => List.map_congr_left fun x hx => stL_P asc x (hv x hx).2 (by rw [hkn, List.all_eq_true] at hk; exact hk x hx)
  have mG : kn = true → E.map (stL true false) = E.map stG := fun hk => List.map_congr_left fun x hx => stL_G x (hv x hx).2 (by rw [hkn, List.all_eq_true] at hk; exact hk x hx)
  have MP := Lib.hid mP
  have MG := Lib.hid mG
  have C1 := Lib.hid (elements_any s w (by omega))
  rw [← hE] at C1
  have SPa := sQ (stP false) La (okP _) ha
  have SPb := sQ (stP true) Lb (okP _) hb
  have SPc := sQ stG Lc okG hc
  have HM := Lib.hid hm
  clear mP mG hL hT hG hU hv0 hv hv2 hel hE ha hb hc hla hlb hlc sQ hm hkn hsz
  go_enter Tryd.func8, Tryd.ntmps8
  go_wp2_with fail
  refine C1.out.mono ?_
  rintro e w1 ⟨v1, rfl, ho⟩
  obtain ⟨A1, c1, hv1, _, _, hR⟩ := ho.form
  rw [icells_length, ← HM.out] at hv1 hR
  rw [hv1]
  have b1 := ho.isBelow
  have R1 := Lib.hid (show Reads w1 w1.heap.size 1 A1 m (icells E) from hR)
  clear hv1 ho hR C1
  go_wp2_with fail
  refine (ca w1 A1 c1 R1.out).out.mono ?_
  rintro e w2 ⟨v2, rfl, ho⟩
  obtain ⟨A2, c2, hv2, _, _, hR⟩ := ho.form
  rw [tcells_length, List.length_map, ← HM.out] at hv2 hR
  rw [hv2]
  have b2 := b1.trans (ho.isBelow.mono b1.size)
  have R2 := Lib.hid (show Reads w2 w2.heap.size 1 A1 m (icells E) from (R1.out.below ho.isBelow).more ho.isBelow.size)
  have S22 := Lib.hid (show Reads w2 w2.heap.size 1 A2 m (tcells (E.map (stL false false))) from hR)
  clear hv2 ho hR R1 ca
  go_wp2_with fail
  refine (cb w2 A1 c1 R2.out).out.mono ?_
  rintro e w3 ⟨v3, rfl, ho⟩
  obtain ⟨A3, c3, hv3, _, _, hR⟩ := ho.form
  rw [tcells_length, List.length_map, ← HM.out] at hv3 hR
  rw [hv3]
  have b3 := b2.trans (ho.isBelow.mono b2.size)
  have R3 := Lib.hid (show Reads w3 w3.heap.size 1 A1 m (icells E) from (R2.out.below ho.isBelow).more ho.isBelow.size)
  have S23 := Lib.hid (show Reads w3 w3.heap.size 1 A2 m (tcells (E.map (stL false false))) from (S22.out.below ho.isBelow).more ho.isBelow.size)
  have S33 := Lib.hid (show Reads w3 w3.heap.size 1 A3 m (tcells (E.map (stL false true))) from hR)
  clear hv3 ho hR R2 S22 cb
  go_wp2_with fail
  refine (cc w3 A1 c1 R3.out).out.mono ?_
  rintro e w4 ⟨v4, rfl, ho⟩
  obtain ⟨A4, c4, hv4, _, _, hR⟩ := ho.form
  rw [tcells_length, List.length_map, ← HM.out] at hv4 hR
  rw [hv4]
  have b4 := b3.trans (ho.isBelow.mono b3.size)
  have R4 := Lib.hid (show Reads w4 w4.heap.size 1 A1 m (icells E) from (R3.out.below ho.isBelow).more ho.isBelow.size)
  have S24 := Lib.hid (show Reads w4 w4.heap.size 1 A2 m (tcells (E.map (stL false false))) from (S23.out.below ho.isBelow).more ho.isBelow.size)
  have S34 := Lib.hid (show Reads w4 w4.heap.size 1 A3 m (tcells (E.map (stL false true))) from (S33.out.below ho.isBelow).more ho.isBelow.size)
  have S44 := Lib.hid (show Reads w4 w4.heap.size 1 A4 m (tcells (E.map (stL true false))) from hR)
  clear hv4 ho hR R3 S23 S33 cc
  cases kn
  · go_wp2
    go_ret
    exact ⟨rfl, b4⟩
  · have T2 := Lib.hid (show Reads w4 w4.heap.size 1 A2 m (tcells (E.map (stP false))) by rw [← MP.out rfl]; exact S24.out)
    have T3 := Lib.hid (show Reads w4 w4.heap.size 1 A3 m (tcells (E.map (stP true))) by rw [← MP.out rfl]; exact S34.out)
    have T4 := Lib.hid (show Reads w4 w4.heap.size 1 A4 m (tcells (E.map stG)) by rw [← MG.out rfl]; exact S44.out)
    have d4 := Below.refl w4.heap.size w4
    clear S24 S34 S44 MP MG b1 b2 b3
    go_wp2_with fail
    refine (qa w4 b4).out.mono ?_
    rintro e w5 ⟨rfl, h⟩
    have b5 := b4.trans (h.mono b4.size)
    have d5 := d4.trans (h.mono d4.size)
    clear h b4 d4 qa
    go_wp2_with fail
    refine (SPa w5 A1 A2 c1 c2 ((R4.out.below d5).more d5.size) ((T2.out.below d5).more d5.size)).out.mono ?_
    rintro e w6 ⟨rfl, h⟩
    have b6 := b5.trans (h.mono b5.size)
    have d6 := d5.trans (h.mono d5.size)
    clear h b5 d5 SPa
    go_wp2_with fail
    refine (qb w6 b6).out.mono ?_
    rintro e w7 ⟨rfl, h⟩
    have b7 := b6.trans (h.mono b6.size)
    have d7 := d6.trans (h.mono d6.size)
    clear h b6 d6 qb
    go_wp2_with fail
    refine (SPb w7 A1 A3 c1 c3 ((R4.out.below d7).more d7.size) ((T3.out.below d7).more d7.size)).out.mono ?_
    rintro e w8 ⟨rfl, h⟩
    have b8 := b7.trans (h.mono b7.size)
    have d8 := d7.trans (h.mono d7.size)
    clear h b7 d7 SPb
    go_wp2_with fail
    refine (qc w8 b8).out.mono ?_
    rintro e w9 ⟨rfl, h⟩
    have b9 := b8.trans (h.mono b8.size)
    have d9 := d8.trans (h.mono d8.size)
    clear h b8 d8 qc
    go_wp2_with fail
    refine (SPc w9 A1 A4 c1 c4 ((R4.out.below d9).more d9.size) ((T4.out.below d9).more d9.size)).out.mono ?_
    rintro e w10 ⟨rfl, h⟩
    have b10 := b9.trans (h.mono b9.size)
    have d10 := d9.trans (h.mono d9.size)
    clear h b9 d9 SPc
    go_wp2
    go_ret
    exact ⟨by simp, b10⟩
end Go.Proofs.YtpboiodigfdajaaDoor.fnListed
