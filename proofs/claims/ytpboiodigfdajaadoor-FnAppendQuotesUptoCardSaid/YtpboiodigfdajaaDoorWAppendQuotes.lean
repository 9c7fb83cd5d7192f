/-
  The walk of laws.FnAppendQuotes: it returns true. Printed by wip/gen/aqs.py.
-/
import Derived.Test.YtpboiodigfdajaaDoorAppendQuotes
import Derived.Test.YtpboiodigfdajaaDoorElements
import Derived.Test.YtpboiodigfdajaaDoorQuoted
import Derived.Test.YtpboiodigfdajaaDoorPlainText
import Derived.Test.YtpboiodigfdajaaDoorPlainQLaws
import Derived.Test.YtpboiodigfdajaaDoorQuoteRunes
import Derived.Deep.RegionHeld3
import Derived.Outline
namespace Go.Proofs.YtpboiodigfdajaaDoor.fnAppendQuotes
open Go.RowKit
set_option linter.unusedVariables false
set_option linter.unusedSimpArgs false
set_option maxHeartbeats 40000000 in
theorem walk (w : World) (A : Option Addr) (c : Nat) (l : List UInt8) (hr : Reads w w.heap.size 1 A l.length (bcells l)) (hl : l.length ≤ 1048576) (a : ByteArray) (hsz : a.size ≤ 1048576) (hL : laidMetH Tryd.prog Rows.fnAppendQuotesUptoRow.laid w) :
    Calls Tryd.prog 6 #[.slice A l.length c, .string a] w fun e w' => e = .returned (.bool true) ∧ Below w.heap.size w w' := by
  have hT : PrintT w := printT_of hL (by kernel_rfl) (by simp [Rows.fnAppendQuotesUptoRow, Rows.laid_strconv_isPrint16]) (by simp [Rows.fnAppendQuotesUptoRow, Rows.laid_strconv_isNotPrint16]) (by simp [Rows.fnAppendQuotesUptoRow, Rows.laid_strconv_isPrint32]) (by simp [Rows.fnAppendQuotesUptoRow, Rows.laid_strconv_isNotPrint32])
  have hG : GraphicT w := graphicT_of hL (by kernel_rfl) (by simp [Rows.fnAppendQuotesUptoRow, Rows.laid_strconv_isGraphic])
  have hU : Utf8T w := utf8T_of hL (by kernel_rfl) (by simp [Rows.fnAppendQuotesUptoRow, Rows.laid_unicode_utf8_first]) (by simp [Rows.fnAppendQuotesUptoRow, Rows.laid_unicode_utf8_acceptRanges]; kernel_rfl)
  obtain ⟨s, rfl⟩ : ∃ s, a = str s := ⟨a.data.toList, (str_toList a).symm⟩
  rw [size_str] at hsz
  have hv0 : ∀ x ∈ elemsOf s, -256 ≤ x ∧ x ≤ 1114111 := fun x hx => by
    have h1 := elems_val s x hx
    rcases h1 with h | h
    · omega
    · have := cp_bounds h; omega
  have hv2 : ∀ (st : Int → Bool), OkSt st → ∀ x ∈ elemsOf s, -256 ≤ x ∧ x ≤ 1114111 ∧ (st x = true → 0 ≤ x) := fun st hs x hx => ⟨(hv0 x hx).1, (hv0 x hx).2, hs.nonneg x⟩
  have hv : ∀ x ∈ elemsOf s, -2147483648 ≤ x ∧ x ≤ 2147483647 := fun x hx => by have := hv0 x hx; omega
  have hel := elemsOf_length s
  obtain ⟨La, ha⟩ : ∃ L, L = quoteL 34 (stP false) (elemsOf s) := ⟨_, rfl⟩
  obtain ⟨Lb, hb⟩ : ∃ L, L = quoteL 34 (stP true) (elemsOf s) := ⟨_, rfl⟩
  obtain ⟨Lc, hc⟩ : ∃ L, L = quoteL 34 stG (elemsOf s) := ⟨_, rfl⟩
  have hla : La.length ≤ 4 * s.length + 2 := by rw [ha]; exact (quote_len (okP _) s).2
  have hlb : Lb.length ≤ 4 * s.length + 2 := by rw [hb]; exact (quote_len (okP _) s).2
  have hlc : Lc.length ≤ 4 * s.length + 2 := by rw [hc]; exact (quote_len okG s).2
  obtain ⟨E, hE⟩ : ∃ E, E = elemsOf s := ⟨_, rfl⟩
  rw [← hE] at hv2 hv hel ha hb hc
  obtain ⟨m, hm⟩ : ∃ m, m = E.length := ⟨_, rfl⟩
  rw [← hm] at hel
  -- the specification's side
  have sP : ∀ (asc : Bool) (W : World) (A1 : Option Addr) (c1 : Nat), Below w.heap.size w W → Reads W W.heap.size 1 A1 m (icells E) → Hid (Calls Tryd.prog 18 #[.slice A1 m c1, .bool asc] W fun e w' => ∃ v, e = .returned v ∧ Own 4 W.heap.size v (tcells (E.map (stP asc))) W w') :=
    fun asc W A1 c1 hb hR => by rw [hm] at hR ⊢; exact prints_any A1 c1 E asc W hR hv (by omega) (hT.below hb)
  have sG : ∀ (W : World) (A1 : Option Addr) (c1 : Nat), Below w.heap.size w W → Reads W W.heap.size 1 A1 m (icells E) → Hid (Calls Tryd.prog 21 #[.slice A1 m c1] W fun e w' => ∃ v, e = .returned v ∧ Own 4 W.heap.size v (tcells (E.map stG)) W w') :=
    fun W A1 c1 hb hR => by rw [hm] at hR ⊢; exact graphics_any A1 c1 E W hR hv (by omega) (hT.below hb) (hG.below hb)
  have sQ : ∀ (st : Int → Bool) (L : List UInt8), OkSt st → L = quoteL 34 st E → ∀ (W : World) (A1 A2 : Option Addr) (c1 c2 : Nat), Reads W W.heap.size 1 A1 m (icells E) → Reads W W.heap.size 1 A2 m (tcells (E.map st)) → Hid (Calls Tryd.prog 17 #[.slice A1 m c1, .slice A2 m c2, .int .u8 34] W fun e w' => e = .returned (.string (str L)) ∧ Below W.heap.size W w') :=
    fun st L hok hL W A1 A2 c1 c2 h1 h2 => by rw [hm] at h1 h2 ⊢; rw [hL]; exact quoted_any A1 A2 c1 c2 E st 34 W h1 h2 (hv2 st hok) (by omega) (.inl rfl)
  -- the library's side
  have cA : ∀ W : World, Below w.heap.size w W → Hid (Calls Tryd.prog 22 #[.slice A l.length c, .string (str s)] W fun e w' => ∃ v', e = .returned v' ∧ Buf 5 W.heap.size v' (l ++ La) W w') :=
    fun W hb => by rw [ha, hE]; exact iAppendQuote_any A c l s W ((hr.below hb).more hb.size) (by omega) (hT.below hb) (hG.below hb) (hU.below hb)
  have cB : ∀ W : World, Below w.heap.size w W → Hid (Calls Tryd.prog 23 #[.slice A l.length c, .string (str s)] W fun e w' => ∃ v', e = .returned v' ∧ Buf 5 W.heap.size v' (l ++ Lb) W w') :=
    fun W hb' => by rw [hb, hE]; exact iAppendQuoteToASCII_any A c l s W ((hr.below hb').more hb'.size) (by omega) (hT.below hb') (hG.below hb') (hU.below hb')
  have cC : ∀ W : World, Below w.heap.size w W → Hid (Calls Tryd.prog 24 #[.slice A l.length c, .string (str s)] W fun e w' => ∃ v', e = .returned v' ∧ Buf 5 W.heap.size v' (l ++ Lc) W w') :=
    fun W hb' => by rw [hc, hE]; exact iAppendQuoteToGraphic_any A c l s W ((hr.below hb').more hb'.size) (by omega) (hT.below hb') (hG.below hb') (hU.below hb')
  have hcv : ∀ W : World, Below w.heap.size w W → Hid ((convert 30 9 (.slice A l.length c)).run Tryd.prog W = .ok (.string (str l)) W) :=
    fun W hb' => run_convert_reads (P := Tryd.prog) W 30 5 9 Tryd.underlying30 Tryd.underlying5 Tryd.underlying9 c (hr.below hb')
  obtain ⟨Ma, ea⟩ : ∃ M, M = l ++ La := ⟨_, rfl⟩
  obtain ⟨Mb, eb⟩ : ∃ M, M = l ++ Lb := ⟨_, rfl⟩
  obtain ⟨Mc, ec⟩ : ∃ M, M = l ++ Lc := ⟨_, rfl⟩
  have hsa : ¬ 9223372036854775807 < (str l).size + (str La).size := by rw [size_str, size_str]; omega
  have hsb : ¬ 9223372036854775807 < (str l).size + (str Lb).size := by rw [size_str, size_str]; omega
  have hsc : ¬ 9223372036854775807 < (str l).size + (str Lc).size := by rw [size_str, size_str]; omega
  have ta : str l ++ str La = str Ma := by rw [str_append, ea]
  have tb : str l ++ str Lb = str Mb := by rw [str_append, eb]
  have tc : str l ++ str Lc = str Mc := by rw [str_append, ec]
  rw [← ea] at cA
  rw [← eb] at cB
  rw [← ec] at cC
  have C1 := Lib.hid (elements_any s w (by omega))
  rw [← hE] at C1
  have SPa := sQ (stP false) La (okP _) ha
  have SPb := sQ (stP true) Lb (okP _) hb
  have SPc := sQ stG Lc okG hc
  have B0 := Below.refl w.heap.size w
  clear hL hT hG hU hv0 hv hv2 hel hE ha hb hc ea eb ec hla hlb hlc sQ hr
  obtain ⟨n, hn⟩ : ∃ n, n = l.length := ⟨_, rfl⟩
  rw [← hn] at cA cB cC hcv ⊢
  clear hn hl hsz
  have HM := Lib.hid hm
  clear hm
  go_enter Tryd.func6, Tryd.ntmps6
  go_wp2_with fail
  refine C1.out.mono ?_
  rintro e w1 ⟨v1, rfl, ho⟩
  obtain ⟨A1, c1, hv1, _, _, hR⟩ := ho.form
  rw [icells_length, ← HM.out] at hv1 hR
  rw [hv1]
  have b1 := ho.isBelow
  have R1 := Lib.hid (show Reads w1 w1.heap.size 1 A1 m (icells E) from hR)
  clear hv1 ho hR C1
  go_wp2_with fail
  refine (sP false w1 A1 c1 b1 R1.out).out.mono ?_
  rintro e w2 ⟨v2, rfl, ho⟩
  obtain ⟨A2, c2, hv2, _, _, hR⟩ := ho.form
  rw [tcells_length, List.length_map, ← HM.out] at hv2 hR
  rw [hv2]
  have b2 := b1.trans (ho.isBelow.mono b1.size)
  have R2 := Lib.hid (show Reads w2 w2.heap.size 1 A1 m (icells E) from (R1.out.below ho.isBelow).more ho.isBelow.size)
  have R2' := Lib.hid (show Reads w2 w2.heap.size 1 A2 m (tcells (E.map (stP false))) from hR)
  clear hv2 ho hR R1
  go_wp2_with fail
  refine (SPa w2 A1 A2 c1 c2 R2.out R2'.out).out.mono ?_
  rintro e w3 ⟨rfl, h3⟩
  have b3 := b2.trans (h3.mono b2.size)
  have R3 := Lib.hid (show Reads w3 w3.heap.size 1 A1 m (icells E) from (R2.out.below h3).more h3.size)
  clear h3 R2 R2' SPa
  go_wp2_with fail
  refine (sP true w3 A1 c1 b3 R3.out).out.mono ?_
  rintro e w4 ⟨v4, rfl, ho⟩
  obtain ⟨A4, c4, hv4, _, _, hR⟩ := ho.form
  rw [tcells_length, List.length_map, ← HM.out] at hv4 hR
  rw [hv4]
  have b4 := b3.trans (ho.isBelow.mono b3.size)
  have R4 := Lib.hid (show Reads w4 w4.heap.size 1 A1 m (icells E) from (R3.out.below ho.isBelow).more ho.isBelow.size)
  have R4' := Lib.hid (show Reads w4 w4.heap.size 1 A4 m (tcells (E.map (stP true))) from hR)
  clear hv4 ho hR R3 sP
  go_wp2_with fail
  refine (SPb w4 A1 A4 c1 c4 R4.out R4'.out).out.mono ?_
  rintro e w5 ⟨rfl, h5⟩
  have b5 := b4.trans (h5.mono b4.size)
  have R5 := Lib.hid (show Reads w5 w5.heap.size 1 A1 m (icells E) from (R4.out.below h5).more h5.size)
  clear h5 R4 R4' SPb
  go_wp2_with fail
  refine (sG w5 A1 c1 b5 R5.out).out.mono ?_
  rintro e w6 ⟨v6, rfl, ho⟩
  obtain ⟨A6, c6, hv6, _, _, hR⟩ := ho.form
  rw [tcells_length, List.length_map, ← HM.out] at hv6 hR
  rw [hv6]
  have b6 := b5.trans (ho.isBelow.mono b5.size)
  have R6 := Lib.hid (show Reads w6 w6.heap.size 1 A1 m (icells E) from (R5.out.below ho.isBelow).more ho.isBelow.size)
  have R6' := Lib.hid (show Reads w6 w6.heap.size 1 A6 m (tcells (E.map stG)) from hR)
  clear hv6 ho hR R5 sG
  go_wp2_with fail
  refine (SPc w6 A1 A6 c1 c6 R6.out R6'.out).out.mono ?_
  rintro e w7 ⟨rfl, h7⟩
  have b7 := b6.trans (h7.mono b6.size)
  clear h7 R6 R6' SPc B0 b1 b2 b3 b4 b5 b6
  have b8 : Below w.heap.size w w7.drew := b7.drew
  have hcv0 := (hcv _ b8).out
  clear b7
  go_wp2_with fail
  refine wp_region_held_drew (S := fun w' => (convert 30 9 (.slice A n c)).run Tryd.prog w' = .ok (.string (str l)) w') (by kernel_rfl) hcv0 (fun hHeld => ?_)
  refine wpAnyH_take (i := 0) (oi := ⟨some 23, _, _, _, _, _⟩) (v := ?_) rfl (by kernel_rfl) (by kernel_rfl) (by kernel_rfl) (fun _ _ _ h => h) (Or.inl ⟨by kernel_rfl, ?_⟩) (by assumption) ?_
  case refine_2 => (intro w hSw; (try dsimp only at hSw); go_simp; (try with_reducible rfl))
  try simp only [Act.put, List.setIfInBounds_toArray, List.set_cons_zero, List.set_cons_succ]
  refine wpAnyH_take (i := 1) (oi := ⟨some 24, _, _, _, _, _⟩) (v := ?_) rfl (by kernel_rfl) (by kernel_rfl) (by kernel_rfl) (fun _ _ _ h => h) (Or.inl ⟨by kernel_rfl, ?_⟩) (by assumption) ?_
  case refine_2 => (intro w hSw; (try dsimp only at hSw); go_simp; (try with_reducible rfl))
  try simp only [Act.put, List.setIfInBounds_toArray, List.set_cons_zero, List.set_cons_succ]
  refine wpAnyH_take (i := 4) (oi := ⟨some 27, _, _, _, _, _⟩) (v := ?_) rfl (by kernel_rfl) (by kernel_rfl) (by kernel_rfl) (fun _ _ _ h => h) (Or.inl ⟨by kernel_rfl, ?_⟩) (by assumption) ?_
  case refine_2 => (intro w hSw; (try dsimp only at hSw); go_simp; (try with_reducible rfl))
  try simp only [Act.put, List.setIfInBounds_toArray, List.set_cons_zero, List.set_cons_succ]
  refine wpAnyH_take (i := 5) (oi := ⟨some 28, _, _, _, _, _⟩) (v := ?_) rfl (by kernel_rfl) (by kernel_rfl) (by kernel_rfl) (fun _ _ _ h => h) (Or.inl ⟨by kernel_rfl, ?_⟩) (by assumption) ?_
  case refine_2 => (intro w hSw; (try dsimp only at hSw); go_simp; (try with_reducible rfl))
  try simp only [Act.put, List.setIfInBounds_toArray, List.set_cons_zero, List.set_cons_succ]
  refine wpAnyH_take (i := 6) (oi := ⟨some 29, _, _, _, _, _⟩) (v := ?_) rfl (by kernel_rfl) (by kernel_rfl) (by kernel_rfl) (fun _ _ _ h => h) (Or.inl ⟨by kernel_rfl, ?_⟩) (by assumption) ?_
  case refine_2 => (intro w hSw; (try dsimp only at hSw); go_simp; (try with_reducible rfl))
  try simp only [Act.put, List.setIfInBounds_toArray, List.set_cons_zero, List.set_cons_succ]
  refine wpAnyH_take (i := 7) (oi := ⟨some 30, _, _, _, _, _⟩) (v := ?_) rfl (by kernel_rfl) (by kernel_rfl) (by kernel_rfl) (fun _ _ _ h => h) (Or.inl ⟨by kernel_rfl, ?_⟩) (by assumption) ?_
  case refine_2 => (intro w hSw; (try dsimp only at hSw); go_simp; (try with_reducible rfl))
  try simp only [Act.put, List.setIfInBounds_toArray, List.set_cons_zero, List.set_cons_succ]
  refine wpAnyH_ready (rs := [2]) (by kernel_rfl) (by simp) ?_
  refine AllReadyH.cons rfl (fun K hK => ?_) AllReadyH.nil
  go_simp
  (go_at_call 22; refine (cA _ b8).out.mono ?_; rintro e wa ⟨va, rfl, hob⟩; have hba := b8.trans (hob.isBelow.mono b8.size); obtain ⟨Aa, ca, hva, _, _, hra⟩ := hob.form; have hka := conv_buf hob; rw [hva] at hka ⊢; clear hob hra hva; obtain ⟨na, hna⟩ : ∃ na, na = Ma.length := ⟨_, rfl⟩; rw [← hna] at hka ⊢; clear hna)
  go_wp2_with fail
  refine hK.out _ _ ?_ (fun hHeld => ?_)
  case refine_1 => (first | exact (hcv _ b8).out | exact (hcv _ hba).out | exact (hcv _ hbb).out | exact (hcv _ hbc).out)
  clear hK K
  try simp only [Act.put, List.setIfInBounds_toArray, List.set_cons_zero, List.set_cons_succ]
  refine wpAnyH_ready (rs := [3]) (by kernel_rfl) (by simp) ?_
  refine AllReadyH.cons rfl (fun K hK => ?_) AllReadyH.nil
  go_simp
  refine hK.out _ _ ?_ (fun hHeld => ?_)
  case refine_1 => (first | exact (hcv _ b8).out | exact (hcv _ hba).out | exact (hcv _ hbb).out | exact (hcv _ hbc).out)
  clear hK K
  try simp only [Act.put, List.setIfInBounds_toArray, List.set_cons_zero, List.set_cons_succ]
  refine wpAnyH_take (i := 8) (oi := ⟨some 31, _, _, _, _, _⟩) (v := ?_) rfl (by kernel_rfl) (by kernel_rfl) (by kernel_rfl) (fun _ _ _ h => h) (Or.inl ⟨by kernel_rfl, ?_⟩) (by assumption) ?_
  case refine_2 => (intro w hSw; (try dsimp only at hSw); go_simp; (try with_reducible rfl))
  try simp only [Act.put, List.setIfInBounds_toArray, List.set_cons_zero, List.set_cons_succ]
  refine wpAnyH_take (i := 9) (oi := ⟨some 32, _, _, _, _, _⟩) (v := ?_) rfl (by kernel_rfl) (by kernel_rfl) (by kernel_rfl) (fun _ _ _ h => h) (Or.inl ⟨by kernel_rfl, ?_⟩) (by assumption) ?_
  case refine_2 => (intro w hSw; (try dsimp only at hSw); go_simp; (try with_reducible rfl))
  try simp only [Act.put, List.setIfInBounds_toArray, List.set_cons_zero, List.set_cons_succ]
  refine wpAnyH_take (i := 10) (oi := ⟨some 33, _, _, _, _, _⟩) (v := ?_) rfl (by kernel_rfl) (by kernel_rfl) (by kernel_rfl) (fun _ _ _ h => h) (Or.inl ⟨by kernel_rfl, ?_⟩) (by assumption) ?_
  case refine_2 => (intro w hSw; (try dsimp only at hSw); go_simp; (try with_reducible rfl))
  try simp only [Act.put, List.setIfInBounds_toArray, List.set_cons_zero, List.set_cons_succ]
  refine wpAnyH_take (i := 11) (oi := ⟨some 34, _, _, _, _, _⟩) (v := ?_) rfl (by kernel_rfl) (by kernel_rfl) (by kernel_rfl) (fun _ _ _ h => h) (Or.inl ⟨by kernel_rfl, ?_⟩) (by assumption) ?_
  case refine_2 => (intro w hSw; (try dsimp only at hSw); go_simp; (try with_reducible rfl))
  try simp only [Act.put, List.setIfInBounds_toArray, List.set_cons_zero, List.set_cons_succ]
  refine wpAnyH_take (i := 14) (oi := ⟨some 37, _, _, _, _, _⟩) (v := ?_) rfl (by kernel_rfl) (by kernel_rfl) (by kernel_rfl) (fun _ _ _ h => h) (Or.inl ⟨by kernel_rfl, ?_⟩) (by assumption) ?_
  case refine_2 => (intro w hSw; (try dsimp only at hSw); go_simp; (try with_reducible rfl))
  try simp only [Act.put, List.setIfInBounds_toArray, List.set_cons_zero, List.set_cons_succ]
  refine wpAnyH_take (i := 15) (oi := ⟨some 38, _, _, _, _, _⟩) (v := ?_) rfl (by kernel_rfl) (by kernel_rfl) (by kernel_rfl) (fun _ _ _ h => h) (Or.inl ⟨by kernel_rfl, ?_⟩) (by assumption) ?_
  case refine_2 => (intro w hSw; (try dsimp only at hSw); go_simp; (try with_reducible rfl))
  try simp only [Act.put, List.setIfInBounds_toArray, List.set_cons_zero, List.set_cons_succ]
  refine wpAnyH_take (i := 16) (oi := ⟨some 39, _, _, _, _, _⟩) (v := ?_) rfl (by kernel_rfl) (by kernel_rfl) (by kernel_rfl) (fun _ _ _ h => h) (Or.inl ⟨by kernel_rfl, ?_⟩) (by assumption) ?_
  case refine_2 => (intro w hSw; (try dsimp only at hSw); go_simp; (try with_reducible rfl))
  try simp only [Act.put, List.setIfInBounds_toArray, List.set_cons_zero, List.set_cons_succ]
  refine wpAnyH_take (i := 17) (oi := ⟨some 40, _, _, _, _, _⟩) (v := ?_) rfl (by kernel_rfl) (by kernel_rfl) (by kernel_rfl) (fun _ _ _ h => h) (Or.inl ⟨by kernel_rfl, ?_⟩) (by assumption) ?_
  case refine_2 => (intro w hSw; (try dsimp only at hSw); go_simp; (try with_reducible rfl))
  try simp only [Act.put, List.setIfInBounds_toArray, List.set_cons_zero, List.set_cons_succ]
  refine wpAnyH_ready (rs := [12]) (by kernel_rfl) (by simp) ?_
  refine AllReadyH.cons rfl (fun K hK => ?_) AllReadyH.nil
  go_simp
  (go_at_call 23; refine (cB _ hba).out.mono ?_; rintro e wb ⟨vb, rfl, hob⟩; have hbb := hba.trans (hob.isBelow.mono hba.size); obtain ⟨Ab, cb, hvb, _, _, hrb⟩ := hob.form; have hkb := conv_buf hob; rw [hvb] at hkb ⊢; clear hob hrb hvb hka; obtain ⟨nb, hnb⟩ : ∃ nb, nb = Mb.length := ⟨_, rfl⟩; rw [← hnb] at hkb ⊢; clear hnb)
  go_wp2_with fail
  refine hK.out _ _ ?_ (fun hHeld => ?_)
  case refine_1 => (first | exact (hcv _ b8).out | exact (hcv _ hba).out | exact (hcv _ hbb).out | exact (hcv _ hbc).out)
  clear hK K
  try simp only [Act.put, List.setIfInBounds_toArray, List.set_cons_zero, List.set_cons_succ]
  refine wpAnyH_ready (rs := [13]) (by kernel_rfl) (by simp) ?_
  refine AllReadyH.cons rfl (fun K hK => ?_) AllReadyH.nil
  go_simp
  refine hK.out _ _ ?_ (fun hHeld => ?_)
  case refine_1 => (first | exact (hcv _ b8).out | exact (hcv _ hba).out | exact (hcv _ hbb).out | exact (hcv _ hbc).out)
  clear hK K
  try simp only [Act.put, List.setIfInBounds_toArray, List.set_cons_zero, List.set_cons_succ]
  refine wpAnyH_take (i := 18) (oi := ⟨some 41, _, _, _, _, _⟩) (v := ?_) rfl (by kernel_rfl) (by kernel_rfl) (by kernel_rfl) (fun _ _ _ h => h) (Or.inl ⟨by kernel_rfl, ?_⟩) (by assumption) ?_
  case refine_2 => (intro w hSw; (try dsimp only at hSw); go_simp; (try with_reducible rfl))
  try simp only [Act.put, List.setIfInBounds_toArray, List.set_cons_zero, List.set_cons_succ]
  refine wpAnyH_take (i := 19) (oi := ⟨some 42, _, _, _, _, _⟩) (v := ?_) rfl (by kernel_rfl) (by kernel_rfl) (by kernel_rfl) (fun _ _ _ h => h) (Or.inl ⟨by kernel_rfl, ?_⟩) (by assumption) ?_
  case refine_2 => (intro w hSw; (try dsimp only at hSw); go_simp; (try with_reducible rfl))
  try simp only [Act.put, List.setIfInBounds_toArray, List.set_cons_zero, List.set_cons_succ]
  refine wpAnyH_take (i := 20) (oi := ⟨some 43, _, _, _, _, _⟩) (v := ?_) rfl (by kernel_rfl) (by kernel_rfl) (by kernel_rfl) (fun _ _ _ h => h) (Or.inl ⟨by kernel_rfl, ?_⟩) (by assumption) ?_
  case refine_2 => (intro w hSw; (try dsimp only at hSw); go_simp; (try with_reducible rfl))
  try simp only [Act.put, List.setIfInBounds_toArray, List.set_cons_zero, List.set_cons_succ]
  refine wpAnyH_take (i := 21) (oi := ⟨some 44, _, _, _, _, _⟩) (v := ?_) rfl (by kernel_rfl) (by kernel_rfl) (by kernel_rfl) (fun _ _ _ h => h) (Or.inl ⟨by kernel_rfl, ?_⟩) (by assumption) ?_
  case refine_2 => (intro w hSw; (try dsimp only at hSw); go_simp; (try with_reducible rfl))
  try simp only [Act.put, List.setIfInBounds_toArray, List.set_cons_zero, List.set_cons_succ]
  refine wpAnyH_take (i := 22) (oi := ⟨some 45, _, _, _, _, _⟩) (v := ?_) rfl (by kernel_rfl) (by kernel_rfl) (by kernel_rfl) (fun _ _ _ h => h) (Or.inl ⟨by kernel_rfl, ?_⟩) (by assumption) ?_
  case refine_2 => (intro w hSw; (try dsimp only at hSw); go_simp; (try with_reducible rfl))
  try simp only [Act.put, List.setIfInBounds_toArray, List.set_cons_zero, List.set_cons_succ]
  refine wpAnyH_take (i := 25) (oi := ⟨some 48, _, _, _, _, _⟩) (v := ?_) rfl (by kernel_rfl) (by kernel_rfl) (by kernel_rfl) (fun _ _ _ h => h) (Or.inl ⟨by kernel_rfl, ?_⟩) (by assumption) ?_
  case refine_2 => (intro w hSw; (try dsimp only at hSw); go_simp; (try with_reducible rfl))
  try simp only [Act.put, List.setIfInBounds_toArray, List.set_cons_zero, List.set_cons_succ]
  refine wpAnyH_take (i := 26) (oi := ⟨some 49, _, _, _, _, _⟩) (v := ?_) rfl (by kernel_rfl) (by kernel_rfl) (by kernel_rfl) (fun _ _ _ h => h) (Or.inl ⟨by kernel_rfl, ?_⟩) (by assumption) ?_
  case refine_2 => (intro w hSw; (try dsimp only at hSw); go_simp; (try with_reducible rfl))
  try simp only [Act.put, List.setIfInBounds_toArray, List.set_cons_zero, List.set_cons_succ]
  refine wpAnyH_take (i := 27) (oi := ⟨some 50, _, _, _, _, _⟩) (v := ?_) rfl (by kernel_rfl) (by kernel_rfl) (by kernel_rfl) (fun _ _ _ h => h) (Or.inl ⟨by kernel_rfl, ?_⟩) (by assumption) ?_
  case refine_2 => (intro w hSw; (try dsimp only at hSw); go_simp; (try with_reducible rfl))
  try simp only [Act.put, List.setIfInBounds_toArray, List.set_cons_zero, List.set_cons_succ]
  refine wpAnyH_take (i := 28) (oi := ⟨some 51, _, _, _, _, _⟩) (v := ?_) rfl (by kernel_rfl) (by kernel_rfl) (by kernel_rfl) (fun _ _ _ h => h) (Or.inl ⟨by kernel_rfl, ?_⟩) (by assumption) ?_
  case refine_2 => (intro w hSw; (try dsimp only at hSw); go_simp; (try with_reducible rfl))
  try simp only [Act.put, List.setIfInBounds_toArray, List.set_cons_zero, List.set_cons_succ]
  refine wpAnyH_ready (rs := [23]) (by kernel_rfl) (by simp) ?_
  refine AllReadyH.cons rfl (fun K hK => ?_) AllReadyH.nil
  go_simp
  (go_at_call 24; refine (cC _ hbb).out.mono ?_; rintro e wc ⟨vc, rfl, hob⟩; have hbc := hbb.trans (hob.isBelow.mono hbb.size); obtain ⟨Ac, cc, hvc, _, _, hrc⟩ := hob.form; have hkc := conv_buf hob; rw [hvc] at hkc ⊢; clear hob hrc hvc hkb; obtain ⟨nc, hnc⟩ : ∃ nc, nc = Mc.length := ⟨_, rfl⟩; rw [← hnc] at hkc ⊢; clear hnc)
  go_wp2_with fail
  refine hK.out _ _ ?_ (fun hHeld => ?_)
  case refine_1 => (first | exact (hcv _ b8).out | exact (hcv _ hba).out | exact (hcv _ hbb).out | exact (hcv _ hbc).out)
  clear hK K
  try simp only [Act.put, List.setIfInBounds_toArray, List.set_cons_zero, List.set_cons_succ]
  refine wpAnyH_ready (rs := [24]) (by kernel_rfl) (by simp) ?_
  refine AllReadyH.cons rfl (fun K hK => ?_) AllReadyH.nil
  go_simp
  refine hK.out _ _ ?_ (fun hHeld => ?_)
  case refine_1 => (first | exact (hcv _ b8).out | exact (hcv _ hba).out | exact (hcv _ hbb).out | exact (hcv _ hbc).out)
  clear hK K
  try simp only [Act.put, List.setIfInBounds_toArray, List.set_cons_zero, List.set_cons_succ]
  refine wpAnyH_take (i := 29) (oi := ⟨some 52, _, _, _, _, _⟩) (v := ?_) rfl (by kernel_rfl) (by kernel_rfl) (by kernel_rfl) (fun _ _ _ h => h) (Or.inl ⟨by kernel_rfl, ?_⟩) (by assumption) ?_
  case refine_2 => (intro w hSw; (try dsimp only at hSw); go_simp; (try with_reducible rfl))
  try simp only [Act.put, List.setIfInBounds_toArray, List.set_cons_zero, List.set_cons_succ]
  refine wpAnyH_take (i := 30) (oi := ⟨some 53, _, _, _, _, _⟩) (v := ?_) rfl (by kernel_rfl) (by kernel_rfl) (by kernel_rfl) (fun _ _ _ h => h) (Or.inl ⟨by kernel_rfl, ?_⟩) (by assumption) ?_
  case refine_2 => (intro w hSw; (try dsimp only at hSw); go_simp; (try with_reducible rfl))
  try simp only [Act.put, List.setIfInBounds_toArray, List.set_cons_zero, List.set_cons_succ]
  refine wpAnyH_take (i := 31) (oi := ⟨some 4, _, _, _, _, _⟩) (v := ?_) rfl (by kernel_rfl) (by kernel_rfl) (by kernel_rfl) (fun _ _ _ h => h) (Or.inl ⟨by kernel_rfl, ?_⟩) (by assumption) ?_
  case refine_2 => (intro w hSw; (try dsimp only at hSw); go_simp; (try with_reducible rfl))
  try simp only [Act.put, List.setIfInBounds_toArray, List.set_cons_zero, List.set_cons_succ]
  refine wpAnyH_done (by kernel_rfl) ?_ _
  go_wp2
  go_ret
  exact ⟨rfl, hbc⟩
end Go.Proofs.YtpboiodigfdajaaDoor.fnAppendQuotes
