/-
  What the row's list gives of the two sentinels strconv.ErrSyntax and strconv.ErrRange: two pointers to errorStrings, in cells that no call writes; comparing with them.
-/
import Derived.Test.YthbnglkpkgpojaaDoorRows
import Derived.WalkKit
import Derived.WalkSpells
import Derived.Lib.Hide
import Derived.Below
import Derived.LaidLaws
import Derived.MakeChecks
import Derived.Stop.ErrReads
import Derived.LaidEqlPtr
namespace Go.Proofs.YthbnglkpkgpojaaDoor
open Go.RowKit
set_option maxRecDepth 100000

theorem laidVars_pick {P : Program} {w : World} : ∀ {l : List (String × DataW Unit)} {ps : List MemPlace}, DataW.LaidVars P w l ps → ∀ n d, (n, d) ∈ l →
    ∃ g t cs fuel p, P.globalNamed n = some g ∧ (P.globals[g]?).map (·.type) = some t ∧ w.var? P n = some cs ∧ DataW.trod (fun _ => ()) P w 0 (fun _ => true) false fuel t cs.toList = some (d, p) ∧
      (∀ x ∈ MemPlace.row ⟨g, 0, none⟩ cs.size ++ p, x ∈ ps)
  | [], _, _, _, _, hm => by cases hm
  | (n', d') :: r, ps, h, n, d, hm => by
    obtain ⟨g, t, cs, fuel, p, q, h1, h2, h3, h4, h5, h6⟩ := h
    rcases List.mem_cons.1 hm with e | e
    · obtain ⟨rfl, rfl⟩ := Prod.mk.inj e
      exact ⟨g, t, cs, fuel, p, h1, h2, h3, h4, fun x hx => by rw [h6]; exact List.mem_append_left _ hx⟩
    · obtain ⟨g', t', cs', fuel', p', k1, k2, k3, k4, k5⟩ := laidVars_pick h5 n d e
      exact ⟨g', t', cs', fuel', p', k1, k2, k3, k4, fun x hx => by rw [h6]; exact List.mem_append_right _ (k5 x hx)⟩

/-- the type of the sentinels' values: *errors.errorString -/
abbrev tES : TypeId := 112
theorem star : "*" ++ "errors.errorString" = "*errors.errorString" := by decide
theorem rowES (u : TypeId) (h : Tryd.prog.typeName? 3 u = some "*errors.errorString") : u = 112 :=
  typeName_ptr_named (nm := "errors.errorString") (by rw [star]; kernel_rfl) (by kernel_rfl) (by decide) u (by rw [star]; exact h)

/-- the variable in block g holds an errorString at a, whose text is s -/
structure Sent (w : World) (g : Nat) (a : Addr) (text : List UInt8) : Prop where
  var : w.cell? ⟨g, 0, none⟩ = some (.iface 112 (.pointer (some a)))
  str : ∃ s : ByteArray, w.cell? a = some (.string s) ∧ s.data.toList = text
  blk : ∃ c t, w.heap[a.block]? = some (.cells c t (0, 0))

theorem Sent.below {w w' : World} {g : Nat} {a : Addr} {x : List UInt8} (h : Sent w g a x) (hb : Below w.heap.size w w') : Sent w' g a x := by
  obtain ⟨h1, ⟨s, h2, h3⟩, c, t, h4⟩ := h
  refine ⟨?_, ⟨s, ?_, h3⟩, c, t, ?_⟩
  · rw [hb.cell (World.block_lt_of_cell? _ _ h1)]; exact h1
  · rw [hb.cell (World.block_lt_of_cell? _ _ h2)]; exact h2
  · rw [hb.block _ (World.block_lt_of_cell? _ _ h2)]; exact h4

theorem sent_of {laid : List (String × DataW Unit)} {w : World} (h : laidMetH Tryd.prog laid w) (hp : (laid.all fun x => x.2.handleName?.isNone) = true) {n : String} {g : Nat} {text : List UInt8}
    (hg : Tryd.prog.globalNamed n = some g) (hty : (Tryd.prog.globals[g]?).map (·.type) = some 49) (hm : (n, DataW.iface "*errors.errorString" (.ptr (.agg [.lit (.string text)]))) ∈ laid) : ∃ a, Sent w g a text := by
  rw [MakeChecks.laidMetH_plain _ _ _ hp] at h
  obtain ⟨ps, hv, _, hrows⟩ := h
  obtain ⟨g', t', cs, fuel, p, h1, h2, h3, h4, h5⟩ := laidVars_pick hv n _ hm
  obtain rfl := Option.some.inj (hg.symm.trans h1)
  obtain rfl := Option.some.inj (hty.symm.trans h2)
  obtain ⟨l⟩ := cs
  have ok : ∀ u v, l = [.iface u v] → Value.okWide Tryd.prog w .any 0 u v := fun u v e => by
    subst e
    exact (hrows g 0 (h5 _ (by simp [MemPlace.row]))).2 u v (by simpa using World.var?_cell h1 h3 0)
  obtain ⟨a, s, rfl, hc, hs, hz, rfl⟩ := errorString_of_trod Tryd.underlying49 rowES Tryd.underlying112 Tryd.underlying114 rfl rfl Tryd.underlying9 (by kernel_rfl) (by kernel_rfl) h4 ok
  exact ⟨a, by simpa using World.var?_cell h1 h3 0, ⟨s, hc, hs⟩, (hrows a.block a.off (h5 _ (by simp [MemPlace.row]))).1⟩

def synText : List UInt8 := [105, 110, 118, 97, 108, 105, 100, 32, 115, 121, 110, 116, 97, 120]
def rngText : List UInt8 := [118, 97, 108, 117, 101, 32, 111, 117, 116, 32, 111, 102, 32, 114, 97, 110, 103, 101]
/-- the two sentinels of strconv lie at aS and aR -/
structure ErrT (w : World) (aS aR : Addr) : Prop where
  syn : Sent w 4 aS synText
  rng : Sent w 5 aR rngText
  ne : aS ≠ aR
theorem ErrT.below {w w' : World} {aS aR : Addr} (h : ErrT w aS aR) (hb : Below w.heap.size w w') : ErrT w' aS aR := ⟨h.syn.below hb, h.rng.below hb, h.ne⟩
theorem errT_of {laid : List (String × DataW Unit)} {w : World} (h : laidMetH Tryd.prog laid w) (hp : (laid.all fun x => x.2.handleName?.isNone) = true)
    (h1 : ("strconv.ErrSyntax", DataW.iface "*errors.errorString" (.ptr (.agg [.lit (.string synText)]))) ∈ laid) (h2 : ("strconv.ErrRange", DataW.iface "*errors.errorString" (.ptr (.agg [.lit (.string rngText)]))) ∈ laid) : ∃ aS aR, ErrT w aS aR := by
  obtain ⟨aS, hS⟩ := sent_of h hp (g := 4) (by kernel_rfl) (by kernel_rfl) h1
  obtain ⟨aR, hR⟩ := sent_of h hp (g := 5) (by kernel_rfl) (by kernel_rfl) h2
  refine ⟨aS, aR, hS, hR, ?_⟩
  rintro rfl
  obtain ⟨s, e1, e2⟩ := hS.str
  obtain ⟨s', e3, e4⟩ := hR.str
  rw [e1] at e3
  obtain rfl : s = s' := by injection e3 with e; injection e
  rw [e2] at e4
  exact absurd e4 (by decide)

theorem infoES : (Tryd.prog.info? 112).map (fun i => i.comparable) = some true := by kernel_rfl
theorem infoEs : (Tryd.prog.info? 114).map (fun i => i.size) = some 1 := by kernel_rfl
/-- err == ErrX, err a pointer to an errorString -/
theorem eql_same (w : World) (a : Addr) : (binOp .eql 49 (.iface 112 (.pointer (some a))) (.iface 112 (.pointer (some a)))).run Tryd.prog w = .ok (.bool true) w := by
  obtain ⟨i, hi, hi'⟩ := Option.map_eq_some_iff.1 infoES
  obtain ⟨j, hj, hj'⟩ := Option.map_eq_some_iff.1 infoEs
  exact run_eql_iface_ptr_same w a Tryd.underlying49 Tryd.underlying112 hi hi' hj
theorem eql_other (w : World) {a b : Addr} (hne : a ≠ b) (ha : ∃ c t, w.heap[a.block]? = some (.cells c t (0, 0))) (hb : ∃ c t, w.heap[b.block]? = some (.cells c t (0, 0))) :
    (binOp .eql 49 (.iface 112 (.pointer (some a))) (.iface 112 (.pointer (some b)))).run Tryd.prog w = .ok (.bool false) w := by
  obtain ⟨i, hi, hi'⟩ := Option.map_eq_some_iff.1 infoES
  obtain ⟨j, hj, hj'⟩ := Option.map_eq_some_iff.1 infoEs
  obtain ⟨ca, ta, ha⟩ := ha
  obtain ⟨cb, tb, hb⟩ := hb
  exact run_eql_iface_ptr_other w Tryd.underlying49 Tryd.underlying112 hi hi' hj (by omega) hne ha hb

end Go.Proofs.YthbnglkpkgpojaaDoor
