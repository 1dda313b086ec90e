/-
  For every eight words, sixteen words, counter, size and flags, in whatever memory and on every schedule, laws.FnCompress returns true, and each argument reads behind the call as it read before. No condition.
-/
import Derived.Test.YtfaopfaghnefdaaRows
import Derived.Test.YtfaopfaghnefdaaF
import Derived.WalkKit
import Derived.ProofKit
import Derived.OpenShut
namespace Go.Proofs.Ytfaopfaghnefdaa
open Go.ChangeShapes Go.WideShapes Go.ChangeAt Go.RowKit

theorem own : ownKnob Try.prog.godebug = none := by kernel_rfl
theorem laidOut : laidOutB Try.prog = true := by kernel_rfl

def wordOf : Option Value → Int
  | some (.int .u32 a) => a
  | _ => 0
section
variable {H : Type} {enc : TypeId × Value → H}
/-- an array of words, opened -/
theorem open_words {t : TypeId} {n : Nat} (ht : Try.prog.underlying t = some (.array n 22)) (hc : Try.prog.cellsOf t = n) (hr : Try.prog.readableRec t = true) (hrow : t < Try.prog.types.size)
    {W : World} {r : Reach} {base : Nat} {v : Value} {d : DataW H} {p : List MemPlace}
    (hval : Value.okWide Try.prog W r base t v) (h : DataW.Trod enc Try.prog W 0 (fun _ => true) true t v d p) :
    ∃ L : List Int, L.length = n ∧ v = .agg (vals L) ∧ p = [] ∧ ∀ (W' : World) (sp : Nat → Bool), DataW.Trod enc Try.prog W' 0 sp true t v d [] := by
  unfold Value.okWide at hval
  rw [ht] at hval
  obtain ⟨cs, rfl, hs, _⟩ := hval
  rw [hc] at hs
  have h' := h
  obtain ⟨fuel, hf⟩ := h
  have hf' : DataW.trod enc Try.prog W 0 (fun _ => true) true fuel t cs.toList = some (d, p) := hf
  obtain ⟨xs, m, rfl, hx, _, hl, hi⟩ := DataW.trod_array ht hf'
  have h1 : Try.prog.cellsOf 22 = 1 := by kernel_rfl
  have key : ∀ i, (hi' : i < n) → ∃ a : Int, cs.toList[i]? = some (.int .u32 a) ∧ xs[i]? = some (.lit (.int .u32 a), []) := by
    intro i hi'
    have h2 := hi i hi'
    have hlt : i < xs.length := by rw [hl]; exact hi'
    rw [List.getElem?_eq_getElem hlt] at h2
    obtain ⟨a, e1, e2, _⟩ := DataW.trod_int Try.underlying22 h2
    refine ⟨a, ?_, by rw [List.getElem?_eq_getElem hlt, e2]⟩
    rw [h1, Nat.mul_one] at e1
    have h3 : ((cs.toList.drop i).take 1)[0]? = some (.int .u32 a) := by rw [e1]; rfl
    rw [List.getElem?_take_of_lt (by omega), List.getElem?_drop] at h3
    simpa using h3
  have hp : p = [] := by
    have h4 : p = xs.flatMap (·.2) := congrArg Prod.snd hx
    rw [h4]
    rw [List.flatMap_eq_nil_iff]
    intro x hxm
    obtain ⟨i, hi2, rfl⟩ := List.getElem_of_mem hxm
    obtain ⟨a, _, e⟩ := key i (by rw [← hl]; exact hi2)
    rw [List.getElem?_eq_getElem hi2] at e
    rw [Option.some.inj e]
  subst hp
  have hv : cs = vals ((List.range n).map fun i => wordOf (cs.toList[i]?)) := by
    apply Array.ext
    · rw [vals_size, List.length_map, List.length_range, hs]
    · intro i hi1 hi2
      have hin : i < n := by rw [← hs]; exact hi1
      obtain ⟨a, e, _⟩ := key i hin
      have e' : cs[i]? = some (.int .u32 a) := by simpa using e
      have e3 := vals_get ((List.range n).map fun i => wordOf (cs.toList[i]?)) i (by rw [List.length_map, List.length_range]; exact hin)
      have e4 : at_ ((List.range n).map fun i => wordOf (cs.toList[i]?)) i = a := by
        have : ((List.range n).map fun i => wordOf (cs.toList[i]?))[i]? = some (wordOf (cs.toList[i]?)) := by
          rw [List.getElem?_map, List.getElem?_range hin]
          rfl
        show List.getD _ _ _ = _
        rw [List.getD_eq_getElem?_getD, this, e]
        rfl
      rw [e4] at e3
      rw [Array.getElem?_eq_getElem hi1] at e'
      rw [Array.getElem?_eq_getElem hi2] at e3
      rw [Option.some.inj e', Option.some.inj e3]
  refine ⟨(List.range n).map fun i => wordOf (cs.toList[i]?), by rw [List.length_map, List.length_range], ?_, rfl, fun W' sp => WideElems.Trod_stays laidOut hr hrow h' (by simp) (by simp)⟩
  exact congrArg Value.agg hv
end

set_option maxRecDepth 100000 in
theorem lifted (os : Os) (started : os.Started) (H : Type) (enc : TypeId × Value → H) :
    ReturnsInHanded {} Try.checked os 3 .any (Rows.fnCompressSpec.pre6 enc Try.prog Try.f3 Rows.fnCompressRow.domain false) (Rows.fnCompressSpec.post enc Try.prog Try.f3 false true false false) := by
  refine returnsInHanded_of_change (C := Try.checked) own started (by kernel_rfl) Try.func3
    (ChangeSpec.witness6 (enc := enc) (C := Try.checked) false ⟨#[], #[.agg #[.int .u32 0, .int .u32 0, .int .u32 0, .int .u32 0, .int .u32 0, .int .u32 0, .int .u32 0, .int .u32 0], .agg #[.int .u32 0, .int .u32 0, .int .u32 0, .int .u32 0, .int .u32 0, .int .u32 0, .int .u32 0, .int .u32 0, .int .u32 0, .int .u32 0, .int .u32 0, .int .u32 0, .int .u32 0, .int .u32 0, .int .u32 0, .int .u32 0], .int .u64 0, .int .u32 0, .int .u32 0], []⟩ 8 (by kernel_rfl) (by kernel_rfl) (by kernel_rfl) (by kernel_rfl)) ?_
  intro W base args ds gs before hval0 hW hcnd _
  have hval : ∀ (j : Nat) t v, Try.f3.params[j]? = some t → args[j]? = some v → Value.okWide Try.prog W .any base t v := hval0
  have hW' := hW
  obtain ⟨p, q, hA0, hV, rfl, hfz, hnd⟩ := hW
  have hA : DataW.TrodAll enc Try.prog W 0 (fun _ => true) true Try.f3.params.toList args.toList ds p := hA0
  rw [Try.params3] at hA hval
  obtain ⟨v0, vs0, d0, ds0, p0, q0, hargs, rfl, rfl, h0, r0⟩ := trodAll_cons hA
  obtain ⟨v1, vs1, d1, ds1, p1, q1, rfl, rfl, rfl, h1, r1⟩ := trodAll_cons r0
  obtain ⟨v2, vs2, d2, ds2, p2, q2, rfl, rfl, rfl, h2, r2⟩ := trodAll_cons r1
  obtain ⟨v3, vs3, d3, ds3, p3, q3, rfl, rfl, rfl, h3, r3⟩ := trodAll_cons r2
  obtain ⟨v4, vs4, d4, ds4, p4, q4, rfl, rfl, rfl, h4, r4⟩ := trodAll_cons r3
  obtain ⟨rfl, rfl, rfl⟩ := trodAll_nil r4
  obtain rfl : args = #[v0, v1, v2, v3, v4] := by cases args; simp_all
  obtain ⟨rfl, rfl⟩ := trodVars_none hV
  obtain ⟨L, hL, rfl, rfl, k0⟩ := open_words Try.underlying23 (by kernel_rfl) (by kernel_rfl) (of_decide_eq_true (by kernel_rfl)) (hval 0 23 v0 rfl rfl) h0
  obtain ⟨M, hM, rfl, rfl, k1⟩ := open_words Try.underlying24 (by kernel_rfl) (by kernel_rfl) (of_decide_eq_true (by kernel_rfl)) (hval 1 24 v1 rfl rfl) h1
  obtain ⟨a2, rfl, rfl, rfl, w2⟩ := open_int Try.underlying25 (hval 2 25 v2 rfl rfl) h2
  obtain ⟨a3, rfl, rfl, rfl, w3⟩ := open_int Try.underlying22 (hval 3 22 v3 rfl rfl) h3
  obtain ⟨a4, rfl, rfl, rfl, w4⟩ := open_int Try.underlying22 (hval 4 22 v4 rfl rfl) h4
  clear hA0 hval0
  simp only [List.append_nil] at hW'
  refine (law_any L M a2 a3 a4 W hL hM).mono fun e W' ⟨he, hg⟩ => ?_
  subst he
  exact ⟨_, rfl, post_of_same (pa := []) (pv := []) hW' (fun _ _ _ => (trodAll_cons_mk (shut_bool Try.underlying4 _) trodAll_mk0)) (fun sp _ => (trodAll_cons_mk (k0 W' sp) (trodAll_cons_mk (k1 W' sp) (trodAll_cons_mk (shut_int Try.underlying25 w2) (trodAll_cons_mk (shut_int Try.underlying22 w3) (trodAll_cons_mk (shut_int Try.underlying22 w4) trodAll_mk0)))))) (fun _ _ => rfl) rfl
    (hg.frame _) hg.2.1 (ok_one (by kernel_rfl) rfl (okWide_bool_mk Try.underlying4 _))⟩

/-- THE STATEMENT -/
theorem fnCompress_holds : Rows.FnCompressSaid :=
  OpenClaim.holds_of_wide 3 Try.f3 rfl rfl rfl rfl rfl rfl rfl ⟨rfl, rfl, rfl, rfl, rfl⟩ rfl rfl rfl rfl rfl (by kernel_rfl) Try.func3 (by kernel_rfl)
    (of_decide_eq_true (by kernel_rfl)) (by unfold Func.isWrapper; first | (rw [if_pos (by decide +kernel)]; kernel_rfl) | (rw [if_neg (by decide +kernel)]; exact ⟨rfl, rfl⟩))
    (fun os started H enc _ => lifted os started H enc)

#print axioms fnCompress_holds
end Go.Proofs.Ytfaopfaghnefdaa
