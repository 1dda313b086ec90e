/-
  laws.FnCompress, called on any eight and sixteen words and any three numbers, answers true and writes nothing that was there. Condition: the lists have eight and sixteen words.
-/
import Derived.Test.YtfaopfaghnefdaaE
import Derived.ChangeKeysEq
import Derived.BigQuiet
namespace Go.Proofs.Ytfaopfaghnefdaa
section
/-- sixteen words, one by one -/
theorem sixteen (L : List Int) (h : L.length = 16) : ∃ a0 a1 a2 a3 a4 a5 a6 a7 a8 a9 a10 a11 a12 a13 a14 a15, L = [a0, a1, a2, a3, a4, a5, a6, a7, a8, a9, a10, a11, a12, a13, a14, a15] := by
  match L, h with
  | [a0, a1, a2, a3, a4, a5, a6, a7, a8, a9, a10, a11, a12, a13, a14, a15], _ => exact ⟨_, _, _, _, _, _, _, _, _, _, _, _, _, _, _, _, rfl⟩
theorem stepM_eq (a0 a1 a2 a3 a4 a5 a6 a7 a8 a9 a10 a11 a12 a13 a14 a15 : Int) : stepM [a0, a1, a2, a3, a4, a5, a6, a7, a8, a9, a10, a11, a12, a13, a14, a15] = [a2, a6, a3, a10, a7, a0, a4, a13, a1, a11, a12, a5, a9, a14, a15, a8] := by kernel_rfl
theorem stepV_eq (V : List Int) (a0 a1 a2 a3 a4 a5 a6 a7 a8 a9 a10 a11 a12 a13 a14 a15 : Int) : stepV V [a0, a1, a2, a3, a4, a5, a6, a7, a8, a9, a10, a11, a12, a13, a14, a15] =
      gs (gs (gs (gs (gs (gs (gs (gs V 0 4 8 12 a0 a1) 1 5 9 13 a2 a3) 2 6 10 14 a4 a5) 3 7 11 15 a6 a7) 0 5 10 15 a8 a9) 1 6 11 12 a10 a11) 2 7 8 13 a12 a13) 3 4 9 14 a14 a15 := by
    simp only [stepV, colS, diagS]
    simp only [at_, List.getD_eq_getElem?_getD, Nat.reduceMul, Nat.reduceAdd, Nat.reduceMod]
    kernel_rfl
theorem rounds_eq (V M : List Int) (hM : M.length = 16) : (rV V M 7).1 = rounds V M := by
  obtain ⟨m0, m1, m2, m3, m4, m5, m6, m7, m8, m9, m10, m11, m12, m13, m14, m15, rfl⟩ := sixteen M hM
  simp only [rV, stepM_eq, stepV_eq]
  unfold rounds sched
  simp only [List.foldl_cons, List.foldl_nil]
  kernel_rfl
theorem initW_eq (H : List Int) (ctr bl fl : Int) : v1 H ctr bl fl = initW H ctr bl fl := by
  kernel_rfl
theorem fin_eq (H R : List Int) (ctr bl fl : Int) (hR : R.length = 16) : finS H R 8 = finY R (finX R (initW H ctr bl fl) 8) 8 := by
  obtain ⟨m0, m1, m2, m3, m4, m5, m6, m7, m8, m9, m10, m11, m12, m13, m14, m15, rfl⟩ := sixteen R hR
  kernel_rfl
theorem spec_comp (H M : List Int) (ctr bl fl : Int) (hM : M.length = 16) : specC H M ctr bl fl = comp H M ctr bl fl := by
  unfold specC comp rcomp
  rw [initW_eq, rounds_eq _ M hM]
  refine fin_eq H _ ctr bl fl ?_
  rw [← rounds_eq _ M hM]
  exact (rV_length _ M (by rfl) hM 7).1
end
section
def Z8 : List Int := [0, 0, 0, 0, 0, 0, 0, 0]
theorem run_neq (w : World) : (binOp .neq 24 (.agg (vals (comp Z8 V00 0 64 11))) (.agg zrow)).run Try.prog w = .ok (.bool true) w := by kernel_rfl

theorem items_same (d : Nat) (L : List Int) (w : World) : ∀ is : List Nat, (∀ i ∈ is, i < L.length) → (Op.eqItems (d + 1) 22 1 (vals L) (vals L) is).run Try.prog w = .ok true w
  | [], _ => by simp [Op.eqItems]
  | i :: is, h => by
    have hi := h i (by simp)
    have ih := items_same d L w is (fun j hj => h j (by simp [hj]))
    have hp : (part 22 (vals L) (i * 1)).run Try.prog w = .ok (.int .u32 (at_ L i)) w := run_part_plain w (by kernel_rfl) (by rw [Nat.mul_one]; exact vals_get L i hi)
    have he : (Op.equalIn (d + 1) 22 (.int .u32 (at_ L i)) (.int .u32 (at_ L i))).run Try.prog w = .ok true w := by
      simp [Op.equalIn, go_sem]
    simp only [Op.eqItems, Sem.run_bind, hp, Result.andThen_ok, he]
    simpa using ih
theorem run_eql (L : List Int) (hL : L.length = 16) (w : World) : (binOp .eql 24 (.agg (vals L)) (.agg (vals L))).run Try.prog w = .ok (.bool true) w := by
  rw [run_eql_struct]
  have : (Op.equalIn 10000 24 (.agg (vals L)) (.agg (vals L))).run Try.prog w = .ok true w := by
    rw [show (10000 : Nat) = 9999 + 1 from rfl]
    obtain ⟨i, hi⟩ : ∃ i, Try.prog.info? 22 = some i := by
      cases h : Try.prog.info? 22 with
      | some i => exact ⟨i, rfl⟩
      | none => have := (by kernel_rfl : (Try.prog.info? 22).isSome = true); rw [h] at this; cases this
    rw [run_equalIn_array w 9999 (vals L) (vals L) Try.underlying24 hi, show Try.prog.cellsOf 22 = 1 by kernel_rfl]
    exact items_same 9998 L w _ (fun i hi => by rw [hL]; exact List.mem_range.1 hi)
  rw [this]
  rfl
end
section
open Go.RowKit
set_option linter.unusedVariables false
/-- the frame of the law, by what is known of it -/
structure K3 (ex : List (Nat × Value)) (a : Act) : Prop where
  size : a.tmps.size = 39
  defers : a.defers = []
  ev : ∀ (i : Nat) (v : Value), ex.lookup i = some v → a.eval (.tmp i) = v
theorem K3.put {ex : List (Nat × Value)} {a : Act} (h : K3 ex a) (d : Nat) (v : Value) (hd : d < 39) : K3 ((d, v) :: ex) (a.put (some d) v) := by
  refine ⟨(put_size a d v).trans h.size, h.defers, fun i u hi => ?_⟩
  by_cases e : i = d
  · subst e
    rw [eval_same a i v (by rw [h.size]; exact hd)]
    simpa using hi
  · rw [eval_other a d i v e]
    refine h.ev i u ?_
    rw [List.lookup_cons] at hi
    have : (i == d) = false := by simpa using e
    rw [this] at hi
    exact hi
theorem K3.look {ex : List (Nat × Value)} {a : Act} (h : K3 ex a) (d : Nat) (v : Value) (hd : d < 39) (hv : ex.lookup d = some v) : a.tmps[d]? = some v := by
  have := h.ev d v hv
  have hlt : d < a.tmps.size := by rw [h.size]; exact hd
  simp only [Act.eval, Array.getD_eq_getD_getElem?, Array.getElem?_eq_getElem hlt, Option.getD_some] at this
  rw [Array.getElem?_eq_getElem hlt, this]
section
variable {P : Program} {ops : Array Oper} {Q : Act → Prop} {Q' : Exit → Act → World → Prop} {C : World → Prop} {a : Act} {o : Oper} {rest : List Oper} {w : World} {ex : List (Nat × Value)}
theorem want_free (hg : o.guard = none) : Region.wanted o (yielded ops a.tmps) = true := by simp [Region.wanted, hg]
theorem want_bool {K : K3 ex a} (j d : Nat) (b u : Bool) (hg : o.guard = some (j, b)) (hj : (ops[j]?).bind (·.dst) = some d) (hd : d < 39) (hv : ex.lookup d = some (.bool u)) (t : Bool) (ht : (u == b) = t) : Region.wanted o (yielded ops a.tmps) = t := by
  have := K.look d _ hd hv
  simp only [Region.wanted, hg, yielded, hj, Option.bind_some, this, ← ht]
  cases u <;> cases b <;> rfl
theorem want_undef {K : K3 ex a} (j d : Nat) (b : Bool) (hg : o.guard = some (j, b)) (hj : (ops[j]?).bind (·.dst) = some d) (hd : d < 39) (hv : ex.lookup d = some undef) : Region.wanted o (yielded ops a.tmps) = false := by
  have := K.look d _ hd hv
  simp only [Region.wanted, hg, yielded, hj, Option.bind_some, this]
  cases b <;> rfl
theorem kq {K : K3 ex a} (d : Nat) (v : Value) (hw : Region.wanted o (yielded ops a.tmps) = true) (ho : o.dst = some d) (hd : d < 39) (hv : ∀ w, C w → o.quietAt P a C w v) (h : ∀ a', K3 ((d, v) :: ex) a' → wpQuiet P ops C Q rest a') : wpQuiet P ops C Q (o :: rest) a := by
  unfold wpQuiet
  rw [if_pos hw]
  refine ⟨v, hv, ?_⟩
  rw [ho]
  exact h _ (K.put d v hd)
theorem kskip {K : K3 ex a} (d : Nat) (hw : Region.wanted o (yielded ops a.tmps) = false) (ho : o.dst = some d) (hd : d < 39) (h : ∀ a', K3 ((d, undef) :: ex) a' → wpQuiet P ops C Q rest a') : wpQuiet P ops C Q (o :: rest) a := by
  unfold wpQuiet
  rw [if_neg (by rw [hw]; exact Bool.false_ne_true), ho]
  exact h _ (K.put d undef hd)
theorem kw {K : K3 ex a} (d : Nat) (v : Value) (w' : World) (hg : o.guard = none) (ho : o.dst = some d) (hd : d < 39) (hv : (execOp a.eval o).run P w = .ok (.value v) w')
    (h : ∀ a', K3 ((d, v) :: ex) a' → wpList P ops Q' rest a' w') : wpList P ops Q' (o :: rest) a w :=
  wpList_plain hg fun _ hK => by
    unfold Oper.wp
    rw [hv]
    refine hK _ _ ?_
    rw [ho]
    exact h _ (K.put d v hd)
theorem qa_ex {v : Value} (h : ∀ w, C w → (execOp a.eval o).run P w = .ok (.value v) w) : ∀ w, C w → o.quietAt P a C w v := by
  intro w hw; unfold Oper.quietAt; rw [h w hw]; exact ⟨rfl, rfl⟩
end
section
variable {a : Act} {o : Oper} {w : World}
theorem ex_gtr (x y : Operand) (m n : Int) (t : TypeId) (b : Bool) (h : o.op = .binOp .gtr 22 x y t) (hx : a.eval x = .int .u32 m) (hy : a.eval y = .int .u32 n) (hb : decide (n < m) = b) : ∀ w, (execOp a.eval o).run Try.prog w = .ok (.value (.bool b)) w := by
  intro w; unfold execOp; rw [h]
  dsimp only
  rw [hx, hy, ← hb]
  simp [go_sem]
theorem ex_pick (c x y : Operand) (b : Bool) (v : Value) {P : Program} (h : o.op = .pick c x y) (hc : a.eval c = .bool b) (hv : (if b then a.eval x else a.eval y) = v) : ∀ w, (execOp a.eval o).run P w = .ok (.value v) w := by
  intro w; unfold execOp; rw [h]
  dsimp only
  rw [hc]
  subst hv
  cases b <;> simp [asBool]
theorem ex_eql (x y : Operand) (L : List Int) (hL : L.length = 16) (h : o.op = .binOp .eql 24 x y 24) (hx : a.eval x = .agg (vals L)) (hy : a.eval y = .agg (vals L)) : ∀ w, (execOp a.eval o).run Try.prog w = .ok (.value (.bool true)) w := by
  intro w; unfold execOp; rw [h]
  dsimp only
  rw [hx, hy]
  simp only [Sem.run_bind, run_eqGuard_agg w .eql 24 x y (vals L) (vals L) Try.eqGuardType24, run_eql L hL w, Result.andThen_ok]
  rfl
theorem ex_neq (x y : Operand) (h : o.op = .binOp .neq 24 x y 24) (hx : a.eval x = .agg (vals (comp Z8 V00 0 64 11))) (hy : a.eval y = .agg zrow) : ∀ w, (execOp a.eval o).run Try.prog w = .ok (.value (.bool true)) w := by
  intro w; unfold execOp; rw [h]
  dsimp only
  rw [hx, hy]
  simp only [Sem.run_bind, run_eqGuard_agg w .neq 24 x y _ _ Try.eqGuardType24, run_neq w, Result.andThen_ok]
  rfl
theorem run_build23 (w : World) : (Instr.build 23 #[]).run Try.prog w = .ok (.agg (vals Z8)) w := by kernel_rfl
theorem ex_build23 (h : o.op = .build 23 #[]) : ∀ w, (execOp a.eval o).run Try.prog w = .ok (.value (.agg (vals Z8))) w := by
  intro w; unfold execOp; rw [h]
  change (Sem.run Try.prog ((do pure (Next.value (← Instr.build 23 ((#[] : Array (Nat × Operand)).map fun (i, x) => (i, a.eval x))))) : Sem Next) w) = _
  simp only [List.map_toArray, List.map_nil, Sem.run_bind]
  rw [run_build23 w]
  rfl
end
theorem enter4 (args : Array Value) (w : World) : (callFunc 4 args).run Try.prog w = .ok (.enter 4 args) w := by
  simp [go_sem]
theorem enter5 (args : Array Value) (w : World) : (callFunc 5 args).run Try.prog w = .ok (.enter 5 args) w := by
  simp [go_sem]
set_option maxRecDepth 100000 in
set_option maxHeartbeats 2000000 in
/-- 'laws.FnCompress' answers true and writes nothing that was there. -/
theorem law_any (H M : List Int) (ctr sz fl : Int) (w : World) (hH : H.length = 8) (hM : M.length = 16) :
    Calls Try.prog 3 #[.agg (vals H), .agg (vals M), .int .u64 ctr, .int .u32 sz, .int .u32 fl] w fun e w' => e = .returned (.bool true) ∧ Grown w w' := by
  refine calls_of_wp Try.func3 rfl ?_
  rw [Try.ntmps3, show (#[Value.agg (vals H), .agg (vals M), .int .u64 ctr, .int .u32 sz, .int .u32 fl] : Array Value).size = 5 from rfl]
  generalize hQ : bodyPost Try.prog Try.f3 (fun e w' => e = .returned (.bool true) ∧ Grown w w') = Q
  have hK : K3 [(0, .agg (vals H)), (1, .agg (vals M)), (2, .int .u64 ctr), (3, .int .u32 sz), (4, .int .u32 fl)] { tmps := #[Value.agg (vals H), .agg (vals M), .int .u64 ctr, .int .u32 sz, .int .u32 fl] ++ Array.replicate (39 - 5) undef, defers := [] } := by
    refine ⟨by rw [Array.size_append, Array.size_replicate]; rfl, rfl, fun i v hi => ?_⟩
    have hlt : i < 5 := by
      by_cases h : i < 5
      · exact h
      · exfalso
        simp only [List.lookup_cons, List.lookup_nil] at hi
        rw [show (i == 0) = false by simp; omega, show (i == 1) = false by simp; omega, show (i == 2) = false by simp; omega, show (i == 3) = false by simp; omega, show (i == 4) = false by simp; omega] at hi
        cases hi
    simp only [Act.eval, Array.getD_eq_getD_getElem?]
    rw [Array.getElem?_append_left (by simpa using hlt)]
    match i, hlt, hi with
    | 0, _, hi => exact Option.some.inj hi
    | 1, _, hi => exact Option.some.inj hi
    | 2, _, hi => exact Option.some.inj hi
    | 3, _, hi => exact Option.some.inj hi
    | 4, _, hi => exact Option.some.inj hi
  generalize ({ tmps := #[Value.agg (vals H), .agg (vals M), .int .u64 ctr, .int .u32 sz, .int .u32 fl] ++ Array.replicate (39 - 5) undef, defers := [] } : Act) = a at hK ⊢
  refine wp_seq (wp_region_lit ?_)
  refine kw (K := hK) 5 (.pointer (some ⟨w.heap.size, 0, none⟩)) (w.alloc (.cells (vals H) 23)) rfl rfl (by decide) (ex_box 23 _ _ rfl (hK.ev 0 _ rfl) _) ?_
  clear hK; intro a hK
  refine kw (K := hK) 6 (.pointer (some ⟨w.heap.size + 1, 0, none⟩)) ((w.alloc (.cells (vals H) 23)).alloc (.cells (vals M) 24)) rfl rfl (by decide) ((ex_box 24 _ _ rfl (hK.ev 1 _ rfl) _).trans (by rw [World.size_alloc])) ?_
  clear hK; intro a hK
  refine kw (K := hK) 10 (.bool false) ((w.alloc (.cells (vals H) 23)).alloc (.cells (vals M) 24)) rfl rfl (by decide) (ex_assign (.const (.bool false)) (.bool false) rfl rfl _) ?_
  clear hK; intro a hK
  refine wpList_nil ?_
  have hG : Grown w ((w.alloc (.cells (vals H) 23)).alloc (.cells (vals M) 24)) := ((Grown.refl w).alloc _ _).alloc _ _
  have h5 : ((w.alloc (.cells (vals H) 23)).alloc (.cells (vals M) 24)).heap[w.heap.size]? = some (.cells (vals H) 23 (0, 0)) := by
    rw [Go.heap_alloc_old _ _ (by rw [World.size_alloc]; omega)]; exact heap_alloc_new w _
  have h6 : ((w.alloc (.cells (vals H) 23)).alloc (.cells (vals M) 24)).heap[w.heap.size + 1]? = some (.cells (vals M) 24 (0, 0)) := heap_alloc2_new w _ _
  generalize ((w.alloc (.cells (vals H) 23)).alloc (.cells (vals M) 24)) = w1 at hG h5 h6 ⊢
  have hend : ∀ (a' : Act), a'.defers = [] → a'.eval (.tmp 10) = .bool true → ∀ w', Grown w1 w' → (Exit.then (Code.ret.wp Try.prog Q) Q) .normal a' w' := by
    intro a' hd h10 w' hg
    refine wp_ret ?_
    rw [← hQ]
    have h10' : a'.tmps.getD 10 undef = .bool true := h10
    refine bodyPost_ret (v := .bool true) ?_ hd ⟨rfl, grown_trans hG hg⟩
    have h10'' : a'.tmps[10]?.getD undef = .bool true := by simpa using h10'
    simp [results, Try.results3, h10'']
  refine wp_seq (wp_region_quiet (C := fun w' => Grown w1 w') (by kernel_rfl) (by as_aux_lemma => kernel_rfl) (Grown.refl w1) ?_)

  by_cases c1 : 64 < sz
  · have d1 : decide (64 < sz) = true := decide_eq_true c1
    refine kq (K := hK) 11 (.int .u32 sz) (want_free rfl) rfl (by decide) (qa_of (ex_move _ _ rfl (hK.ev 3 _ rfl))) ?_
    clear hK; intro a hK
    refine kq (K := hK) 12 (.bool true) (want_free rfl) rfl (by decide) (qa_of (ex_gtr _ _ _ _ _ _ rfl (hK.ev 11 _ rfl) rfl d1)) ?_
    clear hK; intro a hK
    refine kq (K := hK) 13 (.bool true) (want_free rfl) rfl (by decide) (qa_of (ex_move _ _ rfl (hK.ev 12 _ rfl))) ?_
    clear hK; intro a hK
    refine kskip (K := hK) 14 (want_bool (K := hK) 2 13 false true rfl rfl (by decide) rfl false rfl) rfl (by decide) ?_
    clear hK; intro a hK
    refine kskip (K := hK) 15 (want_bool (K := hK) 2 13 false true rfl rfl (by decide) rfl false rfl) rfl (by decide) ?_
    clear hK; intro a hK
    refine kq (K := hK) 16 (.bool true) (want_free rfl) rfl (by decide) (qa_of (ex_pick _ _ _ true _ rfl (hK.ev 13 _ rfl) rfl)) ?_
    clear hK; intro a hK
    refine kq (K := hK) 17 (.bool true) (want_free rfl) rfl (by decide) (qa_of (ex_move _ _ rfl (hK.ev 16 _ rfl))) ?_
    clear hK; intro a hK
    refine kskip (K := hK) 18 (want_bool (K := hK) 6 17 false true rfl rfl (by decide) rfl false rfl) rfl (by decide) ?_
    clear hK; intro a hK
    refine kskip (K := hK) 19 (want_bool (K := hK) 6 17 false true rfl rfl (by decide) rfl false rfl) rfl (by decide) ?_
    clear hK; intro a hK
    refine kskip (K := hK) 20 (want_bool (K := hK) 6 17 false true rfl rfl (by decide) rfl false rfl) rfl (by decide) ?_
    clear hK; intro a hK
    refine kskip (K := hK) 21 (want_bool (K := hK) 6 17 false true rfl rfl (by decide) rfl false rfl) rfl (by decide) ?_
    clear hK; intro a hK
    refine kskip (K := hK) 22 (want_bool (K := hK) 6 17 false true rfl rfl (by decide) rfl false rfl) rfl (by decide) ?_
    clear hK; intro a hK
    refine kskip (K := hK) 23 (want_bool (K := hK) 6 17 false true rfl rfl (by decide) rfl false rfl) rfl (by decide) ?_
    clear hK; intro a hK
    refine kskip (K := hK) 24 (want_bool (K := hK) 6 17 false true rfl rfl (by decide) rfl false rfl) rfl (by decide) ?_
    clear hK; intro a hK
    refine kskip (K := hK) 25 (want_bool (K := hK) 6 17 false true rfl rfl (by decide) rfl false rfl) rfl (by decide) ?_
    clear hK; intro a hK
    refine kskip (K := hK) 26 (want_bool (K := hK) 6 17 false true rfl rfl (by decide) rfl false rfl) rfl (by decide) ?_
    clear hK; intro a hK
    refine kskip (K := hK) 27 (want_bool (K := hK) 6 17 false true rfl rfl (by decide) rfl false rfl) rfl (by decide) ?_
    clear hK; intro a hK
    refine kskip (K := hK) 28 (want_bool (K := hK) 6 17 false true rfl rfl (by decide) rfl false rfl) rfl (by decide) ?_
    clear hK; intro a hK
    refine kskip (K := hK) 29 (want_bool (K := hK) 6 17 false true rfl rfl (by decide) rfl false rfl) rfl (by decide) ?_
    clear hK; intro a hK
    refine kskip (K := hK) 30 (want_bool (K := hK) 6 17 false true rfl rfl (by decide) rfl false rfl) rfl (by decide) ?_
    clear hK; intro a hK
    refine kskip (K := hK) 31 (want_bool (K := hK) 6 17 false true rfl rfl (by decide) rfl false rfl) rfl (by decide) ?_
    clear hK; intro a hK
    refine kskip (K := hK) 32 (want_undef (K := hK) 20 31 true rfl rfl (by decide) rfl) rfl (by decide) ?_
    clear hK; intro a hK
    refine kskip (K := hK) 33 (want_undef (K := hK) 20 31 true rfl rfl (by decide) rfl) rfl (by decide) ?_
    clear hK; intro a hK
    refine kskip (K := hK) 34 (want_undef (K := hK) 20 31 true rfl rfl (by decide) rfl) rfl (by decide) ?_
    clear hK; intro a hK
    refine kskip (K := hK) 35 (want_undef (K := hK) 20 31 true rfl rfl (by decide) rfl) rfl (by decide) ?_
    clear hK; intro a hK
    refine kskip (K := hK) 36 (want_undef (K := hK) 20 31 true rfl rfl (by decide) rfl) rfl (by decide) ?_
    clear hK; intro a hK
    refine kskip (K := hK) 37 (want_bool (K := hK) 6 17 false true rfl rfl (by decide) rfl false rfl) rfl (by decide) ?_
    clear hK; intro a hK
    refine kq (K := hK) 38 (.bool true) (want_free rfl) rfl (by decide) (qa_of (ex_pick _ _ _ true _ rfl (hK.ev 17 _ rfl) rfl)) ?_
    clear hK; intro a hK
    refine kq (K := hK) 10 (.bool true) (want_free rfl) rfl (by decide) (qa_of (ex_assign _ _ rfl (hK.ev 38 _ rfl))) ?_
    clear hK; intro a hK
    refine wpQuiet_nil ?_
    exact hend _ hK.defers (hK.ev 10 _ rfl)
  · have d1 : decide (64 < sz) = false := decide_eq_false c1
    by_cases c2 : 127 < fl
    · have d2 : decide (127 < fl) = true := decide_eq_true c2
      refine kq (K := hK) 11 (.int .u32 sz) (want_free rfl) rfl (by decide) (qa_of (ex_move _ _ rfl (hK.ev 3 _ rfl))) ?_
      clear hK; intro a hK
      refine kq (K := hK) 12 (.bool false) (want_free rfl) rfl (by decide) (qa_of (ex_gtr _ _ _ _ _ _ rfl (hK.ev 11 _ rfl) rfl d1)) ?_
      clear hK; intro a hK
      refine kq (K := hK) 13 (.bool false) (want_free rfl) rfl (by decide) (qa_of (ex_move _ _ rfl (hK.ev 12 _ rfl))) ?_
      clear hK; intro a hK
      refine kq (K := hK) 14 (.int .u32 fl) (want_bool (K := hK) 2 13 false false rfl rfl (by decide) rfl true rfl) rfl (by decide) (qa_of (ex_move _ _ rfl (hK.ev 4 _ rfl))) ?_
      clear hK; intro a hK
      refine kq (K := hK) 15 (.bool true) (want_bool (K := hK) 2 13 false false rfl rfl (by decide) rfl true rfl) rfl (by decide) (qa_of (ex_gtr _ _ _ _ _ _ rfl (hK.ev 14 _ rfl) rfl d2)) ?_
      clear hK; intro a hK
      refine kq (K := hK) 16 (.bool true) (want_free rfl) rfl (by decide) (qa_of (ex_pick _ _ _ false _ rfl (hK.ev 13 _ rfl) (hK.ev 15 _ rfl))) ?_
      clear hK; intro a hK
      refine kq (K := hK) 17 (.bool true) (want_free rfl) rfl (by decide) (qa_of (ex_move _ _ rfl (hK.ev 16 _ rfl))) ?_
      clear hK; intro a hK
      refine kskip (K := hK) 18 (want_bool (K := hK) 6 17 false true rfl rfl (by decide) rfl false rfl) rfl (by decide) ?_
      clear hK; intro a hK
      refine kskip (K := hK) 19 (want_bool (K := hK) 6 17 false true rfl rfl (by decide) rfl false rfl) rfl (by decide) ?_
      clear hK; intro a hK
      refine kskip (K := hK) 20 (want_bool (K := hK) 6 17 false true rfl rfl (by decide) rfl false rfl) rfl (by decide) ?_
      clear hK; intro a hK
      refine kskip (K := hK) 21 (want_bool (K := hK) 6 17 false true rfl rfl (by decide) rfl false rfl) rfl (by decide) ?_
      clear hK; intro a hK
      refine kskip (K := hK) 22 (want_bool (K := hK) 6 17 false true rfl rfl (by decide) rfl false rfl) rfl (by decide) ?_
      clear hK; intro a hK
      refine kskip (K := hK) 23 (want_bool (K := hK) 6 17 false true rfl rfl (by decide) rfl false rfl) rfl (by decide) ?_
      clear hK; intro a hK
      refine kskip (K := hK) 24 (want_bool (K := hK) 6 17 false true rfl rfl (by decide) rfl false rfl) rfl (by decide) ?_
      clear hK; intro a hK
      refine kskip (K := hK) 25 (want_bool (K := hK) 6 17 false true rfl rfl (by decide) rfl false rfl) rfl (by decide) ?_
      clear hK; intro a hK
      refine kskip (K := hK) 26 (want_bool (K := hK) 6 17 false true rfl rfl (by decide) rfl false rfl) rfl (by decide) ?_
      clear hK; intro a hK
      refine kskip (K := hK) 27 (want_bool (K := hK) 6 17 false true rfl rfl (by decide) rfl false rfl) rfl (by decide) ?_
      clear hK; intro a hK
      refine kskip (K := hK) 28 (want_bool (K := hK) 6 17 false true rfl rfl (by decide) rfl false rfl) rfl (by decide) ?_
      clear hK; intro a hK
      refine kskip (K := hK) 29 (want_bool (K := hK) 6 17 false true rfl rfl (by decide) rfl false rfl) rfl (by decide) ?_
      clear hK; intro a hK
      refine kskip (K := hK) 30 (want_bool (K := hK) 6 17 false true rfl rfl (by decide) rfl false rfl) rfl (by decide) ?_
      clear hK; intro a hK
      refine kskip (K := hK) 31 (want_bool (K := hK) 6 17 false true rfl rfl (by decide) rfl false rfl) rfl (by decide) ?_
      clear hK; intro a hK
      refine kskip (K := hK) 32 (want_undef (K := hK) 20 31 true rfl rfl (by decide) rfl) rfl (by decide) ?_
      clear hK; intro a hK
      refine kskip (K := hK) 33 (want_undef (K := hK) 20 31 true rfl rfl (by decide) rfl) rfl (by decide) ?_
      clear hK; intro a hK
      refine kskip (K := hK) 34 (want_undef (K := hK) 20 31 true rfl rfl (by decide) rfl) rfl (by decide) ?_
      clear hK; intro a hK
      refine kskip (K := hK) 35 (want_undef (K := hK) 20 31 true rfl rfl (by decide) rfl) rfl (by decide) ?_
      clear hK; intro a hK
      refine kskip (K := hK) 36 (want_undef (K := hK) 20 31 true rfl rfl (by decide) rfl) rfl (by decide) ?_
      clear hK; intro a hK
      refine kskip (K := hK) 37 (want_bool (K := hK) 6 17 false true rfl rfl (by decide) rfl false rfl) rfl (by decide) ?_
      clear hK; intro a hK
      refine kq (K := hK) 38 (.bool true) (want_free rfl) rfl (by decide) (qa_of (ex_pick _ _ _ true _ rfl (hK.ev 17 _ rfl) rfl)) ?_
      clear hK; intro a hK
      refine kq (K := hK) 10 (.bool true) (want_free rfl) rfl (by decide) (qa_of (ex_assign _ _ rfl (hK.ev 38 _ rfl))) ?_
      clear hK; intro a hK
      refine wpQuiet_nil ?_
      exact hend _ hK.defers (hK.ev 10 _ rfl)
    · have d2 : decide (127 < fl) = false := decide_eq_false c2
      refine kq (K := hK) 11 (.int .u32 sz) (want_free rfl) rfl (by decide) (qa_of (ex_move _ _ rfl (hK.ev 3 _ rfl))) ?_
      clear hK; intro a hK
      refine kq (K := hK) 12 (.bool false) (want_free rfl) rfl (by decide) (qa_of (ex_gtr _ _ _ _ _ _ rfl (hK.ev 11 _ rfl) rfl d1)) ?_
      clear hK; intro a hK
      refine kq (K := hK) 13 (.bool false) (want_free rfl) rfl (by decide) (qa_of (ex_move _ _ rfl (hK.ev 12 _ rfl))) ?_
      clear hK; intro a hK
      refine kq (K := hK) 14 (.int .u32 fl) (want_bool (K := hK) 2 13 false false rfl rfl (by decide) rfl true rfl) rfl (by decide) (qa_of (ex_move _ _ rfl (hK.ev 4 _ rfl))) ?_
      clear hK; intro a hK
      refine kq (K := hK) 15 (.bool false) (want_bool (K := hK) 2 13 false false rfl rfl (by decide) rfl true rfl) rfl (by decide) (qa_of (ex_gtr _ _ _ _ _ _ rfl (hK.ev 14 _ rfl) rfl d2)) ?_
      clear hK; intro a hK
      refine kq (K := hK) 16 (.bool false) (want_free rfl) rfl (by decide) (qa_of (ex_pick _ _ _ false _ rfl (hK.ev 13 _ rfl) (hK.ev 15 _ rfl))) ?_
      clear hK; intro a hK
      refine kq (K := hK) 17 (.bool false) (want_free rfl) rfl (by decide) (qa_of (ex_move _ _ rfl (hK.ev 16 _ rfl))) ?_
      clear hK; intro a hK
      refine kq (K := hK) 18 (.agg (vals H)) (want_bool (K := hK) 6 17 false false rfl rfl (by decide) rfl true rfl) rfl (by decide) (qa_ex (fun w' hw' => ex_row 23 _ w.heap.size 23 _ 8 22 rfl (hK.ev 5 _ rfl) (kept_row hw' h5) Try.underlying23 (by rw [vals_size, hH]; exact info23))) ?_
      clear hK; intro a hK
      refine kq (K := hK) 19 (.agg (vals M)) (want_bool (K := hK) 6 17 false false rfl rfl (by decide) rfl true rfl) rfl (by decide) (qa_ex (fun w' hw' => ex_row 24 _ (w.heap.size + 1) 24 _ 16 22 rfl (hK.ev 6 _ rfl) (kept_row hw' h6) Try.underlying24 (by rw [vals_size, hM]; exact info24))) ?_
      clear hK; intro a hK
      refine kq (K := hK) 20 (.int .u64 ctr) (want_bool (K := hK) 6 17 false false rfl rfl (by decide) rfl true rfl) rfl (by decide) (qa_of (ex_move _ _ rfl (hK.ev 2 _ rfl))) ?_
      clear hK; intro a hK
      refine kq (K := hK) 21 (.int .u32 sz) (want_bool (K := hK) 6 17 false false rfl rfl (by decide) rfl true rfl) rfl (by decide) (qa_of (ex_move _ _ rfl (hK.ev 3 _ rfl))) ?_
      clear hK; intro a hK
      refine kq (K := hK) 22 (.int .u32 fl) (want_bool (K := hK) 6 17 false false rfl rfl (by decide) rfl true rfl) rfl (by decide) (qa_of (ex_move _ _ rfl (hK.ev 4 _ rfl))) ?_
      clear hK; intro a hK
      refine kq (K := hK) 23 (.agg (vals (comp H M ctr sz fl))) (want_bool (K := hK) 6 17 false false rfl rfl (by decide) rfl true rfl) rfl (by decide) (qa_call 4 _ _ #[.agg (vals H), .agg (vals M), .int .u64 ctr, .int .u32 sz, .int .u32 fl] _ rfl (by simp only [List.map_toArray, List.map_cons, List.map_nil, hK.ev 18 _ rfl, hK.ev 19 _ rfl, hK.ev 20 _ rfl, hK.ev 21 _ rfl, hK.ev 22 _ rfl]) (enter4 _) (fun w' hw' => (impl_any H M ctr sz fl w' hH hM).mono fun _ _ h => ⟨h.1, grown_trans hw' h.2⟩)) ?_
      clear hK; intro a hK
      refine kq (K := hK) 24 (.agg (vals H)) (want_bool (K := hK) 6 17 false false rfl rfl (by decide) rfl true rfl) rfl (by decide) (qa_ex (fun w' hw' => ex_row 23 _ w.heap.size 23 _ 8 22 rfl (hK.ev 5 _ rfl) (kept_row hw' h5) Try.underlying23 (by rw [vals_size, hH]; exact info23))) ?_
      clear hK; intro a hK
      refine kq (K := hK) 25 (.agg (vals M)) (want_bool (K := hK) 6 17 false false rfl rfl (by decide) rfl true rfl) rfl (by decide) (qa_ex (fun w' hw' => ex_row 24 _ (w.heap.size + 1) 24 _ 16 22 rfl (hK.ev 6 _ rfl) (kept_row hw' h6) Try.underlying24 (by rw [vals_size, hM]; exact info24))) ?_
      clear hK; intro a hK
      refine kq (K := hK) 26 (.int .u64 ctr) (want_bool (K := hK) 6 17 false false rfl rfl (by decide) rfl true rfl) rfl (by decide) (qa_of (ex_move _ _ rfl (hK.ev 2 _ rfl))) ?_
      clear hK; intro a hK
      refine kq (K := hK) 27 (.int .u32 sz) (want_bool (K := hK) 6 17 false false rfl rfl (by decide) rfl true rfl) rfl (by decide) (qa_of (ex_move _ _ rfl (hK.ev 3 _ rfl))) ?_
      clear hK; intro a hK
      refine kq (K := hK) 28 (.int .u32 fl) (want_bool (K := hK) 6 17 false false rfl rfl (by decide) rfl true rfl) rfl (by decide) (qa_of (ex_move _ _ rfl (hK.ev 4 _ rfl))) ?_
      clear hK; intro a hK
      refine kq (K := hK) 29 (.agg (vals (comp H M ctr sz fl))) (want_bool (K := hK) 6 17 false false rfl rfl (by decide) rfl true rfl) rfl (by decide) (qa_call 5 _ _ #[.agg (vals H), .agg (vals M), .int .u64 ctr, .int .u32 sz, .int .u32 fl] _ rfl (by simp only [List.map_toArray, List.map_cons, List.map_nil, hK.ev 24 _ rfl, hK.ev 25 _ rfl, hK.ev 26 _ rfl, hK.ev 27 _ rfl, hK.ev 28 _ rfl]) (enter5 _) (fun w' hw' => ((spec_comp H M ctr sz fl hM ▸ spec_any H M ctr sz fl w' hH hM : Calls Try.prog 5 _ w' _)).mono fun _ _ h => ⟨h.1, grown_trans hw' h.2⟩)) ?_
      clear hK; intro a hK
      refine kq (K := hK) 30 (.bool true) (want_bool (K := hK) 6 17 false false rfl rfl (by decide) rfl true rfl) rfl (by decide) (qa_of (ex_eql _ _ _ (comp_length H M ctr sz fl) rfl (hK.ev 23 _ rfl) (hK.ev 29 _ rfl))) ?_
      clear hK; intro a hK
      refine kq (K := hK) 31 (.bool true) (want_bool (K := hK) 6 17 false false rfl rfl (by decide) rfl true rfl) rfl (by decide) (qa_of (ex_move _ _ rfl (hK.ev 30 _ rfl))) ?_
      clear hK; intro a hK
      refine kq (K := hK) 32 (.agg (vals Z8)) (want_bool (K := hK) 20 31 true true rfl rfl (by decide) rfl true rfl) rfl (by decide) (qa_of (ex_build23 rfl)) ?_
      clear hK; intro a hK
      refine kq (K := hK) 33 (.agg (vals V00)) (want_bool (K := hK) 20 31 true true rfl rfl (by decide) rfl true rfl) rfl (by decide) (qa_of (ex_build24 rfl)) ?_
      clear hK; intro a hK
      refine kq (K := hK) 34 (.agg (vals (comp Z8 V00 0 64 11))) (want_bool (K := hK) 20 31 true true rfl rfl (by decide) rfl true rfl) rfl (by decide) (qa_call 4 _ _ #[.agg (vals Z8), .agg (vals V00), .int .u64 0, .int .u32 64, .int .u32 11] _ rfl (by simp only [List.map_toArray, List.map_cons, List.map_nil, hK.ev 32 _ rfl, hK.ev 33 _ rfl]; rfl) (enter4 _) (fun w' hw' => (impl_any Z8 V00 0 64 11 w' rfl rfl).mono fun _ _ h => ⟨h.1, grown_trans hw' h.2⟩)) ?_
      clear hK; intro a hK
      refine kq (K := hK) 35 (.agg zrow) (want_bool (K := hK) 20 31 true true rfl rfl (by decide) rfl true rfl) rfl (by decide) (qa_of (ex_build24 rfl)) ?_
      clear hK; intro a hK
      refine kq (K := hK) 36 (.bool true) (want_bool (K := hK) 20 31 true true rfl rfl (by decide) rfl true rfl) rfl (by decide) (qa_of (ex_neq _ _ rfl (hK.ev 34 _ rfl) (hK.ev 35 _ rfl))) ?_
      clear hK; intro a hK
      refine kq (K := hK) 37 (.bool true) (want_bool (K := hK) 6 17 false false rfl rfl (by decide) rfl true rfl) rfl (by decide) (qa_of (ex_pick _ _ _ true _ rfl (hK.ev 31 _ rfl) (hK.ev 36 _ rfl))) ?_
      clear hK; intro a hK
      refine kq (K := hK) 38 (.bool true) (want_free rfl) rfl (by decide) (qa_of (ex_pick _ _ _ false _ rfl (hK.ev 17 _ rfl) (hK.ev 37 _ rfl))) ?_
      clear hK; intro a hK
      refine kq (K := hK) 10 (.bool true) (want_free rfl) rfl (by decide) (qa_of (ex_assign _ _ rfl (hK.ev 38 _ rfl))) ?_
      clear hK; intro a hK
      refine wpQuiet_nil ?_
      exact hend _ hK.defers (hK.ev 10 _ rfl)
end
end Go.Proofs.Ytfaopfaghnefdaa
