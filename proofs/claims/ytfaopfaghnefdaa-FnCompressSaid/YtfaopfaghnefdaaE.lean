/-
  spec.Compress, called on any eight and sixteen words, answers 'specC' of them and writes nothing that was there. Condition: the lists have eight and sixteen words.
-/
import Derived.Test.YtfaopfaghnefdaaD
import Derived.LoopN
namespace Go.Proofs.Ytfaopfaghnefdaa
section
open Go.RowKit
/-! ### 'IV' -/
def IVL : List Int := [1779033703, 3144134277, 1013904242, 2773480762, 1359893119, 2600822924, 528734635, 1541459225]
set_option maxHeartbeats 1000000 in
theorem iv_any (w : World) : Calls Try.prog 7 #[] w fun e w' => e = .returned (.agg (vals IVL)) ∧ Grown w w' := by
  go_enter Try.func7, Try.ntmps7
  go_wp2
  exact bodyPost_ret (v := .agg (vals IVL)) (results_cell_row Try.results7 _ _ w.heap.size 23 _ (0, 0) _ rfl (heap_alloc_new w _) Try.underlying23 rfl info23) rfl ⟨rfl, (Grown.refl w).alloc _ _⟩

/-! ### a frame as a list of what is known of it -/
structure K5 (B : Nat → Option Value) (ex : List (Nat × Value)) (a : Act) : Prop where
  size : a.tmps.size = 141
  defers : a.defers = []
  base : ∀ (i : Nat) (v : Value), B i = some v → a.eval (.tmp i) = v
  ev : ∀ (i : Nat) (v : Value), ex.lookup i = some v → a.eval (.tmp i) = v
theorem K5.put {B : Nat → Option Value} {ex : List (Nat × Value)} {a : Act} (h : K5 B ex a) (d : Nat) (v : Value) (hd : d < 141) (hB : B d = none) : K5 B ((d, v) :: ex) (a.put (some d) v) := by
  refine ⟨(put_size a d v).trans h.size, h.defers, fun i u hi => ?_, fun i u hi => ?_⟩
  · rw [eval_other a d i v (fun e => by subst e; rw [hB] at hi; cases hi)]
    exact h.base i u hi
  · by_cases e : i = d
    · subst e
      rw [eval_same a i v (by rw [h.size]; exact hd)]
      simpa using hi
    · rw [eval_other a d i v e]
      refine h.ev i u ?_
      rw [List.lookup_cons] at hi
      have : (i == d) = false := by simpa using e
      rw [this] at hi
      exact hi
theorem K5.to {B : Nat → Option Value} {ex : List (Nat × Value)} {a : Act} (h : K5 B ex a) (ex' : List (Nat × Value)) (hh : ∀ (i : Nat) (v : Value), ex'.lookup i = some v → a.eval (.tmp i) = v) : K5 B ex' a :=
  ⟨h.size, h.defers, h.base, hh⟩
theorem K5.nil {B : Nat → Option Value} {ex : List (Nat × Value)} {a : Act} (h : K5 B ex a) : K5 B [] a := h.to [] (fun i v hi => by cases hi)
theorem K5.one {B : Nat → Option Value} {ex : List (Nat × Value)} {a : Act} (h : K5 B ex a) (d : Nat) (v : Value) (hv : ex.lookup d = some v) : K5 B [(d, v)] a :=
  h.to _ fun i u hi => by
    by_cases e : i = d
    · subst e
      have : v = u := by simpa using hi
      rw [← this]; exact h.ev i v hv
    · rw [List.lookup_cons, show (i == d) = false by simpa using e] at hi
      cases hi
theorem K5.two {B : Nat → Option Value} {ex : List (Nat × Value)} {a : Act} (h : K5 B ex a) (d : Nat) (v : Value) (hv : ex.lookup d = some v) (d' : Nat) (v' : Value) (hv' : ex.lookup d' = some v') : K5 B [(d, v), (d', v')] a :=
  h.to _ fun i u hi => by
    by_cases e : i = d
    · subst e
      have : v = u := by simpa using hi
      rw [← this]; exact h.ev i v hv
    · rw [List.lookup_cons, show (i == d) = false by simpa using e] at hi
      by_cases e' : i = d'
      · subst e'
        have : v' = u := by simpa using hi
        rw [← this]; exact h.ev i v' hv'
      · rw [List.lookup_cons, show (i == d') = false by simpa using e'] at hi
        cases hi

section
variable {P : Program} {ops : Array Oper} {Q : Exit → Act → World → Prop} {a : Act} {o : Oper} {rest : List Oper} {w : World} {B : Nat → Option Value} {ex : List (Nat × Value)}
/-- one operation of a region that draws nothing -/
theorem kl {K : K5 B ex a} (d : Nat) (v : Value) (hg : o.guard = none) (ho : o.dst = some d) (hd : d < 141) (hB : B d = none) (hv : ∀ w, (execOp a.eval o).run P w = .ok (.value v) w)
    (h : ∀ a', K5 B ((d, v) :: ex) a' → wpList P ops Q rest a' w) : wpList P ops Q (o :: rest) a w :=
  wpList_plain hg fun _ hK => by
    unfold Oper.wp
    rw [hv w]
    show _
    refine hK _ _ ?_
    rw [ho]
    exact h _ (K.put d v hd hB)
/-- .. whose value hangs on the world -/
theorem klw {K : K5 B ex a} (d : Nat) (v : Value) (hg : o.guard = none) (ho : o.dst = some d) (hd : d < 141) (hB : B d = none) (hv : (execOp a.eval o).run P w = .ok (.value v) w)
    (h : ∀ a', K5 B ((d, v) :: ex) a' → wpList P ops Q rest a' w) : wpList P ops Q (o :: rest) a w :=
  wpList_plain hg fun _ hK => by
    unfold Oper.wp
    rw [hv]
    refine hK _ _ ?_
    rw [ho]
    exact h _ (K.put d v hd hB)
/-- .. in a region that draws its order and whose end is forced -/
theorem ks {K : K5 B ex a} (d : Nat) (v : Value) (hg : o.guard = none) (ho : o.dst = some d) (hd : d < 141) (hB : B d = none) (hv : (execOp a.eval o).run P w = .ok (.value v) w)
    (h : ∀ a', K5 B ((d, v) :: ex) a' → wpStill P ops w (fun a' => Q .normal a' w) rest a') : wpStill P ops w (fun a' => Q .normal a' w) (o :: rest) a := by
  unfold wpStill
  rw [if_pos (by simp [Region.wanted, hg])]
  unfold Oper.still
  rw [hv]
  refine ⟨rfl, ?_⟩
  rw [ho]
  exact h _ (K.put d v hd hB)
end

/-! ### numbers of Go's int -/
theorem i64_same (r : Nat) (h : r < 4611686018427387904) : IntKind.i64.wrap (r : Int) = (r : Int) := by rw [IntKind.wrap_i64]; omega
section
variable {a : Act} {o : Oper} {w : World}
theorem ex_lssN (x y : Operand) (m n : Nat) (t : TypeId) (h : o.op = .binOp .lss 3 x y t) (hx : a.eval x = .int .i64 (m : Int)) (hy : a.eval y = .int .i64 (n : Int)) :
    ∀ w, (execOp a.eval o).run Try.prog w = .ok (.value (.bool (decide (m < n)))) w := by
  intro w; unfold execOp; rw [h]
  dsimp only
  rw [hx, hy]
  simp [go_sem]
theorem ex_addN (x y : Operand) (m n : Nat) (t : TypeId) (h : o.op = .binOp .add 3 x y t) (hx : a.eval x = .int .i64 (m : Int)) (hy : a.eval y = .int .i64 (n : Int)) (hb : m + n < 4611686018427387904) :
    ∀ w, (execOp a.eval o).run Try.prog w = .ok (.value (.int .i64 ((m + n : Nat) : Int))) w := by
  intro w; unfold execOp; rw [h]
  dsimp only
  rw [hx, hy]
  have e := i64_same (m + n) hb
  rw [Int.natCast_add] at e
  rw [Int.natCast_add]
  simp [go_sem, e]
theorem ex_mulN (x y : Operand) (m n : Nat) (t : TypeId) (h : o.op = .binOp .mul 3 x y t) (hx : a.eval x = .int .i64 (m : Int)) (hy : a.eval y = .int .i64 (n : Int)) (hb : m * n < 4611686018427387904) :
    ∀ w, (execOp a.eval o).run Try.prog w = .ok (.value (.int .i64 ((m * n : Nat) : Int))) w := by
  intro w; unfold execOp; rw [h]
  dsimp only
  rw [hx, hy]
  have e := i64_same (m * n) hb
  rw [Int.natCast_mul] at e
  rw [Int.natCast_mul]
  simp [go_sem, e]
theorem ex_remN (x y : Operand) (m : Nat) (t : TypeId) (h : o.op = .binOp .rem 3 x y t) (hx : a.eval x = .int .i64 (m : Int)) (hy : a.eval y = .int .i64 ((4 : Nat) : Int)) (hb : m < 4611686018427387904) :
    ∀ w, (execOp a.eval o).run Try.prog w = .ok (.value (.int .i64 ((m % 4 : Nat) : Int))) w := by
  intro w; unfold execOp; rw [h]
  dsimp only
  rw [hx, hy]
  simp [go_sem]
  exact Int.tmod_eq_emod_of_nonneg (by omega)
theorem run_index23 (m p : Nat) (hp : p < 8) (w : World) : (Instr.indexAt 23 (.pointer (some ⟨m, 0, none⟩)) (.int .i64 (p : Int))).run Try.prog w = .ok (.pointer (some ⟨m, p, none⟩)) w := by
  simp [go_sem]
  omega
theorem ex_index8 (x y : Operand) (m p : Nat) (h : o.op = .indexAddr 23 x y) (hp : p < 8) (hx : a.eval x = .pointer (some ⟨m, 0, none⟩)) (hy : a.eval y = .int .i64 (p : Int)) :
    ∀ w, (execOp a.eval o).run Try.prog w = .ok (.value (.pointer (some ⟨m, p, none⟩))) w := by
  intro w; unfold execOp; rw [h]
  show (Sem.run Try.prog ((do pure (Next.value (← Instr.indexAt 23 (a.eval x) (a.eval y)))) : Sem Next) w) = _
  rw [hx, hy, Sem.run_bind, run_index23 m p hp w]
  rfl
theorem ex_load (x : Operand) (p : Addr) (n : Int) (h : o.op = .load 22 x) (hx : a.eval x = .pointer (some p)) (hc : w.cell? p = some (.int .u32 n)) : (execOp a.eval o).run Try.prog w = .ok (.value (.int .u32 n)) w := by
  unfold execOp; rw [h]
  dsimp only
  rw [hx]
  simp [go_sem, hc]
/-- a whole row read -/
theorem ex_row (ty : TypeId) (x : Operand) (g : Nat) (t : TypeId) (cs : Array Value) (n : Nat) (e : TypeId) (h : o.op = .load ty x) (hx : a.eval x = .pointer (some ⟨g, 0, none⟩)) (hg : w.heap[g]? = some (.cells cs t (0, 0)))
    (hu : Try.prog.underlying ty = some (.array n e)) (hi : (Try.prog.info? ty).map (·.size) = some cs.size) : (execOp a.eval o).run Try.prog w = .ok (.value (.agg cs)) w := by
  unfold execOp
  simp only [h, hx, Instr.loadAt, Instr.sureAddr, Sem.run_bind, Sem.run_pure, Result.andThen_ok, run_loadVar_row w g t ty cs (0, 0) _ hg hu rfl hi]
def PL : List Nat := [2, 6, 3, 10, 7, 0, 4, 13, 1, 11, 12, 5, 9, 14, 15, 8]
def pvals : Array Value := (PL.map fun n : Nat => Value.int .i64 (n : Int)).toArray
theorem run_iv : ∀ k : Nat, k < 8 → ∀ w, (Instr.index 23 (.agg (vals IVL)) (.int .i64 (k : Int))).run Try.prog w = .ok (.int .u32 (at_ IVL k)) w
  | 0, _, _ => by as_aux_lemma => kernel_rfl
  | 1, _, _ => by as_aux_lemma => kernel_rfl
  | 2, _, _ => by as_aux_lemma => kernel_rfl
  | 3, _, _ => by as_aux_lemma => kernel_rfl
  | 4, _, _ => by as_aux_lemma => kernel_rfl
  | 5, _, _ => by as_aux_lemma => kernel_rfl
  | 6, _, _ => by as_aux_lemma => kernel_rfl
  | 7, _, _ => by as_aux_lemma => kernel_rfl
  | _ + 8, h, _ => absurd h (by omega)
theorem run_pl : ∀ k : Nat, k < 16 → ∀ w, (Instr.index 32 (.agg pvals) (.int .i64 (k : Int))).run Try.prog w = .ok (.int .i64 ((PL.getD k 0 : Nat) : Int)) w
  | 0, _, _ => by as_aux_lemma => kernel_rfl
  | 1, _, _ => by as_aux_lemma => kernel_rfl
  | 2, _, _ => by as_aux_lemma => kernel_rfl
  | 3, _, _ => by as_aux_lemma => kernel_rfl
  | 4, _, _ => by as_aux_lemma => kernel_rfl
  | 5, _, _ => by as_aux_lemma => kernel_rfl
  | 6, _, _ => by as_aux_lemma => kernel_rfl
  | 7, _, _ => by as_aux_lemma => kernel_rfl
  | 8, _, _ => by as_aux_lemma => kernel_rfl
  | 9, _, _ => by as_aux_lemma => kernel_rfl
  | 10, _, _ => by as_aux_lemma => kernel_rfl
  | 11, _, _ => by as_aux_lemma => kernel_rfl
  | 12, _, _ => by as_aux_lemma => kernel_rfl
  | 13, _, _ => by as_aux_lemma => kernel_rfl
  | 14, _, _ => by as_aux_lemma => kernel_rfl
  | 15, _, _ => by as_aux_lemma => kernel_rfl
  | _ + 16, h, _ => absurd h (by omega)
theorem pl_lt : ∀ k, k < 16 → PL.getD k 0 < 16 := by decide
theorem ex_iv (x y : Operand) (k : Nat) (h : o.op = .index 23 x y) (hk : k < 8) (hx : a.eval x = .agg (vals IVL)) (hy : a.eval y = .int .i64 (k : Int)) : ∀ w, (execOp a.eval o).run Try.prog w = .ok (.value (.int .u32 (at_ IVL k))) w := by
  intro w; unfold execOp; rw [h]
  show (Sem.run Try.prog ((do pure (Next.value (← Instr.index 23 (a.eval x) (a.eval y)))) : Sem Next) w) = _
  rw [hx, hy, Sem.run_bind, run_iv k hk w]
  rfl
theorem ex_pl (x y : Operand) (k : Nat) (h : o.op = .index 32 x y) (hk : k < 16) (hx : a.eval x = .agg pvals) (hy : a.eval y = .int .i64 (k : Int)) : ∀ w, (execOp a.eval o).run Try.prog w = .ok (.value (.int .i64 ((PL.getD k 0 : Nat) : Int))) w := by
  intro w; unfold execOp; rw [h]
  show (Sem.run Try.prog ((do pure (Next.value (← Instr.index 32 (a.eval x) (a.eval y)))) : Sem Next) w) = _
  rw [hx, hy, Sem.run_bind, run_pl k hk w]
  rfl
end
/-- a loop that goes a known number of rounds -/
theorem wp_count {P : Program} {c : Code} {Q : Exit → Act → World → Prop} {a : Act} {w : World} (n : Nat) (I : Nat → Act → World → Prop) (h0 : I 0 a w)
    (round : ∀ k, k < n → ∀ a w, I k a w → c.wp P (Exit.then (fun a' w' => I (k + 1) a' w') Q) a w) (last : ∀ a w, I n a w → c.wp P (Exit.then (fun _ _ => False) Q) a w) : (Code.loop c).wp P Q a w := by
  refine wp_loop_rounds (n + 1) ?_
  have key : ∀ j, j ≤ n → ∀ a w, I (n - j) a w → Code.rounds P c Q (j + 1) a w := by
    intro j
    induction j with
    | zero =>
      intro _ a w h
      rw [rounds_succ]
      refine wp_mono (last a w h) ?_
      intro e a w h
      cases e <;> first | exact h | exact h.elim
    | succ j ih =>
      intro hj a w h
      rw [rounds_succ]
      refine wp_mono (round (n - (j + 1)) (by omega) a w h) ?_
      intro e a w h
      cases e with
      | normal => exact ih (by omega) a w (by rw [show n - j = n - (j + 1) + 1 by omega]; exact h)
      | _ => exact h
  exact key n (Nat.le_refl n) a w (by rw [Nat.sub_self]; exact h0)
end
section
open Go.RowKit
/-! ### the reference, in plain words -/
def V00 : List Int := [0, 0, 0, 0, 0, 0, 0, 0, 0, 0, 0, 0, 0, 0, 0, 0]
def v0 (H : List Int) : Nat → List Int
  | 0 => V00
  | k + 1 => if k < 4 then ((v0 H k).set k (at_ H k)).set (8 + k) (at_ IVL k) else (v0 H k).set k (at_ H k)
def v1 (H : List Int) (ctr bl fl : Int) : List Int :=
  ((((v0 H 8).set 12 (IntKind.u32.wrap ctr)).set 13 (IntKind.u32.wrap (ctr / 4294967296))).set 14 bl).set 15 fl
def colS (V M : List Int) : Nat → List Int
  | 0 => V
  | k + 1 => gs (colS V M k) k (4 + k) (8 + k) (12 + k) (at_ M (2 * k)) (at_ M (2 * k + 1))
def diagS (V M : List Int) : Nat → List Int
  | 0 => V
  | k + 1 => gs (diagS V M k) k (4 + (k + 1) % 4) (8 + (k + 2) % 4) (12 + (k + 3) % 4) (at_ M (8 + 2 * k)) (at_ M (9 + 2 * k))
def permS (M : List Int) : Nat → List Int
  | 0 => M
  | k + 1 => (permS M k).set k (at_ M (PL.getD k 0))
def stepV (V M : List Int) : List Int := diagS (colS V M 4) M 4
def stepM (M : List Int) : List Int := permS M 16
def rV (V M : List Int) : Nat → List Int × List Int
  | 0 => (V, M)
  | r + 1 => (stepV (rV V M r).1 (rV V M r).2, stepM (rV V M r).2)
def finS (H V : List Int) : Nat → List Int
  | 0 => V
  | k + 1 => ((finS H V k).set k (xr (at_ (finS H V k) k) (at_ (finS H V k) (8 + k)))).set (8 + k) (xr (at_ ((finS H V k).set k (xr (at_ (finS H V k) k) (at_ (finS H V k) (8 + k)))) (8 + k)) (at_ H k))
/-- what the reference answers -/
def specC (H M : List Int) (ctr bl fl : Int) : List Int := finS H (rV (v1 H ctr bl fl) M 7).1 8
theorem v0_length (H : List Int) : ∀ k, (v0 H k).length = 16
  | 0 => rfl
  | k + 1 => by unfold v0; split <;> simp [v0_length H k]
theorem v1_length (H : List Int) (ctr bl fl : Int) : (v1 H ctr bl fl).length = 16 := by simp [v1, v0_length]
theorem colS_length (V M : List Int) (h : V.length = 16) : ∀ k, (colS V M k).length = 16
  | 0 => h
  | k + 1 => by unfold colS; rw [gs_length]; exact colS_length V M h k
theorem diagS_length (V M : List Int) (h : V.length = 16) : ∀ k, (diagS V M k).length = 16
  | 0 => h
  | k + 1 => by unfold diagS; rw [gs_length]; exact diagS_length V M h k
theorem permS_length (M : List Int) (h : M.length = 16) : ∀ k, (permS M k).length = 16
  | 0 => h
  | k + 1 => by unfold permS; rw [List.length_set]; exact permS_length M h k
theorem stepV_length (V M : List Int) (h : V.length = 16) : (stepV V M).length = 16 := by
  unfold stepV
  exact diagS_length _ _ (colS_length _ _ h _) _
theorem stepM_length (M : List Int) (h : M.length = 16) : (stepM M).length = 16 := permS_length M h 16
theorem rV_length (V M : List Int) (h : V.length = 16) (h' : M.length = 16) (r : Nat) : (rV V M r).1.length = 16 ∧ (rV V M r).2.length = 16 := by
  induction r with
  | zero => exact ⟨h, h'⟩
  | succ r ih =>
    rw [show rV V M (r + 1) = (stepV (rV V M r).1 (rV V M r).2, stepM (rV V M r).2) from rfl]
    dsimp only
    exact ⟨stepV_length _ _ ih.1, stepM_length _ ih.2⟩
theorem finS_length (H V : List Int) (h : V.length = 16) : ∀ k, (finS H V k).length = 16
  | 0 => h
  | k + 1 => by unfold finS; rw [List.length_set, List.length_set]; exact finS_length H V h k

/-! ### the world in a call of the reference: four blocks of its own -/
structure Wd (w0 W : World) (H V M : List Int) : Prop where
  grown : Grown w0 W
  hh : W.heap[w0.heap.size]? = some (.cells (vals H) 23 (0, 0))
  hm : W.heap[w0.heap.size + 1]? = some (.cells (vals M) 24 (0, 0))
  hr : W.heap[w0.heap.size + 2]? = some (.cells zrow 24 (0, 0))
  hv : W.heap[w0.heap.size + 3]? = some (.cells (vals V) 24 (0, 0))
  lh : H.length = 8
  lm : M.length = 16
  lv : V.length = 16
section
variable {w0 W : World} {H V M : List Int}
theorem Wd.drewN (h : Wd w0 W H V M) (n : Nat) : Wd w0 (W.drewN n) H V M := ⟨h.grown, h.hh, h.hm, h.hr, h.hv, h.lh, h.lm, h.lv⟩
theorem Wd.setV (h : Wd w0 W H V M) (V' : List Int) (hl : V'.length = 16) : Wd w0 (W.setRow (w0.heap.size + 3) (vals V')) H V' M :=
  ⟨grown_setRow h.grown (by omega) _, (setRow_other _ _ _ _ (by omega)).trans h.hh, (setRow_other _ _ _ _ (by omega)).trans h.hm, (setRow_other _ _ _ _ (by omega)).trans h.hr, setRow_heap _ _ _ _ _ _ h.hv, h.lh, h.lm, hl⟩
theorem Wd.setM (h : Wd w0 W H V M) (M' : List Int) (hl : M'.length = 16) : Wd w0 (W.setRow (w0.heap.size + 1) (vals M')) H V M' :=
  ⟨grown_setRow h.grown (by omega) _, (setRow_other _ _ _ _ (by omega)).trans h.hh, setRow_heap _ _ _ _ _ _ h.hm, (setRow_other _ _ _ _ (by omega)).trans h.hr, (setRow_other _ _ _ _ (by omega)).trans h.hv, h.lh, hl, h.lv⟩
theorem Wd.more (h : Wd w0 W H V M) {W' : World} (hg : Grown W W') : Wd w0 W' H V M :=
  ⟨grown_trans h.grown hg, kept_row hg h.hh, kept_row hg h.hm, kept_row hg h.hr, kept_row hg h.hv, h.lh, h.lm, h.lv⟩
theorem Wd.cellH (h : Wd w0 W H V M) {i : Nat} (hi : i < 8) : W.cell? ⟨w0.heap.size, i, none⟩ = some (.int .u32 (at_ H i)) := (cell_of_row _ _ i _ _ _ h.hh).trans (vals_get H i (by rw [h.lh]; exact hi))
theorem Wd.cellM (h : Wd w0 W H V M) {i : Nat} (hi : i < 16) : W.cell? ⟨w0.heap.size + 1, i, none⟩ = some (.int .u32 (at_ M i)) := (cell_of_row _ _ i _ _ _ h.hm).trans (vals_get M i (by rw [h.lm]; exact hi))
theorem Wd.cellV (h : Wd w0 W H V M) {i : Nat} (hi : i < 16) : W.cell? ⟨w0.heap.size + 3, i, none⟩ = some (.int .u32 (at_ V i)) := (cell_of_row _ _ i _ _ _ h.hv).trans (vals_get V i (by rw [h.lv]; exact hi))
end
/-- the slots that hold one value throughout -/
def b5 (n : Nat) (ctr bl fl : Int) : Nat → Option Value
  | 2 => some (.int .u64 ctr)
  | 3 => some (.int .u32 bl)
  | 4 => some (.int .u32 fl)
  | 5 => some (.pointer (some ⟨n, 0, none⟩))
  | 6 => some (.pointer (some ⟨n + 1, 0, none⟩))
  | 10 => some (.pointer (some ⟨n + 2, 0, none⟩))
  | 11 => some (.pointer (some ⟨n + 3, 0, none⟩))
  | _ => none
def Sub (ex : List (Nat × Value)) : List (Nat × Value) → Prop
  | [] => True
  | p :: ps => ex.lookup p.1 = some p.2 ∧ Sub ex ps
theorem K5.sub {B : Nat → Option Value} {ex : List (Nat × Value)} {a : Act} (h : K5 B ex a) : ∀ ex', Sub ex ex' → K5 B ex' a
  | [], _ => h.nil
  | p :: ps, hs => by
    refine h.to _ fun i v hi => ?_
    rw [List.lookup_cons] at hi
    by_cases e : i = p.1
    · subst e
      have : p.2 = v := by simpa using hi
      rw [← this]; exact h.ev _ _ hs.1
    · rw [show (i == p.1) = false by simpa using e] at hi
      exact (K5.sub h ps hs.2).ev i v hi
section
variable {ops : Array Oper} {Q : Exit → Act → World → Prop} {a : Act} {o : Oper} {rest : List Oper} {w w0 : World} {B : Nat → Option Value} {ex : List (Nat × Value)} {H V M : List Int}
theorem kstoreV {K : K5 B ex a} (hW : Wd w0 w H V M) (i : Nat) (r s : Nat) (x : Int) (hg : o.guard = none) (ho : o.op = .store 22 (.tmp r) (.tmp s)) (hd : o.dst = none) (hi : i < 16)
    (hr : ex.lookup r = some (.pointer (some ⟨w0.heap.size + 3, i, none⟩))) (hs : ex.lookup s = some (.int .u32 x)) (h : ∀ w', Wd w0 w' H (V.set i x) M → wpList Try.prog ops Q rest a w') : wpList Try.prog ops Q (o :: rest) a w := by
  refine wl_store _ _ _ _ _ hg ho hd (K.ev r _ hr) (K.ev s _ hs) (hW.cellV hi) (frozen_of_row w _ i _ _ hW.hv) ?_
  rw [setCell_eq_setRow w _ i _ _ (0, 0) _ hW.hv, vals_set]
  exact h _ (hW.setV _ (by rw [List.length_set]; exact hW.lv))
theorem kstoreM {K : K5 B ex a} (hW : Wd w0 w H V M) (i : Nat) (r s : Nat) (x : Int) (hg : o.guard = none) (ho : o.op = .store 22 (.tmp r) (.tmp s)) (hd : o.dst = none) (hi : i < 16)
    (hr : ex.lookup r = some (.pointer (some ⟨w0.heap.size + 1, i, none⟩))) (hs : ex.lookup s = some (.int .u32 x)) (h : wpList Try.prog ops Q rest a (w.setRow (w0.heap.size + 1) (vals (M.set i x)))) : wpList Try.prog ops Q (o :: rest) a w := by
  refine wl_store _ _ _ _ _ hg ho hd (K.ev r _ hr) (K.ev s _ hs) (hW.cellM hi) (frozen_of_row w _ i _ _ hW.hm) ?_
  rw [setCell_eq_setRow w _ i _ _ (0, 0) _ hW.hm, vals_set]
  exact h
theorem klW {P : Program} {K : K5 B ex a} (d : Nat) (v : Value) (w' : World) (hg : o.guard = none) (ho : o.dst = some d) (hd : d < 141) (hB : B d = none) (hv : (execOp a.eval o).run P w = .ok (.value v) w')
    (h : ∀ a', K5 B ((d, v) :: ex) a' → wpList P ops Q rest a' w') : wpList P ops Q (o :: rest) a w :=
  wpList_plain hg fun _ hK => by
    unfold Oper.wp
    rw [hv]
    refine hK _ _ ?_
    rw [ho]
    exact h _ (K.put d v hd hB)
theorem ksq {P : Program} {K : K5 B ex a} {Qs : Act → Prop} (d : Nat) (v : Value) (hg : o.guard = none) (ho : o.dst = some d) (hd : d < 141) (hB : B d = none) (hv : (execOp a.eval o).run P w = .ok (.value v) w)
    (h : ∀ a', K5 B ((d, v) :: ex) a' → wpStill P ops w Qs rest a') : wpStill P ops w Qs (o :: rest) a := by
  unfold wpStill
  rw [if_pos (by simp [Region.wanted, hg])]
  unfold Oper.still
  rw [hv]
  refine ⟨rfl, ?_⟩
  rw [ho]
  exact h _ (K.put d v hd hB)
theorem enter8 (args : Array Value) (w : World) : (callFunc 8 args).run Try.prog w = .ok (.enter 8 args) w := by
  simp [go_sem]
theorem enter7 (args : Array Value) (w : World) : (callFunc 7 args).run Try.prog w = .ok (.enter 7 args) w := by
  simp [go_sem]
/-- a call of 'stir' -/
theorem kstir {K : K5 B ex a} (hW : Wd w0 w H V M) (d s1 s2 s3 s4 s5 s6 i j k l : Nat) (x y : Int) (ts : Array TypeId) (hg : o.guard = none)
    (ho : o.op = .call { callee := .value (.func 8), args := #[.tmp 11, .tmp s1, .tmp s2, .tmp s3, .tmp s4, .tmp s5, .tmp s6], argTypes := ts }) (hd : o.dst = some d) (hd1 : d < 141) (hB : B d = none)
    (h11 : B 11 = some (.pointer (some ⟨w0.heap.size + 3, 0, none⟩)))
    (e1 : ex.lookup s1 = some (.int .i64 (i : Int))) (e2 : ex.lookup s2 = some (.int .i64 (j : Int))) (e3 : ex.lookup s3 = some (.int .i64 (k : Int))) (e4 : ex.lookup s4 = some (.int .i64 (l : Int)))
    (e5 : ex.lookup s5 = some (.int .u32 x)) (e6 : ex.lookup s6 = some (.int .u32 y)) (hi : i < 16) (hj : j < 16) (hk : k < 16) (hl : l < 16) (hij : i ≠ j) (hik : i ≠ k) (hil : i ≠ l) (hjk : j ≠ k) (hjl : j ≠ l) (hkl : k ≠ l)
    (h : ∀ a' w', K5 B ((d, .tuple #[]) :: ex) a' → Wd w0 w' H (gs V i j k l x y) M → wpList Try.prog ops Q rest a' w') : wpList Try.prog ops Q (o :: rest) a w :=
  wpList_plain hg fun _ hK => by
    have hS : Sees 141 a (fun n => a.eval (.tmp n)) := ⟨K.size, K.defers, fun _ _ => rfl⟩
    unfold Oper.wp execOp
    rw [ho]
    have h2 := enter8 #[.pointer (some ⟨w0.heap.size + 3, 0, none⟩), .int .i64 (i : Int), .int .i64 (j : Int), .int .i64 (k : Int), .int .i64 (l : Int), .int .u32 x, .int .u32 y] w
    have hx : (#[Operand.tmp 11, .tmp s1, .tmp s2, .tmp s3, .tmp s4, .tmp s5, .tmp s6] : Array Operand).map a.eval = #[.pointer (some ⟨w0.heap.size + 3, 0, none⟩), .int .i64 (i : Int), .int .i64 (j : Int), .int .i64 (k : Int), .int .i64 (l : Int), .int .u32 x, .int .u32 y] := by
      simp only [List.map_toArray, List.map_cons, List.map_nil, K.base 11 _ h11, K.ev s1 _ e1, K.ev s2 _ e2, K.ev s3 _ e3, K.ev s4 _ e4, K.ev s5 _ e5, K.ev s6 _ e6]
    dsimp only
    simp only [resolve, hx, Deferred.ofValue, Act.eval, invoke, Sem.run_bind, Sem.run_pure, Result.andThen_ok, Array.append_empty, Array.empty_append, h2]
    refine (stir_any (w0.heap.size + 3) 24 i j k l V x y w hW.lv hi hj hk hl hij hik hil hjk hjl hkl hW.hv).mono ?_
    rintro e w'' ⟨rfl, n, rfl⟩
    show _
    refine hK _ _ ?_
    rw [hd]
    exact h _ _ (K.put d _ hd1 hB) ((hW.setV _ (by rw [gs_length]; exact hW.lv)).drewN n)
end
section
variable {a : Act} {o : Oper} {w : World}
theorem ex_lssT (x y : Operand) (m n : Nat) (t : TypeId) (h : o.op = .binOp .lss 3 x y t) (hx : a.eval x = .int .i64 (m : Int)) (hy : a.eval y = .int .i64 (n : Int)) (hmn : m < n) :
    ∀ w, (execOp a.eval o).run Try.prog w = .ok (.value (.bool true)) w := by
  intro w; rw [ex_lssN x y m n t h hx hy w, decide_eq_true hmn]
theorem ex_lssF (x y : Operand) (m n : Nat) (t : TypeId) (h : o.op = .binOp .lss 3 x y t) (hx : a.eval x = .int .i64 (m : Int)) (hy : a.eval y = .int .i64 (n : Int)) (hmn : ¬ m < n) :
    ∀ w, (execOp a.eval o).run Try.prog w = .ok (.value (.bool false)) w := by
  intro w; rw [ex_lssN x y m n t h hx hy w, decide_eq_false hmn]
theorem ex_conv (x : Operand) (n : Int) (h : o.op = .convert 25 22 x) (hx : a.eval x = .int .u64 n) : ∀ w, (execOp a.eval o).run Try.prog w = .ok (.value (.int .u32 (IntKind.u32.wrap n))) w := by
  intro w; unfold execOp; rw [h]
  dsimp only
  rw [hx]
  simp [go_sem]
theorem ex_shr32 (x y : Operand) (n : Int) (t : TypeId) (h : o.op = .binOp .shr 25 x y t) (hx : a.eval x = .int .u64 n) (hy : a.eval y = .int .u64 32) : ∀ w, (execOp a.eval o).run Try.prog w = .ok (.value (.int .u64 (n / 4294967296))) w := by
  intro w; unfold execOp; rw [h]
  dsimp only
  rw [hx, hy]
  simp [go_sem]
theorem ex_assign (x : Operand) (v : Value) {P : Program} (h : o.op = .assign x) (hx : a.eval x = v) : ∀ w, (execOp a.eval o).run P w = .ok (.value v) w := by
  intro w; rw [BigFrame.run_assign x h, hx]
theorem ex_box (ty : TypeId) (x : Operand) (xs : Array Value) {P : Program} (h : o.op = .box ty x) (hx : a.eval x = .agg xs) : ∀ w, (execOp a.eval o).run P w = .ok (.value (.pointer (some ⟨w.heap.size, 0, none⟩))) (w.alloc (.cells xs ty)) := by
  intro w; unfold execOp; rw [h]
  dsimp only
  rw [hx]
  simp [go_sem]
theorem run_alloc24 (w : World) : (Instr.alloc 24 true (.tuple #[])).run Try.prog w = .ok (.pointer (some ⟨w.heap.size, 0, none⟩)) (w.alloc (.cells zrow 24)) := by
  simp [go_sem]
theorem ex_alloc24 (h : o.op = .alloc 24) : ∀ w, (execOp a.eval o).run Try.prog w = .ok (.value (.pointer (some ⟨w.heap.size, 0, none⟩))) (w.alloc (.cells zrow 24)) := by
  intro w; unfold execOp; rw [h]
  show (Sem.run Try.prog ((do pure (Next.value (← Instr.alloc 24 true (.tuple #[])))) : Sem Next) w) = _
  rw [Sem.run_bind, run_alloc24 w]
  rfl
theorem run_build24 (w : World) : (Instr.build 24 #[]).run Try.prog w = .ok (.agg zrow) w := by kernel_rfl
theorem ex_build24 (h : o.op = .build 24 #[]) : ∀ w, (execOp a.eval o).run Try.prog w = .ok (.value (.agg zrow)) w := by
  intro w; unfold execOp; rw [h]
  change (Sem.run Try.prog ((do pure (Next.value (← Instr.build 24 ((#[] : Array (Nat × Operand)).map fun (i, x) => (i, a.eval x))))) : Sem Next) w) = _
  simp only [List.map_toArray, List.map_nil, Sem.run_bind]
  rw [run_build24 w]
  rfl
end
theorem inBlock_exit {id : Nat} {Q : Exit → Act → World → Prop} {a : Act} {w : World} (h : Q .normal a w) : Exit.inBlock id Q (.exit id) a w := by
  simp only [Exit.inBlock, if_true]; exact h
end
section
open Go.RowKit
set_option linter.unusedVariables false
theorem then_exit {N : Act → World → Prop} {Q : Exit → Act → World → Prop} {id : Nat} {a : Act} {w : World} (h : Q (.exit id) a w) : Exit.then N Q (.exit id) a w := h
/-- a call under a contract -/
theorem kcall {P : Program} {ops : Array Oper} {Q : Exit → Act → World → Prop} {a : Act} {o : Oper} {rest : List Oper} {w : World} {B : Nat → Option Value} {ex : List (Nat × Value)} {K : K5 B ex a} (d : Nat) (f : FuncId) (xs : Array Operand) (ts : Array TypeId) (args : Array Value) (v : Value) (Wp : World → Prop) (hg : o.guard = none)
    (ho : o.op = .call { callee := .value (.func f), args := xs, argTypes := ts }) (hd : o.dst = some d) (hd1 : d < 141) (hB : B d = none) (hx : xs.map a.eval = args) (hf : ∀ w, (callFunc f args).run P w = .ok (.enter f args) w)
    (hc : Calls P f args w (fun e w'' => e = .returned v ∧ Wp w'')) (h : ∀ a' w', Wp w' → K5 B ((d, v) :: ex) a' → wpList P ops Q rest a' w') : wpList P ops Q (o :: rest) a w :=
  wpList_plain hg fun _ hK => by
    unfold Oper.wp execOp
    rw [ho]
    have h2 := hf w
    dsimp only
    simp only [resolve, hx, Deferred.ofValue, Act.eval, invoke, Sem.run_bind, Sem.run_pure, Result.andThen_ok, Array.append_empty, Array.empty_append, h2]
    refine hc.mono ?_
    rintro e w'' ⟨rfl, hw⟩
    refine hK _ _ ?_
    rw [hd]
    exact h _ _ hw (K.put d _ hd1 hB)
theorem Wd.other {w0 W : World} {H V M : List Int} (h : Wd w0 W H V M) {g : Nat} (hg : w0.heap.size + 3 < g) {cs : Array Value} : Wd w0 (W.setRow g cs) H V M :=
  ⟨grown_setRow h.grown (by omega) _, (setRow_other _ _ _ _ (by omega)).trans h.hh, (setRow_other _ _ _ _ (by omega)).trans h.hm, (setRow_other _ _ _ _ (by omega)).trans h.hr, (setRow_other _ _ _ _ (by omega)).trans h.hv, h.lh, h.lm, h.lv⟩
theorem run_perm (w : World) : (Instr.build 32 #[(0, .int .i64 2), (1, .int .i64 6), (2, .int .i64 3), (3, .int .i64 10), (4, .int .i64 7), (5, .int .i64 0), (6, .int .i64 4), (7, .int .i64 13), (8, .int .i64 1), (9, .int .i64 11), (10, .int .i64 12), (11, .int .i64 5), (12, .int .i64 9), (13, .int .i64 14), (14, .int .i64 15), (15, .int .i64 8)]).run Try.prog w = .ok (.agg pvals) w := by kernel_rfl
theorem ex_perm {a : Act} {o : Oper} (h : o.op = .build 32 #[(0, .const (.int .i64 2)), (1, .const (.int .i64 6)), (2, .const (.int .i64 3)), (3, .const (.int .i64 10)), (4, .const (.int .i64 7)), (5, .const (.int .i64 0)), (6, .const (.int .i64 4)), (7, .const (.int .i64 13)), (8, .const (.int .i64 1)), (9, .const (.int .i64 11)), (10, .const (.int .i64 12)), (11, .const (.int .i64 5)), (12, .const (.int .i64 9)), (13, .const (.int .i64 14)), (14, .const (.int .i64 15)), (15, .const (.int .i64 8))]) :
    ∀ w, (execOp a.eval o).run Try.prog w = .ok (.value (.agg pvals)) w := by
  intro w; unfold execOp; rw [h]
  dsimp only
  simp only [List.map_toArray, List.map_cons, List.map_nil, Act.eval, Sem.run_bind, run_perm w, Result.andThen_ok, Sem.run_pure]
set_option maxRecDepth 100000 in
set_option maxHeartbeats 4000000 in
theorem spec_any (H M : List Int) (ctr bl fl : Int) (w0 : World) (hH : H.length = 8) (hM : M.length = 16) :
    Calls Try.prog 5 #[.agg (vals H), .agg (vals M), .int .u64 ctr, .int .u32 bl, .int .u32 fl] w0 fun e w' => e = .returned (.agg (vals (specC H M ctr bl fl))) ∧ Grown w0 w' := by
  refine calls_of_wp Try.func5 rfl ?_
  rw [Try.ntmps5, show (#[Value.agg (vals H), .agg (vals M), .int .u64 ctr, .int .u32 bl, .int .u32 fl] : Array Value).size = 5 from rfl]
  generalize hQ : bodyPost Try.prog Try.f5 (fun e w' => e = .returned (.agg (vals (specC H M ctr bl fl))) ∧ Grown w0 w') = Q
  -- the two boxes, the result, 'v'
  have hK : K5 (fun _ => none) [(0, .agg (vals H)), (1, .agg (vals M)), (2, .int .u64 ctr), (3, .int .u32 bl), (4, .int .u32 fl)] { tmps := #[Value.agg (vals H), .agg (vals M), .int .u64 ctr, .int .u32 bl, .int .u32 fl] ++ Array.replicate (141 - 5) undef, defers := [] } := by
    refine ⟨by rw [Array.size_append, Array.size_replicate]; rfl, rfl, (fun i v hi => by cases hi), fun i v hi => ?_⟩
    have hlt : i < 5 := by
      by_cases h : i < 5
      · exact h
      · exfalso
        simp only [List.lookup_cons, List.lookup_nil] at hi
        rw [show (i == 0) = false by simp; omega, show (i == 1) = false by simp; omega, show (i == 2) = false by simp; omega, show (i == 3) = false by simp; omega, show (i == 4) = false by simp; omega] at hi
        cases hi
    simp only [Act.eval, Array.getD_eq_getD_getElem?]
    rw [Array.getElem?_append_left (by simpa using hlt)]
    match i, hlt, hi with
    | 0, _, hi => exact Option.some.inj hi
    | 1, _, hi => exact Option.some.inj hi
    | 2, _, hi => exact Option.some.inj hi
    | 3, _, hi => exact Option.some.inj hi
    | 4, _, hi => exact Option.some.inj hi
  generalize ({ tmps := #[Value.agg (vals H), .agg (vals M), .int .u64 ctr, .int .u32 bl, .int .u32 fl] ++ Array.replicate (141 - 5) undef, defers := [] } : Act) = a at hK ⊢
  refine wp_seq (wp_region_lit ?_)
  refine klW (K := hK) 5 (.pointer (some ⟨w0.heap.size, 0, none⟩)) (w0.alloc (.cells (vals H) 23)) rfl rfl (by decide) rfl (ex_box 23 _ _ rfl (hK.ev 0 _ rfl) _) ?_
  clear hK; intro a hK
  refine klW (K := hK) 6 (.pointer (some ⟨w0.heap.size + 1, 0, none⟩)) ((w0.alloc (.cells (vals H) 23)).alloc (.cells (vals M) 24)) rfl rfl (by decide) rfl ((ex_box 24 _ _ rfl (hK.ev 1 _ rfl) _).trans (by rw [World.size_alloc])) ?_
  clear hK; intro a hK
  refine klW (K := hK) 10 (.pointer (some ⟨w0.heap.size + 2, 0, none⟩)) (((w0.alloc (.cells (vals H) 23)).alloc (.cells (vals M) 24)).alloc (.cells zrow 24)) rfl rfl (by decide) rfl ((ex_alloc24 rfl _).trans (by rw [World.size_alloc, World.size_alloc])) ?_
  clear hK; intro a hK
  refine wpList_nil ?_
  refine wp_seq (wp_region_lit ?_)
  refine kl (K := hK) 21 (.agg zrow) rfl rfl (by decide) rfl (ex_build24 rfl) ?_
  clear hK; intro a hK
  refine klW (K := hK) 11 (.pointer (some ⟨w0.heap.size + 3, 0, none⟩)) ((((w0.alloc (.cells (vals H) 23)).alloc (.cells (vals M) 24)).alloc (.cells zrow 24)).alloc (.cells zrow 24)) rfl rfl (by decide) rfl ((ex_alloc24 rfl _).trans (by rw [World.size_alloc, World.size_alloc, World.size_alloc])) ?_
  clear hK; intro a hK
  have hW : Wd w0 ((((w0.alloc (.cells (vals H) 23)).alloc (.cells (vals M) 24)).alloc (.cells zrow 24)).alloc (.cells zrow 24)) H V00 M := by
    have hB : (((w0.alloc (.cells (vals H) 23)).alloc (.cells (vals M) 24)).alloc (.cells zrow 24)).heap.size = w0.heap.size + 3 := by rw [World.size_alloc, World.size_alloc, World.size_alloc]
    refine ⟨(three_grown w0 _ _ _ _ _ _).alloc _ _, ?_, ?_, ?_, ?_, hH, hM, rfl⟩
    · rw [Go.heap_alloc_old _ _ (by rw [hB]; omega)]; exact three0 w0 _ _ _ _ _ _
    · rw [Go.heap_alloc_old _ _ (by rw [hB]; omega)]; exact three1 w0 _ _ _ _ _ _
    · rw [Go.heap_alloc_old _ _ (by rw [hB]; omega)]; exact three2 w0 _ _ _ _ _ _
    · rw [← hB]; exact heap_alloc_new _ _
  generalize ((((w0.alloc (.cells (vals H) 23)).alloc (.cells (vals M) 24)).alloc (.cells zrow 24)).alloc (.cells zrow 24)) = w at hW ⊢
  refine wpList_store_row rfl 24 _ _ rfl (w0.heap.size + 3) zrow (hK.ev 11 _ rfl) (hK.ev 21 _ rfl) 24 _ hW.hv (by as_aux_lemma => kernel_rfl) rfl (by as_aux_lemma => kernel_rfl) ?_
  change wpList Try.prog _ _ _ a _
  replace hW : Wd w0 (w.setRow (w0.heap.size + 3) zrow) H (v0 H 0) M := hW.setV V00 rfl
  generalize w.setRow (w0.heap.size + 3) zrow = w at hW ⊢
  have hK' : K5 (b5 w0.heap.size ctr bl fl) [] a := by
    refine ⟨hK.size, hK.defers, fun i v hi => ?_, (fun i v hi => by cases hi)⟩
    have hc : i = 2 ∨ i = 3 ∨ i = 4 ∨ i = 5 ∨ i = 6 ∨ i = 10 ∨ i = 11 := by
      unfold b5 at hi
      split at hi <;> first | (cases hi; done) | omega
    rcases hc with rfl | rfl | rfl | rfl | rfl | rfl | rfl <;> exact hK.ev _ _ hi
  clear hK
  have hK := hK'
  clear hK'
  refine wpList_nil ?_
  refine wp_seq (wp_seq (wp_region_lit ?_))
  refine kcall (K := hK) 22 7 #[] #[] #[] (.agg (vals IVL)) (fun w' => Grown w w') rfl rfl rfl (by decide) rfl (by simp) (enter7 _) (iv_any w) ?_
  intro a w1 hg hK
  replace hW := hW.more hg
  clear hg
  refine kl (K := hK) 23 (.int .i64 ((0 : Nat) : Int)) rfl rfl (by decide) rfl (ex_move _ _ rfl rfl) ?_
  clear hK; intro a hK
  refine wpList_nil ?_
  refine wp_block (wp_count 8 (fun k a w => K5 (b5 w0.heap.size ctr bl fl) [(22, .agg (vals IVL)), (23, .int .i64 (k : Int))] a ∧ Wd w0 w H (v0 H k) M) ⟨hK.sub _ ⟨rfl, rfl, trivial⟩, hW⟩ ?_ ?_)
  · clear hK hW
    intro k hk a w ⟨hK, hW⟩
    refine wp_seq (wp_region_lit ?_)
    refine kl (K := hK) 24 (.bool true) rfl rfl (by decide) rfl (ex_lssT _ _ k 8 _ rfl (hK.ev 23 _ rfl) rfl hk) ?_
    clear hK; intro a hK
    refine wpList_nil ?_
    refine wp_seq (wp_cond_true (hK.ev 24 _ rfl) (wp_skip ?_))
    refine wp_seq (wp_block (wp_seq (wp_region_lit ?_)))
    refine kl (K := hK) 25 (.int .i64 ((k : Nat) : Int)) rfl rfl (by decide) rfl (ex_move _ _ rfl (hK.ev 23 _ rfl)) ?_
    clear hK; intro a hK
    refine kl (K := hK) 26 (.int .u32 (at_ IVL k)) rfl rfl (by decide) rfl (ex_iv _ _ k rfl hk (hK.ev 22 _ rfl) (hK.ev 23 _ rfl)) ?_
    clear hK; intro a hK
    refine kl (K := hK) 12 (.int .i64 ((k : Nat) : Int)) rfl rfl (by decide) rfl (ex_assign _ _ rfl (hK.ev 25 _ rfl)) ?_
    clear hK; intro a hK
    refine kl (K := hK) 13 (.int .u32 (at_ IVL k)) rfl rfl (by decide) rfl (ex_assign _ _ rfl (hK.ev 26 _ rfl)) ?_
    clear hK; intro a hK
    refine wpList_nil ?_
    refine wp_seq (wp_region_lit ?_)
    refine kl (K := hK) 27 (.int .i64 ((k : Nat) : Int)) rfl rfl (by decide) rfl (ex_move _ _ rfl (hK.ev 12 _ rfl)) ?_
    clear hK; intro a hK
    refine kl (K := hK) 28 (.int .i64 ((k : Nat) : Int)) rfl rfl (by decide) rfl (ex_move _ _ rfl (hK.ev 12 _ rfl)) ?_
    clear hK; intro a hK
    refine kl (K := hK) 29 (.pointer (some ⟨w0.heap.size, k, none⟩)) rfl rfl (by decide) rfl (ex_index8 _ _ w0.heap.size k rfl hk (hK.base 5 _ rfl) (hK.ev 28 _ rfl)) ?_
    clear hK; intro a hK
    refine klw (K := hK) 30 (.int .u32 (at_ H k)) rfl rfl (by decide) rfl (ex_load _ _ _ rfl (hK.ev 29 _ rfl) (hW.cellH hk)) ?_
    clear hK; intro a hK
    refine kl (K := hK) 31 (.pointer (some ⟨w0.heap.size + 3, k, none⟩)) rfl rfl (by decide) rfl (ex_index _ _ (w0.heap.size + 3) k rfl (by omega) (hK.base 11 _ rfl) (hK.ev 27 _ rfl)) ?_
    clear hK; intro a hK
    refine kstoreV (K := hK) hW (k) 31 30 (at_ H k) rfl rfl rfl (by omega) rfl rfl ?_
    clear hW; intro w hW
    refine wpList_nil ?_
    by_cases h4 : k < 4
    · refine wp_seq (wp_region_lit ?_)
      refine kl (K := hK) 32 (.int .i64 ((k : Nat) : Int)) rfl rfl (by decide) rfl (ex_move _ _ rfl (hK.ev 12 _ rfl)) ?_
      clear hK; intro a hK
      refine kl (K := hK) 33 (.bool true) rfl rfl (by decide) rfl (ex_lssT _ _ k 4 _ rfl (hK.ev 32 _ rfl) rfl h4) ?_
      clear hK; intro a hK
      refine wpList_nil ?_
      refine wp_cond_true (hK.ev 33 _ rfl) (wp_region_lit ?_)
      refine kl (K := hK) 34 (.int .i64 ((k : Nat) : Int)) rfl rfl (by decide) rfl (ex_move _ _ rfl (hK.ev 12 _ rfl)) ?_
      clear hK; intro a hK
      refine kl (K := hK) 35 (.int .i64 ((8 + k : Nat) : Int)) rfl rfl (by decide) rfl (ex_addN _ _ 8 k _ rfl rfl (hK.ev 34 _ rfl) (by omega)) ?_
      clear hK; intro a hK
      refine kl (K := hK) 36 (.int .u32 (at_ IVL k)) rfl rfl (by decide) rfl (ex_move _ _ rfl (hK.ev 13 _ rfl)) ?_
      clear hK; intro a hK
      refine kl (K := hK) 37 (.pointer (some ⟨w0.heap.size + 3, 8 + k, none⟩)) rfl rfl (by decide) rfl (ex_index _ _ (w0.heap.size + 3) (8 + k) rfl (by omega) (hK.base 11 _ rfl) (hK.ev 35 _ rfl)) ?_
      clear hK; intro a hK
      refine kstoreV (K := hK) hW (8 + k) 37 36 (at_ IVL k) rfl rfl rfl (by omega) rfl rfl ?_
      clear hW; intro w hW
      refine wpList_nil ?_
      refine wp_region_lit ?_
      refine kl (K := hK) 38 (.int .i64 ((k + 1 : Nat) : Int)) rfl rfl (by decide) rfl (ex_addN _ _ k 1 _ rfl (hK.ev 23 _ rfl) rfl (by omega)) ?_
      clear hK; intro a hK
      refine kl (K := hK) 23 (.int .i64 ((k + 1 : Nat) : Int)) rfl rfl (by decide) rfl (ex_move _ _ rfl (hK.ev 38 _ rfl)) ?_
      clear hK; intro a hK
      refine wpList_nil ?_
      refine ⟨hK.sub _ ⟨rfl, rfl, trivial⟩, ?_⟩
      rw [show v0 H (k + 1) = ((v0 H k).set k (at_ H k)).set (8 + k) (at_ IVL k) from if_pos h4]
      exact hW
    · refine wp_seq (wp_region_lit ?_)
      refine kl (K := hK) 32 (.int .i64 ((k : Nat) : Int)) rfl rfl (by decide) rfl (ex_move _ _ rfl (hK.ev 12 _ rfl)) ?_
      clear hK; intro a hK
      refine kl (K := hK) 33 (.bool false) rfl rfl (by decide) rfl (ex_lssF _ _ k 4 _ rfl (hK.ev 32 _ rfl) rfl h4) ?_
      clear hK; intro a hK
      refine wpList_nil ?_
      refine wp_cond_false (hK.ev 33 _ rfl) (wp_skip ?_)
      refine wp_region_lit ?_
      refine kl (K := hK) 38 (.int .i64 ((k + 1 : Nat) : Int)) rfl rfl (by decide) rfl (ex_addN _ _ k 1 _ rfl (hK.ev 23 _ rfl) rfl (by omega)) ?_
      clear hK; intro a hK
      refine kl (K := hK) 23 (.int .i64 ((k + 1 : Nat) : Int)) rfl rfl (by decide) rfl (ex_move _ _ rfl (hK.ev 38 _ rfl)) ?_
      clear hK; intro a hK
      refine wpList_nil ?_
      refine ⟨hK.sub _ ⟨rfl, rfl, trivial⟩, ?_⟩
      rw [show v0 H (k + 1) = (v0 H k).set k (at_ H k) from if_neg h4]
      exact hW
  clear hK hW
  intro a w ⟨hK, hW⟩
  refine wp_seq (wp_region_lit ?_)
  refine kl (K := hK) 24 (.bool false) rfl rfl (by decide) rfl (ex_lssF _ _ 8 8 _ rfl (hK.ev 23 _ rfl) rfl (by decide)) ?_
  clear hK; intro a hK
  refine wpList_nil ?_
  refine wp_seq (wp_cond_false (hK.ev 24 _ rfl) (wp_exit ?_))
  repeat (with_reducible refine then_exit ?_)
  with_reducible refine inBlock_exit ?_
  replace hK := hK.nil
  refine wp_seq (wp_region_lit ?_)
  refine kl (K := hK) 39 (.int .u64 ctr) rfl rfl (by decide) rfl (ex_move _ _ rfl (hK.base 2 _ rfl)) ?_
  clear hK; intro a hK
  refine kl (K := hK) 40 (.int .u32 (IntKind.u32.wrap ctr)) rfl rfl (by decide) rfl (ex_conv _ _ rfl (hK.ev 39 _ rfl)) ?_
  clear hK; intro a hK
  refine kl (K := hK) 41 (.int .u64 ctr) rfl rfl (by decide) rfl (ex_move _ _ rfl (hK.base 2 _ rfl)) ?_
  clear hK; intro a hK
  refine kl (K := hK) 42 (.int .u64 (ctr / 4294967296)) rfl rfl (by decide) rfl (ex_shr32 _ _ _ _ rfl (hK.ev 41 _ rfl) rfl) ?_
  clear hK; intro a hK
  refine kl (K := hK) 43 (.int .u32 (IntKind.u32.wrap (ctr / 4294967296))) rfl rfl (by decide) rfl (ex_conv _ _ rfl (hK.ev 42 _ rfl)) ?_
  clear hK; intro a hK
  refine kl (K := hK) 44 (.int .u32 (bl)) rfl rfl (by decide) rfl (ex_move _ _ rfl (hK.base 3 _ rfl)) ?_
  clear hK; intro a hK
  refine kl (K := hK) 45 (.int .u32 (fl)) rfl rfl (by decide) rfl (ex_move _ _ rfl (hK.base 4 _ rfl)) ?_
  clear hK; intro a hK
  refine kl (K := hK) 46 (.pointer (some ⟨w0.heap.size + 3, 12, none⟩)) rfl rfl (by decide) rfl (ex_index _ _ (w0.heap.size + 3) 12 rfl (by decide) (hK.base 11 _ rfl) rfl) ?_
  clear hK; intro a hK
  refine kstoreV (K := hK) hW (12) 46 40 (IntKind.u32.wrap ctr) rfl rfl rfl (by omega) rfl rfl ?_
  clear hW; intro w hW
  refine kl (K := hK) 47 (.pointer (some ⟨w0.heap.size + 3, 13, none⟩)) rfl rfl (by decide) rfl (ex_index _ _ (w0.heap.size + 3) 13 rfl (by decide) (hK.base 11 _ rfl) rfl) ?_
  clear hK; intro a hK
  refine kstoreV (K := hK) hW (13) 47 43 (IntKind.u32.wrap (ctr / 4294967296)) rfl rfl rfl (by omega) rfl rfl ?_
  clear hW; intro w hW
  refine kl (K := hK) 48 (.pointer (some ⟨w0.heap.size + 3, 14, none⟩)) rfl rfl (by decide) rfl (ex_index _ _ (w0.heap.size + 3) 14 rfl (by decide) (hK.base 11 _ rfl) rfl) ?_
  clear hK; intro a hK
  refine kstoreV (K := hK) hW (14) 48 44 (bl) rfl rfl rfl (by omega) rfl rfl ?_
  clear hW; intro w hW
  refine kl (K := hK) 49 (.pointer (some ⟨w0.heap.size + 3, 15, none⟩)) rfl rfl (by decide) rfl (ex_index _ _ (w0.heap.size + 3) 15 rfl (by decide) (hK.base 11 _ rfl) rfl) ?_
  clear hK; intro a hK
  refine kstoreV (K := hK) hW (15) 49 45 (fl) rfl rfl rfl (by omega) rfl rfl ?_
  clear hW; intro w hW
  refine wpList_nil ?_
  replace hK := hK.nil
  replace hW : Wd w0 w H (v1 H ctr bl fl) M := hW
  have l1 := v1_length H ctr bl fl
  generalize hv1 : v1 H ctr bl fl = V at hW l1
  refine wp_seq (wp_seq (wp_region_lit ?_))
  refine kl (K := hK) 14 (.int .i64 ((0 : Nat) : Int)) rfl rfl (by decide) rfl (ex_assign _ _ rfl rfl) ?_
  clear hK; intro a hK
  refine wpList_nil ?_
  refine wp_block (wp_count 7 (fun r a w => K5 (b5 w0.heap.size ctr bl fl) [(14, .int .i64 (r : Int))] a ∧ Wd w0 w H (rV V M r).1 (rV V M r).2) ⟨hK.sub _ ⟨rfl, trivial⟩, hW⟩ ?_ ?_)
  · clear hK hW
    intro r hr a w ⟨hK, hW⟩
    refine wp_seq (wp_seq (wp_region_lit ?_))
    refine kl (K := hK) 50 (.int .i64 ((r : Nat) : Int)) rfl rfl (by decide) rfl (ex_move _ _ rfl (hK.ev 14 _ rfl)) ?_
    clear hK; intro a hK
    refine kl (K := hK) 51 (.bool true) rfl rfl (by decide) rfl (ex_lssT _ _ r 7 _ rfl (hK.ev 50 _ rfl) rfl hr) ?_
    clear hK; intro a hK
    refine wpList_nil ?_
    refine wp_cond_true (hK.ev 51 _ rfl) (wp_skip ?_)
    rw [show rV V M (r + 1) = (stepV (rV V M r).1 (rV V M r).2, stepM (rV V M r).2) from rfl]
    dsimp only
    generalize (rV V M r).1 = V1 at hW ⊢
    generalize (rV V M r).2 = M1 at hW ⊢
    have lM := hW.lm
    refine wp_seq (wp_block (wp_seq (wp_seq (wp_region_lit ?_))))
    refine kl (K := hK) 15 (.int .i64 ((0 : Nat) : Int)) rfl rfl (by decide) rfl (ex_assign _ _ rfl rfl) ?_
    clear hK; intro a hK
    refine wpList_nil ?_
    refine wp_block (wp_count 4 (fun k a w => K5 (b5 w0.heap.size ctr bl fl) [(14, .int .i64 (r : Int)), (15, .int .i64 (k : Int))] a ∧ Wd w0 w H (colS V1 M1 k) M1) ⟨hK.sub _ ⟨rfl, rfl, trivial⟩, hW⟩ ?_ ?_)
    · clear hK hW
      intro k hk a w ⟨hK, hW⟩
      refine wp_seq (wp_seq (wp_region_lit ?_))
      refine kl (K := hK) 54 (.int .i64 ((k : Nat) : Int)) rfl rfl (by decide) rfl (ex_move _ _ rfl (hK.ev 15 _ rfl)) ?_
      clear hK; intro a hK
      refine kl (K := hK) 55 (.bool true) rfl rfl (by decide) rfl (ex_lssT _ _ k 4 _ rfl (hK.ev 54 _ rfl) rfl hk) ?_
      clear hK; intro a hK
      refine wpList_nil ?_
      refine wp_cond_true (hK.ev 55 _ rfl) (wp_skip ?_)
      refine wp_seq (wp_block (wp_region_still_tail 16 (by kernel_rfl) (by as_aux_lemma => kernel_rfl) ?_))
      change wpStill Try.prog _ (w.drewN 1) (fun a' => wpList Try.prog _ _ _ a' (w.drewN 1)) _ _
      replace hW := hW.drewN 1
      generalize w.drewN 1 = w at hW ⊢
      simp only [List.take_succ_cons, List.take_zero, List.drop_succ_cons, List.drop_zero]
      refine ksq (K := hK) 58 (.int .i64 ((k : Nat) : Int)) rfl rfl (by decide) rfl (ex_move _ _ rfl (hK.ev 15 _ rfl) _) ?_
      clear hK; intro a hK
      refine ksq (K := hK) 59 (.int .i64 ((k : Nat) : Int)) rfl rfl (by decide) rfl (ex_move _ _ rfl (hK.ev 15 _ rfl) _) ?_
      clear hK; intro a hK
      refine ksq (K := hK) 60 (.int .i64 ((4 + k : Nat) : Int)) rfl rfl (by decide) rfl (ex_addN _ _ 4 k _ rfl rfl (hK.ev 59 _ rfl) (by omega) _) ?_
      clear hK; intro a hK
      refine ksq (K := hK) 61 (.int .i64 ((k : Nat) : Int)) rfl rfl (by decide) rfl (ex_move _ _ rfl (hK.ev 15 _ rfl) _) ?_
      clear hK; intro a hK
      refine ksq (K := hK) 62 (.int .i64 ((8 + k : Nat) : Int)) rfl rfl (by decide) rfl (ex_addN _ _ 8 k _ rfl rfl (hK.ev 61 _ rfl) (by omega) _) ?_
      clear hK; intro a hK
      refine ksq (K := hK) 63 (.int .i64 ((k : Nat) : Int)) rfl rfl (by decide) rfl (ex_move _ _ rfl (hK.ev 15 _ rfl) _) ?_
      clear hK; intro a hK
      refine ksq (K := hK) 64 (.int .i64 ((12 + k : Nat) : Int)) rfl rfl (by decide) rfl (ex_addN _ _ 12 k _ rfl rfl (hK.ev 63 _ rfl) (by omega) _) ?_
      clear hK; intro a hK
      refine ksq (K := hK) 65 (.int .i64 ((k : Nat) : Int)) rfl rfl (by decide) rfl (ex_move _ _ rfl (hK.ev 15 _ rfl) _) ?_
      clear hK; intro a hK
      refine ksq (K := hK) 66 (.int .i64 ((2 * k : Nat) : Int)) rfl rfl (by decide) rfl (ex_mulN _ _ 2 k _ rfl rfl (hK.ev 65 _ rfl) (by omega) _) ?_
      clear hK; intro a hK
      refine ksq (K := hK) 67 (.pointer (some ⟨w0.heap.size + 1, 2 * k, none⟩)) rfl rfl (by decide) rfl (ex_index _ _ (w0.heap.size + 1) (2 * k) rfl (by omega) (hK.base 6 _ rfl) (hK.ev 66 _ rfl) _) ?_
      clear hK; intro a hK
      refine ksq (K := hK) 68 (.int .u32 (at_ M1 (2 * k))) rfl rfl (by decide) rfl (ex_load _ _ _ rfl (hK.ev 67 _ rfl) (hW.cellM (by omega))) ?_
      clear hK; intro a hK
      refine ksq (K := hK) 69 (.int .i64 ((k : Nat) : Int)) rfl rfl (by decide) rfl (ex_move _ _ rfl (hK.ev 15 _ rfl) _) ?_
      clear hK; intro a hK
      refine ksq (K := hK) 70 (.int .i64 ((2 * k : Nat) : Int)) rfl rfl (by decide) rfl (ex_mulN _ _ 2 k _ rfl rfl (hK.ev 69 _ rfl) (by omega) _) ?_
      clear hK; intro a hK
      refine ksq (K := hK) 71 (.int .i64 ((2 * k + 1 : Nat) : Int)) rfl rfl (by decide) rfl (ex_addN _ _ (2 * k) 1 _ rfl (hK.ev 70 _ rfl) rfl (by omega) _) ?_
      clear hK; intro a hK
      refine ksq (K := hK) 72 (.pointer (some ⟨w0.heap.size + 1, 2 * k + 1, none⟩)) rfl rfl (by decide) rfl (ex_index _ _ (w0.heap.size + 1) (2 * k + 1) rfl (by omega) (hK.base 6 _ rfl) (hK.ev 71 _ rfl) _) ?_
      clear hK; intro a hK
      refine ksq (K := hK) 73 (.int .u32 (at_ M1 (2 * k + 1))) rfl rfl (by decide) rfl (ex_load _ _ _ rfl (hK.ev 72 _ rfl) (hW.cellM (by omega))) ?_
      clear hK; intro a hK
      refine wpStill_nil ?_
      refine kstir (K := hK) hW 74 58 60 62 64 68 73 k (4 + k) (8 + k) (12 + k) (at_ M1 (2 * k)) (at_ M1 (2 * k + 1)) _ rfl rfl rfl (by decide) rfl rfl rfl rfl rfl rfl rfl rfl (by omega) (by omega) (by omega) (by omega) (by omega) (by omega) (by omega) (by omega) (by omega) (by omega) ?_
      clear hK hW; intro a w hK hW
      refine wpList_nil ?_
      refine wp_region_lit ?_
      refine kl (K := hK) 56 (.int .i64 ((k : Nat) : Int)) rfl rfl (by decide) rfl (ex_move _ _ rfl (hK.ev 15 _ rfl)) ?_
      clear hK; intro a hK
      refine kl (K := hK) 57 (.int .i64 ((k + 1 : Nat) : Int)) rfl rfl (by decide) rfl (ex_addN _ _ k 1 _ rfl (hK.ev 56 _ rfl) rfl (by omega)) ?_
      clear hK; intro a hK
      refine kl (K := hK) 15 (.int .i64 ((k + 1 : Nat) : Int)) rfl rfl (by decide) rfl (ex_assign _ _ rfl (hK.ev 57 _ rfl)) ?_
      clear hK; intro a hK
      refine wpList_nil ?_
      exact ⟨hK.sub _ ⟨rfl, rfl, trivial⟩, hW⟩
    clear hK hW
    intro a w ⟨hK, hW⟩
    refine wp_seq (wp_seq (wp_region_lit ?_))
    refine kl (K := hK) 54 (.int .i64 ((4 : Nat) : Int)) rfl rfl (by decide) rfl (ex_move _ _ rfl (hK.ev 15 _ rfl)) ?_
    clear hK; intro a hK
    refine kl (K := hK) 55 (.bool false) rfl rfl (by decide) rfl (ex_lssF _ _ 4 4 _ rfl (hK.ev 54 _ rfl) rfl (by decide)) ?_
    clear hK; intro a hK
    refine wpList_nil ?_
    refine wp_cond_false (hK.ev 55 _ rfl) (wp_exit ?_)
    repeat (with_reducible refine then_exit ?_)
    with_reducible refine inBlock_exit ?_
    have lV := hW.lv
    replace hK : K5 (b5 w0.heap.size ctr bl fl) [(14, .int .i64 (r : Int))] a := hK.sub _ ⟨rfl, trivial⟩
    have hst : stepV V1 M1 = diagS (colS V1 M1 4) M1 4 := rfl
    rw [hst]; clear hst
    generalize colS V1 M1 4 = V2 at hW ⊢
    refine wp_seq (wp_seq (wp_region_lit ?_))
    refine kl (K := hK) 16 (.int .i64 ((0 : Nat) : Int)) rfl rfl (by decide) rfl (ex_assign _ _ rfl rfl) ?_
    clear hK; intro a hK
    refine wpList_nil ?_
    refine wp_block (wp_count 4 (fun k a w => K5 (b5 w0.heap.size ctr bl fl) [(14, .int .i64 (r : Int)), (16, .int .i64 (k : Int))] a ∧ Wd w0 w H (diagS V2 M1 k) M1) ⟨hK.sub _ ⟨rfl, rfl, trivial⟩, hW⟩ ?_ ?_)
    · clear hK hW
      intro k hk a w ⟨hK, hW⟩
      refine wp_seq (wp_seq (wp_region_lit ?_))
      refine kl (K := hK) 75 (.int .i64 ((k : Nat) : Int)) rfl rfl (by decide) rfl (ex_move _ _ rfl (hK.ev 16 _ rfl)) ?_
      clear hK; intro a hK
      refine kl (K := hK) 76 (.bool true) rfl rfl (by decide) rfl (ex_lssT _ _ k 4 _ rfl (hK.ev 75 _ rfl) rfl hk) ?_
      clear hK; intro a hK
      refine wpList_nil ?_
      refine wp_cond_true (hK.ev 76 _ rfl) (wp_skip ?_)
      refine wp_seq (wp_block (wp_region_still_tail 23 (by kernel_rfl) (by as_aux_lemma => kernel_rfl) ?_))
      change wpStill Try.prog _ (w.drewN 1) (fun a' => wpList Try.prog _ _ _ a' (w.drewN 1)) _ _
      replace hW := hW.drewN 1
      generalize w.drewN 1 = w at hW ⊢
      simp only [List.take_succ_cons, List.take_zero, List.drop_succ_cons, List.drop_zero]
      refine ksq (K := hK) 79 (.int .i64 ((k : Nat) : Int)) rfl rfl (by decide) rfl (ex_move _ _ rfl (hK.ev 16 _ rfl) _) ?_
      clear hK; intro a hK
      refine ksq (K := hK) 80 (.int .i64 ((k : Nat) : Int)) rfl rfl (by decide) rfl (ex_move _ _ rfl (hK.ev 16 _ rfl) _) ?_
      clear hK; intro a hK
      refine ksq (K := hK) 81 (.int .i64 ((k + 1 : Nat) : Int)) rfl rfl (by decide) rfl (ex_addN _ _ k 1 _ rfl (hK.ev 80 _ rfl) rfl (by omega) _) ?_
      clear hK; intro a hK
      refine ksq (K := hK) 82 (.int .i64 (((k + 1) % 4 : Nat) : Int)) rfl rfl (by decide) rfl (ex_remN _ _ (k + 1) _ rfl (hK.ev 81 _ rfl) rfl (by omega) _) ?_
      clear hK; intro a hK
      refine ksq (K := hK) 83 (.int .i64 ((4 + (k + 1) % 4 : Nat) : Int)) rfl rfl (by decide) rfl (ex_addN _ _ 4 ((k + 1) % 4) _ rfl rfl (hK.ev 82 _ rfl) (by omega) _) ?_
      clear hK; intro a hK
      refine ksq (K := hK) 84 (.int .i64 ((k : Nat) : Int)) rfl rfl (by decide) rfl (ex_move _ _ rfl (hK.ev 16 _ rfl) _) ?_
      clear hK; intro a hK
      refine ksq (K := hK) 85 (.int .i64 ((k + 2 : Nat) : Int)) rfl rfl (by decide) rfl (ex_addN _ _ k 2 _ rfl (hK.ev 84 _ rfl) rfl (by omega) _) ?_
      clear hK; intro a hK
      refine ksq (K := hK) 86 (.int .i64 (((k + 2) % 4 : Nat) : Int)) rfl rfl (by decide) rfl (ex_remN _ _ (k + 2) _ rfl (hK.ev 85 _ rfl) rfl (by omega) _) ?_
      clear hK; intro a hK
      refine ksq (K := hK) 87 (.int .i64 ((8 + (k + 2) % 4 : Nat) : Int)) rfl rfl (by decide) rfl (ex_addN _ _ 8 ((k + 2) % 4) _ rfl rfl (hK.ev 86 _ rfl) (by omega) _) ?_
      clear hK; intro a hK
      refine ksq (K := hK) 88 (.int .i64 ((k : Nat) : Int)) rfl rfl (by decide) rfl (ex_move _ _ rfl (hK.ev 16 _ rfl) _) ?_
      clear hK; intro a hK
      refine ksq (K := hK) 89 (.int .i64 ((k + 3 : Nat) : Int)) rfl rfl (by decide) rfl (ex_addN _ _ k 3 _ rfl (hK.ev 88 _ rfl) rfl (by omega) _) ?_
      clear hK; intro a hK
      refine ksq (K := hK) 90 (.int .i64 (((k + 3) % 4 : Nat) : Int)) rfl rfl (by decide) rfl (ex_remN _ _ (k + 3) _ rfl (hK.ev 89 _ rfl) rfl (by omega) _) ?_
      clear hK; intro a hK
      refine ksq (K := hK) 91 (.int .i64 ((12 + (k + 3) % 4 : Nat) : Int)) rfl rfl (by decide) rfl (ex_addN _ _ 12 ((k + 3) % 4) _ rfl rfl (hK.ev 90 _ rfl) (by omega) _) ?_
      clear hK; intro a hK
      refine ksq (K := hK) 92 (.int .i64 ((k : Nat) : Int)) rfl rfl (by decide) rfl (ex_move _ _ rfl (hK.ev 16 _ rfl) _) ?_
      clear hK; intro a hK
      refine ksq (K := hK) 93 (.int .i64 ((2 * k : Nat) : Int)) rfl rfl (by decide) rfl (ex_mulN _ _ 2 k _ rfl rfl (hK.ev 92 _ rfl) (by omega) _) ?_
      clear hK; intro a hK
      refine ksq (K := hK) 94 (.int .i64 ((8 + 2 * k : Nat) : Int)) rfl rfl (by decide) rfl (ex_addN _ _ 8 (2 * k) _ rfl rfl (hK.ev 93 _ rfl) (by omega) _) ?_
      clear hK; intro a hK
      refine ksq (K := hK) 95 (.pointer (some ⟨w0.heap.size + 1, 8 + 2 * k, none⟩)) rfl rfl (by decide) rfl (ex_index _ _ (w0.heap.size + 1) (8 + 2 * k) rfl (by omega) (hK.base 6 _ rfl) (hK.ev 94 _ rfl) _) ?_
      clear hK; intro a hK
      refine ksq (K := hK) 96 (.int .u32 (at_ M1 (8 + 2 * k))) rfl rfl (by decide) rfl (ex_load _ _ _ rfl (hK.ev 95 _ rfl) (hW.cellM (by omega))) ?_
      clear hK; intro a hK
      refine ksq (K := hK) 97 (.int .i64 ((k : Nat) : Int)) rfl rfl (by decide) rfl (ex_move _ _ rfl (hK.ev 16 _ rfl) _) ?_
      clear hK; intro a hK
      refine ksq (K := hK) 98 (.int .i64 ((2 * k : Nat) : Int)) rfl rfl (by decide) rfl (ex_mulN _ _ 2 k _ rfl rfl (hK.ev 97 _ rfl) (by omega) _) ?_
      clear hK; intro a hK
      refine ksq (K := hK) 99 (.int .i64 ((9 + 2 * k : Nat) : Int)) rfl rfl (by decide) rfl (ex_addN _ _ 9 (2 * k) _ rfl rfl (hK.ev 98 _ rfl) (by omega) _) ?_
      clear hK; intro a hK
      refine ksq (K := hK) 100 (.pointer (some ⟨w0.heap.size + 1, 9 + 2 * k, none⟩)) rfl rfl (by decide) rfl (ex_index _ _ (w0.heap.size + 1) (9 + 2 * k) rfl (by omega) (hK.base 6 _ rfl) (hK.ev 99 _ rfl) _) ?_
      clear hK; intro a hK
      refine ksq (K := hK) 101 (.int .u32 (at_ M1 (9 + 2 * k))) rfl rfl (by decide) rfl (ex_load _ _ _ rfl (hK.ev 100 _ rfl) (hW.cellM (by omega))) ?_
      clear hK; intro a hK
      refine wpStill_nil ?_
      refine kstir (K := hK) hW 102 79 83 87 91 96 101 k (4 + (k + 1) % 4) (8 + (k + 2) % 4) (12 + (k + 3) % 4) (at_ M1 (8 + 2 * k)) (at_ M1 (9 + 2 * k)) _ rfl rfl rfl (by decide) rfl rfl rfl rfl rfl rfl rfl rfl (by omega) (by omega) (by omega) (by omega) (by omega) (by omega) (by omega) (by omega) (by omega) (by omega) ?_
      clear hK hW; intro a w hK hW
      refine wpList_nil ?_
      refine wp_region_lit ?_
      refine kl (K := hK) 77 (.int .i64 ((k : Nat) : Int)) rfl rfl (by decide) rfl (ex_move _ _ rfl (hK.ev 16 _ rfl)) ?_
      clear hK; intro a hK
      refine kl (K := hK) 78 (.int .i64 ((k + 1 : Nat) : Int)) rfl rfl (by decide) rfl (ex_addN _ _ k 1 _ rfl (hK.ev 77 _ rfl) rfl (by omega)) ?_
      clear hK; intro a hK
      refine kl (K := hK) 16 (.int .i64 ((k + 1 : Nat) : Int)) rfl rfl (by decide) rfl (ex_assign _ _ rfl (hK.ev 78 _ rfl)) ?_
      clear hK; intro a hK
      refine wpList_nil ?_
      exact ⟨hK.sub _ ⟨rfl, rfl, trivial⟩, hW⟩
    clear hK hW
    intro a w ⟨hK, hW⟩
    refine wp_seq (wp_seq (wp_region_lit ?_))
    refine kl (K := hK) 75 (.int .i64 ((4 : Nat) : Int)) rfl rfl (by decide) rfl (ex_move _ _ rfl (hK.ev 16 _ rfl)) ?_
    clear hK; intro a hK
    refine kl (K := hK) 76 (.bool false) rfl rfl (by decide) rfl (ex_lssF _ _ 4 4 _ rfl (hK.ev 75 _ rfl) rfl (by decide)) ?_
    clear hK; intro a hK
    refine wpList_nil ?_
    refine wp_cond_false (hK.ev 76 _ rfl) (wp_exit ?_)
    repeat (with_reducible refine then_exit ?_)
    with_reducible refine inBlock_exit ?_
    replace hK : K5 (b5 w0.heap.size ctr bl fl) [(14, .int .i64 (r : Int))] a := hK.sub _ ⟨rfl, trivial⟩
    generalize diagS V2 M1 4 = V3 at hW ⊢
    refine wp_seq (wp_region_lit ?_)
    refine klw (K := hK) 103 (.agg (vals M1)) rfl rfl (by decide) rfl (ex_row 24 _ (w0.heap.size + 1) 24 _ 16 22 rfl (hK.base 6 _ rfl) hW.hm Try.underlying24 (by rw [vals_size, lM]; exact info24)) ?_
    clear hK; intro a hK
    refine klW (K := hK) 17 (.pointer (some ⟨w.heap.size, 0, none⟩)) (w.alloc (.cells zrow 24)) rfl rfl (by decide) rfl (ex_alloc24 rfl _) ?_
    clear hK; intro a hK
    obtain ⟨g, hg⟩ : ∃ g, g = w.heap.size := ⟨_, rfl⟩
    have hgn : w0.heap.size + 3 < g := by rw [hg]; exact (Array.getElem?_eq_some_iff.1 hW.hv).1
    have hO : (w.alloc (.cells zrow 24)).heap[g]? = some (.cells zrow 24 (0, 0)) := by rw [hg]; exact heap_alloc_new w _
    rw [← hg] at hK
    replace hW : Wd w0 (w.alloc (.cells zrow 24)) H V3 M1 := hW.more ((Grown.refl w).alloc _ _)
    clear hg
    generalize w.alloc (.cells zrow 24) = w at hW hO ⊢
    refine wpList_store_row rfl 24 _ _ rfl g (vals M1) (hK.ev 17 _ rfl) (hK.ev 103 _ rfl) 24 _ hO (by rw [vals_size, lM]; exact info24) (zrow_size _ lM) (vals_one _) ?_
    change wpList Try.prog _ _ _ a _
    replace hO : (w.setRow g (vals M1)).heap[g]? = some (.cells (vals M1) 24 (0, 0)) := setRow_heap _ _ _ _ _ _ hO
    replace hW : Wd w0 (w.setRow g (vals M1)) H V3 (permS M1 0) := hW.other (by omega)
    generalize w.setRow g (vals M1) = w at hW hO ⊢
    refine wpList_nil ?_
    refine wp_seq (wp_region_lit ?_)
    refine kl (K := hK) 104 (.agg pvals) rfl rfl (by decide) rfl (ex_perm rfl) ?_
    clear hK; intro a hK
    refine kl (K := hK) 105 (.int .i64 ((0 : Nat) : Int)) rfl rfl (by decide) rfl (ex_move _ _ rfl rfl) ?_
    clear hK; intro a hK
    refine wpList_nil ?_
    refine wp_block (wp_count 16 (fun k a w => K5 (b5 w0.heap.size ctr bl fl) [(14, .int .i64 (r : Int)), (17, .pointer (some ⟨g, 0, none⟩)), (104, .agg pvals), (105, .int .i64 (k : Int))] a ∧ Wd w0 w H V3 (permS M1 k) ∧ w.heap[g]? = some (.cells (vals M1) 24 (0, 0))) ⟨hK.sub _ ⟨rfl, rfl, rfl, rfl, trivial⟩, hW, hO⟩ ?_ ?_)
    · clear hK hW hO
      intro k hk a w ⟨hK, hW, hO⟩
      have hp := pl_lt k hk
      have hcO : w.cell? ⟨g, PL.getD k 0, none⟩ = some (.int .u32 (at_ M1 (PL.getD k 0))) := (cell_of_row _ _ _ _ _ _ hO).trans (vals_get M1 _ (by rw [lM]; exact hp))
      refine wp_seq (wp_region_lit ?_)
      refine kl (K := hK) 106 (.bool true) rfl rfl (by decide) rfl (ex_lssT _ _ k 16 _ rfl (hK.ev 105 _ rfl) rfl hk) ?_
      clear hK; intro a hK
      refine wpList_nil ?_
      refine wp_seq (wp_cond_true (hK.ev 106 _ rfl) (wp_skip ?_))
      refine wp_seq (wp_block (wp_seq (wp_region_lit ?_)))
      refine kl (K := hK) 107 (.int .i64 ((k : Nat) : Int)) rfl rfl (by decide) rfl (ex_move _ _ rfl (hK.ev 105 _ rfl)) ?_
      clear hK; intro a hK
      refine kl (K := hK) 108 (.int .i64 ((PL.getD k 0 : Nat) : Int)) rfl rfl (by decide) rfl (ex_pl _ _ k rfl hk (hK.ev 104 _ rfl) (hK.ev 105 _ rfl)) ?_
      clear hK; intro a hK
      refine kl (K := hK) 18 (.int .i64 ((k : Nat) : Int)) rfl rfl (by decide) rfl (ex_assign _ _ rfl (hK.ev 107 _ rfl)) ?_
      clear hK; intro a hK
      refine kl (K := hK) 19 (.int .i64 ((PL.getD k 0 : Nat) : Int)) rfl rfl (by decide) rfl (ex_assign _ _ rfl (hK.ev 108 _ rfl)) ?_
      clear hK; intro a hK
      refine wpList_nil ?_
      refine wp_region_lit ?_
      refine kl (K := hK) 109 (.int .i64 ((k : Nat) : Int)) rfl rfl (by decide) rfl (ex_move _ _ rfl (hK.ev 18 _ rfl)) ?_
      clear hK; intro a hK
      refine kl (K := hK) 110 (.int .i64 ((PL.getD k 0 : Nat) : Int)) rfl rfl (by decide) rfl (ex_move _ _ rfl (hK.ev 19 _ rfl)) ?_
      clear hK; intro a hK
      refine kl (K := hK) 111 (.pointer (some ⟨g, PL.getD k 0, none⟩)) rfl rfl (by decide) rfl (ex_index _ _ g (PL.getD k 0) rfl hp (hK.ev 17 _ rfl) (hK.ev 110 _ rfl)) ?_
      clear hK; intro a hK
      refine klw (K := hK) 112 (.int .u32 (at_ M1 (PL.getD k 0))) rfl rfl (by decide) rfl (ex_load _ _ _ rfl (hK.ev 111 _ rfl) hcO) ?_
      clear hK; intro a hK
      refine kl (K := hK) 113 (.pointer (some ⟨w0.heap.size + 1, k, none⟩)) rfl rfl (by decide) rfl (ex_index _ _ (w0.heap.size + 1) k rfl hk (hK.base 6 _ rfl) (hK.ev 109 _ rfl)) ?_
      clear hK; intro a hK
      refine kstoreM (K := hK) hW k 113 112 (at_ M1 (PL.getD k 0)) rfl rfl rfl hk rfl rfl ?_
      replace hO : (w.setRow (w0.heap.size + 1) (vals ((permS M1 k).set k (at_ M1 (PL.getD k 0))))).heap[g]? = some (.cells (vals M1) 24 (0, 0)) := (setRow_other _ _ _ _ (by omega)).trans hO
      replace hW : Wd w0 (w.setRow (w0.heap.size + 1) (vals ((permS M1 k).set k (at_ M1 (PL.getD k 0))))) H V3 (permS M1 (k + 1)) := hW.setM _ (by rw [List.length_set]; exact hW.lm)
      clear hcO
      generalize w.setRow (w0.heap.size + 1) (vals ((permS M1 k).set k (at_ M1 (PL.getD k 0)))) = w at hW hO ⊢
      refine wpList_nil ?_
      refine wp_region_lit ?_
      refine kl (K := hK) 114 (.int .i64 ((k + 1 : Nat) : Int)) rfl rfl (by decide) rfl (ex_addN _ _ k 1 _ rfl (hK.ev 105 _ rfl) rfl (by omega)) ?_
      clear hK; intro a hK
      refine kl (K := hK) 105 (.int .i64 ((k + 1 : Nat) : Int)) rfl rfl (by decide) rfl (ex_move _ _ rfl (hK.ev 114 _ rfl)) ?_
      clear hK; intro a hK
      refine wpList_nil ?_
      exact ⟨hK.sub _ ⟨rfl, rfl, rfl, rfl, trivial⟩, hW, hO⟩
    clear hK hW hO
    intro a w ⟨hK, hW, hO⟩
    refine wp_seq (wp_region_lit ?_)
    refine kl (K := hK) 106 (.bool false) rfl rfl (by decide) rfl (ex_lssF _ _ 16 16 _ rfl (hK.ev 105 _ rfl) rfl (by decide)) ?_
    clear hK; intro a hK
    refine wpList_nil ?_
    refine wp_seq (wp_cond_false (hK.ev 106 _ rfl) (wp_exit ?_))
    repeat (with_reducible refine then_exit ?_)
    with_reducible refine inBlock_exit ?_
    refine wp_region_lit ?_
    refine kl (K := hK) 52 (.int .i64 ((r : Nat) : Int)) rfl rfl (by decide) rfl (ex_move _ _ rfl (hK.ev 14 _ rfl)) ?_
    clear hK; intro a hK
    refine kl (K := hK) 53 (.int .i64 ((r + 1 : Nat) : Int)) rfl rfl (by decide) rfl (ex_addN _ _ r 1 _ rfl (hK.ev 52 _ rfl) rfl (by omega)) ?_
    clear hK; intro a hK
    refine kl (K := hK) 14 (.int .i64 ((r + 1 : Nat) : Int)) rfl rfl (by decide) rfl (ex_assign _ _ rfl (hK.ev 53 _ rfl)) ?_
    clear hK; intro a hK
    refine wpList_nil ?_
    exact ⟨hK.sub _ ⟨rfl, trivial⟩, hW⟩
  clear hK hW
  intro a w ⟨hK, hW⟩
  refine wp_seq (wp_seq (wp_region_lit ?_))
  refine kl (K := hK) 50 (.int .i64 ((7 : Nat) : Int)) rfl rfl (by decide) rfl (ex_move _ _ rfl (hK.ev 14 _ rfl)) ?_
  clear hK; intro a hK
  refine kl (K := hK) 51 (.bool false) rfl rfl (by decide) rfl (ex_lssF _ _ 7 7 _ rfl (hK.ev 50 _ rfl) rfl (by decide)) ?_
  clear hK; intro a hK
  refine wpList_nil ?_
  refine wp_cond_false (hK.ev 51 _ rfl) (wp_exit ?_)
  repeat (with_reducible refine then_exit ?_)
  with_reducible refine inBlock_exit ?_
  replace hK := hK.nil
  have hsp : specC H M ctr bl fl = finS H (rV V M 7).1 8 := by rw [← hv1]; rfl
  generalize (rV V M 7).1 = V4 at hW hsp
  generalize (rV V M 7).2 = M4 at hW
  refine wp_seq (wp_seq (wp_region_lit ?_))
  refine kl (K := hK) 115 (.int .i64 ((0 : Nat) : Int)) rfl rfl (by decide) rfl (ex_move _ _ rfl rfl) ?_
  clear hK; intro a hK
  refine wpList_nil ?_
  refine wp_block (wp_count 8 (fun k a w => K5 (b5 w0.heap.size ctr bl fl) [(115, .int .i64 (k : Int))] a ∧ Wd w0 w H (finS H V4 k) M4) ⟨hK.sub _ ⟨rfl, trivial⟩, hW⟩ ?_ ?_)
  · clear hK hW
    intro k hk a w ⟨hK, hW⟩
    rw [show finS H V4 (k + 1) = ((finS H V4 k).set k (xr (at_ (finS H V4 k) k) (at_ (finS H V4 k) (8 + k)))).set (8 + k) (xr (at_ ((finS H V4 k).set k (xr (at_ (finS H V4 k) k) (at_ (finS H V4 k) (8 + k)))) (8 + k)) (at_ H k)) from rfl]
    generalize finS H V4 k = F at hW ⊢
    refine wp_seq (wp_region_lit ?_)
    refine kl (K := hK) 116 (.bool true) rfl rfl (by decide) rfl (ex_lssT _ _ k 8 _ rfl (hK.ev 115 _ rfl) rfl hk) ?_
    clear hK; intro a hK
    refine wpList_nil ?_
    refine wp_seq (wp_cond_true (hK.ev 116 _ rfl) (wp_skip ?_))
    refine wp_seq (wp_block (wp_seq (wp_region_lit ?_)))
    refine kl (K := hK) 117 (.int .i64 ((k : Nat) : Int)) rfl rfl (by decide) rfl (ex_move _ _ rfl (hK.ev 115 _ rfl)) ?_
    clear hK; intro a hK
    refine kl (K := hK) 20 (.int .i64 ((k : Nat) : Int)) rfl rfl (by decide) rfl (ex_assign _ _ rfl (hK.ev 117 _ rfl)) ?_
    clear hK; intro a hK
    refine wpList_nil ?_
    refine wp_seq (wp_region_still_tail 10 (by kernel_rfl) (by as_aux_lemma => kernel_rfl) ?_)
    change wpStill Try.prog _ (w.drewN 1) (fun a' => wpList Try.prog _ _ _ a' (w.drewN 1)) _ _
    replace hW := hW.drewN 1
    generalize w.drewN 1 = w at hW ⊢
    simp only [List.take_succ_cons, List.take_zero, List.drop_succ_cons, List.drop_zero]
    refine ksq (K := hK) 118 (.int .i64 ((k : Nat) : Int)) rfl rfl (by decide) rfl (ex_move _ _ rfl (hK.ev 20 _ rfl) _) ?_
    clear hK; intro a hK
    refine ksq (K := hK) 119 (.int .i64 ((k : Nat) : Int)) rfl rfl (by decide) rfl (ex_move _ _ rfl (hK.ev 20 _ rfl) _) ?_
    clear hK; intro a hK
    refine ksq (K := hK) 120 (.pointer (some ⟨w0.heap.size + 3, k, none⟩)) rfl rfl (by decide) rfl (ex_index _ _ (w0.heap.size + 3) k rfl (by omega) (hK.base 11 _ rfl) (hK.ev 119 _ rfl) _) ?_
    clear hK; intro a hK
    refine ksq (K := hK) 121 (.int .u32 (at_ F k)) rfl rfl (by decide) rfl (ex_load _ _ _ rfl (hK.ev 120 _ rfl) (hW.cellV (by omega))) ?_
    clear hK; intro a hK
    refine ksq (K := hK) 122 (.int .i64 ((k : Nat) : Int)) rfl rfl (by decide) rfl (ex_move _ _ rfl (hK.ev 20 _ rfl) _) ?_
    clear hK; intro a hK
    refine ksq (K := hK) 123 (.int .i64 ((8 + k : Nat) : Int)) rfl rfl (by decide) rfl (ex_addN _ _ 8 k _ rfl rfl (hK.ev 122 _ rfl) (by omega) _) ?_
    clear hK; intro a hK
    refine ksq (K := hK) 124 (.pointer (some ⟨w0.heap.size + 3, 8 + k, none⟩)) rfl rfl (by decide) rfl (ex_index _ _ (w0.heap.size + 3) (8 + k) rfl (by omega) (hK.base 11 _ rfl) (hK.ev 123 _ rfl) _) ?_
    clear hK; intro a hK
    refine ksq (K := hK) 125 (.int .u32 (at_ F (8 + k))) rfl rfl (by decide) rfl (ex_load _ _ _ rfl (hK.ev 124 _ rfl) (hW.cellV (by omega))) ?_
    clear hK; intro a hK
    refine ksq (K := hK) 126 (.int .u32 (xr (at_ F k) (at_ F (8 + k)))) rfl rfl (by decide) rfl (ex_xor _ _ _ _ _ rfl (hK.ev 121 _ rfl) (hK.ev 125 _ rfl) _) ?_
    clear hK; intro a hK
    refine ksq (K := hK) 127 (.pointer (some ⟨w0.heap.size + 3, k, none⟩)) rfl rfl (by decide) rfl (ex_index _ _ (w0.heap.size + 3) k rfl (by omega) (hK.base 11 _ rfl) (hK.ev 118 _ rfl) _) ?_
    clear hK; intro a hK
    refine wpStill_nil ?_
    refine kstoreV (K := hK) hW (k) 127 126 (xr (at_ F k) (at_ F (8 + k))) rfl rfl rfl (by omega) rfl rfl ?_
    clear hW; intro w hW
    refine wpList_nil ?_
    generalize F.set k (xr (at_ F k) (at_ F (8 + k))) = G at hW ⊢
    refine wp_region_still_tail 11 (by kernel_rfl) (by as_aux_lemma => kernel_rfl) ?_
    change wpStill Try.prog _ (w.drewN 1) (fun a' => wpList Try.prog _ _ _ a' (w.drewN 1)) _ _
    replace hW := hW.drewN 1
    generalize w.drewN 1 = w at hW ⊢
    simp only [List.take_succ_cons, List.take_zero, List.drop_succ_cons, List.drop_zero]
    refine ksq (K := hK) 128 (.int .i64 ((k : Nat) : Int)) rfl rfl (by decide) rfl (ex_move _ _ rfl (hK.ev 20 _ rfl) _) ?_
    clear hK; intro a hK
    refine ksq (K := hK) 129 (.int .i64 ((8 + k : Nat) : Int)) rfl rfl (by decide) rfl (ex_addN _ _ 8 k _ rfl rfl (hK.ev 128 _ rfl) (by omega) _) ?_
    clear hK; intro a hK
    refine ksq (K := hK) 130 (.int .i64 ((k : Nat) : Int)) rfl rfl (by decide) rfl (ex_move _ _ rfl (hK.ev 20 _ rfl) _) ?_
    clear hK; intro a hK
    refine ksq (K := hK) 131 (.int .i64 ((8 + k : Nat) : Int)) rfl rfl (by decide) rfl (ex_addN _ _ 8 k _ rfl rfl (hK.ev 130 _ rfl) (by omega) _) ?_
    clear hK; intro a hK
    refine ksq (K := hK) 132 (.pointer (some ⟨w0.heap.size + 3, 8 + k, none⟩)) rfl rfl (by decide) rfl (ex_index _ _ (w0.heap.size + 3) (8 + k) rfl (by omega) (hK.base 11 _ rfl) (hK.ev 131 _ rfl) _) ?_
    clear hK; intro a hK
    refine ksq (K := hK) 133 (.int .u32 (at_ G (8 + k))) rfl rfl (by decide) rfl (ex_load _ _ _ rfl (hK.ev 132 _ rfl) (hW.cellV (by omega))) ?_
    clear hK; intro a hK
    refine ksq (K := hK) 134 (.int .i64 ((k : Nat) : Int)) rfl rfl (by decide) rfl (ex_move _ _ rfl (hK.ev 20 _ rfl) _) ?_
    clear hK; intro a hK
    refine ksq (K := hK) 135 (.pointer (some ⟨w0.heap.size, k, none⟩)) rfl rfl (by decide) rfl (ex_index8 _ _ w0.heap.size k rfl hk (hK.base 5 _ rfl) (hK.ev 134 _ rfl) _) ?_
    clear hK; intro a hK
    refine ksq (K := hK) 136 (.int .u32 (at_ H k)) rfl rfl (by decide) rfl (ex_load _ _ _ rfl (hK.ev 135 _ rfl) (hW.cellH hk)) ?_
    clear hK; intro a hK
    refine ksq (K := hK) 137 (.int .u32 (xr (at_ G (8 + k)) (at_ H k))) rfl rfl (by decide) rfl (ex_xor _ _ _ _ _ rfl (hK.ev 133 _ rfl) (hK.ev 136 _ rfl) _) ?_
    clear hK; intro a hK
    refine ksq (K := hK) 138 (.pointer (some ⟨w0.heap.size + 3, 8 + k, none⟩)) rfl rfl (by decide) rfl (ex_index _ _ (w0.heap.size + 3) (8 + k) rfl (by omega) (hK.base 11 _ rfl) (hK.ev 129 _ rfl) _) ?_
    clear hK; intro a hK
    refine wpStill_nil ?_
    refine kstoreV (K := hK) hW (8 + k) 138 137 (xr (at_ G (8 + k)) (at_ H k)) rfl rfl rfl (by omega) rfl rfl ?_
    clear hW; intro w hW
    refine wpList_nil ?_
    refine wp_region_lit ?_
    refine kl (K := hK) 139 (.int .i64 ((k + 1 : Nat) : Int)) rfl rfl (by decide) rfl (ex_addN _ _ k 1 _ rfl (hK.ev 115 _ rfl) rfl (by omega)) ?_
    clear hK; intro a hK
    refine kl (K := hK) 115 (.int .i64 ((k + 1 : Nat) : Int)) rfl rfl (by decide) rfl (ex_move _ _ rfl (hK.ev 139 _ rfl)) ?_
    clear hK; intro a hK
    refine wpList_nil ?_
    exact ⟨hK.sub _ ⟨rfl, trivial⟩, hW⟩
  clear hK hW
  intro a w ⟨hK, hW⟩
  refine wp_seq (wp_region_lit ?_)
  refine kl (K := hK) 116 (.bool false) rfl rfl (by decide) rfl (ex_lssF _ _ 8 8 _ rfl (hK.ev 115 _ rfl) rfl (by decide)) ?_
  clear hK; intro a hK
  refine wpList_nil ?_
  refine wp_seq (wp_cond_false (hK.ev 116 _ rfl) (wp_exit ?_))
  repeat (with_reducible refine then_exit ?_)
  with_reducible refine inBlock_exit ?_
  rw [← hsp] at hW
  have lS := hW.lv
  refine wp_seq (wp_region_lit ?_)
  refine klw (K := hK) 140 (.agg (vals (specC H M ctr bl fl))) rfl rfl (by decide) rfl (ex_row 24 _ (w0.heap.size + 3) 24 _ 16 22 rfl (hK.base 11 _ rfl) hW.hv Try.underlying24 (by rw [vals_size, lS]; exact info24)) ?_
  clear hK; intro a hK
  refine wpList_store_row rfl 24 _ _ rfl (w0.heap.size + 2) (vals (specC H M ctr bl fl)) (hK.base 10 _ rfl) (hK.ev 140 _ rfl) 24 _ hW.hr (by rw [vals_size, lS]; exact info24) (zrow_size _ lS) (vals_one _) ?_
  change wpList Try.prog _ _ _ a _
  refine wpList_nil ?_
  refine wp_ret ?_
  rw [← hQ]
  exact bodyPost_ret (v := .agg (vals (specC H M ctr bl fl))) (results_cell_row Try.results5 _ _ (w0.heap.size + 2) 24 _ (0, 0) _ (hK.base 10 _ rfl) (setRow_heap _ _ _ _ _ _ hW.hr) Try.underlying24 rfl (by rw [vals_size, lS]; exact info24)) hK.defers ⟨rfl, grown_setRow hW.grown (by omega) _⟩
end
end Go.Proofs.Ytfaopfaghnefdaa
