/-
  spec.stir, called on a block of sixteen words at four different places below 16, leaves 'gs' of it, and changes nothing else. Condition: as said.
-/
import Derived.Test.YtfaopfaghnefdaaC
namespace Go.Proofs.Ytfaopfaghnefdaa
section
open Go.RowKit
set_option linter.unusedSimpArgs false
set_option linter.unusedVariables false
/-! ### 'right' -/
set_option maxHeartbeats 400000 in
theorem right16 (x : Int) (w : World) : Calls Try.prog 10 #[.int .u32 x, .int .i64 16] w fun e w' => e = .returned (.int .u32 (rr 16 x)) ∧ w' = w.drewN 1 := by
  go_enter Try.func10, Try.ntmps10
  go_wp2
  go_region
  all_goals go_wp2
  all_goals go_ret
  all_goals exact ⟨rfl, rfl⟩
set_option maxHeartbeats 400000 in
theorem right12 (x : Int) (w : World) : Calls Try.prog 10 #[.int .u32 x, .int .i64 12] w fun e w' => e = .returned (.int .u32 (rr 12 x)) ∧ w' = w.drewN 1 := by
  go_enter Try.func10, Try.ntmps10
  go_wp2
  go_region
  all_goals go_wp2
  all_goals go_ret
  all_goals exact ⟨rfl, rfl⟩
set_option maxHeartbeats 400000 in
theorem right8 (x : Int) (w : World) : Calls Try.prog 10 #[.int .u32 x, .int .i64 8] w fun e w' => e = .returned (.int .u32 (rr 8 x)) ∧ w' = w.drewN 1 := by
  go_enter Try.func10, Try.ntmps10
  go_wp2
  go_region
  all_goals go_wp2
  all_goals go_ret
  all_goals exact ⟨rfl, rfl⟩
set_option maxHeartbeats 400000 in
theorem right7 (x : Int) (w : World) : Calls Try.prog 10 #[.int .u32 x, .int .i64 7] w fun e w' => e = .returned (.int .u32 (rr 7 x)) ∧ w' = w.drewN 1 := by
  go_enter Try.func10, Try.ntmps10
  go_wp2
  go_region
  all_goals go_wp2
  all_goals go_ret
  all_goals exact ⟨rfl, rfl⟩
/-! ### operations that hand a value on, in whatever world -/
section
variable {a : Act} {o : Oper} {P : Program}
theorem ex_move (x : Operand) (v : Value) (h : o.op = .move x) (hx : a.eval x = v) : ∀ w, (execOp a.eval o).run P w = .ok (.value v) w := by
  intro w; rw [BigFrame.run_move x h, hx]
theorem ex_nil (x : Operand) (p : Addr) (h : o.op = .nilCheck x) (hx : a.eval x = .pointer (some p)) : ∀ w, (execOp a.eval o).run P w = .ok (.value (.pointer (some p))) w := by
  intro w; unfold execOp; rw [h]; simp [hx]
theorem ex_index (x y : Operand) (m p : Nat) (h : o.op = .indexAddr 24 x y) (hp : p < 16) (hx : a.eval x = .pointer (some ⟨m, 0, none⟩)) (hy : a.eval y = .int .i64 (p : Int)) :
    ∀ w, (execOp a.eval o).run Try.prog w = .ok (.value (.pointer (some ⟨m, p, none⟩))) w := by
  intro w; unfold execOp; rw [h]
  show (Sem.run Try.prog ((do pure (Next.value (← Instr.indexAt 24 (a.eval x) (a.eval y)))) : Sem Next) w) = _
  rw [hx, hy, Sem.run_bind, run_index24 m p hp w]
  rfl
theorem ex_xor (x y : Operand) (m n : Int) (t : TypeId) (h : o.op = .binOp .xor 22 x y t) (hx : a.eval x = .int .u32 m) (hy : a.eval y = .int .u32 n) :
    ∀ w, (execOp a.eval o).run Try.prog w = .ok (.value (.int .u32 (xr m n))) w := by
  intro w; unfold execOp; rw [h]
  dsimp only
  rw [hx, hy]
  simp [go_sem, xr]
theorem ex_add (x y : Operand) (m n : Int) (t : TypeId) (h : o.op = .binOp .add 22 x y t) (hx : a.eval x = .int .u32 m) (hy : a.eval y = .int .u32 n) :
    ∀ w, (execOp a.eval o).run Try.prog w = .ok (.value (.int .u32 (pl m n))) w := by
  intro w; unfold execOp; rw [h]
  dsimp only
  rw [hx, hy]
  simp [go_sem, pl, IntKind.wrap_u32]
theorem qa_of {C : World → Prop} {v : Value} (h : ∀ w, (execOp a.eval o).run P w = .ok (.value v) w) : ∀ w, C w → o.quietAt P a C w v := by
  intro w _; unfold Oper.quietAt; rw [h w]; exact ⟨rfl, rfl⟩
end
/-! ### a region whose order is drawn, by hand -/
section
variable {P : Program} {ops : List Oper} {Q : Exit → Act → World → Prop} {a : Act} {w : World} {fuel : Nat} {listed : Array Bool}
def okTake (ops : Array Oper) (listed : Array Bool) (i : Nat) : Bool := Region.free .any ops listed i && (Region.ready .any ops listed).contains i
theorem get_strip {i : Nat} {p : Oper} (h : (ops.map strip)[i]? = some p) : ∃ o, ops.toArray[i]? = some o ∧ strip o = p := by
  rw [List.getElem?_map] at h
  cases ho : ops[i]? with
  | none => rw [ho] at h; cases h
  | some o => rw [ho] at h; exact ⟨o, by simpa using ho, Option.some.inj h⟩
theorem wa_take {N : Nat} {f : Nat → Value} (hS : Sees N a f) (i : Nat) (p : Oper) (d : Nat) (v : Value) (hi : (ops.map strip)[i]? = some p) (hs : Region.noSelect ops.toArray = true) (hf : okTake ops.toArray listed i = true)
    (hQ : ∀ c a d v w, Q (.panic c) (a.put d v) w → Q (.panic c) a w) (hg : p.guard = none) (hd : p.dst = some d) (hdN : d < N) (hv : ∀ w, (execOp a.eval p).run P w = .ok (.value v) w)
    (h : ∀ a', Sees N a' (upd f d v) → wpAny P .any ops.toArray Q fuel (listed.setIfInBounds i true) a' w) : wpAny P .any ops.toArray Q (fuel + 1) listed a w := by
  obtain ⟨o, ho, rfl⟩ := get_strip hi
  simp only [okTake, Bool.and_eq_true] at hf
  refine wpAny_take ho hs hf.1 hf.2 (fun c a w => hQ c a _ _ w) (.inl ⟨?_, hv⟩) (h _ ?_)
  · have hg' : o.guard = none := hg
    simp [Region.wanted, hg']
  · have hd' : o.dst = some d := hd
    rw [hd']; exact hS.put d v hdN
/-- whichever comes up: one operation alone -/
theorem wa_one (i : Nat) (p : Oper) (hi : (ops.map strip)[i]? = some p) (hr : Region.ready .any ops.toArray listed = [i]) (hg : p.guard = none)
    (h : p.wp P a w (wpAny P .any ops.toArray Q fuel (listed.setIfInBounds i true)) Q) : wpAny P .any ops.toArray Q (fuel + 1) listed a w := by
  obtain ⟨o, ho, rfl⟩ := get_strip hi
  refine wpAny_all hr (by simp) fun j hj => ?_
  obtain rfl : j = i := by simpa using hj
  have hg' : o.guard = none := hg
  unfold wpOp
  rw [ho]
  simp only [Region.wanted, hg', if_true]
  exact .inl h
theorem wa_two (i j : Nat) (p q : Oper) (hi : (ops.map strip)[i]? = some p) (hj : (ops.map strip)[j]? = some q) (hr : Region.ready .any ops.toArray listed = [i, j]) (hg : p.guard = none) (hg' : q.guard = none)
    (h : p.wp P a w (wpAny P .any ops.toArray Q fuel (listed.setIfInBounds i true)) Q) (h' : q.wp P a w (wpAny P .any ops.toArray Q fuel (listed.setIfInBounds j true)) Q) : wpAny P .any ops.toArray Q (fuel + 1) listed a w := by
  obtain ⟨o, ho, rfl⟩ := get_strip hi
  obtain ⟨u, hu, rfl⟩ := get_strip hj
  refine wpAny_all hr (by simp) fun k hk => ?_
  have hg1 : o.guard = none := hg
  have hg2 : u.guard = none := hg'
  rcases (by simpa using hk : k = i ∨ k = j) with rfl | rfl
  · unfold wpOp
    rw [ho]
    simp only [Region.wanted, hg1, if_true]
    exact .inl h
  · unfold wpOp
    rw [hu]
    simp only [Region.wanted, hg2, if_true]
    exact .inl h'
/-- an operation that hands a value on, carried out -/
theorem wp_val {N : Nat} {f : Nat → Value} {o : Oper} {K : Act → World → Prop} (hS : Sees N a f) (d : Nat) (v : Value) (hd : o.dst = some d) (hdN : d < N) (hv : (execOp a.eval o).run P w = .ok (.value v) w)
    (h : ∀ a', Sees N a' (upd f d v) → K a' w) : o.wp P a w K Q := by
  unfold Oper.wp
  rw [hv]
  show K (a.put o.dst v) w
  rw [hd]
  exact h _ (hS.put d v hdN)
theorem wp_load22 {N : Nat} {f : Nat → Value} {o : Oper} {K : Act → World → Prop} (hS : Sees N a f) (d : Nat) (x : Operand) (p : Addr) (n : Int) (ho : o.op = .load 22 x) (hd : o.dst = some d) (hdN : d < N) (hx : a.eval x = .pointer (some p)) (hc : w.cell? p = some (.int .u32 n))
    (h : ∀ a', Sees N a' (upd f d (.int .u32 n)) → K a' w) : o.wp Try.prog a w K Q := by
  refine wp_val hS d _ hd hdN ?_ h
  unfold execOp
  rw [ho]
  dsimp only
  rw [hx]
  simp [go_sem, hc]
theorem wp_store22 {o : Oper} {K : Act → World → Prop} (x y : Operand) (p : Addr) (v : Value) (n : Int) (ho : o.op = .store 22 x y) (hd : o.dst = none)
    (hx : a.eval x = .pointer (some p)) (hy : a.eval y = .int .u32 n) (hc : w.cell? p = some v) (hf : w.frozen? p = false) (h : K a (w.setCell p (.int .u32 n))) : o.wp Try.prog a w K Q := by
  unfold Oper.wp execOp
  rw [ho]
  dsimp only
  rw [hx, hy]
  simp [go_sem, hc, hf, Oper.upon, hd]
  exact h
theorem wp_call {N : Nat} {g : Nat → Value} {o : Oper} {K : Act → World → Prop} (hS : Sees N a g) (d : Nat) (f : FuncId) (xs : Array Operand) (ts : Array TypeId) (args : Array Value) (v : Value) (W : World → Prop) (ho : o.op = .call { callee := .value (.func f), args := xs, argTypes := ts })
    (hd : o.dst = some d) (hdN : d < N) (hx : xs.map a.eval = args) (hf : ∀ w, (callFunc f args).run P w = .ok (.enter f args) w) (hc : Calls P f args w (fun e w'' => e = .returned v ∧ W w''))
    (h : ∀ a' w', W w' → Sees N a' (upd g d v) → K a' w') : o.wp P a w K Q := by
  unfold Oper.wp execOp
  rw [ho]
  have h2 := hf w
  dsimp only
  simp only [resolve, hx, Deferred.ofValue, Act.eval, invoke, Sem.run_bind, Sem.run_pure, Result.andThen_ok, Array.append_empty, Array.empty_append, h2]
  refine hc.mono ?_
  rintro e w'' ⟨rfl, hw⟩
  show K (a.put o.dst v) w''
  rw [hd]
  exact h _ _ hw (hS.put d v hdN)
end
theorem enter10 (args : Array Value) (w : World) : (callFunc 10 args).run Try.prog w = .ok (.enter 10 args) w := by
  simp [go_sem]

/-! ### 'stir' -/
/-- The frame of 'stir', seen by what is read later: its seven parameters. -/
structure Fs (base : Nat → Value) (a : Act) : Prop where
  size : a.tmps.size = 142
  defers : a.defers = []
  ev : ∀ n : Nat, n < 7 → a.eval (.tmp n) = base n
theorem Fs.sees {base : Nat → Value} {a : Act} (h : Fs base a) : Sees 142 a (fun n => a.eval (.tmp n)) := ⟨h.size, h.defers, fun _ _ => rfl⟩
theorem Fs.keep {base : Nat → Value} {a a' : Act} {f : Nat → Value} (h : Fs base a) (h' : Sees 142 a' f) (hf : ∀ n, n < 7 → f n = a.eval (.tmp n)) : Fs base a' :=
  ⟨h'.size, h'.defers, fun n hn => by rw [h'.ev n (by omega), hf n hn, h.ev n hn]⟩

/-- the operations of one statement that adds a third number -/
def sAOps (t si sj sz : Nat) : List Oper := [
  O t (.move (.tmp 0)) 31, O (t+1) (.move (.tmp si)) 3, O (t+2) (.move (.tmp 0)) 31, O (t+3) (.move (.tmp si)) 3,
  O (t+4) (.nilCheck (.tmp (t+2))) 0, O (t+5) (.indexAddr 24 (.tmp (t+4)) (.tmp (t+3))) 0, O (t+6) (.load 22 (.tmp (t+5))) 22, O (t+7) (.move (.tmp 0)) 31,
  O (t+8) (.move (.tmp sj)) 3, O (t+9) (.nilCheck (.tmp (t+7))) 0, O (t+10) (.indexAddr 24 (.tmp (t+9)) (.tmp (t+8))) 0, O (t+11) (.load 22 (.tmp (t+10))) 22,
  O (t+12) (.binOp .add 22 (.tmp (t+6)) (.tmp (t+11)) 22) 22, O (t+13) (.move (.tmp sz)) 22, O (t+14) (.binOp .add 22 (.tmp (t+12)) (.tmp (t+13)) 22) 22, O (t+15) (.nilCheck (.tmp t)) 0,
  O (t+16) (.indexAddr 24 (.tmp (t+15)) (.tmp (t+1))) 0]
def sALast (t : Nat) : List Oper := [{ dst := none, op := .store 22 (.tmp (t+16)) (.tmp (t+14)), type := 0, pos := "", after := #[], guard := none }]
set_option maxHeartbeats 1000000 in
theorem sA {Q : Exit → Act → World → Prop} {a : Act} {w : World} {v T : Nat} {V : List Int} {base : Nat → Value} {id : Nat} {ops : List Oper} (t si sj sz I J : Nat) (z : Int) (hops : (ops.take 17).map strip = sAOps t si sj sz) (hlast : (ops.drop 17).map strip = sALast t)
    (hB : Region.lexTailB .any ops.toArray 17 = true) (ht : 7 ≤ t) (ht' : t + 17 ≤ 142) (hsi : si < 7) (hsj : sj < 7) (hsz : sz < 7) (hI : I < 16) (hJ : J < 16)
    (hF : Fs base a) (h0 : base 0 = .pointer (some ⟨v, 0, none⟩)) (hi : base si = .int .i64 (I : Int)) (hj : base sj = .int .i64 (J : Int)) (hz : base sz = .int .u32 z)
    (hV : V.length = 16) (hs : w.heap[v]? = some (.cells (vals V) T (0, 0)))
    (h : ∀ a', Fs base a' → Q .normal a' ((w.setRow v (vals (V.set I (pl (pl (at_ V I) (at_ V J)) z)))).drewN 1)) :
    (Code.region id ops.toArray true).wp Try.prog Q a w := by
  refine wp_region_still_tail 17 (by kernel_rfl) hB (wpStill_strip _ _ ?_)
  rw [hops]
  have hcell : ∀ n, n < 16 → (w.drewN 1).cell? ⟨v, n, none⟩ = some (.int .u32 (at_ V n)) := fun n hn => (cell_of_row w v n _ T _ hs).trans (vals_get V n (by omega))
  have hfro : (w.drewN 1).frozen? ⟨v, I, none⟩ = false := frozen_of_row w v I (vals V) T hs
  change wpStill Try.prog ops.toArray (w.drewN 1) (fun a' => wpList Try.prog ops.toArray Q (ops.drop 17) a' (w.drewN 1)) _ _
  have hS0 := hF.sees
  unfold sAOps
  refine ws_step hS0 (t) (.pointer (some ⟨v, 0, none⟩)) rfl rfl (by omega) (qa_of (ex_move _ _ rfl ((hS0.ev (0) (by omega)).trans ((hF.ev 0 (by omega)).trans h0)))) ?_
  intro a1 hS1
  refine ws_step hS1 (t+1) (.int .i64 (I : Int)) rfl rfl (by omega) (qa_of (ex_move _ _ rfl ((hS1.ev (si) (by omega)).trans (by simp (discharger := omega) only [upd_same, upd_other]; exact ((hF.ev si (by omega)).trans hi))))) ?_
  intro a2 hS2
  refine ws_step hS2 (t+2) (.pointer (some ⟨v, 0, none⟩)) rfl rfl (by omega) (qa_of (ex_move _ _ rfl ((hS2.ev (0) (by omega)).trans (by simp (discharger := omega) only [upd_same, upd_other]; exact ((hF.ev 0 (by omega)).trans h0))))) ?_
  intro a3 hS3
  refine ws_step hS3 (t+3) (.int .i64 (I : Int)) rfl rfl (by omega) (qa_of (ex_move _ _ rfl ((hS3.ev (si) (by omega)).trans (by simp (discharger := omega) only [upd_same, upd_other]; exact ((hF.ev si (by omega)).trans hi))))) ?_
  intro a4 hS4
  refine ws_step hS4 (t+4) (.pointer (some ⟨v, 0, none⟩)) rfl rfl (by omega) (qa_of (ex_nil _ _ rfl ((hS4.ev (t+2) (by omega)).trans (by simp (discharger := omega) only [upd_same, upd_other])))) ?_
  intro a5 hS5
  refine ws_step hS5 (t+5) (.pointer (some ⟨v, I, none⟩)) rfl rfl (by omega) (qa_of (ex_index _ _ v I rfl hI ((hS5.ev (t+4) (by omega)).trans (by simp (discharger := omega) only [upd_same, upd_other])) ((hS5.ev (t+3) (by omega)).trans (by simp (discharger := omega) only [upd_same, upd_other])))) ?_
  intro a6 hS6
  refine ws_step hS6 (t+6) (.int .u32 (at_ V I)) rfl rfl (by omega) (qa_load _ ⟨v, I, none⟩ _ rfl ((hS6.ev (t+5) (by omega)).trans (by simp (discharger := omega) only [upd_same, upd_other])) (by rintro _ rfl; exact hcell I hI)) ?_
  intro a7 hS7
  refine ws_step hS7 (t+7) (.pointer (some ⟨v, 0, none⟩)) rfl rfl (by omega) (qa_of (ex_move _ _ rfl ((hS7.ev (0) (by omega)).trans (by simp (discharger := omega) only [upd_same, upd_other]; exact ((hF.ev 0 (by omega)).trans h0))))) ?_
  intro a8 hS8
  refine ws_step hS8 (t+8) (.int .i64 (J : Int)) rfl rfl (by omega) (qa_of (ex_move _ _ rfl ((hS8.ev (sj) (by omega)).trans (by simp (discharger := omega) only [upd_same, upd_other]; exact ((hF.ev sj (by omega)).trans hj))))) ?_
  intro a9 hS9
  refine ws_step hS9 (t+9) (.pointer (some ⟨v, 0, none⟩)) rfl rfl (by omega) (qa_of (ex_nil _ _ rfl ((hS9.ev (t+7) (by omega)).trans (by simp (discharger := omega) only [upd_same, upd_other])))) ?_
  intro a10 hS10
  refine ws_step hS10 (t+10) (.pointer (some ⟨v, J, none⟩)) rfl rfl (by omega) (qa_of (ex_index _ _ v J rfl hJ ((hS10.ev (t+9) (by omega)).trans (by simp (discharger := omega) only [upd_same, upd_other])) ((hS10.ev (t+8) (by omega)).trans (by simp (discharger := omega) only [upd_same, upd_other])))) ?_
  intro a11 hS11
  refine ws_step hS11 (t+11) (.int .u32 (at_ V J)) rfl rfl (by omega) (qa_load _ ⟨v, J, none⟩ _ rfl ((hS11.ev (t+10) (by omega)).trans (by simp (discharger := omega) only [upd_same, upd_other])) (by rintro _ rfl; exact hcell J hJ)) ?_
  intro a12 hS12
  refine ws_step hS12 (t+12) (.int .u32 (pl (at_ V I) (at_ V J))) rfl rfl (by omega) (qa_of (ex_add _ _ _ _ _ rfl ((hS12.ev (t+6) (by omega)).trans (by simp (discharger := omega) only [upd_same, upd_other])) ((hS12.ev (t+11) (by omega)).trans (by simp (discharger := omega) only [upd_same, upd_other])))) ?_
  intro a13 hS13
  refine ws_step hS13 (t+13) (.int .u32 z) rfl rfl (by omega) (qa_of (ex_move _ _ rfl ((hS13.ev (sz) (by omega)).trans (by simp (discharger := omega) only [upd_same, upd_other]; exact ((hF.ev sz (by omega)).trans hz))))) ?_
  intro a14 hS14
  refine ws_step hS14 (t+14) (.int .u32 (pl (pl (at_ V I) (at_ V J)) z)) rfl rfl (by omega) (qa_of (ex_add _ _ _ _ _ rfl ((hS14.ev (t+12) (by omega)).trans (by simp (discharger := omega) only [upd_same, upd_other])) ((hS14.ev (t+13) (by omega)).trans (by simp (discharger := omega) only [upd_same, upd_other])))) ?_
  intro a15 hS15
  refine ws_step hS15 (t+15) (.pointer (some ⟨v, 0, none⟩)) rfl rfl (by omega) (qa_of (ex_nil _ _ rfl ((hS15.ev (t) (by omega)).trans (by simp (discharger := omega) only [upd_same, upd_other])))) ?_
  intro a16 hS16
  refine ws_step hS16 (t+16) (.pointer (some ⟨v, I, none⟩)) rfl rfl (by omega) (qa_of (ex_index _ _ v I rfl hI ((hS16.ev (t+15) (by omega)).trans (by simp (discharger := omega) only [upd_same, upd_other])) ((hS16.ev (t+1) (by omega)).trans (by simp (discharger := omega) only [upd_same, upd_other])))) ?_
  intro a17 hS17
  refine wpStill_nil (wpList_strip _ _ _ ?_)
  rw [hlast]
  unfold sALast
  refine wl_store _ _ ⟨v, I, none⟩ _ (pl (pl (at_ V I) (at_ V J)) z) rfl rfl rfl ((hS17.ev (t+16) (by omega)).trans (by simp (discharger := omega) only [upd_same, upd_other])) ((hS17.ev (t+14) (by omega)).trans (by simp (discharger := omega) only [upd_same, upd_other])) (hcell I hI) hfro ?_
  refine wpList_nil ?_
  rw [setCell_eq_setRow (w.drewN 1) v I (vals V) T (0, 0) _ hs, vals_set, setRow_drew]
  refine h _ (hF.keep hS17 (fun n hn => ?_))
  simp (discharger := omega) only [upd_other]

/-- the operations of one statement that adds two words -/
def sCOps (t si sj : Nat) : List Oper := [
  O t (.move (.tmp 0)) 31, O (t+1) (.move (.tmp si)) 3, O (t+2) (.move (.tmp 0)) 31, O (t+3) (.move (.tmp si)) 3,
  O (t+4) (.nilCheck (.tmp (t+2))) 0, O (t+5) (.indexAddr 24 (.tmp (t+4)) (.tmp (t+3))) 0, O (t+6) (.load 22 (.tmp (t+5))) 22, O (t+7) (.move (.tmp 0)) 31,
  O (t+8) (.move (.tmp sj)) 3, O (t+9) (.nilCheck (.tmp (t+7))) 0, O (t+10) (.indexAddr 24 (.tmp (t+9)) (.tmp (t+8))) 0, O (t+11) (.load 22 (.tmp (t+10))) 22,
  O (t+12) (.binOp .add 22 (.tmp (t+6)) (.tmp (t+11)) 22) 22, O (t+13) (.nilCheck (.tmp t)) 0, O (t+14) (.indexAddr 24 (.tmp (t+13)) (.tmp (t+1))) 0]
def sCLast (t : Nat) : List Oper := [{ dst := none, op := .store 22 (.tmp (t+14)) (.tmp (t+12)), type := 0, pos := "", after := #[], guard := none }]
set_option maxHeartbeats 1000000 in
theorem sC {Q : Exit → Act → World → Prop} {a : Act} {w : World} {v T : Nat} {V : List Int} {base : Nat → Value} {id : Nat} {ops : List Oper} (t si sj I J : Nat) (hops : (ops.take 15).map strip = sCOps t si sj) (hlast : (ops.drop 15).map strip = sCLast t)
    (hB : Region.lexTailB .any ops.toArray 15 = true) (ht : 7 ≤ t) (ht' : t + 15 ≤ 142) (hsi : si < 7) (hsj : sj < 7) (hI : I < 16) (hJ : J < 16)
    (hF : Fs base a) (h0 : base 0 = .pointer (some ⟨v, 0, none⟩)) (hi : base si = .int .i64 (I : Int)) (hj : base sj = .int .i64 (J : Int))
    (hV : V.length = 16) (hs : w.heap[v]? = some (.cells (vals V) T (0, 0)))
    (h : ∀ a', Fs base a' → Q .normal a' ((w.setRow v (vals (V.set I (pl (at_ V I) (at_ V J))))).drewN 1)) :
    (Code.region id ops.toArray true).wp Try.prog Q a w := by
  refine wp_region_still_tail 15 (by kernel_rfl) hB (wpStill_strip _ _ ?_)
  rw [hops]
  have hcell : ∀ n, n < 16 → (w.drewN 1).cell? ⟨v, n, none⟩ = some (.int .u32 (at_ V n)) := fun n hn => (cell_of_row w v n _ T _ hs).trans (vals_get V n (by omega))
  have hfro : (w.drewN 1).frozen? ⟨v, I, none⟩ = false := frozen_of_row w v I (vals V) T hs
  change wpStill Try.prog ops.toArray (w.drewN 1) (fun a' => wpList Try.prog ops.toArray Q (ops.drop 15) a' (w.drewN 1)) _ _
  have hS0 := hF.sees
  unfold sCOps
  refine ws_step hS0 (t) (.pointer (some ⟨v, 0, none⟩)) rfl rfl (by omega) (qa_of (ex_move _ _ rfl ((hS0.ev (0) (by omega)).trans ((hF.ev 0 (by omega)).trans h0)))) ?_
  intro a1 hS1
  refine ws_step hS1 (t+1) (.int .i64 (I : Int)) rfl rfl (by omega) (qa_of (ex_move _ _ rfl ((hS1.ev (si) (by omega)).trans (by simp (discharger := omega) only [upd_same, upd_other]; exact ((hF.ev si (by omega)).trans hi))))) ?_
  intro a2 hS2
  refine ws_step hS2 (t+2) (.pointer (some ⟨v, 0, none⟩)) rfl rfl (by omega) (qa_of (ex_move _ _ rfl ((hS2.ev (0) (by omega)).trans (by simp (discharger := omega) only [upd_same, upd_other]; exact ((hF.ev 0 (by omega)).trans h0))))) ?_
  intro a3 hS3
  refine ws_step hS3 (t+3) (.int .i64 (I : Int)) rfl rfl (by omega) (qa_of (ex_move _ _ rfl ((hS3.ev (si) (by omega)).trans (by simp (discharger := omega) only [upd_same, upd_other]; exact ((hF.ev si (by omega)).trans hi))))) ?_
  intro a4 hS4
  refine ws_step hS4 (t+4) (.pointer (some ⟨v, 0, none⟩)) rfl rfl (by omega) (qa_of (ex_nil _ _ rfl ((hS4.ev (t+2) (by omega)).trans (by simp (discharger := omega) only [upd_same, upd_other])))) ?_
  intro a5 hS5
  refine ws_step hS5 (t+5) (.pointer (some ⟨v, I, none⟩)) rfl rfl (by omega) (qa_of (ex_index _ _ v I rfl hI ((hS5.ev (t+4) (by omega)).trans (by simp (discharger := omega) only [upd_same, upd_other])) ((hS5.ev (t+3) (by omega)).trans (by simp (discharger := omega) only [upd_same, upd_other])))) ?_
  intro a6 hS6
  refine ws_step hS6 (t+6) (.int .u32 (at_ V I)) rfl rfl (by omega) (qa_load _ ⟨v, I, none⟩ _ rfl ((hS6.ev (t+5) (by omega)).trans (by simp (discharger := omega) only [upd_same, upd_other])) (by rintro _ rfl; exact hcell I hI)) ?_
  intro a7 hS7
  refine ws_step hS7 (t+7) (.pointer (some ⟨v, 0, none⟩)) rfl rfl (by omega) (qa_of (ex_move _ _ rfl ((hS7.ev (0) (by omega)).trans (by simp (discharger := omega) only [upd_same, upd_other]; exact ((hF.ev 0 (by omega)).trans h0))))) ?_
  intro a8 hS8
  refine ws_step hS8 (t+8) (.int .i64 (J : Int)) rfl rfl (by omega) (qa_of (ex_move _ _ rfl ((hS8.ev (sj) (by omega)).trans (by simp (discharger := omega) only [upd_same, upd_other]; exact ((hF.ev sj (by omega)).trans hj))))) ?_
  intro a9 hS9
  refine ws_step hS9 (t+9) (.pointer (some ⟨v, 0, none⟩)) rfl rfl (by omega) (qa_of (ex_nil _ _ rfl ((hS9.ev (t+7) (by omega)).trans (by simp (discharger := omega) only [upd_same, upd_other])))) ?_
  intro a10 hS10
  refine ws_step hS10 (t+10) (.pointer (some ⟨v, J, none⟩)) rfl rfl (by omega) (qa_of (ex_index _ _ v J rfl hJ ((hS10.ev (t+9) (by omega)).trans (by simp (discharger := omega) only [upd_same, upd_other])) ((hS10.ev (t+8) (by omega)).trans (by simp (discharger := omega) only [upd_same, upd_other])))) ?_
  intro a11 hS11
  refine ws_step hS11 (t+11) (.int .u32 (at_ V J)) rfl rfl (by omega) (qa_load _ ⟨v, J, none⟩ _ rfl ((hS11.ev (t+10) (by omega)).trans (by simp (discharger := omega) only [upd_same, upd_other])) (by rintro _ rfl; exact hcell J hJ)) ?_
  intro a12 hS12
  refine ws_step hS12 (t+12) (.int .u32 (pl (at_ V I) (at_ V J))) rfl rfl (by omega) (qa_of (ex_add _ _ _ _ _ rfl ((hS12.ev (t+6) (by omega)).trans (by simp (discharger := omega) only [upd_same, upd_other])) ((hS12.ev (t+11) (by omega)).trans (by simp (discharger := omega) only [upd_same, upd_other])))) ?_
  intro a13 hS13
  refine ws_step hS13 (t+13) (.pointer (some ⟨v, 0, none⟩)) rfl rfl (by omega) (qa_of (ex_nil _ _ rfl ((hS13.ev (t) (by omega)).trans (by simp (discharger := omega) only [upd_same, upd_other])))) ?_
  intro a14 hS14
  refine ws_step hS14 (t+14) (.pointer (some ⟨v, I, none⟩)) rfl rfl (by omega) (qa_of (ex_index _ _ v I rfl hI ((hS14.ev (t+13) (by omega)).trans (by simp (discharger := omega) only [upd_same, upd_other])) ((hS14.ev (t+1) (by omega)).trans (by simp (discharger := omega) only [upd_same, upd_other])))) ?_
  intro a15 hS15
  refine wpStill_nil (wpList_strip _ _ _ ?_)
  rw [hlast]
  unfold sCLast
  refine wl_store _ _ ⟨v, I, none⟩ _ (pl (at_ V I) (at_ V J)) rfl rfl rfl ((hS15.ev (t+14) (by omega)).trans (by simp (discharger := omega) only [upd_same, upd_other])) ((hS15.ev (t+12) (by omega)).trans (by simp (discharger := omega) only [upd_same, upd_other])) (hcell I hI) hfro ?_
  refine wpList_nil ?_
  rw [setCell_eq_setRow (w.drewN 1) v I (vals V) T (0, 0) _ hs, vals_set, setRow_drew]
  refine h _ (hF.keep hS15 (fun n hn => ?_))
  simp (discharger := omega) only [upd_other]

/-- the operations of one statement that turns a word -/
def sXOps (t si sj n : Nat) : List Oper := [
  O t (.move (.tmp 0)) 31, O (t+1) (.move (.tmp si)) 3, O (t+2) (.move (.tmp 0)) 31, O (t+3) (.move (.tmp si)) 3,
  O (t+4) (.nilCheck (.tmp (t+2))) 0, O (t+5) (.indexAddr 24 (.tmp (t+4)) (.tmp (t+3))) 0, O (t+6) (.load 22 (.tmp (t+5))) 22,
  O (t+7) (.move (.tmp 0)) 31, O (t+8) (.move (.tmp sj)) 3, O (t+9) (.nilCheck (.tmp (t+7))) 0, O (t+10) (.indexAddr 24 (.tmp (t+9)) (.tmp (t+8))) 0, O (t+11) (.load 22 (.tmp (t+10))) 22,
  O (t+12) (.binOp .xor 22 (.tmp (t+6)) (.tmp (t+11)) 22) 22, O (t+13) (.call { callee := .value (.func 10), args := #[.tmp (t+12), .const (.int .i64 (n : Int))], argTypes := #[22, 3] }) 22,
  O (t+14) (.nilCheck (.tmp t)) 0, O (t+15) (.indexAddr 24 (.tmp (t+14)) (.tmp (t+1))) 0,
  { dst := none, op := .store 22 (.tmp (t+15)) (.tmp (t+13)), type := 0, pos := "", after := #[], guard := none }]
def lst (is : List Nat) : Array Bool := is.foldl (fun l i => l.setIfInBounds i true) (Array.replicate 17 false)
/-- what must hold of the edges -/
def xEdges (ops : Array Oper) : Bool :=
  Region.noSelect ops && okTake ops (lst []) 0 && okTake ops (lst [0]) 1 && okTake ops (lst [0, 1]) 2 && okTake ops (lst [0, 1, 2]) 3 && okTake ops (lst [0, 1, 2, 3]) 4 && okTake ops (lst [0, 1, 2, 3, 4]) 5 && okTake ops (lst [0, 1, 2, 3, 4, 5]) 7 && okTake ops (lst [0, 1, 2, 3, 4, 5, 7]) 8 && okTake ops (lst [0, 1, 2, 3, 4, 5, 7, 8]) 9 && okTake ops (lst [0, 1, 2, 3, 4, 5, 7, 8, 9]) 10 && okTake ops (lst [0, 1, 2, 3, 4, 5, 7, 8, 9, 10]) 14 &&
  decide (Region.ready .any ops (lst [0, 1, 2, 3, 4, 5, 7, 8, 9, 10, 14]) = [6, 11]) && decide (Region.ready .any ops (lst [0, 1, 2, 3, 4, 5, 7, 8, 9, 10, 14, 6]) = [11]) && decide (Region.ready .any ops (lst [0, 1, 2, 3, 4, 5, 7, 8, 9, 10, 14, 11]) = [6]) &&
  okTake ops (lst [0, 1, 2, 3, 4, 5, 7, 8, 9, 10, 14, 6, 11]) 12 && decide (Region.ready .any ops (lst [0, 1, 2, 3, 4, 5, 7, 8, 9, 10, 14, 6, 11, 12]) = [13]) && okTake ops (lst [0, 1, 2, 3, 4, 5, 7, 8, 9, 10, 14, 6, 11, 12, 13]) 15 &&
  decide (Region.ready .any ops (lst [0, 1, 2, 3, 4, 5, 7, 8, 9, 10, 14, 6, 11, 12, 13, 15]) = [16]) && decide (Region.ready .any ops (lst [0, 1, 2, 3, 4, 5, 7, 8, 9, 10, 14, 6, 11, 12, 13, 15, 16]) = [])
set_option maxHeartbeats 1000000 in
/-- the end of such a statement, behind both reads -/
theorem sXtail {Q : Exit → Act → World → Prop} {a a0 : Act} {w : World} {v T : Nat} {V : List Int} {base f : Nat → Value} {ops : List Oper} (t si sj n I J : Nat) (hops : ops.map strip = sXOps t si sj n)
    (hn : Region.noSelect ops.toArray = true) (h12 : okTake ops.toArray (lst [0, 1, 2, 3, 4, 5, 7, 8, 9, 10, 14, 6, 11]) 12 = true) (r13 : Region.ready .any ops.toArray (lst [0, 1, 2, 3, 4, 5, 7, 8, 9, 10, 14, 6, 11, 12]) = [13]) (h15 : okTake ops.toArray (lst [0, 1, 2, 3, 4, 5, 7, 8, 9, 10, 14, 6, 11, 12, 13]) 15 = true)
    (r16 : Region.ready .any ops.toArray (lst [0, 1, 2, 3, 4, 5, 7, 8, 9, 10, 14, 6, 11, 12, 13, 15]) = [16]) (rend : Region.ready .any ops.toArray (lst [0, 1, 2, 3, 4, 5, 7, 8, 9, 10, 14, 6, 11, 12, 13, 15, 16]) = [])
    (hQ : ∀ c a d v w, Q (.panic c) (a.put d v) w → Q (.panic c) a w) (ht : 7 ≤ t) (ht' : t + 16 ≤ 142) (hI : I < 16)
    (hR : ∀ x w, Calls Try.prog 10 #[.int .u32 x, .int .i64 (n : Int)] w fun e w' => e = .returned (.int .u32 (rr n x)) ∧ w' = w.drewN 1)
    (hF : Fs base a0) (hS0 : Sees 142 a f) (hf : ∀ n, n < 7 → f n = a0.eval (.tmp n)) (f1 : f (t+1) = .int .i64 (I : Int)) (f6 : f (t+6) = .int .u32 (at_ V I)) (f11 : f (t+11) = .int .u32 (at_ V J)) (f14 : f (t+14) = .pointer (some ⟨v, 0, none⟩))
    (hV : V.length = 16) (hs : w.heap[v]? = some (.cells (vals V) T (0, 0)))
    (h : ∀ a', Fs base a' → Q .normal a' ((w.setRow v (vals (V.set I (rr n (xr (at_ V I) (at_ V J)))))).drewN 1)) :
    wpAny Try.prog .any ops.toArray Q 4 (lst [0, 1, 2, 3, 4, 5, 7, 8, 9, 10, 14, 6, 11]) a w := by
  refine wa_take hS0 12 _ (t+12) (.int .u32 (xr (at_ V I) (at_ V J))) (by rw [hops]; rfl) hn h12 hQ rfl rfl (by omega) (ex_xor _ _ _ _ _ rfl ((hS0.ev (t+6) (by omega)).trans f6) ((hS0.ev (t+11) (by omega)).trans f11)) ?_
  intro a1 hS1
  refine wa_one 13 _ (by rw [hops]; rfl) r13 rfl ?_
  refine wp_call hS1 (t+13) 10 _ _ #[.int .u32 (xr (at_ V I) (at_ V J)), .int .i64 (n : Int)] (.int .u32 (rr n (xr (at_ V I) (at_ V J)))) (fun w' => w' = w.drewN 1) rfl rfl (by omega) (by simp (discharger := omega) only [List.map_toArray, List.map_cons, List.map_nil, hS1.ev (t+12) (by omega), upd_same]; rfl) (enter10 _) (hR _ _) ?_
  rintro a2 w2 rfl hS2
  refine wa_take hS2 15 _ (t+15) (.pointer (some ⟨v, I, none⟩)) (by rw [hops]; rfl) hn h15 hQ rfl rfl (by omega) (ex_index _ _ v I rfl hI ((hS2.ev (t+14) (by omega)).trans (by simp (discharger := omega) only [upd_same, upd_other]; exact f14)) ((hS2.ev (t+1) (by omega)).trans (by simp (discharger := omega) only [upd_same, upd_other]; exact f1))) ?_
  intro a3 hS3
  have hcell : ∀ n, n < 16 → (w.drewN 1).cell? ⟨v, n, none⟩ = some (.int .u32 (at_ V n)) := fun n hn => (cell_of_row w v n _ T _ hs).trans (vals_get V n (by omega))
  have hfro : (w.drewN 1).frozen? ⟨v, I, none⟩ = false := frozen_of_row w v I (vals V) T hs
  refine wa_one 16 _ (by rw [hops]; rfl) r16 rfl ?_
  refine wp_store22 _ _ ⟨v, I, none⟩ _ (rr n (xr (at_ V I) (at_ V J))) rfl rfl ((hS3.ev (t+15) (by omega)).trans (by simp (discharger := omega) only [upd_same, upd_other])) ((hS3.ev (t+13) (by omega)).trans (by simp (discharger := omega) only [upd_same, upd_other])) (hcell I hI) hfro ?_
  refine wpAny_done rend ?_ _
  rw [setCell_eq_setRow (w.drewN 1) v I (vals V) T (0, 0) _ hs, vals_set, setRow_drew]
  refine h _ (hF.keep hS3 (fun n hn => ?_))
  simp (discharger := omega) only [upd_other]
  exact hf n hn
set_option maxHeartbeats 2000000 in
theorem sX {Q : Exit → Act → World → Prop} {a : Act} {w : World} {v T : Nat} {V : List Int} {base : Nat → Value} {id : Nat} {ops : List Oper} (t si sj n I J : Nat) (hops : ops.map strip = sXOps t si sj n) (hE : xEdges ops.toArray = true)
    (hQ : ∀ c a d v w, Q (.panic c) (a.put d v) w → Q (.panic c) a w) (ht : 7 ≤ t) (ht' : t + 16 ≤ 142) (hsi : si < 7) (hsj : sj < 7) (hI : I < 16) (hJ : J < 16)
    (hR : ∀ x w, Calls Try.prog 10 #[.int .u32 x, .int .i64 (n : Int)] w fun e w' => e = .returned (.int .u32 (rr n x)) ∧ w' = w.drewN 1)
    (hF : Fs base a) (h0 : base 0 = .pointer (some ⟨v, 0, none⟩)) (hi : base si = .int .i64 (I : Int)) (hj : base sj = .int .i64 (J : Int))
    (hV : V.length = 16) (hs : w.heap[v]? = some (.cells (vals V) T (0, 0)))
    (h : ∀ a', Fs base a' → Q .normal a' ((w.setRow v (vals (V.set I (rr n (xr (at_ V I) (at_ V J)))))).drewN 2)) :
    (Code.region id ops.toArray true).wp Try.prog Q a w := by
  have hsz : ops.toArray.size = 17 := by
    have := congrArg List.length hops
    simpa [sXOps] using this
  simp only [xEdges, Bool.and_eq_true, decide_eq_true_eq] at hE
  obtain ⟨⟨⟨⟨⟨⟨⟨⟨⟨⟨⟨⟨⟨⟨⟨⟨⟨⟨⟨hn, e0⟩, e1⟩, e2⟩, e3⟩, e4⟩, e5⟩, e7⟩, e8⟩, e9⟩, e10⟩, e14⟩, r611⟩, r11⟩, r6⟩, h12⟩, r13⟩, h15⟩, r16⟩, rend⟩ := hE
  refine wp_region_any (by kernel_rfl) ?_
  rw [hsz]
  change wpAny Try.prog .any ops.toArray Q 17 (lst []) a (w.drewN 1)
  have hcell : ∀ n, n < 16 → (w.drewN 1).cell? ⟨v, n, none⟩ = some (.int .u32 (at_ V n)) := fun n hn => (cell_of_row w v n _ T _ hs).trans (vals_get V n (by omega))
  have hS0 := hF.sees
  have h' : ∀ a', Fs base a' → Q .normal a' (((w.drewN 1).setRow v (vals (V.set I (rr n (xr (at_ V I) (at_ V J)))))).drewN 1) := fun a' hF' => by
    have := h a' hF'
    rw [setRow_drewN, World.drewN_drewN]
    exact this
  refine wa_take hS0 0 _ (t) (.pointer (some ⟨v, 0, none⟩)) (by rw [hops]; rfl) hn e0 hQ rfl rfl (by omega) (ex_move _ _ rfl ((hS0.ev (0) (by omega)).trans ((hF.ev 0 (by omega)).trans h0))) ?_
  intro a1 hS1
  refine wa_take hS1 1 _ (t+1) (.int .i64 (I : Int)) (by rw [hops]; rfl) hn e1 hQ rfl rfl (by omega) (ex_move _ _ rfl ((hS1.ev (si) (by omega)).trans (by simp (discharger := omega) only [upd_same, upd_other]; exact ((hF.ev si (by omega)).trans hi)))) ?_
  intro a2 hS2
  refine wa_take hS2 2 _ (t+2) (.pointer (some ⟨v, 0, none⟩)) (by rw [hops]; rfl) hn e2 hQ rfl rfl (by omega) (ex_move _ _ rfl ((hS2.ev (0) (by omega)).trans (by simp (discharger := omega) only [upd_same, upd_other]; exact ((hF.ev 0 (by omega)).trans h0)))) ?_
  intro a3 hS3
  refine wa_take hS3 3 _ (t+3) (.int .i64 (I : Int)) (by rw [hops]; rfl) hn e3 hQ rfl rfl (by omega) (ex_move _ _ rfl ((hS3.ev (si) (by omega)).trans (by simp (discharger := omega) only [upd_same, upd_other]; exact ((hF.ev si (by omega)).trans hi)))) ?_
  intro a4 hS4
  refine wa_take hS4 4 _ (t+4) (.pointer (some ⟨v, 0, none⟩)) (by rw [hops]; rfl) hn e4 hQ rfl rfl (by omega) (ex_nil _ _ rfl ((hS4.ev (t+2) (by omega)).trans (by simp (discharger := omega) only [upd_same, upd_other]))) ?_
  intro a5 hS5
  refine wa_take hS5 5 _ (t+5) (.pointer (some ⟨v, I, none⟩)) (by rw [hops]; rfl) hn e5 hQ rfl rfl (by omega) (ex_index _ _ v I rfl hI ((hS5.ev (t+4) (by omega)).trans (by simp (discharger := omega) only [upd_same, upd_other])) ((hS5.ev (t+3) (by omega)).trans (by simp (discharger := omega) only [upd_same, upd_other]))) ?_
  intro a6 hS6
  refine wa_take hS6 7 _ (t+7) (.pointer (some ⟨v, 0, none⟩)) (by rw [hops]; rfl) hn e7 hQ rfl rfl (by omega) (ex_move _ _ rfl ((hS6.ev (0) (by omega)).trans (by simp (discharger := omega) only [upd_same, upd_other]; exact ((hF.ev 0 (by omega)).trans h0)))) ?_
  intro a7 hS7
  refine wa_take hS7 8 _ (t+8) (.int .i64 (J : Int)) (by rw [hops]; rfl) hn e8 hQ rfl rfl (by omega) (ex_move _ _ rfl ((hS7.ev (sj) (by omega)).trans (by simp (discharger := omega) only [upd_same, upd_other]; exact ((hF.ev sj (by omega)).trans hj)))) ?_
  intro a8 hS8
  refine wa_take hS8 9 _ (t+9) (.pointer (some ⟨v, 0, none⟩)) (by rw [hops]; rfl) hn e9 hQ rfl rfl (by omega) (ex_nil _ _ rfl ((hS8.ev (t+7) (by omega)).trans (by simp (discharger := omega) only [upd_same, upd_other]))) ?_
  intro a9 hS9
  refine wa_take hS9 10 _ (t+10) (.pointer (some ⟨v, J, none⟩)) (by rw [hops]; rfl) hn e10 hQ rfl rfl (by omega) (ex_index _ _ v J rfl hJ ((hS9.ev (t+9) (by omega)).trans (by simp (discharger := omega) only [upd_same, upd_other])) ((hS9.ev (t+8) (by omega)).trans (by simp (discharger := omega) only [upd_same, upd_other]))) ?_
  intro a10 hS10
  refine wa_take hS10 14 _ (t+14) (.pointer (some ⟨v, 0, none⟩)) (by rw [hops]; rfl) hn e14 hQ rfl rfl (by omega) (ex_nil _ _ rfl ((hS10.ev (t) (by omega)).trans (by simp (discharger := omega) only [upd_same, upd_other]))) ?_
  intro a11 hS11
  refine wa_two 6 11 _ _ (by rw [hops]; rfl) (by rw [hops]; rfl) r611 rfl rfl ?_ ?_
  · refine wp_load22 hS11 (t+6) _ ⟨v, I, none⟩ (at_ V I) rfl rfl (by omega) ((hS11.ev (t+5) (by omega)).trans (by simp (discharger := omega) only [upd_same, upd_other])) (hcell I hI) ?_
    intro a12 hS12
    refine wa_one 11 _ (by rw [hops]; rfl) r11 rfl ?_
    refine wp_load22 hS12 (t+11) _ ⟨v, J, none⟩ (at_ V J) rfl rfl (by omega) ((hS12.ev (t+10) (by omega)).trans (by simp (discharger := omega) only [upd_same, upd_other])) (hcell J hJ) ?_
    intro a13 hS13
    exact sXtail t si sj n I J hops hn h12 r13 h15 r16 rend hQ ht ht' hI hR hF hS13 (fun n hn => by simp (discharger := omega) only [upd_other]) (by simp (discharger := omega) only [upd_same, upd_other]) (by simp (discharger := omega) only [upd_same, upd_other]) (by simp (discharger := omega) only [upd_same, upd_other]) (by simp (discharger := omega) only [upd_same, upd_other]) hV hs h'
  · refine wp_load22 hS11 (t+11) _ ⟨v, J, none⟩ (at_ V J) rfl rfl (by omega) ((hS11.ev (t+10) (by omega)).trans (by simp (discharger := omega) only [upd_same, upd_other])) (hcell J hJ) ?_
    intro a12 hS12
    refine wa_one 6 _ (by rw [hops]; rfl) r6 rfl ?_
    refine wp_load22 hS12 (t+6) _ ⟨v, I, none⟩ (at_ V I) rfl rfl (by omega) ((hS12.ev (t+5) (by omega)).trans (by simp (discharger := omega) only [upd_same, upd_other])) (hcell I hI) ?_
    intro a13 hS13
    have el : ((lst [0, 1, 2, 3, 4, 5, 7, 8, 9, 10, 14]).setIfInBounds 11 true).setIfInBounds 6 true = lst [0, 1, 2, 3, 4, 5, 7, 8, 9, 10, 14, 6, 11] := by decide
    change wpAny Try.prog .any ops.toArray Q 4 (((lst [0, 1, 2, 3, 4, 5, 7, 8, 9, 10, 14]).setIfInBounds 11 true).setIfInBounds 6 true) _ _
    rw [el]
    exact sXtail t si sj n I J hops hn h12 r13 h15 r16 rend hQ ht ht' hI hR hF hS13 (fun n hn => by simp (discharger := omega) only [upd_other]) (by simp (discharger := omega) only [upd_same, upd_other]) (by simp (discharger := omega) only [upd_same, upd_other]) (by simp (discharger := omega) only [upd_same, upd_other]) (by simp (discharger := omega) only [upd_same, upd_other]) hV hs h'
end
section
open Go.RowKit
set_option linter.unusedVariables false
section
variable {Q : Exit → Act → World → Prop} {a : Act} {w : World} {v T d : Nat} {V : List Int} {base : Nat → Value} {id : Nat} {ops : List Oper} {cs : Array Value}
theorem sAw (t si sj sz I J : Nat) (z : Int) (hops : (ops.take 17).map strip = sAOps t si sj sz) (hlast : (ops.drop 17).map strip = sALast t)
    (hB : Region.lexTailB .any ops.toArray 17 = true) (hn : (7 ≤ t ∧ t + 17 ≤ 142) ∧ si < 7 ∧ sj < 7 ∧ sz < 7) (hI : I < 16) (hJ : J < 16)
    (h0 : base 0 = .pointer (some ⟨v, 0, none⟩)) (hi : base si = .int .i64 (I : Int)) (hj : base sj = .int .i64 (J : Int)) (hz : base sz = .int .u32 z)
    (hV : V.length = 16) (hs : w.heap[v]? = some (.cells cs T (0, 0))) (hF : Fs base a)
    (h : ∀ a' d', Fs base a' → Q .normal a' ((w.setRow v (vals (V.set I (pl (pl (at_ V I) (at_ V J)) z)))).drewN d')) :
    (Code.region id ops.toArray true).wp Try.prog Q a ((w.setRow v (vals V)).drewN d) := by
  obtain ⟨⟨h1, h2⟩, h3, h4, h5⟩ := hn
  refine sA t si sj sz I J z hops hlast hB h1 h2 h3 h4 h5 hI hJ hF h0 hi hj hz hV (setRow_heap w v _ _ T (0, 0) hs) fun a' hF' => ?_
  have := h a' (d + 1) hF'
  rw [← World.drewN_drewN] at this
  rw [setRow_drewN, setRow_setRow]
  exact this
theorem sCw (t si sj I J : Nat) (hops : (ops.take 15).map strip = sCOps t si sj) (hlast : (ops.drop 15).map strip = sCLast t)
    (hB : Region.lexTailB .any ops.toArray 15 = true) (hn : (7 ≤ t ∧ t + 15 ≤ 142) ∧ si < 7 ∧ sj < 7) (hI : I < 16) (hJ : J < 16)
    (h0 : base 0 = .pointer (some ⟨v, 0, none⟩)) (hi : base si = .int .i64 (I : Int)) (hj : base sj = .int .i64 (J : Int))
    (hV : V.length = 16) (hs : w.heap[v]? = some (.cells cs T (0, 0))) (hF : Fs base a)
    (h : ∀ a' d', Fs base a' → Q .normal a' ((w.setRow v (vals (V.set I (pl (at_ V I) (at_ V J))))).drewN d')) :
    (Code.region id ops.toArray true).wp Try.prog Q a ((w.setRow v (vals V)).drewN d) := by
  obtain ⟨⟨h1, h2⟩, h3, h4⟩ := hn
  refine sC t si sj I J hops hlast hB h1 h2 h3 h4 hI hJ hF h0 hi hj hV (setRow_heap w v _ _ T (0, 0) hs) fun a' hF' => ?_
  have := h a' (d + 1) hF'
  rw [← World.drewN_drewN] at this
  rw [setRow_drewN, setRow_setRow]
  exact this
theorem sXw (t si sj n I J : Nat) (hops : ops.map strip = sXOps t si sj n) (hE : xEdges ops.toArray = true)
    (hn : (7 ≤ t ∧ t + 16 ≤ 142) ∧ si < 7 ∧ sj < 7) (hI : I < 16) (hJ : J < 16)
    (hR : ∀ x w, Calls Try.prog 10 #[.int .u32 x, .int .i64 (n : Int)] w fun e w' => e = .returned (.int .u32 (rr n x)) ∧ w' = w.drewN 1)
    (hQ : ∀ c a d v w, Q (.panic c) (a.put d v) w → Q (.panic c) a w)
    (h0 : base 0 = .pointer (some ⟨v, 0, none⟩)) (hi : base si = .int .i64 (I : Int)) (hj : base sj = .int .i64 (J : Int))
    (hV : V.length = 16) (hs : w.heap[v]? = some (.cells cs T (0, 0))) (hF : Fs base a)
    (h : ∀ a' d', Fs base a' → Q .normal a' ((w.setRow v (vals (V.set I (rr n (xr (at_ V I) (at_ V J)))))).drewN d')) :
    (Code.region id ops.toArray true).wp Try.prog Q a ((w.setRow v (vals V)).drewN d) := by
  obtain ⟨⟨h1, h2⟩, h3, h4⟩ := hn
  refine sX t si sj n I J hops hE hQ h1 h2 h3 h4 hI hJ hR hF h0 hi hj hV (setRow_heap w v _ _ T (0, 0) hs) fun a' hF' => ?_
  have := h a' (d + 2) hF'
  rw [← World.drewN_drewN] at this
  rw [setRow_drewN, setRow_setRow]
  exact this
end
theorem at_set (V : List Int) (i n : Nat) (x : Int) (h : i < V.length) : at_ (V.set i x) n = if n = i then x else at_ V n := by
  by_cases e : n = i
  · subst e; simp [at_, h]
  · simp [at_, e, Ne.symm e]
theorem pl_pl (a b c : Int) : pl (pl a b) c = pl a (pl b c) := by unfold pl; omega
/-- the eight steps of 'stir' are one 'gs' -/
theorem stir_gs (V : List Int) (a b c d : Nat) (x y : Int) (hV : V.length = 16) (ha : a < 16) (hb : b < 16) (hc : c < 16) (hd : d < 16) (hab : a ≠ b) (hac : a ≠ c) (had : a ≠ d) (hbc : b ≠ c) (hbd : b ≠ d) (hcd : c ≠ d)
    {V1 V2 V3 V4 V5 V6 V7 V8 : List Int}
    (e1 : V1 = V.set a (pl (pl (at_ V a) (at_ V b)) x)) (e2 : V2 = V1.set d (rr 16 (xr (at_ V1 d) (at_ V1 a)))) (e3 : V3 = V2.set c (pl (at_ V2 c) (at_ V2 d))) (e4 : V4 = V3.set b (rr 12 (xr (at_ V3 b) (at_ V3 c))))
    (e5 : V5 = V4.set a (pl (pl (at_ V4 a) (at_ V4 b)) y)) (e6 : V6 = V5.set d (rr 8 (xr (at_ V5 d) (at_ V5 a)))) (e7 : V7 = V6.set c (pl (at_ V6 c) (at_ V6 d))) (e8 : V8 = V7.set b (rr 7 (xr (at_ V7 b) (at_ V7 c)))) :
    V8 = gs V a b c d x y := by
  have l1 : V1.length = 16 := by rw [e1, List.length_set, hV]
  have l2 : V2.length = 16 := by rw [e2, List.length_set, l1]
  have l3 : V3.length = 16 := by rw [e3, List.length_set, l2]
  have l4 : V4.length = 16 := by rw [e4, List.length_set, l3]
  have l5 : V5.length = 16 := by rw [e5, List.length_set, l4]
  have l6 : V6.length = 16 := by rw [e6, List.length_set, l5]
  have l7 : V7.length = 16 := by rw [e7, List.length_set, l6]
  have s1 : ∀ n, at_ V1 n = if n = a then pl (pl (at_ V a) (at_ V b)) x else at_ V n := fun n => by rw [e1, at_set _ _ _ _ (by omega)]
  have s2 : ∀ n, at_ V2 n = if n = d then rr 16 (xr (at_ V1 d) (at_ V1 a)) else at_ V1 n := fun n => by rw [e2, at_set _ _ _ _ (by omega)]
  have s3 : ∀ n, at_ V3 n = if n = c then pl (at_ V2 c) (at_ V2 d) else at_ V2 n := fun n => by rw [e3, at_set _ _ _ _ (by omega)]
  have s4 : ∀ n, at_ V4 n = if n = b then rr 12 (xr (at_ V3 b) (at_ V3 c)) else at_ V3 n := fun n => by rw [e4, at_set _ _ _ _ (by omega)]
  have s5 : ∀ n, at_ V5 n = if n = a then pl (pl (at_ V4 a) (at_ V4 b)) y else at_ V4 n := fun n => by rw [e5, at_set _ _ _ _ (by omega)]
  have s6 : ∀ n, at_ V6 n = if n = d then rr 8 (xr (at_ V5 d) (at_ V5 a)) else at_ V5 n := fun n => by rw [e6, at_set _ _ _ _ (by omega)]
  have s7 : ∀ n, at_ V7 n = if n = c then pl (at_ V6 c) (at_ V6 d) else at_ V6 n := fun n => by rw [e7, at_set _ _ _ _ (by omega)]
  have s8 : ∀ n, at_ V8 n = if n = b then rr 7 (xr (at_ V7 b) (at_ V7 c)) else at_ V7 n := fun n => by rw [e8, at_set _ _ _ _ (by omega)]
  have l8 : V8.length = 16 := by rw [e8, List.length_set, l7]
  have lg : (gs V a b c d x y).length = 16 := by rw [gs_length, hV]
  have sg : ∀ n, at_ (gs V a b c d x y) n = if n = d then (mix ⟨at_ V a, at_ V b, at_ V c, at_ V d⟩ x y).d else if n = c then (mix ⟨at_ V a, at_ V b, at_ V c, at_ V d⟩ x y).c else if n = b then (mix ⟨at_ V a, at_ V b, at_ V c, at_ V d⟩ x y).b else if n = a then (mix ⟨at_ V a, at_ V b, at_ V c, at_ V d⟩ x y).a else at_ V n := fun n => by
    unfold gs
    rw [at_set _ _ _ _ (by simp [hV, hd]), at_set _ _ _ _ (by simp [hV, hc]), at_set _ _ _ _ (by simp [hV, hb]), at_set _ _ _ _ (by omega)]
  have key : ∀ n, at_ V8 n = at_ (gs V a b c d x y) n := fun n => by
    rw [sg n, s8 n]
    simp only [s7, s6, s5, s4, s3, s2, s1, mix, half, hab, hac, had, hbc, hbd, hcd, Ne.symm hab, Ne.symm hac, Ne.symm had, Ne.symm hbc, Ne.symm hbd, Ne.symm hcd, if_true, if_false, pl_pl]
    by_cases n1 : n = a
    · subst n1; simp [hab, hac, had]
    by_cases n2 : n = b
    · subst n2; simp [hbc, hbd]
    by_cases n3 : n = c
    · subst n3; simp [n2, hcd]
    by_cases n4 : n = d
    · subst n4; simp [n2, n3]
    simp [n1, n2, n3, n4]
  apply List.ext_getElem (by rw [l8, lg])
  intro n h1 h2
  have := key n
  simpa [at_, h1, h2] using this
def sbase (v a b c d : Nat) (x y : Int) : Nat → Value
  | 0 => .pointer (some ⟨v, 0, none⟩)
  | 1 => .int .i64 (a : Int)
  | 2 => .int .i64 (b : Int)
  | 3 => .int .i64 (c : Int)
  | 4 => .int .i64 (d : Int)
  | 5 => .int .u32 x
  | _ => .int .u32 y
set_option maxHeartbeats 4000000 in
theorem stir_any (v T a b c d : Nat) (V : List Int) (x y : Int) (w : World) (hV : V.length = 16) (ha : a < 16) (hb : b < 16) (hc : c < 16) (hd : d < 16) (hab : a ≠ b) (hac : a ≠ c) (had : a ≠ d) (hbc : b ≠ c) (hbd : b ≠ d) (hcd : c ≠ d)
    (hs : w.heap[v]? = some (.cells (vals V) T (0, 0))) :
    Calls Try.prog 8 #[.pointer (some ⟨v, 0, none⟩), .int .i64 (a : Int), .int .i64 (b : Int), .int .i64 (c : Int), .int .i64 (d : Int), .int .u32 x, .int .u32 y] w fun e w' =>
      e = .returned (.tuple #[]) ∧ ∃ n, w' = (w.setRow v (vals (gs V a b c d x y))).drewN n := by
  refine calls_of_wp Try.func8 rfl ?_
  rw [Try.ntmps8, show (#[Value.pointer (some ⟨v, 0, none⟩), .int .i64 (a : Int), .int .i64 (b : Int), .int .i64 (c : Int), .int .i64 (d : Int), .int .u32 x, .int .u32 y] : Array Value).size = 7 from rfl]
  have hF : Fs (sbase v a b c d x y) { tmps := #[Value.pointer (some ⟨v, 0, none⟩), .int .i64 (a : Int), .int .i64 (b : Int), .int .i64 (c : Int), .int .i64 (d : Int), .int .u32 x, .int .u32 y] ++ Array.replicate (142 - 7) undef, defers := [] } := by
    refine ⟨by rw [Array.size_append, Array.size_replicate]; rfl, rfl, fun n hn => ?_⟩
    simp only [Act.eval, Array.getD_eq_getD_getElem?]
    rw [Array.getElem?_append_left (by simpa using hn)]
    match n, hn with
    | 0, _ => rfl
    | 1, _ => rfl
    | 2, _ => rfl
    | 3, _ => rfl
    | 4, _ => rfl
    | 5, _ => rfl
    | 6, _ => rfl
  generalize ({ tmps := #[Value.pointer (some ⟨v, 0, none⟩), .int .i64 (a : Int), .int .i64 (b : Int), .int .i64 (c : Int), .int .i64 (d : Int), .int .u32 x, .int .u32 y] ++ Array.replicate (142 - 7) undef, defers := [] } : Act) = A at hF ⊢
  have hw : w = (w.setRow v (vals V)).drewN 0 := (setRow_same w v _ T hs).symm
  generalize hP : bodyPost Try.prog Try.f8 (fun e w' => e = .returned (.tuple #[]) ∧ ∃ n, w' = (w.setRow v (vals (gs V a b c d x y))).drewN n) = Q
  rw [show Code.wp Try.prog _ Q A w = Code.wp Try.prog _ Q A ((w.setRow v (vals V)).drewN 0) by rw [← hw]]
  clear hw
  have HQ0 : ∀ c a d v w, Q (.panic c) (a.put d v) w → Q (.panic c) a w := by
    intro c a d v w h
    rw [← hP] at h ⊢
    cases d <;> exact h
  refine wp_seq (sAw 14 1 2 5 a b x (by as_aux_lemma => kernel_rfl) (by as_aux_lemma => kernel_rfl) (by as_aux_lemma => kernel_rfl) (by decide) ha hb rfl rfl rfl rfl hV hs hF ?_)
  clear hF; intro A n hF
  obtain ⟨V1, e1⟩ : ∃ L, L = V.set a (pl (pl (at_ V a) (at_ V b)) x) := ⟨_, rfl⟩
  have l1 : V1.length = 16 := by rw [e1, List.length_set, hV]
  rw [← e1]
  change Code.wp _ _ _ _ _
  refine wp_seq (sXw 31 4 1 16 d a (by as_aux_lemma => kernel_rfl) (by as_aux_lemma => kernel_rfl) (by decide) hd ha right16 (fun c a d v w h => HQ0 c a d v w h) rfl rfl rfl l1 hs hF ?_)
  clear hF; intro A n hF
  obtain ⟨V2, e2⟩ : ∃ L, L = V1.set d (rr 16 (xr (at_ V1 d) (at_ V1 a))) := ⟨_, rfl⟩
  have l2 : V2.length = 16 := by rw [e2, List.length_set, l1]
  rw [← e2]
  change Code.wp _ _ _ _ _
  refine wp_seq (sCw 47 3 4 c d (by as_aux_lemma => kernel_rfl) (by as_aux_lemma => kernel_rfl) (by as_aux_lemma => kernel_rfl) (by decide) hc hd rfl rfl rfl l2 hs hF ?_)
  clear hF; intro A n hF
  obtain ⟨V3, e3⟩ : ∃ L, L = V2.set c (pl (at_ V2 c) (at_ V2 d)) := ⟨_, rfl⟩
  have l3 : V3.length = 16 := by rw [e3, List.length_set, l2]
  rw [← e3]
  change Code.wp _ _ _ _ _
  refine wp_seq (sXw 62 2 3 12 b c (by as_aux_lemma => kernel_rfl) (by as_aux_lemma => kernel_rfl) (by decide) hb hc right12 (fun c a d v w h => HQ0 c a d v w h) rfl rfl rfl l3 hs hF ?_)
  clear hF; intro A n hF
  obtain ⟨V4, e4⟩ : ∃ L, L = V3.set b (rr 12 (xr (at_ V3 b) (at_ V3 c))) := ⟨_, rfl⟩
  have l4 : V4.length = 16 := by rw [e4, List.length_set, l3]
  rw [← e4]
  change Code.wp _ _ _ _ _
  refine wp_seq (sAw 78 1 2 6 a b y (by as_aux_lemma => kernel_rfl) (by as_aux_lemma => kernel_rfl) (by as_aux_lemma => kernel_rfl) (by decide) ha hb rfl rfl rfl rfl l4 hs hF ?_)
  clear hF; intro A n hF
  obtain ⟨V5, e5⟩ : ∃ L, L = V4.set a (pl (pl (at_ V4 a) (at_ V4 b)) y) := ⟨_, rfl⟩
  have l5 : V5.length = 16 := by rw [e5, List.length_set, l4]
  rw [← e5]
  change Code.wp _ _ _ _ _
  refine wp_seq (sXw 95 4 1 8 d a (by as_aux_lemma => kernel_rfl) (by as_aux_lemma => kernel_rfl) (by decide) hd ha right8 (fun c a d v w h => HQ0 c a d v w h) rfl rfl rfl l5 hs hF ?_)
  clear hF; intro A n hF
  obtain ⟨V6, e6⟩ : ∃ L, L = V5.set d (rr 8 (xr (at_ V5 d) (at_ V5 a))) := ⟨_, rfl⟩
  have l6 : V6.length = 16 := by rw [e6, List.length_set, l5]
  rw [← e6]
  change Code.wp _ _ _ _ _
  refine wp_seq (sCw 111 3 4 c d (by as_aux_lemma => kernel_rfl) (by as_aux_lemma => kernel_rfl) (by as_aux_lemma => kernel_rfl) (by decide) hc hd rfl rfl rfl l6 hs hF ?_)
  clear hF; intro A n hF
  obtain ⟨V7, e7⟩ : ∃ L, L = V6.set c (pl (at_ V6 c) (at_ V6 d)) := ⟨_, rfl⟩
  have l7 : V7.length = 16 := by rw [e7, List.length_set, l6]
  rw [← e7]
  change Code.wp _ _ _ _ _
  refine (sXw 126 2 3 7 b c (by as_aux_lemma => kernel_rfl) (by as_aux_lemma => kernel_rfl) (by decide) hb hc right7 (fun c a d v w h => HQ0 c a d v w h) rfl rfl rfl l7 hs hF ?_)
  clear hF; intro A n hF
  obtain ⟨V8, e8⟩ : ∃ L, L = V7.set b (rr 7 (xr (at_ V7 b) (at_ V7 c))) := ⟨_, rfl⟩
  have l8 : V8.length = 16 := by rw [e8, List.length_set, l7]
  rw [← e8]
  have hg := stir_gs V a b c d x y hV ha hb hc hd hab hac had hbc hbd hcd e1 e2 e3 e4 e5 e6 e7 e8
  subst hP
  exact bodyPost_end (v := .tuple #[]) (by simp [results, Try.results8, go_sem]) hF.defers ⟨rfl, n, by rw [hg]⟩
end
end Go.Proofs.Ytfaopfaghnefdaa
