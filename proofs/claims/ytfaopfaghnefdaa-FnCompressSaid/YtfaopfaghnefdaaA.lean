/-
  The four rotations, g, and one lemma for each kind of statement of rcompress. For every frame, memory and schedule, given the words that the statement reads.
-/
import Derived.Test.YtfaopfaghnefdaaProg
import Derived.WalkKit
import Derived.WalkSpells
import Derived.WalkLawsBesides
import Derived.Deep.QuietTactic
import Derived.BigQuiet
import Derived.StillTail
namespace Go.Proofs.Ytfaopfaghnefdaa
section
open Go.RowKit

/-! ### words of 32 bits -/
/-- a word turned to the right -/
def rr (n : Nat) (x : Int) : Int := bits .or .u32 (x / 2 ^ n) (x * 2 ^ (32 - n) % 4294967296)
def xr (x y : Int) : Int := bits .xor .u32 x y
def pl (x y : Int) : Int := (x + y) % 4294967296
theorem bits_or_comm (x y : Int) : bits .or .u32 x y = bits .or .u32 y x := by
  unfold bits; simp only [BitVec.or_comm]
structure Four where
  a : Int
  b : Int
  c : Int
  d : Int
/-- half of the mixing -/
def half (m n : Nat) (v : Four) (x : Int) : Four :=
  let a := pl v.a (pl v.b x)
  let d := rr m (xr v.d a)
  let c := pl v.c d
  let b := rr n (xr v.b c)
  ⟨a, b, c, d⟩
def mix (v : Four) (x y : Int) : Four := half 8 7 (half 16 12 v x) y

theorem ret_u32 {a b : Int} (h : a = b) : Ending.returned (.int .u32 a) = .returned (.int .u32 b) := by rw [h]
set_option maxHeartbeats 400000 in
theorem rotl16 (x : Int) (w : World) :
    Calls Try.prog 15 #[.int .u32 x, .int .i64 (-16)] w fun e w' => e = .returned (.int .u32 (rr 16 x)) ∧ w = w' := by
  have h : bits BinOp.and IntKind.u64 (IntKind.u64.wrap (-16)) 31 = 16 := by decide
  have h2 : IntKind.u64.wrap 16 = 16 := by decide
  go_enter Try.func15, Try.ntmps15
  go_wp2
  go_ret
  exact ⟨ret_u32 (bits_or_comm _ _), rfl⟩
set_option maxHeartbeats 400000 in
theorem rotl12 (x : Int) (w : World) :
    Calls Try.prog 15 #[.int .u32 x, .int .i64 (-12)] w fun e w' => e = .returned (.int .u32 (rr 12 x)) ∧ w = w' := by
  have h : bits BinOp.and IntKind.u64 (IntKind.u64.wrap (-12)) 31 = 20 := by decide
  have h2 : IntKind.u64.wrap 12 = 12 := by decide
  go_enter Try.func15, Try.ntmps15
  go_wp2
  go_ret
  exact ⟨ret_u32 (bits_or_comm _ _), rfl⟩
set_option maxHeartbeats 400000 in
theorem rotl8 (x : Int) (w : World) :
    Calls Try.prog 15 #[.int .u32 x, .int .i64 (-8)] w fun e w' => e = .returned (.int .u32 (rr 8 x)) ∧ w = w' := by
  have h : bits BinOp.and IntKind.u64 (IntKind.u64.wrap (-8)) 31 = 24 := by decide
  have h2 : IntKind.u64.wrap 8 = 8 := by decide
  go_enter Try.func15, Try.ntmps15
  go_wp2
  go_ret
  exact ⟨ret_u32 (bits_or_comm _ _), rfl⟩
set_option maxHeartbeats 400000 in
theorem rotl7 (x : Int) (w : World) :
    Calls Try.prog 15 #[.int .u32 x, .int .i64 (-7)] w fun e w' => e = .returned (.int .u32 (rr 7 x)) ∧ w = w' := by
  have h : bits BinOp.and IntKind.u64 (IntKind.u64.wrap (-7)) 31 = 25 := by decide
  have h2 : IntKind.u64.wrap 7 = 7 := by decide
  go_enter Try.func15, Try.ntmps15
  go_wp2
  go_ret
  exact ⟨ret_u32 (bits_or_comm _ _), rfl⟩
set_option maxHeartbeats 400000 in
theorem g_any (v : Four) (x y : Int) (w : World) :
    Calls Try.prog 14 #[.int .u32 v.a, .int .u32 v.b, .int .u32 v.c, .int .u32 v.d, .int .u32 x, .int .u32 y] w fun e w' =>
      e = .returned (.tuple #[.int .u32 (mix v x y).a, .int .u32 (mix v x y).b, .int .u32 (mix v x y).c, .int .u32 (mix v x y).d]) ∧ w = w' := by
  go_enter Try.func14, Try.ntmps14
  go_wp2_with (first | (go_at_call 15; with_reducible (refine (rotl16 _ _).mono ?_); rintro e w' ⟨rfl, rfl⟩) | (go_at_call 15; with_reducible (refine (rotl12 _ _).mono ?_); rintro e w' ⟨rfl, rfl⟩) | (go_at_call 15; with_reducible (refine (rotl8 _ _).mono ?_); rintro e w' ⟨rfl, rfl⟩) | (go_at_call 15; with_reducible (refine (rotl7 _ _).mono ?_); rintro e w' ⟨rfl, rfl⟩))
  refine bodyPost_ret (v := .tuple #[.int .u32 (mix v x y).a, .int .u32 (mix v x y).b, .int .u32 (mix v x y).c, .int .u32 (mix v x y).d]) ?_ rfl ⟨rfl, rfl⟩
  simp [results, Try.results14, go_sem, mix, half, pl, xr]
end
section
open Go.RowKit
/-! ### lists of words -/
/-- a word in a list of words -/
abbrev at_ (L : List Int) (i : Nat) : Int := L.getD i 0
/-- the cells that hold a list of words -/
def vals (L : List Int) : Array Value := (L.map (Value.int .u32)).toArray
theorem vals_get (L : List Int) (i : Nat) (h : i < L.length) : (vals L)[i]? = some (.int .u32 (at_ L i)) := by
  simp [vals, at_, h]
theorem vals_size (L : List Int) : (vals L).size = L.length := by simp [vals]
theorem vals_set (L : List Int) (i : Nat) (x : Int) : (vals L).setIfInBounds i (.int .u32 x) = vals (L.set i x) := by
  simp [vals, List.map_set]
/-- 'mix' on four places of a list -/
def gs (V : List Int) (i j k l : Nat) (x y : Int) : List Int :=
  (((V.set i (mix ⟨at_ V i, at_ V j, at_ V k, at_ V l⟩ x y).a).set j (mix ⟨at_ V i, at_ V j, at_ V k, at_ V l⟩ x y).b).set k (mix ⟨at_ V i, at_ V j, at_ V k, at_ V l⟩ x y).c).set l (mix ⟨at_ V i, at_ V j, at_ V k, at_ V l⟩ x y).d
theorem gs_length (V : List Int) (i j k l : Nat) (x y : Int) : (gs V i j k l x y).length = V.length := by simp [gs]

/-! ### an operation without its place and its edges: what it does -/
def strip (o : Oper) : Oper := { o with pos := "", after := #[] }
def O (d : Nat) (op : Op) (ty : TypeId) : Oper := { dst := some d, op := op, type := ty, pos := "", after := #[], guard := none }

section
variable {P : Program} {ops : Array Oper} {C : World → Prop} {a : Act}
theorem execOp_strip (ρ : Operand → Value) (o : Oper) : execOp ρ (strip o) = execOp ρ o := rfl
theorem quiet_strip (o : Oper) (K : Act → Prop) : (strip o).quiet P a C K = o.quiet P a C K := rfl
theorem wanted_strip (o : Oper) (y : Nat → Option Bool) : Region.wanted (strip o) y = Region.wanted o y := rfl
theorem wpQuiet_strip {Q : Act → Prop} : ∀ (l : List Oper) (a : Act), wpQuiet P ops C Q (l.map strip) a → wpQuiet P ops C Q l a
  | [], _, h => h
  | o :: l, a, h => by
    have h' : if Region.wanted (strip o) (yielded ops a.tmps) then (strip o).quiet P a C (wpQuiet P ops C Q (l.map strip)) else wpQuiet P ops C Q (l.map strip) (a.put (strip o).dst undef) := h
    rw [wanted_strip, quiet_strip] at h'
    unfold wpQuiet
    split
    · rename_i hw; rw [if_pos hw] at h'; exact Oper.quiet_mono (fun a ha => wpQuiet_strip l a ha) h'
    · rename_i hw; rw [if_neg hw] at h'; exact wpQuiet_strip l _ h'
end

/-! ### a frame, by what is read out of it -/
theorem put_size (a : Act) (d : Nat) (v : Value) : (a.put (some d) v).tmps.size = a.tmps.size := by simp [Act.put]
theorem eval_same (a : Act) (d : Nat) (v : Value) (h : d < a.tmps.size) : (a.put (some d) v).eval (.tmp d) = v := by
  simp [Act.put, Act.eval, h]
theorem eval_other (a : Act) (d n : Nat) (v : Value) (h : n ≠ d) : (a.put (some d) v).eval (.tmp n) = a.eval (.tmp n) := by
  simp only [Act.put, Act.eval, Array.getD_eq_getD_getElem?]
  rw [Array.getElem?_setIfInBounds_ne (Ne.symm h)]
def upd (f : Nat → Value) (d : Nat) (v : Value) (n : Nat) : Value := if n = d then v else f n
theorem upd_same (f : Nat → Value) (d : Nat) (v : Value) : upd f d v d = v := if_pos rfl
theorem upd_other (f : Nat → Value) (d : Nat) (v : Value) (n : Nat) (h : n ≠ d) : upd f d v n = f n := if_neg h
/-- A frame of 'N' slots. -/
structure Sees (N : Nat) (a : Act) (f : Nat → Value) : Prop where
  size : a.tmps.size = N
  defers : a.defers = []
  ev : ∀ n : Nat, n < N → a.eval (.tmp n) = f n
theorem Sees.put {N : Nat} {a : Act} {f : Nat → Value} (h : Sees N a f) (d : Nat) (v : Value) (hd : d < N) : Sees N (a.put (some d) v) (upd f d v) := by
  refine ⟨(put_size a d v).trans h.size, h.defers, fun n hn => ?_⟩
  by_cases e : n = d
  · subst e; rw [upd_same, eval_same a n v (by rw [h.size]; exact hn)]
  · rw [upd_other f d v n e, eval_other a d n v e, h.ev n hn]

section
variable {P : Program} {ops : Array Oper} {C : World → Prop} {Q : Act → Prop} {a : Act} {o : Oper} {rest : List Oper} {w : World}
theorem wq_cons (v : Value) (hg : o.guard = none) (hv : ∀ w, C w → o.quietAt P a C w v) (h : wpQuiet P ops C Q rest (a.put o.dst v)) : wpQuiet P ops C Q (o :: rest) a := by
  unfold wpQuiet
  rw [if_pos (by simp [Region.wanted, hg])]
  exact ⟨v, hv, h⟩
/-- one operation of a walk in the order of the text, the frame behind it a variable -/
theorem wq_step {N : Nat} {f : Nat → Value} (hS : Sees N a f) (d : Nat) (v : Value) (hg : o.guard = none) (ho : o.dst = some d) (hd : d < N)
    (hv : ∀ w, C w → o.quietAt P a C w v) (h : ∀ a', Sees N a' (upd f d v) → wpQuiet P ops C Q rest a') : wpQuiet P ops C Q (o :: rest) a :=
  wq_cons v hg hv (h _ (by rw [ho]; exact hS.put d v hd))
theorem still_of {K : Act → Prop} {v : Value} (hv : o.quietAt P a (fun w' => w' = w) w v) (h : K (a.put o.dst v)) : o.still P a w K := by
  unfold Oper.quietAt at hv
  unfold Oper.still
  generalize (execOp a.eval o).run P w = r at *
  cases r with
  | ok n w' =>
    cases n <;> simp only [Oper.quietUpon] at hv <;> simp only [Oper.stillUpon]
    case value u => exact ⟨hv.1, hv.2 ▸ h⟩
    case skip => exact ⟨hv.1, hv.2 ▸ h⟩
    case enter f args => exact ⟨hv.1, v, hv.1 ▸ hv.2, h⟩
  | halt x w' => simp only [Oper.quietUpon] at hv
/-- the same where the world stays the very same -/
theorem ws_step {N : Nat} {f : Nat → Value} (hS : Sees N a f) (d : Nat) (v : Value) (hg : o.guard = none) (ho : o.dst = some d) (hd : d < N)
    (hv : ∀ w', w' = w → o.quietAt P a (fun w' => w' = w) w' v) (h : ∀ a', Sees N a' (upd f d v) → wpStill P ops w Q rest a') : wpStill P ops w Q (o :: rest) a := by
  unfold wpStill
  rw [if_pos (by simp [Region.wanted, hg])]
  exact still_of (hv w rfl) (h _ (by rw [ho]; exact hS.put d v hd))
end
section
variable {P : Program} {ops : Array Oper} {Q : Exit → Act → World → Prop} {a : Act} {o : Oper} {rest : List Oper} {w : World}
/-- the same in a region that draws nothing -/
theorem wl_step {N : Nat} {f : Nat → Value} (hS : Sees N a f) (d : Nat) (v : Value) (hg : o.guard = none) (ho : o.dst = some d) (hd : d < N)
    (hv : ∀ w', w' = w → o.quietAt P a (fun w' => w' = w) w' v) (h : ∀ a', Sees N a' (upd f d v) → wpList P ops Q rest a' w) : wpList P ops Q (o :: rest) a w :=
  wpList_plain hg fun K hK => Oper.wp_of_quiet (C := fun w' => w' = w) (K := fun a' => K a' w) rfl (fun _ _ e hk => e ▸ hk) ⟨v, hv, hK _ _ (h _ (by rw [ho]; exact hS.put d v hd))⟩
theorem wpList_strip : ∀ (l : List Oper) (a : Act) (w : World), wpList P ops Q (l.map strip) a w → wpList P ops Q l a w
  | [], _, _, h => h
  | o :: l, a, w, h => by
    have h' : if Region.wanted o (yielded ops a.tmps) then o.wp P a w (wpList P ops Q (l.map strip)) Q ∨ (o.asks P a w ∧ LetsOut Q) else wpList P ops Q (l.map strip) (a.put o.dst undef) w := h
    unfold wpList
    split
    · rename_i hw
      rw [if_pos hw] at h'
      rcases h' with h' | h'
      · exact .inl (Oper.wp_mono (fun a w ha => wpList_strip l a w ha) h')
      · exact .inr h'
    · rename_i hw; rw [if_neg hw] at h'; exact wpList_strip l _ _ h'
theorem wpStill_strip {Q : Act → Prop} : ∀ (l : List Oper) (a : Act), wpStill P ops w Q (l.map strip) a → wpStill P ops w Q l a
  | [], _, h => h
  | o :: l, a, h => by
    have h' : if Region.wanted o (yielded ops a.tmps) then o.still P a w (wpStill P ops w Q (l.map strip)) else wpStill P ops w Q (l.map strip) (a.put o.dst undef) := h
    unfold wpStill
    split
    · rename_i hw; rw [if_pos hw] at h'; exact Oper.still_mono (fun a ha => wpStill_strip l a ha) h'
    · rename_i hw; rw [if_neg hw] at h'; exact wpStill_strip l _ h'
end
end
section
open Go.RowKit
set_option linter.unusedSimpArgs false
set_option linter.unusedVariables false
section
variable {C : World → Prop} {a : Act} {o : Oper}
theorem qa_move (x : Operand) (v : Value) (h : o.op = .move x) (hx : a.eval x = v) : ∀ w, C w → o.quietAt Try.prog a C w v := by
  intro w _; unfold Oper.quietAt; rw [BigFrame.run_move x h]; exact ⟨rfl, hx⟩
theorem qa_assign (x : Operand) (v : Value) (h : o.op = .assign x) (hx : a.eval x = v) : ∀ w, C w → o.quietAt Try.prog a C w v := by
  intro w _; unfold Oper.quietAt; rw [BigFrame.run_assign x h]; exact ⟨rfl, hx⟩
theorem qa_nil (x : Operand) (p : Addr) (h : o.op = .nilCheck x) (hx : a.eval x = .pointer (some p)) : ∀ w, C w → o.quietAt Try.prog a C w (.pointer (some p)) := by
  intro w _; unfold Oper.quietAt execOp; rw [h]; simp [hx, Oper.quietUpon]
theorem run_index24 (m p : Nat) (hp : p < 16) (w : World) : (Instr.indexAt 24 (.pointer (some ⟨m, 0, none⟩)) (.int .i64 (p : Int))).run Try.prog w = .ok (.pointer (some ⟨m, p, none⟩)) w := by
  simp [go_sem]
  omega
theorem qa_index (x : Operand) (m p : Nat) (h : o.op = .indexAddr 24 x (.const (.int .i64 (p : Int)))) (hp : p < 16) (hx : a.eval x = .pointer (some ⟨m, 0, none⟩)) :
    ∀ w, C w → o.quietAt Try.prog a C w (.pointer (some ⟨m, p, none⟩)) := by
  intro w _; unfold Oper.quietAt execOp; rw [h]
  show Oper.quietUpon Try.prog C w _ ((Sem.run Try.prog (do pure (.value (← Instr.indexAt 24 (a.eval x) (a.eval (.const (.int .i64 (p : Int))))))) w))
  rw [hx, show a.eval (.const (.int .i64 (p : Int))) = .int .i64 (p : Int) from rfl, Sem.run_bind, run_index24 m p hp w]
  simp [Oper.quietUpon]
theorem qa_load (x : Operand) (p : Addr) (n : Int) (h : o.op = .load 22 x) (hx : a.eval x = .pointer (some p)) (hc : ∀ w, C w → w.cell? p = some (.int .u32 n)) :
    ∀ w, C w → o.quietAt Try.prog a C w (.int .u32 n) := by
  intro w hw; unfold Oper.quietAt execOp; rw [h]
  have := hc w hw
  dsimp only
  rw [hx]
  simp [go_sem, this, Oper.quietUpon]
theorem qa_extract (x : Operand) (vs : Array Value) (i : Nat) (v : Value) (h : o.op = .extract x i) (hx : a.eval x = .tuple vs) (hi : vs[i]? = some v) :
    ∀ w, C w → o.quietAt Try.prog a C w v := by
  intro w _; unfold Oper.quietAt execOp; rw [h]
  dsimp only
  rw [hx]
  simp [go_sem, hi, Oper.quietUpon]
theorem qa_call (f : FuncId) (xs : Array Operand) (ts : Array TypeId) (args : Array Value) (v : Value) (h : o.op = .call { callee := .value (.func f), args := xs, argTypes := ts })
    (hx : xs.map a.eval = args) (hf : ∀ w, (callFunc f args).run Try.prog w = .ok (.enter f args) w) (hc : ∀ w, C w → Calls Try.prog f args w (fun e w'' => e = .returned v ∧ C w'')) :
    ∀ w, C w → o.quietAt Try.prog a C w v := by
  intro w hw; unfold Oper.quietAt execOp; rw [h]
  have h1 := hc w hw
  have h2 := hf w
  dsimp only
  simp only [resolve, hx, Deferred.ofValue, Act.eval, invoke, Sem.run_bind, Sem.run_pure, Result.andThen_ok, Array.append_empty, Array.empty_append, h2]
  exact ⟨rfl, h1⟩
theorem enter14 (args : Array Value) (w : World) : (callFunc 14 args).run Try.prog w = .ok (.enter 14 args) w := by
  simp [go_sem]
theorem qa_xor (x y : Operand) (m n : Int) (t : TypeId) (h : o.op = .binOp .xor 22 x y t) (hx : a.eval x = .int .u32 m) (hy : a.eval y = .int .u32 n) :
    ∀ w, C w → o.quietAt Try.prog a C w (.int .u32 (xr m n)) := by
  intro w hw; unfold Oper.quietAt execOp; rw [h]
  dsimp only
  rw [hx, hy]
  simp [go_sem, Oper.quietUpon, xr]
end
theorem wl_store {ops : Array Oper} {Q : Exit → Act → World → Prop} {a : Act} {o : Oper} {rest : List Oper} {w : World} (x y : Operand) (p : Addr) (v : Value) (n : Int) (hg : o.guard = none) (ho : o.op = .store 22 x y) (hd : o.dst = none)
    (hx : a.eval x = .pointer (some p)) (hy : a.eval y = .int .u32 n) (hc : w.cell? p = some v) (hf : w.frozen? p = false) (h : wpList Try.prog ops Q rest a (w.setCell p (.int .u32 n))) : wpList Try.prog ops Q (o :: rest) a w := by
  refine wpList_plain hg fun K hK => ?_
  unfold Oper.wp execOp
  rw [ho]
  dsimp only
  rw [hx, hy]
  simp [go_sem, hc, hf, Oper.upon, hd]
  exact hK _ _ h

/-- The frame of 'rcompress', seen by what is read later: the two pointers and the first K words. -/
structure FrK (s m : Nat) (K : Nat) (V : List Int) (a : Act) : Prop where
  len : V.length = 16
  defers : a.defers = []
  size : a.tmps.size = 1212
  p0 : a.eval (.tmp 0) = .pointer (some ⟨s, 0, none⟩)
  p1 : a.eval (.tmp 1) = .pointer (some ⟨m, 0, none⟩)
  v : ∀ n : Nat, n < K → a.eval (.tmp (4 + n)) = .int .u32 (at_ V n)
abbrev Fr (s m : Nat) (V : List Int) (a : Act) : Prop := FrK s m 16 V a
theorem FrK.sees {s m K : Nat} {V : List Int} {a : Act} (h : FrK s m K V a) : Sees 1212 a (fun n => a.eval (.tmp n)) := ⟨h.size, h.defers, fun _ _ => rfl⟩

/-- the operations of one statement that mixes four words with two of the block -/
def gOps (t i j k l p q : Nat) : List Oper := [
  O (t+1) (.move (.tmp (4+i))) 22, O (t+2) (.move (.tmp (4+j))) 22, O (t+3) (.move (.tmp (4+k))) 22, O (t+4) (.move (.tmp (4+l))) 22,
  O (t+5) (.move (.tmp 1)) 31, O (t+6) (.nilCheck (.tmp (t+5))) 0, O (t+7) (.indexAddr 24 (.tmp (t+6)) (.const (.int .i64 (p : Int)))) 0, O (t+8) (.load 22 (.tmp (t+7))) 22,
  O (t+9) (.move (.tmp 1)) 31, O (t+10) (.nilCheck (.tmp (t+9))) 0, O (t+11) (.indexAddr 24 (.tmp (t+10)) (.const (.int .i64 (q : Int)))) 0, O (t+12) (.load 22 (.tmp (t+11))) 22,
  O (t+13) (.call { callee := .value (.func 14), args := #[.tmp (t+1), .tmp (t+2), .tmp (t+3), .tmp (t+4), .tmp (t+8), .tmp (t+12)], argTypes := #[22, 22, 22, 22, 22, 22] }) 37,
  O t (.move (.tmp (t+13))) 37, O (t+14) (.extract (.tmp t) 0) 22, O (t+15) (.extract (.tmp t) 1) 22, O (t+16) (.extract (.tmp t) 2) 22, O (t+17) (.extract (.tmp t) 3) 22,
  O (4+i) (.assign (.tmp (t+14))) 22, O (4+j) (.assign (.tmp (t+15))) 22, O (4+k) (.assign (.tmp (t+16))) 22, O (4+l) (.assign (.tmp (t+17))) 22]
set_option maxHeartbeats 1000000 in
theorem gstep {Q : Exit → Act → World → Prop} {a : Act} {w : World} {s m : Nat} {V M : List Int} {id : Nat} {ops : List Oper} (t i j k l p q : Nat) (hops : ops.map strip = gOps t i j k l p q)
    (hB : Region.lexB .any ops.toArray = true) (ht : 20 ≤ t) (ht' : t + 18 ≤ 1212) (hi : i < 16) (hj : j < 16) (hk : k < 16) (hl : l < 16)
    (hij : i ≠ j) (hik : i ≠ k) (hil : i ≠ l) (hjk : j ≠ k) (hjl : j ≠ l) (hkl : k ≠ l) (hp : p < 16) (hq : q < 16)
    (hF : Fr s m V a) (hm : ∀ n, n < 16 → w.cell? ⟨m, n, none⟩ = some (.int .u32 (at_ M n)))
    (h : ∀ a' n, Fr s m (gs V i j k l (at_ M p) (at_ M q)) a' → Q .normal a' (w.drewN n)) :
    (Code.region id ops.toArray true).wp Try.prog Q a w := by
  refine wp_region_quiet_lit (by kernel_rfl) hB (wpQuiet_strip _ _ ?_)
  rw [hops]
  have hcall : ∀ w1, (∃ n, w1 = w.drewN n) → Calls Try.prog 14 #[.int .u32 (at_ V i), .int .u32 (at_ V j), .int .u32 (at_ V k), .int .u32 (at_ V l), .int .u32 (at_ M p), .int .u32 (at_ M q)] w1 (fun e w'' => e = .returned (.tuple #[.int .u32 (mix ⟨at_ V i, at_ V j, at_ V k, at_ V l⟩ (at_ M p) (at_ M q)).a, .int .u32 (mix ⟨at_ V i, at_ V j, at_ V k, at_ V l⟩ (at_ M p) (at_ M q)).b, .int .u32 (mix ⟨at_ V i, at_ V j, at_ V k, at_ V l⟩ (at_ M p) (at_ M q)).c, .int .u32 (mix ⟨at_ V i, at_ V j, at_ V k, at_ V l⟩ (at_ M p) (at_ M q)).d]) ∧ ∃ n, w'' = w.drewN n) := by
    rintro w1 ⟨n, rfl⟩
    exact (g_any ⟨at_ V i, at_ V j, at_ V k, at_ V l⟩ (at_ M p) (at_ M q) (w.drewN n)).mono fun _ _ ⟨he, hw⟩ => ⟨he, n, hw.symm⟩
  have hg : gs V i j k l (at_ M p) (at_ M q) = ((((V.set i (mix ⟨at_ V i, at_ V j, at_ V k, at_ V l⟩ (at_ M p) (at_ M q)).a).set j (mix ⟨at_ V i, at_ V j, at_ V k, at_ V l⟩ (at_ M p) (at_ M q)).b).set k (mix ⟨at_ V i, at_ V j, at_ V k, at_ V l⟩ (at_ M p) (at_ M q)).c).set l (mix ⟨at_ V i, at_ V j, at_ V k, at_ V l⟩ (at_ M p) (at_ M q)).d) := rfl
  generalize gs V i j k l (at_ M p) (at_ M q) = G at h hg
  generalize mix ⟨at_ V i, at_ V j, at_ V k, at_ V l⟩ (at_ M p) (at_ M q) = R at hcall hg
  have hS0 := hF.sees
  unfold gOps
  refine wq_step hS0 (t+1) (.int .u32 (at_ V i)) rfl rfl (by omega) (qa_move _ _ rfl ((hS0.ev (4+i) (by omega)).trans (hF.v i hi))) ?_
  intro a1 hS1
  refine wq_step hS1 (t+2) (.int .u32 (at_ V j)) rfl rfl (by omega) (qa_move _ _ rfl ((hS1.ev (4+j) (by omega)).trans (by simp (discharger := omega) only [upd_same, upd_other]; exact hF.v j hj))) ?_
  intro a2 hS2
  refine wq_step hS2 (t+3) (.int .u32 (at_ V k)) rfl rfl (by omega) (qa_move _ _ rfl ((hS2.ev (4+k) (by omega)).trans (by simp (discharger := omega) only [upd_same, upd_other]; exact hF.v k hk))) ?_
  intro a3 hS3
  refine wq_step hS3 (t+4) (.int .u32 (at_ V l)) rfl rfl (by omega) (qa_move _ _ rfl ((hS3.ev (4+l) (by omega)).trans (by simp (discharger := omega) only [upd_same, upd_other]; exact hF.v l hl))) ?_
  intro a4 hS4
  refine wq_step hS4 (t+5) (.pointer (some ⟨m, 0, none⟩)) rfl rfl (by omega) (qa_move _ _ rfl ((hS4.ev (1) (by omega)).trans (by simp (discharger := omega) only [upd_same, upd_other]; exact hF.p1))) ?_
  intro a5 hS5
  refine wq_step hS5 (t+6) (.pointer (some ⟨m, 0, none⟩)) rfl rfl (by omega) (qa_nil _ _ rfl ((hS5.ev (t+5) (by omega)).trans (by simp (discharger := omega) only [upd_same, upd_other]))) ?_
  intro a6 hS6
  refine wq_step hS6 (t+7) (.pointer (some ⟨m, p, none⟩)) rfl rfl (by omega) (qa_index _ m p rfl hp ((hS6.ev (t+6) (by omega)).trans (by simp (discharger := omega) only [upd_same, upd_other]))) ?_
  intro a7 hS7
  refine wq_step hS7 (t+8) (.int .u32 (at_ M p)) rfl rfl (by omega) (qa_load _ ⟨m, p, none⟩ _ rfl ((hS7.ev (t+7) (by omega)).trans (by simp (discharger := omega) only [upd_same, upd_other])) (by rintro _ ⟨n, rfl⟩; exact hm p hp)) ?_
  intro a8 hS8
  refine wq_step hS8 (t+9) (.pointer (some ⟨m, 0, none⟩)) rfl rfl (by omega) (qa_move _ _ rfl ((hS8.ev (1) (by omega)).trans (by simp (discharger := omega) only [upd_same, upd_other]; exact hF.p1))) ?_
  intro a9 hS9
  refine wq_step hS9 (t+10) (.pointer (some ⟨m, 0, none⟩)) rfl rfl (by omega) (qa_nil _ _ rfl ((hS9.ev (t+9) (by omega)).trans (by simp (discharger := omega) only [upd_same, upd_other]))) ?_
  intro a10 hS10
  refine wq_step hS10 (t+11) (.pointer (some ⟨m, q, none⟩)) rfl rfl (by omega) (qa_index _ m q rfl hq ((hS10.ev (t+10) (by omega)).trans (by simp (discharger := omega) only [upd_same, upd_other]))) ?_
  intro a11 hS11
  refine wq_step hS11 (t+12) (.int .u32 (at_ M q)) rfl rfl (by omega) (qa_load _ ⟨m, q, none⟩ _ rfl ((hS11.ev (t+11) (by omega)).trans (by simp (discharger := omega) only [upd_same, upd_other])) (by rintro _ ⟨n, rfl⟩; exact hm q hq)) ?_
  intro a12 hS12
  refine wq_step hS12 (t+13) (.tuple #[.int .u32 R.a, .int .u32 R.b, .int .u32 R.c, .int .u32 R.d]) rfl rfl (by omega) (qa_call 14 _ _ #[.int .u32 (at_ V i), .int .u32 (at_ V j), .int .u32 (at_ V k), .int .u32 (at_ V l), .int .u32 (at_ M p), .int .u32 (at_ M q)] _ rfl (by simp (discharger := omega) only [List.map_toArray, List.map_cons, List.map_nil, hS12.ev (t+1) (by omega), hS12.ev (t+2) (by omega), hS12.ev (t+3) (by omega), hS12.ev (t+4) (by omega), hS12.ev (t+8) (by omega), hS12.ev (t+12) (by omega), upd_same, upd_other]) (enter14 _) hcall) ?_
  intro a13 hS13
  refine wq_step hS13 (t) (.tuple #[.int .u32 R.a, .int .u32 R.b, .int .u32 R.c, .int .u32 R.d]) rfl rfl (by omega) (qa_move _ _ rfl ((hS13.ev (t+13) (by omega)).trans (by simp (discharger := omega) only [upd_same, upd_other]))) ?_
  intro a14 hS14
  refine wq_step hS14 (t+14) (.int .u32 R.a) rfl rfl (by omega) (qa_extract _ #[.int .u32 R.a, .int .u32 R.b, .int .u32 R.c, .int .u32 R.d] 0 _ rfl ((hS14.ev (t) (by omega)).trans (by simp (discharger := omega) only [upd_same, upd_other])) rfl) ?_
  intro a15 hS15
  refine wq_step hS15 (t+15) (.int .u32 R.b) rfl rfl (by omega) (qa_extract _ #[.int .u32 R.a, .int .u32 R.b, .int .u32 R.c, .int .u32 R.d] 1 _ rfl ((hS15.ev (t) (by omega)).trans (by simp (discharger := omega) only [upd_same, upd_other])) rfl) ?_
  intro a16 hS16
  refine wq_step hS16 (t+16) (.int .u32 R.c) rfl rfl (by omega) (qa_extract _ #[.int .u32 R.a, .int .u32 R.b, .int .u32 R.c, .int .u32 R.d] 2 _ rfl ((hS16.ev (t) (by omega)).trans (by simp (discharger := omega) only [upd_same, upd_other])) rfl) ?_
  intro a17 hS17
  refine wq_step hS17 (t+17) (.int .u32 R.d) rfl rfl (by omega) (qa_extract _ #[.int .u32 R.a, .int .u32 R.b, .int .u32 R.c, .int .u32 R.d] 3 _ rfl ((hS17.ev (t) (by omega)).trans (by simp (discharger := omega) only [upd_same, upd_other])) rfl) ?_
  intro a18 hS18
  refine wq_step hS18 (4+i) (.int .u32 R.a) rfl rfl (by omega) (qa_assign _ _ rfl ((hS18.ev (t+14) (by omega)).trans (by simp (discharger := omega) only [upd_same, upd_other]))) ?_
  intro a19 hS19
  refine wq_step hS19 (4+j) (.int .u32 R.b) rfl rfl (by omega) (qa_assign _ _ rfl ((hS19.ev (t+15) (by omega)).trans (by simp (discharger := omega) only [upd_same, upd_other]))) ?_
  intro a20 hS20
  refine wq_step hS20 (4+k) (.int .u32 R.c) rfl rfl (by omega) (qa_assign _ _ rfl ((hS20.ev (t+16) (by omega)).trans (by simp (discharger := omega) only [upd_same, upd_other]))) ?_
  intro a21 hS21
  refine wq_step hS21 (4+l) (.int .u32 R.d) rfl rfl (by omega) (qa_assign _ _ rfl ((hS21.ev (t+17) (by omega)).trans (by simp (discharger := omega) only [upd_same, upd_other]))) ?_
  intro a22 hS22
  refine wpQuiet_nil ?_
  rintro w' ⟨n, rfl⟩
  have hlen := hF.len
  refine h _ n ⟨by rw [hg]; simpa using hlen, hS22.defers, hS22.size, ?_, ?_, ?_⟩
  · rw [hS22.ev 0 (by omega)]; simp (discharger := omega) only [upd_other]; exact hF.p0
  · rw [hS22.ev 1 (by omega)]; simp (discharger := omega) only [upd_other]; exact hF.p1
  · intro z hz
    rw [hS22.ev (4 + z) (by omega)]
    subst hg
    by_cases e1 : z = l
    · subst e1; simp (discharger := omega) only [upd_same, upd_other]; simp [at_, hlen, hz]
    by_cases e2 : z = k
    · subst e2; simp (discharger := omega) only [upd_same, upd_other]; simp [at_, hlen, hz, List.getElem?_set, Ne.symm e1]
    by_cases e3 : z = j
    · subst e3; simp (discharger := omega) only [upd_same, upd_other]; simp [at_, hlen, hz, List.getElem?_set, Ne.symm e1, Ne.symm e2]
    by_cases e4 : z = i
    · subst e4; simp (discharger := omega) only [upd_same, upd_other]; simp [at_, hlen, hz, List.getElem?_set, Ne.symm e1, Ne.symm e2, Ne.symm e3]
    simp (discharger := omega) only [upd_other]
    rw [hF.v z hz]
    simp [at_, hlen, hz, List.getElem?_set, Ne.symm e1, Ne.symm e2, Ne.symm e3, Ne.symm e4]

/-- the operations of one statement that reads four words -/
def lOps (t k : Nat) : List Oper := [
  O (t+0) (.move (.tmp 0)) 31, O (t+1) (.nilCheck (.tmp (t+0))) 0, O (t+2) (.indexAddr 24 (.tmp (t+1)) (.const (.int .i64 ((k+0 : Nat) : Int)))) 0, O (t+3) (.load 22 (.tmp (t+2))) 22,
  O (t+4) (.move (.tmp 0)) 31, O (t+5) (.nilCheck (.tmp (t+4))) 0, O (t+6) (.indexAddr 24 (.tmp (t+5)) (.const (.int .i64 ((k+1 : Nat) : Int)))) 0, O (t+7) (.load 22 (.tmp (t+6))) 22,
  O (t+8) (.move (.tmp 0)) 31, O (t+9) (.nilCheck (.tmp (t+8))) 0, O (t+10) (.indexAddr 24 (.tmp (t+9)) (.const (.int .i64 ((k+2 : Nat) : Int)))) 0, O (t+11) (.load 22 (.tmp (t+10))) 22,
  O (t+12) (.move (.tmp 0)) 31, O (t+13) (.nilCheck (.tmp (t+12))) 0, O (t+14) (.indexAddr 24 (.tmp (t+13)) (.const (.int .i64 ((k+3 : Nat) : Int)))) 0, O (t+15) (.load 22 (.tmp (t+14))) 22,
  O (4+(k+0)) (.assign (.tmp (t+3))) 22,   O (4+(k+1)) (.assign (.tmp (t+7))) 22,   O (4+(k+2)) (.assign (.tmp (t+11))) 22,   O (4+(k+3)) (.assign (.tmp (t+15))) 22]
set_option maxHeartbeats 1000000 in
theorem lstep {Q : Exit → Act → World → Prop} {a : Act} {w : World} {s m : Nat} {V : List Int} {id : Nat} {ops : List Oper} (t k : Nat) (hops : ops.map strip = lOps t k)
    (hB : Region.lexB .any ops.toArray = true) (ht : 20 ≤ t) (ht' : t + 16 ≤ 1212) (hk : k + 4 ≤ 16)
    (hF : FrK s m k V a) (hs : ∀ n, n < 16 → w.cell? ⟨s, n, none⟩ = some (.int .u32 (at_ V n)))
    (h : ∀ a' n, FrK s m (k + 4) V a' → Q .normal a' (w.drewN n)) :
    (Code.region id ops.toArray true).wp Try.prog Q a w := by
  refine wp_region_quiet_lit (by kernel_rfl) hB (wpQuiet_strip _ _ ?_)
  rw [hops]
  have hS0 := hF.sees
  unfold lOps
  refine wq_step hS0 (t+0) (.pointer (some ⟨s, 0, none⟩)) rfl rfl (by omega) (qa_move _ _ rfl ((hS0.ev (0) (by omega)).trans (hF.p0))) ?_
  intro a1 hS1
  refine wq_step hS1 (t+1) (.pointer (some ⟨s, 0, none⟩)) rfl rfl (by omega) (qa_nil _ _ rfl ((hS1.ev (t+0) (by omega)).trans (by simp (discharger := omega) only [upd_same, upd_other]))) ?_
  intro a2 hS2
  refine wq_step hS2 (t+2) (.pointer (some ⟨s, k+0, none⟩)) rfl rfl (by omega) (qa_index _ s (k+0) rfl (by omega) ((hS2.ev (t+1) (by omega)).trans (by simp (discharger := omega) only [upd_same, upd_other]))) ?_
  intro a3 hS3
  refine wq_step hS3 (t+3) (.int .u32 (at_ V (k+0))) rfl rfl (by omega) (qa_load _ ⟨s, k+0, none⟩ _ rfl ((hS3.ev (t+2) (by omega)).trans (by simp (discharger := omega) only [upd_same, upd_other])) (by rintro _ ⟨n, rfl⟩; exact hs (k+0) (by omega))) ?_
  intro a4 hS4
  refine wq_step hS4 (t+4) (.pointer (some ⟨s, 0, none⟩)) rfl rfl (by omega) (qa_move _ _ rfl ((hS4.ev (0) (by omega)).trans (by simp (discharger := omega) only [upd_same, upd_other]; exact hF.p0))) ?_
  intro a5 hS5
  refine wq_step hS5 (t+5) (.pointer (some ⟨s, 0, none⟩)) rfl rfl (by omega) (qa_nil _ _ rfl ((hS5.ev (t+4) (by omega)).trans (by simp (discharger := omega) only [upd_same, upd_other]))) ?_
  intro a6 hS6
  refine wq_step hS6 (t+6) (.pointer (some ⟨s, k+1, none⟩)) rfl rfl (by omega) (qa_index _ s (k+1) rfl (by omega) ((hS6.ev (t+5) (by omega)).trans (by simp (discharger := omega) only [upd_same, upd_other]))) ?_
  intro a7 hS7
  refine wq_step hS7 (t+7) (.int .u32 (at_ V (k+1))) rfl rfl (by omega) (qa_load _ ⟨s, k+1, none⟩ _ rfl ((hS7.ev (t+6) (by omega)).trans (by simp (discharger := omega) only [upd_same, upd_other])) (by rintro _ ⟨n, rfl⟩; exact hs (k+1) (by omega))) ?_
  intro a8 hS8
  refine wq_step hS8 (t+8) (.pointer (some ⟨s, 0, none⟩)) rfl rfl (by omega) (qa_move _ _ rfl ((hS8.ev (0) (by omega)).trans (by simp (discharger := omega) only [upd_same, upd_other]; exact hF.p0))) ?_
  intro a9 hS9
  refine wq_step hS9 (t+9) (.pointer (some ⟨s, 0, none⟩)) rfl rfl (by omega) (qa_nil _ _ rfl ((hS9.ev (t+8) (by omega)).trans (by simp (discharger := omega) only [upd_same, upd_other]))) ?_
  intro a10 hS10
  refine wq_step hS10 (t+10) (.pointer (some ⟨s, k+2, none⟩)) rfl rfl (by omega) (qa_index _ s (k+2) rfl (by omega) ((hS10.ev (t+9) (by omega)).trans (by simp (discharger := omega) only [upd_same, upd_other]))) ?_
  intro a11 hS11
  refine wq_step hS11 (t+11) (.int .u32 (at_ V (k+2))) rfl rfl (by omega) (qa_load _ ⟨s, k+2, none⟩ _ rfl ((hS11.ev (t+10) (by omega)).trans (by simp (discharger := omega) only [upd_same, upd_other])) (by rintro _ ⟨n, rfl⟩; exact hs (k+2) (by omega))) ?_
  intro a12 hS12
  refine wq_step hS12 (t+12) (.pointer (some ⟨s, 0, none⟩)) rfl rfl (by omega) (qa_move _ _ rfl ((hS12.ev (0) (by omega)).trans (by simp (discharger := omega) only [upd_same, upd_other]; exact hF.p0))) ?_
  intro a13 hS13
  refine wq_step hS13 (t+13) (.pointer (some ⟨s, 0, none⟩)) rfl rfl (by omega) (qa_nil _ _ rfl ((hS13.ev (t+12) (by omega)).trans (by simp (discharger := omega) only [upd_same, upd_other]))) ?_
  intro a14 hS14
  refine wq_step hS14 (t+14) (.pointer (some ⟨s, k+3, none⟩)) rfl rfl (by omega) (qa_index _ s (k+3) rfl (by omega) ((hS14.ev (t+13) (by omega)).trans (by simp (discharger := omega) only [upd_same, upd_other]))) ?_
  intro a15 hS15
  refine wq_step hS15 (t+15) (.int .u32 (at_ V (k+3))) rfl rfl (by omega) (qa_load _ ⟨s, k+3, none⟩ _ rfl ((hS15.ev (t+14) (by omega)).trans (by simp (discharger := omega) only [upd_same, upd_other])) (by rintro _ ⟨n, rfl⟩; exact hs (k+3) (by omega))) ?_
  intro a16 hS16
  refine wq_step hS16 (4+(k+0)) (.int .u32 (at_ V (k+0))) rfl rfl (by omega) (qa_assign _ _ rfl ((hS16.ev (t+3) (by omega)).trans (by simp (discharger := omega) only [upd_same, upd_other]))) ?_
  intro a17 hS17
  refine wq_step hS17 (4+(k+1)) (.int .u32 (at_ V (k+1))) rfl rfl (by omega) (qa_assign _ _ rfl ((hS17.ev (t+7) (by omega)).trans (by simp (discharger := omega) only [upd_same, upd_other]))) ?_
  intro a18 hS18
  refine wq_step hS18 (4+(k+2)) (.int .u32 (at_ V (k+2))) rfl rfl (by omega) (qa_assign _ _ rfl ((hS18.ev (t+11) (by omega)).trans (by simp (discharger := omega) only [upd_same, upd_other]))) ?_
  intro a19 hS19
  refine wq_step hS19 (4+(k+3)) (.int .u32 (at_ V (k+3))) rfl rfl (by omega) (qa_assign _ _ rfl ((hS19.ev (t+15) (by omega)).trans (by simp (discharger := omega) only [upd_same, upd_other]))) ?_
  intro a20 hS20
  refine wpQuiet_nil ?_
  rintro w' ⟨n, rfl⟩
  refine h _ n ⟨hF.len, hS20.defers, hS20.size, ?_, ?_, ?_⟩
  · rw [hS20.ev 0 (by omega)]; simp (discharger := omega) only [upd_other]; exact hF.p0
  · rw [hS20.ev 1 (by omega)]; simp (discharger := omega) only [upd_other]; exact hF.p1
  · intro z hz
    rw [hS20.ev (4 + z) (by omega)]
    by_cases e1 : z = k + 3
    · subst e1; simp (discharger := omega) only [upd_same, upd_other]
    by_cases e2 : z = k + 2
    · subst e2; simp (discharger := omega) only [upd_same, upd_other]
    by_cases e3 : z = k + 1
    · subst e3; simp (discharger := omega) only [upd_same, upd_other]
    by_cases e4 : z = k
    · subst e4; simp (discharger := omega) only [upd_same, upd_other, Nat.add_zero]
    simp (discharger := omega) only [upd_other]
    exact hF.v z (by omega)

/-- the operations of one statement that writes a word of the upper half -/
def xOps (t i : Nat) : List Oper := [
  O t (.move (.tmp 0)) 31, O (t+1) (.move (.tmp (4+(8+i)))) 22, O (t+2) (.move (.tmp 0)) 31, O (t+3) (.nilCheck (.tmp (t+2))) 0,
  O (t+4) (.indexAddr 24 (.tmp (t+3)) (.const (.int .i64 (i : Int)))) 0, O (t+5) (.load 22 (.tmp (t+4))) 22, O (t+6) (.binOp .xor 22 (.tmp (t+1)) (.tmp (t+5)) 22) 22,
  O (t+7) (.nilCheck (.tmp t)) 0, O (t+8) (.indexAddr 24 (.tmp (t+7)) (.const (.int .i64 ((8+i : Nat) : Int)))) 0]
def xLast (t : Nat) : List Oper := [{ dst := none, op := .store 22 (.tmp (t+8)) (.tmp (t+6)), type := 0, pos := "", after := #[], guard := none }]
theorem FrK.keep {s m K : Nat} {V : List Int} {a a' : Act} {f : Nat → Value} (h : FrK s m K V a) (h' : Sees 1212 a' f) (hf : ∀ n, n < 20 → f n = a.eval (.tmp n)) (hK : K ≤ 16) : FrK s m K V a' := by
  refine ⟨h.len, h'.defers, h'.size, ?_, ?_, fun n hn => ?_⟩
  · rw [h'.ev 0 (by omega), hf 0 (by omega), h.p0]
  · rw [h'.ev 1 (by omega), hf 1 (by omega), h.p1]
  · rw [h'.ev (4 + n) (by omega), hf (4 + n) (by omega), h.v n hn]
theorem setRow_drew (w : World) (g : Nat) (cs : Array Value) : (w.drewN 1).setRow g cs = (w.setRow g cs).drewN 1 := rfl
theorem setRow_drewN (w : World) (g : Nat) (cs : Array Value) (n : Nat) : (w.drewN n).setRow g cs = (w.setRow g cs).drewN n := rfl
set_option maxHeartbeats 1000000 in
theorem xstep {Q : Exit → Act → World → Prop} {a : Act} {w : World} {s m : Nat} {V S : List Int} {id T : Nat} {ops : List Oper} (t i : Nat) (hops : (ops.take 9).map strip = xOps t i) (hlast : (ops.drop 9).map strip = xLast t)
    (hB : Region.lexTailB .any ops.toArray 9 = true) (ht : 20 ≤ t) (ht' : t + 9 ≤ 1212) (hi : i < 8)
    (hF : Fr s m V a) (hS : S.length = 16) (hs : w.heap[s]? = some (.cells (vals S) T (0, 0)))
    (h : ∀ a', Fr s m V a' → Q .normal a' ((w.setRow s (vals (S.set (8+i) (xr (at_ V (8+i)) (at_ S i))))).drewN 1)) :
    (Code.region id ops.toArray true).wp Try.prog Q a w := by
  refine wp_region_still_tail 9 (by kernel_rfl) hB (wpStill_strip _ _ ?_)
  rw [hops]
  have hcell : ∀ n, n < 16 → (w.drewN 1).cell? ⟨s, n, none⟩ = some (.int .u32 (at_ S n)) := fun n hn => (cell_of_row w s n _ T _ hs).trans (vals_get S n (by omega))
  have hfro : (w.drewN 1).frozen? ⟨s, 8+i, none⟩ = false := frozen_of_row w s (8+i) (vals S) T hs
  change wpStill Try.prog ops.toArray (w.drewN 1) (fun a' => wpList Try.prog ops.toArray Q (ops.drop 9) a' (w.drewN 1)) _ _
  have hS0 := hF.sees
  unfold xOps
  refine ws_step hS0 (t) (.pointer (some ⟨s, 0, none⟩)) rfl rfl (by omega) (qa_move _ _ rfl ((hS0.ev (0) (by omega)).trans (hF.p0))) ?_
  intro a1 hS1
  refine ws_step hS1 (t+1) (.int .u32 (at_ V (8+i))) rfl rfl (by omega) (qa_move _ _ rfl ((hS1.ev (4+(8+i)) (by omega)).trans (by simp (discharger := omega) only [upd_same, upd_other]; exact hF.v (8+i) (by omega)))) ?_
  intro a2 hS2
  refine ws_step hS2 (t+2) (.pointer (some ⟨s, 0, none⟩)) rfl rfl (by omega) (qa_move _ _ rfl ((hS2.ev (0) (by omega)).trans (by simp (discharger := omega) only [upd_same, upd_other]; exact hF.p0))) ?_
  intro a3 hS3
  refine ws_step hS3 (t+3) (.pointer (some ⟨s, 0, none⟩)) rfl rfl (by omega) (qa_nil _ _ rfl ((hS3.ev (t+2) (by omega)).trans (by simp (discharger := omega) only [upd_same, upd_other]))) ?_
  intro a4 hS4
  refine ws_step hS4 (t+4) (.pointer (some ⟨s, i, none⟩)) rfl rfl (by omega) (qa_index _ s i rfl (by omega) ((hS4.ev (t+3) (by omega)).trans (by simp (discharger := omega) only [upd_same, upd_other]))) ?_
  intro a5 hS5
  refine ws_step hS5 (t+5) (.int .u32 (at_ S i)) rfl rfl (by omega) (qa_load _ ⟨s, i, none⟩ _ rfl ((hS5.ev (t+4) (by omega)).trans (by simp (discharger := omega) only [upd_same, upd_other])) (by rintro _ rfl; exact hcell i (by omega))) ?_
  intro a6 hS6
  refine ws_step hS6 (t+6) (.int .u32 (xr (at_ V (8+i)) (at_ S i))) rfl rfl (by omega) (qa_xor _ _ _ _ _ rfl ((hS6.ev (t+1) (by omega)).trans (by simp (discharger := omega) only [upd_same, upd_other])) ((hS6.ev (t+5) (by omega)).trans (by simp (discharger := omega) only [upd_same, upd_other]))) ?_
  intro a7 hS7
  refine ws_step hS7 (t+7) (.pointer (some ⟨s, 0, none⟩)) rfl rfl (by omega) (qa_nil _ _ rfl ((hS7.ev (t) (by omega)).trans (by simp (discharger := omega) only [upd_same, upd_other]))) ?_
  intro a8 hS8
  refine ws_step hS8 (t+8) (.pointer (some ⟨s, 8+i, none⟩)) rfl rfl (by omega) (qa_index _ s (8+i) rfl (by omega) ((hS8.ev (t+7) (by omega)).trans (by simp (discharger := omega) only [upd_same, upd_other]))) ?_
  intro a9 hS9
  refine wpStill_nil (wpList_strip _ _ _ ?_)
  rw [hlast]
  unfold xLast
  refine wl_store _ _ ⟨s, 8+i, none⟩ _ (xr (at_ V (8+i)) (at_ S i)) rfl rfl rfl ((hS9.ev (t+8) (by omega)).trans (by simp (discharger := omega) only [upd_same, upd_other])) ((hS9.ev (t+6) (by omega)).trans (by simp (discharger := omega) only [upd_same, upd_other])) (hcell (8+i) (by omega)) hfro ?_
  refine wpList_nil ?_
  rw [setCell_eq_setRow (w.drewN 1) s (8+i) (vals S) T (0, 0) _ hs, vals_set, setRow_drew]
  refine h _ (hF.keep hS9 (fun n hn => ?_) (Nat.le_refl _))
  simp (discharger := omega) only [upd_other]

/-- the operations of one statement that writes a word of the lower half -/
def yOps (t i : Nat) : List Oper := [
  O t (.move (.tmp 0)) 31, O (t+1) (.move (.tmp (4+i))) 22, O (t+2) (.move (.tmp (4+(8+i)))) 22, O (t+3) (.binOp .xor 22 (.tmp (t+1)) (.tmp (t+2)) 22) 22,
  O (t+4) (.nilCheck (.tmp t)) 0, O (t+5) (.indexAddr 24 (.tmp (t+4)) (.const (.int .i64 (i : Int)))) 0,
  { dst := none, op := .store 22 (.tmp (t+5)) (.tmp (t+3)), type := 0, pos := "", after := #[], guard := none }]
set_option maxHeartbeats 1000000 in
theorem ystep {Q : Exit → Act → World → Prop} {a : Act} {w : World} {s m : Nat} {V S : List Int} {id T : Nat} {ops : List Oper} (t i : Nat) (hops : ops.map strip = yOps t i)
    (ht : 20 ≤ t) (ht' : t + 6 ≤ 1212) (hi : i < 8)
    (hF : Fr s m V a) (hS : S.length = 16) (hs : w.heap[s]? = some (.cells (vals S) T (0, 0)))
    (h : ∀ a', Fr s m V a' → Q .normal a' (w.setRow s (vals (S.set i (xr (at_ V i) (at_ V (8+i))))))) :
    (Code.region id ops.toArray false).wp Try.prog Q a w := by
  refine wp_region_lit (wpList_strip _ _ _ ?_)
  rw [hops]
  have hcell : w.cell? ⟨s, i, none⟩ = some (.int .u32 (at_ S i)) := (cell_of_row w s i _ T _ hs).trans (vals_get S i (by omega))
  have hfro : w.frozen? ⟨s, i, none⟩ = false := frozen_of_row w s i (vals S) T hs
  have hS0 := hF.sees
  unfold yOps
  refine wl_step hS0 (t) (.pointer (some ⟨s, 0, none⟩)) rfl rfl (by omega) (qa_move _ _ rfl ((hS0.ev (0) (by omega)).trans (hF.p0))) ?_
  intro a1 hS1
  refine wl_step hS1 (t+1) (.int .u32 (at_ V i)) rfl rfl (by omega) (qa_move _ _ rfl ((hS1.ev (4+i) (by omega)).trans (by simp (discharger := omega) only [upd_same, upd_other]; exact hF.v i (by omega)))) ?_
  intro a2 hS2
  refine wl_step hS2 (t+2) (.int .u32 (at_ V (8+i))) rfl rfl (by omega) (qa_move _ _ rfl ((hS2.ev (4+(8+i)) (by omega)).trans (by simp (discharger := omega) only [upd_same, upd_other]; exact hF.v (8+i) (by omega)))) ?_
  intro a3 hS3
  refine wl_step hS3 (t+3) (.int .u32 (xr (at_ V i) (at_ V (8+i)))) rfl rfl (by omega) (qa_xor _ _ _ _ _ rfl ((hS3.ev (t+1) (by omega)).trans (by simp (discharger := omega) only [upd_same, upd_other])) ((hS3.ev (t+2) (by omega)).trans (by simp (discharger := omega) only [upd_same, upd_other]))) ?_
  intro a4 hS4
  refine wl_step hS4 (t+4) (.pointer (some ⟨s, 0, none⟩)) rfl rfl (by omega) (qa_nil _ _ rfl ((hS4.ev (t) (by omega)).trans (by simp (discharger := omega) only [upd_same, upd_other]))) ?_
  intro a5 hS5
  refine wl_step hS5 (t+5) (.pointer (some ⟨s, i, none⟩)) rfl rfl (by omega) (qa_index _ s i rfl (by omega) ((hS5.ev (t+4) (by omega)).trans (by simp (discharger := omega) only [upd_same, upd_other]))) ?_
  intro a6 hS6
  refine wl_store _ _ ⟨s, i, none⟩ _ (xr (at_ V i) (at_ V (8+i))) rfl rfl rfl ((hS6.ev (t+5) (by omega)).trans (by simp (discharger := omega) only [upd_same, upd_other])) ((hS6.ev (t+3) (by omega)).trans (by simp (discharger := omega) only [upd_same, upd_other])) hcell hfro ?_
  refine wpList_nil ?_
  rw [setCell_eq_setRow w s i (vals S) T (0, 0) _ hs, vals_set]
  refine h _ (hF.keep hS6 (fun n hn => ?_) (Nat.le_refl _))
  simp (discharger := omega) only [upd_other]
end
end Go.Proofs.Ytfaopfaghnefdaa
