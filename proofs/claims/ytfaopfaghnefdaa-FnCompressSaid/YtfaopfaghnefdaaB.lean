/-
  rcompress, called on two blocks of words, leaves in the first the sixteen words 'rcomp' of what both held, and changes nothing else. Condition: the first block is known whole and has sixteen words; the second has sixteen words.
-/
import Derived.Test.YtfaopfaghnefdaaA
namespace Go.Proofs.Ytfaopfaghnefdaa
section
open Go.RowKit
set_option linter.unusedVariables false
/-- which words are mixed with which words of the block -/
def sched : List (Nat × Nat × Nat × Nat × Nat × Nat) := [
  (0, 4, 8, 12, 0, 1), (1, 5, 9, 13, 2, 3), (2, 6, 10, 14, 4, 5), (3, 7, 11, 15, 6, 7), (0, 5, 10, 15, 8, 9), (1, 6, 11, 12, 10, 11), (2, 7, 8, 13, 12, 13), (3, 4, 9, 14, 14, 15),
  (0, 4, 8, 12, 2, 6), (1, 5, 9, 13, 3, 10), (2, 6, 10, 14, 7, 0), (3, 7, 11, 15, 4, 13), (0, 5, 10, 15, 1, 11), (1, 6, 11, 12, 12, 5), (2, 7, 8, 13, 9, 14), (3, 4, 9, 14, 15, 8),
  (0, 4, 8, 12, 3, 4), (1, 5, 9, 13, 10, 12), (2, 6, 10, 14, 13, 2), (3, 7, 11, 15, 7, 14), (0, 5, 10, 15, 6, 5), (1, 6, 11, 12, 9, 0), (2, 7, 8, 13, 11, 15), (3, 4, 9, 14, 8, 1),
  (0, 4, 8, 12, 10, 7), (1, 5, 9, 13, 12, 9), (2, 6, 10, 14, 14, 3), (3, 7, 11, 15, 13, 15), (0, 5, 10, 15, 4, 0), (1, 6, 11, 12, 11, 2), (2, 7, 8, 13, 5, 8), (3, 4, 9, 14, 1, 6),
  (0, 4, 8, 12, 12, 13), (1, 5, 9, 13, 9, 11), (2, 6, 10, 14, 15, 10), (3, 7, 11, 15, 14, 8), (0, 5, 10, 15, 7, 2), (1, 6, 11, 12, 5, 3), (2, 7, 8, 13, 0, 1), (3, 4, 9, 14, 6, 4),
  (0, 4, 8, 12, 9, 14), (1, 5, 9, 13, 11, 5), (2, 6, 10, 14, 8, 12), (3, 7, 11, 15, 15, 1), (0, 5, 10, 15, 13, 3), (1, 6, 11, 12, 0, 10), (2, 7, 8, 13, 2, 6), (3, 4, 9, 14, 4, 7),
  (0, 4, 8, 12, 11, 15), (1, 5, 9, 13, 5, 0), (2, 6, 10, 14, 1, 9), (3, 7, 11, 15, 8, 6), (0, 5, 10, 15, 14, 10), (1, 6, 11, 12, 2, 12), (2, 7, 8, 13, 3, 4), (3, 4, 9, 14, 7, 13)]
def rounds (V M : List Int) : List Int := sched.foldl (fun V c => gs V c.1 c.2.1 c.2.2.1 c.2.2.2.1 (at_ M c.2.2.2.2.1) (at_ M c.2.2.2.2.2)) V
def finX (V S : List Int) : Nat → List Int
  | 0 => S
  | n + 1 => (finX V S n).set (8 + n) (xr (at_ V (8 + n)) (at_ (finX V S n) n))
def finY (V S : List Int) : Nat → List Int
  | 0 => S
  | n + 1 => (finY V S n).set n (xr (at_ V n) (at_ V (8 + n)))
theorem finX_length (V S : List Int) : ∀ n, (finX V S n).length = S.length
  | 0 => rfl
  | n + 1 => by simp [finX, finX_length V S n]
theorem finY_length (V S : List Int) : ∀ n, (finY V S n).length = S.length
  | 0 => rfl
  | n + 1 => by simp [finY, finY_length V S n]
/-- the sixteen words behind 'rcompress' -/
def rcomp (S M : List Int) : List Int := finY (rounds S M) (finX (rounds S M) S 8) 8
theorem rcomp_length (S M : List Int) : (rcomp S M).length = S.length := by unfold rcomp; rw [finY_length, finX_length]

section
variable {Q : Exit → Act → World → Prop} {a : Act} {w : World} {s m d : Nat} {V M S : List Int} {id T : Nat} {ops : List Oper} {y : Code}
theorem gseq (t i j k l p q : Nat) (hops : ops.map strip = gOps t i j k l p q)
    (hB : Region.lexB .any ops.toArray = true) (hn : (20 ≤ t ∧ t + 18 ≤ 1212) ∧ (i < 16 ∧ j < 16 ∧ k < 16 ∧ l < 16) ∧ (i ≠ j ∧ i ≠ k ∧ i ≠ l ∧ j ≠ k ∧ j ≠ l ∧ k ≠ l) ∧ p < 16 ∧ q < 16)
    (hm : ∀ n, n < 16 → w.cell? ⟨m, n, none⟩ = some (.int .u32 (at_ M n))) (hF : Fr s m V a)
    (h : ∀ a' d', Fr s m (gs V i j k l (at_ M p) (at_ M q)) a' → y.wp Try.prog Q a' (w.drewN d')) :
    (Code.seq (Code.region id ops.toArray true) y).wp Try.prog Q a (w.drewN d) := by
  obtain ⟨⟨h1, h2⟩, ⟨h3, h4, h5, h6⟩, ⟨h7, h8, h9, h10, h11, h12⟩, h13, h14⟩ := hn
  refine wp_seq (gstep t i j k l p q hops hB h1 h2 h3 h4 h5 h6 h7 h8 h9 h10 h11 h12 h13 h14 hF hm fun a' n hF' => ?_)
  have := h a' (d + n) hF'
  rw [← World.drewN_drewN] at this
  exact this
theorem lseq (t k : Nat) (hops : ops.map strip = lOps t k) (hB : Region.lexB .any ops.toArray = true) (hn : 20 ≤ t ∧ t + 16 ≤ 1212 ∧ k + 4 ≤ 16)
    (hs : ∀ n, n < 16 → w.cell? ⟨s, n, none⟩ = some (.int .u32 (at_ V n))) (hF : FrK s m k V a)
    (h : ∀ a' d', FrK s m (k + 4) V a' → y.wp Try.prog Q a' (w.drewN d')) :
    (Code.seq (Code.region id ops.toArray true) y).wp Try.prog Q a (w.drewN d) := by
  obtain ⟨h1, h2, h3⟩ := hn
  refine wp_seq (lstep t k hops hB h1 h2 h3 hF hs fun a' n hF' => ?_)
  have := h a' (d + n) hF'
  rw [← World.drewN_drewN] at this
  exact this
theorem xseq (t i : Nat) (hops : (ops.take 9).map strip = xOps t i) (hlast : (ops.drop 9).map strip = xLast t)
    (hB : Region.lexTailB .any ops.toArray 9 = true) (hn : 20 ≤ t ∧ t + 9 ≤ 1212 ∧ i < 8) (hS : S.length = 16) {cs : Array Value} (hs : w.heap[s]? = some (.cells cs T (0, 0))) (hi : (finX V S i).length = 16)
    (hF : Fr s m V a)
    (h : ∀ a' d', Fr s m V a' → y.wp Try.prog Q a' ((w.setRow s (vals (finX V S (i + 1)))).drewN d')) :
    (Code.seq (Code.region id ops.toArray true) y).wp Try.prog Q a ((w.setRow s (vals (finX V S i))).drewN d) := by
  obtain ⟨h1, h2, h3⟩ := hn
  refine wp_seq (xstep t i hops hlast hB h1 h2 h3 hF hi (setRow_heap w s _ _ T (0, 0) hs) fun a' hF' => ?_)
  have := h a' (d + 1) hF'
  rw [← World.drewN_drewN] at this
  rw [setRow_drewN, setRow_setRow]
  exact this
theorem ywp (t i : Nat) (hops : ops.map strip = yOps t i) (hn : 20 ≤ t ∧ t + 6 ≤ 1212 ∧ i < 8) {cs : Array Value} (hs : w.heap[s]? = some (.cells cs T (0, 0))) (hi : (finY V S i).length = 16)
    (hF : Fr s m V a)
    (h : ∀ a', Fr s m V a' → Q .normal a' ((w.setRow s (vals (finY V S (i + 1)))).drewN d)) :
    (Code.region id ops.toArray false).wp Try.prog Q a ((w.setRow s (vals (finY V S i))).drewN d) := by
  obtain ⟨h1, h2, h3⟩ := hn
  refine ystep t i hops h1 h2 h3 hF hi (setRow_heap w s _ _ T (0, 0) hs) fun a' hF' => ?_
  have := h a' hF'
  rw [setRow_drewN, setRow_setRow]
  exact this
theorem yseq (t i : Nat) (hops : ops.map strip = yOps t i) (hn : 20 ≤ t ∧ t + 6 ≤ 1212 ∧ i < 8) {cs : Array Value} (hs : w.heap[s]? = some (.cells cs T (0, 0))) (hi : (finY V S i).length = 16)
    (hF : Fr s m V a)
    (h : ∀ a', Fr s m V a' → y.wp Try.prog Q a' ((w.setRow s (vals (finY V S (i + 1)))).drewN d)) :
    (Code.seq (Code.region id ops.toArray false) y).wp Try.prog Q a ((w.setRow s (vals (finY V S i))).drewN d) :=
  wp_seq (ywp t i hops hn hs hi hF h)
end
theorem frame0 (s m : Nat) (V : List Int) (hV : V.length = 16) (K : Nat) (hK : K + 2 = 1212) :
    FrK s m 0 V { tmps := #[.pointer (some ⟨s, 0, none⟩), .pointer (some ⟨m, 0, none⟩)] ++ Array.replicate K undef, defers := [] } := by
  refine ⟨hV, rfl, ?_, ?_, ?_, fun n hn => absurd hn (by omega)⟩
  · rw [Array.size_append, Array.size_replicate]; exact (Nat.add_comm _ _).trans hK
  · simp only [Act.eval, Array.getD_eq_getD_getElem?]; rw [Array.getElem?_append_left (by simp)]; rfl
  · simp only [Act.eval, Array.getD_eq_getD_getElem?]; rw [Array.getElem?_append_left (by simp)]; rfl
theorem setRow_same (w : World) (s : Nat) (cs : Array Value) (T : TypeId) (hs : w.heap[s]? = some (.cells cs T (0, 0))) : w.setRow s cs = w := by
  have hlt : s < w.heap.size := (Array.getElem?_eq_some_iff.1 hs).1
  have hv : w.heap[s] = .cells cs T (0, 0) := (Array.getElem?_eq_some_iff.1 hs).2
  have h : (w.setRow s cs).heap = w.heap := by
    unfold World.setRow
    apply Array.ext
    · simp
    · intro i h1 h2
      simp only [Array.getElem_modify]
      split
      · rename_i e; subst e; rw [hv]
      · rfl
  show ({ w with heap := (w.setRow s cs).heap } : World) = w
  rw [h]
set_option maxRecDepth 100000 in
set_option maxHeartbeats 4000000 in
theorem rcompress_any (s m T : Nat) (S M : List Int) (w : World) (hS : S.length = 16) (hs : w.heap[s]? = some (.cells (vals S) T (0, 0)))
    (hm : ∀ n, n < 16 → w.cell? ⟨m, n, none⟩ = some (.int .u32 (at_ M n))) :
    Calls Try.prog 13 #[.pointer (some ⟨s, 0, none⟩), .pointer (some ⟨m, 0, none⟩)] w fun e w' => e = .returned (.tuple #[]) ∧ ∃ n, w' = (w.setRow s (vals (rcomp S M))).drewN n := by
  refine calls_of_wp Try.func13 rfl ?_
  have hF := frame0 s m S hS (1212 - 2) (by decide)
  have hsc : ∀ n, n < 16 → w.cell? ⟨s, n, none⟩ = some (.int .u32 (at_ S n)) := fun n hn => (cell_of_row w s n _ T _ hs).trans (vals_get S n (by omega))
  rw [Try.ntmps13, show (#[Value.pointer (some ⟨s, 0, none⟩), .pointer (some ⟨m, 0, none⟩)] : Array Value).size = 2 from rfl]
  generalize ({ tmps := #[.pointer (some ⟨s, 0, none⟩), .pointer (some ⟨m, 0, none⟩)] ++ Array.replicate (1212 - 2) undef, defers := [] } : Act) = a at hF ⊢
  change Code.wp _ _ _ _ (w.drewN 0)
  refine lseq 20 0 (by as_aux_lemma => kernel_rfl) (by as_aux_lemma => kernel_rfl) (by decide) hsc hF ?_
  clear hF; intro a d hF
  refine lseq 36 4 (by as_aux_lemma => kernel_rfl) (by as_aux_lemma => kernel_rfl) (by decide) hsc hF ?_
  clear hF; intro a d hF
  refine lseq 52 8 (by as_aux_lemma => kernel_rfl) (by as_aux_lemma => kernel_rfl) (by decide) hsc hF ?_
  clear hF; intro a d hF
  refine lseq 68 12 (by as_aux_lemma => kernel_rfl) (by as_aux_lemma => kernel_rfl) (by decide) hsc hF ?_
  clear hF; intro a d hF
  refine gseq 84 0 4 8 12 0 1 (by as_aux_lemma => kernel_rfl) (by as_aux_lemma => kernel_rfl) (by decide) hm hF ?_
  clear hF; intro a d hF
  refine gseq 102 1 5 9 13 2 3 (by as_aux_lemma => kernel_rfl) (by as_aux_lemma => kernel_rfl) (by decide) hm hF ?_
  clear hF; intro a d hF
  refine gseq 120 2 6 10 14 4 5 (by as_aux_lemma => kernel_rfl) (by as_aux_lemma => kernel_rfl) (by decide) hm hF ?_
  clear hF; intro a d hF
  refine gseq 138 3 7 11 15 6 7 (by as_aux_lemma => kernel_rfl) (by as_aux_lemma => kernel_rfl) (by decide) hm hF ?_
  clear hF; intro a d hF
  refine gseq 156 0 5 10 15 8 9 (by as_aux_lemma => kernel_rfl) (by as_aux_lemma => kernel_rfl) (by decide) hm hF ?_
  clear hF; intro a d hF
  refine gseq 174 1 6 11 12 10 11 (by as_aux_lemma => kernel_rfl) (by as_aux_lemma => kernel_rfl) (by decide) hm hF ?_
  clear hF; intro a d hF
  refine gseq 192 2 7 8 13 12 13 (by as_aux_lemma => kernel_rfl) (by as_aux_lemma => kernel_rfl) (by decide) hm hF ?_
  clear hF; intro a d hF
  refine gseq 210 3 4 9 14 14 15 (by as_aux_lemma => kernel_rfl) (by as_aux_lemma => kernel_rfl) (by decide) hm hF ?_
  clear hF; intro a d hF
  refine gseq 228 0 4 8 12 2 6 (by as_aux_lemma => kernel_rfl) (by as_aux_lemma => kernel_rfl) (by decide) hm hF ?_
  clear hF; intro a d hF
  refine gseq 246 1 5 9 13 3 10 (by as_aux_lemma => kernel_rfl) (by as_aux_lemma => kernel_rfl) (by decide) hm hF ?_
  clear hF; intro a d hF
  refine gseq 264 2 6 10 14 7 0 (by as_aux_lemma => kernel_rfl) (by as_aux_lemma => kernel_rfl) (by decide) hm hF ?_
  clear hF; intro a d hF
  refine gseq 282 3 7 11 15 4 13 (by as_aux_lemma => kernel_rfl) (by as_aux_lemma => kernel_rfl) (by decide) hm hF ?_
  clear hF; intro a d hF
  refine gseq 300 0 5 10 15 1 11 (by as_aux_lemma => kernel_rfl) (by as_aux_lemma => kernel_rfl) (by decide) hm hF ?_
  clear hF; intro a d hF
  refine gseq 318 1 6 11 12 12 5 (by as_aux_lemma => kernel_rfl) (by as_aux_lemma => kernel_rfl) (by decide) hm hF ?_
  clear hF; intro a d hF
  refine gseq 336 2 7 8 13 9 14 (by as_aux_lemma => kernel_rfl) (by as_aux_lemma => kernel_rfl) (by decide) hm hF ?_
  clear hF; intro a d hF
  refine gseq 354 3 4 9 14 15 8 (by as_aux_lemma => kernel_rfl) (by as_aux_lemma => kernel_rfl) (by decide) hm hF ?_
  clear hF; intro a d hF
  refine gseq 372 0 4 8 12 3 4 (by as_aux_lemma => kernel_rfl) (by as_aux_lemma => kernel_rfl) (by decide) hm hF ?_
  clear hF; intro a d hF
  refine gseq 390 1 5 9 13 10 12 (by as_aux_lemma => kernel_rfl) (by as_aux_lemma => kernel_rfl) (by decide) hm hF ?_
  clear hF; intro a d hF
  refine gseq 408 2 6 10 14 13 2 (by as_aux_lemma => kernel_rfl) (by as_aux_lemma => kernel_rfl) (by decide) hm hF ?_
  clear hF; intro a d hF
  refine gseq 426 3 7 11 15 7 14 (by as_aux_lemma => kernel_rfl) (by as_aux_lemma => kernel_rfl) (by decide) hm hF ?_
  clear hF; intro a d hF
  refine gseq 444 0 5 10 15 6 5 (by as_aux_lemma => kernel_rfl) (by as_aux_lemma => kernel_rfl) (by decide) hm hF ?_
  clear hF; intro a d hF
  refine gseq 462 1 6 11 12 9 0 (by as_aux_lemma => kernel_rfl) (by as_aux_lemma => kernel_rfl) (by decide) hm hF ?_
  clear hF; intro a d hF
  refine gseq 480 2 7 8 13 11 15 (by as_aux_lemma => kernel_rfl) (by as_aux_lemma => kernel_rfl) (by decide) hm hF ?_
  clear hF; intro a d hF
  refine gseq 498 3 4 9 14 8 1 (by as_aux_lemma => kernel_rfl) (by as_aux_lemma => kernel_rfl) (by decide) hm hF ?_
  clear hF; intro a d hF
  refine gseq 516 0 4 8 12 10 7 (by as_aux_lemma => kernel_rfl) (by as_aux_lemma => kernel_rfl) (by decide) hm hF ?_
  clear hF; intro a d hF
  refine gseq 534 1 5 9 13 12 9 (by as_aux_lemma => kernel_rfl) (by as_aux_lemma => kernel_rfl) (by decide) hm hF ?_
  clear hF; intro a d hF
  refine gseq 552 2 6 10 14 14 3 (by as_aux_lemma => kernel_rfl) (by as_aux_lemma => kernel_rfl) (by decide) hm hF ?_
  clear hF; intro a d hF
  refine gseq 570 3 7 11 15 13 15 (by as_aux_lemma => kernel_rfl) (by as_aux_lemma => kernel_rfl) (by decide) hm hF ?_
  clear hF; intro a d hF
  refine gseq 588 0 5 10 15 4 0 (by as_aux_lemma => kernel_rfl) (by as_aux_lemma => kernel_rfl) (by decide) hm hF ?_
  clear hF; intro a d hF
  refine gseq 606 1 6 11 12 11 2 (by as_aux_lemma => kernel_rfl) (by as_aux_lemma => kernel_rfl) (by decide) hm hF ?_
  clear hF; intro a d hF
  refine gseq 624 2 7 8 13 5 8 (by as_aux_lemma => kernel_rfl) (by as_aux_lemma => kernel_rfl) (by decide) hm hF ?_
  clear hF; intro a d hF
  refine gseq 642 3 4 9 14 1 6 (by as_aux_lemma => kernel_rfl) (by as_aux_lemma => kernel_rfl) (by decide) hm hF ?_
  clear hF; intro a d hF
  refine gseq 660 0 4 8 12 12 13 (by as_aux_lemma => kernel_rfl) (by as_aux_lemma => kernel_rfl) (by decide) hm hF ?_
  clear hF; intro a d hF
  refine gseq 678 1 5 9 13 9 11 (by as_aux_lemma => kernel_rfl) (by as_aux_lemma => kernel_rfl) (by decide) hm hF ?_
  clear hF; intro a d hF
  refine gseq 696 2 6 10 14 15 10 (by as_aux_lemma => kernel_rfl) (by as_aux_lemma => kernel_rfl) (by decide) hm hF ?_
  clear hF; intro a d hF
  refine gseq 714 3 7 11 15 14 8 (by as_aux_lemma => kernel_rfl) (by as_aux_lemma => kernel_rfl) (by decide) hm hF ?_
  clear hF; intro a d hF
  refine gseq 732 0 5 10 15 7 2 (by as_aux_lemma => kernel_rfl) (by as_aux_lemma => kernel_rfl) (by decide) hm hF ?_
  clear hF; intro a d hF
  refine gseq 750 1 6 11 12 5 3 (by as_aux_lemma => kernel_rfl) (by as_aux_lemma => kernel_rfl) (by decide) hm hF ?_
  clear hF; intro a d hF
  refine gseq 768 2 7 8 13 0 1 (by as_aux_lemma => kernel_rfl) (by as_aux_lemma => kernel_rfl) (by decide) hm hF ?_
  clear hF; intro a d hF
  refine gseq 786 3 4 9 14 6 4 (by as_aux_lemma => kernel_rfl) (by as_aux_lemma => kernel_rfl) (by decide) hm hF ?_
  clear hF; intro a d hF
  refine gseq 804 0 4 8 12 9 14 (by as_aux_lemma => kernel_rfl) (by as_aux_lemma => kernel_rfl) (by decide) hm hF ?_
  clear hF; intro a d hF
  refine gseq 822 1 5 9 13 11 5 (by as_aux_lemma => kernel_rfl) (by as_aux_lemma => kernel_rfl) (by decide) hm hF ?_
  clear hF; intro a d hF
  refine gseq 840 2 6 10 14 8 12 (by as_aux_lemma => kernel_rfl) (by as_aux_lemma => kernel_rfl) (by decide) hm hF ?_
  clear hF; intro a d hF
  refine gseq 858 3 7 11 15 15 1 (by as_aux_lemma => kernel_rfl) (by as_aux_lemma => kernel_rfl) (by decide) hm hF ?_
  clear hF; intro a d hF
  refine gseq 876 0 5 10 15 13 3 (by as_aux_lemma => kernel_rfl) (by as_aux_lemma => kernel_rfl) (by decide) hm hF ?_
  clear hF; intro a d hF
  refine gseq 894 1 6 11 12 0 10 (by as_aux_lemma => kernel_rfl) (by as_aux_lemma => kernel_rfl) (by decide) hm hF ?_
  clear hF; intro a d hF
  refine gseq 912 2 7 8 13 2 6 (by as_aux_lemma => kernel_rfl) (by as_aux_lemma => kernel_rfl) (by decide) hm hF ?_
  clear hF; intro a d hF
  refine gseq 930 3 4 9 14 4 7 (by as_aux_lemma => kernel_rfl) (by as_aux_lemma => kernel_rfl) (by decide) hm hF ?_
  clear hF; intro a d hF
  refine gseq 948 0 4 8 12 11 15 (by as_aux_lemma => kernel_rfl) (by as_aux_lemma => kernel_rfl) (by decide) hm hF ?_
  clear hF; intro a d hF
  refine gseq 966 1 5 9 13 5 0 (by as_aux_lemma => kernel_rfl) (by as_aux_lemma => kernel_rfl) (by decide) hm hF ?_
  clear hF; intro a d hF
  refine gseq 984 2 6 10 14 1 9 (by as_aux_lemma => kernel_rfl) (by as_aux_lemma => kernel_rfl) (by decide) hm hF ?_
  clear hF; intro a d hF
  refine gseq 1002 3 7 11 15 8 6 (by as_aux_lemma => kernel_rfl) (by as_aux_lemma => kernel_rfl) (by decide) hm hF ?_
  clear hF; intro a d hF
  refine gseq 1020 0 5 10 15 14 10 (by as_aux_lemma => kernel_rfl) (by as_aux_lemma => kernel_rfl) (by decide) hm hF ?_
  clear hF; intro a d hF
  refine gseq 1038 1 6 11 12 2 12 (by as_aux_lemma => kernel_rfl) (by as_aux_lemma => kernel_rfl) (by decide) hm hF ?_
  clear hF; intro a d hF
  refine gseq 1056 2 7 8 13 3 4 (by as_aux_lemma => kernel_rfl) (by as_aux_lemma => kernel_rfl) (by decide) hm hF ?_
  clear hF; intro a d hF
  refine gseq 1074 3 4 9 14 7 13 (by as_aux_lemma => kernel_rfl) (by as_aux_lemma => kernel_rfl) (by decide) hm hF ?_
  clear hF; intro a d hF
  replace hF : Fr s m (rounds S M) a := by
    unfold rounds sched
    simp only [List.foldl_cons, List.foldl_nil]
    exact hF
  generalize hV : rounds S M = V at hF
  have hr : rcomp S M = finY V (finX V S 8) 8 := by unfold rcomp; rw [hV]
  rw [hr]
  clear hr hV hsc hm
  have h0 : w.setRow s (vals (finX V S 0)) = w := by
    have := setRow_same w s _ T hs
    exact this
  rw [show w.drewN d = (w.setRow s (vals (finX V S 0))).drewN d by rw [h0]]
  clear h0
  refine xseq 1092 0 (by as_aux_lemma => kernel_rfl) (by as_aux_lemma => kernel_rfl) (by as_aux_lemma => kernel_rfl) (by decide) hS hs (by rw [finX_length]; exact hS) hF ?_
  clear hF; intro a d hF
  refine xseq 1101 1 (by as_aux_lemma => kernel_rfl) (by as_aux_lemma => kernel_rfl) (by as_aux_lemma => kernel_rfl) (by decide) hS hs (by rw [finX_length]; exact hS) hF ?_
  clear hF; intro a d hF
  refine xseq 1110 2 (by as_aux_lemma => kernel_rfl) (by as_aux_lemma => kernel_rfl) (by as_aux_lemma => kernel_rfl) (by decide) hS hs (by rw [finX_length]; exact hS) hF ?_
  clear hF; intro a d hF
  refine xseq 1119 3 (by as_aux_lemma => kernel_rfl) (by as_aux_lemma => kernel_rfl) (by as_aux_lemma => kernel_rfl) (by decide) hS hs (by rw [finX_length]; exact hS) hF ?_
  clear hF; intro a d hF
  refine xseq 1128 4 (by as_aux_lemma => kernel_rfl) (by as_aux_lemma => kernel_rfl) (by as_aux_lemma => kernel_rfl) (by decide) hS hs (by rw [finX_length]; exact hS) hF ?_
  clear hF; intro a d hF
  refine xseq 1137 5 (by as_aux_lemma => kernel_rfl) (by as_aux_lemma => kernel_rfl) (by as_aux_lemma => kernel_rfl) (by decide) hS hs (by rw [finX_length]; exact hS) hF ?_
  clear hF; intro a d hF
  refine xseq 1146 6 (by as_aux_lemma => kernel_rfl) (by as_aux_lemma => kernel_rfl) (by as_aux_lemma => kernel_rfl) (by decide) hS hs (by rw [finX_length]; exact hS) hF ?_
  clear hF; intro a d hF
  refine xseq 1155 7 (by as_aux_lemma => kernel_rfl) (by as_aux_lemma => kernel_rfl) (by as_aux_lemma => kernel_rfl) (by decide) hS hs (by rw [finX_length]; exact hS) hF ?_
  clear hF; intro a d hF
  have hX : (finX V S 8).length = 16 := by rw [finX_length]; exact hS
  generalize finX V S 8 = X at hX ⊢
  change Code.wp _ _ _ _ ((w.setRow s (vals (finY V X 0))).drewN d)
  refine yseq 1164 0 (by as_aux_lemma => kernel_rfl) (by decide) hs (by rw [finY_length]; exact hX) hF ?_
  clear hF; intro a hF
  refine yseq 1170 1 (by as_aux_lemma => kernel_rfl) (by decide) hs (by rw [finY_length]; exact hX) hF ?_
  clear hF; intro a hF
  refine yseq 1176 2 (by as_aux_lemma => kernel_rfl) (by decide) hs (by rw [finY_length]; exact hX) hF ?_
  clear hF; intro a hF
  refine yseq 1182 3 (by as_aux_lemma => kernel_rfl) (by decide) hs (by rw [finY_length]; exact hX) hF ?_
  clear hF; intro a hF
  refine yseq 1188 4 (by as_aux_lemma => kernel_rfl) (by decide) hs (by rw [finY_length]; exact hX) hF ?_
  clear hF; intro a hF
  refine yseq 1194 5 (by as_aux_lemma => kernel_rfl) (by decide) hs (by rw [finY_length]; exact hX) hF ?_
  clear hF; intro a hF
  refine yseq 1200 6 (by as_aux_lemma => kernel_rfl) (by decide) hs (by rw [finY_length]; exact hX) hF ?_
  clear hF; intro a hF
  refine ywp 1206 7 (by as_aux_lemma => kernel_rfl) (by decide) hs (by rw [finY_length]; exact hX) hF ?_
  clear hF; intro a hF
  exact bodyPost_end (v := .tuple #[]) (by simp [results, Try.results13, go_sem]) hF.defers ⟨rfl, _, rfl⟩
end
end Go.Proofs.Ytfaopfaghnefdaa
