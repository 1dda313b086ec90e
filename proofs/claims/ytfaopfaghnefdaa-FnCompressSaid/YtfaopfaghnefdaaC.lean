/-
  impl.Compress, called on any eight and sixteen words, answers 'comp' of them and writes nothing that was there. Condition: the lists have eight and sixteen words.
-/
import Derived.Test.YtfaopfaghnefdaaB
import Derived.StillTailTactics
import Derived.Lib.Hide
import Derived.RowKit3
namespace Go.Proofs.Ytfaopfaghnefdaa
section
open Go.RowKit
/-- the words with which a compression begins -/
def initW (H : List Int) (ctr bl fl : Int) : List Int :=
  [at_ H 0, at_ H 1, at_ H 2, at_ H 3, at_ H 4, at_ H 5, at_ H 6, at_ H 7, 1779033703, 3144134277, 1013904242, 2773480762, IntKind.u32.wrap ctr, IntKind.u32.wrap (ctr / 4294967296), bl, fl]
set_option maxHeartbeats 1000000 in
theorem pure_any (c m o T : Nat) (H M : List Int) (ctr : Int) (bl fl : Int) (old : Array Value) (w : World)
    (hc : ∀ n, n < 8 → w.cell? ⟨c, n, none⟩ = some (.int .u32 (at_ H n))) (hm : ∀ n, n < 16 → w.cell? ⟨m, n, none⟩ = some (.int .u32 (at_ M n)))
    (ho : w.heap[o]? = some (.cells old T (0, 0))) (hold : old.size = 16) (hmo : m ≠ o) :
    Calls Try.prog 12 #[.pointer (some ⟨c, 0, none⟩), .pointer (some ⟨m, 0, none⟩), .int .u64 ctr, .int .u32 bl, .int .u32 fl, .pointer (some ⟨o, 0, none⟩)] w fun e w' =>
      e = .returned (.tuple #[]) ∧ ∃ n, w' = (w.setRow o (vals (rcomp (initW H ctr bl fl) M))).drewN n := by
  have c0 := hc 0 (by omega)
  have c1 := hc 1 (by omega)
  have c2 := hc 2 (by omega)
  have c3 := hc 3 (by omega)
  have c4 := hc 4 (by omega)
  have c5 := hc 5 (by omega)
  have c6 := hc 6 (by omega)
  have c7 := hc 7 (by omega)
  have HM : Hid (∀ n, n < 16 → w.cell? ⟨m, n, none⟩ = some (.int .u32 (at_ M n))) := Lib.hid hm
  have HO : Hid (w.heap[o]? = some (.cells old T (0, 0))) := Lib.hid ho
  have HS : Hid (old.size = 16) := Lib.hid hold
  clear hc hm ho hold
  go_enter Try.func12, Try.ntmps12
  go_wp2
  go_still_tail 42, (by kernel_rfl)
  change wpList Try.prog _ _ _ _ (w.drewN 1)
  refine wpList_store_row rfl 24 _ _ rfl o (vals (initW H ctr bl fl)) rfl rfl T old HO.out (by kernel_rfl) HS.out (by kernel_rfl) ?_
  go_wp2_with fail
  refine (rcompress_any o m T (initW H ctr bl fl) M ((w.drewN 1).setRow o (vals (initW H ctr bl fl))) rfl (setRow_heap _ _ _ _ T (0, 0) HO.out) (fun n hn => (cell_setRow_other _ o _ _ hmo).trans (HM.out n hn))).mono ?_
  rintro e w' ⟨rfl, n, rfl⟩
  go_wp2
  go_end0
  refine ⟨rfl, 1 + n, ?_⟩
  rw [setRow_setRow, setRow_drew, World.drewN_drewN]
end
section
open Go.RowKit
theorem grown_trans {a b c : World} (h : Grown a b) (h' : Grown b c) : Grown a c :=
  ⟨World.keptBut_trans h.1 h'.1, fun x => (h'.2.1 x).trans (h.2.1 x), Nat.le_trans h.2.2 h'.2.2⟩
theorem grown_drewN {W w' : World} (h : Grown W w') (n : Nat) : Grown W (w'.drewN n) := h
theorem setRow_frozen (w : World) (g : Nat) (cs : Array Value) (a : Addr) : (w.setRow g cs).frozen? a = w.frozen? a := by
  unfold World.frozen?
  by_cases e : a.block = g
  · subst e
    cases h : w.heap[a.block]? with
    | none =>
      have : (w.setRow a.block cs).heap[a.block]? = none := by
        have := Array.getElem?_eq_none_iff.1 h
        exact Array.getElem?_eq_none (by rw [setRow_size]; exact this)
      rw [this]
    | some o =>
      cases o with
      | cells c t fr => rw [setRow_heap w a.block c cs t fr h]
      | _ =>
        have : (w.setRow a.block cs).heap[a.block]? = w.heap[a.block]? := by
          unfold World.setRow
          simp only [Array.getElem?_modify, if_pos, h, Option.map_some]
        rw [this, h]
  · rw [setRow_other w g a.block cs e]
theorem grown_setRow {W w' : World} (h : Grown W w') {g : Nat} (hg : W.heap.size ≤ g) (cs : Array Value) : Grown W (w'.setRow g cs) := by
  refine ⟨⟨h.1.1, h.1.2.1, fun i hi => ?_⟩, fun a => (setRow_frozen w' g cs a).trans (h.2.1 a), ?_⟩
  · rw [setRow_other w' g i cs (by omega)]
    exact h.1.2.2 i hi
  · rw [setRow_size]; exact h.2.2
set_option maxHeartbeats 1000000 in
theorem comp_any (c m o T : Nat) (H M : List Int) (ctr : Int) (bl fl : Int) (old : Array Value) (w : World)
    (hc : ∀ n, n < 8 → w.cell? ⟨c, n, none⟩ = some (.int .u32 (at_ H n))) (hm : ∀ n, n < 16 → w.cell? ⟨m, n, none⟩ = some (.int .u32 (at_ M n)))
    (ho : w.heap[o]? = some (.cells old T (0, 0))) (hold : old.size = 16) (hmo : m ≠ o) :
    Calls Try.prog 11 #[.pointer (some ⟨c, 0, none⟩), .pointer (some ⟨m, 0, none⟩), .int .u64 ctr, .int .u32 bl, .int .u32 fl, .pointer (some ⟨o, 0, none⟩)] w fun e w' =>
      e = .returned (.tuple #[]) ∧ ∃ n, w' = (w.setRow o (vals (rcomp (initW H ctr bl fl) M))).drewN n := by
  have C := pure_any c m o T H M ctr bl fl old w hc hm ho hold hmo
  clear hc hm ho hold
  go_enter Try.func11, Try.ntmps11
  go_wp2_with fail
  refine C.mono ?_
  rintro e w' ⟨rfl, n, rfl⟩
  go_wp2
  go_end0
  exact ⟨rfl, n, rfl⟩
set_option maxHeartbeats 1000000 in
theorem alg_any (c m o T : Nat) (H M : List Int) (ctr : Int) (bl fl : Int) (old : Array Value) (w : World)
    (hc : ∀ n, n < 8 → w.cell? ⟨c, n, none⟩ = some (.int .u32 (at_ H n))) (hm : ∀ n, n < 16 → w.cell? ⟨m, n, none⟩ = some (.int .u32 (at_ M n)))
    (ho : w.heap[o]? = some (.cells old T (0, 0))) (hold : old.size = 16) (hmo : m ≠ o) :
    Calls Try.prog 9 #[.pointer (some ⟨c, 0, none⟩), .pointer (some ⟨m, 0, none⟩), .int .u64 ctr, .int .u32 bl, .int .u32 fl, .pointer (some ⟨o, 0, none⟩)] w fun e w' =>
      e = .returned (.tuple #[]) ∧ ∃ n, w' = (w.setRow o (vals (rcomp (initW H ctr bl fl) M))).drewN n := by
  have C := comp_any c m o T H M ctr bl fl old w hc hm ho hold hmo
  clear hc hm ho hold
  go_enter Try.func9, Try.ntmps9
  go_wp2_with fail
  refine C.mono ?_
  rintro e w' ⟨rfl, n, rfl⟩
  go_wp2
  go_end0
  exact ⟨rfl, n, rfl⟩
/-- the sixteen words of a compression -/
def comp (H M : List Int) (ctr bl fl : Int) : List Int := rcomp (initW H ctr bl fl) M
theorem comp_length (H M : List Int) (ctr bl fl : Int) : (comp H M ctr bl fl).length = 16 := by unfold comp; rw [rcomp_length]; rfl
theorem vals_one (L : List Int) : (vals L).all (·.oneCell') = true := by
  simp [vals, Value.oneCell']
theorem info24 : (Try.prog.info? 24).map (·.size) = some 16 := by kernel_rfl
theorem info23 : (Try.prog.info? 23).map (·.size) = some 8 := by kernel_rfl
section
variable (w : World) (A B Z : Array Value) (t u v : TypeId)
theorem three0 : (((w.alloc (.cells A t)).alloc (.cells B u)).alloc (.cells Z v)).heap[w.heap.size]? = some (.cells A t (0, 0)) := by
  show (((w.heap.push _).push _).push _)[w.heap.size]? = _
  simp only [Array.getElem?_push, Array.size_push]
  rw [if_neg (by omega), if_neg (by omega), if_pos trivial]
theorem three1 : (((w.alloc (.cells A t)).alloc (.cells B u)).alloc (.cells Z v)).heap[w.heap.size + 1]? = some (.cells B u (0, 0)) := by
  show (((w.heap.push _).push _).push _)[w.heap.size + 1]? = _
  simp only [Array.getElem?_push, Array.size_push]
  rw [if_neg (by omega), if_pos trivial]
theorem three2 : (((w.alloc (.cells A t)).alloc (.cells B u)).alloc (.cells Z v)).heap[w.heap.size + 1 + 1]? = some (.cells Z v (0, 0)) := by
  show (((w.heap.push _).push _).push _)[w.heap.size + 1 + 1]? = _
  simp only [Array.getElem?_push, Array.size_push]
  rw [if_pos trivial]
theorem three_grown : Grown w (((w.alloc (.cells A t)).alloc (.cells B u)).alloc (.cells Z v)) := (((Grown.refl w).alloc _ _).alloc _ _).alloc _ _
end
theorem kept_row {W w' : World} (h : Grown W w') {g : Nat} {cs : Array Value} {t : TypeId} {fr : Nat × Nat} (hg : W.heap[g]? = some (.cells cs t fr)) : w'.heap[g]? = some (.cells cs t fr) := by
  have hlt : g < W.heap.size := (Array.getElem?_eq_some_iff.1 hg).1
  have h2 : g < w'.heap.size := Nat.lt_of_lt_of_le hlt h.2.2
  have h1 := h.1.2.2 g hlt
  rw [hg] at h1
  cases h3 : w'.heap[g]? with
  | none => rw [h3] at h1; cases h1
  | some o =>
    rw [h3] at h1
    cases o with
    | cells c t' fr' =>
      obtain ⟨rfl, rfl, hs, hc⟩ := h1
      have : c = cs := by
        apply Array.ext hs
        intro i h4 h5
        have := hc i (fun f => f)
        rw [Array.getElem?_eq_getElem h4, Array.getElem?_eq_getElem h5] at this
        exact Option.some.inj this
      rw [this]
    | _ => cases h1
abbrev zrow : Array Value := #[.int .u32 0, .int .u32 0, .int .u32 0, .int .u32 0, .int .u32 0, .int .u32 0, .int .u32 0, .int .u32 0, .int .u32 0, .int .u32 0, .int .u32 0, .int .u32 0, .int .u32 0, .int .u32 0, .int .u32 0, .int .u32 0]
theorem zrow_size (L : List Int) (h : L.length = 16) : zrow.size = (vals L).size := (vals_size L).symm ▸ h.symm
set_option maxHeartbeats 1000000 in
theorem zz_any (H M : List Int) (ctr bl fl : Int) (w : World) (hH : H.length = 8) (hM : M.length = 16) :
    Calls Try.prog 6 #[.agg (vals H), .agg (vals M), .int .u64 ctr, .int .u32 bl, .int .u32 fl] w fun e w' => e = .returned (.agg (vals (comp H M ctr bl fl))) ∧ Grown w w' := by
  have HH : Hid (H.length = 8) := Lib.hid hH
  have HM : Hid (M.length = 16) := Lib.hid hM
  clear hH hM
  have C : Calls Try.prog 9 #[.pointer (some ⟨w.heap.size, 0, none⟩), .pointer (some ⟨w.heap.size + 1, 0, none⟩), .int .u64 ctr, .int .u32 bl, .int .u32 fl, .pointer (some ⟨w.heap.size + 1 + 1, 0, none⟩)]
      (((w.alloc (.cells (vals H) 23)).alloc (.cells (vals M) 24)).alloc (.cells zrow 24)) fun e W => e = .returned (.tuple #[]) ∧ Grown w W ∧ W.heap[w.heap.size + 1 + 1]? = some (.cells (vals (comp H M ctr bl fl)) 24 (0, 0)) := by
    refine (alg_any w.heap.size (w.heap.size + 1) (w.heap.size + 1 + 1) 24 H M ctr bl fl zrow _
      (fun n hn => (cell_of_row _ _ n _ _ _ (three0 w _ _ _ _ _ _)).trans (vals_get H n (by rw [HH.out]; exact hn)))
      (fun n hn => (cell_of_row _ _ n _ _ _ (three1 w _ _ _ _ _ _)).trans (vals_get M n (by rw [HM.out]; exact hn)))
      (three2 w _ _ _ _ _ _) rfl (by omega)).mono ?_
    rintro e w' ⟨he, n, rfl⟩
    exact ⟨he, grown_drewN (grown_setRow (three_grown w (vals H) (vals M) zrow 23 24 24) (g := w.heap.size + 1 + 1) (by omega) (vals (comp H M ctr bl fl))) n, setRow_heap _ _ _ _ _ _ (three2 w _ _ _ _ _ _)⟩
  go_enter Try.func6, Try.ntmps6
  go_wp2_with fail
  refine C.mono ?_
  rintro e W ⟨rfl, hG, hB⟩
  have HG := Lib.hid hG
  have HB := Lib.hid hB
  clear hG hB C
  go_wp2_with (first | (with_reducible (refine wpList_load_row rfl 24 _ rfl (w.heap.size + 1 + 1) rfl 24 _ (0, 0) _ HB.out Try.underlying24 rfl ?_ ?_); (rw [vals_size, comp_length]; exact info24)) | (with_reducible (refine wpList_store_row rfl 24 _ _ rfl (w.heap.size + 1 + 1) _ rfl rfl 24 _ HB.out ?_ ?_ ?_ ?_); (rw [vals_size, comp_length]; exact info24); rfl; exact vals_one _))
  refine bodyPost_ret (v := .agg (vals (comp H M ctr bl fl))) (results_cell_row Try.results6 _ _ (w.heap.size + 1 + 1) 24 _ (0, 0) _ rfl (setRow_heap _ _ _ _ _ _ HB.out) Try.underlying24 rfl (by rw [vals_size, comp_length]; exact info24)) rfl ⟨rfl, grown_setRow HG.out (by omega) _⟩
set_option maxHeartbeats 1000000 in
theorem impl_any (H M : List Int) (ctr bl fl : Int) (w : World) (hH : H.length = 8) (hM : M.length = 16) :
    Calls Try.prog 4 #[.agg (vals H), .agg (vals M), .int .u64 ctr, .int .u32 bl, .int .u32 fl] w fun e w' => e = .returned (.agg (vals (comp H M ctr bl fl))) ∧ Grown w w' := by
  have HH : Hid (H.length = 8) := Lib.hid hH
  have HM : Hid (M.length = 16) := Lib.hid hM
  clear hH hM
  have T0 := Lib.hid (three0 w (vals H) (vals M) zrow 23 24 24)
  have T1 := Lib.hid (three1 w (vals H) (vals M) zrow 23 24 24)
  have T2 := Lib.hid (three2 w (vals H) (vals M) zrow 23 24 24)
  have T3 := Lib.hid (three_grown w (vals H) (vals M) zrow 23 24 24)
  have C : Calls Try.prog 6 #[.agg (vals H), .agg (vals M), .int .u64 ctr, .int .u32 bl, .int .u32 fl]
      (((w.alloc (.cells (vals H) 23)).alloc (.cells (vals M) 24)).alloc (.cells zrow 24)) fun e W => e = .returned (.agg (vals (comp H M ctr bl fl))) ∧ Grown w W ∧ W.heap[w.heap.size + 1 + 1]? = some (.cells zrow 24 (0, 0)) := by
    refine (zz_any H M ctr bl fl _ HH.out HM.out).mono ?_
    rintro e w' ⟨he, hg⟩
    exact ⟨he, grown_trans T3.out hg, kept_row hg T2.out⟩
  go_enter Try.func4, Try.ntmps4
  go_wp2_with (first | (with_reducible (refine wpList_load_row rfl 23 _ rfl w.heap.size rfl 23 _ (0, 0) _ T0.out Try.underlying23 rfl ?_ ?_); (rw [vals_size, HH.out]; exact info23)) | (with_reducible (refine wpList_load_row rfl 24 _ rfl (w.heap.size + 1) rfl 24 _ (0, 0) _ T1.out Try.underlying24 rfl ?_ ?_); (rw [vals_size, HM.out]; exact info24)) | fail)
  refine C.mono ?_
  rintro e W ⟨rfl, hG, hB⟩
  have HG := Lib.hid hG
  have HB := Lib.hid hB
  clear hG hB C
  go_wp2_with (first | (with_reducible (refine wpList_store_row rfl 24 _ _ rfl (w.heap.size + 1 + 1) _ rfl rfl 24 _ HB.out ?_ ?_ ?_ ?_); (rw [vals_size, comp_length]; exact info24); exact zrow_size _ (comp_length _ _ _ _ _); exact vals_one _))
  refine bodyPost_ret (v := .agg (vals (comp H M ctr bl fl))) (results_cell_row Try.results4 _ _ (w.heap.size + 1 + 1) 24 _ (0, 0) _ rfl (setRow_heap _ _ _ _ _ _ HB.out) Try.underlying24 rfl (by rw [vals_size, comp_length]; exact info24)) rfl ⟨rfl, grown_setRow HG.out (by omega) _⟩
end
end Go.Proofs.Ytfaopfaghnefdaa
