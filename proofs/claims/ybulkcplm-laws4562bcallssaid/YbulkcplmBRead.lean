import Derived.Test.YbulkcplmASame
import Derived.Deep.OwnRows
import Derived.Deep.LoopGhost
import Derived.Deep.DeepCutAuto
import Derived.Deep.CutBlock
import Derived.Deep.AppendLies
import Derived.Deep.DeepMust
import Derived.RegionTactic
import Derived.BigRegion
namespace Go.Proofs.Ybulkcplm
open Go.ChangeShapes Go.WideShapes Go.ChangeAt Go.RowKit

theorem Yba.info3 : (Yba.prog.info? 3).map (fun i => (i.zero, i.size, i.bytes)) = some (some (.int .i64 0), 1, 8) := by kernel_rfl
theorem Yba.info5 : (Yba.prog.info? 5).map (fun i => (i.zero, i.size, i.bytes)) = some (some (.int .u8 0), 1, 1) := by kernel_rfl

/-- The two captured slices: n elements each, in rows of the call's own from N on. -/
structure Two (w : World) (B N n : Nat) (v1 v2 : Value) (xs ys : List Value) : Prop where
  c1 : w.cell? ⟨B, 0, none⟩ = some v1
  f1 : w.frozen? ⟨B, 0, none⟩ = false
  c2 : w.cell? ⟨B + 1, 0, none⟩ = some v2
  f2 : w.frozen? ⟨B + 1, 0, none⟩ = false
  o1 : w.ownsRow N 3 1 v1 n xs
  o2 : w.ownsRow N 5 1 v2 n ys
  far : v2.ownBlock = none ∨ v2.ownBlock ≠ v1.ownBlock
  lt : B + 1 < N
  le : N ≤ w.heap.size

/-- All blocks below N but the two boxes are as they were. -/
structure Kept (B N : Nat) (w w' : World) : Prop where
  os : w'.os = w.os
  tape : w'.tape = w.tape
  output : w'.output = w.output
  size : w.heap.size ≤ w'.heap.size
  block : ∀ k, k < N → k ≠ B → k ≠ B + 1 → w'.heap[k]? = w.heap[k]?

theorem own_ne {w : World} {N n s e : Nat} {v : Value} {xs : List Value} (h : w.ownsRow N e s v n xs) {k : Nat} (hk : k < N) : some k ≠ v.ownBlock := by
  intro he
  have := h.lt k he.symm
  omega

/-- What holds behind the first append: the lens' box is still as it was, the firsts are untouched. -/
theorem two_mid {w w1 : World} {B N n g : Nat} {v1 v2 x : Value} {xs ys : List Value} (h : Two w B N n v1 v2 xs ys) (hg : (w.alloc (.cells #[x] 3)).grownBy w1 v1.ownBlock)
    (hat : v1.ownBlock = some g ∨ g = w.heap.size + 1) :
    w1.cell? ⟨B, 0, none⟩ = some v1 ∧ w1.frozen? ⟨B, 0, none⟩ = false ∧ w1.cell? ⟨B + 1, 0, none⟩ = some v2 ∧ w1.frozen? ⟨B + 1, 0, none⟩ = false ∧ w1.ownsRow N 5 1 v2 n ys ∧
      (v2.ownBlock = none ∨ v2.ownBlock ≠ some g) ∧ N ≤ w1.heap.size ∧ Kept B N w w1 := by
  have hlt := h.lt
  have hle := h.le
  have old : ∀ k, k < w.heap.size → (w.alloc (.cells #[x] 3)).heap[k]? = w.heap[k]? := fun k hk => Below.heap_alloc _ _ _ hk
  have blk : ∀ k, k < N → w1.heap[k]? = w.heap[k]? := fun k hk => (hg.block k (by simp; omega) (own_ne h.o1 hk)).trans (old k (by omega))
  refine ⟨?_, ?_, ?_, ?_, ?_, ?_, ?_, ?_⟩
  · rw [World.cell?_of_block (w := w) (blk B (by omega))]; exact h.c1
  · rw [World.frozen?_of_block (w := w) (blk B (by omega))]; exact h.f1
  · rw [World.cell?_of_block (w := w) (blk (B + 1) (by omega))]; exact h.c2
  · rw [World.frozen?_of_block (w := w) (blk (B + 1) (by omega))]; exact h.f2
  · exact (h.o2.alloc _).kept hg h.far
  · rcases hat with hat | hat
    · rw [← hat]; exact h.far
    · rcases hv : v2.ownBlock with _ | k
      · exact .inl rfl
      · right
        have := h.o2.lt k hv
        intro he
        simp at he
        omega
  · have := hg.size; simp at this; omega
  · exact ⟨hg.os, hg.tape, hg.output, by have := hg.size; simp at this; omega, fun k hk _ _ => blk k hk⟩

/-- What holds at the end. -/
theorem two_end {w1 w3 : World} {B N n c g g2 c2 : Nat} {v1 v2 y : Value} {xs ys ys' : List Value}
    (hlt : B + 1 < N) (hle : N ≤ w1.heap.size) (q1 : w1.cell? ⟨B, 0, none⟩ = some v1) (q2 : w1.frozen? ⟨B, 0, none⟩ = false) (q3 : w1.cell? ⟨B + 1, 0, none⟩ = some v2) (q4 : w1.frozen? ⟨B + 1, 0, none⟩ = false)
    (ho1 : w1.ownsRow N 3 1 (.slice (some ⟨g, 0, none⟩) n c) n xs) (ho2 : w1.ownsRow N 5 1 v2 (n - 1) ys) (hfar : v2.ownBlock = none ∨ v2.ownBlock ≠ some g)
    (hg : ((w1.setCell ⟨B, 0, none⟩ (.slice (some ⟨g, 0, none⟩) n c)).alloc (.cells #[y] 5)).grownBy w3 v2.ownBlock)
    (hat : v2.ownBlock = some g2 ∨ g2 = w1.heap.size + 1) (ho3 : w3.ownsRow N 5 1 (.slice (some ⟨g2, 0, none⟩) n c2) n ys') :
    Two (w3.setCell ⟨B + 1, 0, none⟩ (.slice (some ⟨g2, 0, none⟩) n c2)) B N n (.slice (some ⟨g, 0, none⟩) n c) (.slice (some ⟨g2, 0, none⟩) n c2) xs ys' ∧
      Kept B N w1 (w3.setCell ⟨B + 1, 0, none⟩ (.slice (some ⟨g2, 0, none⟩) n c2)) ∧ w3.cell? ⟨B + 1, 0, none⟩ = some v2 ∧ w3.frozen? ⟨B + 1, 0, none⟩ = false := by
  have sz : (w1.setCell ⟨B, 0, none⟩ (.slice (some ⟨g, 0, none⟩) n c)).heap.size = w1.heap.size := by simp [World.setCell]
  have old : ∀ k, k < w1.heap.size → ((w1.setCell ⟨B, 0, none⟩ (.slice (some ⟨g, 0, none⟩) n c)).alloc (.cells #[y] 5)).heap[k]? = (w1.setCell ⟨B, 0, none⟩ (.slice (some ⟨g, 0, none⟩) n c)).heap[k]? :=
    fun k hk => Below.heap_alloc _ _ _ (by rw [sz]; exact hk)
  have blk : ∀ k, k < N → w3.heap[k]? = (w1.setCell ⟨B, 0, none⟩ (.slice (some ⟨g, 0, none⟩) n c)).heap[k]? := fun k hk => (hg.block k (by simp [sz]; omega) (own_ne ho2 hk)).trans (old k (by omega))
  have gl := ho1.lt g rfl
  have hne : v2.ownBlock ≠ some g := by
    rcases hfar with h | h
    · rw [h]; simp
    · exact h
  have size3 := hg.size
  simp [sz] at size3
  have c1 : w3.cell? ⟨B, 0, none⟩ = some (.slice (some ⟨g, 0, none⟩) n c) := by
    rw [World.cell?_of_block (w := w1.setCell ⟨B, 0, none⟩ (.slice (some ⟨g, 0, none⟩) n c)) (blk B (by omega))]
    exact World.cell?_setCell_same w1 _ _ q1
  have c2' : w3.cell? ⟨B + 1, 0, none⟩ = some v2 := by
    rw [World.cell?_of_block (w := w1.setCell ⟨B, 0, none⟩ (.slice (some ⟨g, 0, none⟩) n c)) (blk (B + 1) (by omega)), World.cell?_setCell_other _ _ _ _ (by simp)]
    exact q3
  have f1 : w3.frozen? ⟨B, 0, none⟩ = false := by
    rw [World.frozen?_of_block (w := w1.setCell ⟨B, 0, none⟩ (.slice (some ⟨g, 0, none⟩) n c)) (blk B (by omega)), World.frozen?_setCell]
    exact q2
  have f2 : w3.frozen? ⟨B + 1, 0, none⟩ = false := by
    rw [World.frozen?_of_block (w := w1.setCell ⟨B, 0, none⟩ (.slice (some ⟨g, 0, none⟩) n c)) (blk (B + 1) (by omega)), World.frozen?_setCell]
    exact q4
  have o1' : w3.ownsRow N 3 1 (.slice (some ⟨g, 0, none⟩) n c) n xs := ((ownsRow_setCell_below ho1 (a := ⟨B, 0, none⟩) (by show B < N; omega) _).alloc _).kept hg (.inr (fun h => hne h.symm))
  have hgg : g2 ≠ g := by
    rcases hat with h | h
    · intro e; subst e; exact hne h
    · omega
  refine ⟨⟨?_, ?_, ?_, ?_, ?_, ?_, ?_, hlt, ?_⟩, ⟨?_, ?_, ?_, ?_, ?_⟩, c2', f2⟩
  · rw [World.cell?_setCell_other _ _ _ _ (by simp)]; exact c1
  · rw [World.frozen?_setCell]; exact f1
  · exact World.cell?_setCell_same _ _ _ c2'
  · rw [World.frozen?_setCell]; exact f2
  · exact ownsRow_setCell_below o1' (a := ⟨B + 1, 0, none⟩) (by show B + 1 < N; omega) _
  · exact ownsRow_setCell_below ho3 (a := ⟨B + 1, 0, none⟩) (by show B + 1 < N; omega) _
  · right; simp [Value.ownBlock]; exact hgg
  · simp [World.setCell]; omega
  · exact hg.os
  · exact hg.tape
  · exact hg.output
  · simp [World.setCell]; omega
  · intro k hk hB hB1
    rw [Below.heap_setCell _ _ _ _ (by show k ≠ B + 1; exact hB1), blk k hk, Below.heap_setCell _ _ _ _ (by show k ≠ B; exact hB)]

theorem Kept.trans {B N : Nat} {a b c : World} (h : Kept B N a b) (k : Kept B N b c) : Kept B N a c :=
  ⟨k.os.trans h.os, k.tape.trans h.tape, k.output.trans h.output, Nat.le_trans h.size k.size, fun i hi h1 h2 => (k.block i hi h1 h2).trans (h.block i hi h1 h2)⟩

theorem cell_one_new_set (w : World) (p : Addr) (v x : Value) (t : TypeId) : ∀ j u, [x][j]? = some u → ((w.setCell p v).alloc (.cells #[x] t)).cell? ((⟨w.heap.size, 0, none⟩ : Addr).add j) = some u := by
  have h := cell_one_new (w.setCell p v) x t
  have e : (w.setCell p v).heap.size = w.heap.size := by simp [World.setCell]
  rwa [e] at h

set_option maxRecDepth 100000 in
set_option maxHeartbeats 400000 in
theorem read8 (b off m cap B N n : Nat) (z : Int) (v1 v2 : Value) (xs ys : List Value) (w : World) (hz0 : 0 ≤ z) (hz1 : z ≤ 255) (hb : b < B) (hcell : w.cell? ⟨b, off, none⟩ = some (.int .u8 z))
    (hm0 : 0 < m) (hm1 : m ≤ 4096) (hn : n ≤ 4096) (h : Two w B N n v1 v2 xs ys) :
    Calls Yba.prog 8 #[.slice (some ⟨b, off, none⟩) m cap, .pointer (some ⟨B, 0, none⟩), .pointer (some ⟨B + 1, 0, none⟩)] w fun e w' =>
      e = .returned (.int .i64 (m * 256 + z)) ∧ (∃ u1 u2, Two w' B N (n + 1) u1 u2 (xs ++ [.int .i64 m]) (ys ++ [.int .u8 z])) ∧ Kept B N w w' := by
  obtain ⟨i3, hi3, hz3, hs3, hb3⟩ := info_parts Yba.info3
  obtain ⟨i5, hi5, hz5, hs5, hb5⟩ := info_parts Yba.info5
  have tok1 : True := trivial
  have tok2 : True := trivial
  have hc1 := h.c1
  have hlt := h.lt
  have hle := h.le
  have hm2 : (0 : Int) < (m : Int) := by omega
  have hm3 : (m : Int) ≤ 4096 := by omega
  have hbn : ¬ B = b := by omega
  have hbn' : ¬ b = B := by omega
  go_enter Yba.func8, Yba.ntmps8
  go_wp2_with (first
    | (at_builtin; have _t := tok1; refine wpList_append_lies _ rfl _ _ 45 rfl N 3 i3 (.int .i64 0) 1 8 Yba.underlying45 hi3 hz3 hs3 hb3 rfl (by omega) v1 n xs rfl (h.o1.alloc _) ⟨w.heap.size, 0, none⟩ 1 1 [.int .i64 m] rfl rfl (cell_one_new _ _ _) (by simp [Value.oneCell']) (by omega) (by simp [maxLen]; omega) (by omega) (by simp; omega) (w.heap.size + 1) (by simp) ?_; clear tok1; intro g c1 w1 ho1 hg1 ha1 hl1; obtain ⟨q1, q2, q3, q4, q5, q6, q7, q8⟩ := two_mid h hg1 ha1; have q9 : w1.cell? ⟨b, off, none⟩ = some (.int .u8 z) := (World.cell?_of_block (w := w) (q8.block b (by omega) (by omega) (by omega))).trans hcell)
    | (at_builtin; have _t := tok2; go_must (refine wpList_append_lies _ rfl _ _ 26 rfl N 5 i5 (.int .u8 0) 1 1 Yba.underlying26 hi5 hz5 hs5 hb5 rfl (by omega) v2 n ys rfl ((ownsRow_setCell_below q5 (a := ⟨B, 0, none⟩) (by show B < N; omega) _).alloc _) ⟨w1.heap.size, 0, none⟩ 1 1 [.int .u8 z] rfl rfl (cell_one_new_set _ _ _ _ _) (by simp [Value.oneCell']) (by omega) (by simp [maxLen]; omega) (by omega) (by simp; omega) (w1.heap.size + 1) (by simp) ?_); clear tok2; intro g2 c2 w3 ho3 hg3 ha3 hl3; obtain ⟨hT, hK, r1, r2⟩ := two_end hlt q7 q1 q2 q3 q4 ho1 q5 q6 hg3 ha3 ho3))
  go_ret
  exact ⟨rfl, ⟨_, _, hT⟩, q8.trans hK⟩
end Go.Proofs.Ybulkcplm
