/-
  OWN TEXT of this seat: what zzPut4 and zzCloneBytes do to the world.
-/
import Derived.Test.Qxb6609530aDoorSel
import Derived.WalkSpells
import Derived.Laws.CopyOwn
import Derived.Deep.OwnRows
namespace Go.Proofs.Qxb6609530aDoor
open Go.RowKit

/-- four bytes laid at offset k of block g -/
def putW (w : World) (g k : Nat) (a b c d : Int) : World := w.setCells g k [.int .u8 a, .int .u8 b, .int .u8 c, .int .u8 d]
theorem putW_eq (w : World) (g k : Nat) (a b c d : Int) : (((w.setCell ⟨g, k, none⟩ (.int .u8 a)).setCell ⟨g, k + 1, none⟩ (.int .u8 b)).setCell ⟨g, k + 2, none⟩ (.int .u8 c)).setCell ⟨g, k + 3, none⟩ (.int .u8 d) = putW w g k a b c d := rfl
theorem putW_size (w : World) (g k : Nat) (a b c d : Int) : (putW w g k a b c d).heap.size = w.heap.size := by
  rw [← putW_eq]; simp
theorem putW_below (w : World) (g k : Nat) (a b c d : Int) : Below g w (putW w g k a b c d) := by
  rw [← putW_eq]
  have b0 := (Below.refl g w).setCell (p := ⟨g, k, none⟩) (Nat.le_refl g) (.int .u8 a)
  have b1 := b0.setCell (p := ⟨g, k + 1, none⟩) (Nat.le_refl g) (.int .u8 b)
  have b2 := b1.setCell (p := ⟨g, k + 2, none⟩) (Nat.le_refl g) (.int .u8 c)
  exact b2.setCell (p := ⟨g, k + 3, none⟩) (Nat.le_refl g) (.int .u8 d)
theorem putW_four (w : World) (g k : Nat) (a b c d : Int) (hs : ∀ j, j < 4 → (w.cell? ⟨g, k + j, none⟩).isSome = true) (j : Nat) (hj : j < 4) :
    (putW w g k a b c d).cell? ⟨g, k + j, none⟩ = some ([Value.int .u8 a, .int .u8 b, .int .u8 c, .int .u8 d][j]'hj) :=
  World.cell?_setCells_in g [.int .u8 a, .int .u8 b, .int .u8 c, .int .u8 d] k w hs j hj
theorem putW_out (w : World) (g k : Nat) (a b c d : Int) (o : Nat) (h : o < k ∨ k + 4 ≤ o) : (putW w g k a b c d).cell? ⟨g, o, none⟩ = w.cell? ⟨g, o, none⟩ :=
  World.cell?_setCells_out g _ k w _ (fun _ _ => h)
theorem putW_frozen (w : World) (g k : Nat) (a b c d : Int) (x : Addr) : (putW w g k a b c d).frozen? x = w.frozen? x := World.frozen?_setCells g _ k w x

set_option maxHeartbeats 400000 in
theorem put4 (k g n cap : Nat) (a b c d y0 y1 y2 y3 : Int) (w : World) (hk : k + 4 ≤ n)
    (c0 : w.cell? ⟨g, k, none⟩ = some (.int .u8 y0)) (c1 : w.cell? ⟨g, k + 1, none⟩ = some (.int .u8 y1)) (c2 : w.cell? ⟨g, k + 2, none⟩ = some (.int .u8 y2)) (c3 : w.cell? ⟨g, k + 3, none⟩ = some (.int .u8 y3))
    (f : ∀ o, w.frozen? ⟨g, o, none⟩ = false) (hn : n ≤ 1048576)
    (a0 : 0 ≤ a) (a1 : a ≤ 255) (b0 : 0 ≤ b) (b1 : b ≤ 255) (e0 : 0 ≤ c) (e1 : c ≤ 255) (d0 : 0 ≤ d) (d1 : d ≤ 255) :
    Calls Tryd.prog 6 #[.slice (some ⟨g, 0, none⟩) n cap, .int .i64 k, .agg #[.int .u8 a, .int .u8 b, .int .u8 c, .int .u8 d]] w fun e w' => e = .returned (.tuple #[]) ∧
      Below g w w' ∧ Four w' g k a b c d ∧ (∀ o, o < k ∨ k + 4 ≤ o → w'.cell? ⟨g, o, none⟩ = w.cell? ⟨g, o, none⟩) ∧ (∀ o, w'.frozen? ⟨g, o, none⟩ = false) := by
  have hgz := World.block_lt_of_cell? _ _ c0
  simp only at hgz
  go_enter Tryd.func6, Tryd.ntmps6
  go_wp2
  go_end0
  rw [putW_eq]
  have hgp : g < (putW w g k a b c d).heap.size := by rw [putW_size]; exact hgz
  have hs : ∀ j, j < 4 → (w.cell? ⟨g, k + j, none⟩).isSome = true := fun j hj => by
    match j, hj with
    | 0, _ => rw [Nat.add_zero, c0]; rfl
    | 1, _ => rw [c1]; rfl
    | 2, _ => rw [c2]; rfl
    | 3, _ => rw [c3]; rfl
  refine ⟨rfl, (putW_below w g k a b c d).alloc (Nat.le_of_lt hgp) _, ⟨?_, ?_, ?_, ?_, a0, a1, b0, b1, e0, e1, d0, d1⟩, fun o ho => ?_, fun o => ?_⟩
  · rw [World.cell?_alloc_past _ _ _ hgp]; exact putW_four w g k a b c d hs 0 (by omega)
  · rw [World.cell?_alloc_past _ _ _ hgp]; exact putW_four w g k a b c d hs 1 (by omega)
  · rw [World.cell?_alloc_past _ _ _ hgp]; exact putW_four w g k a b c d hs 2 (by omega)
  · rw [World.cell?_alloc_past _ _ _ hgp]; exact putW_four w g k a b c d hs 3 (by omega)
  · rw [World.cell?_alloc_past _ _ _ hgp]; exact putW_out w g k a b c d o ho
  · rw [World.frozen?_alloc_past _ _ _ hgp, putW_frozen]; exact f o

theorem info5 : (Tryd.prog.info? 5).map (fun i => (i.zero, i.size, i.bytes)) = some (some (.int .u8 0), 1, 1) := by kernel_rfl
theorem size5 : (Tryd.prog.info? 5).map (·.size) = some 1 := by kernel_rfl

set_option maxHeartbeats 400000 in
theorem clone (n cap : Nat) (ad : Addr) (cs : List Value) (w : World) (hn : n ≤ 1048576) (h0 : 0 < n) (hl : cs.length = n) (hsrc : ∀ j v, cs[j]? = some v → w.cell? (ad.add j) = some v) (h1 : ∀ v ∈ cs, v.oneCell' = true) :
    Calls Tryd.prog 5 #[.slice (some ad) n cap] w fun e w' => e = .returned (.slice (some ⟨w.heap.size, 0, none⟩) n n) ∧ Below w.heap.size w w' ∧ w'.heap[w.heap.size]? = some (.cells cs.toArray 5 (0, 0)) := by
  have q := fun W => Lib.run_eql_slice_nil (P := Tryd.prog) W 22 5 (some ad) n cap 0 0 Tryd.underlying22
  have mk := fun W => Go.run_make_row' (P := Tryd.prog) 22 5 (.int .u8 0) 1 Tryd.underlying22 info5 rfl .i64 .i64 n (by omega) (by omega) W
  obtain ⟨W2, cp, hb2, hg2⟩ : ∃ W2, (Builtin.copy_ #[22, 22] 3 #[.slice (some ⟨w.heap.size, 0, none⟩) n n, .slice (some ad) n cap]).run Tryd.prog (w.alloc (.cells (madeCells #[.int .u8 0] n) 5)) = .ok (goInt n) W2 ∧
      Below w.heap.size w W2 ∧ W2.heap[w.heap.size]? = some (.cells cs.toArray 5 (0, 0)) := by
    have hgn : (w.alloc (.cells (madeCells #[.int .u8 0] n) 5)).heap[w.heap.size]? = some (.cells (madeCells #[.int .u8 0] n) 5 (0, 0)) := by
      show (w.heap.push _)[w.heap.size]? = _
      simp
    have hms : (madeCells #[.int .u8 0] n).size = n := by simp [madeCells]
    have hrun := run_copy_row (P := Tryd.prog) (w.alloc (.cells (madeCells #[.int .u8 0] n) 5)) 22 22 3 5 w.heap.size 0 n n ad n cap (madeCells #[.int .u8 0] n) 5 cs Tryd.underlying22 size5 hgn (by rw [hl]; simp)
      (fun j v hv => by
        have hj := hsrc j v hv
        rw [World.cell?_alloc_lt _ _ _ (World.block_lt_of_cell? _ _ hj)]; exact hj) (by omega) h1
    have hd : ((madeCells #[.int .u8 0] n).toList.take 0 ++ cs ++ (madeCells #[.int .u8 0] n).toList.drop (0 + cs.length)) = cs := by
      rw [List.drop_eq_nil_of_le (by rw [Array.length_toList]; omega)]; simp
    rw [hd, hl] at hrun
    refine ⟨_, hrun, below_setRow ((Below.refl _ _).alloc (Nat.le_refl _) _) (Nat.le_refl _) _, setRow_heap _ _ _ _ _ _ hgn⟩
  have HB : Hid (Below w.heap.size w W2 ∧ W2.heap[w.heap.size]? = some (.cells cs.toArray 5 (0, 0))) := ⟨hb2, hg2⟩
  clear hl hsrc h1 hb2 hg2
  go_enter Tryd.func5, Tryd.ntmps5
  go_wp2
  go_ret
  exact ⟨rfl, HB.out⟩

/-- what a block of cells gives -/
theorem cell_of_block {w : World} {g : Nat} {cs : List Value} {t : TypeId} (h : w.heap[g]? = some (.cells cs.toArray t (0, 0))) (o : Nat) : w.cell? ⟨g, o, none⟩ = cs[o]? := by
  simp [World.cell?, h]
theorem frozen_of_block {w : World} {g : Nat} {cs : List Value} {t : TypeId} (h : w.heap[g]? = some (.cells cs.toArray t (0, 0))) (o : Nat) : w.frozen? ⟨g, o, none⟩ = false := by
  simp [World.frozen?, h]
end Go.Proofs.Qxb6609530aDoor
