/-
  OWN TEXT of this seat: what the law's walk carries from call to call: the variables, the argument g's box, the message's bytes; a clone of them; the contracts in these words.
-/
import Derived.Test.Qxb6609530aDoorSelect
import Derived.Test.Qxb6609530aDoorPut
import Derived.Test.Qxb6609530aDoorAsk
namespace Go.Proofs.Qxb6609530aDoor
open Go.RowKit

/-- every value of f is a byte -/
def Bd (f : Nat → Int) : Prop := ∀ j, 0 ≤ f j ∧ f j ≤ 255
/-- f, four bytes laid over at k -/
def upd (f : Nat → Int) (k : Nat) (a b c d : Int) (j : Nat) : Int := if j = k then a else if j = k + 1 then b else if j = k + 2 then c else if j = k + 3 then d else f j
theorem Bd.upd {f : Nat → Int} (h : Bd f) (k : Nat) {a b c d : Int} (a0 : 0 ≤ a) (a1 : a ≤ 255) (b0 : 0 ≤ b) (b1 : b ≤ 255) (e0 : 0 ≤ c) (e1 : c ≤ 255) (d0 : 0 ≤ d) (d1 : d ≤ 255) : Bd (upd f k a b c d) := by
  intro j
  unfold Qxb6609530aDoor.upd
  have := h j
  split
  · exact ⟨a0, a1⟩
  · split
    · exact ⟨b0, b1⟩
    · split
      · exact ⟨e0, e1⟩
      · split
        · exact ⟨d0, d1⟩
        · exact this

/-- block g holds n bytes f, and may be written -/
structure Cl (w : World) (g n : Nat) (f : Nat → Int) : Prop where
  cell : ∀ j, j < n → w.cell? ⟨g, j, none⟩ = some (.int .u8 (f j))
  free : ∀ o, w.frozen? ⟨g, o, none⟩ = false
  bd : Bd f
theorem Cl.below {w w' : World} {g n B : Nat} {f : Nat → Int} (h : Cl w g n f) (hb : Below B w w') (hB : g < B) : Cl w' g n f :=
  ⟨fun j hj => by rw [hb.cell (p := ⟨g, j, none⟩) hB]; exact h.cell j hj, fun o => by rw [hb.frozen (p := ⟨g, o, none⟩) hB]; exact h.free o, h.bd⟩
theorem Cl.four {w : World} {g n : Nat} {f : Nat → Int} (h : Cl w g n f) (k : Nat) (hk : k + 4 ≤ n) : Four w g k (f k) (f (k + 1)) (f (k + 2)) (f (k + 3)) :=
  ⟨h.cell k (by omega), h.cell (k + 1) (by omega), h.cell (k + 2) (by omega), h.cell (k + 3) (by omega), (h.bd _).1, (h.bd _).2, (h.bd _).1, (h.bd _).2, (h.bd _).1, (h.bd _).2, (h.bd _).1, (h.bd _).2⟩

theorem put4' (k g n cap : Nat) (f : Nat → Int) (a b c d : Int) (w : World) (hk : k + 4 ≤ n) (hn : n ≤ 1048576) (h : Cl w g n f)
    (a0 : 0 ≤ a) (a1 : a ≤ 255) (b0 : 0 ≤ b) (b1 : b ≤ 255) (e0 : 0 ≤ c) (e1 : c ≤ 255) (d0 : 0 ≤ d) (d1 : d ≤ 255) :
    Calls Tryd.prog 6 #[.slice (some ⟨g, 0, none⟩) n cap, .int .i64 k, .agg #[.int .u8 a, .int .u8 b, .int .u8 c, .int .u8 d]] w fun e w' => e = .returned (.tuple #[]) ∧ Below g w w' ∧ Cl w' g n (upd f k a b c d) := by
  refine (put4 k g n cap a b c d _ _ _ _ w hk (h.cell k (by omega)) (h.cell (k + 1) (by omega)) (h.cell (k + 2) (by omega)) (h.cell (k + 3) (by omega)) h.free hn a0 a1 b0 b1 e0 e1 d0 d1).mono ?_
  rintro e w' ⟨he, hb, hF, ho, hf⟩
  refine ⟨he, hb, fun j hj => ?_, hf, h.bd.upd k a0 a1 b0 b1 e0 e1 d0 d1⟩
  unfold upd
  by_cases j0 : j = k
  · rw [if_pos j0, j0]; exact hF.c0
  · rw [if_neg j0]
    by_cases j1 : j = k + 1
    · rw [if_pos j1, j1]; exact hF.c1
    · rw [if_neg j1]
      by_cases j2 : j = k + 2
      · rw [if_pos j2, j2]; exact hF.c2
      · rw [if_neg j2]
        by_cases j3 : j = k + 3
        · rw [if_pos j3, j3]; exact hF.c3
        · rw [if_neg j3, ho j (by omega)]; exact h.cell j hj

/-- what the walk of the law carries: w0 the world in which it began -/
structure St (w0 w : World) (p4 p6 : Addr) (mb mo n : Nat) (f : Nat → Int) (g0 g1 g2 g3 : Int) : Prop where
  ready : Ready w p4 p6
  g : Four w w0.heap.size 0 g0 g1 g2 g3
  m : ∀ j, j < n → w.cell? ⟨mb, mo + j, none⟩ = some (.int .u8 (f j))
  below : Below w0.heap.size w0 w
  mlt : mb < w0.heap.size
  two : 2 < w0.heap.size
theorem St.lt {w0 w : World} {p4 p6 : Addr} {mb mo n : Nat} {f : Nat → Int} {g0 g1 g2 g3 : Int} (h : St w0 w p4 p6 mb mo n f g0 g1 g2 g3) : w0.heap.size < w.heap.size := World.block_lt_of_cell? _ _ h.g.c0
theorem St.step {w0 w w' : World} {p4 p6 : Addr} {mb mo n B : Nat} {f : Nat → Int} {g0 g1 g2 g3 : Int} (h : St w0 w p4 p6 mb mo n f g0 g1 g2 g3) (hb : Below B w w') (hB : w0.heap.size < B) : St w0 w' p4 p6 mb mo n f g0 g1 g2 g3 :=
  have h2 := h.two
  have hm := h.mlt
  ⟨⟨by have := hb.size; have := h.ready.size; omega, by rw [hb.cell (p := ⟨0, 0, none⟩) (by simp; omega)]; exact h.ready.z0, by rw [hb.cell (p := ⟨1, 0, none⟩) (by simp; omega)]; exact h.ready.z4, by rw [hb.cell (p := ⟨2, 0, none⟩) (by simp; omega)]; exact h.ready.z6⟩,
   h.g.below hb hB, fun j hj => by rw [hb.cell (p := ⟨mb, mo + j, none⟩) (by simp; omega)]; exact h.m j hj, h.below.trans (hb.mono (by omega)), hm, h2⟩

theorem clone' {w0 : World} {p4 p6 : Addr} (mb mo n cap : Nat) (f : Nat → Int) {g0 g1 g2 g3 : Int} (w : World) (hn : n ≤ 1048576) (h0 : 0 < n) (hf : Bd f) (st : St w0 w p4 p6 mb mo n f g0 g1 g2 g3) :
    Calls Tryd.prog 5 #[.slice (some ⟨mb, mo, none⟩) n cap] w fun e w' => e = .returned (.slice (some ⟨w.heap.size, 0, none⟩) n n) ∧ Below w.heap.size w w' ∧ Cl w' w.heap.size n f := by
  refine (clone n cap ⟨mb, mo, none⟩ ((List.range n).map fun j => .int .u8 (f j)) w hn h0 (by simp) ?_ ?_).mono ?_
  · intro j v hv
    obtain ⟨i, hi, rfl⟩ := List.mem_map.1 (List.mem_of_getElem? hv)
    have hj : j < n := by
      have := (List.getElem?_eq_some_iff.1 hv).1
      simpa using this
    rw [List.getElem?_map, List.getElem?_range hj] at hv
    have e1 : (⟨mb, mo, none⟩ : Addr).add j = ⟨mb, mo + j, none⟩ := by
      unfold Addr.add; split
      · next h => rw [h]; rfl
      · rfl
    rw [e1, st.m j hj, ← hv]; rfl
  · intro v hv
    obtain ⟨i, _, rfl⟩ := List.mem_map.1 hv
    rfl
  · rintro e w' ⟨he, hb, hg⟩
    refine ⟨he, hb, fun j hj => ?_, fun o => frozen_of_block hg o, hf⟩
    rw [cell_of_block hg, List.getElem?_map, List.getElem?_range hj]; rfl

end Go.Proofs.Qxb6609530aDoor
