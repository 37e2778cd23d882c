/-
  OWN TEXT of this seat: THE WALK OF THE LAW FnMonthsFromIgnoresTheOtherDay, a theorem a way (four ways of one make, typed by program).
-/
import Derived.Test.Qxb6609533aGrant
namespace Go.Proofs.Qxb6609533a
open Go.RowKit

theorem wpList_build39 {ops : Array Oper} {rest : List Oper} {o : Oper} {a : Act} {w : World} {Q : Exit → Act → World → Prop} (hg : o.guard = none) (A B C : Operand) (ho : o.op = .build 39 #[(1, A), (3, B), (11, C)])
    (s : ByteArray) (x y : Int) (p : Option Addr) (hA : a.eval A = .string s) (hB : a.eval B = .agg #[.int .u64 x, .int .i64 y, .pointer none]) (hC : a.eval C = .pointer p)
    (h : wpList Try.prog ops Q rest (a.put o.dst (.agg (GV s x y p))) w) : wpList Try.prog ops Q (o :: rest) a w := by
  refine wpList_plain hg fun K hK => ?_
  have hrun := bd s x y p w
  unfold Oper.wp execOp
  simp only [ho, List.map_toArray, List.map_cons, List.map_nil, hA, hB, hC, Sem.run_bind, hrun, Result.andThen_ok]
  exact hK _ _ h

/-- block g of the world is the cells c (behind a name, so that the walk does not take it for a rule) -/
def Blk (w : World) (g : Nat) (c : Array Value) (t : TypeId) : Prop := w.heap[g]? = some (.cells c t (0, 0))
theorem Blk.out {w : World} {g : Nat} {c : Array Value} {t : TypeId} (h : Blk w g c t) : w.heap[g]? = some (.cells c t (0, 0)) := h
theorem Blk.lt {w : World} {g : Nat} {c : Array Value} {t : TypeId} (h : Blk w g c t) : g < w.heap.size := (Array.getElem?_eq_some_iff.1 h.out).1
theorem Blk.below {w w' : World} {g B : Nat} {c : Array Value} {t : TypeId} (h : Blk w g c t) (hb : Below B w w') (hB : g < B) : Blk w' g c t := (hb.block g hB).trans h
theorem Blk.alloc {w : World} {g : Nat} {c : Array Value} {t : TypeId} (h : Blk w g c t) (o : Obj) : Blk (w.alloc o) g c t := (Below.heap_alloc w o g h.lt).trans h
theorem Blk.new (w : World) (c : Array Value) (t : TypeId) (n : Nat) (h : n = w.heap.size) : Blk (w.alloc (.cells c t)) n c t := heap_at w _ n h
theorem Blk.other {w : World} {g : Nat} {c : Array Value} {t : TypeId} (h : Blk w g c t) (b o : Nat) (v : Value) (hn : g ≠ b) : Blk (w.setCell ⟨b, o, none⟩ v) g c t := (Below.heap_setCell w ⟨b, o, none⟩ v g hn).trans h
theorem Blk.put {w : World} {g : Nat} {c : Array Value} {t : TypeId} (h : Blk w g c t) (o : Nat) (v : Value) : Blk (w.setCell ⟨g, o, none⟩ v) g (c.setIfInBounds o v) t := by
  unfold Blk
  rw [setCell_eq_setRow w g o c t (0, 0) v h]; exact setRow_heap w g c _ t _ h
theorem Blk.cell {w : World} {g : Nat} {c : Array Value} {t : TypeId} (h : Blk w g c t) (j : Nat) : w.cell? ⟨g, j, none⟩ = c[j]? := cell_of_row w g j c t (0, 0) h
theorem Blk.free {w : World} {g : Nat} {c : Array Value} {t : TypeId} (h : Blk w g c t) (o : Nat) : w.frozen? ⟨g, o, none⟩ = false := by
  simp [World.frozen?, h.out]

theorem GV_reg (s : ByteArray) (x y : Int) (p q : Option Addr) : (GV s x y p).setIfInBounds 13 (.pointer q) = GV s x y q := rfl
theorem GV_date (s : ByteArray) (x y X Y : Int) (p : Option Addr) : (((GV s x y p).setIfInBounds 3 (.int .u64 X)).setIfInBounds 4 (.int .i64 Y)).setIfInBounds 5 (.pointer none) = GV s X Y p := rfl
theorem und25 : Try.prog.underlying 25 = some (.pointer (Try.prog.pointee 25)) := by kernel_rfl
theorem loc_nil (w : World) : (Op.equalIn (9998 + 1) 25 (.pointer none) (.pointer none)).run Try.prog w = .ok true w := run_equalIn_pointer_nil w 9998 25 none und25

set_option maxRecDepth 100000 in
set_option maxHeartbeats 400000 in
theorem law_big (s : ByteArray) (x1 x2 x3 x4 : Value) (w : World) (hs : 1048576 < s.size) :
    Calls Try.prog 3 #[.string s, x1, x2, x3, x4] w fun e w' => e = .returned (.bool true) ∧ Below w.heap.size w w' := by
  go_enter Try.func3, Try.ntmps3
  go_wp2_with fail
  refine (bytesNo _ _ _ _ _ _ hs).mono ?_
  rintro e w0 ⟨rfl, rfl⟩
  go_wp2
  go_ret
  exact ⟨rfl, Below.refl _ _⟩
set_option maxRecDepth 100000 in
set_option maxHeartbeats 400000 in
theorem law_long (s : ByteArray) (x1 x2 x3 x4 : Value) (w : World) (hs : s.size ≤ 1048576) (hl : 4096 < s.size) :
    Calls Try.prog 3 #[.string s, x1, x2, x3, x4] w fun e w' => e = .returned (.bool true) ∧ Below w.heap.size w w' := by
  go_enter Try.func3, Try.ntmps3
  go_wp2_with fail
  refine (bytesOk _ _ _ _ _ _ hs).mono ?_
  rintro e w0 ⟨rfl, rfl⟩
  go_wp2
  go_ret
  exact ⟨rfl, Below.refl _ _⟩

set_option maxRecDepth 100000 in
set_option maxHeartbeats 1000000 in
theorem law_on (s : ByteArray) (da re ot : Int) (w : World) (hs : s.size ≤ 4096) (hS : (s.toList == [114, 101, 115, 116, 114, 105, 99, 116, 101, 100]) = false)
    (d0 : -9223372036854775808 ≤ da) (d1 : da ≤ 9223372036854775807) (o0 : -9223372036854775808 ≤ ot) (o1 : ot ≤ 9223372036854775807) :
    Calls Try.prog 3 #[.string s, .int .i64 da, .bool false, .int .i64 re, .int .i64 ot] w fun e w' => e = .returned (.bool true) ∧ Below w.heap.size w w' := by
  have ln := loc_nil
  go_enter Try.func3, Try.ntmps3
  go_wp2_with fail
  refine (bytesOk _ _ _ _ _ _ (by omega)).mono ?_
  rintro e w0 ⟨rfl, rfl⟩
  go_wp2_with fail
  refine (zzT da _ d0 d1).mono ?_
  rintro e w1 ⟨rfl, hb1⟩
  have q1 : Below w0.heap.size w0 w1 := hb1
  clear hb1
  have s1 := q1.size
  go_wp2_with (first
    | (refine wpList_build39 rfl (.tmp 38) (.tmp 40) (.tmp 41) rfl _ _ _ _ rfl rfl rfl ?_)
    | (refine wpList_store_row rfl 39 (.tmp 14) (.tmp 42) rfl _ _ rfl rfl 39 ?old ?hg ?hi ?hold ?h1 ?h; (case hg => exact heap_alloc_last _ _); (case hi => exact size39); (case hold => rfl); (case h1 => exact GV_one _ _ _ _); rw [World.setRow_alloc_new])
    | (refine wpList_load_row rfl 39 (.tmp 14) rfl _ rfl 39 _ (0, 0) _ (heap_alloc_last _ _) Try.underlying39 rfl size39 ?_))
  refine (months_other s _ _ _ _ hS).mono ?_
  rintro e w2 ⟨rfl, hb2⟩
  have z2 : w1.heap.size < w2.heap.size := by have := hb2.size; simp at this; omega
  have G2 := (Blk.new w1 (GV s (wl da) (xt da) none) 39 w1.heap.size rfl).below hb2 (by simp)
  have q2 : Below w0.heap.size w0 w2 := (q1.alloc s1 _).trans (hb2.mono (by simp; omega))
  clear hb2 q1
  go_wp2_with (first
    | (refine wpList_store_row rfl 39 (.tmp 17) (.tmp 48) rfl _ _ rfl rfl 39 ?old ?hg ?hi ?hold ?h1 ?h; (case hg => exact heap_at _ _ _ (by simp)); (case hi => exact size39); (case hold => rfl); (case h1 => exact GV_one _ _ _ _); rw [setRow_at _ _ _ _ _ (by simp)])
    | (refine wpList_load_row rfl 39 (.tmp 14) rfl _ rfl 39 _ (0, 0) _ (G2.alloc _) Try.underlying39 rfl size39 ?_))
  clear G2
  have Dy := (Blk.new w2 #[.int .u64 (wl da), .int .i64 (xt da), .pointer none] 27 w2.heap.size rfl).alloc (.cells (GV s (wl da) (xt da) none) 39)
  have Hh := Blk.new (w2.alloc (.cells #[.int .u64 (wl da), .int .i64 (xt da), .pointer none] 27)) (GV s (wl da) (xt da) none) 39 (w2.heap.size + 1) (by simp)
  have s2 := q2.size
  have qq : Below w0.heap.size w0 ((w2.alloc (.cells #[.int .u64 (wl da), .int .i64 (xt da), .pointer none] 27)).alloc (.cells (GV s (wl da) (xt da) none) 39)) := (q2.alloc s2 _).alloc (by simp; omega) _
  refine (zzT ot _ o0 o1).mono ?_
  rintro e w3 ⟨rfl, hb3⟩
  have z3 : w2.heap.size + 1 < w3.heap.size := by have := hb3.size; simp at this; omega
  have Dy3 := Dy.below hb3 (by simp; omega)
  have Hh3 := Hh.below hb3 (by simp)
  have q3 : Below w0.heap.size w0 w3 := qq.trans (hb3.mono (by simp; omega))
  have s3 := q3.size
  clear Dy Hh qq hb3 q2
  have k13 := Hh3.cell 13
  have f13 := Hh3.free 13
  rw [show (GV s (wl da) (xt da) none)[13]? = some (.pointer none) from rfl] at k13
  have Hx := (Hh3.put 13 (.pointer (some ⟨w3.heap.size, 0, none⟩))).alloc (.cells #[.int .u64 (wl ot), .int .i64 (xt ot), .pointer none] 27)
  rw [GV_reg] at Hx
  have Dx := (Dy3.other (w2.heap.size + 1) 13 (.pointer (some ⟨w3.heap.size, 0, none⟩)) (by omega)).alloc (.cells #[.int .u64 (wl ot), .int .i64 (xt ot), .pointer none] 27)
  have qx := (q3.setCell (p := ⟨w2.heap.size + 1, 13, none⟩) (by simp; omega) (.pointer (some ⟨w3.heap.size, 0, none⟩))).alloc (by simp; omega) (.cells #[.int .u64 (wl ot), .int .i64 (xt ot), .pointer none] 27)
  clear Hh3 Dy3 q3
  go_wp2_with (refine wpList_load_row rfl 39 (.tmp 17) rfl _ rfl 39 _ (0, 0) _ Hx Try.underlying39 rfl size39 ?_)
  clear k13 f13
  refine (months_other s _ _ _ _ hS).mono ?_
  rintro e w4 ⟨rfl, hb4⟩
  have z4 : w2.heap.size + 1 < w4.heap.size := by have := hb4.size; simp at this; omega
  have Dy4 := Dx.below hb4 Dx.lt
  have q4 : Below w0.heap.size w0 w4 := qx.trans (hb4.mono qx.size)
  have s4 := q4.size
  clear Hx Dx qx hb4
  have Dz := Dy4.alloc (.cells #[.int .u64 (wl da), .int .i64 (xt da), .pointer none] 27)
  have Ez := Blk.new w4 #[.int .u64 (wl da), .int .i64 (xt da), .pointer none] 27 w4.heap.size rfl
  have qz := q4.alloc s4 (.cells #[.int .u64 (wl da), .int .i64 (xt da), .pointer none] 27)
  clear Dy4 q4
  go_wp2_with fail
  refine (zzT da _ d0 d1).mono ?_
  rintro e w6 ⟨rfl, hb6⟩
  have z6 : w4.heap.size < w6.heap.size := by have := hb6.size; simp at this; omega
  have D6 := Dz.below hb6 Dz.lt
  have E6 := Ez.below hb6 Ez.lt
  have q6 : Below w0.heap.size w0 w6 := qz.trans (hb6.mono qz.size)
  have s6 := q6.size
  clear Dz Ez qz hb6
  have a0 := D6.cell 0
  have a1 := D6.cell 1
  have a2 := D6.cell 2
  have b0 := E6.cell 0
  have b1 := E6.cell 1
  have b2 := E6.cell 2
  rw [show (#[.int .u64 (wl da), .int .i64 (xt da), .pointer none] : Array Value)[0]? = some (.int .u64 (wl da)) from rfl] at a0 b0
  rw [show (#[.int .u64 (wl da), .int .i64 (xt da), .pointer none] : Array Value)[1]? = some (.int .i64 (xt da)) from rfl] at a1 b1
  rw [show (#[.int .u64 (wl da), .int .i64 (xt da), .pointer none] : Array Value)[2]? = some (.pointer none) from rfl] at a2 b2
  have y1 : w2.heap.size < w6.heap.size := by omega
  clear D6 E6
  go_wp2
  go_ret
  exact ⟨rfl, q6.alloc s6 _⟩

set_option maxRecDepth 100000 in
set_option maxHeartbeats 1000000 in
theorem law_oh (s : ByteArray) (da re ot : Int) (w : World) (hs : s.size ≤ 4096) (hS : (s.toList == [114, 101, 115, 116, 114, 105, 99, 116, 101, 100]) = false)
    (d0 : -9223372036854775808 ≤ da) (d1 : da ≤ 9223372036854775807) (r0 : -9223372036854775808 ≤ re) (r1 : re ≤ 9223372036854775807) (o0 : -9223372036854775808 ≤ ot) (o1 : ot ≤ 9223372036854775807) :
    Calls Try.prog 3 #[.string s, .int .i64 da, .bool true, .int .i64 re, .int .i64 ot] w fun e w' => e = .returned (.bool true) ∧ Below w.heap.size w w' := by
  have ln := loc_nil
  go_enter Try.func3, Try.ntmps3
  go_wp2_with fail
  refine (bytesOk _ _ _ _ _ _ (by omega)).mono ?_
  rintro e w0 ⟨rfl, rfl⟩
  go_wp2_with fail
  refine (zzT re _ r0 r1).mono ?_
  rintro e wr ⟨rfl, hbr⟩
  have rgr := Blk.new wr #[.int .u64 (wl re), .int .i64 (xt re), .pointer none] 27 wr.heap.size rfl
  have sr := hbr.size
  have qr : Below w0.heap.size w0 (wr.alloc (.cells #[.int .u64 (wl re), .int .i64 (xt re), .pointer none] 27)) := hbr.alloc sr _
  go_wp2_with fail
  refine (zzT da _ d0 d1).mono ?_
  rintro e w1 ⟨rfl, hb1⟩
  have q1 : Below w0.heap.size w0 w1 := qr.trans (hb1.mono (by simp; omega))
  have rg1 := rgr.below hb1 (by simp)
  clear rgr qr hb1
  have s1 := q1.size
  go_wp2_with (first
    | (refine wpList_build39 rfl (.tmp 38) (.tmp 40) (.tmp 41) rfl _ _ _ _ rfl rfl rfl ?_)
    | (refine wpList_store_row rfl 39 (.tmp 14) (.tmp 42) rfl _ _ rfl rfl 39 ?old ?hg ?hi ?hold ?h1 ?h; (case hg => exact heap_alloc_last _ _); (case hi => exact size39); (case hold => rfl); (case h1 => exact GV_one _ _ _ _); rw [World.setRow_alloc_new])
    | (refine wpList_load_row rfl 39 (.tmp 14) rfl _ rfl 39 _ (0, 0) _ (heap_alloc_last _ _) Try.underlying39 rfl size39 ?_))
  refine (months_other s _ _ _ _ hS).mono ?_
  rintro e w2 ⟨rfl, hb2⟩
  have z2 : w1.heap.size < w2.heap.size := by have := hb2.size; simp at this; omega
  have G2 := (Blk.new w1 (GV s (wl da) (xt da) (some ⟨wr.heap.size, 0, none⟩)) 39 w1.heap.size rfl).below hb2 (by simp)
  have q2 : Below w0.heap.size w0 w2 := (q1.alloc s1 _).trans (hb2.mono (by simp; omega))
  have rg2 := (rg1.alloc (.cells (GV s (wl da) (xt da) (some ⟨wr.heap.size, 0, none⟩)) 39)).below hb2 (by have := rg1.lt; simp; omega)
  have rl : wr.heap.size < w1.heap.size := rg1.lt
  clear rg1
  clear hb2 q1
  go_wp2_with (first
    | (refine wpList_store_row rfl 39 (.tmp 17) (.tmp 48) rfl _ _ rfl rfl 39 ?old ?hg ?hi ?hold ?h1 ?h; (case hg => exact heap_at _ _ _ (by simp)); (case hi => exact size39); (case hold => rfl); (case h1 => exact GV_one _ _ _ _); rw [setRow_at _ _ _ _ _ (by simp)])
    | (refine wpList_load_row rfl 39 (.tmp 14) rfl _ rfl 39 _ (0, 0) _ (G2.alloc _) Try.underlying39 rfl size39 ?_))
  clear G2
  have Dy := (Blk.new w2 #[.int .u64 (wl da), .int .i64 (xt da), .pointer none] 27 w2.heap.size rfl).alloc (.cells (GV s (wl da) (xt da) (some ⟨wr.heap.size, 0, none⟩)) 39)
  have Hh := Blk.new (w2.alloc (.cells #[.int .u64 (wl da), .int .i64 (xt da), .pointer none] 27)) (GV s (wl da) (xt da) (some ⟨wr.heap.size, 0, none⟩)) 39 (w2.heap.size + 1) (by simp)
  have s2 := q2.size
  have qq : Below w0.heap.size w0 ((w2.alloc (.cells #[.int .u64 (wl da), .int .i64 (xt da), .pointer none] 27)).alloc (.cells (GV s (wl da) (xt da) (some ⟨wr.heap.size, 0, none⟩)) 39)) := (q2.alloc s2 _).alloc (by simp; omega) _
  have rgq := (rg2.alloc (.cells #[.int .u64 (wl da), .int .i64 (xt da), .pointer none] 27)).alloc (.cells (GV s (wl da) (xt da) (some ⟨wr.heap.size, 0, none⟩)) 39)
  refine (zzT ot _ o0 o1).mono ?_
  rintro e w3 ⟨rfl, hb3⟩
  have z3 : w2.heap.size + 1 < w3.heap.size := by have := hb3.size; simp at this; omega
  have Dy3 := Dy.below hb3 (by simp; omega)
  have Hh3 := Hh.below hb3 (by simp)
  have q3 : Below w0.heap.size w0 w3 := qq.trans (hb3.mono (by simp; omega))
  have s3 := q3.size
  have rg3 := rgq.below hb3 (by simp; omega)
  clear rgq rg2
  clear Dy Hh qq hb3 q2
  have k13 := Hh3.cell 13
  have f13 := Hh3.free 13
  rw [show (GV s (wl da) (xt da) (some ⟨wr.heap.size, 0, none⟩))[13]? = some (.pointer (some ⟨wr.heap.size, 0, none⟩)) from rfl] at k13
  have Hx := (Hh3.put 13 (.pointer (some ⟨w3.heap.size, 0, none⟩))).alloc (.cells #[.int .u64 (wl ot), .int .i64 (xt ot), .pointer none] 27)
  rw [GV_reg] at Hx
  have Dx := (Dy3.other (w2.heap.size + 1) 13 (.pointer (some ⟨w3.heap.size, 0, none⟩)) (by omega)).alloc (.cells #[.int .u64 (wl ot), .int .i64 (xt ot), .pointer none] 27)
  have qx := (q3.setCell (p := ⟨w2.heap.size + 1, 13, none⟩) (by simp; omega) (.pointer (some ⟨w3.heap.size, 0, none⟩))).alloc (by simp; omega) (.cells #[.int .u64 (wl ot), .int .i64 (xt ot), .pointer none] 27)
  have rgx := (rg3.other (w2.heap.size + 1) 13 (.pointer (some ⟨w3.heap.size, 0, none⟩)) (by omega)).alloc (.cells #[.int .u64 (wl ot), .int .i64 (xt ot), .pointer none] 27)
  clear Hh3 Dy3 q3 rg3
  go_wp2_with (refine wpList_load_row rfl 39 (.tmp 17) rfl _ rfl 39 _ (0, 0) _ Hx Try.underlying39 rfl size39 ?_)
  clear k13 f13
  refine (months_other s _ _ _ _ hS).mono ?_
  rintro e w4 ⟨rfl, hb4⟩
  have z4 : w2.heap.size + 1 < w4.heap.size := by have := hb4.size; simp at this; omega
  have Dy4 := Dx.below hb4 Dx.lt
  have q4 : Below w0.heap.size w0 w4 := qx.trans (hb4.mono qx.size)
  have s4 := q4.size
  have rg4 := rgx.below hb4 rgx.lt
  clear rgx
  clear Hx Dx qx hb4
  have Dz := Dy4.alloc (.cells #[.int .u64 (wl da), .int .i64 (xt da), .pointer none] 27)
  have Ez := Blk.new w4 #[.int .u64 (wl da), .int .i64 (xt da), .pointer none] 27 w4.heap.size rfl
  have qz := q4.alloc s4 (.cells #[.int .u64 (wl da), .int .i64 (xt da), .pointer none] 27)
  have rgz := rg4.alloc (.cells #[.int .u64 (wl da), .int .i64 (xt da), .pointer none] 27)
  clear Dy4 q4 rg4
  go_wp2_with fail
  refine (zzT ot _ o0 o1).mono ?_
  rintro e w5 ⟨rfl, hb5⟩
  have z5 : w4.heap.size < w5.heap.size := by have := hb5.size; simp at this; omega
  have D5 := Dz.below hb5 (by simp; omega)
  have E5 := Ez.below hb5 (by simp)
  have rg5 := rgz.below hb5 (by simp; omega)
  have q5 : Below w0.heap.size w0 w5 := qz.trans (hb5.mono (by simp; omega))
  clear Dz Ez rgz qz hb5
  have k0 := rg5.cell 0
  have k1 := rg5.cell 1
  have k2 := rg5.cell 2
  have f0 := rg5.free 0
  have f1 := rg5.free 1
  have f2 := rg5.free 2
  rw [show (#[.int .u64 (wl re), .int .i64 (xt re), .pointer none] : Array Value)[0]? = some (.int .u64 (wl re)) from rfl] at k0
  rw [show (#[.int .u64 (wl re), .int .i64 (xt re), .pointer none] : Array Value)[1]? = some (.int .i64 (xt re)) from rfl] at k1
  rw [show (#[.int .u64 (wl re), .int .i64 (xt re), .pointer none] : Array Value)[2]? = some (.pointer none) from rfl] at k2
  have Dz := ((D5.other wr.heap.size 0 (.int .u64 (wl ot)) (by omega)).other wr.heap.size 1 (.int .i64 (xt ot)) (by omega)).other wr.heap.size 2 (.pointer none) (by omega)
  have Ez := ((E5.other wr.heap.size 0 (.int .u64 (wl ot)) (by omega)).other wr.heap.size 1 (.int .i64 (xt ot)) (by omega)).other wr.heap.size 2 (.pointer none) (by omega)
  have qz := ((q5.setCell (p := ⟨wr.heap.size, 0, none⟩) sr (.int .u64 (wl ot))).setCell (p := ⟨wr.heap.size, 1, none⟩) sr (.int .i64 (xt ot))).setCell (p := ⟨wr.heap.size, 2, none⟩) sr (.pointer none)
  clear D5 E5 rg5 q5
  go_wp2_with fail
  clear k0 k1 k2 f0 f1 f2
  refine (zzT da _ d0 d1).mono ?_
  rintro e w6 ⟨rfl, hb6⟩
  have z6 : w4.heap.size < w6.heap.size := by have := hb6.size; simp at this; omega
  have D6 := Dz.below hb6 Dz.lt
  have E6 := Ez.below hb6 Ez.lt
  have q6 : Below w0.heap.size w0 w6 := qz.trans (hb6.mono qz.size)
  have s6 := q6.size
  clear Dz Ez qz hb6
  have a0 := D6.cell 0
  have a1 := D6.cell 1
  have a2 := D6.cell 2
  have b0 := E6.cell 0
  have b1 := E6.cell 1
  have b2 := E6.cell 2
  rw [show (#[.int .u64 (wl da), .int .i64 (xt da), .pointer none] : Array Value)[0]? = some (.int .u64 (wl da)) from rfl] at a0 b0
  rw [show (#[.int .u64 (wl da), .int .i64 (xt da), .pointer none] : Array Value)[1]? = some (.int .i64 (xt da)) from rfl] at a1 b1
  rw [show (#[.int .u64 (wl da), .int .i64 (xt da), .pointer none] : Array Value)[2]? = some (.pointer none) from rfl] at a2 b2
  have y1 : w2.heap.size < w6.heap.size := by omega
  clear D6 E6
  go_wp2
  go_ret
  exact ⟨rfl, q6.alloc s6 _⟩

set_option maxRecDepth 100000 in
set_option maxHeartbeats 1000000 in
theorem law_rn (s : ByteArray) (da re ot : Int) (w : World) (hs : s.size ≤ 4096) (hS : (s.toList == [114, 101, 115, 116, 114, 105, 99, 116, 101, 100]) = true)
    (d0 : -9223372036854775808 ≤ da) (d1 : da ≤ 9223372036854775807) (o0 : -9223372036854775808 ≤ ot) (o1 : ot ≤ 9223372036854775807) :
    Calls Try.prog 3 #[.string s, .int .i64 da, .bool false, .int .i64 re, .int .i64 ot] w fun e w' => e = .returned (.bool true) ∧ Below w.heap.size w w' := by
  have ln := loc_nil
  go_enter Try.func3, Try.ntmps3
  go_wp2_with fail
  refine (bytesOk _ _ _ _ _ _ (by omega)).mono ?_
  rintro e w0 ⟨rfl, rfl⟩
  go_wp2_with fail
  refine (zzT da _ d0 d1).mono ?_
  rintro e w1 ⟨rfl, hb1⟩
  have q1 : Below w0.heap.size w0 w1 := hb1
  clear hb1
  have s1 := q1.size
  go_wp2_with (first
    | (refine wpList_build39 rfl (.tmp 38) (.tmp 40) (.tmp 41) rfl _ _ _ _ rfl rfl rfl ?_)
    | (refine wpList_store_row rfl 39 (.tmp 14) (.tmp 42) rfl _ _ rfl rfl 39 ?old ?hg ?hi ?hold ?h1 ?h; (case hg => exact heap_alloc_last _ _); (case hi => exact size39); (case hold => rfl); (case h1 => exact GV_one _ _ _ _); rw [World.setRow_alloc_new])
    | (refine wpList_load_row rfl 39 (.tmp 14) rfl _ rfl 39 _ (0, 0) _ (heap_alloc_last _ _) Try.underlying39 rfl size39 ?_))
  refine (months_none s _ _ _ hS).mono ?_
  rintro e w2 ⟨rfl, hb2⟩
  have z2 : w1.heap.size < w2.heap.size := by have := hb2.size; simp at this; omega
  have G2 := (Blk.new w1 (GV s (wl da) (xt da) none) 39 w1.heap.size rfl).below hb2 (by simp)
  have q2 : Below w0.heap.size w0 w2 := (q1.alloc s1 _).trans (hb2.mono (by simp; omega))
  clear hb2 q1
  go_wp2_with (first
    | (refine wpList_store_row rfl 39 (.tmp 17) (.tmp 48) rfl _ _ rfl rfl 39 ?old ?hg ?hi ?hold ?h1 ?h; (case hg => exact heap_at _ _ _ (by simp)); (case hi => exact size39); (case hold => rfl); (case h1 => exact GV_one _ _ _ _); rw [setRow_at _ _ _ _ _ (by simp)])
    | (refine wpList_load_row rfl 39 (.tmp 14) rfl _ rfl 39 _ (0, 0) _ (G2.alloc _) Try.underlying39 rfl size39 ?_))
  clear G2
  have Dy := (Blk.new w2 #[.int .u64 0, .int .i64 0, .pointer none] 27 w2.heap.size rfl).alloc (.cells (GV s (wl da) (xt da) none) 39)
  have Hh := Blk.new (w2.alloc (.cells #[.int .u64 0, .int .i64 0, .pointer none] 27)) (GV s (wl da) (xt da) none) 39 (w2.heap.size + 1) (by simp)
  have s2 := q2.size
  have qq : Below w0.heap.size w0 ((w2.alloc (.cells #[.int .u64 0, .int .i64 0, .pointer none] 27)).alloc (.cells (GV s (wl da) (xt da) none) 39)) := (q2.alloc s2 _).alloc (by simp; omega) _
  refine (zzT ot _ o0 o1).mono ?_
  rintro e w3 ⟨rfl, hb3⟩
  have z3 : w2.heap.size + 1 < w3.heap.size := by have := hb3.size; simp at this; omega
  have Dy3 := Dy.below hb3 (by simp; omega)
  have Hh3 := Hh.below hb3 (by simp)
  have q3 : Below w0.heap.size w0 w3 := qq.trans (hb3.mono (by simp; omega))
  have s3 := q3.size
  clear Dy Hh qq hb3 q2
  have k3 := Hh3.cell 3
  have k4 := Hh3.cell 4
  have k5 := Hh3.cell 5
  have f3 := Hh3.free 3
  have f4 := Hh3.free 4
  have f5 := Hh3.free 5
  rw [show (GV s (wl da) (xt da) none)[3]? = some (.int .u64 (wl da)) from rfl] at k3
  rw [show (GV s (wl da) (xt da) none)[4]? = some (.int .i64 (xt da)) from rfl] at k4
  rw [show (GV s (wl da) (xt da) none)[5]? = some (.pointer none) from rfl] at k5
  have Hx := ((Hh3.put 3 (.int .u64 (wl ot))).put 4 (.int .i64 (xt ot))).put 5 (.pointer none)
  rw [GV_date] at Hx
  have Dx := ((Dy3.other (w2.heap.size + 1) 3 (.int .u64 (wl ot)) (by omega)).other (w2.heap.size + 1) 4 (.int .i64 (xt ot)) (by omega)).other (w2.heap.size + 1) 5 (.pointer none) (by omega)
  have qx := ((q3.setCell (p := ⟨w2.heap.size + 1, 3, none⟩) (by simp; omega) (.int .u64 (wl ot))).setCell (p := ⟨w2.heap.size + 1, 4, none⟩) (by simp; omega) (.int .i64 (xt ot))).setCell (p := ⟨w2.heap.size + 1, 5, none⟩) (by simp; omega) (.pointer none)
  clear Hh3 Dy3 q3
  go_wp2_with (refine wpList_load_row rfl 39 (.tmp 17) rfl _ rfl 39 _ (0, 0) _ Hx Try.underlying39 rfl size39 ?_)
  clear k3 k4 k5 f3 f4 f5
  refine (months_none s _ _ _ hS).mono ?_
  rintro e w4 ⟨rfl, hb4⟩
  have z4 : w2.heap.size + 1 < w4.heap.size := by have := hb4.size; simp at this; omega
  have Dy4 := Dx.below hb4 Dx.lt
  have q4 : Below w0.heap.size w0 w4 := qx.trans (hb4.mono qx.size)
  have s4 := q4.size
  clear Hx Dx qx hb4
  have Dz := Dy4.alloc (.cells #[.int .u64 0, .int .i64 0, .pointer none] 27)
  have Ez := Blk.new w4 #[.int .u64 0, .int .i64 0, .pointer none] 27 w4.heap.size rfl
  have qz := q4.alloc s4 (.cells #[.int .u64 0, .int .i64 0, .pointer none] 27)
  clear Dy4 q4
  go_wp2_with fail
  refine (zzT da _ d0 d1).mono ?_
  rintro e w6 ⟨rfl, hb6⟩
  have z6 : w4.heap.size < w6.heap.size := by have := hb6.size; simp at this; omega
  have D6 := Dz.below hb6 Dz.lt
  have E6 := Ez.below hb6 Ez.lt
  have q6 : Below w0.heap.size w0 w6 := qz.trans (hb6.mono qz.size)
  have s6 := q6.size
  clear Dz Ez qz hb6
  have a0 := D6.cell 0
  have a1 := D6.cell 1
  have a2 := D6.cell 2
  have b0 := E6.cell 0
  have b1 := E6.cell 1
  have b2 := E6.cell 2
  rw [show (#[.int .u64 0, .int .i64 0, .pointer none] : Array Value)[0]? = some (.int .u64 0) from rfl] at a0 b0
  rw [show (#[.int .u64 0, .int .i64 0, .pointer none] : Array Value)[1]? = some (.int .i64 0) from rfl] at a1 b1
  rw [show (#[.int .u64 0, .int .i64 0, .pointer none] : Array Value)[2]? = some (.pointer none) from rfl] at a2 b2
  have y1 : w2.heap.size < w6.heap.size := by omega
  clear D6 E6
  go_wp2
  go_ret
  exact ⟨rfl, q6.alloc s6 _⟩

set_option maxRecDepth 100000 in
set_option maxHeartbeats 1000000 in
theorem law_rh (s : ByteArray) (da re ot : Int) (w : World) (hs : s.size ≤ 4096) (hS : (s.toList == [114, 101, 115, 116, 114, 105, 99, 116, 101, 100]) = true)
    (d0 : -9223372036854775808 ≤ da) (d1 : da ≤ 9223372036854775807) (r0 : -9223372036854775808 ≤ re) (r1 : re ≤ 9223372036854775807) (o0 : -9223372036854775808 ≤ ot) (o1 : ot ≤ 9223372036854775807) :
    Calls Try.prog 3 #[.string s, .int .i64 da, .bool true, .int .i64 re, .int .i64 ot] w fun e w' => e = .returned (.bool true) ∧ Below w.heap.size w w' := by
  have ln := loc_nil
  go_enter Try.func3, Try.ntmps3
  go_wp2_with fail
  refine (bytesOk _ _ _ _ _ _ (by omega)).mono ?_
  rintro e w0 ⟨rfl, rfl⟩
  go_wp2_with fail
  refine (zzT re _ r0 r1).mono ?_
  rintro e wr ⟨rfl, hbr⟩
  have rgr := Blk.new wr #[.int .u64 (wl re), .int .i64 (xt re), .pointer none] 27 wr.heap.size rfl
  have sr := hbr.size
  have qr : Below w0.heap.size w0 (wr.alloc (.cells #[.int .u64 (wl re), .int .i64 (xt re), .pointer none] 27)) := hbr.alloc sr _
  go_wp2_with fail
  refine (zzT da _ d0 d1).mono ?_
  rintro e w1 ⟨rfl, hb1⟩
  have q1 : Below w0.heap.size w0 w1 := qr.trans (hb1.mono (by simp; omega))
  have rg1 := rgr.below hb1 (by simp)
  clear rgr qr hb1
  have s1 := q1.size
  go_wp2_with (first
    | (refine wpList_build39 rfl (.tmp 38) (.tmp 40) (.tmp 41) rfl _ _ _ _ rfl rfl rfl ?_)
    | (refine wpList_store_row rfl 39 (.tmp 14) (.tmp 42) rfl _ _ rfl rfl 39 ?old ?hg ?hi ?hold ?h1 ?h; (case hg => exact heap_alloc_last _ _); (case hi => exact size39); (case hold => rfl); (case h1 => exact GV_one _ _ _ _); rw [World.setRow_alloc_new])
    | (refine wpList_load_row rfl 39 (.tmp 14) rfl _ rfl 39 _ (0, 0) _ (heap_alloc_last _ _) Try.underlying39 rfl size39 ?_))
  refine (months_some s _ _ _ _ _ _ hS ((rg1.alloc (.cells (GV s (wl da) (xt da) (some ⟨wr.heap.size, 0, none⟩)) 39)).cell 0) ((rg1.alloc (.cells (GV s (wl da) (xt da) (some ⟨wr.heap.size, 0, none⟩)) 39)).cell 1) ((rg1.alloc (.cells (GV s (wl da) (xt da) (some ⟨wr.heap.size, 0, none⟩)) 39)).cell 2)).mono ?_
  rintro e w2 ⟨rfl, hb2⟩
  have z2 : w1.heap.size < w2.heap.size := by have := hb2.size; simp at this; omega
  have G2 := (Blk.new w1 (GV s (wl da) (xt da) (some ⟨wr.heap.size, 0, none⟩)) 39 w1.heap.size rfl).below hb2 (by simp)
  have q2 : Below w0.heap.size w0 w2 := (q1.alloc s1 _).trans (hb2.mono (by simp; omega))
  have rg2 := (rg1.alloc (.cells (GV s (wl da) (xt da) (some ⟨wr.heap.size, 0, none⟩)) 39)).below hb2 (by have := rg1.lt; simp; omega)
  have rl : wr.heap.size < w1.heap.size := rg1.lt
  clear rg1
  clear hb2 q1
  go_wp2_with (first
    | (refine wpList_store_row rfl 39 (.tmp 17) (.tmp 48) rfl _ _ rfl rfl 39 ?old ?hg ?hi ?hold ?h1 ?h; (case hg => exact heap_at _ _ _ (by simp)); (case hi => exact size39); (case hold => rfl); (case h1 => exact GV_one _ _ _ _); rw [setRow_at _ _ _ _ _ (by simp)])
    | (refine wpList_load_row rfl 39 (.tmp 14) rfl _ rfl 39 _ (0, 0) _ (G2.alloc _) Try.underlying39 rfl size39 ?_))
  clear G2
  have Dy := (Blk.new w2 #[.int .u64 (wl re), .int .i64 (xt re), .pointer none] 27 w2.heap.size rfl).alloc (.cells (GV s (wl da) (xt da) (some ⟨wr.heap.size, 0, none⟩)) 39)
  have Hh := Blk.new (w2.alloc (.cells #[.int .u64 (wl re), .int .i64 (xt re), .pointer none] 27)) (GV s (wl da) (xt da) (some ⟨wr.heap.size, 0, none⟩)) 39 (w2.heap.size + 1) (by simp)
  have s2 := q2.size
  have qq : Below w0.heap.size w0 ((w2.alloc (.cells #[.int .u64 (wl re), .int .i64 (xt re), .pointer none] 27)).alloc (.cells (GV s (wl da) (xt da) (some ⟨wr.heap.size, 0, none⟩)) 39)) := (q2.alloc s2 _).alloc (by simp; omega) _
  have rgq := (rg2.alloc (.cells #[.int .u64 (wl re), .int .i64 (xt re), .pointer none] 27)).alloc (.cells (GV s (wl da) (xt da) (some ⟨wr.heap.size, 0, none⟩)) 39)
  refine (zzT ot _ o0 o1).mono ?_
  rintro e w3 ⟨rfl, hb3⟩
  have z3 : w2.heap.size + 1 < w3.heap.size := by have := hb3.size; simp at this; omega
  have Dy3 := Dy.below hb3 (by simp; omega)
  have Hh3 := Hh.below hb3 (by simp)
  have q3 : Below w0.heap.size w0 w3 := qq.trans (hb3.mono (by simp; omega))
  have s3 := q3.size
  have rg3 := rgq.below hb3 (by simp; omega)
  clear rgq rg2
  clear Dy Hh qq hb3 q2
  have k3 := Hh3.cell 3
  have k4 := Hh3.cell 4
  have k5 := Hh3.cell 5
  have f3 := Hh3.free 3
  have f4 := Hh3.free 4
  have f5 := Hh3.free 5
  rw [show (GV s (wl da) (xt da) (some ⟨wr.heap.size, 0, none⟩))[3]? = some (.int .u64 (wl da)) from rfl] at k3
  rw [show (GV s (wl da) (xt da) (some ⟨wr.heap.size, 0, none⟩))[4]? = some (.int .i64 (xt da)) from rfl] at k4
  rw [show (GV s (wl da) (xt da) (some ⟨wr.heap.size, 0, none⟩))[5]? = some (.pointer none) from rfl] at k5
  have Hx := ((Hh3.put 3 (.int .u64 (wl ot))).put 4 (.int .i64 (xt ot))).put 5 (.pointer none)
  rw [GV_date] at Hx
  have Dx := ((Dy3.other (w2.heap.size + 1) 3 (.int .u64 (wl ot)) (by omega)).other (w2.heap.size + 1) 4 (.int .i64 (xt ot)) (by omega)).other (w2.heap.size + 1) 5 (.pointer none) (by omega)
  have qx := ((q3.setCell (p := ⟨w2.heap.size + 1, 3, none⟩) (by simp; omega) (.int .u64 (wl ot))).setCell (p := ⟨w2.heap.size + 1, 4, none⟩) (by simp; omega) (.int .i64 (xt ot))).setCell (p := ⟨w2.heap.size + 1, 5, none⟩) (by simp; omega) (.pointer none)
  have rgx := ((rg3.other (w2.heap.size + 1) 3 (.int .u64 (wl ot)) (by omega)).other (w2.heap.size + 1) 4 (.int .i64 (xt ot)) (by omega)).other (w2.heap.size + 1) 5 (.pointer none) (by omega)
  clear Hh3 Dy3 q3 rg3
  go_wp2_with (refine wpList_load_row rfl 39 (.tmp 17) rfl _ rfl 39 _ (0, 0) _ Hx Try.underlying39 rfl size39 ?_)
  clear k3 k4 k5 f3 f4 f5
  refine (months_some s _ _ _ _ _ _ hS (rgx.cell 0) (rgx.cell 1) (rgx.cell 2)).mono ?_
  rintro e w4 ⟨rfl, hb4⟩
  have z4 : w2.heap.size + 1 < w4.heap.size := by have := hb4.size; simp at this; omega
  have Dy4 := Dx.below hb4 Dx.lt
  have q4 : Below w0.heap.size w0 w4 := qx.trans (hb4.mono qx.size)
  have s4 := q4.size
  have rg4 := rgx.below hb4 rgx.lt
  clear rgx
  clear Hx Dx qx hb4
  have Dz := Dy4.alloc (.cells #[.int .u64 (wl re), .int .i64 (xt re), .pointer none] 27)
  have Ez := Blk.new w4 #[.int .u64 (wl re), .int .i64 (xt re), .pointer none] 27 w4.heap.size rfl
  have qz := q4.alloc s4 (.cells #[.int .u64 (wl re), .int .i64 (xt re), .pointer none] 27)
  have rgz := rg4.alloc (.cells #[.int .u64 (wl re), .int .i64 (xt re), .pointer none] 27)
  clear Dy4 q4 rg4
  go_wp2_with fail
  refine (zzT ot _ o0 o1).mono ?_
  rintro e w5 ⟨rfl, hb5⟩
  have z5 : w4.heap.size < w5.heap.size := by have := hb5.size; simp at this; omega
  have D5 := Dz.below hb5 (by simp; omega)
  have E5 := Ez.below hb5 (by simp)
  have rg5 := rgz.below hb5 (by simp; omega)
  have q5 : Below w0.heap.size w0 w5 := qz.trans (hb5.mono (by simp; omega))
  clear Dz Ez rgz qz hb5
  have k0 := rg5.cell 0
  have k1 := rg5.cell 1
  have k2 := rg5.cell 2
  have f0 := rg5.free 0
  have f1 := rg5.free 1
  have f2 := rg5.free 2
  rw [show (#[.int .u64 (wl re), .int .i64 (xt re), .pointer none] : Array Value)[0]? = some (.int .u64 (wl re)) from rfl] at k0
  rw [show (#[.int .u64 (wl re), .int .i64 (xt re), .pointer none] : Array Value)[1]? = some (.int .i64 (xt re)) from rfl] at k1
  rw [show (#[.int .u64 (wl re), .int .i64 (xt re), .pointer none] : Array Value)[2]? = some (.pointer none) from rfl] at k2
  have Dz := ((D5.other wr.heap.size 0 (.int .u64 (wl ot)) (by omega)).other wr.heap.size 1 (.int .i64 (xt ot)) (by omega)).other wr.heap.size 2 (.pointer none) (by omega)
  have Ez := ((E5.other wr.heap.size 0 (.int .u64 (wl ot)) (by omega)).other wr.heap.size 1 (.int .i64 (xt ot)) (by omega)).other wr.heap.size 2 (.pointer none) (by omega)
  have qz := ((q5.setCell (p := ⟨wr.heap.size, 0, none⟩) sr (.int .u64 (wl ot))).setCell (p := ⟨wr.heap.size, 1, none⟩) sr (.int .i64 (xt ot))).setCell (p := ⟨wr.heap.size, 2, none⟩) sr (.pointer none)
  clear D5 E5 rg5 q5
  go_wp2_with fail
  clear k0 k1 k2 f0 f1 f2
  refine (zzT da _ d0 d1).mono ?_
  rintro e w6 ⟨rfl, hb6⟩
  have z6 : w4.heap.size < w6.heap.size := by have := hb6.size; simp at this; omega
  have D6 := Dz.below hb6 Dz.lt
  have E6 := Ez.below hb6 Ez.lt
  have q6 : Below w0.heap.size w0 w6 := qz.trans (hb6.mono qz.size)
  have s6 := q6.size
  clear Dz Ez qz hb6
  go_wp2_with fail
  have Dz := D6.alloc (.cells #[.int .u64 0, .int .i64 0, .pointer none] 27)
  have Ez := E6.alloc (.cells #[.int .u64 0, .int .i64 0, .pointer none] 27)
  have qz := q6.alloc s6 (.cells #[.int .u64 0, .int .i64 0, .pointer none] 27)
  have Wz := Blk.new w6 #[.int .u64 0, .int .i64 0, .pointer none] 27 w6.heap.size rfl
  clear D6 E6 q6
  refine (zzT re _ r0 r1).mono ?_
  rintro e w7 ⟨rfl, hb7⟩
  have z7 : w6.heap.size < w7.heap.size := by have := hb7.size; simp at this; omega
  have D6 := Dz.below hb7 Dz.lt
  have E6 := Ez.below hb7 Ez.lt
  have W6 := Wz.below hb7 Wz.lt
  have q6 : Below w0.heap.size w0 w7 := qz.trans (hb7.mono qz.size)
  clear Dz Ez Wz qz hb7
  have t0 := W6.cell 0
  have t1 := W6.cell 1
  have t2 := W6.cell 2
  have u0 := W6.free 0
  have u1 := W6.free 1
  have u2 := W6.free 2
  rw [show (#[.int .u64 0, .int .i64 0, .pointer none] : Array Value)[0]? = some (.int .u64 0) from rfl] at t0
  rw [show (#[.int .u64 0, .int .i64 0, .pointer none] : Array Value)[1]? = some (.int .i64 0) from rfl] at t1
  rw [show (#[.int .u64 0, .int .i64 0, .pointer none] : Array Value)[2]? = some (.pointer none) from rfl] at t2
  have n1 : w2.heap.size ≠ w6.heap.size := by omega
  have n2 : w4.heap.size ≠ w6.heap.size := by omega
  clear W6
  have a0 := D6.cell 0
  have a1 := D6.cell 1
  have a2 := D6.cell 2
  have b0 := E6.cell 0
  have b1 := E6.cell 1
  have b2 := E6.cell 2
  rw [show (#[.int .u64 (wl re), .int .i64 (xt re), .pointer none] : Array Value)[0]? = some (.int .u64 (wl re)) from rfl] at a0 b0
  rw [show (#[.int .u64 (wl re), .int .i64 (xt re), .pointer none] : Array Value)[1]? = some (.int .i64 (xt re)) from rfl] at a1 b1
  rw [show (#[.int .u64 (wl re), .int .i64 (xt re), .pointer none] : Array Value)[2]? = some (.pointer none) from rfl] at a2 b2
  have y1 : w2.heap.size < w6.heap.size := by omega
  clear D6 E6
  go_wp2
  go_ret
  exact ⟨rfl, ((q6.setCell (p := ⟨w6.heap.size, 0, none⟩) s6 _).setCell (p := ⟨w6.heap.size, 1, none⟩) s6 _).setCell (p := ⟨w6.heap.size, 2, none⟩) s6 _⟩

end Go.Proofs.Qxb6609533a
