/-
  OWN TEXT of this seat: THE ROW of FnSelectingAddressPrefersRelayAddress PROVED: the listed variables opened, the arguments opened, the walk, the arguments shut.
  (After the kit's own worked frames for a law over bytes and for a row that lists variables, turned to this program.)
-/
import Derived.Test.Qxb6609530aDoorRows
import Derived.Test.Qxb6609530aDoorLaw
import Derived.ProofKit
import Derived.LaidMore
import Derived.OpenShut
import Derived.Stop.Joined
namespace Go.Proofs.Qxb6609530aDoor
open Go.ChangeShapes Go.WideShapes Go.ChangeAt Go.WideMaps Go.WideElems Go.RowKit

theorem own : ownKnob Tryd.prog.godebug = none := by kernel_rfl
theorem laidOut : laidOutB Tryd.prog = true := by kernel_rfl
theorem gz4 : Tryd.prog.globalNamed (Rows.fnSelectingAddressPrefersRelayAddressRow.named.getD 0 "") = some 1 := by kernel_rfl
theorem gz6 : Tryd.prog.globalNamed (Rows.fnSelectingAddressPrefersRelayAddressRow.named.getD 1 "") = some 2 := by kernel_rfl
theorem gz0 : Tryd.prog.globalNamed (Rows.fnSelectingAddressPrefersRelayAddressRow.named.getD 2 "") = some 0 := by kernel_rfl
theorem tz4 : (Tryd.prog.globals[1]?).map (·.type) = some 39 := by kernel_rfl
theorem tz6 : (Tryd.prog.globals[2]?).map (·.type) = some 39 := by kernel_rfl
theorem tz0 : (Tryd.prog.globals[0]?).map (·.type) = some 39 := by kernel_rfl
theorem cells39 : Tryd.prog.cellsOf 39 = 1 := by kernel_rfl
theorem cells37 : Tryd.prog.cellsOf 37 = 1 := by kernel_rfl
theorem cells5 : Tryd.prog.cellsOf 5 = 1 := by kernel_rfl
theorem cells23 : Tryd.prog.cellsOf 23 = 4 := by kernel_rfl

/-- the door's own heap, unique's table (block 4) laid empty again as a start wants it, meets the condition -/
theorem door_met (os : Os) (args : Array Value) : laidMetH Tryd.prog Rows.fnSelectingAddressPrefersRelayAddressRow.laid (World.forCall { World.doorLaid Tryd.prog 21 os with heap := (World.doorLaid Tryd.prog 21 os).heap.setIfInBounds 4 (.map #[] 0) } (fun _ _ => 0) ⟨#[], args, []⟩).memory :=
  laidMetH_of_parts3 (fuel := 8) (laidMet_of_run' 8 (by kernel_rfl) (by kernel_rfl)) (by kernel_rfl) (by kernel_rfl)

/-- a variable of type unique.Handle: one pointer -/
theorem handle_open {w : World} {fuel : Nat} {cs : List Value} {d : DataW Unit} {p : List MemPlace} (h : DataW.trod (fun _ => ()) Tryd.prog w 0 (fun _ => true) false fuel 39 cs = some (d, p)) :
    ∃ c y n, cs = [c] ∧ d = .agg [y.1] ∧ DataW.trod (fun _ => ()) Tryd.prog w 0 (fun _ => true) false n 37 [c] = some y := by
  obtain ⟨y, n, hx, hl, hy⟩ := trod_struct1 Tryd.underlying39 h
  rw [cells39] at hl
  match cs, hl with
  | [c], _ =>
    simp only [Prod.mk.injEq] at hx
    refine ⟨c, y, n, rfl, hx.1, ?_⟩
    simpa [cells37] using hy

theorem handle_ptr {w : World} {fuel : Nat} {cs : List Value} {x : DataW Unit} {p : List MemPlace} (h : DataW.trod (fun _ => ()) Tryd.prog w 0 (fun _ => true) false fuel 39 cs = some (.agg [.ptr x], p)) :
    ∃ a, cs = [.pointer (some a)] := by
  obtain ⟨c, y, n, rfl, hd, hy⟩ := handle_open h
  rcases DataW.trod_pointer Tryd.underlying37 hy with ⟨_, hx⟩ | ⟨a, _, _, _, _, hcs, _⟩
  · rw [hx] at hd; simp at hd
  · exact ⟨a, hcs⟩

theorem handle_nil {w : World} {fuel : Nat} {cs : List Value} {p : List MemPlace} (h : DataW.trod (fun _ => ()) Tryd.prog w 0 (fun _ => true) false fuel 39 cs = some (.agg [.nil], p)) :
    cs = [.pointer none] := by
  obtain ⟨c, y, n, rfl, hd, hy⟩ := handle_open h
  rcases DataW.trod_pointer Tryd.underlying37 hy with ⟨hcs, _⟩ | ⟨a, _, _, _, _, _, hx, _⟩
  · exact hcs
  · rw [hx] at hd; simp at hd

/-- WHAT THE CONDITION GIVES THE WALK -/
theorem of_laid {W : World} (h : laidMetH Tryd.prog Rows.fnSelectingAddressPrefersRelayAddressRow.laid W) : ∃ p4 p6, Ready W p4 p6 := by
  rw [MakeChecks.laidMetH_plain _ _ _ (by kernel_rfl)] at h
  obtain ⟨ps, ⟨g0, t0, cs0, f0, p0, q0, hg0, ht0, hv0, hd0, ⟨g1, t1, cs1, f1, p1, q1, hg1, ht1, hv1, hd1, ⟨g2, t2, cs2, f2, p2, q2, hg2, ht2, hv2, hd2, _, _⟩, _⟩, _⟩, _, _⟩ := h
  obtain rfl := Option.some.inj (gz4.symm.trans hg0)
  obtain rfl := Option.some.inj (gz6.symm.trans hg1)
  obtain rfl := Option.some.inj (gz0.symm.trans hg2)
  obtain rfl := Option.some.inj (tz4.symm.trans ht0)
  obtain rfl := Option.some.inj (tz6.symm.trans ht1)
  obtain rfl := Option.some.inj (tz0.symm.trans ht2)
  obtain ⟨a4, e4⟩ := handle_ptr hd0
  obtain ⟨a6, e6⟩ := handle_ptr hd1
  have e0 := handle_nil hd2
  have c4 := World.var?_cell hg0 hv0 0
  have c6 := World.var?_cell hg1 hv1 0
  have c0 := World.var?_cell hg2 hv2 0
  rw [Array.eq_one_of_toList e4] at c4
  rw [Array.eq_one_of_toList e6] at c6
  rw [Array.eq_one_of_toList e0] at c0
  exact ⟨a4, a6, World.block_lt_of_cell? _ _ c6, c0, c4, c6⟩

theorem okWide_array {P : Program} {w : World} {r : Reach} {base : Nat} {t e : TypeId} {n : Nat} {v : Value} (ht : P.underlying t = some (.array n e)) (h : Value.okWide P w r base t v) : ∃ cs, v = .agg cs ∧ cs.size = P.cellsOf t := by
  simp only [Value.okWide, ht] at h
  obtain ⟨cs, h1, h2, _⟩ := h
  exact ⟨cs, h1, h2⟩
theorem four_of {α : Type} {cs : Array α} (h : cs.size = 4) : ∃ c0 c1 c2 c3, cs = #[c0, c1, c2, c3] := by
  obtain ⟨l⟩ := cs
  match l, h with
  | [c0, c1, c2, c3], _ => exact ⟨c0, c1, c2, c3, rfl⟩

/-- the argument g: four bytes -/
theorem open_four {H : Type} {enc : TypeId × Value → H} {w : World} {r : Reach} {base b1 : Nat} {sp : Nat → Bool} {held : Bool} {v : Value} {d : DataW H} {p : List MemPlace}
    (hv : Value.okWide Tryd.prog w r base 23 v) (h : DataW.Trod enc Tryd.prog w b1 sp held 23 v d p) :
    ∃ a b c e : Int, v = .agg #[.int .u8 a, .int .u8 b, .int .u8 c, .int .u8 e] ∧ (0 ≤ a ∧ a ≤ 255) ∧ (0 ≤ b ∧ b ≤ 255) ∧ (0 ≤ c ∧ c ≤ 255) ∧ (0 ≤ e ∧ e ≤ 255) := by
  obtain ⟨cs, rfl, hsz⟩ := okWide_array Tryd.underlying23 hv
  obtain ⟨c0, c1, c2, c3, rfl⟩ := four_of (hsz.trans cells23)
  obtain ⟨fuel, hf⟩ := h
  obtain ⟨xs, m, _, _, _, hl, hel⟩ := DataW.trod_array Tryd.underlying23 hf
  match xs, hl, hel with
  | [x0, x1, x2, x3], _, hel =>
    have h0 := hel 0 (by omega)
    have h1 := hel 1 (by omega)
    have h2 := hel 2 (by omega)
    have h3 := hel 3 (by omega)
    simp [cells5, Value.cells] at h0 h1 h2 h3
    obtain ⟨a, ea, _, wa⟩ := DataW.trod_int Tryd.underlying5 h0
    obtain ⟨b, eb, _, wb⟩ := DataW.trod_int Tryd.underlying5 h1
    obtain ⟨c, ec, _, wc⟩ := DataW.trod_int Tryd.underlying5 h2
    obtain ⟨e, ee, _, we⟩ := DataW.trod_int Tryd.underlying5 h3
    simp only [List.cons.injEq, and_true] at ea eb ec ee
    subst ea eb ec ee
    exact ⟨a, b, c, e, rfl, bounds_u8 wa, bounds_u8 wb, bounds_u8 wc, bounds_u8 we⟩

/-- the law's walk, its ways joined -/
theorem law (s : Option Addr) (n cap : Nat) (zs : List Int) (a b c d : Int) (p4 p6 : Addr) (w : World) (hr : Ready w p4 p6)
    (hs : (s = none ∧ n = 0) ∨ ∃ ad, s = some ad ∧ n ≤ cap ∧ n ≤ zs.length ∧ (∀ i, i < zs.length → w.cell? (ad.add i) = some (.int .u8 (zs.getD i 0))) ∧ ∀ z ∈ zs, (Lit.int .u8 z).wf = true)
    (ha : 0 ≤ a ∧ a ≤ 255) (hb : 0 ≤ b ∧ b ≤ 255) (hc : 0 ≤ c ∧ c ≤ 255) (hd : 0 ≤ d ∧ d ≤ 255) :
    Calls Tryd.prog 3 #[.slice s n cap, .agg #[.int .u8 a, .int .u8 b, .int .u8 c, .int .u8 d]] w fun e w' => e = .returned (.bool true) ∧ Below w.heap.size w w' := by
  by_cases hbig : 1048576 < n
  · exact law_big s n cap _ _ _ _ w hbig
  by_cases hshort : n < 236
  · exact law_short s n cap _ _ _ _ w hshort
  rcases hs with ⟨_, h0⟩ | ⟨ad, rfl, hcap, hzs, hcell, hwf⟩
  · omega
  obtain ⟨mb, mo, rfl, hm0⟩ := ints_at hcell (by omega)
  have hf : Bd fun j => zs.getD j 0 := fun j => by
    have := range_u8 hwf j
    simpa [List.getD_eq_getElem?_getD] using this
  have hm : ∀ j, j < n → w.cell? ⟨mb, mo + j, none⟩ = some (.int .u8 ((fun j => zs.getD j 0) j)) := fun j hj => hm0 j (by omega)
  by_cases k0 : a = 0
  · subst k0
    by_cases k1 : b = 0
    · subst k1
      by_cases k2 : c = 0
      · subst k2
        by_cases k3 : d = 0
        · subst k3
          by_cases kx : (zs.getD 12 0 = 0 ∧ zs.getD 13 0 = 0 ∧ zs.getD 14 0 = 0 ∧ zs.getD 15 0 = 0)
          · exact law_zz mb mo n cap _ p4 p6 w (by omega) (by omega) hf hr hm kx.1 kx.2.1 kx.2.2.1 kx.2.2.2
          · exact law_zx mb mo n cap _ p4 p6 w (by omega) (by omega) hcap hf hr hm kx
        · exact law_nz3 mb mo n cap _ d p4 p6 w (by omega) (by omega) hf hr hm hd.1 hd.2 (by simpa using k3)
      · exact law_nz2 mb mo n cap _ c d p4 p6 w (by omega) (by omega) hf hr hm hc.1 hc.2 hd.1 hd.2 (by simpa using k2)
    · exact law_nz1 mb mo n cap _ b c d p4 p6 w (by omega) (by omega) hf hr hm hb.1 hb.2 hc.1 hc.2 hd.1 hd.2 (by simpa using k1)
  · exact law_nz0 mb mo n cap _ a b c d p4 p6 w (by omega) (by omega) hf hr hm ha.1 ha.2 hb.1 hb.2 hc.1 hc.2 hd.1 hd.2 (by simpa using k0)

set_option maxRecDepth 100000 in
theorem lifted (os : Os) (started : os.Started) (H : Type) (enc : TypeId × Value → H) :
    ReturnsInHanded {} Tryd.checked os 3 .any (fun w args => (Rows.fnSelectingAddressPrefersRelayAddressSpec.pre enc Tryd.prog Tryd.f3 [] false w args ∧ laidMetH Tryd.prog Rows.fnSelectingAddressPrefersRelayAddressRow.laid w) ∧ sizedMet enc Tryd.prog Tryd.f3 (OpenSpec.ofChange Rows.fnSelectingAddressPrefersRelayAddressSpec) false w args)
      (Rows.fnSelectingAddressPrefersRelayAddressSpec.post enc Tryd.prog Tryd.f3 false true false false) := by
  refine returnsInHanded_of_change_and (C := Tryd.checked) (X := fun w _ => laidMetH Tryd.prog Rows.fnSelectingAddressPrefersRelayAddressRow.laid w) (fun _ _ _ hh h => h.of_heap hh) own started (by kernel_rfl) Tryd.func3
    (ChangeSpec.witness_shaped (enc := enc) (C := Tryd.checked) (os := os) (X := fun w _ => laidMetH Tryd.prog Rows.fnSelectingAddressPrefersRelayAddressRow.laid w) false { World.doorLaid Tryd.prog 21 os with heap := (World.doorLaid Tryd.prog 21 os).heap.setIfInBounds 4 (.map #[] 0) } #[.slice none 0 0, .agg #[.int .u8 0, .int .u8 0, .int .u8 0, .int .u8 0]] 8 rfl (World.shaped_of_RefB (by kernel_rfl) (by kernel_rfl)) (by kernel_rfl) (by kernel_rfl) (by kernel_rfl) (door_met os _)) ?_
  intro W base args ds gs before hval0 hW _ _ hL _
  have hval : ∀ (j : Nat) t v, Tryd.f3.params[j]? = some t → args[j]? = some v → Value.okWide Tryd.prog W .any base t v := hval0
  have hW' := hW
  obtain ⟨p, q, hA0, hV, rfl, hfz, hnd⟩ := hW
  have hA : DataW.TrodAll enc Tryd.prog W 0 (fun _ => true) true Tryd.f3.params.toList args.toList ds p := hA0
  rw [Tryd.params3] at hA hval
  obtain ⟨v0, vs0, d0, ds0, p0, q0, hargs, rfl, rfl, h0, r0⟩ := trodAll_cons hA
  obtain ⟨v1, vs1, d1, ds1, p1, q1, rfl, rfl, rfl, h1, r1⟩ := trodAll_cons r0
  obtain ⟨rfl, rfl, rfl⟩ := trodAll_nil r1
  obtain rfl : args = #[v0, v1] := by cases args; simp_all
  obtain ⟨rfl, rfl⟩ := trodVars_none hV
  obtain ⟨p4, p6, hr⟩ := of_laid hL
  have k0 := h0
  have k1 := h1
  have lt0 : ∀ x ∈ p0, x.block < W.heap.size := by obtain ⟨m, hm⟩ := k0; exact DataW.trod_lt m _ _ _ hm
  have lt1 : ∀ x ∈ p1, x.block < W.heap.size := by obtain ⟨m, hm⟩ := k1; exact DataW.trod_lt m _ _ _ hm
  obtain ⟨a0, len0, cap0, rfl⟩ := okWide_slice Tryd.underlying22 (hval 0 22 v0 rfl rfl)
  obtain ⟨a, b, c, d, rfl, ha, hb, hc, hd⟩ := open_four (hval 1 23 v1 rfl rfl) h1
  obtain ⟨zs, hs⟩ : ∃ zs : List Int, (a0 = none ∧ len0 = 0) ∨ ∃ ad, a0 = some ad ∧ len0 ≤ cap0 ∧ len0 ≤ zs.length ∧ (∀ i, i < zs.length → W.cell? (ad.add i) = some (.int .u8 (zs.getD i 0))) ∧ ∀ z ∈ zs, (Lit.int .u8 z).wf = true := by
    obtain ⟨fuel, hf⟩ := h0
    rcases open_ints Tryd.underlying22 Tryd.underlying5 (by kernel_rfl) hf with ⟨hcs, _⟩ | ⟨x, l, c, zs, hcs, _, hl, hm, hz, _, hcell, hwz⟩
    · simp [Value.cells] at hcs
      obtain ⟨rfl, rfl, rfl⟩ := hcs
      exact ⟨[], .inl ⟨rfl, rfl⟩⟩
    · simp [Value.cells] at hcs
      obtain ⟨rfl, rfl, rfl⟩ := hcs
      have hz' : zs.length = cap0 := by simpa using hz
      exact ⟨zs, .inr ⟨_, rfl, hl, by omega, hcell, hwz⟩⟩
  clear hA0 hval0
  refine (law a0 len0 cap0 zs a b c d p4 p6 W hr hs ha hb hc hd).mono fun e W' ⟨he, bel⟩ => ?_
  subst he
  exact ⟨_, rfl, _, _, _, [], _, [], hW', trodAll_mk1 (shut_bool Tryd.underlying4 _), (trodAll_cons_mk (Below.trod laidOut (by kernel_rfl) (of_decide_eq_true (by kernel_rfl)) k0 bel lt0) (trodAll_cons_mk (Below.trod laidOut (by kernel_rfl) (of_decide_eq_true (by kernel_rfl)) k1 bel lt1) trodAll_mk0)), rfl, bel.frame _, fun h => by cases h⟩

theorem row_holds : Rows.FnSelectingAddressPrefersRelayAddressSaid :=
  OpenClaim.holds_of_wide 3 Tryd.f3 rfl rfl rfl rfl rfl rfl rfl ⟨rfl, rfl, rfl, rfl, rfl⟩ rfl rfl rfl rfl rfl (by kernel_rfl) Tryd.func3 (by kernel_rfl)
    (of_decide_eq_true (by kernel_rfl)) (by unfold Func.isWrapper; first | (rw [if_pos (by decide +kernel)]; kernel_rfl) | (rw [if_neg (by decide +kernel)]; exact ⟨rfl, rfl⟩))
    (fun os started H enc _ => lifted os started H enc)

end Go.Proofs.Qxb6609530aDoor
