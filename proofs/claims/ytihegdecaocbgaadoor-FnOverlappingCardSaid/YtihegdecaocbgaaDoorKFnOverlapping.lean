/- FnOverlapping: from its walk to its card. Printed by cards.py. -/
import Derived.Test.YtihegdecaocbgaaDoorG1
import Derived.Test.YtihegdecaocbgaaDoorFFnOverlapping
namespace Go.Proofs.YtihegdecaocbgaaDoor.fnOverlapping
open Go.ChangeShapes Go.WideShapes Go.ChangeAt Go.RowKit

theorem contract (H : Type) (enc : TypeId × Value → H) (W : World) (base : Nat) (args : Array Value) (ds gs : List (DataW H)) (before : List MemPlace)
    (hval : ∀ (j : Nat) t v, Tryd.f14.params[j]? = some t → args[j]? = some v → Value.okWide Tryd.prog W .any base t v)
    (hW : DataW.Whole enc Tryd.prog Tryd.f14.params.toList Rows.fnOverlappingSpec.vars false W args.toList ds gs before) (hL : laidMetH Tryd.prog Rows.fnOverlappingRow.laid W) :
    Calls Tryd.prog 14 args W fun e W' => ∃ v, e = .returned v ∧ Rows.fnOverlappingSpec.post enc Tryd.prog Tryd.f14 false true false false W args v W' := by
  have hW' := hW
  obtain ⟨p, q, hA0, hV, rfl, hfz, hnd⟩ := hW
  have hA : DataW.TrodAll enc Tryd.prog W 0 (fun _ => true) true Tryd.f14.params.toList args.toList ds p := hA0
  rw [Tryd.params14] at hA hval
  obtain ⟨rfl, rfl⟩ := trodVars_none hV
  have hg : MaxOk W := maxOk hL
  obtain ⟨v0, vs0, d0, ds0, p0, q0, hargs0, rfl, rfl, h0, r0⟩ := trodAll_cons hA
  obtain ⟨v1, vs1, d1, ds1, p1, q1, hargs1, rfl, rfl, h1, r1⟩ := trodAll_cons r0
  subst hargs1
  obtain ⟨v2, vs2, d2, ds2, p2, q2, hargs2, rfl, rfl, h2, r2⟩ := trodAll_cons r1
  subst hargs2
  obtain ⟨rfl, rfl, rfl⟩ := trodAll_nil r2
  obtain rfl : args = #[v0, v1, v2] := by cases args; simp_all
  obtain ⟨x0, rfl, rfl, rfl, hx0⟩ := open_int Tryd.underlying5 (hval 0 5 v0 rfl rfl) h0
  obtain ⟨y0, rfl⟩ : ∃ y : Nat, x0 = (y : Int) := ⟨x0.toNat, by have := bounds_u8 hx0; omega⟩
  obtain ⟨x1, rfl, rfl, rfl, hx1⟩ := open_int Tryd.underlying3 (hval 1 3 v1 rfl rfl) h1
  obtain ⟨x2, rfl, rfl, rfl, hx2⟩ := open_int Tryd.underlying3 (hval 2 3 v2 rfl rfl) h2
  clear hA0
  simp only [List.append_nil] at hW'
  refine (fnOverlapping_walk y0 x1 x2 W (by have := bounds_u8 hx0; omega) (bounds_i64 hx1) (bounds_i64 hx2) hg).mono fun e W' ⟨he, hb0⟩ => ?_
  have hb : Below W.heap.size W W' := hb0
  subst he
  have ht0 : DataW.Trod enc Tryd.prog W' 0 (fun b => decide (b < W.heap.size)) true 5 _ _ [] := shut_int Tryd.underlying5 hx0
  have ht1 : DataW.Trod enc Tryd.prog W' 0 (fun b => decide (b < W.heap.size)) true 3 _ _ [] := shut_int Tryd.underlying3 hx1
  have ht2 : DataW.Trod enc Tryd.prog W' 0 (fun b => decide (b < W.heap.size)) true 3 _ _ [] := shut_int Tryd.underlying3 hx2
  refine ⟨_, rfl, _, _, _, [], _, [], hW', ?_, (trodAll_cons_mk ht0 (trodAll_cons_mk ht1 (trodAll_cons_mk ht2 trodAll_mk0))), rfl, hb.frame _, fun h => by cases h⟩
  exact trodAll_cons_mk (shut_bool Tryd.underlying4 _) trodAll_mk0

noncomputable def laidWorld (os : Os) : World :=
  { World.holding Tryd.prog os ⟨#[], #[], []⟩ with heap := (World.holding Tryd.prog os ⟨#[], #[], []⟩).heap.modify 0 fun
      | .cells _ t frozen => .cells #[.int .i64 2147483647] t frozen
      | o => o }
theorem laid_met (os : Os) : laidMet Tryd.prog Rows.fnOverlappingRow.laid ((laidWorld os).forCall (fun _ _ => 0) ⟨#[], #[Value.int .u8 0, Value.int .i64 0, Value.int .i64 0], []⟩).memory :=
  laidMet_of_run' 8 (by kernel_rfl) (by kernel_rfl)
theorem reads (os : Os) {H : Type} (enc : TypeId × Value → H) : ∃ places, DataW.whole enc Tryd.prog ((laidWorld os).forCall (fun _ _ => 0) ⟨#[], #[Value.int .u8 0, Value.int .i64 0, Value.int .i64 0], []⟩).memory Tryd.f14.params.toList Rows.fnOverlappingSpec.vars false (#[Value.int .u8 0, Value.int .i64 0, Value.int .i64 0]).toList 8 = some ([.lit (.int .u8 0), .lit (.int .i64 0), .lit (.int .i64 0)], [], places) :=
  ⟨[], by kernel_rfl⟩

set_option maxRecDepth 100000 in
theorem lifted (os : Os) (started : os.Started) (H : Type) (enc : TypeId × Value → H) (F : Stop.Interp) :
    ReturnsInHanded {} Tryd.checked os 14 .any ((OpenSpec.ofChange Rows.fnOverlappingSpec).preRow enc Tryd.prog Tryd.f14 Rows.fnOverlappingRow.domain false Rows.fnOverlappingRow.laid) (((OpenSpec.ofChange Rows.fnOverlappingSpec).at F).post enc Tryd.prog Tryd.f14 false true false false) := by
  obtain ⟨places, hx⟩ := reads os enc
  refine returnsInHanded_of_row (C := Tryd.checked) (s := OpenSpec.ofChange Rows.fnOverlappingSpec) own started (by kernel_rfl) Tryd.func14
    (witness_row_at (enc := enc) (C := Tryd.checked) false (laidWorld os) #[Value.int .u8 0, Value.int .i64 0, Value.int .i64 0] rfl (by kernel_rfl) (by kernel_rfl) (by kernel_rfl)
      (OpenSpec.preRow_of_cond 8 hx (by kernel_rfl) (fun k hk => by cases hk) (by kernel_rfl) (laid_met os))) ?_
  intro W base args ds gs before hval hW _ _ _ hL _ _
  exact contract H enc W base args ds gs before hval hW hL

theorem said : Rows.FnOverlappingSaid :=
  OpenClaim.holds_of_cond 14 Tryd.f14 rfl rfl rfl rfl rfl rfl rfl ⟨rfl, rfl, rfl, rfl, rfl⟩ rfl rfl rfl rfl rfl (by kernel_rfl) Tryd.func14 (by kernel_rfl)
    (of_decide_eq_true (by kernel_rfl)) (by unfold Func.isWrapper; first | (rw [if_pos (by decide +kernel)]; kernel_rfl) | (rw [if_neg (by decide +kernel)]; exact ⟨rfl, rfl⟩))
    (fun os started H enc _ F => by rw [OpenClaim.pre_eq_preRow]; exact lifted os started H enc F)

theorem plain (f : FuncId) (fn : Func) (hf : Tryd.pinned.checked.prog.funcNamed "loop.example/lib-g01090/laws.FnOverlapping" = some f) (hfn : Tryd.pinned.checked.prog.funcs[f]? = some fn) :
    false = Tryd.pinned.checked.prog.looks [] ∧ ∀ (j : Nat) t, fn.params[j]? = some t → Tryd.pinned.checked.prog.wantsStandIn t = false := by
  obtain rfl : f = 14 := Option.some.inj ((show Tryd.prog.funcNamed "loop.example/lib-g01090/laws.FnOverlapping" = some 14 by kernel_rfl).symm.trans hf) |>.symm
  obtain rfl : fn = Tryd.f14 := (Option.some.inj (Tryd.func14.symm.trans hfn)).symm
  refine ⟨by kernel_rfl, fun j t ht => ?_⟩
  rw [Tryd.params14] at ht
  have hm := Array.mem_of_getElem? ht
  simp only [List.mem_toArray, List.mem_cons, List.not_mem_nil, or_false] at hm
  rcases hm with rfl | rfl | rfl
  · exact (show Tryd.prog.wantsStandIn 5 = false by kernel_rfl)
  · exact (show Tryd.prog.wantsStandIn 3 = false by kernel_rfl)
  · exact (show Tryd.prog.wantsStandIn 3 = false by kernel_rfl)

theorem card : Rows.FnOverlappingCardSaid :=
  Claim7.holds_tied_plain_at .later [] _ _ _ _ said (fun _ h => by cases h) (by kernel_rfl) (fun _ h => by cases h) fnOverlapping_row_tie rfl ⟨rfl, rfl⟩ (by kernel_rfl) rfl plain (by kernel_rfl)
end Go.Proofs.YtihegdecaocbgaaDoor.fnOverlapping
