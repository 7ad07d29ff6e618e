/- FnCopySame: from its walk to its card. Printed by cards.py. -/
import Derived.Test.YtpkgkppehefibaaGreatDoorG3
import Derived.Test.YtpkgkppehefibaaGreatDoorFFnCopySame
namespace Go.Proofs.YtpkgkppehefibaaGreatDoor.fnCopySame
open Go.ChangeShapes Go.WideShapes Go.ChangeAt Go.RowKit
set_option maxRecDepth 100000

theorem contract (H : Type) (enc : TypeId × Value → H) (W : World) (base : Nat) (args : Array Value) (ds gs : List (DataW H)) (before : List MemPlace)
    (hval : ∀ (j : Nat) t v, Tryz.f8.params[j]? = some t → args[j]? = some v → Value.okWide Tryz.prog W .any base t v)
    (hW : DataW.Whole enc Tryz.prog Tryz.f8.params.toList Rows.fnCopySameSpec.vars false W args.toList ds gs before) (hL : laidMetH Tryz.prog Rows.fnCopySameUptoRow.laid W) (hk : Rows.uptoSmall H (ds ++ gs) = true) :
    Calls Tryz.prog 8 args W fun e W' => ∃ v, e = .returned v ∧ Rows.fnCopySameSpec.post enc Tryz.prog Tryz.f8 false true false false W args v W' := by
  have hW' := hW
  obtain ⟨p, q, hA0, hV, rfl, hfz, hnd⟩ := hW
  have hA : DataW.TrodAll enc Tryz.prog W 0 (fun _ => true) true Tryz.f8.params.toList args.toList ds p := hA0
  rw [Tryz.params8] at hA hval
  obtain ⟨rfl, rfl⟩ := trodVars_none hV
  have hg : MaxOk W := maxOk5 hL
  obtain ⟨v0, vs0, d0, ds0, p0, q0, hargs0, rfl, rfl, h0, r0⟩ := trodAll_cons hA
  obtain ⟨v1, vs1, d1, ds1, p1, q1, hargs1, rfl, rfl, h1, r1⟩ := trodAll_cons r0
  subst hargs1
  obtain ⟨v2, vs2, d2, ds2, p2, q2, hargs2, rfl, rfl, h2, r2⟩ := trodAll_cons r1
  subst hargs2
  obtain ⟨rfl, rfl, rfl⟩ := trodAll_nil r2
  obtain rfl : args = #[v0, v1, v2] := by cases args; simp_all
  obtain ⟨A0, n0, c0, T0, rfl, hR0, hT0, hc0, hn0, hB0, hN0⟩ := open_bytes (hval 0 22 v0 rfl rfl) h0
  obtain ⟨A1, n1, c1, T1, rfl, hR1, hT1, hc1, hn1, hB1, hN1⟩ := open_bytes (hval 1 22 v1 rfl rfl) h1
  obtain ⟨x2, rfl, rfl, rfl, hx2⟩ := open_int Tryz.underlying3 (hval 2 3 v2 rfl rfl) h2
  clear hA0
  simp only [List.append_nil] at hW' hk
  have hk1 := of_decide_eq_true hk
  simp only [Rows.uptoBulkAll] at hk1
  refine (fnCopySame_walk x2 W ⟨hR0, hT0, hc0, by omega⟩ ⟨hR1, hT1, hc1, by omega⟩ (bounds_i64 hx2) hg (by omega)).mono fun e W' ⟨he, hb0⟩ => ?_
  have hb : Below W.heap.size W W' := hb0
  subst he
  have hlt0 : ∀ x ∈ p0, x.block < W.heap.size := fun x hx => hW'.lt x (by simp [hx])
  have ht0 := Below.trod laidOut1 (by kernel_rfl) (of_decide_eq_true (by kernel_rfl)) h0 hb hlt0
  have hlt1 : ∀ x ∈ p1, x.block < W.heap.size := fun x hx => hW'.lt x (by simp [hx])
  have ht1 := Below.trod laidOut1 (by kernel_rfl) (of_decide_eq_true (by kernel_rfl)) h1 hb hlt1
  have ht2 : DataW.Trod enc Tryz.prog W' 0 (fun b => decide (b < W.heap.size)) true 3 _ _ [] := shut_int Tryz.underlying3 hx2
  refine ⟨_, rfl, _, _, _, [], _, [], hW', ?_, (trodAll_cons_mk ht0 (trodAll_cons_mk ht1 (trodAll_cons_mk ht2 trodAll_mk0))), rfl, hb.frame _, fun h => by cases h⟩
  exact trodAll_cons_mk (shut_bool Tryz.underlying4 _) trodAll_mk0

noncomputable def laidWorld (os : Os) : World := laidWorld5 os
theorem laid_met (os : Os) : laidMet Tryz.prog Rows.fnCopySameUptoRow.laid ((laidWorld os).forCall (fun _ _ => 0) ⟨#[], #[Value.slice Option.none 0 0, Value.slice Option.none 0 0, Value.int .i64 0], []⟩).memory :=
  laidMet_of_run' 8 (by kernel_rfl) (by kernel_rfl)
theorem reads (os : Os) {H : Type} (enc : TypeId × Value → H) : ∃ places, DataW.whole enc Tryz.prog ((laidWorld os).forCall (fun _ _ => 0) ⟨#[], #[Value.slice Option.none 0 0, Value.slice Option.none 0 0, Value.int .i64 0], []⟩).memory Tryz.f8.params.toList Rows.fnCopySameSpec.vars false (#[Value.slice Option.none 0 0, Value.slice Option.none 0 0, Value.int .i64 0]).toList 8 = some ([.nil, .nil, .lit (.int .i64 0)], [], places) :=
  ⟨[], by kernel_rfl⟩

set_option maxRecDepth 100000 in
theorem lifted (os : Os) (started : os.Started) (H : Type) (enc : TypeId × Value → H) (F : Stop.Interp) :
    ReturnsInHanded {} Tryz.checked os 8 .any ((Rows.OpenSpec.upto Rows.fnCopySameSpec).preRow enc Tryz.prog Tryz.f8 Rows.fnCopySameUptoRow.domain false Rows.fnCopySameUptoRow.laid) (((Rows.OpenSpec.upto Rows.fnCopySameSpec).at F).post enc Tryz.prog Tryz.f8 false true false false) := by
  obtain ⟨places, hx⟩ := reads os enc
  refine returnsInHanded_of_row (C := Tryz.checked) (s := Rows.OpenSpec.upto Rows.fnCopySameSpec) own started (by kernel_rfl) Tryz.func8
    (witness_row_at (enc := enc) (C := Tryz.checked) false (laidWorld os) #[Value.slice Option.none 0 0, Value.slice Option.none 0 0, Value.int .i64 0] rfl (by kernel_rfl) (by kernel_rfl) (by kernel_rfl)
      (OpenSpec.preRow_of_cond 8 hx (by kernel_rfl) (fun k hk => by cases hk; kernel_rfl) (by kernel_rfl) (laid_met os))) ?_
  intro W base args ds gs before hval hW _ hcond _ hL _ _
  exact contract H enc W base args ds gs before hval hW hL (hcond _ rfl)

theorem said : Rows.FnCopySameUptoSaid :=
  OpenClaim.holds_of_cond 8 Tryz.f8 rfl rfl rfl rfl rfl rfl rfl ⟨rfl, rfl, rfl, rfl, rfl⟩ rfl rfl rfl rfl rfl (by kernel_rfl) Tryz.func8 (by kernel_rfl)
    (of_decide_eq_true (by kernel_rfl)) (by unfold Func.isWrapper; first | (rw [if_pos (by decide +kernel)]; kernel_rfl) | (rw [if_neg (by decide +kernel)]; exact ⟨rfl, rfl⟩))
    (fun os started H enc _ F => by rw [OpenClaim.pre_eq_preRow]; exact lifted os started H enc F)

theorem plain (f : FuncId) (fn : Func) (hf : Tryz.pinned.checked.prog.funcNamed "loop.example/lib-g01090/laws.FnCopySame" = some f) (hfn : Tryz.pinned.checked.prog.funcs[f]? = some fn) :
    true = Tryz.pinned.checked.prog.looks [] ∧ ∀ (j : Nat) t, fn.params[j]? = some t → Tryz.pinned.checked.prog.wantsStandIn t = false := by
  obtain rfl : f = 8 := Option.some.inj ((show Tryz.prog.funcNamed "loop.example/lib-g01090/laws.FnCopySame" = some 8 by kernel_rfl).symm.trans hf) |>.symm
  obtain rfl : fn = Tryz.f8 := (Option.some.inj (Tryz.func8.symm.trans hfn)).symm
  refine ⟨by kernel_rfl, fun j t ht => ?_⟩
  rw [Tryz.params8] at ht
  have hm := Array.mem_of_getElem? ht
  simp only [List.mem_toArray, List.mem_cons, List.not_mem_nil, or_false] at hm
  rcases hm with rfl | rfl | rfl
  · exact (show Tryz.prog.wantsStandIn 22 = false by kernel_rfl)
  · exact (show Tryz.prog.wantsStandIn 22 = false by kernel_rfl)
  · exact (show Tryz.prog.wantsStandIn 3 = false by kernel_rfl)

theorem card : Rows.FnCopySameUptoCardSaid :=
  Claim7.holds_tied_plain_at .later [] _ _ _ _ said (fun _ h => by cases h) (by kernel_rfl) (fun _ h => by cases h) fnCopySameUpto_row_tie rfl ⟨rfl, rfl⟩ (by kernel_rfl) rfl plain (by kernel_rfl)
end Go.Proofs.YtpkgkppehefibaaGreatDoor.fnCopySame
