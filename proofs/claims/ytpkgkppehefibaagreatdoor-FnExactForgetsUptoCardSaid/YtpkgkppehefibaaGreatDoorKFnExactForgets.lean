/- FnExactForgets: from its walk to its card. Printed by cards.py. -/
import Derived.Test.YtpkgkppehefibaaGreatDoorG3
import Derived.Test.YtpkgkppehefibaaGreatDoorFFnExactForgets
namespace Go.Proofs.YtpkgkppehefibaaGreatDoor.fnExactForgets
open Go.ChangeShapes Go.WideShapes Go.ChangeAt Go.RowKit
set_option maxRecDepth 100000

theorem contract (H : Type) (enc : TypeId × Value → H) (W : World) (base : Nat) (args : Array Value) (ds gs : List (DataW H)) (before : List MemPlace)
    (hval : ∀ (j : Nat) t v, Tryz.f5.params[j]? = some t → args[j]? = some v → Value.okWide Tryz.prog W .any base t v)
    (hW : DataW.Whole enc Tryz.prog Tryz.f5.params.toList Rows.fnExactForgetsSpec.vars false W args.toList ds gs before) (hL : laidMetH Tryz.prog Rows.fnExactForgetsUptoRow.laid W) (hk : Rows.uptoSmall H (ds ++ gs) = true) :
    Calls Tryz.prog 5 args W fun e W' => ∃ v, e = .returned v ∧ Rows.fnExactForgetsSpec.post enc Tryz.prog Tryz.f5 false true false false W args v W' := by
  have hW' := hW
  obtain ⟨p, q, hA0, hV, rfl, hfz, hnd⟩ := hW
  have hA : DataW.TrodAll enc Tryz.prog W 0 (fun _ => true) true Tryz.f5.params.toList args.toList ds p := hA0
  rw [Tryz.params5] at hA hval
  obtain ⟨rfl, rfl⟩ := trodVars_none hV
  have hg : MaxOk W := maxOk5 hL
  obtain ⟨v0, vs0, d0, ds0, p0, q0, hargs0, rfl, rfl, h0, r0⟩ := trodAll_cons hA
  obtain ⟨v1, vs1, d1, ds1, p1, q1, hargs1, rfl, rfl, h1, r1⟩ := trodAll_cons r0
  subst hargs1
  obtain ⟨v2, vs2, d2, ds2, p2, q2, hargs2, rfl, rfl, h2, r2⟩ := trodAll_cons r1
  subst hargs2
  obtain ⟨v3, vs3, d3, ds3, p3, q3, hargs3, rfl, rfl, h3, r3⟩ := trodAll_cons r2
  subst hargs3
  obtain ⟨rfl, rfl, rfl⟩ := trodAll_nil r3
  obtain rfl : args = #[v0, v1, v2, v3] := by cases args; simp_all
  obtain ⟨A0, n0, c0, T0, rfl, hR0, hT0, hc0, hn0, hB0, hN0⟩ := open_bytes (hval 0 22 v0 rfl rfl) h0
  obtain ⟨A1, n1, c1, T1, rfl, hR1, hT1, hc1, hn1, hB1, hN1⟩ := open_bytes (hval 1 22 v1 rfl rfl) h1
  obtain ⟨A2, n2, c2, T2, rfl, hR2, hT2, hc2, hn2, hB2, hN2⟩ := open_bytes (hval 2 22 v2 rfl rfl) h2
  obtain ⟨A3, n3, c3, T3, rfl, hR3, hT3, hc3, hn3, hB3, hN3⟩ := open_bytes (hval 3 22 v3 rfl rfl) h3
  clear hA0
  simp only [List.append_nil] at hW' hk
  have hk1 := of_decide_eq_true hk
  simp only [Rows.uptoBulkAll] at hk1
  refine (fnExactForgets_walk  W ⟨hR0, hT0, hc0, by omega⟩ ⟨hR1, hT1, hc1, by omega⟩ ⟨hR2, hT2, hc2, by omega⟩ ⟨hR3, hT3, hc3, by omega⟩ hg (by omega)).mono fun e W' ⟨he, hb0⟩ => ?_
  have hb : Below W.heap.size W W' := hb0
  subst he
  have hlt0 : ∀ x ∈ p0, x.block < W.heap.size := fun x hx => hW'.lt x (by simp [hx])
  have ht0 := Below.trod laidOut1 (by kernel_rfl) (of_decide_eq_true (by kernel_rfl)) h0 hb hlt0
  have hlt1 : ∀ x ∈ p1, x.block < W.heap.size := fun x hx => hW'.lt x (by simp [hx])
  have ht1 := Below.trod laidOut1 (by kernel_rfl) (of_decide_eq_true (by kernel_rfl)) h1 hb hlt1
  have hlt2 : ∀ x ∈ p2, x.block < W.heap.size := fun x hx => hW'.lt x (by simp [hx])
  have ht2 := Below.trod laidOut1 (by kernel_rfl) (of_decide_eq_true (by kernel_rfl)) h2 hb hlt2
  have hlt3 : ∀ x ∈ p3, x.block < W.heap.size := fun x hx => hW'.lt x (by simp [hx])
  have ht3 := Below.trod laidOut1 (by kernel_rfl) (of_decide_eq_true (by kernel_rfl)) h3 hb hlt3
  refine ⟨_, rfl, _, _, _, [], _, [], hW', ?_, (trodAll_cons_mk ht0 (trodAll_cons_mk ht1 (trodAll_cons_mk ht2 (trodAll_cons_mk ht3 trodAll_mk0)))), rfl, hb.frame _, fun h => by cases h⟩
  exact trodAll_cons_mk (shut_bool Tryz.underlying4 _) trodAll_mk0

noncomputable def laidWorld (os : Os) : World := laidWorld5 os
theorem laid_met (os : Os) : laidMet Tryz.prog Rows.fnExactForgetsUptoRow.laid ((laidWorld os).forCall (fun _ _ => 0) ⟨#[], #[Value.slice Option.none 0 0, Value.slice Option.none 0 0, Value.slice Option.none 0 0, Value.slice Option.none 0 0], []⟩).memory :=
  laidMet_of_run' 8 (by kernel_rfl) (by kernel_rfl)
theorem reads (os : Os) {H : Type} (enc : TypeId × Value → H) : ∃ places, DataW.whole enc Tryz.prog ((laidWorld os).forCall (fun _ _ => 0) ⟨#[], #[Value.slice Option.none 0 0, Value.slice Option.none 0 0, Value.slice Option.none 0 0, Value.slice Option.none 0 0], []⟩).memory Tryz.f5.params.toList Rows.fnExactForgetsSpec.vars false (#[Value.slice Option.none 0 0, Value.slice Option.none 0 0, Value.slice Option.none 0 0, Value.slice Option.none 0 0]).toList 8 = some ([.nil, .nil, .nil, .nil], [], places) :=
  ⟨[], by kernel_rfl⟩

set_option maxRecDepth 100000 in
theorem lifted (os : Os) (started : os.Started) (H : Type) (enc : TypeId × Value → H) (F : Stop.Interp) :
    ReturnsInHanded {} Tryz.checked os 5 .any ((Rows.OpenSpec.upto Rows.fnExactForgetsSpec).preRow enc Tryz.prog Tryz.f5 Rows.fnExactForgetsUptoRow.domain false Rows.fnExactForgetsUptoRow.laid) (((Rows.OpenSpec.upto Rows.fnExactForgetsSpec).at F).post enc Tryz.prog Tryz.f5 false true false false) := by
  obtain ⟨places, hx⟩ := reads os enc
  refine returnsInHanded_of_row (C := Tryz.checked) (s := Rows.OpenSpec.upto Rows.fnExactForgetsSpec) own started (by kernel_rfl) Tryz.func5
    (witness_row_at (enc := enc) (C := Tryz.checked) false (laidWorld os) #[Value.slice Option.none 0 0, Value.slice Option.none 0 0, Value.slice Option.none 0 0, Value.slice Option.none 0 0] rfl (by kernel_rfl) (by kernel_rfl) (by kernel_rfl)
      (OpenSpec.preRow_of_cond 8 hx (by kernel_rfl) (fun k hk => by cases hk; kernel_rfl) (by kernel_rfl) (laid_met os))) ?_
  intro W base args ds gs before hval hW _ hcond _ hL _ _
  exact contract H enc W base args ds gs before hval hW hL (hcond _ rfl)

theorem said : Rows.FnExactForgetsUptoSaid :=
  OpenClaim.holds_of_cond 5 Tryz.f5 rfl rfl rfl rfl rfl rfl rfl ⟨rfl, rfl, rfl, rfl, rfl⟩ rfl rfl rfl rfl rfl (by kernel_rfl) Tryz.func5 (by kernel_rfl)
    (of_decide_eq_true (by kernel_rfl)) (by unfold Func.isWrapper; first | (rw [if_pos (by decide +kernel)]; kernel_rfl) | (rw [if_neg (by decide +kernel)]; exact ⟨rfl, rfl⟩))
    (fun os started H enc _ F => by rw [OpenClaim.pre_eq_preRow]; exact lifted os started H enc F)

theorem plain (f : FuncId) (fn : Func) (hf : Tryz.pinned.checked.prog.funcNamed "loop.example/lib-g01090/laws.FnExactForgets" = some f) (hfn : Tryz.pinned.checked.prog.funcs[f]? = some fn) :
    true = Tryz.pinned.checked.prog.looks [] ∧ ∀ (j : Nat) t, fn.params[j]? = some t → Tryz.pinned.checked.prog.wantsStandIn t = false := by
  obtain rfl : f = 5 := Option.some.inj ((show Tryz.prog.funcNamed "loop.example/lib-g01090/laws.FnExactForgets" = some 5 by kernel_rfl).symm.trans hf) |>.symm
  obtain rfl : fn = Tryz.f5 := (Option.some.inj (Tryz.func5.symm.trans hfn)).symm
  refine ⟨by kernel_rfl, fun j t ht => ?_⟩
  rw [Tryz.params5] at ht
  obtain rfl : t = 22 := by simpa using Array.mem_of_getElem? ht
  exact (show Tryz.prog.wantsStandIn 22 = false by kernel_rfl)

theorem card : Rows.FnExactForgetsUptoCardSaid :=
  Claim7.holds_tied_plain_at .later [] _ _ _ _ said (fun _ h => by cases h) (by kernel_rfl) (fun _ h => by cases h) fnExactForgetsUpto_row_tie rfl ⟨rfl, rfl⟩ (by kernel_rfl) rfl plain (by kernel_rfl)
end Go.Proofs.YtpkgkppehefibaaGreatDoor.fnExactForgets
