/- The laws' helpers over bytes: kept, copied, toByteS, eqByteS, markByteS, heldByteS. -/
import Derived.Test.YtihegdecaocbgaaDoorE1
namespace Go.Proofs.YtihegdecaocbgaaDoor
open Go.RowKit Sa

/-- what a function does that hands out a copy -/
def Copies (f : FuncId) : Prop := ∀ (A : Option Addr) (n c lo hi : Nat) (T : Nat → Nat) (w : World), n < 1073741824 → hi ≤ w.heap.size → Rd w lo hi A n (bv T) →
  Calls Tryd.prog f #[.slice A n c] w fun e w' => ∃ A' c', e = .returned (.slice A' n c') ∧ n ≤ c' ∧ Wr w' w.heap.size w'.heap.size A' n (bv T) ∧ Below w.heap.size w w'

theorem kept_any : Copies 23 := by
  intro A n c lo hi T w hn hh h
  obtain ⟨A', c', w1, hr, h1, h2, h3⟩ := append8 w h c hn
  have H2 := Lib.hid h2; have H3 := Lib.hid h3; have H1 := Lib.hid h1
  have HR := Lib.hid hr
  clear h h1 h2 h3 hr
  go_enter Tryd.func23, Tryd.ntmps23
  go_wp2_with (at_builtin; refine wpList_append_run rfl rfl rfl rfl HR.out ?_)
  go_ret
  exact ⟨A', c', rfl, H1.out, H2.out, H3.out⟩

/-- byte(k) -/
def mk (k : Nat) : Nat := k % 256
end Go.Proofs.YtihegdecaocbgaaDoor
