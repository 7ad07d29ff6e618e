/- impl.listed, IndexLookup, IndexLookupNil, IndexCount. -/
import Derived.Test.YtpkgkppehefibaaDoorE6
import Derived.Test.YtpkgkppehefibaaDoorE2
namespace Go.Proofs.YtpkgkppehefibaaDoor
open Go.RowKit Sa

theorem appendI (w : World) {lo hi' n : Nat} {A : Option Addr} {T : Nat → Int} (h : Rd w lo hi' A n (iv T)) (c : Nat) (hn : n < 1073741824) :
    ∃ A' c' w', (∀ ty, (Builtin.append_ #[26, 26] ty #[.slice none 0 0, .slice A n c]).run Tryd.prog w = .ok (.slice A' n c') w') ∧ n ≤ c' ∧ Wr w' w.heap.size w'.heap.size A' n (iv T) ∧ Below w.heap.size w w' := by
  obtain ⟨i0, hi, hz0, hz1, hz2⟩ := info_parts infoInt
  exact run_append_nil w _ _ i0 _ 8 Tryd.underlying26 hi hz0 hz1 hz2 rfl h c (fun _ _ => rfl) (by simp only [maxLen]; omega) (by omega)
theorem listed_any (A : Option Addr) (n c lo hi : Nat) (T : Nat → Int) (w : World) (hn : n < 1073741824) (h : Rd w lo hi A n (iv T)) :
    Calls Tryd.prog 24 #[.slice A n c] w fun e w' => ∃ A' c', e = .returned (.slice A' n c') ∧ n ≤ c' ∧ Wr w' w.heap.size w'.heap.size A' n (iv T) ∧ Below w.heap.size w w' := by
  obtain ⟨A', c', w1, hr, h1, h2, h3⟩ := appendI w h c hn
  have H2 := Lib.hid h2; have H3 := Lib.hid h3; have H1 := Lib.hid h1
  have HR := Lib.hid hr
  clear h h1 h2 h3 hr
  go_enter Tryd.func24, Tryd.ntmps24
  go_wp2_with (at_builtin; refine wpList_append_run rfl rfl rfl rfl HR.out ?_)
  go_ret
  exact ⟨A', c', rfl, H1.out, H2.out, H3.out⟩

/-- an index of a copy, looked up: what all of impl's functions begin with -/
structure Looked (T : Nat → Nat) (n : Nat) (S : Nat → Nat) (m : Nat) (N : Int) (d : Nat → Nat) (r q k : Nat) : Prop where
  sa : IsSA T n d
  fd : Found T n S m d N r q k
theorem Looked.kle {T S d : Nat → Nat} {n m r q k : Nat} {N : Int} (h : Looked T n S m N d r q k) : k ≤ q := by
  have := h.fd.k
  split at this <;> omega
theorem Looked.kn {T S d : Nat → Nat} {n m r q k : Nat} {N : Int} (h : Looked T n S m N d r q k) : k ≤ n := by
  have := h.kle; have := h.fd.le; omega

section
variable (A : Option Addr) (n c lo hi : Nat) (T : Nat → Nat) (B : Option Addr) (m e lo' hi' : Nat) (S : Nat → Nat) (N : Int) (w : World)

end
end Go.Proofs.YtpkgkppehefibaaDoor
