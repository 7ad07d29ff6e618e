/- The contracts of the helpers and of impl's functions in one plain form: slices that are read from anywhere, worlds that only grow. -/
import Derived.Test.YtpkgkppehefibaaDoorL2
import Derived.Test.YtpkgkppehefibaaDoorE9
namespace Go.Proofs.YtpkgkppehefibaaDoor
open Go.RowKit Sa

/-- nothing that was there has turned -/
def Le (w w' : World) : Prop := Below w.heap.size w w'
theorem Le.refl (w : World) : Le w w := Below.refl _ _
theorem Le.trans {w w1 w2 : World} (h : Le w w1) (k : Le w1 w2) : Le w w2 := Below.trans h (Below.mono k h.size)
theorem Le.drew (w : World) (q : Nat) : Le w (w.drewN q) := ⟨rfl, rfl, rfl, Nat.le_refl _, fun _ _ => rfl⟩
theorem MaxOk.le {w w' : World} (h : MaxOk w) (k : Le w w') : MaxOk w' := h.below k h.lt
/-- n cells read as f -/
def R0 (w : World) (A : Option Addr) (n : Nat) (f : Nat → Value) : Prop := Rd w 0 w.heap.size A n f
theorem R0.le {w w' : World} {A : Option Addr} {n : Nat} {f : Nat → Value} (h : R0 w A n f) (k : Le w w') : R0 w' A n f := (Rd.below h k (Nat.le_refl _)).mono (Nat.le_refl _) k.size
theorem R0.congr {w : World} {A : Option Addr} {n : Nat} {f f' : Nat → Value} (h : R0 w A n f) (e : ∀ i, i < n → f i = f' i) : R0 w A n f' := Rd.congr h e
theorem R0.zero {w : World} {A : Option Addr} {f : Nat → Value} : R0 w A 0 f := Rd.zero
theorem Wr.r0 {w : World} {A : Option Addr} {n lo : Nat} {f : Nat → Value} (h : Wr w lo w.heap.size A n f) : R0 w A n f := h.toRd.mono (Nat.zero_le _) (Nat.le_refl _)
/-- a slice of bytes -/
structure Bs (w : World) (A : Option Addr) (n c : Nat) (T : Nat → Nat) : Prop where
  rd : R0 w A n (bv T)
  lt : ∀ i, i < n → T i < 256
  nc : n ≤ c
  sm : n < 1073741824
/-- a slice of ints -/
structure Is (w : World) (A : Option Addr) (n c : Nat) (F : Nat → Int) : Prop where
  rd : R0 w A n (iv F)
  nc : n ≤ c
  sm : n < 1073741824
/-- a slice of bools -/
structure Ls (w : World) (A : Option Addr) (n c : Nat) (F : Nat → Bool) : Prop where
  rd : R0 w A n (lv F)
  nc : n ≤ c
  sm : n < 1073741824
section
variable {w w' : World} {A : Option Addr} {n c : Nat} {T : Nat → Nat} {F : Nat → Int} {G : Nat → Bool}
theorem Bs.le (h : Bs w A n c T) (k : Le w w') : Bs w' A n c T := ⟨h.rd.le k, h.lt, h.nc, h.sm⟩
theorem Is.le (h : Is w A n c F) (k : Le w w') : Is w' A n c F := ⟨h.rd.le k, h.nc, h.sm⟩
theorem Ls.le (h : Ls w A n c G) (k : Le w w') : Ls w' A n c G := ⟨h.rd.le k, h.nc, h.sm⟩
theorem Is.pre {k : Nat} (h : Is w A n c F) (hk : k ≤ n) : Is w A k c F := ⟨⟨fun h0 => by
  obtain ⟨g', o', e, h1, h2, h3⟩ := Rd.c h.rd (by omega)
  exact ⟨g', o', e, h1, h2, fun i hi => h3 i (by omega)⟩⟩, by have := h.nc; omega, by have := h.sm; omega⟩
/-- s[i:j] -/
theorem R0.part {f : Nat → Value} {g o : Nat} (h : R0 w (some ⟨g, o, none⟩) n f) (i j : Nat) (hj : j ≤ n) : R0 w (some ⟨g, o + i, none⟩) (j - i) (fun k => f (i + k)) := ⟨fun h0 => by
  obtain ⟨g', o', e, h1, h2, h3⟩ := Rd.c h (by omega)
  injection e with e; injection e with e1 e2; subst e1; subst e2
  exact ⟨_, _, rfl, h1, h2, fun k hk => by rw [Nat.add_assoc]; exact h3 (i + k) (by omega)⟩⟩
end
theorem HasSA.of {T S d : Nat → Nat} {n m r q k : Nat} {N : Int} (h : Looked T n S m N d r q k) : HasSA T n := ⟨d, h.sa⟩

section
variable {A : Option Addr} {n c : Nat} {T : Nat → Nat} {B : Option Addr} {m e : Nat} {S : Nat → Nat} {w : World}

theorem Copies.to {f : FuncId} (hf : Copies f) (h : Bs w A n c T) : Calls Tryd.prog f #[.slice A n c] w fun e w' => ∃ A' c', e = .returned (.slice A' n c') ∧ Bs w' A' n c' T ∧ Le w w' :=
  (hf A n c 0 w.heap.size T w h.sm (Nat.le_refl _) h.rd).mono fun _ _ ⟨A', c', he, h1, h2, h3⟩ => ⟨A', c', he, ⟨h2.r0, h.lt, h1, h.sm⟩, h3⟩
theorem copied0 (h : Bs w A n c T) : Calls Tryd.prog 12 #[.slice A n c] w fun e w' => ∃ A' c', e = .returned (.slice A' n c') ∧ Bs w' A' n c' T ∧ Le w w' := copied_any.to h
theorem kept0 (h : Bs w A n c T) : Calls Tryd.prog 23 #[.slice A n c] w fun e w' => ∃ A' c', e = .returned (.slice A' n c') ∧ Bs w' A' n c' T ∧ Le w w' := kept_any.to h
theorem tobyte0 (h : Bs w A n c T) : Calls Tryd.prog 15 #[.slice A n c] w fun e w' => ∃ A' c', e = .returned (.slice A' n c') ∧ Bs w' A' n c' T ∧ Le w w' := tobyte_any.to h
theorem Le.of {w' : World} (h : ∃ q, w' = w.drewN q) : Le w w' := by obtain ⟨q, rfl⟩ := h; exact Le.drew w q
theorem qHas0 {F : Nat → Int} (h : Is w A n c F) (v : Int) :
    Calls Tryd.prog 10 #[.slice A n c, .int .i64 v] w fun e w' => e = .returned (.bool (decide (∃ i, i < n ∧ F i = v))) ∧ Le w w' :=
  (qHas_any A n c 0 _ F v w h.sm h.rd).mono fun _ _ ⟨h1, h2⟩ => ⟨h1, Le.of h2⟩
theorem cat_lt (h : ∀ i, i < n → T i < 256) (h' : ∀ i, i < m → S i < 256) : ∀ i, i < n + m → cat T n S i < 256 := fun i hi => by
  unfold cat; split
  · exact h i (by assumption)
  · exact h' _ (by omega)
end
end Go.Proofs.YtpkgkppehefibaaDoor
