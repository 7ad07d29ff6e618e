/- The contracts of the helpers and of impl's functions in one plain form: slices that are read from anywhere, worlds that only grow. -/
import Derived.Test.YtpkgkppehefibaaGreatDoorL2
import Derived.Test.YtpkgkppehefibaaGreatDoorE9
namespace Go.Proofs.YtpkgkppehefibaaGreatDoor
open Go.RowKit Sa

/-- nothing that was there has turned -/
def Le (w w' : World) : Prop := Below w.heap.size w w'
theorem Le.refl (w : World) : Le w w := Below.refl _ _
theorem Le.trans {w w1 w2 : World} (h : Le w w1) (k : Le w1 w2) : Le w w2 := Below.trans h (Below.mono k h.size)
theorem Le.drew (w : World) (q : Nat) : Le w (w.drewN q) := ⟨rfl, rfl, rfl, Nat.le_refl _, fun _ _ => rfl⟩
theorem MaxOk.le {w w' : World} (h : MaxOk w) (k : Le w w') : MaxOk w' := h.below k h.lt
/-- n cells read as f -/
def R0 (w : World) (A : Option Addr) (n : Nat) (f : Nat → Value) : Prop := Rd w 0 w.heap.size A n f
theorem R0.le {w w' : World} {A : Option Addr} {n : Nat} {f : Nat → Value} (h : R0 w A n f) (k : Le w w') : R0 w' A n f := (Rd.below h k (Nat.le_refl _)).mono (Nat.le_refl _) k.size
theorem R0.congr {w : World} {A : Option Addr} {n : Nat} {f f' : Nat → Value} (h : R0 w A n f) (e : ∀ i, i < n → f i = f' i) : R0 w A n f' := Rd.congr h e
theorem R0.zero {w : World} {A : Option Addr} {f : Nat → Value} : R0 w A 0 f := Rd.zero
theorem Wr.r0 {w : World} {A : Option Addr} {n lo : Nat} {f : Nat → Value} (h : Wr w lo w.heap.size A n f) : R0 w A n f := h.toRd.mono (Nat.zero_le _) (Nat.le_refl _)
/-- a slice of bytes -/
structure Bs (w : World) (A : Option Addr) (n c : Nat) (T : Nat → Nat) : Prop where
  rd : R0 w A n (bv T)
  lt : ∀ i, i < n → T i < 256
  nc : n ≤ c
  sm : n < 1073741824
/-- a slice of ints -/
structure Is (w : World) (A : Option Addr) (n c : Nat) (F : Nat → Int) : Prop where
  rd : R0 w A n (iv F)
  nc : n ≤ c
  sm : n < 1073741824
/-- a slice of bools -/
structure Ls (w : World) (A : Option Addr) (n c : Nat) (F : Nat → Bool) : Prop where
  rd : R0 w A n (lv F)
  nc : n ≤ c
  sm : n < 1073741824
section
variable {w w' : World} {A : Option Addr} {n c : Nat} {T : Nat → Nat} {F : Nat → Int} {G : Nat → Bool}
theorem Bs.le (h : Bs w A n c T) (k : Le w w') : Bs w' A n c T := ⟨h.rd.le k, h.lt, h.nc, h.sm⟩
theorem Is.le (h : Is w A n c F) (k : Le w w') : Is w' A n c F := ⟨h.rd.le k, h.nc, h.sm⟩
theorem Ls.le (h : Ls w A n c G) (k : Le w w') : Ls w' A n c G := ⟨h.rd.le k, h.nc, h.sm⟩
theorem Is.pre {k : Nat} (h : Is w A n c F) (hk : k ≤ n) : Is w A k c F := ⟨⟨fun h0 => by
  obtain ⟨g', o', e, h1, h2, h3⟩ := Rd.c h.rd (by omega)
  exact ⟨g', o', e, h1, h2, fun i hi => h3 i (by omega)⟩⟩, by have := h.nc; omega, by have := h.sm; omega⟩
/-- s[i:j] -/
theorem R0.part {f : Nat → Value} {g o : Nat} (h : R0 w (some ⟨g, o, none⟩) n f) (i j : Nat) (hj : j ≤ n) : R0 w (some ⟨g, o + i, none⟩) (j - i) (fun k => f (i + k)) := ⟨fun h0 => by
  obtain ⟨g', o', e, h1, h2, h3⟩ := Rd.c h (by omega)
  injection e with e; injection e with e1 e2; subst e1; subst e2
  exact ⟨_, _, rfl, h1, h2, fun k hk => by rw [Nat.add_assoc]; exact h3 (i + k) (by omega)⟩⟩
end
theorem HasSA.of {T S d : Nat → Nat} {n m r q k : Nat} {N : Int} (h : Looked T n S m N d r q k) : HasSA T n := ⟨d, h.sa⟩

section
variable {A : Option Addr} {n c : Nat} {T : Nat → Nat} {B : Option Addr} {m e : Nat} {S : Nat → Nat} {w : World}

theorem Copies.to {f : FuncId} (hf : Copies f) (h : Bs w A n c T) : Calls Tryz.prog f #[.slice A n c] w fun e w' => ∃ A' c', e = .returned (.slice A' n c') ∧ Bs w' A' n c' T ∧ Le w w' :=
  (hf A n c 0 w.heap.size T w h.sm (Nat.le_refl _) h.rd).mono fun _ _ ⟨A', c', he, h1, h2, h3⟩ => ⟨A', c', he, ⟨h2.r0, h.lt, h1, h.sm⟩, h3⟩
theorem copied0 (h : Bs w A n c T) : Calls Tryz.prog 19 #[.slice A n c] w fun e w' => ∃ A' c', e = .returned (.slice A' n c') ∧ Bs w' A' n c' T ∧ Le w w' := copied_any.to h
theorem kept0 (h : Bs w A n c T) : Calls Tryz.prog 35 #[.slice A n c] w fun e w' => ∃ A' c', e = .returned (.slice A' n c') ∧ Bs w' A' n c' T ∧ Le w w' := kept_any.to h
theorem tobyte0 (h : Bs w A n c T) : Calls Tryz.prog 10 #[.slice A n c] w fun e w' => ∃ A' c', e = .returned (.slice A' n c') ∧ Bs w' A' n c' T ∧ Le w w' := tobyte_any.to h
theorem lookup0 (h : Bs w A n c T) (h' : Bs w B m e S) (hg : MaxOk w) (N : Int) (hN1 : -9223372036854775808 ≤ N) (hN2 : N ≤ 9223372036854775807) :
    Calls Tryz.prog 27 #[.slice A n c, .slice B m e, .int .i64 N] w fun e w' => ∃ A' c', e = .returned (.slice A' (num T n S m N) c') ∧ HasSA T n ∧ Is w' A' (num T n S m N) c' (fun j => hit T n S m j) ∧ Le w w' :=
  (impllookup_any A n c 0 _ T B m e 0 _ S N w h.sm h'.sm (Nat.le_refl _) h.rd h.lt (Nat.le_refl _) h'.rd h'.lt hg hN1 hN2).mono fun _ _ ⟨d, r, q, k, hl, A', c', he, h1, h2, h3⟩ => by
    obtain ⟨k1, rfl, k3⟩ := hl.is
    exact ⟨A', c', he, k1, ⟨h2.r0.congr fun i hi => by unfold iv; simp only [k3 i hi], h1, by have := hl.kn; have := h.sm; omega⟩, h3⟩
theorem occurrences0 (h : Bs w A n c T) (h' : Bs w B m e S) :
    Calls Tryz.prog 39 #[.slice A n c, .slice B m e] w fun e w' => ∃ A' c', e = .returned (.slice A' (occ T n S m n) c') ∧ Le w w' :=
  occurrences_any A n c 0 _ T B m e 0 _ S w h.sm h'.sm (Nat.le_refl _) (Nat.le_refl _) h.rd h'.rd
theorem Le.of {w' : World} (h : ∃ q, w' = w.drewN q) : Le w w' := by obtain ⟨q, rfl⟩ := h; exact Le.drew w q
theorem sameInts0 {F G : Nat → Int} (h : Is w A n c F) (h' : Is w B m e G) :
    Calls Tryz.prog 28 #[.slice A n c, .slice B m e] w fun e w' => e = .returned (.bool (decide (n = m ∧ ∀ i, i < n → F i = G i))) ∧ Le w w' :=
  (sameInts_any A B n c m e 0 _ 0 _ F G w h.sm h'.sm h.rd h'.rd).mono fun _ _ ⟨h1, h2⟩ => ⟨h1, Le.of h2⟩
theorem cat_lt (h : ∀ i, i < n → T i < 256) (h' : ∀ i, i < m → S i < 256) : ∀ i, i < n + m → cat T n S i < 256 := fun i hi => by
  unfold cat; split
  · exact h i (by assumption)
  · exact h' _ (by omega)
end
end Go.Proofs.YtpkgkppehefibaaGreatDoor
