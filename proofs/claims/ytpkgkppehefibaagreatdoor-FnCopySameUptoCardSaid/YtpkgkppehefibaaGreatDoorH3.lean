/- Rows of slices: lists of byte strings, lists of lists of ints. -/
import Derived.Test.YtpkgkppehefibaaGreatDoorH2
namespace Go.Proofs.YtpkgkppehefibaaGreatDoor
open Go.RowKit Sa

/-- a slice does not lie in the block of a row that may grow -/
def FarR (v : Value) (A : Option Addr) (n : Nat) : Prop := 0 < n → ∀ g o, A = some ⟨g, o, none⟩ → v.ownBlock ≠ some g
/-- a new slice is far from an older row -/
theorem FarR.new {w : World} {base : Nat} {ty : TypeId} {v : Value} {m : Nat} {xs : List Value} (hown : w.ownsRow base ty 1 v m xs) {w' : World} {hi n : Nat} {A : Option Addr} {f : Nat → Value} (h : Rd w' w.heap.size hi A n f) : FarR v A n := fun hn g o e hv => by
  obtain ⟨g', o', e', h1, _, _⟩ := h.c hn
  rw [e] at e'; injection e' with e'; injection e' with e1 e2
  subst e1
  have := (hown.lt g hv).2
  omega
/-- .. and an older slice from a row that begins behind it -/
theorem FarR.old {w : World} {base : Nat} {ty : TypeId} {v : Value} {m : Nat} {xs : List Value} (hown : w.ownsRow base ty 1 v m xs) {w' : World} {lo n : Nat} {A : Option Addr} {f : Nat → Value} (h : Rd w' lo base A n f) : FarR v A n := fun hn g o e hv => by
  obtain ⟨g', o', e', _, h2, _⟩ := h.c hn
  rw [e] at e'; injection e' with e'; injection e' with e1 e2
  subst e1
  have := (hown.lt g hv).1
  omega
theorem FarR.nil {A : Option Addr} {n : Nat} : FarR (.slice none 0 0) A n := fun _ _ _ _ h => by simp [Value.ownBlock] at h
/-- x is appended to a row of the call's own: what is far from it stays -/
theorem addRow {ty e : TypeId} {i : TypeInfo} {z : Value} {bytes : Nat} (ht : Tryz.prog.underlying ty = some (.slice e)) (hi : Tryz.prog.info? e = some i) (hz : i.zero = some z) (hsize : i.size = 1) (hby : i.bytes = bytes) (hzs : z.cells.size = 1) (hbb : bytes ≤ 24)
    (w : World) (base : Nat) (v : Value) (m : Nat) (xs : List Value) (hown : w.ownsRow base e 1 v m xs) (hm : m < 1073741823) (hbase : base ≤ w.heap.size) (x : Value) (hx : x.oneCell' = true) :
    ∃ v' w', (∀ ty', (Builtin.append_ #[ty, ty] ty' #[v, .slice (some ⟨w.heap.size, 0, none⟩) 1 1]).run Tryz.prog (w.alloc (.cells #[x] e)) = .ok v' w') ∧ w'.ownsRow base e 1 v' (m + 1) (xs ++ [x]) ∧ Below base w w' ∧
      ∀ lo A n f, Rd w lo w.heap.size A n f → FarR v A n → Rd w' lo w'.heap.size A n f ∧ FarR v' A n := by
  have hrd : Rd (w.alloc (.cells #[x] e)) 0 (w.heap.size + 1) (some ⟨w.heap.size, 0, none⟩) 1 (fun _ => x) := ⟨fun _ => ⟨_, 0, rfl, Nat.zero_le _, by omega, fun i hi => by
    obtain rfl : i = 0 := by omega
    rw [World.cell?_alloc_at _ _ _ _ rfl]; rfl⟩⟩
  obtain ⟨v', w', h1, h2, h3, h4⟩ := run_append_row (P := Tryz.prog) (w.alloc (.cells #[x] e)) base ty e i z bytes ht hi hz hsize hby hzs v m xs (hown.alloc _) hrd 1 (fun _ _ => hx) (by simp only [maxLen]; omega) (Nat.le_trans (Nat.mul_le_mul_left _ hbb) (by omega)) (by simp; omega)
  refine ⟨v', w', h1, h2, ((Below.refl _ _).alloc hbase _).grown h3 (by simp; omega) (fun k hk => (hown.lt k hk).1), fun lo A n f hA hF => ⟨⟨fun hn => ?_⟩, fun hn g o e hv => ?_⟩⟩
  · obtain ⟨g, o, rfl, h5, h6, h7⟩ := Rd.c hA hn
    have hsz := h3.size
    simp at hsz
    refine ⟨g, o, rfl, h5, by omega, fun i hi => ?_⟩
    rw [h3.cell_far ⟨g, o + i, none⟩ (by simp; omega) (fun h => hF hn g o rfl h.symm), World.cell?_alloc_past _ _ _ (by simpa using h6)]
    exact h7 i hi
  · subst e
    obtain ⟨g', o', e', _, h6, _⟩ := Rd.c hA hn
    injection e' with e'; injection e' with e1 e2
    subst e1
    rcases h4 with h4 | h4
    · rw [h4] at hv; exact hF hn g o rfl hv
    · rw [h4] at hv; simp at hv; omega

/-- a list of byte strings -/
structure Bss (w : World) (A : Option Addr) (n c : Nat) (B : Nat → Option Addr) (m e : Nat → Nat) (S : Nat → Nat → Nat) : Prop where
  rd : R0 w A n (fun j => .slice (B j) (m j) (e j))
  el : ∀ j, j < n → Bs w (B j) (m j) (e j) (S j)
  nc : n ≤ c
  sm : n < 1073741824
/-- a list of lists of ints, from block lo on -/
structure Iss (w : World) (lo : Nat) (A : Option Addr) (n c : Nat) (B : Nat → Option Addr) (m e : Nat → Nat) (F : Nat → Nat → Int) : Prop where
  rd : Rd w lo w.heap.size A n (fun j => .slice (B j) (m j) (e j))
  el : ∀ j, j < n → Rd w lo w.heap.size (B j) (m j) (iv (F j)) ∧ m j ≤ e j ∧ m j < 1073741824
  nc : n ≤ c
  sm : n < 1073741824
theorem Bss.le {w w' : World} {A : Option Addr} {n c : Nat} {B : Nat → Option Addr} {m e : Nat → Nat} {S : Nat → Nat → Nat} (h : Bss w A n c B m e S) (k : Le w w') : Bss w' A n c B m e S := ⟨h.rd.le k, fun j hj => (h.el j hj).le k, h.nc, h.sm⟩
theorem Rd.le1 {w w' : World} {lo n : Nat} {A : Option Addr} {f : Nat → Value} (h : Rd w lo w.heap.size A n f) (k : Le w w') : Rd w' lo w'.heap.size A n f := (h.below k (Nat.le_refl _)).mono (Nat.le_refl _) k.size
theorem Iss.le {w w' : World} {lo : Nat} {A : Option Addr} {n c : Nat} {B : Nat → Option Addr} {m e : Nat → Nat} {F : Nat → Nat → Int} (h : Iss w lo A n c B m e F) (k : Le w w') : Iss w' lo A n c B m e F := ⟨h.rd.le1 k, fun j hj => ⟨(h.el j hj).1.le1 k, (h.el j hj).2⟩, h.nc, h.sm⟩
theorem Iss.is {w : World} {lo : Nat} {A : Option Addr} {n c : Nat} {B : Nat → Option Addr} {m e : Nat → Nat} {F : Nat → Nat → Int} (h : Iss w lo A n c B m e F) {j : Nat} (hj : j < n) : Is w (B j) (m j) (e j) (F j) := ⟨(h.el j hj).1.mono (Nat.zero_le _) (Nat.le_refl _), (h.el j hj).2.1, (h.el j hj).2.2⟩
theorem map_range {f : Nat → Value} {t : Nat} : ∀ i u, ((List.range t).map f)[i]? = some u → f i = u := fun i u hu => by
  simp only [List.getElem?_map] at hu
  rcases Nat.lt_or_ge i t with c | c
  · rw [List.getElem?_range c] at hu; exact Option.some.inj hu
  · rw [List.getElem?_eq_none (by simpa using c)] at hu; cases hu
theorem map_snoc {f : Nat → Value} {t : Nat} {x : Value} : (List.range t).map f ++ [x] = (List.range (t + 1)).map (fun j => if j = t then x else f j) := by
  rw [List.range_succ, List.map_append, List.map_singleton, if_pos rfl]
  congr 1
  exact List.map_congr_left fun j hj => by rw [if_neg (by have := List.mem_range.1 hj; omega)]
end Go.Proofs.YtpkgkppehefibaaGreatDoor
