/- What Write writes of an index of New's; impl.IndexWritten. -/
import Derived.Test.YtpkgkppehefibaaGreatDoorW9
import Derived.Test.YtpkgkppehefibaaGreatDoorWD
namespace Go.Proofs.YtpkgkppehefibaaGreatDoor
open Go.RowKit Sa

/-- l bytes F are what Write writes of an index over n bytes T -/
def Written (T : Nat → Nat) (n l : Nat) (F : Nat → Nat) : Prop := ∃ d, IsSA T n d ∧ Wrote (10 + n) (cat (hd0 n) 10 T) (hd0 n) d n l F
theorem hd0_lt (n i : Nat) : hd0 n i < 256 := lay_lt (fun _ => by omega) _ _ _
section
variable {T F : Nat → Nat} {n l : Nat}
theorem Written.len (h : Written T n l F) (hn : n < 1073741824) : 10 + n ≤ l ∧ l ≤ 10 + n + 20 * n := by
  obtain ⟨d, hd, hw⟩ := h
  exact ⟨hw.old.1, hw.len fun j hj => by have := hd.lt j hj; omega⟩
theorem Written.lt (h : Written T n l F) (hT : ∀ i, i < n → T i < 256) : ∀ i, i < l → F i < 256 := by
  obtain ⟨d, hd, hw⟩ := h
  refine hw.lt (hd0_lt n) (fun i hi => ?_)
  unfold cat; split
  · exact hd0_lt n i
  · exact hT _ (by omega)
theorem Written.head (h : Written T n l F) (hn : n < 1073741824) : At F 0 (Lib.uvarint (Lib.zigzag (n : Int))) := by
  obtain ⟨d, hd, hw⟩ := h
  have hm := uvarint10 (Lib.zigzag (n : Int)) (by unfold Lib.zigzag; split <;> omega)
  intro j hj
  rw [Nat.zero_add, hw.old.2 j (by omega)]
  unfold cat; rw [if_pos (by omega)]
  have := lay_at (fun _ => 0) 0 (Lib.uvarint (Lib.zigzag (n : Int))) j hj
  rw [Nat.zero_add] at this; exact this
theorem Written.data (h : Written T n l F) : ∀ i, i < n → F (10 + i) = T i := fun i hi => by
  obtain ⟨d, hd, hw⟩ := h
  rw [hw.old.2 (10 + i) (by omega)]
  unfold cat; rw [if_neg (by omega)]; congr 1; omega
theorem Written.uniq {l' : Nat} {F' : Nat → Nat} (h : Written T n l F) (h' : Written T n l' F') : l = l' ∧ ∀ i, i < l → F i = F' i := by
  obtain ⟨d, hd, hw⟩ := h
  obtain ⟨d', hd', hw'⟩ := h'
  exact hw.uniq hw' (hd.uniq hd') (fun _ _ => rfl)
theorem Written.tells {T' : Nat → Nat} {n' l' : Nat} {F' : Nat → Nat} (h : Written T n l F) (h' : Written T' n' l' F') (hn : n < 1073741824) (hn' : n' < 1073741824) (he : l = l' ∧ ∀ i, i < l → F i = F' i) : n = n' ∧ ∀ i, i < n → T i = T' i := by
  obtain ⟨rfl, he⟩ := he
  have hl := (h.len hn).1
  have hl' := (h'.len hn').1
  have hm' := uvarint10 (Lib.zigzag (n' : Int)) (by unfold Lib.zigzag; split <;> omega)
  have e : n = n' := At.uniq (f := F) (o := 0) (by omega) (by omega) (h.head hn) ((h'.head hn').congr fun j hj => by rw [he _ (by omega)])
  subst e
  exact ⟨rfl, fun i hi => by rw [← h.data i hi, ← h'.data i hi, he _ (by omega)]⟩
end
theorem Kept.below {P : Nat → Prop} {w w' : World} (k : Kept P w w') {base : Nat} (hP : ∀ j, P j → base ≤ j) (hb : base ≤ w.heap.size) : Below base w w' :=
  ⟨k.os, k.tape, k.output, k.size, fun j hj => k.block j (by omega) (fun h => by have := hP j h; omega)⟩
theorem hd_zero (w : World) : Hd (w.alloc (.cells #[.slice none 0 0, .int .i64 0, .int .i8 0] 61)) w.heap.size (.slice none 0 0) 0 := ⟨0, heap_alloc_new w _⟩
theorem Buf.rd {w : World} {b g l of : Nat} {f : Nat → Nat} (h : Buf w b (some g) l f of) : Rd w g (g + 1) (some ⟨g, 0, none⟩) l (bv f) := by
  rcases h.c with ⟨h1, -⟩ | ⟨g', c, cur, hg, hgb, hd, hr, hcs, h1, h2, h3, h4⟩
  · cases h1
  · obtain rfl := Option.some.inj hg
    exact ⟨fun _ => ⟨g, 0, rfl, Nat.le_refl _, by omega, fun i hi => by rw [Nat.zero_add, Lib.cell_of_heap hr]; exact h4 i hi⟩⟩
end Go.Proofs.YtpkgkppehefibaaGreatDoor
