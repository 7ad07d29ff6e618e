/- suffixarray.writeSlice. -/
import Derived.Test.YtpkgkppehefibaaGreatDoorW5
namespace Go.Proofs.YtpkgkppehefibaaGreatDoor
open Go.RowKit Sa

/-- ints at an address: 32 bits wide -/
structure Ints (w : World) (p po : Nat) (bs os k c : Nat) (d : Nat → Nat) : Prop where
  c0 : w.cell? ⟨p, po, none⟩ = some (.slice (some ⟨bs, os, none⟩) k c)
  c1 : w.cell? ⟨p, po + 1, none⟩ = some (.slice none 0 0)
  sa : ∀ i, i < k → w.cell? ⟨bs, os + i, none⟩ = some (.int .i32 ((d i : Nat) : Int))
  dl : ∀ i, i < k → d i < 1073741824
  kl : k < 1073741824
  kc : k ≤ c
theorem Ints.drewN {w : World} {p po bs os k c : Nat} {d : Nat → Nat} (h : Ints w p po bs os k c d) (n : Nat) : Ints (w.drewN n) p po bs os k c d := ⟨h.c0, h.c1, h.sa, h.dl, h.kl, h.kc⟩
section
variable (p po bs os k c : Nat) (d : Nat → Nat) (w : World)
theorem get_at (h : Ints w p po bs os k c d) (i : Nat) (hk : i < k) :
    Calls Tryz.prog 63 #[.pointer (some ⟨p, po, none⟩), .int .i64 (i : Int)] w fun e w' => e = .returned (.int .i64 (d i : Nat)) ∧ ∃ q, w' = w.drewN q := by
  have h1 := h.c0; have h2 := h.c1; have hs := h.kl; have hd := h.sa i hk; have hd2 := h.dl i hk
  have hnn := fun w => run_neq_slice_nil_any (P := Tryz.prog) w 44 21 (some ⟨bs, os, none⟩) k c 0 0 Tryz.underlying44
  clear h
  go_enter Tryz.func63, Tryz.ntmps63
  go_wp2
  go_ret
  exact ⟨rfl, 0, rfl⟩
end
/-- the numbers before i, in varints -/
def enL (d : Nat → Nat) : Nat → List UInt8
  | 0 => []
  | i + 1 => enL d i ++ Lib.uvarint (d i)
theorem lay_lay (B : Nat → Nat) (o : Nat) (L M : List UInt8) : lay (lay B o L) (o + L.length) M = lay B o (L ++ M) := by
  funext i
  unfold lay
  rw [List.length_append]
  by_cases c1 : o + L.length ≤ i ∧ i < o + L.length + M.length
  · rw [if_pos c1, if_pos (by omega), List.getD_eq_getElem?_getD, List.getD_eq_getElem?_getD, List.getElem?_append_right (by omega), Nat.sub_sub]
  · rw [if_neg c1]
    by_cases c2 : o ≤ i ∧ i < o + L.length
    · rw [if_pos c2, if_pos (by omega), List.getD_eq_getElem?_getD, List.getD_eq_getElem?_getD, List.getElem?_append_left (by omega)]
    · rw [if_neg c2, if_neg (by omega)]
/-- i numbers of k go into one chunk -/
structure Chunk (d : Nat → Nat) (k i : Nat) : Prop where
  le : i ≤ k
  fit : ∀ j, j < i → (enL d j).length + 20 ≤ 16384
  stop : i = k ∨ 16384 < (enL d i).length + 20
end Go.Proofs.YtpkgkppehefibaaGreatDoor
