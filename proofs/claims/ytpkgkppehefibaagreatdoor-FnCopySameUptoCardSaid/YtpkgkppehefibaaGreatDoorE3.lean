/- The index read: len, get, slice, at; bytes.Compare, HasPrefix. -/
import Derived.Test.YtpkgkppehefibaaGreatDoorE1
import Derived.Test.YtpkgkppehefibaaGreatDoorL1
import Derived.Handy
import Derived.Lib.BytesEntry
import Derived.Laws.BytesArg
namespace Go.Proofs.YtpkgkppehefibaaGreatDoor
open Go.RowKit Sa

theorem Ix.drewN {w : World} {ix n ct bs os cs : Nat} {A : Option Addr} {d : Nat → Nat} (h : Ix w ix A n ct bs os cs d) (k : Nat) : Ix (w.drewN k) ix A n ct bs os cs d := ⟨h.c0, h.c1, h.c2, h.sa, h.dl, h.cs, h.ct, h.sm⟩
theorem drewN0 (w : World) : w = w.drewN 0 := rfl
section
variable (ix n ct bs os cs : Nat) (A : Option Addr) (d : Nat → Nat) (w : World)
theorem len_any (h : Ix w ix A n ct bs os cs d) :
    Calls Tryz.prog 43 #[.pointer (some ⟨ix, 1, none⟩)] w fun e w' => e = .returned (.int .i64 (n : Int)) ∧ ∃ q, w' = w.drewN q := by
  have h1 := h.c1; have h2 := h.c2; have hs := h.sm
  clear h
  go_enter Tryz.func43, Tryz.ntmps43
  go_wp2
  go_quiet (fail)
  go_wp2
  go_ret
  exact ⟨rfl, nq, rfl⟩
theorem get_any (h : Ix w ix A n ct bs os cs d) (k : Nat) (hk : k < n) :
    Calls Tryz.prog 63 #[.pointer (some ⟨ix, 1, none⟩), .int .i64 (k : Int)] w fun e w' => e = .returned (.int .i64 (d k : Nat)) ∧ ∃ q, w' = w.drewN q := by
  have h1 := h.c1; have h2 := h.c2; have hs := h.sm; have hd := h.sa k hk; have hdl := h.dl k hk
  have hd2 : d k < 1073741824 := by omega
  have hnn := fun w => run_neq_slice_nil_any (P := Tryz.prog) w 44 21 (some ⟨bs, os, none⟩) n cs 0 0 Tryz.underlying44
  clear h
  go_enter Tryz.func63, Tryz.ntmps63
  go_wp2
  go_ret
  exact ⟨rfl, 0, rfl⟩
theorem at_any (g o : Nat) (h : Ix w ix (some ⟨g, o, none⟩) n ct bs os cs d) (k : Nat) (hk : k < n) :
    Calls Tryz.prog 56 #[.pointer (some ⟨ix, 0, none⟩), .int .i64 (k : Int)] w fun e w' => e = .returned (.slice (some ⟨g, o + d k, none⟩) (n - d k) (ct - d k)) ∧ ∃ q, w' = w.drewN q := by
  have h0 := h.c0; have hdl := h.dl k hk; have hct := h.ct
  have hcap : ¬ ct = d k := by omega
  have HI := Lib.hid h
  clear h
  go_enter Tryz.func56, Tryz.ntmps56
  go_wp2
  go_quiet (refine Calls.quiet_of (get_any ix n ct bs os cs _ d _ (HI.out.drewN _) k hk))
  go_wp2
  go_ret
  exact ⟨rfl, nq, rfl⟩
theorem slice_any (h : Ix w ix A n ct bs os cs d) (i j : Nat) (hij : i ≤ j) (hj : j ≤ n) :
    Calls Tryz.prog 49 #[.pointer (some ⟨ix, 1, none⟩), .int .i64 (i : Int), .int .i64 (j : Int)] w fun e w' =>
      ∃ o', e = .returned (.agg #[.slice (some ⟨bs, o', none⟩) (j - i) (cs - i), .slice none 0 0]) ∧ (i < j → o' = os + i) ∧ Below w.heap.size w w' := by
  have h1 := h.c1; have h2 := h.c2; have hs := h.sm; have hcs := h.cs
  have hnn := fun w => run_neq_slice_nil_any (P := Tryz.prog) w 44 21 (some ⟨bs, os, none⟩) n cs 0 0 Tryz.underlying44
  have hb := cell_lt h1
  have h1a : ∀ ob, (w.alloc ob).cell? ⟨ix, 1, none⟩ = some (.slice (some ⟨bs, os, none⟩) n cs) := fun ob => by rw [World.cell?_alloc_past _ _ _ hb]; exact h1
  have h2a : ∀ ob, (w.alloc ob).cell? ⟨ix, 2, none⟩ = some (.slice none 0 0) := fun ob => by rw [World.cell?_alloc_past _ _ _ hb]; exact h2
  clear h h1 h2
  by_cases hci : cs = i
  · obtain rfl : j = n := by omega
    obtain rfl : i = j := by omega
    subst hci
    go_enter Tryz.func49, Tryz.ntmps49
    go_wp2
    go_returns
    exact ⟨os, by simp, fun h => by omega, (Below.refl _ _).alloc (Nat.le_refl _) _⟩
  · go_enter Tryz.func49, Tryz.ntmps49
    go_wp2
    go_returns
    exact ⟨_, rfl, fun _ => rfl, (Below.refl _ _).alloc (Nat.le_refl _) _⟩
end

/-- the bytes of a stretch -/
def bytesL (T : Nat → Nat) (n : Nat) : List Int := (List.range n).map fun i => ((T i : Nat) : Int)
theorem bytesL_len (T : Nat → Nat) (n : Nat) : (bytesL T n).length = n := by simp [bytesL]
theorem bytesL_get {T : Nat → Nat} {n i : Nat} (h : i < n) : (bytesL T n)[i]? = some ((T i : Nat) : Int) := by
  unfold bytesL; rw [List.getElem?_map, List.getElem?_range h]; rfl
theorem bytesOf_suf {T : Nat → Nat} {n : Nat} : ∀ p, Lib.bytesOf (bytesL (fun i => T (p + i)) (n - p)) = u8s (suf T n p) := by
  intro p
  apply List.ext_getElem?
  intro i
  unfold Lib.bytesOf u8s
  rw [List.getElem?_map, List.getElem?_map]
  rcases Nat.lt_or_ge i (n - p) with h | h
  · rw [bytesL_get h, get_suf h]; simp
  · rw [List.getElem?_eq_none (by rw [bytesL_len]; exact h), List.getElem?_eq_none (by rw [len_suf]; exact h)]; rfl
/-- what the model's entry reads off a slice -/
theorem run_bytesOf {w : World} {lo hi n : Nat} {A : Option Addr} {T : Nat → Nat} (h : Rd w lo hi A n (bv T)) (c : Nat) : (Extern.Bytes.bytesOf (.slice A n c)).run Tryz.prog w = .ok ⟨(Lib.bytesOf (bytesL T n)).toArray⟩ w := by
  rcases A with _ | ad
  · have hn : n = 0 := by
      rcases Nat.eq_zero_or_pos n with h0 | h0
      · exact h0
      · obtain ⟨g, o, e, _⟩ := h.c h0; cases e
    subst hn; rfl
  · have hl := Lib.run_loadBytesX (P := Tryz.prog) w (bytesL T n) ad .empty (fun j x hj => by
      have hjn : j < n := by have := (List.getElem?_eq_some_iff.1 hj).1; rwa [bytesL_len] at this
      obtain ⟨g, o, e, _, _, hc⟩ := h.c (by omega)
      injection e with e; subst e
      rw [bytesL_get hjn] at hj
      obtain rfl := Option.some.inj hj
      rw [Addr.add_lit]
      exact hc j hjn)
    rw [bytesL_len] at hl
    have he : (⟨ByteArray.empty.data ++ (Lib.bytesOf (bytesL T n)).toArray⟩ : ByteArray) = ⟨(Lib.bytesOf (bytesL T n)).toArray⟩ := by
      apply ByteArray.ext
      show (#[] : Array UInt8) ++ (Lib.bytesOf (bytesL T n)).toArray = (Lib.bytesOf (bytesL T n)).toArray
      simp
    rw [he] at hl
    exact hl
theorem run_compare {w : World} {lo hi n lo' hi' m : Nat} {A B : Option Addr} {T S : Nat → Nat} (hA : Rd w lo hi A n (bv T)) (hB : Rd w lo' hi' B m (bv S)) (c e : Nat) :
    (Extern.BytealgCompare.compare #[.slice A n c, .slice B m e]).run Tryz.prog w = .ok (.int .i64 (Lib.compareBytes (Lib.bytesOf (bytesL T n)) (Lib.bytesOf (bytesL S m)))) w := by
  change Sem.run Tryz.prog (do pure (goInt (Extern.BytealgCompare.cmp (← Extern.Bytes.bytesOf (.slice A n c)) (← Extern.Bytes.bytesOf (.slice B m e))))) w = _
  simp only [Sem.run_bind, Sem.run_pure, run_bytesOf hA, run_bytesOf hB, Result.andThen]
  rw [Lib.cmp_eq]
  rfl
set_option maxRecDepth 100000 in
/-- bytes.Compare -/
theorem compare_any {lo hi n lo' hi' m : Nat} {A B : Option Addr} {T S : Nat → Nat} (c e : Nat) (w : World) (hA : Rd w lo hi A n (bv T)) (hB : Rd w lo' hi' B m (bv S)) :
    Calls Tryz.prog 55 #[.slice A n c, .slice B m e] w fun e w' => e = .returned (.int .i64 (Lib.compareBytes (Lib.bytesOf (bytesL T n)) (Lib.bytesOf (bytesL S m)))) ∧ ∃ q, w' = w.drewN q := by
  have hr := run_compare hA hB c e
  have HR := Lib.hid hr
  clear hA hB hr
  go_enter Tryz.func55, Tryz.ntmps55
  go_wp2
  rw [run_callFunc_extern Tryz.func68 (by kernel_rfl) (by kernel_rfl) (by kernel_rfl) (e := Extern.BytealgCompare.compare) (by kernel_rfl), HR.out]
  simp only [Result.andThen]
  rw [Oper.upon_value]
  go_wp2
  go_ret
  exact ⟨rfl, 0, rfl⟩
end Go.Proofs.YtpkgkppehefibaaGreatDoor
