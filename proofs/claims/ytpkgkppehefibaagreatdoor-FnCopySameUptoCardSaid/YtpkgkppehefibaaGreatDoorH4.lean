/- impl.IndexMany, IndexManyCounts; copies; sameIndices. -/
import Derived.Test.YtpkgkppehefibaaGreatDoorH3
namespace Go.Proofs.YtpkgkppehefibaaGreatDoor
open Go.RowKit Sa

/-- a row of the call's own in a world that has grown -/
theorem own_le {w w' : World} {base : Nat} {ty : TypeId} {v : Value} {m : Nat} {xs : List Value} (h : w.ownsRow base ty 1 v m xs) (k : Le w w') : w'.ownsRow base ty 1 v m xs := by
  refine ⟨h.1, ?_⟩
  rcases h.2 with h2 | ⟨g, cap, cur, e, h3, h4, h5⟩
  · exact .inl h2
  · refine .inr ⟨g, cap, cur, e, h3, ?_, h5⟩
    have hlt : g < w.heap.size := by
      rcases Nat.lt_or_ge g w.heap.size with c | c
      · exact c
      · rw [Array.getElem?_eq_none c] at h4; cases h4
    rw [k.block g hlt]; exact h4
theorem infoSI : (Tryz.prog.info? 37).map (fun i => (i.zero, i.size, i.bytes)) = some (some (.slice none 0 0), 1, 24) := by kernel_rfl
theorem infoSB : (Tryz.prog.info? 22).map (fun i => (i.zero, i.size, i.bytes)) = some (some (.slice none 0 0), 1, 24) := by kernel_rfl
/-- A ROW OF SLICES THAT GROWS, its elements with it: t slices, read as f -/
structure Rows1 (w : World) (lo C : Nat) (ty : TypeId) (v : Value) (t : Nat) (B : Nat → Option Addr) (m e : Nat → Nat) (f : Nat → Nat → Value) : Prop where
  own : w.ownsRow C ty 1 v t ((List.range t).map fun j => .slice (B j) (m j) (e j))
  el : ∀ j, j < t → Rd w lo w.heap.size (B j) (m j) (f j) ∧ FarR v (B j) (m j) ∧ m j ≤ e j
theorem Rows1.le {w w' : World} {lo C : Nat} {ty : TypeId} {v : Value} {t : Nat} {B : Nat → Option Addr} {m e : Nat → Nat} {f : Nat → Nat → Value} (h : Rows1 w lo C ty v t B m e f) (k : Le w w') : Rows1 w' lo C ty v t B m e f :=
  ⟨own_le h.own k, fun j hj => ⟨(h.el j hj).1.le1 k, (h.el j hj).2⟩⟩
theorem Rows1.nil {w : World} {lo C : Nat} {ty : TypeId} {B : Nat → Option Addr} {m e : Nat → Nat} {f : Nat → Nat → Value} : Rows1 w lo C ty (.slice none 0 0) 0 B m e f := ⟨nil_own w _ _, fun j hj => by omega⟩
/-- one slice more -/
theorem Rows1.snoc {w w' : World} {lo C : Nat} {ty : TypeId} {v v' : Value} {t : Nat} {B : Nat → Option Addr} {m e : Nat → Nat} {f : Nat → Nat → Value} {A : Option Addr} {k c : Nat} (h : Rows1 w lo C ty v t B m e f)
    (ho : w'.ownsRow C ty 1 v' (t + 1) (((List.range t).map fun j => .slice (B j) (m j) (e j)) ++ [.slice A k c])) (hk : ∀ lo A n f, Rd w lo w.heap.size A n f → FarR v A n → Rd w' lo w'.heap.size A n f ∧ FarR v' A n) (hA : Rd w lo w.heap.size A k (f t)) (hF : FarR v A k) (hm : m t = k) (hc : k ≤ c) :
    Rows1 w' lo C ty v' (t + 1) (fun j => if j = t then A else B j) m (fun j => if j = t then c else e j) f := by
  constructor
  · rw [map_snoc] at ho
    have : ((List.range (t + 1)).map fun j => if j = t then Value.slice A k c else .slice (B j) (m j) (e j)) = (List.range (t + 1)).map fun j => .slice (if j = t then A else B j) (m j) (if j = t then c else e j) :=
      List.map_congr_left fun j _ => by
        by_cases c : j = t
        · simp only [if_pos c]; rw [c, hm]
        · simp only [if_neg c]
    rw [this] at ho
    exact ho
  · intro j hj
    by_cases c' : j = t
    · subst c'
      simp only [if_true]
      rw [hm]
      obtain ⟨h1, h2⟩ := hk _ _ _ _ hA hF
      exact ⟨h1, h2, hc⟩
    · simp only [if_neg c']
      obtain ⟨h1, h2, h3⟩ := h.el j (by omega)
      obtain ⟨h4, h5⟩ := hk _ _ _ _ h1 h2
      exact ⟨h4, h5, h3⟩

/-- how often v is in a list -/
def cntI (F : Nat → Int) (v : Int) (n : Nat) : Nat := cn (fun i => F i == v) n
set_option maxRecDepth 100000 in
theorem countInt_any (A : Option Addr) (n c lo hi : Nat) (F : Nat → Int) (v : Int) (w : World) (hn : n < 1073741824) (hA : Rd w lo hi A n (iv F)) :
    Calls Tryz.prog 38 #[.slice A n c, .int .i64 v] w fun e w' => e = .returned (.int .i64 (cntI F v n : Nat)) ∧ ∃ nq, w' = w.drewN nq := by
  have H1 := Lib.hid hA
  clear hA
  go_enter Tryz.func38, Tryz.ntmps38
  go_wp2
  go_loopg [5, 10] (n + 1) (fun gk nv i wr => (∃ k : Nat, k ≤ n ∧ i = .int .i64 k ∧ nv = .int .i64 (cntI F v k : Nat) ∧ wr = w) ∧ n - (intOf i).toNat < gk)
  case atStart => exact ⟨⟨0, by omega, rfl, rfl, rfl⟩, by simp [intOf]⟩
  case round =>
    obtain ⟨⟨k, hk, rfl, rfl, rfl⟩, hgk⟩ := hrel
    simp only [intOf, Int.toNat_natCast] at hgk
    have hcn : cntI F v k ≤ k := cn_le _ _
    by_cases hlt : k < n
    · obtain ⟨g, o, rfl, _, _, hg3⟩ := H1.out.c (by omega)
      have hc1 := hg3 k hlt
      unfold iv at hc1
      clear hg3 H1
      cases hF : F k == v with
      | true =>
        have hs : cntI F v (k + 1) = cntI F v k + 1 := by simp [cntI, cn, hF]
        have HS := Lib.hid hs
        clear hs
        generalize cntI F v k = x at *
        go_wp2
        go_roundg (n - (k + 1) + 1)
        case rel => exact ⟨⟨k + 1, by omega, by go_num, by rw [HS.out]; go_num, rfl⟩, by simp only [intOf]; omega⟩
        case measure => omega
      | false =>
        have hs : cntI F v (k + 1) = cntI F v k := by simp [cntI, cn, hF]
        have HS := Lib.hid hs
        clear hs
        go_wp2
        go_roundg (n - (k + 1) + 1)
        case rel => exact ⟨⟨k + 1, by omega, by go_num, by rw [HS.out], rfl⟩, by simp only [intOf]; omega⟩
        case measure => omega
    · obtain rfl : k = n := by omega
      go_wp2
      go_ret
      exact ⟨rfl, 0, rfl⟩
set_option maxRecDepth 100000 in
/-- sameIndices of a list and a like one -/
theorem sameIndices0 {A B : Option Addr} {n c e : Nat} {F : Nat → Int} {w : World} (h : Is w A n c F) (h' : Is w B n e F) :
    Calls Tryz.prog 26 #[.slice A n c, .slice B n e] w fun e w' => e = .returned (.bool true) ∧ Le w w' := by
  have H1 := Lib.hid h; have H2 := Lib.hid h'
  have hn := h.sm
  clear h h'
  go_enter Tryz.func26, Tryz.ntmps26
  go_wp2_with fail
  go_loopg [14] (n + 1) (fun gk i wr => (∃ k : Nat, k ≤ n ∧ i = .int .i64 k ∧ Le w wr) ∧ n - (intOf i).toNat < gk)
  case atStart => exact ⟨⟨0, by omega, rfl, Le.refl _⟩, by simp [intOf]⟩
  case round =>
    obtain ⟨⟨k, hk, rfl, hl⟩, hgk⟩ := hrel
    simp only [intOf, Int.toNat_natCast] at hgk
    have HL := Lib.hid hl
    clear hl
    by_cases hlt : k < n
    · obtain ⟨g, o, rfl, _, _, hg3⟩ := Rd.c (H1.out.le HL.out).rd (by omega)
      have hc1 := hg3 k hlt
      unfold iv at hc1
      clear hg3
      go_wp2_with fail
      refine (countInt_any _ n c _ _ F (F k) wr hn (H1.out.le HL.out).rd).mono ?_
      rintro _ w1 ⟨rfl, hq⟩
      replace HL := Lib.hid (HL.out.trans (Le.of hq))
      clear hq
      go_wp2_with fail
      refine (countInt_any _ n e _ _ F (F k) w1 hn (H2.out.le HL.out).rd).mono ?_
      rintro _ w2 ⟨rfl, hq⟩
      replace HL := Lib.hid (HL.out.trans (Le.of hq))
      clear hq
      go_wp2
      go_roundg (n - (k + 1) + 1)
      case rel => exact ⟨⟨k + 1, by omega, by go_num, HL.out⟩, by simp only [intOf]; omega⟩
      case measure => omega
    · obtain rfl : k = n := by omega
      go_wp2
      go_ret
      exact ⟨rfl, HL.out⟩
end Go.Proofs.YtpkgkppehefibaaGreatDoor
