/- bytes.Equal, HasPrefix; the two closures of lookupAll; sort.Search. -/
import Derived.Test.YtpkgkppehefibaaGreatDoorE3
namespace Go.Proofs.YtpkgkppehefibaaGreatDoor
open Go.RowKit Sa

set_option maxRecDepth 100000 in
theorem run_str {w : World} {lo hi n : Nat} {A : Option Addr} {T : Nat → Nat} (h : Rd w lo hi A n (bv T)) (c : Nat) : (convert 22 9 (.slice A n c)).run Tryz.prog w = .ok (.string (strOfNums (bytesL T n))) w := by
  rcases A with _ | ad
  · have hn : n = 0 := by
      rcases Nat.eq_zero_or_pos n with h0 | h0
      · exact h0
      · obtain ⟨g, o, e, _⟩ := h.c h0; cases e
    subst hn
    exact run_convert_bytes_nil w _ _ Tryz.underlying22 Tryz.underlying5 _ _ _ Tryz.underlying9
  · rcases Nat.eq_zero_or_pos n with h0 | h0
    · subst h0
      have : (convert 22 9 (.slice (some ad) 0 c)).run Tryz.prog w = .ok (.string ByteArray.empty) w := by
        rw [run_convert_bytes_string w 22 9 5 (some ad) 0 c Tryz.underlying22 Tryz.underlying5 Tryz.underlying9]
        rfl
      exact this
    · obtain ⟨g, o, e, _, _, hc⟩ := h.c h0
      injection e with e; subst e
      exact run_convert_bytes_arg w _ _ Tryz.underlying22 Tryz.underlying5 g o n c (bytesL T n) (bytesL_len _ _) (fun i hi => by
        rw [List.getD_eq_getElem?_getD, bytesL_get hi]; exact hc i hi) _ Tryz.underlying9
theorem str_eq {T S : Nat → Nat} {n : Nat} (hT : ∀ i, i < n → T i < 256) (hS : ∀ i, i < n → S i < 256) : (((strOfNums (bytesL T n)).toList == (strOfNums (bytesL S n)).toList) : Bool) = decide (∀ i, i < n → T i = S i) := by
  rw [Lib.strOfNums_toList, Lib.strOfNums_toList]
  have key : Lib.bytesOf (bytesL T n) = Lib.bytesOf (bytesL S n) ↔ ∀ i, i < n → T i = S i := by
    constructor
    · intro h i hi
      have h1 := congrArg (fun b : List UInt8 => b[i]?) h
      simp only [Lib.bytesOf, List.getElem?_map, bytesL_get hi] at h1
      have h2 := Option.some.inj h1
      have h3 := congrArg UInt8.toNat h2
      simp only [Int.toNat_natCast, UInt8.toNat_ofNat', Nat.mod_eq_of_lt (hT i hi), Nat.mod_eq_of_lt (hS i hi)] at h3
      exact h3
    · intro h
      have : bytesL T n = bytesL S n := by
        unfold bytesL
        exact List.map_congr_left fun i hi => by rw [h i (List.mem_range.1 hi)]
      rw [this]
  by_cases h : ∀ i, i < n → T i = S i
  · rw [decide_eq_true h, key.2 h]; exact beq_self_eq_true _
  · rw [decide_eq_false h]
    exact beq_eq_false_iff_ne.2 fun e => h (key.1 e)

set_option maxRecDepth 100000 in
theorem equal_any {lo hi lo' hi' n : Nat} {A B : Option Addr} {T S : Nat → Nat} (c e : Nat) (w : World) (hA : Rd w lo hi A n (bv T)) (hB : Rd w lo' hi' B n (bv S)) (hT : ∀ i, i < n → T i < 256) (hS : ∀ i, i < n → S i < 256) :
    Calls Tryz.prog 69 #[.slice A n c, .slice B n e] w fun e w' => e = .returned (.bool (decide (∀ i, i < n → T i = S i))) ∧ ∃ q, w' = w.drewN q := by
  rw [← str_eq hT hS]
  have h1 := run_str hA c; have h2 := run_str hB e
  have h1' : ∀ k, (convert 22 9 (.slice A n c)).run Tryz.prog (w.drewN k) = .ok (.string (strOfNums (bytesL T n))) (w.drewN k) := fun k => run_str (hA.drewN k) c
  have h2' : ∀ k, (convert 22 9 (.slice B n e)).run Tryz.prog (w.drewN k) = .ok (.string (strOfNums (bytesL S n))) (w.drewN k) := fun k => run_str (hB.drewN k) e
  clear hA hB hT hS
  generalize strOfNums (bytesL T n) = x at *
  generalize strOfNums (bytesL S n) = y at *
  go_enter Tryz.func69, Tryz.ntmps69
  go_wp2
  go_ret
  exact ⟨rfl, 0, rfl⟩

set_option maxRecDepth 100000 in
theorem hasprefix_any {lo hi n lo' hi' m : Nat} {g o : Nat} {B : Option Addr} {T S : Nat → Nat} (c e : Nat) (w : World) (hnc : n ≤ c) (hn : n < 1073741824) (hm : m < 1073741824) (hA : Rd w lo hi (some ⟨g, o, none⟩) n (bv T)) (hB : Rd w lo' hi' B m (bv S)) (hT : ∀ i, i < n → T i < 256) (hS : ∀ i, i < m → S i < 256) :
    Calls Tryz.prog 58 #[.slice (some ⟨g, o, none⟩) n c, .slice B m e] w fun e w' => e = .returned (.bool (decide (m ≤ n ∧ ∀ i, i < m → T i = S i))) ∧ ∃ q, w' = w.drewN q := by
  by_cases hmn : m ≤ n
  · have hA' : Rd w lo hi (some ⟨g, o, none⟩) m (bv T) := ⟨fun h0 => by
      obtain ⟨g', o', e, h1, h2, h3⟩ := hA.c (by omega)
      exact ⟨g', o', e, h1, h2, fun i hi => h3 i (by omega)⟩⟩
    have hd : decide (m ≤ n ∧ ∀ i, i < m → T i = S i) = decide (∀ i, i < m → T i = S i) := by simp [hmn]
    rw [hd]
    have hcl := fun k => equal_any c e (w.drewN k) (hA'.drewN k) (hB.drewN k) (fun i hi => hT i (by omega)) hS
    have HC := Lib.hid hcl
    clear hA hB hT hS hcl hA' hd
    generalize decide (∀ i, i < m → T i = S i) = r at *
    go_enter Tryz.func58, Tryz.ntmps58
    go_wp2_with fail
    refine (HC.out 0).mono ?_
    rintro e w1 ⟨rfl, q, rfl⟩
    go_wp2
    go_ret
    exact ⟨rfl, _, rfl⟩
  · have hd : decide (m ≤ n ∧ ∀ i, i < m → T i = S i) = false := by simp [hmn]
    rw [hd]
    clear hA hB hT hS
    have hmn2 : ¬ (m : Int) ≤ (n : Int) := by omega
    go_enter Tryz.func58, Tryz.ntmps58
    go_wp2_with fail
    go_ret
    exact ⟨rfl, 0, rfl⟩

/-- WHAT A SEARCH LOOKS AT -/
structure Lk (w : World) (bx by' ix : Nat) (A : Option Addr) (n ct bs os cs : Nat) (d T : Nat → Nat) (B : Option Addr) (m e : Nat) (S : Nat → Nat) : Prop where
  hx : Ix w ix A n ct bs os cs d
  tx : Rd w 0 w.heap.size A n (bv T)
  sx : Rd w 0 w.heap.size B m (bv S)
  tl : ∀ i, i < n → T i < 256
  sl : ∀ i, i < m → S i < 256
  cx : w.cell? ⟨bx, 0, none⟩ = some (.pointer (some ⟨ix, 0, none⟩))
  cy : w.cell? ⟨by', 0, none⟩ = some (.slice B m e)
  hm : m < 1073741824
section
variable {w : World} {bx by' ix : Nat} {A : Option Addr} {n ct bs os cs : Nat} {d T : Nat → Nat} {B : Option Addr} {m e : Nat} {S : Nat → Nat}
theorem Lk.drewN (h : Lk w bx by' ix A n ct bs os cs d T B m e S) (k : Nat) : Lk (w.drewN k) bx by' ix A n ct bs os cs d T B m e S := ⟨h.hx.drewN k, h.tx.drewN k, h.sx.drewN k, h.tl, h.sl, h.cx, h.cy, h.hm⟩
theorem Rd.cut {lo hi g o : Nat} (h : Rd w lo hi (some ⟨g, o, none⟩) n (bv T)) (p : Nat) : Rd w lo hi (some ⟨g, o + p, none⟩) (n - p) (bv fun i => T (p + i)) := ⟨fun h0 => by
  obtain ⟨g', o', e, h1, h2, h3⟩ := h.c (by omega)
  injection e with e; injection e with e1 e2; subst e1; subst e2
  exact ⟨_, _, rfl, h1, h2, fun i hi => by rw [Nat.add_assoc]; exact h3 (p + i) (by omega)⟩⟩

set_option maxRecDepth 100000 in
theorem clo1_any (h : Lk w bx by' ix A n ct bs os cs d T B m e S) (k : Nat) (hk : k < n) :
    Calls Tryz.prog 54 #[.int .i64 (k : Int), .pointer (some ⟨bx, 0, none⟩), .pointer (some ⟨by', 0, none⟩)] w fun e w' => e = .returned (.bool (decide (¬ suf T n (d k) < suf S m 0))) ∧ ∃ q, w' = w.drewN q := by
  obtain ⟨g, o, rfl, _, _, _⟩ := h.tx.c (by omega)
  have cx := h.cx; have cy := h.cy
  have hat := fun q => at_any ix n ct bs os cs d (w.drewN q) g o (h.hx.drewN q) k hk
  have hdk := h.hx.dl k hk
  have hcmp := fun q => compare_any (ct - d k) e (w.drewN q) ((h.tx.cut (d k)).drewN q) (h.sx.drewN q)
  have hz : Lib.compareBytes (Lib.bytesOf (bytesL (fun i => T (d k + i)) (n - d k))) (Lib.bytesOf (bytesL S m)) < 0 ↔ suf T n (d k) < suf S m 0 := by
    have e2 : Lib.bytesOf (bytesL S m) = u8s (suf S m 0) := by have := bytesOf_suf (T := S) (n := m) 0; simpa using this
    rw [bytesOf_suf, e2]
    refine cmp_lt _ _ (fun x hx => ?_) (fun x hx => ?_)
    · obtain ⟨i, hi, rfl⟩ := List.getElem_of_mem hx
      have h1 : i < n - d k := by rw [len_suf] at hi; exact hi
      have h2 := get_suf (T := T) (n := n) (i := d k) h1
      rw [List.getElem?_eq_getElem hi] at h2
      rw [Option.some.inj h2]; exact h.tl _ (by omega)
    · obtain ⟨i, hi, rfl⟩ := List.getElem_of_mem hx
      have h1 : i < m - 0 := by rw [len_suf] at hi; exact hi
      have h2 := get_suf (T := S) (n := m) (i := 0) h1
      rw [List.getElem?_eq_getElem hi] at h2
      rw [Option.some.inj h2]; exact h.sl _ (by omega)
  have hz2 : decide (¬ suf T n (d k) < suf S m 0) = decide (0 ≤ Lib.compareBytes (Lib.bytesOf (bytesL (fun i => T (d k + i)) (n - d k))) (Lib.bytesOf (bytesL S m))) := decide_eq_decide.2 (by rw [← hz]; omega)
  rw [hz2]
  have HA := Lib.hid hat; have HC := Lib.hid hcmp
  clear hat hcmp h hz hz2
  generalize Lib.compareBytes (Lib.bytesOf (bytesL (fun i => T (d k + i)) (n - d k))) (Lib.bytesOf (bytesL S m)) = x at *
  go_enter Tryz.func54, Tryz.ntmps54
  go_wp2
  go_quiet (first
    | (go_at_call 56; exact Calls.quiet_of (HA.out _))
    | (go_at_call 55; exact Calls.quiet_of (HC.out _)))
  go_wp2
  go_ret
  exact ⟨rfl, nq, rfl⟩

set_option maxRecDepth 100000 in
theorem clo2_any (h : Lk w bx by' ix A n ct bs os cs d T B m e S) (bi r : Nat) (hi : w.cell? ⟨bi, 0, none⟩ = some (.int .i64 (r : Int))) (k : Nat) (hk : k + r < n) :
    Calls Tryz.prog 57 #[.int .i64 (k : Int), .pointer (some ⟨bx, 0, none⟩), .pointer (some ⟨bi, 0, none⟩), .pointer (some ⟨by', 0, none⟩)] w fun e w' => e = .returned (.bool (!decide (stands T n S m (d (r + k))))) ∧ ∃ q, w' = w.drewN q := by
  obtain ⟨g, o, rfl, _, _, _⟩ := h.tx.c (by omega)
  have cx := h.cx; have cy := h.cy
  have hat := fun q => at_any ix n ct bs os cs d (w.drewN q) g o (h.hx.drewN q) (k + r) hk
  simp only [Int.natCast_add] at hat
  have hdk := h.hx.dl (k + r) hk
  have hsm := h.hx.sm
  have hpf := fun q => hasprefix_any (ct - d (k + r)) e (w.drewN q) (by have := h.hx.ct; omega) (by omega) h.hm ((h.tx.cut (d (k + r))).drewN q) (h.sx.drewN q) (fun i hi => h.tl _ (by omega)) h.sl
  have hz2 : decide (stands T n S m (d (r + k))) = decide (m ≤ n - d (k + r) ∧ ∀ i, i < m → T (d (k + r) + i) = S i) := decide_eq_decide.2 (by rw [Nat.add_comm r k]; unfold stands; constructor <;> rintro ⟨h1, h2⟩ <;> exact ⟨by omega, h2⟩)
  rw [hz2]
  have HA := Lib.hid hat; have HC := Lib.hid hpf
  clear hat hpf h hz2
  generalize decide (m ≤ n - d (k + r) ∧ ∀ i, i < m → T (d (k + r) + i) = S i) = x at *
  go_enter Tryz.func57, Tryz.ntmps57
  go_wp2
  go_quiet (first
    | (go_at_call 56; exact Calls.quiet_of (HA.out _))
    | (go_at_call 58; exact Calls.quiet_of (HC.out _)))
  go_wp2
  go_ret
  exact ⟨rfl, nq, rfl⟩
end

set_option maxRecDepth 100000 in
theorem search_any (F : FuncId) (caps : Array Value) (n : Nat) (p : Nat → Bool) (w : World) (eg : ∀ args w, (callFunc F args).run Tryz.prog w = .ok (.enter F args) w) (hn : n < 1073741824)
    (hc : ∀ q k, k < n → Calls Tryz.prog F (#[.int .i64 (k : Int)] ++ caps) (w.drewN q) fun e w' => e = .returned (.bool (p k)) ∧ ∃ q', w' = w.drewN q') :
    Calls Tryz.prog 53 #[.int .i64 (n : Int), .func (.func F) #[] caps] w fun e w' => ∃ r : Nat, e = .returned (.int .i64 (r : Int)) ∧ r ≤ n ∧ (0 < r → p (r - 1) = false) ∧ (r < n → p r = true) ∧ ∃ q, w' = w.drewN q := by
  have HC := Lib.hid hc
  clear hc
  go_enter Tryz.func53, Tryz.ntmps53
  go_wp2_with fail
  go_loopg [5, 6] (n + 1) (fun gk iv jv wr => ∃ i j q : Nat, iv = .int .i64 (i : Int) ∧ jv = .int .i64 (j : Int) ∧ i ≤ j ∧ j ≤ n ∧ (0 < i → p (i - 1) = false) ∧ (j < n → p j = true) ∧ wr = w.drewN q ∧ j - i < gk)
  case atStart => exact ⟨0, n, 0, rfl, rfl, by omega, by omega, by omega, by omega, rfl, by omega⟩
  case round =>
    obtain ⟨i, j, q, rfl, rfl, hij, hjn, h1, h2, rfl, hgk⟩ := hrel
    by_cases hlt : i < j
    · have hlt' : (i : Int) < (j : Int) := by omega
      have H1 := Lib.hid h1; have H2 := Lib.hid h2
      clear h1 h2
      go_wp2_with fail
      have e : ((i : Int) + (j : Int)) / 2 = (((i + j) / 2 : Nat) : Int) := by omega
      rw [e]
      have hh1 : i ≤ (i + j) / 2 := by omega
      have hh2 : (i + j) / 2 < j := by omega
      generalize (i + j) / 2 = h at *
      refine (HC.out q h (by omega)).mono ?_
      clear e
      rintro _ w1 ⟨rfl, q', rfl⟩
      cases hp : p h with
      | false =>
        have HP := Lib.hid hp
        clear hp
        go_wp2
        go_roundg (j - (h + 1) + 1)
        case rel => exact ⟨h + 1, j, q', by go_num, rfl, by omega, hjn, fun _ => HP.out, H2.out, rfl, by omega⟩
        case measure => omega
      | true =>
        have HP := Lib.hid hp
        clear hp
        go_wp2
        go_roundg (h - i + 1)
        case rel => exact ⟨i, h, q', rfl, rfl, by omega, by omega, H1.out, fun _ => HP.out, rfl, by omega⟩
        case measure => omega
    · have H1 := Lib.hid h1; have H2 := Lib.hid h2
      clear h1 h2
      obtain rfl : i = j := by omega
      go_wp2
      go_ret
      exact ⟨i, rfl, hjn, H1.out, H2.out, q, rfl⟩
end Go.Proofs.YtpkgkppehefibaaGreatDoor
