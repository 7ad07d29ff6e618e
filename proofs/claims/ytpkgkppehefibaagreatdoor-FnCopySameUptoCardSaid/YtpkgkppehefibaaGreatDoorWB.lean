/- io.ReadFull; suffixarray.readInt, readSlice. -/
import Derived.Test.YtpkgkppehefibaaGreatDoorWA
namespace Go.Proofs.YtpkgkppehefibaaGreatDoor
open Go.RowKit Sa

theorem At.left {f : Nat → Nat} {o : Nat} {L M : List UInt8} (h : At f o (L ++ M)) : At f o L := fun j hj => by
  rw [h j (by rw [List.length_append]; omega), List.getD_eq_getElem?_getD, List.getD_eq_getElem?_getD, List.getElem?_append_left hj]
theorem At.right {f : Nat → Nat} {o : Nat} {L M : List UInt8} (h : At f o (L ++ M)) : At f (o + L.length) M := fun j hj => by
  have := h (L.length + j) (by rw [List.length_append]; omega)
  rw [Nat.add_assoc, this, List.getD_eq_getElem?_getD, List.getD_eq_getElem?_getD, List.getElem?_append_right (by omega)]
  congr 3; omega
theorem At.congr {f g : Nat → Nat} {o p : Nat} {L : List UInt8} (h : At f o L) (e : ∀ j, j < L.length → g (p + j) = f (o + j)) : At g p L := fun j hj => (e j hj).trans (h j hj)
theorem enL_at {d f : Nat → Nat} {o j : Nat} : ∀ {i : Nat}, j < i → At f o (enL d i) → At f (o + (enL d j).length) (Lib.uvarint (d j))
  | 0, h, _ => absurd h (by omega)
  | i + 1, h, ha => by
    rcases Nat.lt_or_ge j i with c | c
    · exact enL_at c ha.left
    · obtain rfl : j = i := by omega
      exact ha.right
theorem enL_mono {d : Nat → Nat} {j : Nat} : ∀ {i : Nat}, j ≤ i → (enL d j).length ≤ (enL d i).length
  | 0, h => by obtain rfl : j = 0 := by omega
               exact Nat.le_refl _
  | i + 1, h => by
    rcases Nat.lt_or_ge j (i + 1) with c | c
    · have := enL_mono (d := d) (j := j) (i := i) (by omega)
      simp only [enL, List.length_append]; omega
    · obtain rfl : j = i + 1 := by omega
      exact Nat.le_refl _
theorem enL_lt {d : Nat → Nat} {j i : Nat} (h : j < i) : (enL d j).length < (enL d i).length := by
  have h1 := enL_mono (d := d) (j := j + 1) (i := i) (by omega)
  have h2 := Lib.uvarint_pos (d j)
  simp only [enL, List.length_append] at h1
  omega
section
variable (p po bs os k c : Nat) (F : Nat → Int) (w : World)
set_option maxRecDepth 100000 in
theorem set_at (h0 : w.cell? ⟨p, po, none⟩ = some (.slice (some ⟨bs, os, none⟩) k c)) (i v : Nat) (hi : i < k) (hv : v < 1073741824) (x : Int) (hx : w.cell? ⟨bs, os + i, none⟩ = some (.int .i32 x)) (hz : w.frozen? ⟨bs, os + i, none⟩ = false) :
    Calls Tryz.prog 67 #[.pointer (some ⟨p, po, none⟩), .int .i64 (i : Int), .int .i64 (v : Int)] w fun e w' => e = .returned (.tuple #[]) ∧ w' = w.setCell ⟨bs, os + i, none⟩ (.int .i32 (v : Int)) := by
  have hnn := fun w => run_neq_slice_nil_any (P := Tryz.prog) w 44 21 (some ⟨bs, os, none⟩) k c 0 0 Tryz.underlying44
  have hw : IntKind.i32.wrap (v : Int) = (v : Int) := by rw [IntKind.wrap_i32]; omega
  go_enter Tryz.func67, Tryz.ntmps67
  go_wp2
  refine bodyPost_end (results_none rfl _ _ _) rfl ?_
  exact ⟨rfl, rfl⟩
end

theorem buf_lt {w : World} {b g l of : Nat} {f : Nat → Nat} (h : Buf w b (some g) l f of) : b < w.heap.size ∧ g < w.heap.size ∧ g ≠ b := by
  rcases h.c with ⟨h1, -⟩ | ⟨g', k0, cur, hg', hgb, hd, hg, -⟩
  · cases h1
  · obtain rfl := Option.some.inj hg'
    refine ⟨hd.lt, ?_, hgb⟩
    rcases Nat.lt_or_ge g w.heap.size with c' | c'
    · exact c'
    · rw [Array.getElem?_eq_none c'] at hg; cases hg
set_option maxHeartbeats 6400000 in
set_option maxRecDepth 100000 in
/-- io.ReadAtLeast of all n bytes, where there are as many -/
theorem readatleast_any (b g q l of o n m c : Nat) (f B : Nat → Nat) (w : World) (h : Buf w b (some g) l f of) (hq : Row8 w q m B) (hqb : q ≠ b) (hqg : q ≠ g) (hn : 1 ≤ n) (hnl : n < 1073741824) (hof : of + n ≤ l) (hon : o + n ≤ m) (hnc : n ≤ c) :
    Calls Tryz.prog 65 #[.iface 65 (.pointer (some ⟨b, 0, none⟩)), .slice (some ⟨q, o, none⟩) n c, .int .i64 (n : Int)] w fun e w' => e = .returned (.tuple #[.int .i64 (n : Int), .nilIface]) ∧ Buf w' b (some g) l f (of + n) ∧ Row8 w' q m (putf B o n (fun i => f (of + i))) ∧ Kept (fun k => k = b ∨ k = q) w w' := by
  have hna : ∀ k W, (nilAhead (k + 1) 65 (.pointer (some ⟨b, 0, none⟩)) "Read").run Tryz.prog W = .ok (some false) W := fun k W => by kernel_rfl
  have hnaF := fun W => hna 260 W
  clear hna
  have HC := Lib.hid (fun W (hW : W = w.drewN 1) => bufread_any b g q l of o n m c f B W (by rw [hW]; exact h.kept (kept_drew w 1) (fun h => h) (fun _ _ h => h)) (by rw [hW]; exact hq.kept (kept_drew w 1) (fun h => h)) hqb hqg hn hof hon)
  clear h hq
  have hcn : ¬ c = 0 := by omega
  go_enter Tryz.func65, Tryz.ntmps65
  go_wp2_with fail
  go_loopg [6, 7] 2 (fun gk nv ev wr => ev = .nilIface ∧ ((nv = .int .i64 0 ∧ wr = w ∧ 1 < gk) ∨ (nv = .int .i64 (n : Int) ∧ Buf wr b (some g) l f (of + n) ∧ Row8 wr q m (putf B o n (fun i => f (of + i))) ∧ Kept (fun k => k = b ∨ k = q) w wr)))
  case atStart => exact ⟨rfl, .inl ⟨rfl, rfl, by omega⟩⟩
  case round =>
    obtain ⟨rfl, ⟨rfl, rfl, hgk⟩ | ⟨rfl, hpost⟩⟩ := hrel
    · have hn0 : (0 : Int) < (n : Int) := by omega
      go_wp2_with fail
      go_region_with (
        go_at_call 139
        refine (HC.out _ rfl).mono ?_
        rintro e w2 ⟨rfl, hB2, hR2, hk2⟩)
      all_goals (
        have hp2 : Buf w2 b (some g) l f (of + n) ∧ Row8 w2 q m (putf B o n (fun i => f (of + i))) ∧ Kept (fun k => k = b ∨ k = q) wr w2 := ⟨hB2, hR2, ((kept_drew wr 1).mono (fun _ _ h => h.elim)).trans hk2 (fun _ _ h => h)⟩
        have HP2 := Lib.hid hp2
        clear hp2 hB2 hR2 hk2
        go_wp2_with fail
        go_roundg 1
        case rel => exact ⟨rfl, .inr ⟨by go_num, HP2.out⟩⟩
        case measure => omega)
    · have HP := Lib.hid hpost
      clear hpost
      go_wp2
      go_ret2
      exact ⟨rfl, HP.out⟩
set_option maxRecDepth 100000 in
/-- io.ReadFull of n bytes, where there are as many -/
theorem readfull_any (b g q l of o n m c : Nat) (f B : Nat → Nat) (w : World) (h : Buf w b (some g) l f of) (hq : Row8 w q m B) (hqb : q ≠ b) (hqg : q ≠ g) (hn : 1 ≤ n) (hnl : n < 1073741824) (hof : of + n ≤ l) (hon : o + n ≤ m) (hnc : n ≤ c) :
    Calls Tryz.prog 51 #[.iface 65 (.pointer (some ⟨b, 0, none⟩)), .slice (some ⟨q, o, none⟩) n c] w fun e w' => e = .returned (.tuple #[.int .i64 (n : Int), .nilIface]) ∧ Buf w' b (some g) l f (of + n) ∧ Row8 w' q m (putf B o n (fun i => f (of + i))) ∧ Kept (fun k => k = b ∨ k = q) w w' := by
  have HC := Lib.hid (readatleast_any b g q l of o n m c f B w h hq hqb hqg hn hnl hof hon hnc)
  clear h hq
  go_enter Tryz.func51, Tryz.ntmps51
  go_wp2_with fail
  refine HC.out.mono ?_
  rintro _ w2 ⟨rfl, hp⟩
  have HP := Lib.hid hp
  clear hp HC
  go_wp2
  go_ret2
  exact ⟨rfl, HP.out⟩
set_option maxRecDepth 100000 in
/-- io.ReadFull of nothing -/
theorem readfull_zero (r : Value) (A : Option Addr) (c : Nat) (w : World) :
    Calls Tryz.prog 51 #[r, .slice A 0 c] w fun e w' => e = .returned (.tuple #[.int .i64 0, .nilIface]) ∧ ∃ q, w' = w.drewN q := by
  have h0 : Calls Tryz.prog 65 #[r, .slice A 0 c, .int .i64 0] w fun e w' => e = .returned (.tuple #[.int .i64 0, .nilIface]) ∧ ∃ q, w' = w.drewN q := by
    go_enter Tryz.func65, Tryz.ntmps65
    go_wp2_with fail
    go_loopg [6, 7] 1 (fun gk nv ev wr => ev = .nilIface ∧ nv = .int .i64 0 ∧ wr = w ∧ 0 < gk)
    case atStart => exact ⟨rfl, rfl, rfl, by omega⟩
    case round =>
      obtain ⟨rfl, rfl, rfl, hgk⟩ := hrel
      go_wp2
      go_ret2
      exact ⟨rfl, 0, rfl⟩
  have HC := Lib.hid h0
  clear h0
  go_enter Tryz.func51, Tryz.ntmps51
  go_wp2_with fail
  refine HC.out.mono ?_
  rintro _ w2 ⟨rfl, hp⟩
  have HP := Lib.hid hp
  clear hp HC
  go_wp2
  go_ret2
  exact ⟨rfl, HP.out⟩
theorem putf_lt {B S : Nat → Nat} {m o n : Nat} (hB : ∀ i, i < m → B i < 256) (hS : ∀ i, i < n → S i < 256) : ∀ i, i < m → putf B o n S i < 256 := fun i hi => by
  unfold putf; split
  · exact hS _ (by omega)
  · exact hB i hi
theorem Row8.byte {w : World} {q m : Nat} {B : Nat → Nat} (h : Row8 w q m B) (hB : ∀ i, i < m → B i < 256) (o n : Nat) (hn : o + n ≤ m) : ∀ j (hj : j < (bl B o n).length), w.cell? ⟨q, o + j, none⟩ = some (.int .u8 ((bl B o n)[j]).toNat) := fun j hj => by
  have hj' : j < n := by rw [bl_len] at hj; exact hj
  rw [bl_get j hj (hB _ (by omega))]; exact h.cell (by omega)
set_option maxHeartbeats 1000000 in
set_option maxRecDepth 100000 in
/-- readInt -/
theorem readInt_any (b g q l of p : Nat) (f B : Nat → Nat) (w : World) (h : Buf w b (some g) l f of) (hq : Row8 w q 16384 B) (hqb : q ≠ b) (hqg : q ≠ g) (hB : ∀ i, i < 16384 → B i < 256) (hf : ∀ i, i < l → f i < 256) (hof : of + 10 ≤ l) (hp : p < 4611686018427387904) (ha : At f of (Lib.uvarint (Lib.zigzag (p : Int)))) :
    Calls Tryz.prog 50 #[.iface 65 (.pointer (some ⟨b, 0, none⟩)), .slice (some ⟨q, 0, none⟩) 16384 16384] w fun e w' => e = .returned (.tuple #[.int .i64 (p : Int), .nilIface]) ∧ Buf w' b (some g) l f (of + 10) ∧ Row8 w' q 16384 (putf B 0 10 (fun i => f (of + i))) ∧ Kept (fun k => k = b ∨ k = q) w w' := by
  have hz : Lib.zigzag (p : Int) < 18446744073709551616 := by unfold Lib.zigzag; split <;> omega
  have hlen := uvarint10 _ hz
  have HC := Lib.hid (readfull_any b g q l of 0 10 16384 16384 f B w h hq hqb hqg (by omega) (by omega) hof (by omega) (by omega))
  have hlt := putf_lt (o := 0) (n := 10) hB (fun i hi => hf (of + i) (by omega) : ∀ i, i < 10 → (fun i => f (of + i)) i < 256)
  obtain ⟨rest, hrest⟩ := bl_pre (B := putf B 0 10 (fun i => f (of + i))) (o := 0) (n := 16384) (L := Lib.uvarint (Lib.zigzag (p : Int))) (ha.congr fun j hj => by unfold putf; rw [if_pos (by omega)]; congr 1; omega) (by omega)
  have hdec := dec_v p hp rest
  rw [← hrest] at hdec
  have HD := Lib.hid hdec; have HLT := Lib.hid hlt
  clear h hq hB hf ha hrest hdec hlt
  go_enter Tryz.func50, Tryz.ntmps50
  go_wp2_with fail
  refine HC.out.mono ?_
  rintro _ w2 ⟨rfl, hB2, hR2, hk2⟩
  have HP : Hid (Buf w2 b (some g) l f (of + 10) ∧ Row8 w2 q 16384 (putf B 0 10 (fun i => f (of + i))) ∧ Kept (fun k => k = b ∨ k = q) w w2) := Lib.hid ⟨hB2, hR2, hk2⟩
  have HV := Lib.hid (Tryz.binary_Varint q 0 16384 16384 (bl (putf B 0 10 (fun i => f (of + i))) 0 16384) w2 (bl_len _ _ _) (hR2.byte HLT.out 0 16384 (by omega)))
  rw [HD.out] at HV
  clear hB2 hR2 hk2 HC
  go_wp2_with fail
  refine HV.out.mono ?_
  rintro _ w3 ⟨rfl, rfl⟩
  clear HV
  go_wp2
  go_ret2
  exact ⟨rfl, HP.out⟩
end Go.Proofs.YtpkgkppehefibaaGreatDoor
