/- What Write writes of an index of New's; impl.IndexWritten. -/
import Derived.Test.YtpkgkppehefibaaDoorW9
import Derived.Test.YtpkgkppehefibaaDoorWD
namespace Go.Proofs.YtpkgkppehefibaaDoor
open Go.RowKit Sa

/-- l bytes F are what Write writes of an index over n bytes T -/
def Written (T : Nat → Nat) (n l : Nat) (F : Nat → Nat) : Prop := ∃ d, IsSA T n d ∧ Wrote (10 + n) (cat (hd0 n) 10 T) (hd0 n) d n l F
theorem hd0_lt (n i : Nat) : hd0 n i < 256 := lay_lt (fun _ => by omega) _ _ _
section
variable {T F : Nat → Nat} {n l : Nat}
theorem Written.len (h : Written T n l F) (hn : n < 1073741824) : 10 + n ≤ l ∧ l ≤ 10 + n + 20 * n := by
  obtain ⟨d, hd, hw⟩ := h
  exact ⟨hw.old.1, hw.len fun j hj => by have := hd.lt j hj; omega⟩
theorem Written.lt (h : Written T n l F) (hT : ∀ i, i < n → T i < 256) : ∀ i, i < l → F i < 256 := by
  obtain ⟨d, hd, hw⟩ := h
  refine hw.lt (hd0_lt n) (fun i hi => ?_)
  unfold cat; split
  · exact hd0_lt n i
  · exact hT _ (by omega)
theorem Written.head (h : Written T n l F) (hn : n < 1073741824) : At F 0 (Lib.uvarint (Lib.zigzag (n : Int))) := by
  obtain ⟨d, hd, hw⟩ := h
  have hm := uvarint10 (Lib.zigzag (n : Int)) (by unfold Lib.zigzag; split <;> omega)
  intro j hj
  rw [Nat.zero_add, hw.old.2 j (by omega)]
  unfold cat; rw [if_pos (by omega)]
  have := lay_at (fun _ => 0) 0 (Lib.uvarint (Lib.zigzag (n : Int))) j hj
  rw [Nat.zero_add] at this; exact this
theorem Written.data (h : Written T n l F) : ∀ i, i < n → F (10 + i) = T i := fun i hi => by
  obtain ⟨d, hd, hw⟩ := h
  rw [hw.old.2 (10 + i) (by omega)]
  unfold cat; rw [if_neg (by omega)]; congr 1; omega
theorem Written.uniq {l' : Nat} {F' : Nat → Nat} (h : Written T n l F) (h' : Written T n l' F') : l = l' ∧ ∀ i, i < l → F i = F' i := by
  obtain ⟨d, hd, hw⟩ := h
  obtain ⟨d', hd', hw'⟩ := h'
  exact hw.uniq hw' (hd.uniq hd') (fun _ _ => rfl)
theorem Written.tells {T' : Nat → Nat} {n' l' : Nat} {F' : Nat → Nat} (h : Written T n l F) (h' : Written T' n' l' F') (hn : n < 1073741824) (hn' : n' < 1073741824) (he : l = l' ∧ ∀ i, i < l → F i = F' i) : n = n' ∧ ∀ i, i < n → T i = T' i := by
  obtain ⟨rfl, he⟩ := he
  have hl := (h.len hn).1
  have hl' := (h'.len hn').1
  have hm' := uvarint10 (Lib.zigzag (n' : Int)) (by unfold Lib.zigzag; split <;> omega)
  have e : n = n' := At.uniq (f := F) (o := 0) (by omega) (by omega) (h.head hn) ((h'.head hn').congr fun j hj => by rw [he _ (by omega)])
  subst e
  exact ⟨rfl, fun i hi => by rw [← h.data i hi, ← h'.data i hi, he _ (by omega)]⟩
end
theorem Kept.below {P : Nat → Prop} {w w' : World} (k : Kept P w w') {base : Nat} (hP : ∀ j, P j → base ≤ j) (hb : base ≤ w.heap.size) : Below base w w' :=
  ⟨k.os, k.tape, k.output, k.size, fun j hj => k.block j (by omega) (fun h => by have := hP j h; omega)⟩
theorem hd_zero (w : World) : Hd (w.alloc (.cells #[.slice none 0 0, .int .i64 0, .int .i8 0] 42)) w.heap.size (.slice none 0 0) 0 := ⟨0, heap_alloc_new w _⟩
theorem Buf.rd {w : World} {b g l of : Nat} {f : Nat → Nat} (h : Buf w b (some g) l f of) : Rd w g (g + 1) (some ⟨g, 0, none⟩) l (bv f) := by
  rcases h.c with ⟨h1, -⟩ | ⟨g', c, cur, hg, hgb, hd, hr, hcs, h1, h2, h3, h4⟩
  · cases h1
  · obtain rfl := Option.some.inj hg
    exact ⟨fun _ => ⟨g, 0, rfl, Nat.le_refl _, by omega, fun i hi => by rw [Nat.zero_add, Lib.cell_of_heap hr]; exact h4 i hi⟩⟩
set_option maxRecDepth 100000 in
/-- (*Buffer).Bytes -/
theorem bufbytes_any (b g l : Nat) (f : Nat → Nat) (w : World) (h : Buf w b (some g) l f 0) :
    Calls Tryd.prog 27 #[.pointer (some ⟨b, 0, none⟩)] w fun e w' => ∃ c, e = .returned (.slice (some ⟨g, 0, none⟩) l c) ∧ l ≤ c ∧ ∃ q, w' = w.drewN q := by
  rcases h.c with ⟨h1, -⟩ | ⟨g', c, cur, hg', hgb, hd, hg, hcs, hl1, hlc, hcm, hf⟩
  · cases h1
  obtain rfl := Option.some.inj hg'
  have c0 := hd.c0; have c1 := hd.c1
  have hc0 : ¬ c = 0 := by omega
  unfold maxLen at hcm
  clear h hg' hd hg hf
  go_enter Tryd.func27, Tryd.ntmps27
  go_wp2
  go_quiet (fail)
  go_wp2
  go_ret
  exact ⟨c, by simp, hlc, nq, rfl⟩
set_option maxHeartbeats 6400000 in
set_option maxRecDepth 100000 in
/-- impl.IndexWritten -/
theorem written_any (A : Option Addr) (n c : Nat) (T : Nat → Nat) (w : World) (h : Bs w A n c T) (hn : n ≤ 1048576) (hg : MaxOk w) :
    Calls Tryd.prog 11 #[.slice A n c] w fun e w' => ∃ A' l c' F, e = .returned (.tuple #[.slice A' l c', .bool true]) ∧ Bs w' A' l c' F ∧ Written T n l F ∧ Le w w' := by
  obtain ⟨W1, hW1⟩ : ∃ W1, W1 = w.alloc (.cells #[.slice none 0 0, .int .i64 0, .int .i8 0] 42) := ⟨_, rfl⟩
  have hs1 : W1.heap.size = w.heap.size + 1 := by rw [hW1]; simp
  have hb1 : Below w.heap.size w W1 := by rw [hW1]; exact (Below.refl _ _).alloc (Nat.le_refl _) _
  have hd1 : Hd W1 w.heap.size (.slice none 0 0) 0 := by rw [hW1]; exact hd_zero w
  have hbs1 : Bs W1 A n c T := h.le hb1
  have HK := Lib.hid (kept_any A n c 0 W1.heap.size T W1 h.sm (Nat.le_refl _) hbs1.rd)
  have hg1 : MaxOk W1 := hg.le hb1
  have hlt := h.lt
  have HB1 := Lib.hid hb1; have HD1 := Lib.hid hd1; have HW1 := Lib.hid hW1; have HG1 := Lib.hid hg1; have HLT := Lib.hid hlt
  clear h hg hb1 hd1 hbs1 hg1 hlt hW1
  go_enter Tryd.func11, Tryd.ntmps11
  go_wp2_with fail
  rw [← HW1.out]
  refine HK.out.mono ?_
  rintro _ w2 ⟨A2, c2, rfl, hc2, hw2, hb2⟩
  have hz2 := hb2.size
  have hg2 : MaxOk w2 := HG1.out.le hb2
  have HN := Lib.hid (new_full A2 c2 n T w2 (by omega) hc2 (hw2.toRd.txt HLT.out) hg2)
  have HW2 := Lib.hid hw2; have HB2 := Lib.hid hb2
  clear hg2 hw2 hb2 HK
  go_wp2_with fail
  refine HN.out.mono ?_
  rintro _ w3 ⟨d, rfl, hx3, hsa, -, -, hz3, hb3⟩
  have hk23 : Kept (fun _ => False) w2 w3 := Kept.le hb3
  have hk13 : Kept (fun _ => False) W1 w3 := (Kept.le HB2.out).trans hk23 (fun _ _ h => h)
  have hbuf3 : Buf w3 w.heap.size none 0 (fun _ => 0) 0 := ⟨.inl ⟨rfl, rfl, HD1.out.kept hk13 (fun h => h)⟩⟩
  have HWR := Lib.hid (write_any w.heap.size w2.heap.size n c2 (w2.heap.size + 1) 0 n W1.heap.size w2.heap.size A2 d T (fun _ => 0) w3 hx3 hbuf3 (HW2.out.toRd.kept hk23 (Nat.le_refl _) (fun _ _ _ h => h)) (by omega) (fun k h1 h2 => by omega) (by omega) (by omega) (by omega))
  have HSA := Lib.hid hsa; have HB3 := Lib.hid hb3
  clear hx3 hsa hb3 hk23 hk13 hbuf3 HN
  go_wp2_with fail
  refine HWR.out.mono ?_
  rintro _ w4 ⟨rfl, g, l, F, hB4, hwr, hg4, hk4⟩
  have hW : Written T n l F := ⟨d, HSA.out, hwr⟩
  have hlen := hW.len (by omega)
  have HBk : Hid (∀ k, Buf (w4.drewN k) w.heap.size (some g) l F 0) := Lib.hid (fun k => hB4.kept (kept_drew w4 k) (fun h => h) (fun _ _ h => h))
  have hgl := (buf_lt hB4).2.1
  have HRk := Lib.hid (fun k (c : Nat) => kept_any (some ⟨g, 0, none⟩) l c g (g + 1) F (w4.drewN k) (by omega) hgl (hB4.rd.kept (kept_drew w4 k) (by omega) (fun _ _ _ h => h)))
  have HWT := Lib.hid hW; have HK4 := Lib.hid hk4
  clear hB4 hwr hk4 hW HWR
  go_wp2_with fail
  go_region_with (first
    | (go_at_call 27
       refine (bufbytes_any w.heap.size g l F _ ?_).mono ?_
       exact HBk.out 1
       rintro e wb ⟨cb, rfl, hcb, nb, rfl⟩)
    | (go_at_call 23
       refine (HRk.out _ _).mono ?_
       rintro e w5 ⟨A5, c5, rfl, hc5, hw5, hb5⟩))
  all_goals (
    have hl5 : Le w4 w5 := Le.trans (Le.drew w4 _) hb5
    have HL5 := Lib.hid hl5; have HC5 := Lib.hid hc5; have HW5 := Lib.hid hw5
    clear hl5 hb5 hc5 hw5
    go_wp2
    go_ret2
    have hz1 := HB1.out.size; have hz3' := HB3.out.size; have hz4 := HK4.out.size
    refine ⟨A5, l, c5, F, rfl, ⟨HW5.out.r0, HWT.out.lt HLT.out, HC5.out, by omega⟩, HWT.out, ?_⟩
    exact (((HB1.out.trans (HB2.out.mono (by omega))).trans (HB3.out.mono (by omega))).trans (HK4.out.below (fun j hj => by omega) (by omega))).trans (Below.mono HL5.out (by omega)))
end Go.Proofs.YtpkgkppehefibaaDoor
