/- suffixarray.readSlice. -/
import Derived.Test.YtpkgkppehefibaaGreatDoorWB
import Derived.Test.YtpkgkppehefibaaGreatDoorWS
namespace Go.Proofs.YtpkgkppehefibaaGreatDoor
open Go.RowKit Sa

theorem Reg.kept {P : Nat → Prop} {w w' : World} {bs s0 n : Nat} {F : Nat → Int} (h : Reg w bs s0 n F) (k : Kept P w w') (hb : ¬ P bs) : Reg w' bs s0 n F := by
  refine ⟨fun i hi => ?_, fun i hi => ?_⟩
  · have hl := cell_lt (h.c i hi)
    rw [← h.c i hi]; simp only [World.cell?, k.block bs hl hb]
  · have hl := cell_lt (h.c i hi)
    rw [← h.z i hi]; simp only [World.frozen?, k.block bs hl hb]
/-- i numbers of d in the place of those of F from a on -/
def rdf (F : Nat → Int) (d : Nat → Nat) (a i : Nat) : Nat → Int := fun j => if a ≤ j ∧ j < a + i then ((d (j - a) : Nat) : Int) else F j
theorem rdf_zero (F : Nat → Int) (d : Nat → Nat) (a : Nat) : rdf F d a 0 = F := by funext j; unfold rdf; rw [if_neg (by omega)]
theorem rdf_succ (F : Nat → Int) (d : Nat → Nat) (a i : Nat) : upd (rdf F d a i) (a + i) ((d i : Nat) : Int) = rdf F d a (i + 1) := by
  funext j; unfold upd rdf
  by_cases h : j = a + i
  · subst h; rw [if_pos rfl, if_pos (by omega)]; congr 2; omega
  · rw [if_neg h]
    by_cases h2 : a ≤ j ∧ j < a + i
    · rw [if_pos h2, if_pos (by omega)]
    · rw [if_neg h2, if_neg (by omega)]
set_option maxHeartbeats 6400000 in
set_option maxRecDepth 100000 in
/-- readSlice -/
theorem readSlice_any (b g q l of bs s0 a k c n N i : Nat) (f B d : Nat → Nat) (F : Nat → Int) (w : World) (h : Buf w b (some g) l f of) (hq : Row8 w q 16384 B) (hqb : q ≠ b) (hqg : q ≠ g) (hB : ∀ i, i < 16384 → B i < 256) (hf : ∀ i, i < l → f i < 256)
    (hr : Reg w bs s0 n F) (hbq : bs ≠ q) (hbb : bs ≠ b) (hbg : bs ≠ g) (hk0 : 0 < k) (hak : a + k = n) (hnl : n < 1073741824) (hNl : N < 1073741824) (hd : ∀ j, j < k → d j < N) (hch : Chunk d k i)
    (ha1 : At f of (Lib.uvarint (Lib.zigzag ((10 + (enL d i).length : Nat) : Int)))) (ha2 : At f (of + 10) (enL d i)) (hof : of + (10 + (enL d i).length) ≤ l) :
    Calls Tryz.prog 52 #[.iface 65 (.pointer (some ⟨b, 0, none⟩)), .slice (some ⟨q, 0, none⟩) 16384 16384, .agg #[.slice (some ⟨bs, s0 + a, none⟩) k c, .slice none 0 0], .int .u64 (N : Int)] w fun e w' =>
      e = .returned (.tuple #[.int .i64 (i : Int), .nilIface]) ∧ Buf w' b (some g) l f (of + (10 + (enL d i).length)) ∧ (∃ B', Row8 w' q 16384 B' ∧ ∀ j, j < 16384 → B' j < 256) ∧ Reg w' bs s0 n (rdf F d a i) ∧ Kept (fun k => k = b ∨ k = q ∨ k = bs) w w' := by
  have hlq := hq.lt
  obtain ⟨hbl, hgl, hgb⟩ := buf_lt h
  have hbsl : bs < w.heap.size := cell_lt (hr.c 0 (by omega))
  have hi1 := hch.pos1 hk0
  have hlen1 : 1 ≤ (enL d i).length := by have := enL_lt (d := d) hi1; omega
  have hpos := Chunk.pos (fun j hj => by have := hd j (by have := hch.le; omega); omega) hch.fit
  obtain ⟨W1, hW1⟩ : ∃ W1, W1 = w.alloc (.cells #[.slice (some ⟨bs, s0 + a, none⟩) k c, .slice none 0 0] 47) := ⟨_, rfl⟩
  have hs1 : W1.heap.size = w.heap.size + 1 := by rw [hW1]; simp
  have hk1 : Kept (fun _ => False) w W1 := Kept.le (by rw [hW1]; exact (Below.refl _ _).alloc (Nat.le_refl _) _)
  have hib : Ib W1 w.heap.size bs (s0 + a) k c := by rw [hW1]; exact heap_alloc_new w _
  have HRI := Lib.hid (readInt_any b g q l of (10 + (enL d i).length) f B W1 (h.kept hk1 (fun h => h) (fun _ _ h => h)) (hq.kept hk1 (fun h => h)) hqb hqg hB hf (by omega) (by omega) ha1)
  have HR := Lib.hid (hr.kept hk1 (fun h => h)); have HIB := Lib.hid hib; have HK1 := Lib.hid hk1; have HW1 := Lib.hid hW1; have HA2 := Lib.hid ha2; have HD := Lib.hid hd; have HF := Lib.hid hf; have HB := Lib.hid hB; have HCH := Lib.hid hch; have HS1 := Lib.hid hs1
  clear h hq hr hib hk1 hW1 ha1 ha2 hd hf hB hs1
  go_enter Tryz.func52, Tryz.ntmps52
  go_wp2_with fail
  rw [← HW1.out]
  refine HRI.out.mono ?_
  rintro _ w2 ⟨rfl, hB2, hR2, hk2⟩
  clear HRI HW1
  have hlt2 := putf_lt (o := 0) (n := 10) HB.out (fun i hi => HF.out (of + i) (by omega) : ∀ i, i < 10 → (fun i => f (of + i)) i < 256)
  have HRF := Lib.hid (readfull_any b g q l (of + 10) 10 (enL d i).length 16384 16374 f _ w2 hB2 hR2 hqb hqg hlen1 (by omega) (by omega) (by omega) (by omega))
  have hlt3 := putf_lt (o := 10) (n := (enL d i).length) hlt2 (fun j hj => HF.out (of + 10 + j) (by omega) : ∀ j, j < (enL d i).length → (fun j => f (of + 10 + j)) j < 256)
  have hat3 : At (putf (putf B 0 10 (fun i => f (of + i))) 10 (enL d i).length (fun j => f (of + 10 + j))) 10 (enL d i) := HA2.out.congr fun j hj => by
    conv => lhs; unfold putf
    rw [if_pos (by omega)]; congr 2; omega
  have HK2 := Lib.hid hk2; have HL3 := Lib.hid hlt3; have HA3 := Lib.hid hat3
  clear hB2 hR2 hk2 hlt2 hlt3 hat3 HB
  have hsz1 : ¬ ((10 : Int) + ((enL d i).length : Int) < 0) := by omega
  go_wp2_with fail
  refine HRF.out.mono ?_
  rintro _ w3 ⟨rfl, hB3, hR3, hk3⟩
  clear HRF
  have hk13 : Kept (fun k => k = b ∨ k = q) W1 w3 := HK2.out.trans hk3 (fun _ _ h => h)
  have hlw : w.heap.size < W1.heap.size := by rw [HS1.out]; omega
  have hib3 : Ib w3 w.heap.size bs (s0 + a) k c := HIB.out.kept hk13 (fun h => by omega)
  have hrg3 : Reg w3 bs s0 n F := HR.out.kept hk13 (fun h => h.elim hbb hbq)
  have HLEN := Lib.hid (len_at w.heap.size 0 k c (some ⟨bs, s0 + a, none⟩) w3 (by omega) hib3.c0 hib3.c1)
  have HB3 := Lib.hid hB3; have HR3 := Lib.hid hR3; have HK13 := Lib.hid hk13; have HI3 := Lib.hid hib3; have HG3 := Lib.hid hrg3
  clear hB3 hR3 hk3 hk13 hib3 hrg3 HK2 HIB HR HA2 HF
  go_wp2_with fail
  refine HLEN.out.mono ?_
  rintro _ w4 ⟨rfl, n4, hw4⟩
  clear HLEN
  subst hw4
  go_wp2_with fail
  go_loopg [8, 9, 13] (i + 1) (fun gk nv ev pv wr => (∃ j : Nat, j ≤ i ∧ nv = .int .i64 (j : Int) ∧ ev = .nilIface ∧ pv = .int .i64 ((10 + (enL d j).length : Nat) : Int) ∧ Reg wr bs s0 n (rdf F d a j) ∧ Kept (fun k => k = bs) w3 wr) ∧ i - (intOf nv).toNat < gk)
  case atStart => exact ⟨⟨0, by omega, rfl, rfl, rfl, by rw [rdf_zero]; exact HG3.out.kept (kept_drew w3 n4) (fun h => h), (Kept.refl _ _).drew n4⟩, by simp [intOf]⟩
  case round =>
    obtain ⟨⟨j, hji, rfl, rfl, rfl, hrg, hkp⟩, hgk⟩ := hrel
    simp only [intOf, Int.toNat_natCast] at hgk
    have hbw : bs ≠ w.heap.size := by omega
    by_cases hlt : j < i
    · have hfit := HCH.out.fit j hlt
      have hjk : j < k := Nat.lt_of_lt_of_le hlt HCH.out.le
      have hdj := HD.out j hjk
      have hl1 := enL_lt (d := d) hlt
      have hR : Row8 wr q 16384 _ := HR3.out.kept hkp (Ne.symm hbq)
      have hI : Ib wr w.heap.size bs (s0 + a) k c := HI3.out.kept hkp (Ne.symm hbw)
      have hul := uvarint10 (d j) (by omega)
      obtain ⟨rest, hrest⟩ := bl_pre (n := 16384 - (10 + (enL d j).length)) (enL_at hlt HA3.out) (by omega)
      have hdec := dec_u (d j) (by omega) rest
      rw [← hrest] at hdec
      have HV := Lib.hid (Tryz.binary_Uvarint q (10 + (enL d j).length) (16384 - (10 + (enL d j).length)) (16384 - (10 + (enL d j).length)) _ wr (bl_len _ _ _) (hR.byte HL3.out (10 + (enL d j).length) (16384 - (10 + (enL d j).length)) (by omega)))
      rw [hdec] at HV
      have hcell := hrg.c (a + j) (by omega)
      have hfz := hrg.z (a + j) (by omega)
      have HS := Lib.hid (set_at w.heap.size 0 bs (s0 + a) k c wr hI.c0 j (d j) hjk (by omega) _ (by rw [Nat.add_assoc]; exact hcell) (by rw [Nat.add_assoc]; exact hfz))
      have hset := hrg.set (i := a + j) (by omega) ((d j : Nat) : Int)
      rw [rdf_succ, ← Nat.add_assoc] at hset
      have hks : Kept (fun k => k = bs) w3 (wr.setCell ⟨bs, s0 + a + j, none⟩ (.int .i32 ((d j : Nat) : Int))) := hkp.setCell (fun _ => rfl) _
      have hdw : IntKind.i64.wrap ((d j : Nat) : Int) = ((d j : Nat) : Int) := by rw [IntKind.wrap_i64]; omega
      have c1 : ¬ ((k : Int) ≤ (j : Int)) := by omega
      have c2 : ¬ ((N : Int) ≤ ((d j : Nat) : Int)) := by omega
      have c3 : (10 : Int) + ((enL d j).length : Int) < 10 + ((enL d i).length : Int) := by omega
      have c4 : ¬ (16384 = 10 + (enL d j).length) := by omega
      have hwr : IntKind.i64.wrap ((10 : Int) + ((enL d j).length : Int) + ((Lib.uvarint (d j)).length : Int)) = ((10 + (enL d (j + 1)).length : Nat) : Int) := by
        rw [IntKind.wrap_i64]; simp only [enL, List.length_append]; omega
      have HSET := Lib.hid hset; have HKS := Lib.hid hks
      clear hset hks hrg hkp hR hI hrest hdec hcell hfz
      go_wp2_with fail
      refine HV.out.mono ?_
      rintro _ wv ⟨rfl, hwv⟩
      have hwv' := hwv.symm
      clear hwv
      subst hwv'
      go_wp2_with fail
      refine HS.out.mono ?_
      rintro _ ws ⟨rfl, hws⟩
      subst hws
      go_wp2_with fail
      go_roundg (i - (j + 1) + 1)
      case rel => exact ⟨⟨j + 1, by omega, by go_num, rfl, by first | rfl | exact congrArg _ hwr, HSET.out, HKS.out⟩, by simp only [intOf]; go_num⟩
      case measure => omega
    · obtain rfl : j = i := by omega
      have HRG := Lib.hid hrg; have HKP := Lib.hid hkp
      clear hrg hkp
      go_wp2
      go_ret2
      have hb' : Buf wr b (some g) l f (of + (10 + (enL d j).length)) := by
        have := HB3.out.kept HKP.out (Ne.symm hbb) (fun g' hg' e => hbg (by rw [Option.some.inj hg', e]))
        rw [Nat.add_assoc] at this; exact this
      refine ⟨rfl, hb', ⟨_, HR3.out.kept HKP.out (Ne.symm hbq), HL3.out⟩, HRG.out, ?_⟩
      exact (((HK1.out.mono fun _ _ h => h.elim).trans HK13.out (fun _ _ h => h.elim .inl fun h => .inr (.inl h))).trans HKP.out (fun _ _ h => .inr (.inr h)))
end Go.Proofs.YtpkgkppehefibaaGreatDoor
