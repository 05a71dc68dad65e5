/- Lemmas on which the proof of Rows.FnCodecCardSaid rests: no statement of the seat is proved in this file. Conditions: each lemma's own hypotheses, no others. -/
import Derived.Test.YtimonhimfioohaaGreatDoorM03
import Derived.WalkSpells
import Derived.StillTailTactics
/-! impl.media. -/
namespace Go.Proofs.YtimonhimfioohaaGreatDoor
open Go Go.RowKit Go.PlainAid Kn
/-- Block g is a description of a medium whose attributes read as l. -/
def MedBlk (F : Nat → Prop) (w : World) (g : Nat) (l : List Att) : Prop := ∃ cs : Array Value, w.heap[g]? = some (.cells cs 182 (0, 0)) ∧ ∃ A c, cs[9]? = some (.slice A l.length c) ∧ kAtt.SV F w (.slice A l.length c) l
theorem MedBlk.step {F : Nat → Prop} {w w' : World} {g : Nat} {l : List Att} (h : MedBlk F w g l) (hb : Below w.heap.size w w') : MedBlk F w' g l := by
  obtain ⟨cs, h1, A, c, h2, h3⟩ := h
  exact ⟨cs, heap_below hb h1, A, c, h2, h3.step (by decide) hb⟩
/-- The bounds that impl's conversions want of a medium. -/
def fMedI (x : Med) : Prop := x.protos.length ≤ 2147483647 ∧ x.formats.length ≤ 2147483647 ∧ x.bw.length ≤ 2147483647 ∧ x.atts.length ≤ 2147483647
set_option maxRecDepth 20000 in
set_option maxHeartbeats 6400000 in
theorem imedia (x : Med) (cs : List Value) (F : Nat → Prop) (w : World) (hk : kMed.K F w x cs) (hf : fMedI x) : Calls Tryz.prog 59 #[.agg cs.toArray] w fun e w' => Below w.heap.size w w' ∧ ∃ g, e = .returned (.pointer (some ⟨g, 0, Option.none⟩)) ∧ w.heap.size ≤ g ∧ MedBlk (fun b => w.heap.size ≤ b) w' g x.atts := by
  obtain ⟨v2, v3, v4, v5, v6, v7, v8, v9, rfl, h2, h3, h4, h5, h6, h7, h8, h9⟩ := kMed_open hk
  obtain ⟨A2, c2, rfl, -⟩ := id h2
  obtain ⟨A3, c3, rfl, -⟩ := id h3
  obtain ⟨A4, c4, rfl, -⟩ := id h4
  obtain ⟨A5, c5, rfl, -⟩ := id h5
  obtain ⟨A6, c6, rfl, -⟩ := id h6
  obtain ⟨A7, c7, rfl, -⟩ := id h7
  obtain ⟨A8, c8, rfl, -⟩ := id h8
  obtain ⟨A9, c9, rfl, -⟩ := id h9
  obtain ⟨hl1, hl2, hl3, hl4⟩ := hf
  have HV2 := Bx.mk h2
  have HV3 := Bx.mk h3
  have HV4 := Bx.mk h4
  have HV5 := Bx.mk h5
  have HV6 := Bx.mk h6
  have HV7 := Bx.mk h7
  have HV8 := Bx.mk h8
  have HV9 := Bx.mk h9
  clear hk h2 h3 h4 h5 h6 h7 h8 h9
  have hB0 : ∀ (i : Nat) (u : Value), #[.string x.name, .int .i64 x.port, .slice A2 x.ports.length c2, .slice A3 x.protos.length c3, .slice A4 x.formats.length c4, .slice A5 x.title.length c5, .slice A6 x.con.length c6, .slice A7 x.bw.length c7, .slice A8 x.key.length c8, .slice A9 x.atts.length c9][i]? = some u → (w.alloc (.cells #[.string x.name, .int .i64 x.port, .slice A2 x.ports.length c2, .slice A3 x.protos.length c3, .slice A4 x.formats.length c4, .slice A5 x.title.length c5, .slice A6 x.con.length c6, .slice A7 x.bw.length c7, .slice A8 x.key.length c8, .slice A9 x.atts.length c9] 54)).drew.cell? ⟨w.heap.size, i, Option.none⟩ = some u := fun i u h => (blk_cell (heap_alloc_new w (.cells #[.string x.name, .int .i64 x.port, .slice A2 x.ports.length c2, .slice A3 x.protos.length c3, .slice A4 x.formats.length c4, .slice A5 x.title.length c5, .slice A6 x.con.length c6, .slice A7 x.bw.length c7, .slice A8 x.key.length c8, .slice A9 x.atts.length c9] 54)) i).trans h
  have HB := Bx.mk hB0
  have HW := Bx.mk (Below.drew (below_alloc1 (Below.refl w.heap.size w) (.cells #[.string x.name, .int .i64 x.port, .slice A2 x.ports.length c2, .slice A3 x.protos.length c3, .slice A4 x.formats.length c4, .slice A5 x.title.length c5, .slice A6 x.con.length c6, .slice A7 x.bw.length c7, .slice A8 x.key.length c8, .slice A9 x.atts.length c9] 54)))
  clear hB0
  go_enter Tryz.func59, Tryz.ntmps59
  go_upto_region 1 with fail
  refine region_app (by kernel_rfl) (by kernel_rfl) (by kernel_rfl) (by kernel_rfl) (fun f => #[.agg #[.string x.name, .int .i64 x.port, .slice A2 x.ports.length c2, .slice A3 x.protos.length c3, .slice A4 x.formats.length c4, .slice A5 x.title.length c5, .slice A6 x.con.length c6, .slice A7 x.bw.length c7, .slice A8 x.key.length c8, .slice A9 x.atts.length c9], .pointer (some ⟨w.heap.size, 0, Option.none⟩), f 2, f 3, f 4, f 5, f 6, f 7, f 8, f 9, f 10, f 11, f 12, f 13, f 14, f 15, f 16, f 17, f 18, f 19, f 20, f 21, f 22, f 23, f 24, f 25, f 26, f 27, f 28, f 29, f 30, f 31, f 32, f 33, f 34]) (fun f => by kernel_rfl) 32 (Option.none) (by kernel_rfl) ⟨by kernel_rfl, by simp, fun s hs => by cases hs⟩ (fun i => match i with | 0 => Mono.is (.pointer (some ⟨w.heap.size, 0, Option.none⟩)) | 1 => Mono.is (.string x.name) | 2 => Mono.is (.pointer (some ⟨w.heap.size, 1, Option.none⟩)) | 3 => Mono.is (.int .i64 x.port) | 4 => Mono.is (.pointer (some ⟨w.heap.size, 2, Option.none⟩)) | 5 => Mono.is (.slice A2 x.ports.length c2) | 6 => Mono.sat (fun v => ∃ p, v = .pointer p) | 7 => Mono.sat (fun v => ∃ p, v = .agg #[.int .i64 x.port, .pointer p]) | 8 => Mono.is (.pointer (some ⟨w.heap.size, 3, Option.none⟩)) | 9 => Mono.is (.slice A3 x.protos.length c3) | 10 => Mono.sat (fun v => ∃ A c, v = .slice A x.protos.length c) | 11 => Mono.is (.pointer (some ⟨w.heap.size, 4, Option.none⟩)) | 12 => Mono.is (.slice A4 x.formats.length c4) | 13 => Mono.sat (fun v => ∃ A c, v = .slice A x.formats.length c) | 14 => Mono.sat (fun v => ∃ p A c A' c', v = .agg #[.string x.name, .int .i64 x.port, .pointer p, .slice A x.protos.length c, .slice A' x.formats.length c']) | 15 => Mono.is (.pointer (some ⟨w.heap.size, 5, Option.none⟩)) | 16 => Mono.is (.slice A5 x.title.length c5) | 17 => Mono.sat (fun v => ∃ p, v = .pointer p) | 18 => Mono.is (.pointer (some ⟨w.heap.size, 6, Option.none⟩)) | 19 => Mono.is (.slice A6 x.con.length c6) | 20 => Mono.sat (fun v => ∃ p, v = .pointer p) | 21 => Mono.is (.pointer (some ⟨w.heap.size, 7, Option.none⟩)) | 22 => Mono.is (.slice A7 x.bw.length c7) | 23 => Mono.sat (fun v => ∃ A c, v = .slice A x.bw.length c) | 24 => Mono.is (.pointer (some ⟨w.heap.size, 8, Option.none⟩)) | 25 => Mono.is (.slice A8 x.key.length c8) | 26 => Mono.sat (fun v => ∃ p, v = .pointer p) | 27 => Mono.is (.pointer (some ⟨w.heap.size, 9, Option.none⟩)) | 28 => Mono.is (.slice A9 x.atts.length c9) | 29 => ⟨fun v w' => ∃ A c, v = .slice A x.atts.length c ∧ kAtt.SV (fun b => w.heap.size ≤ b) w' (.slice A x.atts.length c) x.atts, fun ⟨A, c, h1, h2⟩ hb => ⟨A, c, h1, h2.step (by decide) hb⟩⟩ | 30 => ⟨fun v w' => ∃ p A c A' c' p2 p3 B d p4 E f, v = .agg #[.string x.name, .int .i64 x.port, .pointer p, .slice A x.protos.length c, .slice A' x.formats.length c', .pointer p2, .pointer p3, .slice B x.bw.length d, .pointer p4, .slice E x.atts.length f] ∧ kAtt.SV (fun b => w.heap.size ≤ b) w' (.slice E x.atts.length f) x.atts, fun ⟨p, A, c, A', c', p2, p3, B, d, p4, E, f, h1, h2⟩ hb => ⟨p, A, c, A', c', p2, p3, B, d, p4, E, f, h1, h2.step (by decide) hb⟩⟩ | 31 => ⟨fun v w' => ∃ g, v = .pointer (some ⟨g, 0, Option.none⟩) ∧ w.heap.size ≤ g ∧ MedBlk (fun b => w.heap.size ≤ b) w' g x.atts, fun ⟨g, h1, h2, h3⟩ hb => ⟨g, h1, h2, h3.step hb⟩⟩ | _ => Mono.is undef) [] (fun i => match i with  | _ => Option.none) (by kernel_rfl) (by kernel_rfl) (fun v w' => Below w.heap.size w w' ∧ ∃ g, v = .pointer (some ⟨g, 0, Option.none⟩) ∧ w.heap.size ≤ g ∧ MedBlk (fun b => w.heap.size ≤ b) w' g x.atts) (fun _ => True) ?_ ?_ ?_ ?_ ?_ (by decide)
  · intro i o ho hanc a wx hb hfr hv
    match i, ho with
    | 0, ho =>
      rw [← Array.getElem?_toList] at ho
      simp only [List.getElem?_cons_zero, Option.some.injEq] at ho
      subst ho
      have e1 : a.tmps[1]?.getD undef = .pointer (some ⟨w.heap.size, 0, Option.none⟩) := (eval_tmp a 1).trans (hfr 1 (by decide +kernel))
      clear hfr hv hanc hb
      refine mstep_val (.pointer (some ⟨w.heap.size, 0, Option.none⟩)) (fun K' hK => ?_) (by exact rfl)
      go_simp
      exact hK
    | 1, ho =>
      rw [← Array.getElem?_toList] at ho
      simp only [List.getElem?_cons_zero, List.getElem?_cons_succ, Option.some.injEq] at ho
      subst ho
      have e3 := (eval_tmp a 3).trans (hv 0 _ rfl rfl _ 3 rfl rfl)
      have c0 := cell_below hb (HB.out 0 _ rfl)
      clear hfr hv hanc hb
      refine mstep_val (.string x.name) (fun K' hK => ?_) (by exact rfl)
      go_simp
      exact hK
    | 2, ho =>
      rw [← Array.getElem?_toList] at ho
      simp only [List.getElem?_cons_zero, List.getElem?_cons_succ, Option.some.injEq] at ho
      subst ho
      have e1 : a.tmps[1]?.getD undef = .pointer (some ⟨w.heap.size, 0, Option.none⟩) := (eval_tmp a 1).trans (hfr 1 (by decide +kernel))
      clear hfr hv hanc hb
      refine mstep_val (.pointer (some ⟨w.heap.size, 1, Option.none⟩)) (fun K' hK => ?_) (by exact rfl)
      go_simp
      exact hK
    | 3, ho =>
      rw [← Array.getElem?_toList] at ho
      simp only [List.getElem?_cons_zero, List.getElem?_cons_succ, Option.some.injEq] at ho
      subst ho
      have e5 := (eval_tmp a 5).trans (hv 0 _ rfl rfl _ 5 rfl rfl)
      have c0 := cell_below hb (HB.out 1 _ rfl)
      clear hfr hv hanc hb
      refine mstep_val (.int .i64 x.port) (fun K' hK => ?_) (by exact rfl)
      go_simp
      exact hK
    | 4, ho =>
      rw [← Array.getElem?_toList] at ho
      simp only [List.getElem?_cons_zero, List.getElem?_cons_succ, Option.some.injEq] at ho
      subst ho
      have e1 : a.tmps[1]?.getD undef = .pointer (some ⟨w.heap.size, 0, Option.none⟩) := (eval_tmp a 1).trans (hfr 1 (by decide +kernel))
      clear hfr hv hanc hb
      refine mstep_val (.pointer (some ⟨w.heap.size, 2, Option.none⟩)) (fun K' hK => ?_) (by exact rfl)
      go_simp
      exact hK
    | 5, ho =>
      rw [← Array.getElem?_toList] at ho
      simp only [List.getElem?_cons_zero, List.getElem?_cons_succ, Option.some.injEq] at ho
      subst ho
      have e7 := (eval_tmp a 7).trans (hv 0 _ rfl rfl _ 7 rfl rfl)
      have c0 := cell_below hb (HB.out 2 _ rfl)
      clear hfr hv hanc hb
      refine mstep_val (.slice A2 x.ports.length c2) (fun K' hK => ?_) (by exact rfl)
      go_simp
      exact hK
    | 6, ho =>
      rw [← Array.getElem?_toList] at ho
      simp only [List.getElem?_cons_zero, List.getElem?_cons_succ, Option.some.injEq] at ho
      subst ho
      have e8 := (eval_tmp a 8).trans (hv 0 _ rfl rfl _ 8 rfl rfl)
      refine mstep_gen (fun v w' => Below wx.heap.size wx w' ∧ ∃ p, v = .pointer p) (fun K' hK => ?_) (fun v w' hG => ?_)
      · clear hfr hv hanc
        have hK' := Bx.mk hK
        have HY := Bx.mk (HV2.out.step (by decide) (below_trans HW.out hb))
        have HL := Bx.mk (below_trans HW.out hb).size
        clear hK hb
        go_simp
        refine (inumber _ _ F _ HY.out).mono ?_
        rintro e w2 ⟨hb, p, rfl⟩
        exact hK'.out _ _ ⟨hb, p, rfl⟩
      · exact ⟨hG.2, hG.1⟩
    | 7, ho =>
      rw [← Array.getElem?_toList] at ho
      simp only [List.getElem?_cons_zero, List.getElem?_cons_succ, Option.some.injEq] at ho
      subst ho
      have e6 := (eval_tmp a 6).trans (hv 0 _ rfl rfl _ 6 rfl rfl)
      obtain ⟨p, e9⟩ := (hv 1 _ rfl rfl _ 9 rfl rfl)
      replace e9 := (eval_tmp a 9).trans e9
      refine mstep_gen (fun v w' => w' = wx ∧ v = .agg #[.int .i64 x.port, .pointer p]) (fun K' hK => ?_) (fun v w' hG => ?_)
      · clear hfr hv hanc
        clear hb
        go_simp
        exact hK _ _ ⟨rfl, rfl⟩
      · obtain ⟨rfl, rfl⟩ := hG
        exact ⟨⟨_, rfl⟩, Below.refl _ _⟩
    | 8, ho =>
      rw [← Array.getElem?_toList] at ho
      simp only [List.getElem?_cons_zero, List.getElem?_cons_succ, Option.some.injEq] at ho
      subst ho
      have e1 : a.tmps[1]?.getD undef = .pointer (some ⟨w.heap.size, 0, Option.none⟩) := (eval_tmp a 1).trans (hfr 1 (by decide +kernel))
      clear hfr hv hanc hb
      refine mstep_val (.pointer (some ⟨w.heap.size, 3, Option.none⟩)) (fun K' hK => ?_) (by exact rfl)
      go_simp
      exact hK
    | 9, ho =>
      rw [← Array.getElem?_toList] at ho
      simp only [List.getElem?_cons_zero, List.getElem?_cons_succ, Option.some.injEq] at ho
      subst ho
      have e11 := (eval_tmp a 11).trans (hv 0 _ rfl rfl _ 11 rfl rfl)
      have c0 := cell_below hb (HB.out 3 _ rfl)
      clear hfr hv hanc hb
      refine mstep_val (.slice A3 x.protos.length c3) (fun K' hK => ?_) (by exact rfl)
      go_simp
      exact hK
    | 10, ho =>
      rw [← Array.getElem?_toList] at ho
      simp only [List.getElem?_cons_zero, List.getElem?_cons_succ, Option.some.injEq] at ho
      subst ho
      have e12 := (eval_tmp a 12).trans (hv 0 _ rfl rfl _ 12 rfl rfl)
      refine mstep_gen (fun v w' => Below wx.heap.size wx w' ∧ ∃ A c, v = .slice A x.protos.length c) (fun K' hK => ?_) (fun v w' hG => ?_)
      · clear hfr hv hanc
        have hK' := Bx.mk hK
        have HY := Bx.mk (HV3.out.step (by decide) (below_trans HW.out hb))
        have HL := Bx.mk (below_trans HW.out hb).size
        clear hK hb
        go_simp
        refine (iclone _ _ F _ HY.out (by omega)).mono ?_
        rintro e w2 ⟨hb, A, c, rfl, hs⟩
        exact hK'.out _ _ ⟨hb, A, c, rfl⟩
      · exact ⟨hG.2, hG.1⟩
    | 11, ho =>
      rw [← Array.getElem?_toList] at ho
      simp only [List.getElem?_cons_zero, List.getElem?_cons_succ, Option.some.injEq] at ho
      subst ho
      have e1 : a.tmps[1]?.getD undef = .pointer (some ⟨w.heap.size, 0, Option.none⟩) := (eval_tmp a 1).trans (hfr 1 (by decide +kernel))
      clear hfr hv hanc hb
      refine mstep_val (.pointer (some ⟨w.heap.size, 4, Option.none⟩)) (fun K' hK => ?_) (by exact rfl)
      go_simp
      exact hK
    | 12, ho =>
      rw [← Array.getElem?_toList] at ho
      simp only [List.getElem?_cons_zero, List.getElem?_cons_succ, Option.some.injEq] at ho
      subst ho
      have e14 := (eval_tmp a 14).trans (hv 0 _ rfl rfl _ 14 rfl rfl)
      have c0 := cell_below hb (HB.out 4 _ rfl)
      clear hfr hv hanc hb
      refine mstep_val (.slice A4 x.formats.length c4) (fun K' hK => ?_) (by exact rfl)
      go_simp
      exact hK
    | 13, ho =>
      rw [← Array.getElem?_toList] at ho
      simp only [List.getElem?_cons_zero, List.getElem?_cons_succ, Option.some.injEq] at ho
      subst ho
      have e15 := (eval_tmp a 15).trans (hv 0 _ rfl rfl _ 15 rfl rfl)
      refine mstep_gen (fun v w' => Below wx.heap.size wx w' ∧ ∃ A c, v = .slice A x.formats.length c) (fun K' hK => ?_) (fun v w' hG => ?_)
      · clear hfr hv hanc
        have hK' := Bx.mk hK
        have HY := Bx.mk (HV4.out.step (by decide) (below_trans HW.out hb))
        have HL := Bx.mk (below_trans HW.out hb).size
        clear hK hb
        go_simp
        refine (iclone _ _ F _ HY.out (by omega)).mono ?_
        rintro e w2 ⟨hb, A, c, rfl, hs⟩
        exact hK'.out _ _ ⟨hb, A, c, rfl⟩
      · exact ⟨hG.2, hG.1⟩
    | 14, ho =>
      rw [← Array.getElem?_toList] at ho
      simp only [List.getElem?_cons_zero, List.getElem?_cons_succ, Option.some.injEq] at ho
      subst ho
      have e4 := (eval_tmp a 4).trans (hv 0 _ rfl rfl _ 4 rfl rfl)
      obtain ⟨p, e10⟩ := (hv 1 _ rfl rfl _ 10 rfl rfl)
      replace e10 := (eval_tmp a 10).trans e10
      obtain ⟨A, c, e13⟩ := (hv 2 _ rfl rfl _ 13 rfl rfl)
      replace e13 := (eval_tmp a 13).trans e13
      obtain ⟨A', c', e16⟩ := (hv 3 _ rfl rfl _ 16 rfl rfl)
      replace e16 := (eval_tmp a 16).trans e16
      refine mstep_gen (fun v w' => w' = wx ∧ v = .agg #[.string x.name, .int .i64 x.port, .pointer p, .slice A x.protos.length c, .slice A' x.formats.length c']) (fun K' hK => ?_) (fun v w' hG => ?_)
      · clear hfr hv hanc
        clear hb
        go_simp
        exact hK _ _ ⟨rfl, rfl⟩
      · obtain ⟨rfl, rfl⟩ := hG
        exact ⟨⟨_, _, _, _, _, rfl⟩, Below.refl _ _⟩
    | 15, ho =>
      rw [← Array.getElem?_toList] at ho
      simp only [List.getElem?_cons_zero, List.getElem?_cons_succ, Option.some.injEq] at ho
      subst ho
      have e1 : a.tmps[1]?.getD undef = .pointer (some ⟨w.heap.size, 0, Option.none⟩) := (eval_tmp a 1).trans (hfr 1 (by decide +kernel))
      clear hfr hv hanc hb
      refine mstep_val (.pointer (some ⟨w.heap.size, 5, Option.none⟩)) (fun K' hK => ?_) (by exact rfl)
      go_simp
      exact hK
    | 16, ho =>
      rw [← Array.getElem?_toList] at ho
      simp only [List.getElem?_cons_zero, List.getElem?_cons_succ, Option.some.injEq] at ho
      subst ho
      have e18 := (eval_tmp a 18).trans (hv 0 _ rfl rfl _ 18 rfl rfl)
      have c0 := cell_below hb (HB.out 5 _ rfl)
      clear hfr hv hanc hb
      refine mstep_val (.slice A5 x.title.length c5) (fun K' hK => ?_) (by exact rfl)
      go_simp
      exact hK
    | 17, ho =>
      rw [← Array.getElem?_toList] at ho
      simp only [List.getElem?_cons_zero, List.getElem?_cons_succ, Option.some.injEq] at ho
      subst ho
      have e19 := (eval_tmp a 19).trans (hv 0 _ rfl rfl _ 19 rfl rfl)
      refine mstep_gen (fun v w' => Below wx.heap.size wx w' ∧ ∃ p, v = .pointer p) (fun K' hK => ?_) (fun v w' hG => ?_)
      · clear hfr hv hanc
        have hK' := Bx.mk hK
        have HY := Bx.mk (HV5.out.step (by decide) (below_trans HW.out hb))
        have HL := Bx.mk (below_trans HW.out hb).size
        clear hK hb
        go_simp
        refine (imaybe50 _ _ F _ HY.out).mono ?_
        rintro e w2 ⟨hb, p, rfl⟩
        exact hK'.out _ _ ⟨hb, p, rfl⟩
      · exact ⟨hG.2, hG.1⟩
    | 18, ho =>
      rw [← Array.getElem?_toList] at ho
      simp only [List.getElem?_cons_zero, List.getElem?_cons_succ, Option.some.injEq] at ho
      subst ho
      have e1 : a.tmps[1]?.getD undef = .pointer (some ⟨w.heap.size, 0, Option.none⟩) := (eval_tmp a 1).trans (hfr 1 (by decide +kernel))
      clear hfr hv hanc hb
      refine mstep_val (.pointer (some ⟨w.heap.size, 6, Option.none⟩)) (fun K' hK => ?_) (by exact rfl)
      go_simp
      exact hK
    | 19, ho =>
      rw [← Array.getElem?_toList] at ho
      simp only [List.getElem?_cons_zero, List.getElem?_cons_succ, Option.some.injEq] at ho
      subst ho
      have e21 := (eval_tmp a 21).trans (hv 0 _ rfl rfl _ 21 rfl rfl)
      have c0 := cell_below hb (HB.out 6 _ rfl)
      clear hfr hv hanc hb
      refine mstep_val (.slice A6 x.con.length c6) (fun K' hK => ?_) (by exact rfl)
      go_simp
      exact hK
    | 20, ho =>
      rw [← Array.getElem?_toList] at ho
      simp only [List.getElem?_cons_zero, List.getElem?_cons_succ, Option.some.injEq] at ho
      subst ho
      have e22 := (eval_tmp a 22).trans (hv 0 _ rfl rfl _ 22 rfl rfl)
      refine mstep_gen (fun v w' => Below wx.heap.size wx w' ∧ ∃ p, v = .pointer p) (fun K' hK => ?_) (fun v w' hG => ?_)
      · clear hfr hv hanc
        have hK' := Bx.mk hK
        have HY := Bx.mk (HV6.out.step (by decide) (below_trans HW.out hb))
        have HL := Bx.mk (below_trans HW.out hb).size
        clear hK hb
        go_simp
        refine (icon _ _ F _ HY.out).mono ?_
        rintro e w2 ⟨hb, p, rfl⟩
        exact hK'.out _ _ ⟨hb, p, rfl⟩
      · exact ⟨hG.2, hG.1⟩
    | 21, ho =>
      rw [← Array.getElem?_toList] at ho
      simp only [List.getElem?_cons_zero, List.getElem?_cons_succ, Option.some.injEq] at ho
      subst ho
      have e1 : a.tmps[1]?.getD undef = .pointer (some ⟨w.heap.size, 0, Option.none⟩) := (eval_tmp a 1).trans (hfr 1 (by decide +kernel))
      clear hfr hv hanc hb
      refine mstep_val (.pointer (some ⟨w.heap.size, 7, Option.none⟩)) (fun K' hK => ?_) (by exact rfl)
      go_simp
      exact hK
    | 22, ho =>
      rw [← Array.getElem?_toList] at ho
      simp only [List.getElem?_cons_zero, List.getElem?_cons_succ, Option.some.injEq] at ho
      subst ho
      have e24 := (eval_tmp a 24).trans (hv 0 _ rfl rfl _ 24 rfl rfl)
      have c0 := cell_below hb (HB.out 7 _ rfl)
      clear hfr hv hanc hb
      refine mstep_val (.slice A7 x.bw.length c7) (fun K' hK => ?_) (by exact rfl)
      go_simp
      exact hK
    | 23, ho =>
      rw [← Array.getElem?_toList] at ho
      simp only [List.getElem?_cons_zero, List.getElem?_cons_succ, Option.some.injEq] at ho
      subst ho
      have e25 := (eval_tmp a 25).trans (hv 0 _ rfl rfl _ 25 rfl rfl)
      refine mstep_gen (fun v w' => Below wx.heap.size wx w' ∧ ∃ A c, v = .slice A x.bw.length c) (fun K' hK => ?_) (fun v w' hG => ?_)
      · clear hfr hv hanc
        have hK' := Bx.mk hK
        have HY := Bx.mk (HV7.out.step (by decide) (below_trans HW.out hb))
        have HL := Bx.mk (below_trans HW.out hb).size
        clear hK hb
        go_simp
        refine (ibws _ _ F _ HY.out hl3).mono ?_
        rintro e w2 ⟨hb, A, c, rfl, hs⟩
        exact hK'.out _ _ ⟨hb, A, c, rfl⟩
      · exact ⟨hG.2, hG.1⟩
    | 24, ho =>
      rw [← Array.getElem?_toList] at ho
      simp only [List.getElem?_cons_zero, List.getElem?_cons_succ, Option.some.injEq] at ho
      subst ho
      have e1 : a.tmps[1]?.getD undef = .pointer (some ⟨w.heap.size, 0, Option.none⟩) := (eval_tmp a 1).trans (hfr 1 (by decide +kernel))
      clear hfr hv hanc hb
      refine mstep_val (.pointer (some ⟨w.heap.size, 8, Option.none⟩)) (fun K' hK => ?_) (by exact rfl)
      go_simp
      exact hK
    | 25, ho =>
      rw [← Array.getElem?_toList] at ho
      simp only [List.getElem?_cons_zero, List.getElem?_cons_succ, Option.some.injEq] at ho
      subst ho
      have e27 := (eval_tmp a 27).trans (hv 0 _ rfl rfl _ 27 rfl rfl)
      have c0 := cell_below hb (HB.out 8 _ rfl)
      clear hfr hv hanc hb
      refine mstep_val (.slice A8 x.key.length c8) (fun K' hK => ?_) (by exact rfl)
      go_simp
      exact hK
    | 26, ho =>
      rw [← Array.getElem?_toList] at ho
      simp only [List.getElem?_cons_zero, List.getElem?_cons_succ, Option.some.injEq] at ho
      subst ho
      have e28 := (eval_tmp a 28).trans (hv 0 _ rfl rfl _ 28 rfl rfl)
      refine mstep_gen (fun v w' => Below wx.heap.size wx w' ∧ ∃ p, v = .pointer p) (fun K' hK => ?_) (fun v w' hG => ?_)
      · clear hfr hv hanc
        have hK' := Bx.mk hK
        have HY := Bx.mk (HV8.out.step (by decide) (below_trans HW.out hb))
        have HL := Bx.mk (below_trans HW.out hb).size
        clear hK hb
        go_simp
        refine (imaybe56 _ _ F _ HY.out).mono ?_
        rintro e w2 ⟨hb, p, rfl⟩
        exact hK'.out _ _ ⟨hb, p, rfl⟩
      · exact ⟨hG.2, hG.1⟩
    | 27, ho =>
      rw [← Array.getElem?_toList] at ho
      simp only [List.getElem?_cons_zero, List.getElem?_cons_succ, Option.some.injEq] at ho
      subst ho
      have e1 : a.tmps[1]?.getD undef = .pointer (some ⟨w.heap.size, 0, Option.none⟩) := (eval_tmp a 1).trans (hfr 1 (by decide +kernel))
      clear hfr hv hanc hb
      refine mstep_val (.pointer (some ⟨w.heap.size, 9, Option.none⟩)) (fun K' hK => ?_) (by exact rfl)
      go_simp
      exact hK
    | 28, ho =>
      rw [← Array.getElem?_toList] at ho
      simp only [List.getElem?_cons_zero, List.getElem?_cons_succ, Option.some.injEq] at ho
      subst ho
      have e30 := (eval_tmp a 30).trans (hv 0 _ rfl rfl _ 30 rfl rfl)
      have c0 := cell_below hb (HB.out 9 _ rfl)
      clear hfr hv hanc hb
      refine mstep_val (.slice A9 x.atts.length c9) (fun K' hK => ?_) (by exact rfl)
      go_simp
      exact hK
    | 29, ho =>
      rw [← Array.getElem?_toList] at ho
      simp only [List.getElem?_cons_zero, List.getElem?_cons_succ, Option.some.injEq] at ho
      subst ho
      have e31 := (eval_tmp a 31).trans (hv 0 _ rfl rfl _ 31 rfl rfl)
      refine mstep_gen (fun v w' => Below wx.heap.size wx w' ∧ ∃ A c, v = .slice A x.atts.length c ∧ kAtt.SV (fun b => w.heap.size ≤ b) w' (.slice A x.atts.length c) x.atts) (fun K' hK => ?_) (fun v w' hG => ?_)
      · clear hfr hv hanc
        have hK' := Bx.mk hK
        have HY := Bx.mk (HV9.out.step (by decide) (below_trans HW.out hb))
        have HL := Bx.mk (below_trans HW.out hb).size
        clear hK hb
        go_simp
        refine (iatts _ _ F _ HY.out hl4).mono ?_
        rintro e w2 ⟨hb, A, c, rfl, hs⟩
        exact hK'.out _ _ ⟨hb, A, c, rfl, hs.mono fun _ h => Nat.le_trans HL.out h⟩
      · exact ⟨hG.2, hG.1⟩
    | 30, ho =>
      rw [← Array.getElem?_toList] at ho
      simp only [List.getElem?_cons_zero, List.getElem?_cons_succ, Option.some.injEq] at ho
      subst ho
      obtain ⟨p, A, c, A', c', e17⟩ := (hv 0 _ rfl rfl _ 17 rfl rfl)
      replace e17 := (eval_tmp a 17).trans e17
      obtain ⟨p2, e20⟩ := (hv 1 _ rfl rfl _ 20 rfl rfl)
      replace e20 := (eval_tmp a 20).trans e20
      obtain ⟨p3, e23⟩ := (hv 2 _ rfl rfl _ 23 rfl rfl)
      replace e23 := (eval_tmp a 23).trans e23
      obtain ⟨B, d, e26⟩ := (hv 3 _ rfl rfl _ 26 rfl rfl)
      replace e26 := (eval_tmp a 26).trans e26
      obtain ⟨p4, e29⟩ := (hv 4 _ rfl rfl _ 29 rfl rfl)
      replace e29 := (eval_tmp a 29).trans e29
      obtain ⟨E, f, e32, hsv⟩ := (hv 5 _ rfl rfl _ 32 rfl rfl)
      replace e32 := (eval_tmp a 32).trans e32
      refine mstep_gen (fun v w' => w' = wx ∧ v = .agg #[.string x.name, .int .i64 x.port, .pointer p, .slice A x.protos.length c, .slice A' x.formats.length c', .pointer p2, .pointer p3, .slice B x.bw.length d, .pointer p4, .slice E x.atts.length f]) (fun K' hK => ?_) (fun v w' hG => ?_)
      · clear hfr hv hanc
        clear hb hsv
        go_simp
        exact hK _ _ ⟨rfl, rfl⟩
      · obtain ⟨rfl, rfl⟩ := hG
        exact ⟨⟨_, _, _, _, _, _, _, _, _, _, _, _, rfl, hsv⟩, Below.refl _ _⟩
    | 31, ho =>
      rw [← Array.getElem?_toList] at ho
      simp only [List.getElem?_cons_zero, List.getElem?_cons_succ, Option.some.injEq] at ho
      subst ho
      obtain ⟨p, A, c, A', c', p2, p3, B, d, p4, E, f, e33, hsv⟩ := (hv 0 _ rfl rfl _ 33 rfl rfl)
      replace e33 := (eval_tmp a 33).trans e33
      refine mstep_gen (fun v w' => v = .pointer (some ⟨wx.heap.size, 0, Option.none⟩) ∧ w' = wx.alloc (.cells #[.string x.name, .int .i64 x.port, .pointer p, .slice A x.protos.length c, .slice A' x.formats.length c', .pointer p2, .pointer p3, .slice B x.bw.length d, .pointer p4, .slice E x.atts.length f] 182)) (fun K' hK => ?_) (fun v w' hG => ?_)
      · clear hfr hv hanc
        clear hb hsv
        go_simp
        exact hK _ _ ⟨rfl, rfl⟩
      · obtain ⟨rfl, rfl⟩ := hG
        exact ⟨⟨_, rfl, (below_trans HW.out hb).size, _, heap_alloc_new _ _, E, f, rfl, hsv.step (by decide) (below_alloc1 (Below.refl _ _) _)⟩, below_alloc1 (Below.refl _ _) _⟩
    | 32, ho => exact (not_both (by kernel_rfl) hanc).elim
    | n + 33, ho => cases ho
  · intro i hi
    cases hi
  · intro o ho a wx hb hfr hv
    rw [← Array.getElem?_toList] at ho
    simp only [List.getElem?_cons_zero, List.getElem?_cons_succ, Option.some.injEq] at ho
    subst ho
    obtain ⟨g, e34, hg1, hg2⟩ := (hv 31 _ 34 (by kernel_rfl) rfl rfl)
    replace e34 := (eval_tmp a 34).trans e34
    have HP : Bx (Below w.heap.size w wx) := ⟨below_trans HW.out hb⟩
    have HG := Bx.mk hg2
    clear hfr hv hb hg2
    refine astep_gen (fun K' hK => ?_)
    go_simp
    exact hK _ _ ⟨HP.out, g, rfl, hg1, HG.out⟩
  · intro s o hs
    cases hs
  · intro f wx hTf hP hF _
    obtain ⟨v, hv, hW, g, rfl, hg1, hg2⟩ := hP rfl
    have e2 : f 2 = .pointer (some ⟨g, 0, Option.none⟩) := hv _ 2 rfl rfl
    have HBW := Bx.mk hW
    have HG := Bx.mk hg2
    clear hTf hP hF hW hg2 hv
    dsimp only
    rw [e2]
    go_wp2
    go_ret
    exact ⟨HBW.out, g, rfl, hg1, HG.out⟩
end Go.Proofs.YtimonhimfioohaaGreatDoor
/-! Helpers for impl.session: rows of whatever cells, rows of descriptions of media; an append within a drawn region. -/
namespace Go.Proofs.YtimonhimfioohaaGreatDoor
open Go Go.RowKit Go.PlainAid Kn
/-- Elements of n cells, whatever they are. -/
def anyK (n : Nat) : Kn Unit where
  sz := n
  K := fun _ _ _ cs => cs.length = n ∧ ∀ u ∈ cs, u.oneCell' = true
  len := fun h => h.1
  one := fun h => h.2
  mono := fun _ h => h
  bound := fun h => h
  move := fun _ h => h
theorem MedBlk.mono {F F' : Nat → Prop} {w : World} {g : Nat} {l : List Att} (h : MedBlk F w g l) (hF : ∀ b, F b → F' b) : MedBlk F' w g l := by
  obtain ⟨cs, h1, A, c, h2, h3⟩ := h
  exact ⟨cs, h1, A, c, h2, h3.mono hF⟩
/-- Pointers to descriptions of media. -/
def kMB : Kn Med where
  sz := 1
  K := fun F w x cs => ∃ g, cs = [.pointer (some ⟨g, 0, Option.none⟩)] ∧ F g ∧ MedBlk F w g x.atts
  len := by rintro F w x cs ⟨g, rfl, _⟩; rfl
  one := by rintro F w x cs ⟨g, rfl, _⟩ u hu; rw [List.mem_singleton.1 hu]; rfl
  mono := by rintro F F' w x cs hF ⟨g, rfl, h1, h2⟩; exact ⟨g, rfl, hF _ h1, h2.mono hF⟩
  bound := by
    rintro F w x cs ⟨g, rfl, h1, cs, h2, A, c, h3, h4⟩
    exact ⟨g, rfl, ⟨h1, blk_lt h2⟩, cs, h2, A, c, h3, h4.bound (by decide)⟩
  move := by
    rintro F w w' x cs hb ⟨g, rfl, h1, cs, h2, A, c, h3, h4⟩
    exact ⟨g, rfl, h1, cs, (hb g h1).trans h2, A, c, h3, h4.move hb⟩
/-- Block g is a session's description whose media read as l. -/
def SesBlk (F : Nat → Prop) (w : World) (g : Nat) (l : List Med) : Prop := ∃ cs : Array Value, w.heap[g]? = some (.cells cs 148 (0, 0)) ∧ ∃ A c, cs[18]? = some (.slice A l.length c) ∧ kMB.SV F w (.slice A l.length c) l
theorem SesBlk.step {F : Nat → Prop} {w w' : World} {g : Nat} {l : List Med} (h : SesBlk F w g l) (hb : Below w.heap.size w w') : SesBlk F w' g l := by
  obtain ⟨cs, h1, A, c, h2, h3⟩ := h
  exact ⟨cs, heap_below hb h1, A, c, h2, h3.step (by decide) hb⟩
/-- Block g is a session's description under way. -/
def OutBlk (w : World) (g : Nat) (vt vz vm : Value) : Prop := ∃ cs : Array Value, w.heap[g]? = some (.cells cs 148 (0, 0)) ∧ cs[14]? = some vt ∧ cs[15]? = some vz ∧ cs[18]? = some vm
theorem OutBlk.step {w w' : World} {g : Nat} {vt vz vm : Value} (h : OutBlk w g vt vz vm) (hb : Below w.heap.size w w') : OutBlk w' g vt vz vm := by
  obtain ⟨cs, h1, h2⟩ := h
  exact ⟨cs, heap_below hb h1, h2⟩
theorem OutBlk.grown {w w' : World} {g : Nat} {vt vz vm : Value} {row : Option Nat} (h : OutBlk w g vt vz vm) (hg : w.grownBy w' row) (hne : ∀ b, row = some b → b ≠ g) : OutBlk w' g vt vz vm := by
  obtain ⟨cs, h1, h2⟩ := h
  exact ⟨cs, blk_grown h1 hg hne, h2⟩
theorem OutBlk.frozen {w : World} {g : Nat} {vt vz vm : Value} (h : OutBlk w g vt vz vm) (i : Nat) : w.frozen? ⟨g, i, Option.none⟩ = false := by
  obtain ⟨cs, h1, _⟩ := h
  exact blk_frozen h1 i
theorem OutBlk.c14 {w : World} {g : Nat} {vt vz vm : Value} (h : OutBlk w g vt vz vm) : w.cell? ⟨g, 14, Option.none⟩ = some vt := by
  obtain ⟨cs, h1, h2, _⟩ := h
  exact (blk_cell h1 _).trans h2
theorem OutBlk.c15 {w : World} {g : Nat} {vt vz vm : Value} (h : OutBlk w g vt vz vm) : w.cell? ⟨g, 15, Option.none⟩ = some vz := by
  obtain ⟨cs, h1, _, h2, _⟩ := h
  exact (blk_cell h1 _).trans h2
theorem OutBlk.c18 {w : World} {g : Nat} {vt vz vm : Value} (h : OutBlk w g vt vz vm) : w.cell? ⟨g, 18, Option.none⟩ = some vm := by
  obtain ⟨cs, h1, _, _, h2⟩ := h
  exact (blk_cell h1 _).trans h2
theorem OutBlk.set14 {w : World} {g : Nat} {vt vz vm : Value} (h : OutBlk w g vt vz vm) (v : Value) : OutBlk (w.setCell ⟨g, 14, Option.none⟩ v) g v vz vm := by
  obtain ⟨cs, h1, h2, h3, h4⟩ := h
  have hl := (Array.getElem?_eq_some_iff.1 h2).1
  exact ⟨_, blk_set h1 14 v, by simp [hl], by rw [Array.getElem?_setIfInBounds_ne (by decide)]; exact h3, by rw [Array.getElem?_setIfInBounds_ne (by decide)]; exact h4⟩
theorem OutBlk.set15 {w : World} {g : Nat} {vt vz vm : Value} (h : OutBlk w g vt vz vm) (v : Value) : OutBlk (w.setCell ⟨g, 15, Option.none⟩ v) g vt v vm := by
  obtain ⟨cs, h1, h2, h3, h4⟩ := h
  have hl := (Array.getElem?_eq_some_iff.1 h3).1
  exact ⟨_, blk_set h1 15 v, by rw [Array.getElem?_setIfInBounds_ne (by decide)]; exact h2, by simp [hl], by rw [Array.getElem?_setIfInBounds_ne (by decide)]; exact h4⟩
theorem OutBlk.set18 {w : World} {g : Nat} {vt vz vm : Value} (h : OutBlk w g vt vz vm) (v : Value) : OutBlk (w.setCell ⟨g, 18, Option.none⟩ v) g vt vz v := by
  obtain ⟨cs, h1, h2, h3, h4⟩ := h
  have hl := (Array.getElem?_eq_some_iff.1 h4).1
  exact ⟨_, blk_set h1 18 v, by rw [Array.getElem?_setIfInBounds_ne (by decide)]; exact h2, by rw [Array.getElem?_setIfInBounds_ne (by decide)]; exact h3, by simp [hl]⟩
/-- A row of one element, written out for an append. -/
def Box1 (e : TypeId) (n : Nat) (q : List Value → Prop) (v : Value) (w : World) : Prop := ∃ b cs, v = .slice (some ⟨b, 0, Option.none⟩) 1 1 ∧ n ≤ b ∧ w.heap[b]? = some (.cells cs.toArray e (0, 0)) ∧ q cs
def Mono.box1 (e : TypeId) (n : Nat) (q : List Value → World → Prop) (hq : ∀ {cs w w'}, q cs w → Below w.heap.size w w' → q cs w') : Mono :=
  ⟨fun v w => Box1 e n (fun cs => q cs w) v w, fun ⟨b, cs, h1, h2, h3, h4⟩ hb => ⟨b, cs, h1, h2, heap_below hb h3, hq h4 hb⟩⟩
section
variable {P : Program} {ops : Array Oper} {rest : List Oper} {o : Oper} {a : Act} {Q : Exit → Act → World → Prop} {α : Type}
/-- append to a row of the call's own, what is appended lying anywhere. -/
theorem app_at (k : Kn α) {W : World} {B : Nat} (F : Nat → Prop) (hgd : o.guard = Option.none) (s x : Operand) (t e : TypeId) (z : Value) (bytes : Nat)
    (ho : o.op = .call { callee := .builtin .append, args := #[s, x], argTypes := #[t, t] })
    (ht : P.underlying t = some (.slice e)) (hinfo : (P.info? e).map (fun i => (i.zero, i.size, i.bytes)) = some (some z, k.sz, bytes)) (hz : z.cells.size = k.sz) (hs0 : 0 < k.sz) (_hb0 : 0 < bytes) (hb1 : bytes ≤ 1000)
    (v : Value) (xs : List α) (p : α) (cs : List Value) (m : Nat) (hm : xs.length = m) (n : Nat) (hs : a.eval s = v) (hx : a.eval x = .slice (some ⟨n, 0, Option.none⟩) 1 1) (hn : W.heap[n]? = some (.cells cs.toArray e (0, 0)))
    (hp : k.K (fun b => F b ∧ some b ≠ v.ownBlock) W p cs) (HO : k.Own e W B F v xs) (hB2 : B ≤ W.heap.size) (hF : ∀ b, B ≤ b → F b) (hl : m + 1 ≤ 2147483648)
    (h : ∀ A1 c1 w1, k.Own e w1 B F (.slice A1 (m + 1) c1) (xs ++ [p]) → W.grownBy w1 v.ownBlock → wpList P ops Q rest (a.put o.dst (.slice A1 (m + 1) c1)) w1) :
    wpList P ops Q (o :: rest) a W := by
  subst hm
  have hbnd : (xs.length + 1) * bytes ≤ 140737488355328 := Nat.le_trans (Nat.mul_le_mul hl hb1) (by decide)
  have HO' := HO
  obtain ⟨h0, inner, hown, hr⟩ := HO
  obtain ⟨i0, hi, hzz⟩ := Option.map_eq_some_iff.1 hinfo
  simp only [Prod.mk.injEq] at hzz
  obtain ⟨hz0, hz1, hz2⟩ := hzz
  have hcl := k.len hp
  refine wpList_append_own_at W hgd s x t ho B e i0 z k.sz bytes ht hi hz0 hz1 hz2 hz hs0 v xs.length inner hs hown ⟨n, 0, Option.none⟩ 1 1 cs hx (by rw [hcl]; simp)
    (by simpa using World.news_of_block (cs := cs.toArray) (t := e) (fr := (0, 0)) hn) (k.one hp) (by simp only [maxLen]; omega) hbnd (by omega) ?_
  intro v1 w1 hown1 hg _ hat
  have HO1 : k.Own e w1 B F v1 (xs ++ [p]) := Own.appended h0 hr hp (fun b hb => hF b (by omega)) hown1 hg (by
    rcases hat with hat | hat
    · exact .inl hat
    · exact .inr ⟨_, hat, by simp⟩)
  obtain ⟨A1, c1, rfl, _⟩ := HO1.reads
  rw [List.length_append, List.length_singleton] at HO1 ⊢
  exact h A1 c1 w1 HO1 hg
/-- The same, as one operation of a drawn region. -/
theorem app_step (k : Kn α) {W : World} {B : Nat} (F : Nat → Prop) (hgd : o.guard = Option.none) (s x : Operand) (t e : TypeId) (z : Value) (bytes : Nat)
    (ho : o.op = .call { callee := .builtin .append, args := #[s, x], argTypes := #[t, t] })
    (ht : P.underlying t = some (.slice e)) (hinfo : (P.info? e).map (fun i => (i.zero, i.size, i.bytes)) = some (some z, k.sz, bytes)) (hz : z.cells.size = k.sz) (hs0 : 0 < k.sz) (hb0 : 0 < bytes) (hb1 : bytes ≤ 1000)
    (v : Value) (xs : List α) (p : α) (cs : List Value) (m : Nat) (hm : xs.length = m) (n : Nat) (hs : a.eval s = v) (hx : a.eval x = .slice (some ⟨n, 0, Option.none⟩) 1 1) (hn : W.heap[n]? = some (.cells cs.toArray e (0, 0)))
    (hp : k.K (fun b => F b ∧ some b ≠ v.ownBlock) W p cs) (HO : k.Own e W B F v xs) (hB2 : B ≤ W.heap.size) (hF : ∀ b, B ≤ b → F b) (hl : m + 1 ≤ 2147483648)
    {Post : Value → World → Prop} (h : ∀ A1 c1 w1, k.Own e w1 B F (.slice A1 (m + 1) c1) (xs ++ [p]) → W.grownBy w1 v.ownBlock → Post (.slice A1 (m + 1) c1) w1) :
    o.wp P a W (fun a' w' => ∃ v, a' = a.put o.dst v ∧ Post v w') Q :=
  oper_of_list (ops := #[]) hgd fun _Q' hQ' => app_at k F hgd s x t e z bytes ho ht hinfo hz hs0 hb0 hb1 v xs p cs m hm n hs hx hn hp HO hB2 hF hl fun A1 c1 w1 h1 h2 => wpList_nil (hQ' _ _ ⟨_, rfl, h A1 c1 w1 h1 h2⟩)
end
/-- The bounds that impl's conversions want of a session. -/
def fSesI (x : Ses) : Prop := x.bw.length ≤ 2147483647 ∧ (x.tim.length ≤ 2147483647 ∧ ∀ t ∈ x.tim, t.reps.length ≤ 2147483647 ∧ ∀ r ∈ t.reps, r.offs.length ≤ 2147483647) ∧ x.zon.length ≤ 2147483647 ∧ x.atts.length ≤ 2147483647 ∧ x.med.length ≤ 2147483647 ∧ ∀ m ∈ x.med, fMedI m
theorem info168 : (Tryz.prog.info? 168).map (fun i => (i.zero, i.size, i.bytes)) = some (some (.agg #[.int .u64 0, .int .u64 0, .slice Option.none 0 0]), 3, 40) := by kernel_rfl
theorem info170 : (Tryz.prog.info? 170).map (fun i => (i.zero, i.size, i.bytes)) = some (some (.agg #[.int .i64 0, .int .i64 0, .slice Option.none 0 0]), 3, 40) := by kernel_rfl
theorem info172 : (Tryz.prog.info? 172).map (fun i => (i.zero, i.size, i.bytes)) = some (some (.agg #[.int .u64 0, .int .i64 0]), 2, 16) := by kernel_rfl
theorem info173 : (Tryz.prog.info? 173).map (fun i => (i.zero, i.size, i.bytes)) = some (some (.pointer Option.none), 1, 8) := by kernel_rfl
theorem anyK_mk {F : Nat → Prop} {w : World} {n : Nat} {cs : List Value} (h : cs.length = n) (h1 : cs.all Value.oneCell' = true) : (anyK n).K F w () cs := ⟨h, fun u hu => List.all_eq_true.1 h1 u hu⟩
end Go.Proofs.YtimonhimfioohaaGreatDoor
/-! sdp: zzIndex, zzSplit, splitTwo for separators of one byte. -/
namespace Go.Proofs.YtimonhimfioohaaGreatDoor
open Go Go.RowKit Go.PlainAid Kn
theorem ext_one (s : ByteArray) (k : Nat) (h : k < s.size) : (s.extract k (k + 1)).toList = [s[k]] := by
  rw [ByteArray.toList_eq, ByteArray.data_extract]
  apply List.ext_getElem?
  intro i
  rw [Array.getElem?_toList, Array.getElem?_extract]
  have hd : k < s.data.size := h
  cases i with
  | zero => simp [ByteArray.getElem_eq_getElem_data]; omega
  | succ n => simp; omega
theorem ext_is (s : ByteArray) (c : UInt8) (k : Nat) (h : k < s.size) : ((s.extract k (k + 1)).toList == [c]) = (s[k] == c) := by
  rw [ext_one s k h]; simp
set_option maxHeartbeats 400000 in
theorem index_yes (s : ByteArray) (c : UInt8) (i : Nat) (hi : i < s.size) (hc : s[i] = c) (hn : ∀ j, (h : j < i) → s[j] ≠ c) (w : World) (hs : s.size ≤ 9223372036854775806) : Calls Tryz.prog 106 #[.string s, .string ⟨#[c]⟩] w fun e w' => w = w' ∧ e = .returned (.int .i64 i) := by
  have HC := Bx.mk hc
  have HN := Bx.mk hn
  clear hc hn
  go_enter Tryz.func106, Tryz.ntmps106
  go_wp2
  go_loop [5] (fun t => ∃ k : Nat, k ≤ i ∧ t = .int .i64 k) (fun t => s.size - (intOf t).toNat)
  case atStart => exact ⟨0, by omega, rfl⟩
  case round =>
    obtain ⟨k, hk, rfl⟩ := hrel
    go_wp2
    · rename_i h _
      rw [ext_is s c k (by omega)] at h
      have : k = i := by
        rcases Nat.lt_or_ge k i with h1 | h1
        · exact absurd (by simpa using h) (HN.out k h1)
        · omega
      subst this
      go_ret
      exact ⟨rfl, rfl⟩
    · rename_i h
      rw [ext_is s c k (by omega)] at h
      have : k ≠ i := by
        rintro rfl
        rw [HC.out] at h
        simp at h
      exact ⟨⟨k + 1, by omega, by go_num⟩, by simp [intOf]; omega⟩
set_option maxHeartbeats 400000 in
theorem index_no (s : ByteArray) (c : UInt8) (hn : ∀ j, (h : j < s.size) → s[j] ≠ c) (w : World) (hs : s.size ≤ 9223372036854775806) : Calls Tryz.prog 106 #[.string s, .string ⟨#[c]⟩] w fun e w' => w = w' ∧ e = .returned (.int .i64 (-1)) := by
  have HN := Bx.mk hn
  clear hn
  go_enter Tryz.func106, Tryz.ntmps106
  go_wp2
  go_loop [5] (fun t => ∃ k : Nat, k ≤ s.size ∧ t = .int .i64 k) (fun t => s.size - (intOf t).toNat)
  case atStart => exact ⟨0, by omega, rfl⟩
  case round =>
    obtain ⟨k, hk, rfl⟩ := hrel
    go_wp2
    · rename_i h _
      rw [ext_is s c k (by omega)] at h
      have hk2 : k < s.size := by omega
      exact absurd (by simpa using h) (HN.out k hk2)
    · exact ⟨⟨k + 1, by omega, by go_num⟩, by simp only [intOf]; omega⟩
    · go_ret
      exact ⟨rfl, rfl⟩
/-- s split at each byte c. -/
inductive Spl (c : UInt8) : ByteArray → List ByteArray → Prop
  | last (s : ByteArray) (hn : ∀ j, (h : j < s.size) → s[j] ≠ c) : Spl c s [s]
  | more (s : ByteArray) (i : Nat) (hi : i < s.size) (hc : s[i] = c) (hn : ∀ j, (h : j < i) → s[j] ≠ c) {ps : List ByteArray} (h : Spl c (s.extract (i + 1) s.size) ps) : Spl c s (s.extract 0 i :: ps)
theorem size_ext (s : ByteArray) (i j : Nat) : (s.extract i j).size = min j s.size - i := by simp
theorem kStr_mk (F : Nat → Prop) (w : World) (x : ByteArray) : Kn.string.K F w x [.string x] := rfl
set_option maxRecDepth 20000 in
set_option maxHeartbeats 1600000 in
theorem split_own (s : ByteArray) (c : UInt8) (ps : List ByteArray) (h : Spl c s ps) (w : World) (hs : s.size ≤ 9000000000) (hps : ps.length ≤ 2147483648) : Calls Tryz.prog 91 #[.string s, .string ⟨#[c]⟩] w fun e w' => Below w.heap.size w w' ∧ ∃ A c, e = .returned (.slice A ps.length c) ∧ Kn.string.Own 9 w' w.heap.size (fun b => w.heap.size ≤ b) (.slice A ps.length c) ps := by
  have HS := Bx.mk h
  clear h
  go_enter Tryz.func91, Tryz.ntmps91
  go_wp2
  go_loopw [0, 5] (fun t0 out wr => ∃ (r : ByteArray) (dn rest : List ByteArray) (A : Option Addr) (m c' : Nat), t0 = .string r ∧ r.size + m ≤ s.size ∧ out = .slice A m c' ∧ dn.length = m ∧ Bx (Spl c r rest) ∧ Bx (ps = dn ++ rest) ∧ Bx (Kn.string.Own 9 wr w.heap.size (fun b => w.heap.size ≤ b) (.slice A m c') dn) ∧ Bx (Below w.heap.size w wr)) (fun t0 _ _ => match t0 with | .string r => r.size + 1 | _ => 0)
  case atStart => exact ⟨s, [], ps, Option.none, 0, 0, rfl, by omega, rfl, rfl, HS, ⟨rfl⟩, ⟨Own.nil _ _ _ _ _⟩, ⟨Below.refl _ _⟩⟩
  case round =>
    obtain ⟨r, dn, rest, A, m, c', rfl, hrm, rfl, hm, hS, hP, hO, hB⟩ := hrel
    have HSO := hS.out
    cases HSO with
    | last _ hn =>
      go_wp2_with (fail)
      refine (index_no r c hn _ (by omega)).mono ?_
      rintro e w' ⟨rfl, rfl⟩
      have HO1 := hO
      have HB1 := hB
      have HL : m + 1 ≤ 2147483648 := by have e := congrArg List.length hP.out; rw [List.length_append, List.length_singleton] at e; omega
      have HM := Bx.mk hm
      clear hO hB hm hS hn
      go_wp2_with (at_builtin; refine app_row Kn.string _ rfl _ _ 25 9 _ 16 rfl Tryz.underlying25 info9 rfl (by decide) (by decide) (by decide) (.slice A m c') dn r [.string r] m HM.out _ rfl rfl (by simp) ⟨kStr_mk _ _ _⟩ HO1 HB1 (Nat.le_refl _) HB1.out.size (fun _ h => h) HL ?_; intro A1 c1 w1 HO2 HB2 _)
      go_ret
      have e := hP.out
      have hR := HO2.out
      have hl : ps.length = m + 1 := by rw [e]; simp [HM.out]
      rw [← e] at hR
      exact ⟨HB2.out, A1, c1, by rw [hl]; rfl, by rw [hl]; exact hR⟩
    | more _ i hi hc hn h =>
      have HS1 := Bx.mk h
      go_wp2_with (fail)
      refine (index_yes r c i hi hc hn _ (by omega)).mono ?_
      rintro e w' ⟨rfl, rfl⟩
      have HO1 := hO
      have HB1 := hB
      have HL : m + 1 ≤ 2147483648 := by have e := congrArg List.length hP.out; rw [List.length_append, List.length_cons] at e; omega
      have HM := Bx.mk hm
      clear hO hB hm hS hn hc h
      go_wp2_with (at_builtin; refine app_row Kn.string _ rfl _ _ 25 9 _ 16 rfl Tryz.underlying25 info9 rfl (by decide) (by decide) (by decide) (.slice A m c') dn (r.extract 0 i) [.string (r.extract 0 i)] m HM.out _ rfl rfl (by simp) ⟨kStr_mk _ _ _⟩ HO1 HB1 (Nat.le_refl _) HB1.out.size (fun _ h => h) HL ?_; intro A1 c1 w1 HO2 HB2 _)
      refine ⟨⟨r.extract (i + 1) r.size, dn ++ [r.extract 0 i], _, A1, m + 1, c1, rfl, by rw [size_ext]; omega, rfl, by simp [HM.out], HS1, ⟨by rw [hP.out]; simp⟩, HO2, HB2⟩, ?_⟩
      show (r.extract (i + 1) r.size).size + 1 < r.size + 1
      rw [size_ext]
      omega
theorem split_calls (s : ByteArray) (c : UInt8) (ps : List ByteArray) (h : Spl c s ps) (w : World) (hs : s.size ≤ 9000000000) (hps : ps.length ≤ 2147483648) : Calls Tryz.prog 91 #[.string s, .string ⟨#[c]⟩] w (RS Kn.string ps (fun b => w.heap.size ≤ b) w) :=
  (split_own s c ps h w hs hps).mono fun _ _ ⟨hb, A, k, e, hO⟩ => ⟨hb, A, k, e, hO.reads⟩
set_option maxRecDepth 20000 in
set_option maxHeartbeats 1600000 in
theorem split2_calls (s : ByteArray) (c : UInt8) (i : Nat) (hi : i < s.size) (hc : s[i] = c) (hn : ∀ j, (h : j < i) → s[j] ≠ c) (w : World) (hs : s.size ≤ 9000000000) : Calls Tryz.prog 93 #[.string s, .string ⟨#[c]⟩] w (RS Kn.string [s.extract 0 i, s.extract (i + 1) s.size] (fun b => w.heap.size ≤ b) w) := by
  have HC := Bx.mk hc
  have HN := Bx.mk hn
  clear hc hn
  have hs1 : ∀ wx : World, (Instr.slice 9 (.string s) Option.none (some (.int .i64 i)) Option.none).run Tryz.prog wx = .ok (.string (s.extract 0 i)) wx := fun wx => by
    have := run_slice_string_h (P := Tryz.prog) (w := wx) (t := 9) (s := s) Tryz.underlying9 .i64 i (by omega) (by omega)
    simpa using this
  have hs2 : ∀ wx : World, (Instr.slice 9 (.string s) (some (.int .i64 (i + 1))) Option.none Option.none).run Tryz.prog wx = .ok (.string (s.extract (i + 1) s.size)) wx := fun wx => by
    have := run_slice_string_l (P := Tryz.prog) (w := wx) (t := 9) (s := s) Tryz.underlying9 .i64 (i + 1) (by omega) (by omega)
    simpa using this
  go_enter Tryz.func93, Tryz.ntmps93
  go_wp2_with (fail)
  refine (index_yes s c i hi HC.out HN.out _ (by omega)).mono ?_
  rintro e w' ⟨rfl, rfl⟩
  go_wp2
  have hwr : IntKind.i64.wrap ((i : Int) + 1) = i + 1 := IntWalk.i64_in _ (by omega)
  go_still_tail 9, (by kernel_rfl)
  clear hwr
  go_wp2
  go_ret
  refine ⟨Below.drew (below_alloc1 (Below.refl _ _) _), _, _, rfl, ?_⟩
  have := lit_sv w [s.extract 0 i, s.extract (i + 1) s.size] 9 (by simp)
  exact (SV.move (k := Kn.string) (fun b _ => rfl) this).mono fun b hb => by omega
end Go.Proofs.YtimonhimfioohaaGreatDoor
