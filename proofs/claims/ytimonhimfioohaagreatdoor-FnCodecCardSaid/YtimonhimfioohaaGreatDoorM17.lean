/- Lemmas on which the proof of Rows.FnCodecCardSaid rests: no statement of the seat is proved in this file. Conditions: each lemma's own hypotheses, no others. -/
import Derived.Test.YtimonhimfioohaaGreatDoorM16
import Derived.Test.YtimonhimfioohaaGreatDoorM02
/-! What works()'s reader does with the origin's line. -/
namespace Go.Proofs.YtimonhimfioohaaGreatDoor
open Go Go.RowKit Go.PlainAid Kn
set_option maxRecDepth 20000 in
set_option maxHeartbeats 3200000 in
theorem origin_calls (B lx ds cc : Nat) (t : ByteArray) (S : Array Value) (av : Addr) (w : World) (hc : RdC B lx ds cc) (ht : t = leastT) (h : RdS lx ds cc t 7 S av w) :
    Calls Tryz.prog 137 #[.pointer (some ⟨lx, 0, Option.none⟩)] w fun e w' => RdT B lx ds cc t 23 ((((((S.setIfInBounds 1 (.string (t.extract 7 8))).setIfInBounds 2 (.int .u64 1)).setIfInBounds 3 (.int .u64 1)).setIfInBounds 4 (.string (t.extract 13 15))).setIfInBounds 5 (.string (t.extract 16 19))).setIfInBounds 6 (.string (t.extract 20 21))) av w w' ∧ e = .returned (.tuple #[.func (.func 150) #[] #[], .nilIface]) := by
  have hs : t.size = 35 := by rw [ht]; exact least_size
  have HT := Bx.mk ht
  have H0 : Bx (RdT B lx ds cc t 7 S av w w) := ⟨KeepL.refl _ _ _ _, h⟩
  have HC := Bx.mk hc
  clear ht h hc
  go_enter Tryz.func137, Tryz.ntmps137
  go_upto_region 2 with (fail)
  refine region_rule2 (by kernel_rfl) (by kernel_rfl) (by kernel_rfl) (fun f0 => #[.pointer (some ⟨lx, 0, Option.none⟩), undef, .nilFunc, .nilIface, f0 4, undef, f0 6, f0 7, f0 8, f0 9, f0 10, f0 11, f0 12, f0 13, f0 14, f0 15, f0 16, f0 17, f0 18, f0 19, undef, undef, undef, undef, undef, undef, undef, undef, undef, undef, undef, undef, undef, undef, undef, undef, undef, undef, undef, undef, undef, undef, undef, undef, undef, undef, undef, undef, undef, undef, undef, undef, undef, undef, undef, undef, undef, undef, undef, undef, undef, undef, undef, undef, undef, undef, undef, undef, undef, undef, undef, undef, undef, undef, undef, undef, undef, undef, undef, undef, undef, undef, undef, undef, undef, undef, undef, undef, undef, undef, undef, undef, undef, undef, undef, undef, undef, undef, undef, undef, undef, undef, undef, undef, undef, undef, undef, undef, undef, undef, undef, undef, undef, undef, undef]) (fun f => by kernel_rfl) (fun i => match i with | 3 => some (.pointer (some ⟨ds, 0, Option.none⟩)) | 7 => some (.tuple #[.string (t.extract 7 8), .nilIface]) | 0 => some (.pointer (some ⟨lx, 0, Option.none⟩)) | 1 => some (.pointer (some ⟨lx, 0, Option.none⟩)) | 2 => some (.pointer (some ⟨lx, 0, Option.none⟩)) | 4 => some (.pointer (some ⟨lx, 0, Option.none⟩)) | 5 => some (.pointer (some ⟨lx, 0, Option.none⟩)) | 6 => some (.pointer (some ⟨lx, 2, Option.none⟩)) | 8 => some (.tuple #[.string (t.extract 7 8), .nilIface]) | 9 => some (.string (t.extract 7 8)) | 10 => some (.nilIface) | 11 => some (.pointer (some ⟨ds, 0, Option.none⟩)) | 12 => some (.pointer (some ⟨ds, 1, Option.none⟩)) | 13 => some (.pointer (some ⟨ds, 1, Option.none⟩)) | 15 => some (.nilIface) | _ => Option.none) (fun d f w' => (d 7 = false → RdT B lx ds cc t 7 S av w w') ∧ (d 7 = true → d 14 = false → RdT B lx ds cc t 9 S av w w') ∧ (d 14 = true → RdT B lx ds cc t 9 (S.setIfInBounds 1 (.string (t.extract 7 8))) av w w')) ?_ ?_ ?_
  · exact ⟨fun _ => H0.out.drew, fun h => (by cases h), fun h => (by cases h)⟩
  · intro i o ho d a wx hdi hdep hcl hfr hT hSp
    match i, ho with
    | 0, ho =>
      rw [← Array.getElem?_toList] at ho
      simp only [List.getElem?_cons_zero, Option.some.injEq] at ho
      subst ho
      have e0 : a.tmps[0]?.getD undef = .pointer (some ⟨lx, 0, Option.none⟩) := (eval_tmp a 0).trans (hfr 0 (by decide +kernel))
      clear hdi hdep hfr hT hcl
      refine op_val rfl rfl (.pointer (some ⟨lx, 0, Option.none⟩)) (fun K' hK => ?_) ⟨_, rfl, fun u hu => by cases hu; rfl, hSp⟩
      clear hSp
      go_simp
      exact hK
    | 1, ho =>
      rw [← Array.getElem?_toList] at ho
      simp only [List.getElem?_cons_zero, List.getElem?_cons_succ, Option.some.injEq] at ho
      subst ho
      have e7 := (eval_tmp a 7).trans (hT 0 _ 7 _ rfl rfl rfl (hdep _ (Array.mem_of_getElem? (i := 0) rfl) rfl))
      clear hdi hdep hfr hT hcl
      refine op_val rfl rfl (.pointer (some ⟨lx, 0, Option.none⟩)) (fun K' hK => ?_) ⟨_, rfl, fun u hu => by cases hu; rfl, hSp⟩
      clear hSp
      go_simp
      exact hK
    | 2, ho =>
      rw [← Array.getElem?_toList] at ho
      simp only [List.getElem?_cons_zero, List.getElem?_cons_succ, Option.some.injEq] at ho
      subst ho
      have e8 := (eval_tmp a 8).trans (hT 1 _ 8 _ rfl rfl rfl (hdep _ (Array.mem_of_getElem? (i := 0) rfl) rfl))
      clear hdi hdep hfr hT hcl
      refine op_val rfl rfl (.pointer (some ⟨lx, 0, Option.none⟩)) (fun K' hK => ?_) ⟨_, rfl, fun u hu => by cases hu; rfl, hSp⟩
      clear hSp
      go_simp
      exact hK
    | 3, ho =>
      rw [← Array.getElem?_toList] at ho
      simp only [List.getElem?_cons_zero, List.getElem?_cons_succ, Option.some.injEq] at ho
      subst ho
      have e9 := (eval_tmp a 9).trans (hT 2 _ 9 _ rfl rfl rfl (hdep _ (Array.mem_of_getElem? (i := 0) rfl) rfl))
      have h14 : d 14 = false := not_yet hcl hdi (j := 14) (p := 6) rfl rfl rfl rfl
      have c0 : wx.cell? ⟨lx, 0, Option.none⟩ = some (.pointer (some ⟨ds, 0, Option.none⟩)) := by
        cases h7 : d 7
        · exact (hSp.1 h7).2.l.c0
        · exact (hSp.2.1 h7 h14).2.l.c0
      clear h14
      clear hdi hdep hfr hT hcl
      refine op_val rfl rfl (.pointer (some ⟨ds, 0, Option.none⟩)) (fun K' hK => ?_) ⟨_, rfl, fun u hu => by cases hu; rfl, hSp⟩
      clear hSp
      go_simp
      exact hK
    | 4, ho =>
      rw [← Array.getElem?_toList] at ho
      simp only [List.getElem?_cons_zero, List.getElem?_cons_succ, Option.some.injEq] at ho
      subst ho
      have e0 : a.tmps[0]?.getD undef = .pointer (some ⟨lx, 0, Option.none⟩) := (eval_tmp a 0).trans (hfr 0 (by decide +kernel))
      clear hdi hdep hfr hT hcl
      refine op_val rfl rfl (.pointer (some ⟨lx, 0, Option.none⟩)) (fun K' hK => ?_) ⟨_, rfl, fun u hu => by cases hu; rfl, hSp⟩
      clear hSp
      go_simp
      exact hK
    | 5, ho =>
      rw [← Array.getElem?_toList] at ho
      simp only [List.getElem?_cons_zero, List.getElem?_cons_succ, Option.some.injEq] at ho
      subst ho
      have e11 := (eval_tmp a 11).trans (hT 4 _ 11 _ rfl rfl rfl (hdep _ (Array.mem_of_getElem? (i := 0) rfl) rfl))
      clear hdi hdep hfr hT hcl
      refine op_val rfl rfl (.pointer (some ⟨lx, 0, Option.none⟩)) (fun K' hK => ?_) ⟨_, rfl, fun u hu => by cases hu; rfl, hSp⟩
      clear hSp
      go_simp
      exact hK
    | 6, ho =>
      rw [← Array.getElem?_toList] at ho
      simp only [List.getElem?_cons_zero, List.getElem?_cons_succ, Option.some.injEq] at ho
      subst ho
      have e12 := (eval_tmp a 12).trans (hT 5 _ 12 _ rfl rfl rfl (hdep _ (Array.mem_of_getElem? (i := 0) rfl) rfl))
      clear hdi hdep hfr hT hcl
      refine op_val rfl rfl (.pointer (some ⟨lx, 2, Option.none⟩)) (fun K' hK => ?_) ⟨_, rfl, fun u hu => by cases hu; rfl, hSp⟩
      clear hSp
      go_simp
      exact hK
    | 7, ho =>
      rw [← Array.getElem?_toList] at ho
      simp only [List.getElem?_cons_zero, List.getElem?_cons_succ, Option.some.injEq] at ho
      subst ho
      have e13 := (eval_tmp a 13).trans (hT 6 _ 13 _ rfl rfl rfl (hdep _ (Array.mem_of_getElem? (i := 0) rfl) rfl))
      have h14 : d 14 = false := not_yet hcl hdi (j := 14) (p := 2) rfl rfl rfl rfl
      have HX := Bx.mk (hSp.1 hdi)
      clear hdep hfr hT hcl
      refine op_gen rfl rfl (fun v w' => v = .tuple #[.string (t.extract 7 8), .nilIface] ∧ RdT B lx ds cc t 9 S av w w') (fun K' hK => ?_) (fun v w' hG => ⟨v, rfl, fun u hu => (by cases hu; exact hG.1), ?_⟩)
      · have hK' := Bx.mk hK
        clear hSp h14 hdi hK
        go_simp
        refine (readField_calls lx _ _ t 7 8 9 av _ HX.out.2.l (by omega) (by omega) HC.out.l5 HX.out.2.e (fun j h1 h2 => by (obtain rfl : j = 7 := by omega); rw [HT.out]; decide) ⟨by omega, .inr ⟨by rw [HT.out]; decide, by rw [HT.out]; decide, by omega, by omega, fun j h1 h2 => by omega, by rw [HT.out]; decide⟩⟩).mono ?_
        rintro e w1 ⟨hL, rfl⟩
        exact hK'.out _ _ ⟨rfl, HX.out.step HC.out hL⟩
      · exact ⟨fun h => absurd h (by simp), fun _ _ => hG.2, fun h => absurd h (by simp [h14])⟩
    | 8, ho =>
      rw [← Array.getElem?_toList] at ho
      simp only [List.getElem?_cons_zero, List.getElem?_cons_succ, Option.some.injEq] at ho
      subst ho
      have e14 := (eval_tmp a 14).trans (hT 7 _ 14 _ rfl rfl rfl (hdep _ (Array.mem_of_getElem? (i := 0) rfl) rfl))
      clear hdi hdep hfr hT hcl
      refine op_val rfl rfl (.tuple #[.string (t.extract 7 8), .nilIface]) (fun K' hK => ?_) ⟨_, rfl, fun u hu => by cases hu; rfl, hSp⟩
      clear hSp
      go_simp
      exact hK
    | 9, ho =>
      rw [← Array.getElem?_toList] at ho
      simp only [List.getElem?_cons_zero, List.getElem?_cons_succ, Option.some.injEq] at ho
      subst ho
      have e6 := (eval_tmp a 6).trans (hT 8 _ 6 _ rfl rfl rfl (hdep _ (Array.mem_of_getElem? (i := 0) rfl) rfl))
      clear hdi hdep hfr hT hcl
      refine op_val rfl rfl (.string (t.extract 7 8)) (fun K' hK => ?_) ⟨_, rfl, fun u hu => by cases hu; rfl, hSp⟩
      clear hSp
      go_simp
      exact hK
    | 10, ho =>
      rw [← Array.getElem?_toList] at ho
      simp only [List.getElem?_cons_zero, List.getElem?_cons_succ, Option.some.injEq] at ho
      subst ho
      have e6 := (eval_tmp a 6).trans (hT 8 _ 6 _ rfl rfl rfl (hdep _ (Array.mem_of_getElem? (i := 0) rfl) rfl))
      clear hdi hdep hfr hT hcl
      refine op_val rfl rfl (.nilIface) (fun K' hK => ?_) ⟨_, rfl, fun u hu => by cases hu; rfl, hSp⟩
      clear hSp
      go_simp
      exact hK
    | 11, ho =>
      rw [← Array.getElem?_toList] at ho
      simp only [List.getElem?_cons_zero, List.getElem?_cons_succ, Option.some.injEq] at ho
      subst ho
      have e10 := (eval_tmp a 10).trans (hT 3 _ 10 _ rfl rfl rfl (hdep _ (Array.mem_of_getElem? (i := 0) rfl) rfl))
      clear hdi hdep hfr hT hcl
      refine op_val rfl rfl (.pointer (some ⟨ds, 0, Option.none⟩)) (fun K' hK => ?_) ⟨_, rfl, fun u hu => by cases hu; rfl, hSp⟩
      clear hSp
      go_simp
      exact hK
    | 12, ho =>
      rw [← Array.getElem?_toList] at ho
      simp only [List.getElem?_cons_zero, List.getElem?_cons_succ, Option.some.injEq] at ho
      subst ho
      have e17 := (eval_tmp a 17).trans (hT 11 _ 17 _ rfl rfl rfl (hdep _ (Array.mem_of_getElem? (i := 0) rfl) rfl))
      clear hdi hdep hfr hT hcl
      refine op_val rfl rfl (.pointer (some ⟨ds, 1, Option.none⟩)) (fun K' hK => ?_) ⟨_, rfl, fun u hu => by cases hu; rfl, hSp⟩
      clear hSp
      go_simp
      exact hK
    | 13, ho =>
      rw [← Array.getElem?_toList] at ho
      simp only [List.getElem?_cons_zero, List.getElem?_cons_succ, Option.some.injEq] at ho
      subst ho
      have e18 := (eval_tmp a 18).trans (hT 12 _ 18 _ rfl rfl rfl (hdep _ (Array.mem_of_getElem? (i := 0) rfl) rfl))
      clear hdi hdep hfr hT hcl
      refine op_val rfl rfl (.pointer (some ⟨ds, 1, Option.none⟩)) (fun K' hK => ?_) ⟨_, rfl, fun u hu => by cases hu; rfl, hSp⟩
      clear hSp
      go_simp
      exact hK
    | 14, ho =>
      rw [← Array.getElem?_toList] at ho
      simp only [List.getElem?_cons_zero, List.getElem?_cons_succ, Option.some.injEq] at ho
      subst ho
      have e19 := (eval_tmp a 19).trans (hT 13 _ 19 _ rfl rfl rfl (hdep _ (Array.mem_of_getElem? (i := 0) rfl) rfl))
      have e15 := (eval_tmp a 15).trans (hT 9 _ 15 _ rfl rfl rfl (hdep _ (Array.mem_of_getElem? (i := 1) rfl) rfl))
      have hp : d 7 = true := (hdep _ (Array.mem_of_getElem? (i := 2) rfl) rfl)
      have HX := Bx.mk (hSp.2.1 hp hdi)
      have fd := blk_frozen HX.out.2.d 1
      obtain ⟨vd, cd⟩ := HX.out.2.get 1 (by decide)
      clear hdep hfr hT hcl
      refine op_gen rfl rfl (fun v w' => w' = wx.setCell ⟨ds, 1, Option.none⟩ (.string (t.extract 7 8))) (fun K' hK => ?_) (fun v w' hG => ⟨v, rfl, fun u hu => (by cases hu), ?_⟩)
      · clear hSp hp hdi
        go_simp
        exact hK undef _ rfl
      · subst hG
        exact ⟨fun h => absurd h (by simp [hp]), fun _ h => absurd h (by simp), fun _ => HX.out.put HC.out 1 _⟩
    | 15, ho =>
      rw [← Array.getElem?_toList] at ho
      simp only [List.getElem?_cons_zero, List.getElem?_cons_succ, Option.some.injEq] at ho
      subst ho
      have e16 := (eval_tmp a 16).trans (hT 10 _ 16 _ rfl rfl rfl (hdep _ (Array.mem_of_getElem? (i := 0) rfl) rfl))
      clear hdi hdep hfr hT hcl
      refine op_val rfl rfl (.nilIface) (fun K' hK => ?_) ⟨_, rfl, fun u hu => by cases hu; rfl, hSp⟩
      clear hSp
      go_simp
      exact hK
    | n + 16, ho => cases ho
  intro d f0 wx0 hall hTf hSp
  have H1 := Bx.mk (hSp.2.2 (hall 14 (by decide)))
  have h4 : f0 4 = .nilIface := hTf 15 _ 4 _ rfl rfl rfl
  rw [h4]
  clear hSp hall hTf h4 d
  go_upto_region 5 with (fail)
  refine region_rule2 (by kernel_rfl) (by kernel_rfl) (by kernel_rfl) (fun f1 => #[.pointer (some ⟨lx, 0, Option.none⟩), undef, .nilFunc, .nilIface, f1 4, undef, f0 6, f0 7, f0 8, f0 9, f0 10, f0 11, f0 12, f0 13, f0 14, f0 15, f0 16, f0 17, f0 18, f0 19, .nilIface, .bool false, undef, f1 23, f1 24, f1 25, f1 26, f1 27, f1 28, f1 29, f1 30, f1 31, f1 32, f1 33, f1 34, f1 35, f1 36, undef, undef, undef, undef, undef, undef, undef, undef, undef, undef, undef, undef, undef, undef, undef, undef, undef, undef, undef, undef, undef, undef, undef, undef, undef, undef, undef, undef, undef, undef, undef, undef, undef, undef, undef, undef, undef, undef, undef, undef, undef, undef, undef, undef, undef, undef, undef, undef, undef, undef, undef, undef, undef, undef, undef, undef, undef, undef, undef, undef, undef, undef, undef, undef, undef, undef, undef, undef, undef, undef, undef, undef, undef, undef, undef, undef, undef, undef]) (fun f => by kernel_rfl) (fun i => match i with | 3 => some (.pointer (some ⟨ds, 0, Option.none⟩)) | 7 => some (.tuple #[.int .u64 1, .nilIface]) | 0 => some (.pointer (some ⟨lx, 0, Option.none⟩)) | 1 => some (.pointer (some ⟨lx, 0, Option.none⟩)) | 2 => some (.pointer (some ⟨lx, 0, Option.none⟩)) | 4 => some (.pointer (some ⟨lx, 0, Option.none⟩)) | 5 => some (.pointer (some ⟨lx, 0, Option.none⟩)) | 6 => some (.pointer (some ⟨lx, 2, Option.none⟩)) | 8 => some (.tuple #[.int .u64 1, .nilIface]) | 9 => some (.int .u64 1) | 10 => some (.nilIface) | 11 => some (.pointer (some ⟨ds, 0, Option.none⟩)) | 12 => some (.pointer (some ⟨ds, 1, Option.none⟩)) | 13 => some (.pointer (some ⟨ds, 2, Option.none⟩)) | 15 => some (.nilIface) | _ => Option.none) (fun d f w' => (d 7 = false → RdT B lx ds cc t 9 (S.setIfInBounds 1 (.string (t.extract 7 8))) av w w') ∧ (d 7 = true → d 14 = false → RdT B lx ds cc t 11 (S.setIfInBounds 1 (.string (t.extract 7 8))) av w w') ∧ (d 14 = true → RdT B lx ds cc t 11 ((S.setIfInBounds 1 (.string (t.extract 7 8))).setIfInBounds 2 (.int .u64 1)) av w w')) ?_ ?_ ?_
  · exact ⟨fun _ => H1.out.drew, fun h => (by cases h), fun h => (by cases h)⟩
  · intro i o ho d a wx hdi hdep hcl hfr hT hSp
    match i, ho with
    | 0, ho =>
      rw [← Array.getElem?_toList] at ho
      simp only [List.getElem?_cons_zero, Option.some.injEq] at ho
      subst ho
      have e0 : a.tmps[0]?.getD undef = .pointer (some ⟨lx, 0, Option.none⟩) := (eval_tmp a 0).trans (hfr 0 (by decide +kernel))
      clear hdi hdep hfr hT hcl
      refine op_val rfl rfl (.pointer (some ⟨lx, 0, Option.none⟩)) (fun K' hK => ?_) ⟨_, rfl, fun u hu => by cases hu; rfl, hSp⟩
      clear hSp
      go_simp
      exact hK
    | 1, ho =>
      rw [← Array.getElem?_toList] at ho
      simp only [List.getElem?_cons_zero, List.getElem?_cons_succ, Option.some.injEq] at ho
      subst ho
      have e24 := (eval_tmp a 24).trans (hT 0 _ 24 _ rfl rfl rfl (hdep _ (Array.mem_of_getElem? (i := 0) rfl) rfl))
      clear hdi hdep hfr hT hcl
      refine op_val rfl rfl (.pointer (some ⟨lx, 0, Option.none⟩)) (fun K' hK => ?_) ⟨_, rfl, fun u hu => by cases hu; rfl, hSp⟩
      clear hSp
      go_simp
      exact hK
    | 2, ho =>
      rw [← Array.getElem?_toList] at ho
      simp only [List.getElem?_cons_zero, List.getElem?_cons_succ, Option.some.injEq] at ho
      subst ho
      have e25 := (eval_tmp a 25).trans (hT 1 _ 25 _ rfl rfl rfl (hdep _ (Array.mem_of_getElem? (i := 0) rfl) rfl))
      clear hdi hdep hfr hT hcl
      refine op_val rfl rfl (.pointer (some ⟨lx, 0, Option.none⟩)) (fun K' hK => ?_) ⟨_, rfl, fun u hu => by cases hu; rfl, hSp⟩
      clear hSp
      go_simp
      exact hK
    | 3, ho =>
      rw [← Array.getElem?_toList] at ho
      simp only [List.getElem?_cons_zero, List.getElem?_cons_succ, Option.some.injEq] at ho
      subst ho
      have e26 := (eval_tmp a 26).trans (hT 2 _ 26 _ rfl rfl rfl (hdep _ (Array.mem_of_getElem? (i := 0) rfl) rfl))
      have h14 : d 14 = false := not_yet hcl hdi (j := 14) (p := 6) rfl rfl rfl rfl
      have c0 : wx.cell? ⟨lx, 0, Option.none⟩ = some (.pointer (some ⟨ds, 0, Option.none⟩)) := by
        cases h7 : d 7
        · exact (hSp.1 h7).2.l.c0
        · exact (hSp.2.1 h7 h14).2.l.c0
      clear h14
      clear hdi hdep hfr hT hcl
      refine op_val rfl rfl (.pointer (some ⟨ds, 0, Option.none⟩)) (fun K' hK => ?_) ⟨_, rfl, fun u hu => by cases hu; rfl, hSp⟩
      clear hSp
      go_simp
      exact hK
    | 4, ho =>
      rw [← Array.getElem?_toList] at ho
      simp only [List.getElem?_cons_zero, List.getElem?_cons_succ, Option.some.injEq] at ho
      subst ho
      have e0 : a.tmps[0]?.getD undef = .pointer (some ⟨lx, 0, Option.none⟩) := (eval_tmp a 0).trans (hfr 0 (by decide +kernel))
      clear hdi hdep hfr hT hcl
      refine op_val rfl rfl (.pointer (some ⟨lx, 0, Option.none⟩)) (fun K' hK => ?_) ⟨_, rfl, fun u hu => by cases hu; rfl, hSp⟩
      clear hSp
      go_simp
      exact hK
    | 5, ho =>
      rw [← Array.getElem?_toList] at ho
      simp only [List.getElem?_cons_zero, List.getElem?_cons_succ, Option.some.injEq] at ho
      subst ho
      have e28 := (eval_tmp a 28).trans (hT 4 _ 28 _ rfl rfl rfl (hdep _ (Array.mem_of_getElem? (i := 0) rfl) rfl))
      clear hdi hdep hfr hT hcl
      refine op_val rfl rfl (.pointer (some ⟨lx, 0, Option.none⟩)) (fun K' hK => ?_) ⟨_, rfl, fun u hu => by cases hu; rfl, hSp⟩
      clear hSp
      go_simp
      exact hK
    | 6, ho =>
      rw [← Array.getElem?_toList] at ho
      simp only [List.getElem?_cons_zero, List.getElem?_cons_succ, Option.some.injEq] at ho
      subst ho
      have e29 := (eval_tmp a 29).trans (hT 5 _ 29 _ rfl rfl rfl (hdep _ (Array.mem_of_getElem? (i := 0) rfl) rfl))
      clear hdi hdep hfr hT hcl
      refine op_val rfl rfl (.pointer (some ⟨lx, 2, Option.none⟩)) (fun K' hK => ?_) ⟨_, rfl, fun u hu => by cases hu; rfl, hSp⟩
      clear hSp
      go_simp
      exact hK
    | 7, ho =>
      rw [← Array.getElem?_toList] at ho
      simp only [List.getElem?_cons_zero, List.getElem?_cons_succ, Option.some.injEq] at ho
      subst ho
      have e30 := (eval_tmp a 30).trans (hT 6 _ 30 _ rfl rfl rfl (hdep _ (Array.mem_of_getElem? (i := 0) rfl) rfl))
      have h14 : d 14 = false := not_yet hcl hdi (j := 14) (p := 2) rfl rfl rfl rfl
      have HX := Bx.mk (hSp.1 hdi)
      clear hdep hfr hT hcl
      refine op_gen rfl rfl (fun v w' => v = .tuple #[.int .u64 1, .nilIface] ∧ RdT B lx ds cc t 11 (S.setIfInBounds 1 (.string (t.extract 7 8))) av w w') (fun K' hK => ?_) (fun v w' hG => ⟨v, rfl, fun u hu => (by cases hu; exact hG.1), ?_⟩)
      · have hK' := Bx.mk hK
        clear hSp h14 hdi hK
        go_simp
        refine (readUint_calls lx _ _ t 9 11 1 av _ HX.out.2.l (by omega) HC.out.l5 HX.out.2.e (.inr ⟨by rw [HT.out]; decide, rfl⟩) ⟨by omega, .inr ⟨by rw [HT.out]; decide, by rw [HT.out]; decide, by omega, by omega, fun j h1 h2 => by omega, by rw [HT.out]; decide⟩⟩).mono ?_
        rintro e w1 ⟨hL, rfl⟩
        exact hK'.out _ _ ⟨rfl, HX.out.step HC.out hL⟩
      · exact ⟨fun h => absurd h (by simp), fun _ _ => hG.2, fun h => absurd h (by simp [h14])⟩
    | 8, ho =>
      rw [← Array.getElem?_toList] at ho
      simp only [List.getElem?_cons_zero, List.getElem?_cons_succ, Option.some.injEq] at ho
      subst ho
      have e31 := (eval_tmp a 31).trans (hT 7 _ 31 _ rfl rfl rfl (hdep _ (Array.mem_of_getElem? (i := 0) rfl) rfl))
      clear hdi hdep hfr hT hcl
      refine op_val rfl rfl (.tuple #[.int .u64 1, .nilIface]) (fun K' hK => ?_) ⟨_, rfl, fun u hu => by cases hu; rfl, hSp⟩
      clear hSp
      go_simp
      exact hK
    | 9, ho =>
      rw [← Array.getElem?_toList] at ho
      simp only [List.getElem?_cons_zero, List.getElem?_cons_succ, Option.some.injEq] at ho
      subst ho
      have e23 := (eval_tmp a 23).trans (hT 8 _ 23 _ rfl rfl rfl (hdep _ (Array.mem_of_getElem? (i := 0) rfl) rfl))
      clear hdi hdep hfr hT hcl
      refine op_val rfl rfl (.int .u64 1) (fun K' hK => ?_) ⟨_, rfl, fun u hu => by cases hu; rfl, hSp⟩
      clear hSp
      go_simp
      exact hK
    | 10, ho =>
      rw [← Array.getElem?_toList] at ho
      simp only [List.getElem?_cons_zero, List.getElem?_cons_succ, Option.some.injEq] at ho
      subst ho
      have e23 := (eval_tmp a 23).trans (hT 8 _ 23 _ rfl rfl rfl (hdep _ (Array.mem_of_getElem? (i := 0) rfl) rfl))
      clear hdi hdep hfr hT hcl
      refine op_val rfl rfl (.nilIface) (fun K' hK => ?_) ⟨_, rfl, fun u hu => by cases hu; rfl, hSp⟩
      clear hSp
      go_simp
      exact hK
    | 11, ho =>
      rw [← Array.getElem?_toList] at ho
      simp only [List.getElem?_cons_zero, List.getElem?_cons_succ, Option.some.injEq] at ho
      subst ho
      have e27 := (eval_tmp a 27).trans (hT 3 _ 27 _ rfl rfl rfl (hdep _ (Array.mem_of_getElem? (i := 0) rfl) rfl))
      clear hdi hdep hfr hT hcl
      refine op_val rfl rfl (.pointer (some ⟨ds, 0, Option.none⟩)) (fun K' hK => ?_) ⟨_, rfl, fun u hu => by cases hu; rfl, hSp⟩
      clear hSp
      go_simp
      exact hK
    | 12, ho =>
      rw [← Array.getElem?_toList] at ho
      simp only [List.getElem?_cons_zero, List.getElem?_cons_succ, Option.some.injEq] at ho
      subst ho
      have e34 := (eval_tmp a 34).trans (hT 11 _ 34 _ rfl rfl rfl (hdep _ (Array.mem_of_getElem? (i := 0) rfl) rfl))
      clear hdi hdep hfr hT hcl
      refine op_val rfl rfl (.pointer (some ⟨ds, 1, Option.none⟩)) (fun K' hK => ?_) ⟨_, rfl, fun u hu => by cases hu; rfl, hSp⟩
      clear hSp
      go_simp
      exact hK
    | 13, ho =>
      rw [← Array.getElem?_toList] at ho
      simp only [List.getElem?_cons_zero, List.getElem?_cons_succ, Option.some.injEq] at ho
      subst ho
      have e35 := (eval_tmp a 35).trans (hT 12 _ 35 _ rfl rfl rfl (hdep _ (Array.mem_of_getElem? (i := 0) rfl) rfl))
      clear hdi hdep hfr hT hcl
      refine op_val rfl rfl (.pointer (some ⟨ds, 2, Option.none⟩)) (fun K' hK => ?_) ⟨_, rfl, fun u hu => by cases hu; rfl, hSp⟩
      clear hSp
      go_simp
      exact hK
    | 14, ho =>
      rw [← Array.getElem?_toList] at ho
      simp only [List.getElem?_cons_zero, List.getElem?_cons_succ, Option.some.injEq] at ho
      subst ho
      have e36 := (eval_tmp a 36).trans (hT 13 _ 36 _ rfl rfl rfl (hdep _ (Array.mem_of_getElem? (i := 0) rfl) rfl))
      have e32 := (eval_tmp a 32).trans (hT 9 _ 32 _ rfl rfl rfl (hdep _ (Array.mem_of_getElem? (i := 1) rfl) rfl))
      have hp : d 7 = true := (hdep _ (Array.mem_of_getElem? (i := 2) rfl) rfl)
      have HX := Bx.mk (hSp.2.1 hp hdi)
      have fd := blk_frozen HX.out.2.d 2
      obtain ⟨vd, cd⟩ := HX.out.2.get 2 (by decide)
      clear hdep hfr hT hcl
      refine op_gen rfl rfl (fun v w' => w' = wx.setCell ⟨ds, 2, Option.none⟩ (.int .u64 1)) (fun K' hK => ?_) (fun v w' hG => ⟨v, rfl, fun u hu => (by cases hu), ?_⟩)
      · clear hSp hp hdi
        go_simp
        exact hK undef _ rfl
      · subst hG
        exact ⟨fun h => absurd h (by simp [hp]), fun _ h => absurd h (by simp), fun _ => HX.out.put HC.out 2 _⟩
    | 15, ho =>
      rw [← Array.getElem?_toList] at ho
      simp only [List.getElem?_cons_zero, List.getElem?_cons_succ, Option.some.injEq] at ho
      subst ho
      have e33 := (eval_tmp a 33).trans (hT 10 _ 33 _ rfl rfl rfl (hdep _ (Array.mem_of_getElem? (i := 0) rfl) rfl))
      clear hdi hdep hfr hT hcl
      refine op_val rfl rfl (.nilIface) (fun K' hK => ?_) ⟨_, rfl, fun u hu => by cases hu; rfl, hSp⟩
      clear hSp
      go_simp
      exact hK
    | n + 16, ho => cases ho
  intro d f1 wx1 hall hTf hSp
  have H2 := Bx.mk (hSp.2.2 (hall 14 (by decide)))
  have h4 : f1 4 = .nilIface := hTf 15 _ 4 _ rfl rfl rfl
  rw [h4]
  clear hSp hall hTf h4 d
  go_upto_region 8 with (fail)
  refine region_rule2 (by kernel_rfl) (by kernel_rfl) (by kernel_rfl) (fun f2 => #[.pointer (some ⟨lx, 0, Option.none⟩), undef, .nilFunc, .nilIface, f2 4, undef, f0 6, f0 7, f0 8, f0 9, f0 10, f0 11, f0 12, f0 13, f0 14, f0 15, f0 16, f0 17, f0 18, f0 19, .nilIface, .bool false, undef, f1 23, f1 24, f1 25, f1 26, f1 27, f1 28, f1 29, f1 30, f1 31, f1 32, f1 33, f1 34, f1 35, f1 36, .nilIface, .bool false, undef, f2 40, f2 41, f2 42, f2 43, f2 44, f2 45, f2 46, f2 47, f2 48, f2 49, f2 50, f2 51, f2 52, f2 53, undef, undef, undef, undef, undef, undef, undef, undef, undef, undef, undef, undef, undef, undef, undef, undef, undef, undef, undef, undef, undef, undef, undef, undef, undef, undef, undef, undef, undef, undef, undef, undef, undef, undef, undef, undef, undef, undef, undef, undef, undef, undef, undef, undef, undef, undef, undef, undef, undef, undef, undef, undef, undef, undef, undef, undef, undef, undef, undef, undef, undef]) (fun f => by kernel_rfl) (fun i => match i with | 3 => some (.pointer (some ⟨ds, 0, Option.none⟩)) | 7 => some (.tuple #[.int .u64 1, .nilIface]) | 0 => some (.pointer (some ⟨lx, 0, Option.none⟩)) | 1 => some (.pointer (some ⟨lx, 0, Option.none⟩)) | 2 => some (.pointer (some ⟨lx, 0, Option.none⟩)) | 4 => some (.pointer (some ⟨lx, 0, Option.none⟩)) | 5 => some (.pointer (some ⟨lx, 0, Option.none⟩)) | 6 => some (.pointer (some ⟨lx, 2, Option.none⟩)) | 8 => some (.tuple #[.int .u64 1, .nilIface]) | 9 => some (.int .u64 1) | 10 => some (.nilIface) | 11 => some (.pointer (some ⟨ds, 0, Option.none⟩)) | 12 => some (.pointer (some ⟨ds, 1, Option.none⟩)) | 13 => some (.pointer (some ⟨ds, 3, Option.none⟩)) | 15 => some (.nilIface) | _ => Option.none) (fun d f w' => (d 7 = false → RdT B lx ds cc t 11 ((S.setIfInBounds 1 (.string (t.extract 7 8))).setIfInBounds 2 (.int .u64 1)) av w w') ∧ (d 7 = true → d 14 = false → RdT B lx ds cc t 13 ((S.setIfInBounds 1 (.string (t.extract 7 8))).setIfInBounds 2 (.int .u64 1)) av w w') ∧ (d 14 = true → RdT B lx ds cc t 13 (((S.setIfInBounds 1 (.string (t.extract 7 8))).setIfInBounds 2 (.int .u64 1)).setIfInBounds 3 (.int .u64 1)) av w w')) ?_ ?_ ?_
  · exact ⟨fun _ => H2.out.drew, fun h => (by cases h), fun h => (by cases h)⟩
  · intro i o ho d a wx hdi hdep hcl hfr hT hSp
    match i, ho with
    | 0, ho =>
      rw [← Array.getElem?_toList] at ho
      simp only [List.getElem?_cons_zero, Option.some.injEq] at ho
      subst ho
      have e0 : a.tmps[0]?.getD undef = .pointer (some ⟨lx, 0, Option.none⟩) := (eval_tmp a 0).trans (hfr 0 (by decide +kernel))
      clear hdi hdep hfr hT hcl
      refine op_val rfl rfl (.pointer (some ⟨lx, 0, Option.none⟩)) (fun K' hK => ?_) ⟨_, rfl, fun u hu => by cases hu; rfl, hSp⟩
      clear hSp
      go_simp
      exact hK
    | 1, ho =>
      rw [← Array.getElem?_toList] at ho
      simp only [List.getElem?_cons_zero, List.getElem?_cons_succ, Option.some.injEq] at ho
      subst ho
      have e41 := (eval_tmp a 41).trans (hT 0 _ 41 _ rfl rfl rfl (hdep _ (Array.mem_of_getElem? (i := 0) rfl) rfl))
      clear hdi hdep hfr hT hcl
      refine op_val rfl rfl (.pointer (some ⟨lx, 0, Option.none⟩)) (fun K' hK => ?_) ⟨_, rfl, fun u hu => by cases hu; rfl, hSp⟩
      clear hSp
      go_simp
      exact hK
    | 2, ho =>
      rw [← Array.getElem?_toList] at ho
      simp only [List.getElem?_cons_zero, List.getElem?_cons_succ, Option.some.injEq] at ho
      subst ho
      have e42 := (eval_tmp a 42).trans (hT 1 _ 42 _ rfl rfl rfl (hdep _ (Array.mem_of_getElem? (i := 0) rfl) rfl))
      clear hdi hdep hfr hT hcl
      refine op_val rfl rfl (.pointer (some ⟨lx, 0, Option.none⟩)) (fun K' hK => ?_) ⟨_, rfl, fun u hu => by cases hu; rfl, hSp⟩
      clear hSp
      go_simp
      exact hK
    | 3, ho =>
      rw [← Array.getElem?_toList] at ho
      simp only [List.getElem?_cons_zero, List.getElem?_cons_succ, Option.some.injEq] at ho
      subst ho
      have e43 := (eval_tmp a 43).trans (hT 2 _ 43 _ rfl rfl rfl (hdep _ (Array.mem_of_getElem? (i := 0) rfl) rfl))
      have h14 : d 14 = false := not_yet hcl hdi (j := 14) (p := 6) rfl rfl rfl rfl
      have c0 : wx.cell? ⟨lx, 0, Option.none⟩ = some (.pointer (some ⟨ds, 0, Option.none⟩)) := by
        cases h7 : d 7
        · exact (hSp.1 h7).2.l.c0
        · exact (hSp.2.1 h7 h14).2.l.c0
      clear h14
      clear hdi hdep hfr hT hcl
      refine op_val rfl rfl (.pointer (some ⟨ds, 0, Option.none⟩)) (fun K' hK => ?_) ⟨_, rfl, fun u hu => by cases hu; rfl, hSp⟩
      clear hSp
      go_simp
      exact hK
    | 4, ho =>
      rw [← Array.getElem?_toList] at ho
      simp only [List.getElem?_cons_zero, List.getElem?_cons_succ, Option.some.injEq] at ho
      subst ho
      have e0 : a.tmps[0]?.getD undef = .pointer (some ⟨lx, 0, Option.none⟩) := (eval_tmp a 0).trans (hfr 0 (by decide +kernel))
      clear hdi hdep hfr hT hcl
      refine op_val rfl rfl (.pointer (some ⟨lx, 0, Option.none⟩)) (fun K' hK => ?_) ⟨_, rfl, fun u hu => by cases hu; rfl, hSp⟩
      clear hSp
      go_simp
      exact hK
    | 5, ho =>
      rw [← Array.getElem?_toList] at ho
      simp only [List.getElem?_cons_zero, List.getElem?_cons_succ, Option.some.injEq] at ho
      subst ho
      have e45 := (eval_tmp a 45).trans (hT 4 _ 45 _ rfl rfl rfl (hdep _ (Array.mem_of_getElem? (i := 0) rfl) rfl))
      clear hdi hdep hfr hT hcl
      refine op_val rfl rfl (.pointer (some ⟨lx, 0, Option.none⟩)) (fun K' hK => ?_) ⟨_, rfl, fun u hu => by cases hu; rfl, hSp⟩
      clear hSp
      go_simp
      exact hK
    | 6, ho =>
      rw [← Array.getElem?_toList] at ho
      simp only [List.getElem?_cons_zero, List.getElem?_cons_succ, Option.some.injEq] at ho
      subst ho
      have e46 := (eval_tmp a 46).trans (hT 5 _ 46 _ rfl rfl rfl (hdep _ (Array.mem_of_getElem? (i := 0) rfl) rfl))
      clear hdi hdep hfr hT hcl
      refine op_val rfl rfl (.pointer (some ⟨lx, 2, Option.none⟩)) (fun K' hK => ?_) ⟨_, rfl, fun u hu => by cases hu; rfl, hSp⟩
      clear hSp
      go_simp
      exact hK
    | 7, ho =>
      rw [← Array.getElem?_toList] at ho
      simp only [List.getElem?_cons_zero, List.getElem?_cons_succ, Option.some.injEq] at ho
      subst ho
      have e47 := (eval_tmp a 47).trans (hT 6 _ 47 _ rfl rfl rfl (hdep _ (Array.mem_of_getElem? (i := 0) rfl) rfl))
      have h14 : d 14 = false := not_yet hcl hdi (j := 14) (p := 2) rfl rfl rfl rfl
      have HX := Bx.mk (hSp.1 hdi)
      clear hdep hfr hT hcl
      refine op_gen rfl rfl (fun v w' => v = .tuple #[.int .u64 1, .nilIface] ∧ RdT B lx ds cc t 13 ((S.setIfInBounds 1 (.string (t.extract 7 8))).setIfInBounds 2 (.int .u64 1)) av w w') (fun K' hK => ?_) (fun v w' hG => ⟨v, rfl, fun u hu => (by cases hu; exact hG.1), ?_⟩)
      · have hK' := Bx.mk hK
        clear hSp h14 hdi hK
        go_simp
        refine (readUint_calls lx _ _ t 11 13 1 av _ HX.out.2.l (by omega) HC.out.l5 HX.out.2.e (.inr ⟨by rw [HT.out]; decide, rfl⟩) ⟨by omega, .inr ⟨by rw [HT.out]; decide, by rw [HT.out]; decide, by omega, by omega, fun j h1 h2 => by omega, by rw [HT.out]; decide⟩⟩).mono ?_
        rintro e w1 ⟨hL, rfl⟩
        exact hK'.out _ _ ⟨rfl, HX.out.step HC.out hL⟩
      · exact ⟨fun h => absurd h (by simp), fun _ _ => hG.2, fun h => absurd h (by simp [h14])⟩
    | 8, ho =>
      rw [← Array.getElem?_toList] at ho
      simp only [List.getElem?_cons_zero, List.getElem?_cons_succ, Option.some.injEq] at ho
      subst ho
      have e48 := (eval_tmp a 48).trans (hT 7 _ 48 _ rfl rfl rfl (hdep _ (Array.mem_of_getElem? (i := 0) rfl) rfl))
      clear hdi hdep hfr hT hcl
      refine op_val rfl rfl (.tuple #[.int .u64 1, .nilIface]) (fun K' hK => ?_) ⟨_, rfl, fun u hu => by cases hu; rfl, hSp⟩
      clear hSp
      go_simp
      exact hK
    | 9, ho =>
      rw [← Array.getElem?_toList] at ho
      simp only [List.getElem?_cons_zero, List.getElem?_cons_succ, Option.some.injEq] at ho
      subst ho
      have e40 := (eval_tmp a 40).trans (hT 8 _ 40 _ rfl rfl rfl (hdep _ (Array.mem_of_getElem? (i := 0) rfl) rfl))
      clear hdi hdep hfr hT hcl
      refine op_val rfl rfl (.int .u64 1) (fun K' hK => ?_) ⟨_, rfl, fun u hu => by cases hu; rfl, hSp⟩
      clear hSp
      go_simp
      exact hK
    | 10, ho =>
      rw [← Array.getElem?_toList] at ho
      simp only [List.getElem?_cons_zero, List.getElem?_cons_succ, Option.some.injEq] at ho
      subst ho
      have e40 := (eval_tmp a 40).trans (hT 8 _ 40 _ rfl rfl rfl (hdep _ (Array.mem_of_getElem? (i := 0) rfl) rfl))
      clear hdi hdep hfr hT hcl
      refine op_val rfl rfl (.nilIface) (fun K' hK => ?_) ⟨_, rfl, fun u hu => by cases hu; rfl, hSp⟩
      clear hSp
      go_simp
      exact hK
    | 11, ho =>
      rw [← Array.getElem?_toList] at ho
      simp only [List.getElem?_cons_zero, List.getElem?_cons_succ, Option.some.injEq] at ho
      subst ho
      have e44 := (eval_tmp a 44).trans (hT 3 _ 44 _ rfl rfl rfl (hdep _ (Array.mem_of_getElem? (i := 0) rfl) rfl))
      clear hdi hdep hfr hT hcl
      refine op_val rfl rfl (.pointer (some ⟨ds, 0, Option.none⟩)) (fun K' hK => ?_) ⟨_, rfl, fun u hu => by cases hu; rfl, hSp⟩
      clear hSp
      go_simp
      exact hK
    | 12, ho =>
      rw [← Array.getElem?_toList] at ho
      simp only [List.getElem?_cons_zero, List.getElem?_cons_succ, Option.some.injEq] at ho
      subst ho
      have e51 := (eval_tmp a 51).trans (hT 11 _ 51 _ rfl rfl rfl (hdep _ (Array.mem_of_getElem? (i := 0) rfl) rfl))
      clear hdi hdep hfr hT hcl
      refine op_val rfl rfl (.pointer (some ⟨ds, 1, Option.none⟩)) (fun K' hK => ?_) ⟨_, rfl, fun u hu => by cases hu; rfl, hSp⟩
      clear hSp
      go_simp
      exact hK
    | 13, ho =>
      rw [← Array.getElem?_toList] at ho
      simp only [List.getElem?_cons_zero, List.getElem?_cons_succ, Option.some.injEq] at ho
      subst ho
      have e52 := (eval_tmp a 52).trans (hT 12 _ 52 _ rfl rfl rfl (hdep _ (Array.mem_of_getElem? (i := 0) rfl) rfl))
      clear hdi hdep hfr hT hcl
      refine op_val rfl rfl (.pointer (some ⟨ds, 3, Option.none⟩)) (fun K' hK => ?_) ⟨_, rfl, fun u hu => by cases hu; rfl, hSp⟩
      clear hSp
      go_simp
      exact hK
    | 14, ho =>
      rw [← Array.getElem?_toList] at ho
      simp only [List.getElem?_cons_zero, List.getElem?_cons_succ, Option.some.injEq] at ho
      subst ho
      have e53 := (eval_tmp a 53).trans (hT 13 _ 53 _ rfl rfl rfl (hdep _ (Array.mem_of_getElem? (i := 0) rfl) rfl))
      have e49 := (eval_tmp a 49).trans (hT 9 _ 49 _ rfl rfl rfl (hdep _ (Array.mem_of_getElem? (i := 1) rfl) rfl))
      have hp : d 7 = true := (hdep _ (Array.mem_of_getElem? (i := 2) rfl) rfl)
      have HX := Bx.mk (hSp.2.1 hp hdi)
      have fd := blk_frozen HX.out.2.d 3
      obtain ⟨vd, cd⟩ := HX.out.2.get 3 (by decide)
      clear hdep hfr hT hcl
      refine op_gen rfl rfl (fun v w' => w' = wx.setCell ⟨ds, 3, Option.none⟩ (.int .u64 1)) (fun K' hK => ?_) (fun v w' hG => ⟨v, rfl, fun u hu => (by cases hu), ?_⟩)
      · clear hSp hp hdi
        go_simp
        exact hK undef _ rfl
      · subst hG
        exact ⟨fun h => absurd h (by simp [hp]), fun _ h => absurd h (by simp), fun _ => HX.out.put HC.out 3 _⟩
    | 15, ho =>
      rw [← Array.getElem?_toList] at ho
      simp only [List.getElem?_cons_zero, List.getElem?_cons_succ, Option.some.injEq] at ho
      subst ho
      have e50 := (eval_tmp a 50).trans (hT 10 _ 50 _ rfl rfl rfl (hdep _ (Array.mem_of_getElem? (i := 0) rfl) rfl))
      clear hdi hdep hfr hT hcl
      refine op_val rfl rfl (.nilIface) (fun K' hK => ?_) ⟨_, rfl, fun u hu => by cases hu; rfl, hSp⟩
      clear hSp
      go_simp
      exact hK
    | n + 16, ho => cases ho
  intro d f2 wx2 hall hTf hSp
  have H3 := Bx.mk (hSp.2.2 (hall 14 (by decide)))
  have h4 : f2 4 = .nilIface := hTf 15 _ 4 _ rfl rfl rfl
  rw [h4]
  clear hSp hall hTf h4 d
  go_upto_region 11 with (fail)
  refine region_rule2 (by kernel_rfl) (by kernel_rfl) (by kernel_rfl) (fun f3 => #[.pointer (some ⟨lx, 0, Option.none⟩), undef, .nilFunc, .nilIface, f3 4, undef, f0 6, f0 7, f0 8, f0 9, f0 10, f0 11, f0 12, f0 13, f0 14, f0 15, f0 16, f0 17, f0 18, f0 19, .nilIface, .bool false, undef, f1 23, f1 24, f1 25, f1 26, f1 27, f1 28, f1 29, f1 30, f1 31, f1 32, f1 33, f1 34, f1 35, f1 36, .nilIface, .bool false, undef, f2 40, f2 41, f2 42, f2 43, f2 44, f2 45, f2 46, f2 47, f2 48, f2 49, f2 50, f2 51, f2 52, f2 53, .nilIface, .bool false, undef, f3 57, f3 58, f3 59, f3 60, f3 61, f3 62, f3 63, f3 64, f3 65, f3 66, f3 67, f3 68, f3 69, f3 70, undef, undef, undef, undef, undef, undef, undef, undef, undef, undef, undef, undef, undef, undef, undef, undef, undef, undef, undef, undef, undef, undef, undef, undef, undef, undef, undef, undef, undef, undef, undef, undef, undef, undef, undef, undef, undef, undef, undef, undef, undef, undef, undef, undef]) (fun f => by kernel_rfl) (fun i => match i with | 3 => some (.pointer (some ⟨ds, 0, Option.none⟩)) | 7 => some (.tuple #[.string (t.extract 13 15), .nilIface]) | 0 => some (.pointer (some ⟨lx, 0, Option.none⟩)) | 1 => some (.pointer (some ⟨lx, 0, Option.none⟩)) | 2 => some (.pointer (some ⟨lx, 0, Option.none⟩)) | 4 => some (.pointer (some ⟨lx, 0, Option.none⟩)) | 5 => some (.pointer (some ⟨lx, 0, Option.none⟩)) | 6 => some (.pointer (some ⟨lx, 2, Option.none⟩)) | 8 => some (.tuple #[.string (t.extract 13 15), .nilIface]) | 9 => some (.string (t.extract 13 15)) | 10 => some (.nilIface) | 11 => some (.pointer (some ⟨ds, 0, Option.none⟩)) | 12 => some (.pointer (some ⟨ds, 1, Option.none⟩)) | 13 => some (.pointer (some ⟨ds, 4, Option.none⟩)) | 15 => some (.nilIface) | _ => Option.none) (fun d f w' => (d 7 = false → RdT B lx ds cc t 13 (((S.setIfInBounds 1 (.string (t.extract 7 8))).setIfInBounds 2 (.int .u64 1)).setIfInBounds 3 (.int .u64 1)) av w w') ∧ (d 7 = true → d 14 = false → RdT B lx ds cc t 16 (((S.setIfInBounds 1 (.string (t.extract 7 8))).setIfInBounds 2 (.int .u64 1)).setIfInBounds 3 (.int .u64 1)) av w w') ∧ (d 14 = true → RdT B lx ds cc t 16 ((((S.setIfInBounds 1 (.string (t.extract 7 8))).setIfInBounds 2 (.int .u64 1)).setIfInBounds 3 (.int .u64 1)).setIfInBounds 4 (.string (t.extract 13 15))) av w w')) ?_ ?_ ?_
  · exact ⟨fun _ => H3.out.drew, fun h => (by cases h), fun h => (by cases h)⟩
  · intro i o ho d a wx hdi hdep hcl hfr hT hSp
    match i, ho with
    | 0, ho =>
      rw [← Array.getElem?_toList] at ho
      simp only [List.getElem?_cons_zero, Option.some.injEq] at ho
      subst ho
      have e0 : a.tmps[0]?.getD undef = .pointer (some ⟨lx, 0, Option.none⟩) := (eval_tmp a 0).trans (hfr 0 (by decide +kernel))
      clear hdi hdep hfr hT hcl
      refine op_val rfl rfl (.pointer (some ⟨lx, 0, Option.none⟩)) (fun K' hK => ?_) ⟨_, rfl, fun u hu => by cases hu; rfl, hSp⟩
      clear hSp
      go_simp
      exact hK
    | 1, ho =>
      rw [← Array.getElem?_toList] at ho
      simp only [List.getElem?_cons_zero, List.getElem?_cons_succ, Option.some.injEq] at ho
      subst ho
      have e58 := (eval_tmp a 58).trans (hT 0 _ 58 _ rfl rfl rfl (hdep _ (Array.mem_of_getElem? (i := 0) rfl) rfl))
      clear hdi hdep hfr hT hcl
      refine op_val rfl rfl (.pointer (some ⟨lx, 0, Option.none⟩)) (fun K' hK => ?_) ⟨_, rfl, fun u hu => by cases hu; rfl, hSp⟩
      clear hSp
      go_simp
      exact hK
    | 2, ho =>
      rw [← Array.getElem?_toList] at ho
      simp only [List.getElem?_cons_zero, List.getElem?_cons_succ, Option.some.injEq] at ho
      subst ho
      have e59 := (eval_tmp a 59).trans (hT 1 _ 59 _ rfl rfl rfl (hdep _ (Array.mem_of_getElem? (i := 0) rfl) rfl))
      clear hdi hdep hfr hT hcl
      refine op_val rfl rfl (.pointer (some ⟨lx, 0, Option.none⟩)) (fun K' hK => ?_) ⟨_, rfl, fun u hu => by cases hu; rfl, hSp⟩
      clear hSp
      go_simp
      exact hK
    | 3, ho =>
      rw [← Array.getElem?_toList] at ho
      simp only [List.getElem?_cons_zero, List.getElem?_cons_succ, Option.some.injEq] at ho
      subst ho
      have e60 := (eval_tmp a 60).trans (hT 2 _ 60 _ rfl rfl rfl (hdep _ (Array.mem_of_getElem? (i := 0) rfl) rfl))
      have h14 : d 14 = false := not_yet hcl hdi (j := 14) (p := 6) rfl rfl rfl rfl
      have c0 : wx.cell? ⟨lx, 0, Option.none⟩ = some (.pointer (some ⟨ds, 0, Option.none⟩)) := by
        cases h7 : d 7
        · exact (hSp.1 h7).2.l.c0
        · exact (hSp.2.1 h7 h14).2.l.c0
      clear h14
      clear hdi hdep hfr hT hcl
      refine op_val rfl rfl (.pointer (some ⟨ds, 0, Option.none⟩)) (fun K' hK => ?_) ⟨_, rfl, fun u hu => by cases hu; rfl, hSp⟩
      clear hSp
      go_simp
      exact hK
    | 4, ho =>
      rw [← Array.getElem?_toList] at ho
      simp only [List.getElem?_cons_zero, List.getElem?_cons_succ, Option.some.injEq] at ho
      subst ho
      have e0 : a.tmps[0]?.getD undef = .pointer (some ⟨lx, 0, Option.none⟩) := (eval_tmp a 0).trans (hfr 0 (by decide +kernel))
      clear hdi hdep hfr hT hcl
      refine op_val rfl rfl (.pointer (some ⟨lx, 0, Option.none⟩)) (fun K' hK => ?_) ⟨_, rfl, fun u hu => by cases hu; rfl, hSp⟩
      clear hSp
      go_simp
      exact hK
    | 5, ho =>
      rw [← Array.getElem?_toList] at ho
      simp only [List.getElem?_cons_zero, List.getElem?_cons_succ, Option.some.injEq] at ho
      subst ho
      have e62 := (eval_tmp a 62).trans (hT 4 _ 62 _ rfl rfl rfl (hdep _ (Array.mem_of_getElem? (i := 0) rfl) rfl))
      clear hdi hdep hfr hT hcl
      refine op_val rfl rfl (.pointer (some ⟨lx, 0, Option.none⟩)) (fun K' hK => ?_) ⟨_, rfl, fun u hu => by cases hu; rfl, hSp⟩
      clear hSp
      go_simp
      exact hK
    | 6, ho =>
      rw [← Array.getElem?_toList] at ho
      simp only [List.getElem?_cons_zero, List.getElem?_cons_succ, Option.some.injEq] at ho
      subst ho
      have e63 := (eval_tmp a 63).trans (hT 5 _ 63 _ rfl rfl rfl (hdep _ (Array.mem_of_getElem? (i := 0) rfl) rfl))
      clear hdi hdep hfr hT hcl
      refine op_val rfl rfl (.pointer (some ⟨lx, 2, Option.none⟩)) (fun K' hK => ?_) ⟨_, rfl, fun u hu => by cases hu; rfl, hSp⟩
      clear hSp
      go_simp
      exact hK
    | 7, ho =>
      rw [← Array.getElem?_toList] at ho
      simp only [List.getElem?_cons_zero, List.getElem?_cons_succ, Option.some.injEq] at ho
      subst ho
      have e64 := (eval_tmp a 64).trans (hT 6 _ 64 _ rfl rfl rfl (hdep _ (Array.mem_of_getElem? (i := 0) rfl) rfl))
      have h14 : d 14 = false := not_yet hcl hdi (j := 14) (p := 2) rfl rfl rfl rfl
      have HX := Bx.mk (hSp.1 hdi)
      clear hdep hfr hT hcl
      refine op_gen rfl rfl (fun v w' => v = .tuple #[.string (t.extract 13 15), .nilIface] ∧ RdT B lx ds cc t 16 (((S.setIfInBounds 1 (.string (t.extract 7 8))).setIfInBounds 2 (.int .u64 1)).setIfInBounds 3 (.int .u64 1)) av w w') (fun K' hK => ?_) (fun v w' hG => ⟨v, rfl, fun u hu => (by cases hu; exact hG.1), ?_⟩)
      · have hK' := Bx.mk hK
        clear hSp h14 hdi hK
        go_simp
        refine (readField_calls lx _ _ t 13 15 16 av _ HX.out.2.l (by omega) (by omega) HC.out.l5 HX.out.2.e (fun j h1 h2 => by (have hj : j = 13 ∨ j = 14 := by omega); rcases hj with rfl | rfl <;> (rw [HT.out]; decide)) ⟨by omega, .inr ⟨by rw [HT.out]; decide, by rw [HT.out]; decide, by omega, by omega, fun j h1 h2 => by omega, by rw [HT.out]; decide⟩⟩).mono ?_
        rintro e w1 ⟨hL, rfl⟩
        exact hK'.out _ _ ⟨rfl, HX.out.step HC.out hL⟩
      · exact ⟨fun h => absurd h (by simp), fun _ _ => hG.2, fun h => absurd h (by simp [h14])⟩
    | 8, ho =>
      rw [← Array.getElem?_toList] at ho
      simp only [List.getElem?_cons_zero, List.getElem?_cons_succ, Option.some.injEq] at ho
      subst ho
      have e65 := (eval_tmp a 65).trans (hT 7 _ 65 _ rfl rfl rfl (hdep _ (Array.mem_of_getElem? (i := 0) rfl) rfl))
      clear hdi hdep hfr hT hcl
      refine op_val rfl rfl (.tuple #[.string (t.extract 13 15), .nilIface]) (fun K' hK => ?_) ⟨_, rfl, fun u hu => by cases hu; rfl, hSp⟩
      clear hSp
      go_simp
      exact hK
    | 9, ho =>
      rw [← Array.getElem?_toList] at ho
      simp only [List.getElem?_cons_zero, List.getElem?_cons_succ, Option.some.injEq] at ho
      subst ho
      have e57 := (eval_tmp a 57).trans (hT 8 _ 57 _ rfl rfl rfl (hdep _ (Array.mem_of_getElem? (i := 0) rfl) rfl))
      clear hdi hdep hfr hT hcl
      refine op_val rfl rfl (.string (t.extract 13 15)) (fun K' hK => ?_) ⟨_, rfl, fun u hu => by cases hu; rfl, hSp⟩
      clear hSp
      go_simp
      exact hK
    | 10, ho =>
      rw [← Array.getElem?_toList] at ho
      simp only [List.getElem?_cons_zero, List.getElem?_cons_succ, Option.some.injEq] at ho
      subst ho
      have e57 := (eval_tmp a 57).trans (hT 8 _ 57 _ rfl rfl rfl (hdep _ (Array.mem_of_getElem? (i := 0) rfl) rfl))
      clear hdi hdep hfr hT hcl
      refine op_val rfl rfl (.nilIface) (fun K' hK => ?_) ⟨_, rfl, fun u hu => by cases hu; rfl, hSp⟩
      clear hSp
      go_simp
      exact hK
    | 11, ho =>
      rw [← Array.getElem?_toList] at ho
      simp only [List.getElem?_cons_zero, List.getElem?_cons_succ, Option.some.injEq] at ho
      subst ho
      have e61 := (eval_tmp a 61).trans (hT 3 _ 61 _ rfl rfl rfl (hdep _ (Array.mem_of_getElem? (i := 0) rfl) rfl))
      clear hdi hdep hfr hT hcl
      refine op_val rfl rfl (.pointer (some ⟨ds, 0, Option.none⟩)) (fun K' hK => ?_) ⟨_, rfl, fun u hu => by cases hu; rfl, hSp⟩
      clear hSp
      go_simp
      exact hK
    | 12, ho =>
      rw [← Array.getElem?_toList] at ho
      simp only [List.getElem?_cons_zero, List.getElem?_cons_succ, Option.some.injEq] at ho
      subst ho
      have e68 := (eval_tmp a 68).trans (hT 11 _ 68 _ rfl rfl rfl (hdep _ (Array.mem_of_getElem? (i := 0) rfl) rfl))
      clear hdi hdep hfr hT hcl
      refine op_val rfl rfl (.pointer (some ⟨ds, 1, Option.none⟩)) (fun K' hK => ?_) ⟨_, rfl, fun u hu => by cases hu; rfl, hSp⟩
      clear hSp
      go_simp
      exact hK
    | 13, ho =>
      rw [← Array.getElem?_toList] at ho
      simp only [List.getElem?_cons_zero, List.getElem?_cons_succ, Option.some.injEq] at ho
      subst ho
      have e69 := (eval_tmp a 69).trans (hT 12 _ 69 _ rfl rfl rfl (hdep _ (Array.mem_of_getElem? (i := 0) rfl) rfl))
      clear hdi hdep hfr hT hcl
      refine op_val rfl rfl (.pointer (some ⟨ds, 4, Option.none⟩)) (fun K' hK => ?_) ⟨_, rfl, fun u hu => by cases hu; rfl, hSp⟩
      clear hSp
      go_simp
      exact hK
    | 14, ho =>
      rw [← Array.getElem?_toList] at ho
      simp only [List.getElem?_cons_zero, List.getElem?_cons_succ, Option.some.injEq] at ho
      subst ho
      have e70 := (eval_tmp a 70).trans (hT 13 _ 70 _ rfl rfl rfl (hdep _ (Array.mem_of_getElem? (i := 0) rfl) rfl))
      have e66 := (eval_tmp a 66).trans (hT 9 _ 66 _ rfl rfl rfl (hdep _ (Array.mem_of_getElem? (i := 1) rfl) rfl))
      have hp : d 7 = true := (hdep _ (Array.mem_of_getElem? (i := 2) rfl) rfl)
      have HX := Bx.mk (hSp.2.1 hp hdi)
      have fd := blk_frozen HX.out.2.d 4
      obtain ⟨vd, cd⟩ := HX.out.2.get 4 (by decide)
      clear hdep hfr hT hcl
      refine op_gen rfl rfl (fun v w' => w' = wx.setCell ⟨ds, 4, Option.none⟩ (.string (t.extract 13 15))) (fun K' hK => ?_) (fun v w' hG => ⟨v, rfl, fun u hu => (by cases hu), ?_⟩)
      · clear hSp hp hdi
        go_simp
        exact hK undef _ rfl
      · subst hG
        exact ⟨fun h => absurd h (by simp [hp]), fun _ h => absurd h (by simp), fun _ => HX.out.put HC.out 4 _⟩
    | 15, ho =>
      rw [← Array.getElem?_toList] at ho
      simp only [List.getElem?_cons_zero, List.getElem?_cons_succ, Option.some.injEq] at ho
      subst ho
      have e67 := (eval_tmp a 67).trans (hT 10 _ 67 _ rfl rfl rfl (hdep _ (Array.mem_of_getElem? (i := 0) rfl) rfl))
      clear hdi hdep hfr hT hcl
      refine op_val rfl rfl (.nilIface) (fun K' hK => ?_) ⟨_, rfl, fun u hu => by cases hu; rfl, hSp⟩
      clear hSp
      go_simp
      exact hK
    | n + 16, ho => cases ho
  intro d f3 wx3 hall hTf hSp
  have H4 := Bx.mk (hSp.2.2 (hall 14 (by decide)))
  have h4 : f3 4 = .nilIface := hTf 15 _ 4 _ rfl rfl rfl
  rw [h4]
  clear hSp hall hTf h4 d
  have e0 : t.extract 13 15 = ⟨#[73, 78]⟩ := by rw [HT.out]; decide
  have c4 := H4.out.2.at (i := 4) (by decide)
  rw [e0] at c4
  clear e0
  have c0 := H4.out.2.l.c0
  go_wp2_with (fail)
  refine (anyOf_calls _ _ _ _ _ ((blk_cell (heap_alloc_new _ _) 0).trans rfl) (by decide)).mono ?_
  rintro e w' ⟨rfl, rfl⟩
  have H5 := Bx.mk (H4.out.alloc HC.out (.cells #[.string ⟨#[73, 78]⟩] 9))
  clear c0 c4
  go_wp2_with (fail)
  refine (addrType_calls B lx ds cc t _ av _ HC.out (by omega) 16 19 20 H5.out.2 (by omega) (fun j h1 h2 => by (have hj : j = 16 ∨ j = 17 ∨ j = 18 := by omega); rcases hj with rfl | rfl | rfl <;> (rw [HT.out]; decide)) ⟨by omega, .inr ⟨by rw [HT.out]; decide, by rw [HT.out]; decide, by omega, by omega, fun j h1 h2 => by omega, by rw [HT.out]; decide⟩⟩ (by rw [toList_isEmpty, HT.out]; decide)).mono ?_
  rintro e w6 ⟨hR, rfl⟩
  have H6 := Bx.mk (show RdT B lx ds cc t 20 _ av w w6 from ⟨H5.out.1.trans hR.1, hR.2⟩)
  clear hR
  have e0 : t.extract 16 19 = ⟨#[73, 80, 52]⟩ := by rw [HT.out]; decide
  have c4 := H6.out.2.at (i := 5) (by decide)
  rw [e0] at c4
  clear e0
  have c0 := H6.out.2.l.c0
  go_wp2_with (fail)
  refine (anyOf_calls _ _ _ _ _ ((blk_cell (heap_alloc_new _ _) 0).trans rfl) (by decide)).mono ?_
  rintro e w' ⟨rfl, rfl⟩
  have H7 := Bx.mk (H6.out.alloc HC.out (.cells #[.string ⟨#[73, 80, 52]⟩, .string ⟨#[73, 80, 54]⟩] 9))
  clear c0 c4
  go_wp2_with (fail)
  refine (unicast_calls B lx ds cc t _ av _ HC.out (by omega) 20 21 21 H7.out.2 (by omega) (fun j h1 h2 => by (obtain rfl : j = 20 := by omega); rw [HT.out]; decide) ⟨by omega, .inl ⟨by rw [HT.out]; decide, rfl⟩⟩ (by rw [toList_isEmpty, HT.out]; decide)).mono ?_
  rintro e w8 ⟨hR, rfl⟩
  have H8 := Bx.mk (show RdT B lx ds cc t 21 _ av w w8 from ⟨H7.out.1.trans hR.1, hR.2⟩)
  clear hR
  go_wp2_with (fail)
  refine (nextLine_calls lx _ _ t 21 23 av _ H8.out.2.l (by omega) (by omega) (by omega) HC.out.l5 H8.out.2.e (fun j h1 h2 => by
    have : j = 21 ∨ j = 22 := by omega
    rcases this with rfl | rfl <;> rw [HT.out] <;> decide) (by rw [HT.out]; decide)).mono ?_
  rintro e w9 ⟨hL, rfl⟩
  have H9 := Bx.mk (H8.out.step HC.out hL)
  clear hL
  go_wp2
  go_ret2
  exact ⟨H9.out, rfl⟩
end Go.Proofs.YtimonhimfioohaaGreatDoor
