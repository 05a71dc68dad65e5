/- Lemmas on which the proof of Rows.FnCodecCardSaid rests: no statement of the seat is proved in this file. Conditions: each lemma's own hypotheses, no others. -/
import Derived.Test.YtimonhimfioohaaGreatDoorM18
/-! impl.plain of the least description. -/
namespace Go.Proofs.YtimonhimfioohaaGreatDoor
open Go Go.RowKit Go.PlainAid Kn
theorem info77 : (Tryz.prog.info? 77).map (fun i => (i.zero, i.size, i.bytes)) = some (some (.agg #[.int .u64 0, .int .u64 0, .slice Option.none 0 0]), 3, 40) := by kernel_rfl
theorem sz33 : (Tryz.prog.info? 33).map (·.size) = some 19 := by kernel_rfl
set_option maxRecDepth 20000 in
set_option maxHeartbeats 6400000 in
theorem plain_calls (B ds c : Nat) (A : Option Addr) (w : World) (hd : w.heap[ds]? = some (.cells (lDesc A c) 148)) (hv : kTd.SV (fun b => B ≤ b) w (.slice A 1 c) [()]) :
    Calls Tryz.prog 49 #[.pointer (some ⟨ds, 0, Option.none⟩)] w fun e w' => Below w.heap.size w w' ∧ ∃ cs : Array Value, e = .returned (.agg cs) ∧ cs.size = 19 ∧ cs[7]? = some (.string ⟨#[120]⟩) ∧ cs.all (·.oneCell') = true := by
  have HD := Bx.mk hd
  have HV := Bx.mk hv
  clear hv
  have d0 : w.cell? ⟨ds, 1, Option.none⟩ = some (.string ⟨#[45]⟩) := (blk_cell hd 1).trans rfl
  have d1 : w.cell? ⟨ds, 2, Option.none⟩ = some (.int .u64 1) := (blk_cell hd 2).trans rfl
  have d2 : w.cell? ⟨ds, 3, Option.none⟩ = some (.int .u64 1) := (blk_cell hd 3).trans rfl
  have d3 : w.cell? ⟨ds, 4, Option.none⟩ = some (.string ⟨#[73, 78]⟩) := (blk_cell hd 4).trans rfl
  have d4 : w.cell? ⟨ds, 5, Option.none⟩ = some (.string ⟨#[73, 80, 52]⟩) := (blk_cell hd 5).trans rfl
  have d5 : w.cell? ⟨ds, 6, Option.none⟩ = some (.string ⟨#[97]⟩) := (blk_cell hd 6).trans rfl
  have hdw := blk_lt hd
  clear hd
  go_enter Tryz.func49, Tryz.ntmps49
  go_upto_region 2 with (fail)
  obtain ⟨W0, hW0⟩ : ∃ W, W = (w.alloc (.cells #[.int .i64 0, .string ⟨#[]⟩, .int .u64 0, .int .u64 0, .string ⟨#[]⟩, .string ⟨#[]⟩, .string ⟨#[]⟩, .string ⟨#[]⟩, .slice Option.none 0 0, .slice Option.none 0 0, .slice Option.none 0 0, .slice Option.none 0 0, .slice Option.none 0 0, .slice Option.none 0 0, .slice Option.none 0 0, .slice Option.none 0 0, .slice Option.none 0 0, .slice Option.none 0 0, .slice Option.none 0 0] 33)).alloc (.cells #[.string ⟨#[45]⟩, .int .u64 1, .int .u64 1, .string ⟨#[73, 78]⟩, .string ⟨#[73, 80, 52]⟩, .string ⟨#[97]⟩] 134) := ⟨_, rfl⟩
  obtain ⟨r, hr⟩ : ∃ r, r = w.heap.size := ⟨_, rfl⟩
  obtain ⟨o, ho⟩ : ∃ o, o = w.heap.size + 1 := ⟨_, rfl⟩
  have hb0 : Below w.heap.size w W0 := by rw [hW0]; exact below_alloc2 (Below.refl _ _) _ _
  have hR : W0.heap[r]? = some (.cells #[.int .i64 0, .string ⟨#[]⟩, .int .u64 0, .int .u64 0, .string ⟨#[]⟩, .string ⟨#[]⟩, .string ⟨#[]⟩, .string ⟨#[]⟩, .slice Option.none 0 0, .slice Option.none 0 0, .slice Option.none 0 0, .slice Option.none 0 0, .slice Option.none 0 0, .slice Option.none 0 0, .slice Option.none 0 0, .slice Option.none 0 0, .slice Option.none 0 0, .slice Option.none 0 0, .slice Option.none 0 0] 33) := by rw [hW0, hr]; exact blk_alloc (heap_alloc_new w _) _
  have hO : W0.heap[o]? = some (.cells #[.string ⟨#[45]⟩, .int .u64 1, .int .u64 1, .string ⟨#[73, 78]⟩, .string ⟨#[73, 80, 52]⟩, .string ⟨#[97]⟩] 134) := by
    have := heap_alloc_new (w.alloc (.cells #[.int .i64 0, .string ⟨#[]⟩, .int .u64 0, .int .u64 0, .string ⟨#[]⟩, .string ⟨#[]⟩, .string ⟨#[]⟩, .string ⟨#[]⟩, .slice Option.none 0 0, .slice Option.none 0 0, .slice Option.none 0 0, .slice Option.none 0 0, .slice Option.none 0 0, .slice Option.none 0 0, .slice Option.none 0 0, .slice Option.none 0 0, .slice Option.none 0 0, .slice Option.none 0 0, .slice Option.none 0 0] 33)) (.cells #[.string ⟨#[45]⟩, .int .u64 1, .int .u64 1, .string ⟨#[73, 78]⟩, .string ⟨#[73, 80, 52]⟩, .string ⟨#[97]⟩] 134)
    rw [World.size_alloc, ← ho] at this
    rw [hW0]
    exact this
  rw [← hW0, ← ho, ← hr]
  have HD0 := Bx.mk (heap_below hb0 HD.out)
  have HV0 := Bx.mk (HV.out.step (by decide) hb0)
  have HB0 := Bx.mk hb0
  have HR := Bx.mk hR
  have HO := Bx.mk hO
  have HRO := Bx.mk (And.intro hr ho)
  clear hW0 hr ho hb0 hR hO d0 d1 d2 d3 d4 d5 HD HV
  refine region_rule2 (by kernel_rfl) (by kernel_rfl) (by kernel_rfl) (fun f => #[.pointer (some ⟨ds, 0, Option.none⟩), undef, .pointer (some ⟨r, 0, Option.none⟩), .pointer (some ⟨o, 0, Option.none⟩), f 4, undef, undef, undef, undef, undef, undef, undef, undef, undef, .pointer (some ⟨ds, 0, Option.none⟩), .pointer (some ⟨ds, 0, Option.none⟩), .pointer (some ⟨ds, 1, Option.none⟩), .agg #[.string ⟨#[45]⟩, .int .u64 1, .int .u64 1, .string ⟨#[73, 78]⟩, .string ⟨#[73, 80, 52]⟩, .string ⟨#[97]⟩], f 18, f 19, f 20, f 21, f 22, f 23, f 24, f 25, f 26, f 27, f 28, f 29, f 30, f 31, f 32, f 33, f 34, f 35, f 36, f 37, f 38, f 39, f 40, f 41, f 42, f 43, f 44, f 45, f 46, f 47, f 48, f 49, f 50, f 51, f 52, f 53, f 54, f 55, f 56, f 57, f 58, f 59, f 60, f 61, f 62, f 63, f 64, f 65, f 66, f 67, f 68, f 69, f 70, f 71, f 72, f 73, f 74, f 75, f 76, f 77, f 78, f 79, undef, undef, undef, undef, undef, undef, undef, undef, undef, undef, undef, undef, undef, undef, undef, undef, undef, undef, undef, undef, undef, undef, undef, undef, undef, undef, undef, undef, undef, undef, undef, undef, undef, undef, undef, undef, undef, undef, undef, undef, undef, undef, undef, undef, undef, undef, undef, undef, undef, undef, undef, undef, undef, undef, undef, undef, undef, undef, undef, undef, undef, undef, undef, undef, undef, undef, undef, undef, undef, undef, undef, undef, undef, undef, undef, undef, undef, undef, undef, undef, undef, undef]) (fun f => by kernel_rfl) (fun i => match i with | 62 => some (.pointer (some ⟨W0.heap.size, 0, Option.none⟩)) | 0 => some (.pointer (some ⟨ds, 0, Option.none⟩)) | 1 => some (.pointer (some ⟨ds, 0, Option.none⟩)) | 2 => some (.pointer (some ⟨ds, 0, Option.none⟩)) | 3 => some (.int .i64 0) | 4 => some (.pointer (some ⟨o, 0, Option.none⟩)) | 5 => some (.string ⟨#[45]⟩) | 6 => some (.pointer (some ⟨o, 1, Option.none⟩)) | 7 => some (.int .u64 1) | 8 => some (.pointer (some ⟨o, 2, Option.none⟩)) | 9 => some (.int .u64 1) | 10 => some (.pointer (some ⟨o, 3, Option.none⟩)) | 11 => some (.string ⟨#[73, 78]⟩) | 12 => some (.pointer (some ⟨o, 4, Option.none⟩)) | 13 => some (.string ⟨#[73, 80, 52]⟩) | 14 => some (.pointer (some ⟨o, 5, Option.none⟩)) | 15 => some (.string ⟨#[97]⟩) | 16 => some (.agg #[.string ⟨#[45]⟩, .int .u64 1, .int .u64 1, .string ⟨#[73, 78]⟩, .string ⟨#[73, 80, 52]⟩, .string ⟨#[97]⟩]) | 17 => some (.pointer (some ⟨ds, 0, Option.none⟩)) | 18 => some (.pointer (some ⟨ds, 0, Option.none⟩)) | 19 => some (.pointer (some ⟨ds, 7, Option.none⟩)) | 20 => some (.string ⟨#[120]⟩) | 21 => some (.pointer (some ⟨ds, 0, Option.none⟩)) | 22 => some (.pointer (some ⟨ds, 0, Option.none⟩)) | 23 => some (.pointer (some ⟨ds, 8, Option.none⟩)) | 24 => some (.pointer Option.none) | 25 => some (.slice Option.none 0 0) | 26 => some (.pointer (some ⟨ds, 0, Option.none⟩)) | 27 => some (.pointer (some ⟨ds, 0, Option.none⟩)) | 28 => some (.pointer (some ⟨ds, 9, Option.none⟩)) | 29 => some (.pointer Option.none) | 30 => some (.slice Option.none 0 0) | 31 => some (.pointer (some ⟨ds, 0, Option.none⟩)) | 32 => some (.pointer (some ⟨ds, 0, Option.none⟩)) | 33 => some (.pointer (some ⟨ds, 10, Option.none⟩)) | 34 => some (.pointer Option.none) | 35 => some (.slice Option.none 0 0) | 36 => some (.pointer (some ⟨ds, 0, Option.none⟩)) | 37 => some (.pointer (some ⟨ds, 0, Option.none⟩)) | 38 => some (.pointer (some ⟨ds, 11, Option.none⟩)) | 39 => some (.pointer Option.none) | 40 => some (.slice Option.none 0 0) | 41 => some (.pointer (some ⟨ds, 0, Option.none⟩)) | 42 => some (.pointer (some ⟨ds, 0, Option.none⟩)) | 43 => some (.pointer (some ⟨ds, 12, Option.none⟩)) | 44 => some (.pointer Option.none) | 45 => some (.slice Option.none 0 0) | 46 => some (.pointer (some ⟨ds, 0, Option.none⟩)) | 47 => some (.pointer (some ⟨ds, 0, Option.none⟩)) | 48 => some (.pointer (some ⟨ds, 13, Option.none⟩)) | 49 => some (.slice Option.none 0 0) | 50 => some (.slice Option.none 0 0) | 51 => some (.pointer (some ⟨ds, 0, Option.none⟩)) | 52 => some (.pointer (some ⟨ds, 0, Option.none⟩)) | 53 => some (.pointer (some ⟨ds, 16, Option.none⟩)) | 54 => some (.pointer Option.none) | 55 => some (.slice Option.none 0 0) | 56 => some (.pointer (some ⟨ds, 0, Option.none⟩)) | 57 => some (.pointer (some ⟨ds, 0, Option.none⟩)) | 58 => some (.pointer (some ⟨ds, 17, Option.none⟩)) | 59 => some (.slice Option.none 0 0) | 60 => some (.slice Option.none 0 0) | 61 => some (.agg #[.int .i64 0, .string ⟨#[45]⟩, .int .u64 1, .int .u64 1, .string ⟨#[73, 78]⟩, .string ⟨#[73, 80, 52]⟩, .string ⟨#[97]⟩, .string ⟨#[120]⟩, .slice Option.none 0 0, .slice Option.none 0 0, .slice Option.none 0 0, .slice Option.none 0 0, .slice Option.none 0 0, .slice Option.none 0 0, .slice Option.none 0 0, .slice Option.none 0 0, .slice Option.none 0 0, .slice Option.none 0 0, .slice Option.none 0 0]) | _ => Option.none) (fun d f w' => (d 62 = false → w' = W0.drew) ∧ (d 62 = true → d 63 = false → w' = W0.drew.alloc (.cells #[.int .i64 0, .string ⟨#[]⟩, .int .u64 0, .int .u64 0, .string ⟨#[]⟩, .string ⟨#[]⟩, .string ⟨#[]⟩, .string ⟨#[]⟩, .slice Option.none 0 0, .slice Option.none 0 0, .slice Option.none 0 0, .slice Option.none 0 0, .slice Option.none 0 0, .slice Option.none 0 0, .slice Option.none 0 0, .slice Option.none 0 0, .slice Option.none 0 0, .slice Option.none 0 0, .slice Option.none 0 0] 33)) ∧ (d 63 = true → w' = (W0.drew.alloc (.cells #[.int .i64 0, .string ⟨#[]⟩, .int .u64 0, .int .u64 0, .string ⟨#[]⟩, .string ⟨#[]⟩, .string ⟨#[]⟩, .string ⟨#[]⟩, .slice Option.none 0 0, .slice Option.none 0 0, .slice Option.none 0 0, .slice Option.none 0 0, .slice Option.none 0 0, .slice Option.none 0 0, .slice Option.none 0 0, .slice Option.none 0 0, .slice Option.none 0 0, .slice Option.none 0 0, .slice Option.none 0 0] 33)).setRow W0.heap.size #[.int .i64 0, .string ⟨#[45]⟩, .int .u64 1, .int .u64 1, .string ⟨#[73, 78]⟩, .string ⟨#[73, 80, 52]⟩, .string ⟨#[97]⟩, .string ⟨#[120]⟩, .slice Option.none 0 0, .slice Option.none 0 0, .slice Option.none 0 0, .slice Option.none 0 0, .slice Option.none 0 0, .slice Option.none 0 0, .slice Option.none 0 0, .slice Option.none 0 0, .slice Option.none 0 0, .slice Option.none 0 0, .slice Option.none 0 0])) ?_ ?_ ?_
  · exact ⟨fun _ => rfl, fun h => (by cases h), fun h => (by cases h)⟩
  · intro i o ho d a wx hdi hdep hcl hfr hT hSp
    match i, ho with
    | 0, ho =>
      rw [← Array.getElem?_toList] at ho
      simp only [List.getElem?_cons_zero, Option.some.injEq] at ho
      subst ho
      have e0 : a.tmps[0]?.getD undef = .pointer (some ⟨ds, 0, Option.none⟩) := (eval_tmp a 0).trans (hfr 0 (by decide +kernel))
      clear hdi hdep hfr hT hcl
      refine op_val rfl rfl (.pointer (some ⟨ds, 0, Option.none⟩)) (fun K' hK => ?_) ⟨_, rfl, fun u hu => by cases hu; rfl, hSp⟩
      clear hSp
      go_simp
      exact hK
    | 1, ho =>
      rw [← Array.getElem?_toList] at ho
      simp only [List.getElem?_cons_zero, List.getElem?_cons_succ, Option.some.injEq] at ho
      subst ho
      have e18 := (eval_tmp a 18).trans (hT 0 _ 18 _ rfl rfl rfl (hdep _ (Array.mem_of_getElem? (i := 0) rfl) rfl))
      clear hdi hdep hfr hT hcl
      refine op_val rfl rfl (.pointer (some ⟨ds, 0, Option.none⟩)) (fun K' hK => ?_) ⟨_, rfl, fun u hu => by cases hu; rfl, hSp⟩
      clear hSp
      go_simp
      exact hK
    | 2, ho =>
      rw [← Array.getElem?_toList] at ho
      simp only [List.getElem?_cons_zero, List.getElem?_cons_succ, Option.some.injEq] at ho
      subst ho
      have e19 := (eval_tmp a 19).trans (hT 1 _ 19 _ rfl rfl rfl (hdep _ (Array.mem_of_getElem? (i := 0) rfl) rfl))
      clear hdi hdep hfr hT hcl
      refine op_val rfl rfl (.pointer (some ⟨ds, 0, Option.none⟩)) (fun K' hK => ?_) ⟨_, rfl, fun u hu => by cases hu; rfl, hSp⟩
      clear hSp
      go_simp
      exact hK
    | 3, ho =>
      rw [← Array.getElem?_toList] at ho
      simp only [List.getElem?_cons_zero, List.getElem?_cons_succ, Option.some.injEq] at ho
      subst ho
      have e20 := (eval_tmp a 20).trans (hT 2 _ 20 _ rfl rfl rfl (hdep _ (Array.mem_of_getElem? (i := 0) rfl) rfl))
      have h63 : d 63 = false := not_yet hcl hdi (j := 63) (p := 6) rfl rfl rfl rfl
      have hb : Below W0.heap.size W0 wx := by
        cases h62 : d 62
        · rw [hSp.1 h62]; exact Below.drew (Below.refl _ _)
        · rw [hSp.2.1 h62 h63]; exact below_alloc1 (Below.drew (Below.refl _ _)) _
      have c0 : wx.cell? ⟨ds, 0, Option.none⟩ = some (.int .i64 0) := (blk_cell (heap_below hb HD0.out) 0).trans rfl
      clear hb h63
      clear hdi hdep hfr hT hcl
      refine op_val rfl rfl (.int .i64 0) (fun K' hK => ?_) ⟨_, rfl, fun u hu => by cases hu; rfl, hSp⟩
      clear hSp
      go_simp
      exact hK
    | 4, ho =>
      rw [← Array.getElem?_toList] at ho
      simp only [List.getElem?_cons_zero, List.getElem?_cons_succ, Option.some.injEq] at ho
      subst ho
      have e3 : a.tmps[3]?.getD undef = .pointer (some ⟨o, 0, Option.none⟩) := (eval_tmp a 3).trans (hfr 3 (by decide +kernel))
      clear hdi hdep hfr hT hcl
      refine op_val rfl rfl (.pointer (some ⟨o, 0, Option.none⟩)) (fun K' hK => ?_) ⟨_, rfl, fun u hu => by cases hu; rfl, hSp⟩
      clear hSp
      go_simp
      exact hK
    | 5, ho =>
      rw [← Array.getElem?_toList] at ho
      simp only [List.getElem?_cons_zero, List.getElem?_cons_succ, Option.some.injEq] at ho
      subst ho
      have e22 := (eval_tmp a 22).trans (hT 4 _ 22 _ rfl rfl rfl (hdep _ (Array.mem_of_getElem? (i := 0) rfl) rfl))
      have h63 : d 63 = false := not_yet hcl hdi (j := 63) (p := 8) rfl rfl rfl rfl
      have hb : Below W0.heap.size W0 wx := by
        cases h62 : d 62
        · rw [hSp.1 h62]; exact Below.drew (Below.refl _ _)
        · rw [hSp.2.1 h62 h63]; exact below_alloc1 (Below.drew (Below.refl _ _)) _
      have c0 : wx.cell? ⟨o, 0, Option.none⟩ = some (.string ⟨#[45]⟩) := (blk_cell (heap_below hb HO.out) 0).trans rfl
      clear hb h63
      clear hdi hdep hfr hT hcl
      refine op_val rfl rfl (.string ⟨#[45]⟩) (fun K' hK => ?_) ⟨_, rfl, fun u hu => by cases hu; rfl, hSp⟩
      clear hSp
      go_simp
      exact hK
    | 6, ho =>
      rw [← Array.getElem?_toList] at ho
      simp only [List.getElem?_cons_zero, List.getElem?_cons_succ, Option.some.injEq] at ho
      subst ho
      have e3 : a.tmps[3]?.getD undef = .pointer (some ⟨o, 0, Option.none⟩) := (eval_tmp a 3).trans (hfr 3 (by decide +kernel))
      clear hdi hdep hfr hT hcl
      refine op_val rfl rfl (.pointer (some ⟨o, 1, Option.none⟩)) (fun K' hK => ?_) ⟨_, rfl, fun u hu => by cases hu; rfl, hSp⟩
      clear hSp
      go_simp
      exact hK
    | 7, ho =>
      rw [← Array.getElem?_toList] at ho
      simp only [List.getElem?_cons_zero, List.getElem?_cons_succ, Option.some.injEq] at ho
      subst ho
      have e24 := (eval_tmp a 24).trans (hT 6 _ 24 _ rfl rfl rfl (hdep _ (Array.mem_of_getElem? (i := 0) rfl) rfl))
      have h63 : d 63 = false := not_yet hcl hdi (j := 63) (p := 10) rfl rfl rfl rfl
      have hb : Below W0.heap.size W0 wx := by
        cases h62 : d 62
        · rw [hSp.1 h62]; exact Below.drew (Below.refl _ _)
        · rw [hSp.2.1 h62 h63]; exact below_alloc1 (Below.drew (Below.refl _ _)) _
      have c0 : wx.cell? ⟨o, 1, Option.none⟩ = some (.int .u64 1) := (blk_cell (heap_below hb HO.out) 1).trans rfl
      clear hb h63
      clear hdi hdep hfr hT hcl
      refine op_val rfl rfl (.int .u64 1) (fun K' hK => ?_) ⟨_, rfl, fun u hu => by cases hu; rfl, hSp⟩
      clear hSp
      go_simp
      exact hK
    | 8, ho =>
      rw [← Array.getElem?_toList] at ho
      simp only [List.getElem?_cons_zero, List.getElem?_cons_succ, Option.some.injEq] at ho
      subst ho
      have e3 : a.tmps[3]?.getD undef = .pointer (some ⟨o, 0, Option.none⟩) := (eval_tmp a 3).trans (hfr 3 (by decide +kernel))
      clear hdi hdep hfr hT hcl
      refine op_val rfl rfl (.pointer (some ⟨o, 2, Option.none⟩)) (fun K' hK => ?_) ⟨_, rfl, fun u hu => by cases hu; rfl, hSp⟩
      clear hSp
      go_simp
      exact hK
    | 9, ho =>
      rw [← Array.getElem?_toList] at ho
      simp only [List.getElem?_cons_zero, List.getElem?_cons_succ, Option.some.injEq] at ho
      subst ho
      have e26 := (eval_tmp a 26).trans (hT 8 _ 26 _ rfl rfl rfl (hdep _ (Array.mem_of_getElem? (i := 0) rfl) rfl))
      have h63 : d 63 = false := not_yet hcl hdi (j := 63) (p := 12) rfl rfl rfl rfl
      have hb : Below W0.heap.size W0 wx := by
        cases h62 : d 62
        · rw [hSp.1 h62]; exact Below.drew (Below.refl _ _)
        · rw [hSp.2.1 h62 h63]; exact below_alloc1 (Below.drew (Below.refl _ _)) _
      have c0 : wx.cell? ⟨o, 2, Option.none⟩ = some (.int .u64 1) := (blk_cell (heap_below hb HO.out) 2).trans rfl
      clear hb h63
      clear hdi hdep hfr hT hcl
      refine op_val rfl rfl (.int .u64 1) (fun K' hK => ?_) ⟨_, rfl, fun u hu => by cases hu; rfl, hSp⟩
      clear hSp
      go_simp
      exact hK
    | 10, ho =>
      rw [← Array.getElem?_toList] at ho
      simp only [List.getElem?_cons_zero, List.getElem?_cons_succ, Option.some.injEq] at ho
      subst ho
      have e3 : a.tmps[3]?.getD undef = .pointer (some ⟨o, 0, Option.none⟩) := (eval_tmp a 3).trans (hfr 3 (by decide +kernel))
      clear hdi hdep hfr hT hcl
      refine op_val rfl rfl (.pointer (some ⟨o, 3, Option.none⟩)) (fun K' hK => ?_) ⟨_, rfl, fun u hu => by cases hu; rfl, hSp⟩
      clear hSp
      go_simp
      exact hK
    | 11, ho =>
      rw [← Array.getElem?_toList] at ho
      simp only [List.getElem?_cons_zero, List.getElem?_cons_succ, Option.some.injEq] at ho
      subst ho
      have e28 := (eval_tmp a 28).trans (hT 10 _ 28 _ rfl rfl rfl (hdep _ (Array.mem_of_getElem? (i := 0) rfl) rfl))
      have h63 : d 63 = false := not_yet hcl hdi (j := 63) (p := 14) rfl rfl rfl rfl
      have hb : Below W0.heap.size W0 wx := by
        cases h62 : d 62
        · rw [hSp.1 h62]; exact Below.drew (Below.refl _ _)
        · rw [hSp.2.1 h62 h63]; exact below_alloc1 (Below.drew (Below.refl _ _)) _
      have c0 : wx.cell? ⟨o, 3, Option.none⟩ = some (.string ⟨#[73, 78]⟩) := (blk_cell (heap_below hb HO.out) 3).trans rfl
      clear hb h63
      clear hdi hdep hfr hT hcl
      refine op_val rfl rfl (.string ⟨#[73, 78]⟩) (fun K' hK => ?_) ⟨_, rfl, fun u hu => by cases hu; rfl, hSp⟩
      clear hSp
      go_simp
      exact hK
    | 12, ho =>
      rw [← Array.getElem?_toList] at ho
      simp only [List.getElem?_cons_zero, List.getElem?_cons_succ, Option.some.injEq] at ho
      subst ho
      have e3 : a.tmps[3]?.getD undef = .pointer (some ⟨o, 0, Option.none⟩) := (eval_tmp a 3).trans (hfr 3 (by decide +kernel))
      clear hdi hdep hfr hT hcl
      refine op_val rfl rfl (.pointer (some ⟨o, 4, Option.none⟩)) (fun K' hK => ?_) ⟨_, rfl, fun u hu => by cases hu; rfl, hSp⟩
      clear hSp
      go_simp
      exact hK
    | 13, ho =>
      rw [← Array.getElem?_toList] at ho
      simp only [List.getElem?_cons_zero, List.getElem?_cons_succ, Option.some.injEq] at ho
      subst ho
      have e30 := (eval_tmp a 30).trans (hT 12 _ 30 _ rfl rfl rfl (hdep _ (Array.mem_of_getElem? (i := 0) rfl) rfl))
      have h63 : d 63 = false := not_yet hcl hdi (j := 63) (p := 16) rfl rfl rfl rfl
      have hb : Below W0.heap.size W0 wx := by
        cases h62 : d 62
        · rw [hSp.1 h62]; exact Below.drew (Below.refl _ _)
        · rw [hSp.2.1 h62 h63]; exact below_alloc1 (Below.drew (Below.refl _ _)) _
      have c0 : wx.cell? ⟨o, 4, Option.none⟩ = some (.string ⟨#[73, 80, 52]⟩) := (blk_cell (heap_below hb HO.out) 4).trans rfl
      clear hb h63
      clear hdi hdep hfr hT hcl
      refine op_val rfl rfl (.string ⟨#[73, 80, 52]⟩) (fun K' hK => ?_) ⟨_, rfl, fun u hu => by cases hu; rfl, hSp⟩
      clear hSp
      go_simp
      exact hK
    | 14, ho =>
      rw [← Array.getElem?_toList] at ho
      simp only [List.getElem?_cons_zero, List.getElem?_cons_succ, Option.some.injEq] at ho
      subst ho
      have e3 : a.tmps[3]?.getD undef = .pointer (some ⟨o, 0, Option.none⟩) := (eval_tmp a 3).trans (hfr 3 (by decide +kernel))
      clear hdi hdep hfr hT hcl
      refine op_val rfl rfl (.pointer (some ⟨o, 5, Option.none⟩)) (fun K' hK => ?_) ⟨_, rfl, fun u hu => by cases hu; rfl, hSp⟩
      clear hSp
      go_simp
      exact hK
    | 15, ho =>
      rw [← Array.getElem?_toList] at ho
      simp only [List.getElem?_cons_zero, List.getElem?_cons_succ, Option.some.injEq] at ho
      subst ho
      have e32 := (eval_tmp a 32).trans (hT 14 _ 32 _ rfl rfl rfl (hdep _ (Array.mem_of_getElem? (i := 0) rfl) rfl))
      have h63 : d 63 = false := not_yet hcl hdi (j := 63) (p := 18) rfl rfl rfl rfl
      have hb : Below W0.heap.size W0 wx := by
        cases h62 : d 62
        · rw [hSp.1 h62]; exact Below.drew (Below.refl _ _)
        · rw [hSp.2.1 h62 h63]; exact below_alloc1 (Below.drew (Below.refl _ _)) _
      have c0 : wx.cell? ⟨o, 5, Option.none⟩ = some (.string ⟨#[97]⟩) := (blk_cell (heap_below hb HO.out) 5).trans rfl
      clear hb h63
      clear hdi hdep hfr hT hcl
      refine op_val rfl rfl (.string ⟨#[97]⟩) (fun K' hK => ?_) ⟨_, rfl, fun u hu => by cases hu; rfl, hSp⟩
      clear hSp
      go_simp
      exact hK
    | 16, ho =>
      rw [← Array.getElem?_toList] at ho
      simp only [List.getElem?_cons_zero, List.getElem?_cons_succ, Option.some.injEq] at ho
      subst ho
      have e23 := (eval_tmp a 23).trans (hT 5 _ 23 _ rfl rfl rfl (hdep _ (Array.mem_of_getElem? (i := 0) rfl) rfl))
      have e25 := (eval_tmp a 25).trans (hT 7 _ 25 _ rfl rfl rfl (hdep _ (Array.mem_of_getElem? (i := 1) rfl) rfl))
      have e27 := (eval_tmp a 27).trans (hT 9 _ 27 _ rfl rfl rfl (hdep _ (Array.mem_of_getElem? (i := 2) rfl) rfl))
      have e29 := (eval_tmp a 29).trans (hT 11 _ 29 _ rfl rfl rfl (hdep _ (Array.mem_of_getElem? (i := 3) rfl) rfl))
      have e31 := (eval_tmp a 31).trans (hT 13 _ 31 _ rfl rfl rfl (hdep _ (Array.mem_of_getElem? (i := 4) rfl) rfl))
      have e33 := (eval_tmp a 33).trans (hT 15 _ 33 _ rfl rfl rfl (hdep _ (Array.mem_of_getElem? (i := 5) rfl) rfl))
      clear hdi hdep hfr hT hcl
      refine op_val rfl rfl (.agg #[.string ⟨#[45]⟩, .int .u64 1, .int .u64 1, .string ⟨#[73, 78]⟩, .string ⟨#[73, 80, 52]⟩, .string ⟨#[97]⟩]) (fun K' hK => ?_) ⟨_, rfl, fun u hu => by cases hu; rfl, hSp⟩
      clear hSp
      go_simp
      exact hK
    | 17, ho =>
      rw [← Array.getElem?_toList] at ho
      simp only [List.getElem?_cons_zero, List.getElem?_cons_succ, Option.some.injEq] at ho
      subst ho
      have e0 : a.tmps[0]?.getD undef = .pointer (some ⟨ds, 0, Option.none⟩) := (eval_tmp a 0).trans (hfr 0 (by decide +kernel))
      clear hdi hdep hfr hT hcl
      refine op_val rfl rfl (.pointer (some ⟨ds, 0, Option.none⟩)) (fun K' hK => ?_) ⟨_, rfl, fun u hu => by cases hu; rfl, hSp⟩
      clear hSp
      go_simp
      exact hK
    | 18, ho =>
      rw [← Array.getElem?_toList] at ho
      simp only [List.getElem?_cons_zero, List.getElem?_cons_succ, Option.some.injEq] at ho
      subst ho
      have e35 := (eval_tmp a 35).trans (hT 17 _ 35 _ rfl rfl rfl (hdep _ (Array.mem_of_getElem? (i := 0) rfl) rfl))
      clear hdi hdep hfr hT hcl
      refine op_val rfl rfl (.pointer (some ⟨ds, 0, Option.none⟩)) (fun K' hK => ?_) ⟨_, rfl, fun u hu => by cases hu; rfl, hSp⟩
      clear hSp
      go_simp
      exact hK
    | 19, ho =>
      rw [← Array.getElem?_toList] at ho
      simp only [List.getElem?_cons_zero, List.getElem?_cons_succ, Option.some.injEq] at ho
      subst ho
      have e36 := (eval_tmp a 36).trans (hT 18 _ 36 _ rfl rfl rfl (hdep _ (Array.mem_of_getElem? (i := 0) rfl) rfl))
      clear hdi hdep hfr hT hcl
      refine op_val rfl rfl (.pointer (some ⟨ds, 7, Option.none⟩)) (fun K' hK => ?_) ⟨_, rfl, fun u hu => by cases hu; rfl, hSp⟩
      clear hSp
      go_simp
      exact hK
    | 20, ho =>
      rw [← Array.getElem?_toList] at ho
      simp only [List.getElem?_cons_zero, List.getElem?_cons_succ, Option.some.injEq] at ho
      subst ho
      have e37 := (eval_tmp a 37).trans (hT 19 _ 37 _ rfl rfl rfl (hdep _ (Array.mem_of_getElem? (i := 0) rfl) rfl))
      have h63 : d 63 = false := not_yet hcl hdi (j := 63) (p := 23) rfl rfl rfl rfl
      have hb : Below W0.heap.size W0 wx := by
        cases h62 : d 62
        · rw [hSp.1 h62]; exact Below.drew (Below.refl _ _)
        · rw [hSp.2.1 h62 h63]; exact below_alloc1 (Below.drew (Below.refl _ _)) _
      have c0 : wx.cell? ⟨ds, 7, Option.none⟩ = some (.string ⟨#[120]⟩) := (blk_cell (heap_below hb HD0.out) 7).trans rfl
      clear hb h63
      clear hdi hdep hfr hT hcl
      refine op_val rfl rfl (.string ⟨#[120]⟩) (fun K' hK => ?_) ⟨_, rfl, fun u hu => by cases hu; rfl, hSp⟩
      clear hSp
      go_simp
      exact hK
    | 21, ho =>
      rw [← Array.getElem?_toList] at ho
      simp only [List.getElem?_cons_zero, List.getElem?_cons_succ, Option.some.injEq] at ho
      subst ho
      have e0 : a.tmps[0]?.getD undef = .pointer (some ⟨ds, 0, Option.none⟩) := (eval_tmp a 0).trans (hfr 0 (by decide +kernel))
      clear hdi hdep hfr hT hcl
      refine op_val rfl rfl (.pointer (some ⟨ds, 0, Option.none⟩)) (fun K' hK => ?_) ⟨_, rfl, fun u hu => by cases hu; rfl, hSp⟩
      clear hSp
      go_simp
      exact hK
    | 22, ho =>
      rw [← Array.getElem?_toList] at ho
      simp only [List.getElem?_cons_zero, List.getElem?_cons_succ, Option.some.injEq] at ho
      subst ho
      have e39 := (eval_tmp a 39).trans (hT 21 _ 39 _ rfl rfl rfl (hdep _ (Array.mem_of_getElem? (i := 0) rfl) rfl))
      clear hdi hdep hfr hT hcl
      refine op_val rfl rfl (.pointer (some ⟨ds, 0, Option.none⟩)) (fun K' hK => ?_) ⟨_, rfl, fun u hu => by cases hu; rfl, hSp⟩
      clear hSp
      go_simp
      exact hK
    | 23, ho =>
      rw [← Array.getElem?_toList] at ho
      simp only [List.getElem?_cons_zero, List.getElem?_cons_succ, Option.some.injEq] at ho
      subst ho
      have e40 := (eval_tmp a 40).trans (hT 22 _ 40 _ rfl rfl rfl (hdep _ (Array.mem_of_getElem? (i := 0) rfl) rfl))
      clear hdi hdep hfr hT hcl
      refine op_val rfl rfl (.pointer (some ⟨ds, 8, Option.none⟩)) (fun K' hK => ?_) ⟨_, rfl, fun u hu => by cases hu; rfl, hSp⟩
      clear hSp
      go_simp
      exact hK
    | 24, ho =>
      rw [← Array.getElem?_toList] at ho
      simp only [List.getElem?_cons_zero, List.getElem?_cons_succ, Option.some.injEq] at ho
      subst ho
      have e41 := (eval_tmp a 41).trans (hT 23 _ 41 _ rfl rfl rfl (hdep _ (Array.mem_of_getElem? (i := 0) rfl) rfl))
      have h63 : d 63 = false := not_yet hcl hdi (j := 63) (p := 27) rfl rfl rfl rfl
      have hb : Below W0.heap.size W0 wx := by
        cases h62 : d 62
        · rw [hSp.1 h62]; exact Below.drew (Below.refl _ _)
        · rw [hSp.2.1 h62 h63]; exact below_alloc1 (Below.drew (Below.refl _ _)) _
      have c0 : wx.cell? ⟨ds, 8, Option.none⟩ = some (.pointer Option.none) := (blk_cell (heap_below hb HD0.out) 8).trans rfl
      clear hb h63
      clear hdi hdep hfr hT hcl
      refine op_val rfl rfl (.pointer Option.none) (fun K' hK => ?_) ⟨_, rfl, fun u hu => by cases hu; rfl, hSp⟩
      clear hSp
      go_simp
      exact hK
    | 25, ho =>
      rw [← Array.getElem?_toList] at ho
      simp only [List.getElem?_cons_zero, List.getElem?_cons_succ, Option.some.injEq] at ho
      subst ho
      have e42 := (eval_tmp a 42).trans (hT 24 _ 42 _ rfl rfl rfl (hdep _ (Array.mem_of_getElem? (i := 0) rfl) rfl))
      clear hdi hdep hfr hT hcl
      refine op_val rfl rfl (.slice Option.none 0 0) (fun K' hK => ?_) ⟨_, rfl, fun u hu => by cases hu; rfl, hSp⟩
      clear hSp
      have hK' := Bx.mk hK
      clear hK
      go_simp
      refine (nil75_calls _).mono ?_
      rintro e w1 ⟨rfl, rfl⟩
      exact hK'.out
    | 26, ho =>
      rw [← Array.getElem?_toList] at ho
      simp only [List.getElem?_cons_zero, List.getElem?_cons_succ, Option.some.injEq] at ho
      subst ho
      have e0 : a.tmps[0]?.getD undef = .pointer (some ⟨ds, 0, Option.none⟩) := (eval_tmp a 0).trans (hfr 0 (by decide +kernel))
      clear hdi hdep hfr hT hcl
      refine op_val rfl rfl (.pointer (some ⟨ds, 0, Option.none⟩)) (fun K' hK => ?_) ⟨_, rfl, fun u hu => by cases hu; rfl, hSp⟩
      clear hSp
      go_simp
      exact hK
    | 27, ho =>
      rw [← Array.getElem?_toList] at ho
      simp only [List.getElem?_cons_zero, List.getElem?_cons_succ, Option.some.injEq] at ho
      subst ho
      have e44 := (eval_tmp a 44).trans (hT 26 _ 44 _ rfl rfl rfl (hdep _ (Array.mem_of_getElem? (i := 0) rfl) rfl))
      clear hdi hdep hfr hT hcl
      refine op_val rfl rfl (.pointer (some ⟨ds, 0, Option.none⟩)) (fun K' hK => ?_) ⟨_, rfl, fun u hu => by cases hu; rfl, hSp⟩
      clear hSp
      go_simp
      exact hK
    | 28, ho =>
      rw [← Array.getElem?_toList] at ho
      simp only [List.getElem?_cons_zero, List.getElem?_cons_succ, Option.some.injEq] at ho
      subst ho
      have e45 := (eval_tmp a 45).trans (hT 27 _ 45 _ rfl rfl rfl (hdep _ (Array.mem_of_getElem? (i := 0) rfl) rfl))
      clear hdi hdep hfr hT hcl
      refine op_val rfl rfl (.pointer (some ⟨ds, 9, Option.none⟩)) (fun K' hK => ?_) ⟨_, rfl, fun u hu => by cases hu; rfl, hSp⟩
      clear hSp
      go_simp
      exact hK
    | 29, ho =>
      rw [← Array.getElem?_toList] at ho
      simp only [List.getElem?_cons_zero, List.getElem?_cons_succ, Option.some.injEq] at ho
      subst ho
      have e46 := (eval_tmp a 46).trans (hT 28 _ 46 _ rfl rfl rfl (hdep _ (Array.mem_of_getElem? (i := 0) rfl) rfl))
      have h63 : d 63 = false := not_yet hcl hdi (j := 63) (p := 32) rfl rfl rfl rfl
      have hb : Below W0.heap.size W0 wx := by
        cases h62 : d 62
        · rw [hSp.1 h62]; exact Below.drew (Below.refl _ _)
        · rw [hSp.2.1 h62 h63]; exact below_alloc1 (Below.drew (Below.refl _ _)) _
      have c0 : wx.cell? ⟨ds, 9, Option.none⟩ = some (.pointer Option.none) := (blk_cell (heap_below hb HD0.out) 9).trans rfl
      clear hb h63
      clear hdi hdep hfr hT hcl
      refine op_val rfl rfl (.pointer Option.none) (fun K' hK => ?_) ⟨_, rfl, fun u hu => by cases hu; rfl, hSp⟩
      clear hSp
      go_simp
      exact hK
    | 30, ho =>
      rw [← Array.getElem?_toList] at ho
      simp only [List.getElem?_cons_zero, List.getElem?_cons_succ, Option.some.injEq] at ho
      subst ho
      have e47 := (eval_tmp a 47).trans (hT 29 _ 47 _ rfl rfl rfl (hdep _ (Array.mem_of_getElem? (i := 0) rfl) rfl))
      clear hdi hdep hfr hT hcl
      refine op_val rfl rfl (.slice Option.none 0 0) (fun K' hK => ?_) ⟨_, rfl, fun u hu => by cases hu; rfl, hSp⟩
      clear hSp
      have hK' := Bx.mk hK
      clear hK
      go_simp
      refine (nil76_calls _).mono ?_
      rintro e w1 ⟨rfl, rfl⟩
      exact hK'.out
    | 31, ho =>
      rw [← Array.getElem?_toList] at ho
      simp only [List.getElem?_cons_zero, List.getElem?_cons_succ, Option.some.injEq] at ho
      subst ho
      have e0 : a.tmps[0]?.getD undef = .pointer (some ⟨ds, 0, Option.none⟩) := (eval_tmp a 0).trans (hfr 0 (by decide +kernel))
      clear hdi hdep hfr hT hcl
      refine op_val rfl rfl (.pointer (some ⟨ds, 0, Option.none⟩)) (fun K' hK => ?_) ⟨_, rfl, fun u hu => by cases hu; rfl, hSp⟩
      clear hSp
      go_simp
      exact hK
    | 32, ho =>
      rw [← Array.getElem?_toList] at ho
      simp only [List.getElem?_cons_zero, List.getElem?_cons_succ, Option.some.injEq] at ho
      subst ho
      have e49 := (eval_tmp a 49).trans (hT 31 _ 49 _ rfl rfl rfl (hdep _ (Array.mem_of_getElem? (i := 0) rfl) rfl))
      clear hdi hdep hfr hT hcl
      refine op_val rfl rfl (.pointer (some ⟨ds, 0, Option.none⟩)) (fun K' hK => ?_) ⟨_, rfl, fun u hu => by cases hu; rfl, hSp⟩
      clear hSp
      go_simp
      exact hK
    | 33, ho =>
      rw [← Array.getElem?_toList] at ho
      simp only [List.getElem?_cons_zero, List.getElem?_cons_succ, Option.some.injEq] at ho
      subst ho
      have e50 := (eval_tmp a 50).trans (hT 32 _ 50 _ rfl rfl rfl (hdep _ (Array.mem_of_getElem? (i := 0) rfl) rfl))
      clear hdi hdep hfr hT hcl
      refine op_val rfl rfl (.pointer (some ⟨ds, 10, Option.none⟩)) (fun K' hK => ?_) ⟨_, rfl, fun u hu => by cases hu; rfl, hSp⟩
      clear hSp
      go_simp
      exact hK
    | 34, ho =>
      rw [← Array.getElem?_toList] at ho
      simp only [List.getElem?_cons_zero, List.getElem?_cons_succ, Option.some.injEq] at ho
      subst ho
      have e51 := (eval_tmp a 51).trans (hT 33 _ 51 _ rfl rfl rfl (hdep _ (Array.mem_of_getElem? (i := 0) rfl) rfl))
      have h63 : d 63 = false := not_yet hcl hdi (j := 63) (p := 37) rfl rfl rfl rfl
      have hb : Below W0.heap.size W0 wx := by
        cases h62 : d 62
        · rw [hSp.1 h62]; exact Below.drew (Below.refl _ _)
        · rw [hSp.2.1 h62 h63]; exact below_alloc1 (Below.drew (Below.refl _ _)) _
      have c0 : wx.cell? ⟨ds, 10, Option.none⟩ = some (.pointer Option.none) := (blk_cell (heap_below hb HD0.out) 10).trans rfl
      clear hb h63
      clear hdi hdep hfr hT hcl
      refine op_val rfl rfl (.pointer Option.none) (fun K' hK => ?_) ⟨_, rfl, fun u hu => by cases hu; rfl, hSp⟩
      clear hSp
      go_simp
      exact hK
    | 35, ho =>
      rw [← Array.getElem?_toList] at ho
      simp only [List.getElem?_cons_zero, List.getElem?_cons_succ, Option.some.injEq] at ho
      subst ho
      have e52 := (eval_tmp a 52).trans (hT 34 _ 52 _ rfl rfl rfl (hdep _ (Array.mem_of_getElem? (i := 0) rfl) rfl))
      clear hdi hdep hfr hT hcl
      refine op_val rfl rfl (.slice Option.none 0 0) (fun K' hK => ?_) ⟨_, rfl, fun u hu => by cases hu; rfl, hSp⟩
      clear hSp
      have hK' := Bx.mk hK
      clear hK
      go_simp
      refine (nil77_calls _).mono ?_
      rintro e w1 ⟨rfl, rfl⟩
      exact hK'.out
    | 36, ho =>
      rw [← Array.getElem?_toList] at ho
      simp only [List.getElem?_cons_zero, List.getElem?_cons_succ, Option.some.injEq] at ho
      subst ho
      have e0 : a.tmps[0]?.getD undef = .pointer (some ⟨ds, 0, Option.none⟩) := (eval_tmp a 0).trans (hfr 0 (by decide +kernel))
      clear hdi hdep hfr hT hcl
      refine op_val rfl rfl (.pointer (some ⟨ds, 0, Option.none⟩)) (fun K' hK => ?_) ⟨_, rfl, fun u hu => by cases hu; rfl, hSp⟩
      clear hSp
      go_simp
      exact hK
    | 37, ho =>
      rw [← Array.getElem?_toList] at ho
      simp only [List.getElem?_cons_zero, List.getElem?_cons_succ, Option.some.injEq] at ho
      subst ho
      have e54 := (eval_tmp a 54).trans (hT 36 _ 54 _ rfl rfl rfl (hdep _ (Array.mem_of_getElem? (i := 0) rfl) rfl))
      clear hdi hdep hfr hT hcl
      refine op_val rfl rfl (.pointer (some ⟨ds, 0, Option.none⟩)) (fun K' hK => ?_) ⟨_, rfl, fun u hu => by cases hu; rfl, hSp⟩
      clear hSp
      go_simp
      exact hK
    | 38, ho =>
      rw [← Array.getElem?_toList] at ho
      simp only [List.getElem?_cons_zero, List.getElem?_cons_succ, Option.some.injEq] at ho
      subst ho
      have e55 := (eval_tmp a 55).trans (hT 37 _ 55 _ rfl rfl rfl (hdep _ (Array.mem_of_getElem? (i := 0) rfl) rfl))
      clear hdi hdep hfr hT hcl
      refine op_val rfl rfl (.pointer (some ⟨ds, 11, Option.none⟩)) (fun K' hK => ?_) ⟨_, rfl, fun u hu => by cases hu; rfl, hSp⟩
      clear hSp
      go_simp
      exact hK
    | 39, ho =>
      rw [← Array.getElem?_toList] at ho
      simp only [List.getElem?_cons_zero, List.getElem?_cons_succ, Option.some.injEq] at ho
      subst ho
      have e56 := (eval_tmp a 56).trans (hT 38 _ 56 _ rfl rfl rfl (hdep _ (Array.mem_of_getElem? (i := 0) rfl) rfl))
      have h63 : d 63 = false := not_yet hcl hdi (j := 63) (p := 42) rfl rfl rfl rfl
      have hb : Below W0.heap.size W0 wx := by
        cases h62 : d 62
        · rw [hSp.1 h62]; exact Below.drew (Below.refl _ _)
        · rw [hSp.2.1 h62 h63]; exact below_alloc1 (Below.drew (Below.refl _ _)) _
      have c0 : wx.cell? ⟨ds, 11, Option.none⟩ = some (.pointer Option.none) := (blk_cell (heap_below hb HD0.out) 11).trans rfl
      clear hb h63
      clear hdi hdep hfr hT hcl
      refine op_val rfl rfl (.pointer Option.none) (fun K' hK => ?_) ⟨_, rfl, fun u hu => by cases hu; rfl, hSp⟩
      clear hSp
      go_simp
      exact hK
    | 40, ho =>
      rw [← Array.getElem?_toList] at ho
      simp only [List.getElem?_cons_zero, List.getElem?_cons_succ, Option.some.injEq] at ho
      subst ho
      have e57 := (eval_tmp a 57).trans (hT 39 _ 57 _ rfl rfl rfl (hdep _ (Array.mem_of_getElem? (i := 0) rfl) rfl))
      clear hdi hdep hfr hT hcl
      refine op_val rfl rfl (.slice Option.none 0 0) (fun K' hK => ?_) ⟨_, rfl, fun u hu => by cases hu; rfl, hSp⟩
      clear hSp
      have hK' := Bx.mk hK
      clear hK
      go_simp
      refine (nil78_calls _).mono ?_
      rintro e w1 ⟨rfl, rfl⟩
      exact hK'.out
    | 41, ho =>
      rw [← Array.getElem?_toList] at ho
      simp only [List.getElem?_cons_zero, List.getElem?_cons_succ, Option.some.injEq] at ho
      subst ho
      have e0 : a.tmps[0]?.getD undef = .pointer (some ⟨ds, 0, Option.none⟩) := (eval_tmp a 0).trans (hfr 0 (by decide +kernel))
      clear hdi hdep hfr hT hcl
      refine op_val rfl rfl (.pointer (some ⟨ds, 0, Option.none⟩)) (fun K' hK => ?_) ⟨_, rfl, fun u hu => by cases hu; rfl, hSp⟩
      clear hSp
      go_simp
      exact hK
    | 42, ho =>
      rw [← Array.getElem?_toList] at ho
      simp only [List.getElem?_cons_zero, List.getElem?_cons_succ, Option.some.injEq] at ho
      subst ho
      have e59 := (eval_tmp a 59).trans (hT 41 _ 59 _ rfl rfl rfl (hdep _ (Array.mem_of_getElem? (i := 0) rfl) rfl))
      clear hdi hdep hfr hT hcl
      refine op_val rfl rfl (.pointer (some ⟨ds, 0, Option.none⟩)) (fun K' hK => ?_) ⟨_, rfl, fun u hu => by cases hu; rfl, hSp⟩
      clear hSp
      go_simp
      exact hK
    | 43, ho =>
      rw [← Array.getElem?_toList] at ho
      simp only [List.getElem?_cons_zero, List.getElem?_cons_succ, Option.some.injEq] at ho
      subst ho
      have e60 := (eval_tmp a 60).trans (hT 42 _ 60 _ rfl rfl rfl (hdep _ (Array.mem_of_getElem? (i := 0) rfl) rfl))
      clear hdi hdep hfr hT hcl
      refine op_val rfl rfl (.pointer (some ⟨ds, 12, Option.none⟩)) (fun K' hK => ?_) ⟨_, rfl, fun u hu => by cases hu; rfl, hSp⟩
      clear hSp
      go_simp
      exact hK
    | 44, ho =>
      rw [← Array.getElem?_toList] at ho
      simp only [List.getElem?_cons_zero, List.getElem?_cons_succ, Option.some.injEq] at ho
      subst ho
      have e61 := (eval_tmp a 61).trans (hT 43 _ 61 _ rfl rfl rfl (hdep _ (Array.mem_of_getElem? (i := 0) rfl) rfl))
      have h63 : d 63 = false := not_yet hcl hdi (j := 63) (p := 47) rfl rfl rfl rfl
      have hb : Below W0.heap.size W0 wx := by
        cases h62 : d 62
        · rw [hSp.1 h62]; exact Below.drew (Below.refl _ _)
        · rw [hSp.2.1 h62 h63]; exact below_alloc1 (Below.drew (Below.refl _ _)) _
      have c0 : wx.cell? ⟨ds, 12, Option.none⟩ = some (.pointer Option.none) := (blk_cell (heap_below hb HD0.out) 12).trans rfl
      clear hb h63
      clear hdi hdep hfr hT hcl
      refine op_val rfl rfl (.pointer Option.none) (fun K' hK => ?_) ⟨_, rfl, fun u hu => by cases hu; rfl, hSp⟩
      clear hSp
      go_simp
      exact hK
    | 45, ho =>
      rw [← Array.getElem?_toList] at ho
      simp only [List.getElem?_cons_zero, List.getElem?_cons_succ, Option.some.injEq] at ho
      subst ho
      have e62 := (eval_tmp a 62).trans (hT 44 _ 62 _ rfl rfl rfl (hdep _ (Array.mem_of_getElem? (i := 0) rfl) rfl))
      clear hdi hdep hfr hT hcl
      refine op_val rfl rfl (.slice Option.none 0 0) (fun K' hK => ?_) ⟨_, rfl, fun u hu => by cases hu; rfl, hSp⟩
      clear hSp
      have hK' := Bx.mk hK
      clear hK
      go_simp
      refine (nil79_calls _).mono ?_
      rintro e w1 ⟨rfl, rfl⟩
      exact hK'.out
    | 46, ho =>
      rw [← Array.getElem?_toList] at ho
      simp only [List.getElem?_cons_zero, List.getElem?_cons_succ, Option.some.injEq] at ho
      subst ho
      have e0 : a.tmps[0]?.getD undef = .pointer (some ⟨ds, 0, Option.none⟩) := (eval_tmp a 0).trans (hfr 0 (by decide +kernel))
      clear hdi hdep hfr hT hcl
      refine op_val rfl rfl (.pointer (some ⟨ds, 0, Option.none⟩)) (fun K' hK => ?_) ⟨_, rfl, fun u hu => by cases hu; rfl, hSp⟩
      clear hSp
      go_simp
      exact hK
    | 47, ho =>
      rw [← Array.getElem?_toList] at ho
      simp only [List.getElem?_cons_zero, List.getElem?_cons_succ, Option.some.injEq] at ho
      subst ho
      have e64 := (eval_tmp a 64).trans (hT 46 _ 64 _ rfl rfl rfl (hdep _ (Array.mem_of_getElem? (i := 0) rfl) rfl))
      clear hdi hdep hfr hT hcl
      refine op_val rfl rfl (.pointer (some ⟨ds, 0, Option.none⟩)) (fun K' hK => ?_) ⟨_, rfl, fun u hu => by cases hu; rfl, hSp⟩
      clear hSp
      go_simp
      exact hK
    | 48, ho =>
      rw [← Array.getElem?_toList] at ho
      simp only [List.getElem?_cons_zero, List.getElem?_cons_succ, Option.some.injEq] at ho
      subst ho
      have e65 := (eval_tmp a 65).trans (hT 47 _ 65 _ rfl rfl rfl (hdep _ (Array.mem_of_getElem? (i := 0) rfl) rfl))
      clear hdi hdep hfr hT hcl
      refine op_val rfl rfl (.pointer (some ⟨ds, 13, Option.none⟩)) (fun K' hK => ?_) ⟨_, rfl, fun u hu => by cases hu; rfl, hSp⟩
      clear hSp
      go_simp
      exact hK
    | 49, ho =>
      rw [← Array.getElem?_toList] at ho
      simp only [List.getElem?_cons_zero, List.getElem?_cons_succ, Option.some.injEq] at ho
      subst ho
      have e66 := (eval_tmp a 66).trans (hT 48 _ 66 _ rfl rfl rfl (hdep _ (Array.mem_of_getElem? (i := 0) rfl) rfl))
      have h63 : d 63 = false := not_yet hcl hdi (j := 63) (p := 52) rfl rfl rfl rfl
      have hb : Below W0.heap.size W0 wx := by
        cases h62 : d 62
        · rw [hSp.1 h62]; exact Below.drew (Below.refl _ _)
        · rw [hSp.2.1 h62 h63]; exact below_alloc1 (Below.drew (Below.refl _ _)) _
      have c0 : wx.cell? ⟨ds, 13, Option.none⟩ = some (.slice Option.none 0 0) := (blk_cell (heap_below hb HD0.out) 13).trans rfl
      clear hb h63
      clear hdi hdep hfr hT hcl
      refine op_val rfl rfl (.slice Option.none 0 0) (fun K' hK => ?_) ⟨_, rfl, fun u hu => by cases hu; rfl, hSp⟩
      clear hSp
      go_simp
      exact hK
    | 50, ho =>
      rw [← Array.getElem?_toList] at ho
      simp only [List.getElem?_cons_zero, List.getElem?_cons_succ, Option.some.injEq] at ho
      subst ho
      have e67 := (eval_tmp a 67).trans (hT 49 _ 67 _ rfl rfl rfl (hdep _ (Array.mem_of_getElem? (i := 0) rfl) rfl))
      clear hdi hdep hfr hT hcl
      refine op_val rfl rfl (.slice Option.none 0 0) (fun K' hK => ?_) ⟨_, rfl, fun u hu => by cases hu; rfl, hSp⟩
      clear hSp
      have hK' := Bx.mk hK
      clear hK
      go_simp
      refine (nil80_calls _).mono ?_
      rintro e w1 ⟨rfl, rfl⟩
      exact hK'.out
    | 51, ho =>
      rw [← Array.getElem?_toList] at ho
      simp only [List.getElem?_cons_zero, List.getElem?_cons_succ, Option.some.injEq] at ho
      subst ho
      have e0 : a.tmps[0]?.getD undef = .pointer (some ⟨ds, 0, Option.none⟩) := (eval_tmp a 0).trans (hfr 0 (by decide +kernel))
      clear hdi hdep hfr hT hcl
      refine op_val rfl rfl (.pointer (some ⟨ds, 0, Option.none⟩)) (fun K' hK => ?_) ⟨_, rfl, fun u hu => by cases hu; rfl, hSp⟩
      clear hSp
      go_simp
      exact hK
    | 52, ho =>
      rw [← Array.getElem?_toList] at ho
      simp only [List.getElem?_cons_zero, List.getElem?_cons_succ, Option.some.injEq] at ho
      subst ho
      have e69 := (eval_tmp a 69).trans (hT 51 _ 69 _ rfl rfl rfl (hdep _ (Array.mem_of_getElem? (i := 0) rfl) rfl))
      clear hdi hdep hfr hT hcl
      refine op_val rfl rfl (.pointer (some ⟨ds, 0, Option.none⟩)) (fun K' hK => ?_) ⟨_, rfl, fun u hu => by cases hu; rfl, hSp⟩
      clear hSp
      go_simp
      exact hK
    | 53, ho =>
      rw [← Array.getElem?_toList] at ho
      simp only [List.getElem?_cons_zero, List.getElem?_cons_succ, Option.some.injEq] at ho
      subst ho
      have e70 := (eval_tmp a 70).trans (hT 52 _ 70 _ rfl rfl rfl (hdep _ (Array.mem_of_getElem? (i := 0) rfl) rfl))
      clear hdi hdep hfr hT hcl
      refine op_val rfl rfl (.pointer (some ⟨ds, 16, Option.none⟩)) (fun K' hK => ?_) ⟨_, rfl, fun u hu => by cases hu; rfl, hSp⟩
      clear hSp
      go_simp
      exact hK
    | 54, ho =>
      rw [← Array.getElem?_toList] at ho
      simp only [List.getElem?_cons_zero, List.getElem?_cons_succ, Option.some.injEq] at ho
      subst ho
      have e71 := (eval_tmp a 71).trans (hT 53 _ 71 _ rfl rfl rfl (hdep _ (Array.mem_of_getElem? (i := 0) rfl) rfl))
      have h63 : d 63 = false := not_yet hcl hdi (j := 63) (p := 57) rfl rfl rfl rfl
      have hb : Below W0.heap.size W0 wx := by
        cases h62 : d 62
        · rw [hSp.1 h62]; exact Below.drew (Below.refl _ _)
        · rw [hSp.2.1 h62 h63]; exact below_alloc1 (Below.drew (Below.refl _ _)) _
      have c0 : wx.cell? ⟨ds, 16, Option.none⟩ = some (.pointer Option.none) := (blk_cell (heap_below hb HD0.out) 16).trans rfl
      clear hb h63
      clear hdi hdep hfr hT hcl
      refine op_val rfl rfl (.pointer Option.none) (fun K' hK => ?_) ⟨_, rfl, fun u hu => by cases hu; rfl, hSp⟩
      clear hSp
      go_simp
      exact hK
    | 55, ho =>
      rw [← Array.getElem?_toList] at ho
      simp only [List.getElem?_cons_zero, List.getElem?_cons_succ, Option.some.injEq] at ho
      subst ho
      have e72 := (eval_tmp a 72).trans (hT 54 _ 72 _ rfl rfl rfl (hdep _ (Array.mem_of_getElem? (i := 0) rfl) rfl))
      clear hdi hdep hfr hT hcl
      refine op_val rfl rfl (.slice Option.none 0 0) (fun K' hK => ?_) ⟨_, rfl, fun u hu => by cases hu; rfl, hSp⟩
      clear hSp
      have hK' := Bx.mk hK
      clear hK
      go_simp
      refine (nil81_calls _).mono ?_
      rintro e w1 ⟨rfl, rfl⟩
      exact hK'.out
    | 56, ho =>
      rw [← Array.getElem?_toList] at ho
      simp only [List.getElem?_cons_zero, List.getElem?_cons_succ, Option.some.injEq] at ho
      subst ho
      have e0 : a.tmps[0]?.getD undef = .pointer (some ⟨ds, 0, Option.none⟩) := (eval_tmp a 0).trans (hfr 0 (by decide +kernel))
      clear hdi hdep hfr hT hcl
      refine op_val rfl rfl (.pointer (some ⟨ds, 0, Option.none⟩)) (fun K' hK => ?_) ⟨_, rfl, fun u hu => by cases hu; rfl, hSp⟩
      clear hSp
      go_simp
      exact hK
    | 57, ho =>
      rw [← Array.getElem?_toList] at ho
      simp only [List.getElem?_cons_zero, List.getElem?_cons_succ, Option.some.injEq] at ho
      subst ho
      have e74 := (eval_tmp a 74).trans (hT 56 _ 74 _ rfl rfl rfl (hdep _ (Array.mem_of_getElem? (i := 0) rfl) rfl))
      clear hdi hdep hfr hT hcl
      refine op_val rfl rfl (.pointer (some ⟨ds, 0, Option.none⟩)) (fun K' hK => ?_) ⟨_, rfl, fun u hu => by cases hu; rfl, hSp⟩
      clear hSp
      go_simp
      exact hK
    | 58, ho =>
      rw [← Array.getElem?_toList] at ho
      simp only [List.getElem?_cons_zero, List.getElem?_cons_succ, Option.some.injEq] at ho
      subst ho
      have e75 := (eval_tmp a 75).trans (hT 57 _ 75 _ rfl rfl rfl (hdep _ (Array.mem_of_getElem? (i := 0) rfl) rfl))
      clear hdi hdep hfr hT hcl
      refine op_val rfl rfl (.pointer (some ⟨ds, 17, Option.none⟩)) (fun K' hK => ?_) ⟨_, rfl, fun u hu => by cases hu; rfl, hSp⟩
      clear hSp
      go_simp
      exact hK
    | 59, ho =>
      rw [← Array.getElem?_toList] at ho
      simp only [List.getElem?_cons_zero, List.getElem?_cons_succ, Option.some.injEq] at ho
      subst ho
      have e76 := (eval_tmp a 76).trans (hT 58 _ 76 _ rfl rfl rfl (hdep _ (Array.mem_of_getElem? (i := 0) rfl) rfl))
      have h63 : d 63 = false := not_yet hcl hdi (j := 63) (p := 62) rfl rfl rfl rfl
      have hb : Below W0.heap.size W0 wx := by
        cases h62 : d 62
        · rw [hSp.1 h62]; exact Below.drew (Below.refl _ _)
        · rw [hSp.2.1 h62 h63]; exact below_alloc1 (Below.drew (Below.refl _ _)) _
      have c0 : wx.cell? ⟨ds, 17, Option.none⟩ = some (.slice Option.none 0 0) := (blk_cell (heap_below hb HD0.out) 17).trans rfl
      clear hb h63
      clear hdi hdep hfr hT hcl
      refine op_val rfl rfl (.slice Option.none 0 0) (fun K' hK => ?_) ⟨_, rfl, fun u hu => by cases hu; rfl, hSp⟩
      clear hSp
      go_simp
      exact hK
    | 60, ho =>
      rw [← Array.getElem?_toList] at ho
      simp only [List.getElem?_cons_zero, List.getElem?_cons_succ, Option.some.injEq] at ho
      subst ho
      have e77 := (eval_tmp a 77).trans (hT 59 _ 77 _ rfl rfl rfl (hdep _ (Array.mem_of_getElem? (i := 0) rfl) rfl))
      clear hdi hdep hfr hT hcl
      refine op_val rfl rfl (.slice Option.none 0 0) (fun K' hK => ?_) ⟨_, rfl, fun u hu => by cases hu; rfl, hSp⟩
      clear hSp
      have hK' := Bx.mk hK
      clear hK
      go_simp
      refine (nil82_calls _).mono ?_
      rintro e w1 ⟨rfl, rfl⟩
      exact hK'.out
    | 61, ho =>
      rw [← Array.getElem?_toList] at ho
      simp only [List.getElem?_cons_zero, List.getElem?_cons_succ, Option.some.injEq] at ho
      subst ho
      have e21 := (eval_tmp a 21).trans (hT 3 _ 21 _ rfl rfl rfl (hdep _ (Array.mem_of_getElem? (i := 0) rfl) rfl))
      have e34 := (eval_tmp a 34).trans (hT 16 _ 34 _ rfl rfl rfl (hdep _ (Array.mem_of_getElem? (i := 1) rfl) rfl))
      have e38 := (eval_tmp a 38).trans (hT 20 _ 38 _ rfl rfl rfl (hdep _ (Array.mem_of_getElem? (i := 2) rfl) rfl))
      have e43 := (eval_tmp a 43).trans (hT 25 _ 43 _ rfl rfl rfl (hdep _ (Array.mem_of_getElem? (i := 3) rfl) rfl))
      have e48 := (eval_tmp a 48).trans (hT 30 _ 48 _ rfl rfl rfl (hdep _ (Array.mem_of_getElem? (i := 4) rfl) rfl))
      have e53 := (eval_tmp a 53).trans (hT 35 _ 53 _ rfl rfl rfl (hdep _ (Array.mem_of_getElem? (i := 5) rfl) rfl))
      have e58 := (eval_tmp a 58).trans (hT 40 _ 58 _ rfl rfl rfl (hdep _ (Array.mem_of_getElem? (i := 6) rfl) rfl))
      have e63 := (eval_tmp a 63).trans (hT 45 _ 63 _ rfl rfl rfl (hdep _ (Array.mem_of_getElem? (i := 7) rfl) rfl))
      have e68 := (eval_tmp a 68).trans (hT 50 _ 68 _ rfl rfl rfl (hdep _ (Array.mem_of_getElem? (i := 8) rfl) rfl))
      have e73 := (eval_tmp a 73).trans (hT 55 _ 73 _ rfl rfl rfl (hdep _ (Array.mem_of_getElem? (i := 9) rfl) rfl))
      have e78 := (eval_tmp a 78).trans (hT 60 _ 78 _ rfl rfl rfl (hdep _ (Array.mem_of_getElem? (i := 10) rfl) rfl))
      clear hdi hdep hfr hT hcl
      refine op_val rfl rfl (.agg #[.int .i64 0, .string ⟨#[45]⟩, .int .u64 1, .int .u64 1, .string ⟨#[73, 78]⟩, .string ⟨#[73, 80, 52]⟩, .string ⟨#[97]⟩, .string ⟨#[120]⟩, .slice Option.none 0 0, .slice Option.none 0 0, .slice Option.none 0 0, .slice Option.none 0 0, .slice Option.none 0 0, .slice Option.none 0 0, .slice Option.none 0 0, .slice Option.none 0 0, .slice Option.none 0 0, .slice Option.none 0 0, .slice Option.none 0 0]) (fun K' hK => ?_) ⟨_, rfl, fun u hu => by cases hu; rfl, hSp⟩
      clear hSp
      go_simp
      exact hK
    | 62, ho =>
      rw [← Array.getElem?_toList] at ho
      simp only [List.getElem?_cons_zero, List.getElem?_cons_succ, Option.some.injEq] at ho
      subst ho
      have h63 : d 63 = false := not_yet hcl hdi (j := 63) (p := 0) rfl rfl rfl rfl
      clear hdep hfr hT hcl
      have hw := hSp.1 hdi
      refine op_gen rfl rfl (fun v w' => v = .pointer (some ⟨wx.heap.size, 0, Option.none⟩) ∧ w' = wx.alloc (.cells #[.int .i64 0, .string ⟨#[]⟩, .int .u64 0, .int .u64 0, .string ⟨#[]⟩, .string ⟨#[]⟩, .string ⟨#[]⟩, .string ⟨#[]⟩, .slice Option.none 0 0, .slice Option.none 0 0, .slice Option.none 0 0, .slice Option.none 0 0, .slice Option.none 0 0, .slice Option.none 0 0, .slice Option.none 0 0, .slice Option.none 0 0, .slice Option.none 0 0, .slice Option.none 0 0, .slice Option.none 0 0] 33)) (fun K' hK => ?_) (fun v w' hG => ⟨v, rfl, fun u hu => (by cases hu; rw [hG.1, hw]; rfl), ?_⟩)
      · clear hSp h63 hw hdi
        go_simp
        exact hK _ _ ⟨rfl, rfl⟩
      · exact ⟨fun h => absurd h (by simp), fun _ _ => by rw [hG.2, hw], fun h => absurd h (by simp [h63])⟩
    | 63, ho =>
      rw [← Array.getElem?_toList] at ho
      simp only [List.getElem?_cons_zero, List.getElem?_cons_succ, Option.some.injEq] at ho
      subst ho
      have e4 := (hT 62 _ 4 _ rfl rfl rfl (hdep _ (Array.mem_of_getElem? (i := 0) rfl) rfl))
      have e79 := (hT 61 _ 79 _ rfl rfl rfl (hdep _ (Array.mem_of_getElem? (i := 1) rfl) rfl))
      have h62 : d 62 = true := (hdep _ (Array.mem_of_getElem? (i := 0) rfl) rfl)
      have hw := hSp.2.1 h62 hdi
      have hb := heap_alloc_new W0.drew (.cells #[.int .i64 0, .string ⟨#[]⟩, .int .u64 0, .int .u64 0, .string ⟨#[]⟩, .string ⟨#[]⟩, .string ⟨#[]⟩, .string ⟨#[]⟩, .slice Option.none 0 0, .slice Option.none 0 0, .slice Option.none 0 0, .slice Option.none 0 0, .slice Option.none 0 0, .slice Option.none 0 0, .slice Option.none 0 0, .slice Option.none 0 0, .slice Option.none 0 0, .slice Option.none 0 0, .slice Option.none 0 0] 33)
      clear hdep hfr hT hcl
      refine op_gen rfl rfl (fun v w' => w' = wx.setRow W0.heap.size #[.int .i64 0, .string ⟨#[45]⟩, .int .u64 1, .int .u64 1, .string ⟨#[73, 78]⟩, .string ⟨#[73, 80, 52]⟩, .string ⟨#[97]⟩, .string ⟨#[120]⟩, .slice Option.none 0 0, .slice Option.none 0 0, .slice Option.none 0 0, .slice Option.none 0 0, .slice Option.none 0 0, .slice Option.none 0 0, .slice Option.none 0 0, .slice Option.none 0 0, .slice Option.none 0 0, .slice Option.none 0 0, .slice Option.none 0 0]) (fun K' hK => ?_) (fun v w' hG => ⟨v, rfl, fun u hu => (by cases hu), ?_⟩)
      · subst hw
        exact oper_of_list (ops := #[]) rfl (fun Q' hQ' => wpList_store_row rfl 33 _ _ rfl W0.heap.size #[.int .i64 0, .string ⟨#[45]⟩, .int .u64 1, .int .u64 1, .string ⟨#[73, 78]⟩, .string ⟨#[73, 80, 52]⟩, .string ⟨#[97]⟩, .string ⟨#[120]⟩, .slice Option.none 0 0, .slice Option.none 0 0, .slice Option.none 0 0, .slice Option.none 0 0, .slice Option.none 0 0, .slice Option.none 0 0, .slice Option.none 0 0, .slice Option.none 0 0, .slice Option.none 0 0, .slice Option.none 0 0, .slice Option.none 0 0] e4 e79 33 _ hb sz33 rfl (by simp [Value.oneCell']) (wpList_nil (hQ' _ _ (hK undef _ rfl))))
      · exact ⟨fun h => absurd h (by simp [h62]), fun _ h => absurd h (by simp), fun _ => by rw [hG, hw]⟩
    | n + 64, ho => cases ho
  intro d f wx hall hTf hSp
  have h4 : f 4 = .pointer (some ⟨W0.heap.size, 0, Option.none⟩) := hTf 62 _ 4 _ rfl rfl rfl
  have hw := hSp.2.2 (hall 63 (by decide))
  rw [h4, hw]
  clear hSp hall hTf h4 hw wx d
  obtain ⟨g, hg⟩ : ∃ g, g = W0.heap.size := ⟨_, rfl⟩
  obtain ⟨W1, hW1⟩ : ∃ W, W = (W0.drew.alloc (.cells #[.int .i64 0, .string ⟨#[]⟩, .int .u64 0, .int .u64 0, .string ⟨#[]⟩, .string ⟨#[]⟩, .string ⟨#[]⟩, .string ⟨#[]⟩, .slice Option.none 0 0, .slice Option.none 0 0, .slice Option.none 0 0, .slice Option.none 0 0, .slice Option.none 0 0, .slice Option.none 0 0, .slice Option.none 0 0, .slice Option.none 0 0, .slice Option.none 0 0, .slice Option.none 0 0, .slice Option.none 0 0] 33)).setRow W0.heap.size #[.int .i64 0, .string ⟨#[45]⟩, .int .u64 1, .int .u64 1, .string ⟨#[73, 78]⟩, .string ⟨#[73, 80, 52]⟩, .string ⟨#[97]⟩, .string ⟨#[120]⟩, .slice Option.none 0 0, .slice Option.none 0 0, .slice Option.none 0 0, .slice Option.none 0 0, .slice Option.none 0 0, .slice Option.none 0 0, .slice Option.none 0 0, .slice Option.none 0 0, .slice Option.none 0 0, .slice Option.none 0 0, .slice Option.none 0 0] := ⟨_, rfl⟩
  have hG := setRow_heap (W0.drew.alloc (.cells #[.int .i64 0, .string ⟨#[]⟩, .int .u64 0, .int .u64 0, .string ⟨#[]⟩, .string ⟨#[]⟩, .string ⟨#[]⟩, .string ⟨#[]⟩, .slice Option.none 0 0, .slice Option.none 0 0, .slice Option.none 0 0, .slice Option.none 0 0, .slice Option.none 0 0, .slice Option.none 0 0, .slice Option.none 0 0, .slice Option.none 0 0, .slice Option.none 0 0, .slice Option.none 0 0, .slice Option.none 0 0] 33)) W0.heap.size #[.int .i64 0, .string ⟨#[]⟩, .int .u64 0, .int .u64 0, .string ⟨#[]⟩, .string ⟨#[]⟩, .string ⟨#[]⟩, .string ⟨#[]⟩, .slice Option.none 0 0, .slice Option.none 0 0, .slice Option.none 0 0, .slice Option.none 0 0, .slice Option.none 0 0, .slice Option.none 0 0, .slice Option.none 0 0, .slice Option.none 0 0, .slice Option.none 0 0, .slice Option.none 0 0, .slice Option.none 0 0] #[.int .i64 0, .string ⟨#[45]⟩, .int .u64 1, .int .u64 1, .string ⟨#[73, 78]⟩, .string ⟨#[73, 80, 52]⟩, .string ⟨#[97]⟩, .string ⟨#[120]⟩, .slice Option.none 0 0, .slice Option.none 0 0, .slice Option.none 0 0, .slice Option.none 0 0, .slice Option.none 0 0, .slice Option.none 0 0, .slice Option.none 0 0, .slice Option.none 0 0, .slice Option.none 0 0, .slice Option.none 0 0, .slice Option.none 0 0] 33 (0, 0) (heap_alloc_new W0.drew _)
  have hb1 : Below W0.heap.size W0 W1 := by rw [hW1]; exact (below_alloc1 (Below.drew (Below.refl _ _)) _).trans ((keep_setRow _ _ _).below (by simp) (Nat.le_refl _))
  rw [← hW1] at hG
  rw [← hW1, ← hg]
  rw [← hg] at hG
  have HG := Bx.mk hG
  have HD1 := Bx.mk (heap_below hb1 HD0.out)
  have HR1 := Bx.mk (heap_below hb1 HR.out)
  have HV1 := Bx.mk (HV0.out.step (by decide) hb1)
  have HB1 := Bx.mk (below_trans HB0.out hb1)
  have hrg : r ≠ g := by have := blk_lt HR.out; omega
  have hwr : w.heap.size ≤ r := by have := HRO.out.1; omega
  have hwg : w.heap.size ≤ g := by have := HB0.out.size; omega
  clear hW1 hG hb1 hg HD0 HR HV0 HB0 HRO HO
  have c14 : W1.cell? ⟨ds, 14, Option.none⟩ = some (.slice A 1 c) := (blk_cell HD1.out 14).trans rfl
  obtain ⟨A', c', he, hlc, hrow⟩ := HV1.out
  simp only [Value.slice.injEq] at he
  obtain ⟨rfl, -, rfl⟩ := he
  obtain ⟨ad, ctd, rfl, hadB, hktd, hcell⟩ := hrow.get 0 (by decide)
  have e0 : ad.add (0 * kTd.sz + 0) = ad := rfl
  obtain rfl : ctd = [.int .u64 0, .int .u64 0, .slice Option.none 0 0] := hktd
  have q0 : W1.cell? ad = some (.int .u64 0) := hcell 0 _ rfl
  have q1 : W1.cell? ⟨ad.block, ad.off + 1, Option.none⟩ = some (.int .u64 0) := by have h := hcell 1 _ rfl; rw [add_field ad (0 * kTd.sz) 1 (by decide)] at h; exact h
  have q2 : W1.cell? ⟨ad.block, ad.off + 2, Option.none⟩ = some (.slice Option.none 0 0) := by have h := hcell 2 _ rfl; rw [add_field ad (0 * kTd.sz) 2 (by decide)] at h; exact h
  clear e0 hcell hadB hrow
  go_wp2_with (fail)
  refine wp_loop_rounds 2 ?_
  rw [rounds_succ]
  go_wp2_with (fail)
  clear c14 q0 q1 q2
  obtain ⟨tm, htm⟩ : ∃ n, n = W1.heap.size + 1 := ⟨_, rfl⟩
  obtain ⟨W2, hW2⟩ : ∃ W, W = (W1.alloc (.cells #[.int .u64 0, .int .u64 0, .slice Option.none 0 0] 168)).alloc (.cells #[.int .u64 0, .int .u64 0, .slice Option.none 0 0] 77) := ⟨_, rfl⟩
  have hb2 : Below W1.heap.size W1 W2 := by rw [hW2]; exact below_alloc2 (Below.refl _ _) _ _
  have hT : W2.heap[tm]? = some (.cells #[.int .u64 0, .int .u64 0, .slice Option.none 0 0] 77) := by
    have := heap_alloc_new (W1.alloc (.cells #[.int .u64 0, .int .u64 0, .slice Option.none 0 0] 168)) (.cells #[.int .u64 0, .int .u64 0, .slice Option.none 0 0] 77)
    rw [World.size_alloc, ← htm] at this
    rw [hW2]
    exact this
  rw [← hW2, ← htm]
  have HG2 := Bx.mk (heap_below hb2 HG.out)
  have HD2 := Bx.mk (heap_below hb2 HD1.out)
  have HR2 := Bx.mk (heap_below hb2 HR1.out)
  have HB2 := Bx.mk (below_trans HB1.out hb2)
  have u0 : W2.cell? ⟨tm, 0, Option.none⟩ = some (.int .u64 0) := (blk_cell hT 0).trans rfl
  have u1 : W2.cell? ⟨tm, 1, Option.none⟩ = some (.int .u64 0) := (blk_cell hT 1).trans rfl
  have u2 : W2.cell? ⟨tm, 2, Option.none⟩ = some (.slice Option.none 0 0) := (blk_cell hT 2).trans rfl
  have c14 : W2.cell? ⟨g, 14, Option.none⟩ = some (.slice Option.none 0 0) := (blk_cell HG2.out 14).trans rfl
  have HBe : Bx (Below W2.heap.size W2 W2) := ⟨Below.refl _ _⟩
  clear hW2 htm hb2 hT HG HD1 HR1 HB1 HV1
  refine wp_loop_rounds 1 ?_
  rw [rounds_succ]
  go_wp2_with (at_builtin; refine app_row (w := W2) (B := W2.heap.size) kTim (fun b => W2.heap.size ≤ b) ?hgd (.tmp 118) (.tmp 120) 28 77 (.agg #[.int .u64 0, .int .u64 0, .slice Option.none 0 0]) 40 ?ho Tryz.underlying28 info77 ?hz (by decide) (by decide) (by decide) (.slice Option.none 0 0) [] ⟨0, 0, []⟩ [.int .u64 0, .int .u64 0, .slice Option.none 0 0] 0 rfl W2.heap.size ?hs ?hx ?hn ?hp ⟨Own.nil _ _ _ _ _⟩ HBe (Nat.le_refl _) (Nat.le_refl _) (fun _ h => h) (by decide) ?h; (case hp => exact ⟨kTim_mk _ (SV.nil _ _ _)⟩); (case hgd => rfl); (case ho => rfl); (case hz => rfl); (case hs => rfl); (case hx => rfl); (case hn => rfl); intro A1 c1 w1 HO1 HBa HGa; have hG1 := heap_below HBa.out HG2.out; have c14a : w1.cell? ⟨g, 14, Option.none⟩ = some (.slice Option.none 0 0) := (blk_cell hG1 14).trans rfl; have f14a := blk_frozen hG1 14)
  obtain ⟨W3, hW3⟩ : ∃ W, W = w1.setCell ⟨g, 14, Option.none⟩ (.slice A1 1 c1) := ⟨_, rfl⟩
  have hdg : ds ≠ g := by omega
  have hk3 : Keep g w1 W3 := by rw [hW3]; exact Keep.set _
  have hG3 : W3.heap[g]? = some (.cells #[.int .i64 0, .string ⟨#[45]⟩, .int .u64 1, .int .u64 1, .string ⟨#[73, 78]⟩, .string ⟨#[73, 80, 52]⟩, .string ⟨#[97]⟩, .string ⟨#[120]⟩, .slice Option.none 0 0, .slice Option.none 0 0, .slice Option.none 0 0, .slice Option.none 0 0, .slice Option.none 0 0, .slice Option.none 0 0, .slice A1 1 c1, .slice Option.none 0 0, .slice Option.none 0 0, .slice Option.none 0 0, .slice Option.none 0 0] 33) := by rw [hW3]; exact blk_set hG1 14 _
  have hD3 := (hk3.block ds (blk_lt (heap_below HBa.out HD2.out)) hdg).trans (heap_below HBa.out HD2.out)
  have hR3 := (hk3.block r (blk_lt (heap_below HBa.out HR2.out)) hrg).trans (heap_below HBa.out HR2.out)
  have HB3 := Bx.mk ((below_trans HB2.out HBa.out).trans (hk3.below (below_trans HB2.out HBa.out).size hwg))
  rw [← hW3]
  have c15 : W3.cell? ⟨ds, 15, Option.none⟩ = some (.slice Option.none 0 0) := (blk_cell hD3 15).trans rfl
  have c18 : W3.cell? ⟨ds, 18, Option.none⟩ = some (.slice Option.none 0 0) := (blk_cell hD3 18).trans rfl
  have HG3 := Bx.mk hG3
  have HR3 := Bx.mk hR3
  clear hW3 hk3 hG3 hD3 hR3 hG1 c14a f14a HO1 HBa HGa HG2 HD2 HR2 HB2 HBe u0 u1 u2 c14
  rw [rounds_succ]
  go_wp2_with (fail)
  refine wp_loop_rounds 1 ?_
  rw [rounds_succ]
  go_wp2_with (fail)
  refine wp_loop_rounds 1 ?_
  rw [rounds_succ]
  clear c15
  go_wp2_with (first | refine wpList_load_row rfl 33 _ rfl g rfl 33 _ (0, 0) _ HG3.out Tryz.underlying33 rfl sz33 ?_ | refine wpList_store_row rfl 33 _ _ rfl r #[.int .i64 0, .string ⟨#[45]⟩, .int .u64 1, .int .u64 1, .string ⟨#[73, 78]⟩, .string ⟨#[73, 80, 52]⟩, .string ⟨#[97]⟩, .string ⟨#[120]⟩, .slice Option.none 0 0, .slice Option.none 0 0, .slice Option.none 0 0, .slice Option.none 0 0, .slice Option.none 0 0, .slice Option.none 0 0, .slice A1 1 c1, .slice Option.none 0 0, .slice Option.none 0 0, .slice Option.none 0 0, .slice Option.none 0 0] rfl rfl 33 _ HR3.out sz33 rfl (by simp [Value.oneCell']) ?_)
  refine bodyPost_ret (results_cell_row rfl _ _ r 33 #[.int .i64 0, .string ⟨#[45]⟩, .int .u64 1, .int .u64 1, .string ⟨#[73, 78]⟩, .string ⟨#[73, 80, 52]⟩, .string ⟨#[97]⟩, .string ⟨#[120]⟩, .slice Option.none 0 0, .slice Option.none 0 0, .slice Option.none 0 0, .slice Option.none 0 0, .slice Option.none 0 0, .slice Option.none 0 0, .slice A1 1 c1, .slice Option.none 0 0, .slice Option.none 0 0, .slice Option.none 0 0, .slice Option.none 0 0] (0, 0) _ rfl (setRow_heap _ _ _ _ _ _ HR3.out) Tryz.underlying33 rfl sz33) rfl ?_
  exact ⟨HB3.out.trans ((keep_setRow W3 r #[.int .i64 0, .string ⟨#[45]⟩, .int .u64 1, .int .u64 1, .string ⟨#[73, 78]⟩, .string ⟨#[73, 80, 52]⟩, .string ⟨#[97]⟩, .string ⟨#[120]⟩, .slice Option.none 0 0, .slice Option.none 0 0, .slice Option.none 0 0, .slice Option.none 0 0, .slice Option.none 0 0, .slice Option.none 0 0, .slice A1 1 c1, .slice Option.none 0 0, .slice Option.none 0 0, .slice Option.none 0 0, .slice Option.none 0 0]).below HB3.out.size hwr), _, rfl, rfl, rfl, by simp [Value.oneCell']⟩

end Go.Proofs.YtimonhimfioohaaGreatDoor
