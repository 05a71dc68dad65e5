/- Lemmas on which the proof of Rows.FnCodecCardSaid rests: no statement of the seat is proved in this file. Conditions: each lemma's own hypotheses, no others. -/
import Derived.Test.YtimonhimfioohaaGreatDoorM04
/-! impl.session. -/
namespace Go.Proofs.YtimonhimfioohaaGreatDoor
open Go Go.RowKit Go.PlainAid Kn
set_option maxRecDepth 100000 in
set_option maxHeartbeats 40000000 in
theorem isession (x : Ses) (cs : List Value) (F : Nat → Prop) (w : World) (hk : kSes.K F w x cs) (hf : fSesI x) : Calls Tryz.prog 35 #[.agg cs.toArray] w fun e w' => Below w.heap.size w w' ∧ ∃ g, e = .returned (.pointer (some ⟨g, 0, Option.none⟩)) ∧ w.heap.size ≤ g ∧ SesBlk (fun b => w.heap.size ≤ b) w' g x.med := by
  obtain ⟨u1, u2, u3, u4, u5, u6, u7, u8, u9, u10, u11, rfl, h1, h2, h3, h4, h5, h6, h7, h8, h9, h10, h11⟩ := kSes_open hk
  obtain ⟨Y1, y1, rfl, -⟩ := id h1
  obtain ⟨Y2, y2, rfl, -⟩ := id h2
  obtain ⟨Y3, y3, rfl, -⟩ := id h3
  obtain ⟨Y4, y4, rfl, -⟩ := id h4
  obtain ⟨Y5, y5, rfl, -⟩ := id h5
  obtain ⟨Y6, y6, rfl, -⟩ := id h6
  obtain ⟨Y7, y7, rfl, -⟩ := id h7
  obtain ⟨Y8, y8, rfl, -⟩ := id h8
  obtain ⟨Y9, y9, rfl, -⟩ := id h9
  obtain ⟨Y10, y10, rfl, -⟩ := id h10
  obtain ⟨Y11, y11, rfl, -⟩ := id h11
  obtain ⟨hl1, hft, hfz, hl2, hfm⟩ := hf
  have HFT := Bx.mk hft
  have HFM := Bx.mk hfm
  replace hl1 := Bx.mk hl1
  replace hl2 := Bx.mk hl2
  have HV1 := Bx.mk h1
  have HV2 := Bx.mk h2
  have HV3 := Bx.mk h3
  have HV4 := Bx.mk h4
  have HV5 := Bx.mk h5
  have HV6 := Bx.mk h6
  have HV9 := Bx.mk h9
  have HV10 := Bx.mk h10
  have HW := Bx.mk (Below.drew (below_alloc1 (Below.refl w.heap.size w) (.cells #[.int .i64 x.ver, .string x.user, .int .u64 x.id, .int .u64 x.ver2, .string x.net, .string x.addr, .string x.address, .string x.name, .slice Y1 x.info.length y1, .slice Y2 x.uri.length y2, .slice Y3 x.email.length y3, .slice Y4 x.phone.length y4, .slice Y5 x.con.length y5, .slice Y6 x.bw.length y6, .slice Y7 x.tim.length y7, .slice Y8 x.zon.length y8, .slice Y9 x.key.length y9, .slice Y10 x.atts.length y10, .slice Y11 x.med.length y11] 33)))
  have HR7 : Bx (kTim.Row F (w.alloc (.cells #[.int .i64 x.ver, .string x.user, .int .u64 x.id, .int .u64 x.ver2, .string x.net, .string x.addr, .string x.address, .string x.name, .slice Y1 x.info.length y1, .slice Y2 x.uri.length y2, .slice Y3 x.email.length y3, .slice Y4 x.phone.length y4, .slice Y5 x.con.length y5, .slice Y6 x.bw.length y6, .slice Y7 x.tim.length y7, .slice Y8 x.zon.length y8, .slice Y9 x.key.length y9, .slice Y10 x.atts.length y10, .slice Y11 x.med.length y11] 33)).drew Y7 x.tim) := by obtain ⟨A, c, he, _, hr⟩ := h7.step (by decide) HW.out; cases he; exact ⟨hr⟩
  have HR8 : Bx (kZon.Row F (w.alloc (.cells #[.int .i64 x.ver, .string x.user, .int .u64 x.id, .int .u64 x.ver2, .string x.net, .string x.addr, .string x.address, .string x.name, .slice Y1 x.info.length y1, .slice Y2 x.uri.length y2, .slice Y3 x.email.length y3, .slice Y4 x.phone.length y4, .slice Y5 x.con.length y5, .slice Y6 x.bw.length y6, .slice Y7 x.tim.length y7, .slice Y8 x.zon.length y8, .slice Y9 x.key.length y9, .slice Y10 x.atts.length y10, .slice Y11 x.med.length y11] 33)).drew Y8 x.zon) := by obtain ⟨A, c, he, _, hr⟩ := h8.step (by decide) HW.out; cases he; exact ⟨hr⟩
  have HR11 : Bx (kMed.Row F (w.alloc (.cells #[.int .i64 x.ver, .string x.user, .int .u64 x.id, .int .u64 x.ver2, .string x.net, .string x.addr, .string x.address, .string x.name, .slice Y1 x.info.length y1, .slice Y2 x.uri.length y2, .slice Y3 x.email.length y3, .slice Y4 x.phone.length y4, .slice Y5 x.con.length y5, .slice Y6 x.bw.length y6, .slice Y7 x.tim.length y7, .slice Y8 x.zon.length y8, .slice Y9 x.key.length y9, .slice Y10 x.atts.length y10, .slice Y11 x.med.length y11] 33)).drew Y11 x.med) := by obtain ⟨A, c, he, _, hr⟩ := h11.step (by decide) HW.out; cases he; exact ⟨hr⟩
  clear hk h1 h2 h3 h4 h5 h6 h7 h8 h9 h10 h11 hft hfm
  have hB0 : ∀ (i : Nat) (u : Value), #[.int .i64 x.ver, .string x.user, .int .u64 x.id, .int .u64 x.ver2, .string x.net, .string x.addr, .string x.address, .string x.name, .slice Y1 x.info.length y1, .slice Y2 x.uri.length y2, .slice Y3 x.email.length y3, .slice Y4 x.phone.length y4, .slice Y5 x.con.length y5, .slice Y6 x.bw.length y6, .slice Y7 x.tim.length y7, .slice Y8 x.zon.length y8, .slice Y9 x.key.length y9, .slice Y10 x.atts.length y10, .slice Y11 x.med.length y11][i]? = some u → (w.alloc (.cells #[.int .i64 x.ver, .string x.user, .int .u64 x.id, .int .u64 x.ver2, .string x.net, .string x.addr, .string x.address, .string x.name, .slice Y1 x.info.length y1, .slice Y2 x.uri.length y2, .slice Y3 x.email.length y3, .slice Y4 x.phone.length y4, .slice Y5 x.con.length y5, .slice Y6 x.bw.length y6, .slice Y7 x.tim.length y7, .slice Y8 x.zon.length y8, .slice Y9 x.key.length y9, .slice Y10 x.atts.length y10, .slice Y11 x.med.length y11] 33)).drew.cell? ⟨w.heap.size, i, Option.none⟩ = some u := fun i u h => (blk_cell (heap_alloc_new w (.cells #[.int .i64 x.ver, .string x.user, .int .u64 x.id, .int .u64 x.ver2, .string x.net, .string x.addr, .string x.address, .string x.name, .slice Y1 x.info.length y1, .slice Y2 x.uri.length y2, .slice Y3 x.email.length y3, .slice Y4 x.phone.length y4, .slice Y5 x.con.length y5, .slice Y6 x.bw.length y6, .slice Y7 x.tim.length y7, .slice Y8 x.zon.length y8, .slice Y9 x.key.length y9, .slice Y10 x.atts.length y10, .slice Y11 x.med.length y11] 33)) i).trans h
  have HB := Bx.mk hB0
  clear hB0
  go_enter Tryz.func35, Tryz.ntmps35
  go_upto_region 1 with fail
  refine region_app (by kernel_rfl) (by kernel_rfl) (by kernel_rfl) (by kernel_rfl) (fun f => #[.agg #[.int .i64 x.ver, .string x.user, .int .u64 x.id, .int .u64 x.ver2, .string x.net, .string x.addr, .string x.address, .string x.name, .slice Y1 x.info.length y1, .slice Y2 x.uri.length y2, .slice Y3 x.email.length y3, .slice Y4 x.phone.length y4, .slice Y5 x.con.length y5, .slice Y6 x.bw.length y6, .slice Y7 x.tim.length y7, .slice Y8 x.zon.length y8, .slice Y9 x.key.length y9, .slice Y10 x.atts.length y10, .slice Y11 x.med.length y11], .pointer (some ⟨w.heap.size, 0, Option.none⟩), .pointer Option.none, f 3, undef, undef, undef, undef, undef, undef, undef, undef, undef, f 13, f 14, f 15, f 16, f 17, f 18, f 19, f 20, f 21, f 22, f 23, f 24, f 25, f 26, f 27, f 28, f 29, f 30, f 31, f 32, f 33, f 34, f 35, f 36, f 37, f 38, f 39, f 40, f 41, f 42, f 43, f 44, f 45, f 46, f 47, f 48, f 49, f 50, f 51, f 52, f 53, f 54, f 55, f 56, f 57, f 58, f 59, f 60, f 61, undef, undef, undef, undef, undef, undef, undef, undef, undef, undef, undef, undef, undef, undef, undef, undef, undef, undef, undef, undef, undef, undef, undef, undef, undef, undef, undef, undef, undef, undef, undef, undef, undef, undef, undef, undef, undef, undef, undef, undef, undef, undef, undef, undef, undef, undef, undef, undef, undef, undef, undef, undef, undef, undef, undef, undef, undef, undef, undef, undef, undef, undef, undef, undef, undef, undef, undef, undef, undef, undef, undef, undef, undef, undef, undef, undef, undef, undef, undef, undef, undef, undef, undef, undef, undef, undef, undef]) (fun f => by kernel_rfl) 49 (Option.none) (by kernel_rfl) ⟨by kernel_rfl, by simp, fun s hs => by cases hs⟩ (fun i => match i with | 0 => Mono.is (.pointer (some ⟨w.heap.size, 0, Option.none⟩)) | 1 => Mono.is (.int .i64 x.ver) | 2 => Mono.is (.pointer (some ⟨w.heap.size, 1, Option.none⟩)) | 3 => Mono.is (.pointer (some ⟨w.heap.size, 1, Option.none⟩)) | 4 => Mono.is (.string x.user) | 5 => Mono.is (.pointer (some ⟨w.heap.size, 1, Option.none⟩)) | 6 => Mono.is (.pointer (some ⟨w.heap.size, 2, Option.none⟩)) | 7 => Mono.is (.int .u64 x.id) | 8 => Mono.is (.pointer (some ⟨w.heap.size, 1, Option.none⟩)) | 9 => Mono.is (.pointer (some ⟨w.heap.size, 3, Option.none⟩)) | 10 => Mono.is (.int .u64 x.ver2) | 11 => Mono.is (.pointer (some ⟨w.heap.size, 1, Option.none⟩)) | 12 => Mono.is (.pointer (some ⟨w.heap.size, 4, Option.none⟩)) | 13 => Mono.is (.string x.net) | 14 => Mono.is (.pointer (some ⟨w.heap.size, 1, Option.none⟩)) | 15 => Mono.is (.pointer (some ⟨w.heap.size, 5, Option.none⟩)) | 16 => Mono.is (.string x.addr) | 17 => Mono.is (.pointer (some ⟨w.heap.size, 1, Option.none⟩)) | 18 => Mono.is (.pointer (some ⟨w.heap.size, 6, Option.none⟩)) | 19 => Mono.is (.string x.address) | 20 => Mono.is (.agg #[.string x.user, .int .u64 x.id, .int .u64 x.ver2, .string x.net, .string x.addr, .string x.address]) | 21 => Mono.is (.pointer (some ⟨w.heap.size, 7, Option.none⟩)) | 22 => Mono.is (.string x.name) | 23 => Mono.is (.pointer (some ⟨w.heap.size, 8, Option.none⟩)) | 24 => Mono.is (.slice Y1 x.info.length y1) | 25 => Mono.sat (fun v => ∃ p, v = .pointer p) | 26 => Mono.is (.pointer (some ⟨w.heap.size, 9, Option.none⟩)) | 27 => Mono.is (.slice Y2 x.uri.length y2) | 28 => Mono.sat (fun v => ∃ p, v = .pointer p) | 29 => Mono.is (.pointer (some ⟨w.heap.size, 10, Option.none⟩)) | 30 => Mono.is (.slice Y3 x.email.length y3) | 31 => Mono.sat (fun v => ∃ p, v = .pointer p) | 32 => Mono.is (.pointer (some ⟨w.heap.size, 11, Option.none⟩)) | 33 => Mono.is (.slice Y4 x.phone.length y4) | 34 => Mono.sat (fun v => ∃ p, v = .pointer p) | 35 => Mono.is (.pointer (some ⟨w.heap.size, 12, Option.none⟩)) | 36 => Mono.is (.slice Y5 x.con.length y5) | 37 => Mono.sat (fun v => ∃ p, v = .pointer p) | 38 => Mono.is (.pointer (some ⟨w.heap.size, 13, Option.none⟩)) | 39 => Mono.is (.slice Y6 x.bw.length y6) | 40 => Mono.sat (fun v => ∃ A c, v = .slice A x.bw.length c) | 41 => Mono.is (.pointer (some ⟨w.heap.size, 16, Option.none⟩)) | 42 => Mono.is (.slice Y9 x.key.length y9) | 43 => Mono.sat (fun v => ∃ p, v = .pointer p) | 44 => Mono.is (.pointer (some ⟨w.heap.size, 17, Option.none⟩)) | 45 => Mono.is (.slice Y10 x.atts.length y10) | 46 => Mono.sat (fun v => ∃ A c, v = .slice A x.atts.length c) | 47 => Mono.sat (fun v => ∃ p1 p2 p3 p4 p5 B6 d6 p9 B10 d10, v = .agg #[.int .i64 x.ver, .string x.user, .int .u64 x.id, .int .u64 x.ver2, .string x.net, .string x.addr, .string x.address, .string x.name, .pointer p1, .pointer p2, .pointer p3, .pointer p4, .pointer p5, .slice B6 x.bw.length d6, .slice Option.none 0 0, .slice Option.none 0 0, .pointer p9, .slice B10 x.atts.length d10, .slice Option.none 0 0]) | 48 => ⟨fun v w' => ∃ g, v = .pointer (some ⟨g, 0, Option.none⟩) ∧ (w.alloc (.cells #[.int .i64 x.ver, .string x.user, .int .u64 x.id, .int .u64 x.ver2, .string x.net, .string x.addr, .string x.address, .string x.name, .slice Y1 x.info.length y1, .slice Y2 x.uri.length y2, .slice Y3 x.email.length y3, .slice Y4 x.phone.length y4, .slice Y5 x.con.length y5, .slice Y6 x.bw.length y6, .slice Y7 x.tim.length y7, .slice Y8 x.zon.length y8, .slice Y9 x.key.length y9, .slice Y10 x.atts.length y10, .slice Y11 x.med.length y11] 33)).drew.heap.size ≤ g ∧ OutBlk w' g (.slice Option.none 0 0) (.slice Option.none 0 0) (.slice Option.none 0 0), fun ⟨g, h1, h2, h3⟩ hb => ⟨g, h1, h2, h3.step hb⟩⟩ | _ => Mono.is undef) [] (fun i => match i with  | _ => Option.none) (by kernel_rfl) (by kernel_rfl) (fun v w' => Below (w.alloc (.cells #[.int .i64 x.ver, .string x.user, .int .u64 x.id, .int .u64 x.ver2, .string x.net, .string x.addr, .string x.address, .string x.name, .slice Y1 x.info.length y1, .slice Y2 x.uri.length y2, .slice Y3 x.email.length y3, .slice Y4 x.phone.length y4, .slice Y5 x.con.length y5, .slice Y6 x.bw.length y6, .slice Y7 x.tim.length y7, .slice Y8 x.zon.length y8, .slice Y9 x.key.length y9, .slice Y10 x.atts.length y10, .slice Y11 x.med.length y11] 33)).drew.heap.size (w.alloc (.cells #[.int .i64 x.ver, .string x.user, .int .u64 x.id, .int .u64 x.ver2, .string x.net, .string x.addr, .string x.address, .string x.name, .slice Y1 x.info.length y1, .slice Y2 x.uri.length y2, .slice Y3 x.email.length y3, .slice Y4 x.phone.length y4, .slice Y5 x.con.length y5, .slice Y6 x.bw.length y6, .slice Y7 x.tim.length y7, .slice Y8 x.zon.length y8, .slice Y9 x.key.length y9, .slice Y10 x.atts.length y10, .slice Y11 x.med.length y11] 33)).drew w' ∧ ∃ g, v = .pointer (some ⟨g, 0, Option.none⟩) ∧ (w.alloc (.cells #[.int .i64 x.ver, .string x.user, .int .u64 x.id, .int .u64 x.ver2, .string x.net, .string x.addr, .string x.address, .string x.name, .slice Y1 x.info.length y1, .slice Y2 x.uri.length y2, .slice Y3 x.email.length y3, .slice Y4 x.phone.length y4, .slice Y5 x.con.length y5, .slice Y6 x.bw.length y6, .slice Y7 x.tim.length y7, .slice Y8 x.zon.length y8, .slice Y9 x.key.length y9, .slice Y10 x.atts.length y10, .slice Y11 x.med.length y11] 33)).drew.heap.size ≤ g ∧ OutBlk w' g (.slice Option.none 0 0) (.slice Option.none 0 0) (.slice Option.none 0 0)) (fun _ => True) ?_ ?_ ?_ ?_ ?_ (by decide)
  · intro i o ho hanc a wx hb hfr hv
    match i, ho with
    | 0, ho =>
      rw [← Array.getElem?_toList] at ho
      simp only [List.getElem?_cons_zero, Option.some.injEq] at ho
      subst ho
      have e1 : a.tmps[1]?.getD undef = .pointer (some ⟨w.heap.size, 0, Option.none⟩) := (eval_tmp a 1).trans (hfr 1 (by decide +kernel))
      clear hfr hv hanc hb
      refine mstep_val (.pointer (some ⟨w.heap.size, 0, Option.none⟩)) (fun K' hK => ?_) (by exact rfl)
      go_simp
      exact hK
    | 1, ho =>
      rw [← Array.getElem?_toList] at ho
      simp only [List.getElem?_cons_zero, List.getElem?_cons_succ, Option.some.injEq] at ho
      subst ho
      have e13 := (eval_tmp a 13).trans (hv 0 _ rfl rfl _ 13 rfl rfl)
      have c0 := cell_below hb (HB.out 0 _ rfl)
      clear hfr hv hanc hb
      refine mstep_val (.int .i64 x.ver) (fun K' hK => ?_) (by exact rfl)
      go_simp
      exact hK
    | 2, ho =>
      rw [← Array.getElem?_toList] at ho
      simp only [List.getElem?_cons_zero, List.getElem?_cons_succ, Option.some.injEq] at ho
      subst ho
      have e1 : a.tmps[1]?.getD undef = .pointer (some ⟨w.heap.size, 0, Option.none⟩) := (eval_tmp a 1).trans (hfr 1 (by decide +kernel))
      clear hfr hv hanc hb
      refine mstep_val (.pointer (some ⟨w.heap.size, 1, Option.none⟩)) (fun K' hK => ?_) (by exact rfl)
      go_simp
      exact hK
    | 3, ho =>
      rw [← Array.getElem?_toList] at ho
      simp only [List.getElem?_cons_zero, List.getElem?_cons_succ, Option.some.injEq] at ho
      subst ho
      have e15 := (eval_tmp a 15).trans (hv 0 _ rfl rfl _ 15 rfl rfl)
      clear hfr hv hanc hb
      refine mstep_val (.pointer (some ⟨w.heap.size, 1, Option.none⟩)) (fun K' hK => ?_) (by exact rfl)
      go_simp
      exact hK
    | 4, ho =>
      rw [← Array.getElem?_toList] at ho
      simp only [List.getElem?_cons_zero, List.getElem?_cons_succ, Option.some.injEq] at ho
      subst ho
      have e16 := (eval_tmp a 16).trans (hv 0 _ rfl rfl _ 16 rfl rfl)
      have c0 := cell_below hb (HB.out 1 _ rfl)
      clear hfr hv hanc hb
      refine mstep_val (.string x.user) (fun K' hK => ?_) (by exact rfl)
      go_simp
      exact hK
    | 5, ho =>
      rw [← Array.getElem?_toList] at ho
      simp only [List.getElem?_cons_zero, List.getElem?_cons_succ, Option.some.injEq] at ho
      subst ho
      have e1 : a.tmps[1]?.getD undef = .pointer (some ⟨w.heap.size, 0, Option.none⟩) := (eval_tmp a 1).trans (hfr 1 (by decide +kernel))
      clear hfr hv hanc hb
      refine mstep_val (.pointer (some ⟨w.heap.size, 1, Option.none⟩)) (fun K' hK => ?_) (by exact rfl)
      go_simp
      exact hK
    | 6, ho =>
      rw [← Array.getElem?_toList] at ho
      simp only [List.getElem?_cons_zero, List.getElem?_cons_succ, Option.some.injEq] at ho
      subst ho
      have e18 := (eval_tmp a 18).trans (hv 0 _ rfl rfl _ 18 rfl rfl)
      clear hfr hv hanc hb
      refine mstep_val (.pointer (some ⟨w.heap.size, 2, Option.none⟩)) (fun K' hK => ?_) (by exact rfl)
      go_simp
      exact hK
    | 7, ho =>
      rw [← Array.getElem?_toList] at ho
      simp only [List.getElem?_cons_zero, List.getElem?_cons_succ, Option.some.injEq] at ho
      subst ho
      have e19 := (eval_tmp a 19).trans (hv 0 _ rfl rfl _ 19 rfl rfl)
      have c0 := cell_below hb (HB.out 2 _ rfl)
      clear hfr hv hanc hb
      refine mstep_val (.int .u64 x.id) (fun K' hK => ?_) (by exact rfl)
      go_simp
      exact hK
    | 8, ho =>
      rw [← Array.getElem?_toList] at ho
      simp only [List.getElem?_cons_zero, List.getElem?_cons_succ, Option.some.injEq] at ho
      subst ho
      have e1 : a.tmps[1]?.getD undef = .pointer (some ⟨w.heap.size, 0, Option.none⟩) := (eval_tmp a 1).trans (hfr 1 (by decide +kernel))
      clear hfr hv hanc hb
      refine mstep_val (.pointer (some ⟨w.heap.size, 1, Option.none⟩)) (fun K' hK => ?_) (by exact rfl)
      go_simp
      exact hK
    | 9, ho =>
      rw [← Array.getElem?_toList] at ho
      simp only [List.getElem?_cons_zero, List.getElem?_cons_succ, Option.some.injEq] at ho
      subst ho
      have e21 := (eval_tmp a 21).trans (hv 0 _ rfl rfl _ 21 rfl rfl)
      clear hfr hv hanc hb
      refine mstep_val (.pointer (some ⟨w.heap.size, 3, Option.none⟩)) (fun K' hK => ?_) (by exact rfl)
      go_simp
      exact hK
    | 10, ho =>
      rw [← Array.getElem?_toList] at ho
      simp only [List.getElem?_cons_zero, List.getElem?_cons_succ, Option.some.injEq] at ho
      subst ho
      have e22 := (eval_tmp a 22).trans (hv 0 _ rfl rfl _ 22 rfl rfl)
      have c0 := cell_below hb (HB.out 3 _ rfl)
      clear hfr hv hanc hb
      refine mstep_val (.int .u64 x.ver2) (fun K' hK => ?_) (by exact rfl)
      go_simp
      exact hK
    | 11, ho =>
      rw [← Array.getElem?_toList] at ho
      simp only [List.getElem?_cons_zero, List.getElem?_cons_succ, Option.some.injEq] at ho
      subst ho
      have e1 : a.tmps[1]?.getD undef = .pointer (some ⟨w.heap.size, 0, Option.none⟩) := (eval_tmp a 1).trans (hfr 1 (by decide +kernel))
      clear hfr hv hanc hb
      refine mstep_val (.pointer (some ⟨w.heap.size, 1, Option.none⟩)) (fun K' hK => ?_) (by exact rfl)
      go_simp
      exact hK
    | 12, ho =>
      rw [← Array.getElem?_toList] at ho
      simp only [List.getElem?_cons_zero, List.getElem?_cons_succ, Option.some.injEq] at ho
      subst ho
      have e24 := (eval_tmp a 24).trans (hv 0 _ rfl rfl _ 24 rfl rfl)
      clear hfr hv hanc hb
      refine mstep_val (.pointer (some ⟨w.heap.size, 4, Option.none⟩)) (fun K' hK => ?_) (by exact rfl)
      go_simp
      exact hK
    | 13, ho =>
      rw [← Array.getElem?_toList] at ho
      simp only [List.getElem?_cons_zero, List.getElem?_cons_succ, Option.some.injEq] at ho
      subst ho
      have e25 := (eval_tmp a 25).trans (hv 0 _ rfl rfl _ 25 rfl rfl)
      have c0 := cell_below hb (HB.out 4 _ rfl)
      clear hfr hv hanc hb
      refine mstep_val (.string x.net) (fun K' hK => ?_) (by exact rfl)
      go_simp
      exact hK
    | 14, ho =>
      rw [← Array.getElem?_toList] at ho
      simp only [List.getElem?_cons_zero, List.getElem?_cons_succ, Option.some.injEq] at ho
      subst ho
      have e1 : a.tmps[1]?.getD undef = .pointer (some ⟨w.heap.size, 0, Option.none⟩) := (eval_tmp a 1).trans (hfr 1 (by decide +kernel))
      clear hfr hv hanc hb
      refine mstep_val (.pointer (some ⟨w.heap.size, 1, Option.none⟩)) (fun K' hK => ?_) (by exact rfl)
      go_simp
      exact hK
    | 15, ho =>
      rw [← Array.getElem?_toList] at ho
      simp only [List.getElem?_cons_zero, List.getElem?_cons_succ, Option.some.injEq] at ho
      subst ho
      have e27 := (eval_tmp a 27).trans (hv 0 _ rfl rfl _ 27 rfl rfl)
      clear hfr hv hanc hb
      refine mstep_val (.pointer (some ⟨w.heap.size, 5, Option.none⟩)) (fun K' hK => ?_) (by exact rfl)
      go_simp
      exact hK
    | 16, ho =>
      rw [← Array.getElem?_toList] at ho
      simp only [List.getElem?_cons_zero, List.getElem?_cons_succ, Option.some.injEq] at ho
      subst ho
      have e28 := (eval_tmp a 28).trans (hv 0 _ rfl rfl _ 28 rfl rfl)
      have c0 := cell_below hb (HB.out 5 _ rfl)
      clear hfr hv hanc hb
      refine mstep_val (.string x.addr) (fun K' hK => ?_) (by exact rfl)
      go_simp
      exact hK
    | 17, ho =>
      rw [← Array.getElem?_toList] at ho
      simp only [List.getElem?_cons_zero, List.getElem?_cons_succ, Option.some.injEq] at ho
      subst ho
      have e1 : a.tmps[1]?.getD undef = .pointer (some ⟨w.heap.size, 0, Option.none⟩) := (eval_tmp a 1).trans (hfr 1 (by decide +kernel))
      clear hfr hv hanc hb
      refine mstep_val (.pointer (some ⟨w.heap.size, 1, Option.none⟩)) (fun K' hK => ?_) (by exact rfl)
      go_simp
      exact hK
    | 18, ho =>
      rw [← Array.getElem?_toList] at ho
      simp only [List.getElem?_cons_zero, List.getElem?_cons_succ, Option.some.injEq] at ho
      subst ho
      have e30 := (eval_tmp a 30).trans (hv 0 _ rfl rfl _ 30 rfl rfl)
      clear hfr hv hanc hb
      refine mstep_val (.pointer (some ⟨w.heap.size, 6, Option.none⟩)) (fun K' hK => ?_) (by exact rfl)
      go_simp
      exact hK
    | 19, ho =>
      rw [← Array.getElem?_toList] at ho
      simp only [List.getElem?_cons_zero, List.getElem?_cons_succ, Option.some.injEq] at ho
      subst ho
      have e31 := (eval_tmp a 31).trans (hv 0 _ rfl rfl _ 31 rfl rfl)
      have c0 := cell_below hb (HB.out 6 _ rfl)
      clear hfr hv hanc hb
      refine mstep_val (.string x.address) (fun K' hK => ?_) (by exact rfl)
      go_simp
      exact hK
    | 20, ho =>
      rw [← Array.getElem?_toList] at ho
      simp only [List.getElem?_cons_zero, List.getElem?_cons_succ, Option.some.injEq] at ho
      subst ho
      have e17 := (eval_tmp a 17).trans (hv 0 _ rfl rfl _ 17 rfl rfl)
      have e20 := (eval_tmp a 20).trans (hv 1 _ rfl rfl _ 20 rfl rfl)
      have e23 := (eval_tmp a 23).trans (hv 2 _ rfl rfl _ 23 rfl rfl)
      have e26 := (eval_tmp a 26).trans (hv 3 _ rfl rfl _ 26 rfl rfl)
      have e29 := (eval_tmp a 29).trans (hv 4 _ rfl rfl _ 29 rfl rfl)
      have e32 := (eval_tmp a 32).trans (hv 5 _ rfl rfl _ 32 rfl rfl)
      clear hfr hv hanc hb
      refine mstep_val (.agg #[.string x.user, .int .u64 x.id, .int .u64 x.ver2, .string x.net, .string x.addr, .string x.address]) (fun K' hK => ?_) (by exact rfl)
      go_simp
      exact hK
    | 21, ho =>
      rw [← Array.getElem?_toList] at ho
      simp only [List.getElem?_cons_zero, List.getElem?_cons_succ, Option.some.injEq] at ho
      subst ho
      have e1 : a.tmps[1]?.getD undef = .pointer (some ⟨w.heap.size, 0, Option.none⟩) := (eval_tmp a 1).trans (hfr 1 (by decide +kernel))
      clear hfr hv hanc hb
      refine mstep_val (.pointer (some ⟨w.heap.size, 7, Option.none⟩)) (fun K' hK => ?_) (by exact rfl)
      go_simp
      exact hK
    | 22, ho =>
      rw [← Array.getElem?_toList] at ho
      simp only [List.getElem?_cons_zero, List.getElem?_cons_succ, Option.some.injEq] at ho
      subst ho
      have e34 := (eval_tmp a 34).trans (hv 0 _ rfl rfl _ 34 rfl rfl)
      have c0 := cell_below hb (HB.out 7 _ rfl)
      clear hfr hv hanc hb
      refine mstep_val (.string x.name) (fun K' hK => ?_) (by exact rfl)
      go_simp
      exact hK
    | 23, ho =>
      rw [← Array.getElem?_toList] at ho
      simp only [List.getElem?_cons_zero, List.getElem?_cons_succ, Option.some.injEq] at ho
      subst ho
      have e1 : a.tmps[1]?.getD undef = .pointer (some ⟨w.heap.size, 0, Option.none⟩) := (eval_tmp a 1).trans (hfr 1 (by decide +kernel))
      clear hfr hv hanc hb
      refine mstep_val (.pointer (some ⟨w.heap.size, 8, Option.none⟩)) (fun K' hK => ?_) (by exact rfl)
      go_simp
      exact hK
    | 24, ho =>
      rw [← Array.getElem?_toList] at ho
      simp only [List.getElem?_cons_zero, List.getElem?_cons_succ, Option.some.injEq] at ho
      subst ho
      have e36 := (eval_tmp a 36).trans (hv 0 _ rfl rfl _ 36 rfl rfl)
      have c0 := cell_below hb (HB.out 8 _ rfl)
      clear hfr hv hanc hb
      refine mstep_val (.slice Y1 x.info.length y1) (fun K' hK => ?_) (by exact rfl)
      go_simp
      exact hK
    | 25, ho =>
      rw [← Array.getElem?_toList] at ho
      simp only [List.getElem?_cons_zero, List.getElem?_cons_succ, Option.some.injEq] at ho
      subst ho
      have e37 := (eval_tmp a 37).trans (hv 0 _ rfl rfl _ 37 rfl rfl)
      refine mstep_gen (fun v w' => Below wx.heap.size wx w' ∧ ∃ p, v = .pointer p) (fun K' hK => ?_) (fun v w' hG => ?_)
      · clear hfr hv hanc
        have hK' := Bx.mk hK
        have HY := Bx.mk (HV1.out.step (by decide) (below_trans HW.out hb))
        clear hK hb
        go_simp
        refine (imaybe50 _ _ F _ HY.out).mono ?_
        rintro e w2 ⟨hb, p, rfl⟩
        exact hK'.out _ _ ⟨hb, p, rfl⟩
      · exact ⟨hG.2, hG.1⟩
    | 26, ho =>
      rw [← Array.getElem?_toList] at ho
      simp only [List.getElem?_cons_zero, List.getElem?_cons_succ, Option.some.injEq] at ho
      subst ho
      have e1 : a.tmps[1]?.getD undef = .pointer (some ⟨w.heap.size, 0, Option.none⟩) := (eval_tmp a 1).trans (hfr 1 (by decide +kernel))
      clear hfr hv hanc hb
      refine mstep_val (.pointer (some ⟨w.heap.size, 9, Option.none⟩)) (fun K' hK => ?_) (by exact rfl)
      go_simp
      exact hK
    | 27, ho =>
      rw [← Array.getElem?_toList] at ho
      simp only [List.getElem?_cons_zero, List.getElem?_cons_succ, Option.some.injEq] at ho
      subst ho
      have e39 := (eval_tmp a 39).trans (hv 0 _ rfl rfl _ 39 rfl rfl)
      have c0 := cell_below hb (HB.out 9 _ rfl)
      clear hfr hv hanc hb
      refine mstep_val (.slice Y2 x.uri.length y2) (fun K' hK => ?_) (by exact rfl)
      go_simp
      exact hK
    | 28, ho =>
      rw [← Array.getElem?_toList] at ho
      simp only [List.getElem?_cons_zero, List.getElem?_cons_succ, Option.some.injEq] at ho
      subst ho
      have e40 := (eval_tmp a 40).trans (hv 0 _ rfl rfl _ 40 rfl rfl)
      refine mstep_gen (fun v w' => Below wx.heap.size wx w' ∧ ∃ p, v = .pointer p) (fun K' hK => ?_) (fun v w' hG => ?_)
      · clear hfr hv hanc
        have hK' := Bx.mk hK
        have HY := Bx.mk (HV2.out.step (by decide) (below_trans HW.out hb))
        clear hK hb
        go_simp
        refine (iurl _ _ F _ HY.out).mono ?_
        rintro e w2 ⟨hb, p, rfl⟩
        exact hK'.out _ _ ⟨hb, p, rfl⟩
      · exact ⟨hG.2, hG.1⟩
    | 29, ho =>
      rw [← Array.getElem?_toList] at ho
      simp only [List.getElem?_cons_zero, List.getElem?_cons_succ, Option.some.injEq] at ho
      subst ho
      have e1 : a.tmps[1]?.getD undef = .pointer (some ⟨w.heap.size, 0, Option.none⟩) := (eval_tmp a 1).trans (hfr 1 (by decide +kernel))
      clear hfr hv hanc hb
      refine mstep_val (.pointer (some ⟨w.heap.size, 10, Option.none⟩)) (fun K' hK => ?_) (by exact rfl)
      go_simp
      exact hK
    | 30, ho =>
      rw [← Array.getElem?_toList] at ho
      simp only [List.getElem?_cons_zero, List.getElem?_cons_succ, Option.some.injEq] at ho
      subst ho
      have e42 := (eval_tmp a 42).trans (hv 0 _ rfl rfl _ 42 rfl rfl)
      have c0 := cell_below hb (HB.out 10 _ rfl)
      clear hfr hv hanc hb
      refine mstep_val (.slice Y3 x.email.length y3) (fun K' hK => ?_) (by exact rfl)
      go_simp
      exact hK
    | 31, ho =>
      rw [← Array.getElem?_toList] at ho
      simp only [List.getElem?_cons_zero, List.getElem?_cons_succ, Option.some.injEq] at ho
      subst ho
      have e43 := (eval_tmp a 43).trans (hv 0 _ rfl rfl _ 43 rfl rfl)
      refine mstep_gen (fun v w' => Below wx.heap.size wx w' ∧ ∃ p, v = .pointer p) (fun K' hK => ?_) (fun v w' hG => ?_)
      · clear hfr hv hanc
        have hK' := Bx.mk hK
        have HY := Bx.mk (HV3.out.step (by decide) (below_trans HW.out hb))
        clear hK hb
        go_simp
        refine (imaybe52 _ _ F _ HY.out).mono ?_
        rintro e w2 ⟨hb, p, rfl⟩
        exact hK'.out _ _ ⟨hb, p, rfl⟩
      · exact ⟨hG.2, hG.1⟩
    | 32, ho =>
      rw [← Array.getElem?_toList] at ho
      simp only [List.getElem?_cons_zero, List.getElem?_cons_succ, Option.some.injEq] at ho
      subst ho
      have e1 : a.tmps[1]?.getD undef = .pointer (some ⟨w.heap.size, 0, Option.none⟩) := (eval_tmp a 1).trans (hfr 1 (by decide +kernel))
      clear hfr hv hanc hb
      refine mstep_val (.pointer (some ⟨w.heap.size, 11, Option.none⟩)) (fun K' hK => ?_) (by exact rfl)
      go_simp
      exact hK
    | 33, ho =>
      rw [← Array.getElem?_toList] at ho
      simp only [List.getElem?_cons_zero, List.getElem?_cons_succ, Option.some.injEq] at ho
      subst ho
      have e45 := (eval_tmp a 45).trans (hv 0 _ rfl rfl _ 45 rfl rfl)
      have c0 := cell_below hb (HB.out 11 _ rfl)
      clear hfr hv hanc hb
      refine mstep_val (.slice Y4 x.phone.length y4) (fun K' hK => ?_) (by exact rfl)
      go_simp
      exact hK
    | 34, ho =>
      rw [← Array.getElem?_toList] at ho
      simp only [List.getElem?_cons_zero, List.getElem?_cons_succ, Option.some.injEq] at ho
      subst ho
      have e46 := (eval_tmp a 46).trans (hv 0 _ rfl rfl _ 46 rfl rfl)
      refine mstep_gen (fun v w' => Below wx.heap.size wx w' ∧ ∃ p, v = .pointer p) (fun K' hK => ?_) (fun v w' hG => ?_)
      · clear hfr hv hanc
        have hK' := Bx.mk hK
        have HY := Bx.mk (HV4.out.step (by decide) (below_trans HW.out hb))
        clear hK hb
        go_simp
        refine (imaybe53 _ _ F _ HY.out).mono ?_
        rintro e w2 ⟨hb, p, rfl⟩
        exact hK'.out _ _ ⟨hb, p, rfl⟩
      · exact ⟨hG.2, hG.1⟩
    | 35, ho =>
      rw [← Array.getElem?_toList] at ho
      simp only [List.getElem?_cons_zero, List.getElem?_cons_succ, Option.some.injEq] at ho
      subst ho
      have e1 : a.tmps[1]?.getD undef = .pointer (some ⟨w.heap.size, 0, Option.none⟩) := (eval_tmp a 1).trans (hfr 1 (by decide +kernel))
      clear hfr hv hanc hb
      refine mstep_val (.pointer (some ⟨w.heap.size, 12, Option.none⟩)) (fun K' hK => ?_) (by exact rfl)
      go_simp
      exact hK
    | 36, ho =>
      rw [← Array.getElem?_toList] at ho
      simp only [List.getElem?_cons_zero, List.getElem?_cons_succ, Option.some.injEq] at ho
      subst ho
      have e48 := (eval_tmp a 48).trans (hv 0 _ rfl rfl _ 48 rfl rfl)
      have c0 := cell_below hb (HB.out 12 _ rfl)
      clear hfr hv hanc hb
      refine mstep_val (.slice Y5 x.con.length y5) (fun K' hK => ?_) (by exact rfl)
      go_simp
      exact hK
    | 37, ho =>
      rw [← Array.getElem?_toList] at ho
      simp only [List.getElem?_cons_zero, List.getElem?_cons_succ, Option.some.injEq] at ho
      subst ho
      have e49 := (eval_tmp a 49).trans (hv 0 _ rfl rfl _ 49 rfl rfl)
      refine mstep_gen (fun v w' => Below wx.heap.size wx w' ∧ ∃ p, v = .pointer p) (fun K' hK => ?_) (fun v w' hG => ?_)
      · clear hfr hv hanc
        have hK' := Bx.mk hK
        have HY := Bx.mk (HV5.out.step (by decide) (below_trans HW.out hb))
        clear hK hb
        go_simp
        refine (icon _ _ F _ HY.out).mono ?_
        rintro e w2 ⟨hb, p, rfl⟩
        exact hK'.out _ _ ⟨hb, p, rfl⟩
      · exact ⟨hG.2, hG.1⟩
    | 38, ho =>
      rw [← Array.getElem?_toList] at ho
      simp only [List.getElem?_cons_zero, List.getElem?_cons_succ, Option.some.injEq] at ho
      subst ho
      have e1 : a.tmps[1]?.getD undef = .pointer (some ⟨w.heap.size, 0, Option.none⟩) := (eval_tmp a 1).trans (hfr 1 (by decide +kernel))
      clear hfr hv hanc hb
      refine mstep_val (.pointer (some ⟨w.heap.size, 13, Option.none⟩)) (fun K' hK => ?_) (by exact rfl)
      go_simp
      exact hK
    | 39, ho =>
      rw [← Array.getElem?_toList] at ho
      simp only [List.getElem?_cons_zero, List.getElem?_cons_succ, Option.some.injEq] at ho
      subst ho
      have e51 := (eval_tmp a 51).trans (hv 0 _ rfl rfl _ 51 rfl rfl)
      have c0 := cell_below hb (HB.out 13 _ rfl)
      clear hfr hv hanc hb
      refine mstep_val (.slice Y6 x.bw.length y6) (fun K' hK => ?_) (by exact rfl)
      go_simp
      exact hK
    | 40, ho =>
      rw [← Array.getElem?_toList] at ho
      simp only [List.getElem?_cons_zero, List.getElem?_cons_succ, Option.some.injEq] at ho
      subst ho
      have e52 := (eval_tmp a 52).trans (hv 0 _ rfl rfl _ 52 rfl rfl)
      refine mstep_gen (fun v w' => Below wx.heap.size wx w' ∧ ∃ A c, v = .slice A x.bw.length c) (fun K' hK => ?_) (fun v w' hG => ?_)
      · clear hfr hv hanc
        have hK' := Bx.mk hK
        have HY := Bx.mk (HV6.out.step (by decide) (below_trans HW.out hb))
        clear hK hb
        go_simp
        refine (ibws _ _ F _ HY.out hl1.out).mono ?_
        rintro e w2 ⟨hb, A, c, rfl, hs⟩
        exact hK'.out _ _ ⟨hb, A, c, rfl⟩
      · exact ⟨hG.2, hG.1⟩
    | 41, ho =>
      rw [← Array.getElem?_toList] at ho
      simp only [List.getElem?_cons_zero, List.getElem?_cons_succ, Option.some.injEq] at ho
      subst ho
      have e1 : a.tmps[1]?.getD undef = .pointer (some ⟨w.heap.size, 0, Option.none⟩) := (eval_tmp a 1).trans (hfr 1 (by decide +kernel))
      clear hfr hv hanc hb
      refine mstep_val (.pointer (some ⟨w.heap.size, 16, Option.none⟩)) (fun K' hK => ?_) (by exact rfl)
      go_simp
      exact hK
    | 42, ho =>
      rw [← Array.getElem?_toList] at ho
      simp only [List.getElem?_cons_zero, List.getElem?_cons_succ, Option.some.injEq] at ho
      subst ho
      have e54 := (eval_tmp a 54).trans (hv 0 _ rfl rfl _ 54 rfl rfl)
      have c0 := cell_below hb (HB.out 16 _ rfl)
      clear hfr hv hanc hb
      refine mstep_val (.slice Y9 x.key.length y9) (fun K' hK => ?_) (by exact rfl)
      go_simp
      exact hK
    | 43, ho =>
      rw [← Array.getElem?_toList] at ho
      simp only [List.getElem?_cons_zero, List.getElem?_cons_succ, Option.some.injEq] at ho
      subst ho
      have e55 := (eval_tmp a 55).trans (hv 0 _ rfl rfl _ 55 rfl rfl)
      refine mstep_gen (fun v w' => Below wx.heap.size wx w' ∧ ∃ p, v = .pointer p) (fun K' hK => ?_) (fun v w' hG => ?_)
      · clear hfr hv hanc
        have hK' := Bx.mk hK
        have HY := Bx.mk (HV9.out.step (by decide) (below_trans HW.out hb))
        clear hK hb
        go_simp
        refine (imaybe56 _ _ F _ HY.out).mono ?_
        rintro e w2 ⟨hb, p, rfl⟩
        exact hK'.out _ _ ⟨hb, p, rfl⟩
      · exact ⟨hG.2, hG.1⟩
    | 44, ho =>
      rw [← Array.getElem?_toList] at ho
      simp only [List.getElem?_cons_zero, List.getElem?_cons_succ, Option.some.injEq] at ho
      subst ho
      have e1 : a.tmps[1]?.getD undef = .pointer (some ⟨w.heap.size, 0, Option.none⟩) := (eval_tmp a 1).trans (hfr 1 (by decide +kernel))
      clear hfr hv hanc hb
      refine mstep_val (.pointer (some ⟨w.heap.size, 17, Option.none⟩)) (fun K' hK => ?_) (by exact rfl)
      go_simp
      exact hK
    | 45, ho =>
      rw [← Array.getElem?_toList] at ho
      simp only [List.getElem?_cons_zero, List.getElem?_cons_succ, Option.some.injEq] at ho
      subst ho
      have e57 := (eval_tmp a 57).trans (hv 0 _ rfl rfl _ 57 rfl rfl)
      have c0 := cell_below hb (HB.out 17 _ rfl)
      clear hfr hv hanc hb
      refine mstep_val (.slice Y10 x.atts.length y10) (fun K' hK => ?_) (by exact rfl)
      go_simp
      exact hK
    | 46, ho =>
      rw [← Array.getElem?_toList] at ho
      simp only [List.getElem?_cons_zero, List.getElem?_cons_succ, Option.some.injEq] at ho
      subst ho
      have e58 := (eval_tmp a 58).trans (hv 0 _ rfl rfl _ 58 rfl rfl)
      refine mstep_gen (fun v w' => Below wx.heap.size wx w' ∧ ∃ A c, v = .slice A x.atts.length c) (fun K' hK => ?_) (fun v w' hG => ?_)
      · clear hfr hv hanc
        have hK' := Bx.mk hK
        have HY := Bx.mk (HV10.out.step (by decide) (below_trans HW.out hb))
        clear hK hb
        go_simp
        refine (iatts _ _ F _ HY.out hl2.out).mono ?_
        rintro e w2 ⟨hb, A, c, rfl, hs⟩
        exact hK'.out _ _ ⟨hb, A, c, rfl⟩
      · exact ⟨hG.2, hG.1⟩
    | 47, ho =>
      rw [← Array.getElem?_toList] at ho
      simp only [List.getElem?_cons_zero, List.getElem?_cons_succ, Option.some.injEq] at ho
      subst ho
      have e14 := (eval_tmp a 14).trans (hv 0 _ rfl rfl _ 14 rfl rfl)
      have e33 := (eval_tmp a 33).trans (hv 1 _ rfl rfl _ 33 rfl rfl)
      have e35 := (eval_tmp a 35).trans (hv 2 _ rfl rfl _ 35 rfl rfl)
      obtain ⟨p1, e38⟩ := (hv 3 _ rfl rfl _ 38 rfl rfl)
      replace e38 := (eval_tmp a 38).trans e38
      obtain ⟨p2, e41⟩ := (hv 4 _ rfl rfl _ 41 rfl rfl)
      replace e41 := (eval_tmp a 41).trans e41
      obtain ⟨p3, e44⟩ := (hv 5 _ rfl rfl _ 44 rfl rfl)
      replace e44 := (eval_tmp a 44).trans e44
      obtain ⟨p4, e47⟩ := (hv 6 _ rfl rfl _ 47 rfl rfl)
      replace e47 := (eval_tmp a 47).trans e47
      obtain ⟨p5, e50⟩ := (hv 7 _ rfl rfl _ 50 rfl rfl)
      replace e50 := (eval_tmp a 50).trans e50
      obtain ⟨B6, d6, e53⟩ := (hv 8 _ rfl rfl _ 53 rfl rfl)
      replace e53 := (eval_tmp a 53).trans e53
      obtain ⟨p9, e56⟩ := (hv 9 _ rfl rfl _ 56 rfl rfl)
      replace e56 := (eval_tmp a 56).trans e56
      obtain ⟨B10, d10, e59⟩ := (hv 10 _ rfl rfl _ 59 rfl rfl)
      replace e59 := (eval_tmp a 59).trans e59
      refine mstep_gen (fun v w' => w' = wx ∧ v = .agg #[.int .i64 x.ver, .string x.user, .int .u64 x.id, .int .u64 x.ver2, .string x.net, .string x.addr, .string x.address, .string x.name, .pointer p1, .pointer p2, .pointer p3, .pointer p4, .pointer p5, .slice B6 x.bw.length d6, .slice Option.none 0 0, .slice Option.none 0 0, .pointer p9, .slice B10 x.atts.length d10, .slice Option.none 0 0]) (fun K' hK => ?_) (fun v w' hG => ?_)
      · clear hfr hv hanc
        clear hb
        go_simp
        exact hK _ _ ⟨rfl, rfl⟩
      · obtain ⟨rfl, rfl⟩ := hG
        exact ⟨⟨_, _, _, _, _, _, _, _, _, _, rfl⟩, Below.refl _ _⟩
    | 48, ho =>
      rw [← Array.getElem?_toList] at ho
      simp only [List.getElem?_cons_zero, List.getElem?_cons_succ, Option.some.injEq] at ho
      subst ho
      obtain ⟨p1, p2, p3, p4, p5, B6, d6, p9, B10, d10, e60⟩ := (hv 0 _ rfl rfl _ 60 rfl rfl)
      replace e60 := (eval_tmp a 60).trans e60
      refine mstep_gen (fun v w' => v = .pointer (some ⟨wx.heap.size, 0, Option.none⟩) ∧ w' = wx.alloc (.cells #[.int .i64 x.ver, .string x.user, .int .u64 x.id, .int .u64 x.ver2, .string x.net, .string x.addr, .string x.address, .string x.name, .pointer p1, .pointer p2, .pointer p3, .pointer p4, .pointer p5, .slice B6 x.bw.length d6, .slice Option.none 0 0, .slice Option.none 0 0, .pointer p9, .slice B10 x.atts.length d10, .slice Option.none 0 0] 148)) (fun K' hK => ?_) (fun v w' hG => ?_)
      · clear hfr hv hanc
        clear hb
        go_simp
        exact hK _ _ ⟨rfl, rfl⟩
      · obtain ⟨rfl, rfl⟩ := hG
        exact ⟨⟨_, rfl, hb.size, _, heap_alloc_new _ _, rfl, rfl, rfl⟩, below_alloc1 (Below.refl _ _) _⟩
    | 49, ho => exact (not_both (by kernel_rfl) hanc).elim
    | n + 50, ho => cases ho
  · intro i hi
    cases hi
  · intro o ho a wx hb hfr hv
    rw [← Array.getElem?_toList] at ho
    simp only [List.getElem?_cons_zero, List.getElem?_cons_succ, Option.some.injEq] at ho
    subst ho
    obtain ⟨g, e61, hg1, hg2⟩ := (hv 48 _ 61 (by kernel_rfl) rfl rfl)
    replace e61 := (eval_tmp a 61).trans e61
    have HP := Bx.mk hb
    have HG := Bx.mk hg2
    have HG1 := Bx.mk hg1
    clear hfr hv hb hg2 hg1
    refine astep_gen (fun K' hK => ?_)
    go_simp
    exact hK _ _ ⟨HP.out, g, rfl, HG1.out, HG.out⟩
  · intro s o hs
    cases hs
  · intro f wx hTf hP hF _
    obtain ⟨v, hv, hW, g, rfl, hg1, hg2⟩ := hP rfl
    have e3 : f 3 = .pointer (some ⟨g, 0, Option.none⟩) := hv _ 3 rfl rfl
    obtain ⟨wb, hE⟩ : ∃ wb, (w.alloc (.cells #[.int .i64 x.ver, .string x.user, .int .u64 x.id, .int .u64 x.ver2, .string x.net, .string x.addr, .string x.address, .string x.name, .slice Y1 x.info.length y1, .slice Y2 x.uri.length y2, .slice Y3 x.email.length y3, .slice Y4 x.phone.length y4, .slice Y5 x.con.length y5, .slice Y6 x.bw.length y6, .slice Y7 x.tim.length y7, .slice Y8 x.zon.length y8, .slice Y9 x.key.length y9, .slice Y10 x.atts.length y10, .slice Y11 x.med.length y11] 33)).drew = wb := ⟨_, rfl⟩
    rw [hE] at HB HW HR7 HR8 HR11 hW hg1
    have HBW := Bx.mk hW
    have HG := Bx.mk hg2
    have hwg := Bx.mk hg1
    obtain ⟨base, hbase⟩ : ∃ base, base = wx.heap.size := ⟨_, rfl⟩
    have hgb : Bx (g < base) := ⟨by obtain ⟨cs, h, _⟩ := hg2; rw [hbase]; exact blk_lt h⟩
    have hwb : Bx (wb.heap.size ≤ base) := ⟨by rw [hbase]; exact hW.size⟩
    have HBS : Bx (base ≤ wx.heap.size) := ⟨by rw [hbase]; exact Nat.le_refl _⟩
    have hc14 := cell_below hW (HB.out 14 _ rfl)
    have hmt := HR7.out.1
    have hmz := HR8.out.1
    have hmm := HR11.out.1
    clear hTf hP hF hW hg2 hv hg1 hbase hE HV1 HV2 HV3 HV4 HV5 HV6 HV9 HV10
    dsimp only
    rw [e3]
    clear e3
    go_wp2
    go_loopw [65] (fun i wr => ∃ (k : Nat) (A : Option Addr) (c : Nat), k ≤ x.tim.length ∧ i = .int .i64 k ∧ Bx (OutBlk wr g (.slice A k c) (.slice Option.none 0 0) (.slice Option.none 0 0)) ∧ Bx ((anyK 3).Own 168 wr base (fun b => base ≤ b) (.slice A k c) (List.replicate k ())) ∧ Bx (Below wb.heap.size wb wr) ∧ Bx (base ≤ wr.heap.size)) (fun i _ => x.tim.length - (intOf i).toNat)
    case atStart => exact ⟨0, Option.none, 0, Nat.zero_le _, rfl, HG, ⟨Own.nil _ _ _ _ _⟩, HBW, HBS⟩
    case round =>
      obtain ⟨k, A, c, hk, rfl, hG, hO, hB, hZ⟩ := hrel
      by_cases hlt : k < x.tim.length
      · obtain ⟨ad, A3, c3, rfl, hc0, hc1, hc2, hx⟩ := tim_get HR7.out k hlt
        replace hc0 := cell_below hB.out hc0
        replace hc1 := cell_below hB.out hc1
        replace hc2 := cell_below hB.out hc2
        obtain ⟨wo, rfl⟩ : ∃ wo : World, wo = wr := ⟨_, rfl⟩
        have HX := Bx.mk (hx.step (by decide) hB.out)
        clear hx
        have hz := hB.out.size
        have hkl := (HFT.out.2 _ (List.getElem_mem hlt)).1
        obtain ⟨Ax, cx, he, hlx, hrx⟩ := HX.out
        have HRX := Bx.mk hrx
        simp only [Value.slice.injEq, true_and] at he
        obtain ⟨rfl, rfl⟩ := he
        clear hrx HX
        have hmx := HRX.out.1
        go_wp2
        go_loopw [78] (fun j wr => ∃ (m : Nat) (A2 : Option Addr) (c2 : Nat), m ≤ x.tim[k].reps.length ∧ j = .int .i64 m ∧ Bx (wr.heap[wo.heap.size + 1]? = some (.cells #[.int .u64 x.tim[k].st, .int .u64 x.tim[k].sp, .slice A2 m c2] 168 (0, 0))) ∧
          Bx ((anyK 3).Own 170 wr (wo.heap.size + 2) (fun b => wo.heap.size + 2 ≤ b) (.slice A2 m c2) (List.replicate m ())) ∧ Bx (Below wo.heap.size wo wr) ∧ wo.heap.size + 2 ≤ wr.heap.size) (fun j _ => x.tim[k].reps.length - (intOf j).toNat)
        case atStart => exact ⟨0, Option.none, 0, Nat.zero_le _, rfl, ⟨by have := heap_alloc_new (wo.alloc (.cells #[.int .u64 x.tim[k].st, .int .u64 x.tim[k].sp, .slice A3 x.tim[k].reps.length c3] 77)) (.cells #[.int .u64 x.tim[k].st, .int .u64 x.tim[k].sp, .slice Option.none 0 0] 168); simpa using this⟩, ⟨Own.nil _ _ _ _ _⟩, ⟨below_alloc (below_alloc (Below.refl _ _) (Nat.le_refl _) _) (by simp) _⟩, by simp⟩
        case round =>
          obtain ⟨m, A2, c2, hm, rfl, hG2, hO2, hB2, hz2⟩ := hrel
          by_cases hlt2 : m < x.tim[k].reps.length
          · obtain ⟨ad2, A8, c8, rfl, hd0, hd1, hd2, hs1⟩ := rep_get HRX.out m hlt2
            replace hd0 := cell_below hB2.out hd0
            replace hd1 := cell_below hB2.out hd1
            replace hd2 := cell_below hB2.out hd2
            have hz3 : wo.heap.size + 1 < wr.heap.size := by omega
            have HL9 : Bx (x.tim[k].reps[m].offs.length ≤ 137438953472) := ⟨by have := (HFT.out.2 _ (List.getElem_mem hlt)).2 _ (List.getElem_mem hlt2); omega⟩
            have hBR : Below wr.heap.size wr (wr.alloc (.cells #[.int .i64 x.tim[k].reps[m].iv, .int .i64 x.tim[k].reps[m].du, .slice A8 x.tim[k].reps[m].offs.length c8] 83)).drew := Below.drew (below_alloc1 (Below.refl _ _) _)
            have HG9 := Bx.mk (heap_below hBR hG2.out)
            have HR9 : Bx ((wr.alloc (.cells #[.int .i64 x.tim[k].reps[m].iv, .int .i64 x.tim[k].reps[m].du, .slice A8 x.tim[k].reps[m].offs.length c8] 83)).drew.heap[wr.heap.size]? = some (.cells #[.int .i64 x.tim[k].reps[m].iv, .int .i64 x.tim[k].reps[m].du, .slice A8 x.tim[k].reps[m].offs.length c8] 83 (0, 0))) := ⟨heap_alloc_new wr _⟩
            have HS9 := Bx.mk (hs1.step (by decide) (below_trans hB2.out hBR))
            have HO9 := Bx.mk (hO2.out.step (fun b _ hlt => hBR.block b hlt))
            have HB9 := Bx.mk (below_trans hB2.out hBR)
            have HZ9 := Bx.mk (Nat.le_trans hz2 hBR.size)
            have HM9 : Bx (m + 1 ≤ 2147483648) := ⟨by omega⟩
            clear hBR hs1 hG2 hO2 hB2
            go_upto_region 9 with fail
            refine region_app (by kernel_rfl) (by kernel_rfl) (by kernel_rfl) (by kernel_rfl) (fun fz => #[Value.agg #[Value.int IntKind.i64 x.ver, Value.string x.user, Value.int IntKind.u64 x.id, Value.int IntKind.u64 x.ver2, Value.string x.net, Value.string x.addr, Value.string x.address, Value.string x.name, Value.slice Y1 x.info.length y1, Value.slice Y2 x.uri.length y2, Value.slice Y3 x.email.length y3, Value.slice Y4 x.phone.length y4, Value.slice Y5 x.con.length y5, Value.slice Y6 x.bw.length y6, Value.slice (some ad) x.tim.length y7, Value.slice Y8 x.zon.length y8, Value.slice Y9 x.key.length y9, Value.slice Y10 x.atts.length y10, Value.slice Y11 x.med.length y11], Value.pointer (some { block := w.heap.size, off := 0 }), Value.pointer Option.none, Value.pointer (some { block := g, off := 0 }), undef, Value.pointer (some { block := wo.heap.size, off := 0 }), Value.pointer (some { block := wo.heap.size + 1, off := 0 }), undef, Value.pointer (some { block := wr.heap.size, off := 0 }), undef, undef, undef, undef, f 13, f 14, f 15, f 16, f 17, f 18, f 19, f 20, f 21, f 22, f 23, f 24, f 25, f 26, f 27, f 28, f 29, f 30, f 31, f 32, f 33, f 34, f 35, f 36, f 37, f 38, f 39, f 40, f 41, f 42, f 43, f 44, f 45, f 46, f 47, f 48, f 49, f 50, f 51, f 52, f 53, f 54, f 55, f 56, f 57, f 58, f 59, f 60, f 61, Value.pointer (some { block := w.heap.size, off := 14 }), Value.slice (some ad) x.tim.length y7, Value.int IntKind.i64 ↑x.tim.length, Value.int IntKind.i64 ↑k, Value.bool true, Value.pointer (some (ad.add (k * 3))), Value.agg #[Value.int IntKind.u64 x.tim[k].st, Value.int IntKind.u64 x.tim[k].sp, Value.slice (some ad2) x.tim[k].reps.length c3], Value.pointer (some { block := wo.heap.size, off := 0 }), Value.int IntKind.u64 x.tim[k].st, Value.pointer (some { block := wo.heap.size, off := 1 }), Value.int IntKind.u64 x.tim[k].sp, Value.agg #[Value.int IntKind.u64 x.tim[k].st, Value.int IntKind.u64 x.tim[k].sp], Value.agg #[Value.int IntKind.u64 x.tim[k].st, Value.int IntKind.u64 x.tim[k].sp, Value.slice Option.none 0 0], Value.pointer (some { block := wo.heap.size, off := 2 }), Value.slice (some ad2) x.tim[k].reps.length c3, Value.int IntKind.i64 ↑x.tim[k].reps.length, Value.int IntKind.i64 ↑m, Value.bool true, Value.pointer (some (ad2.add (m * 3))), Value.agg #[Value.int IntKind.i64 x.tim[k].reps[m].iv, Value.int IntKind.i64 x.tim[k].reps[m].du, Value.slice A8 x.tim[k].reps[m].offs.length c8], fz 82, fz 83, fz 84, fz 85, fz 86, fz 87, fz 88, fz 89, fz 90, fz 91, fz 92, fz 93, fz 94, u95, u96, u97, u98, u99, u100, u101, u102, u103, u104, u105, u106, undef, undef, undef, undef, undef, undef, undef, undef, undef, undef, undef, undef, undef, undef, undef, undef, undef, undef, undef, undef, undef, undef, undef, undef, undef, undef, undef, undef, undef, undef, undef, undef, undef, undef, undef, undef, undef, undef, undef, undef, undef, undef]) (fun f => by kernel_rfl) 11 (some 13) (by kernel_rfl) ⟨by kernel_rfl, by simp, fun s hs => by cases hs; exact ⟨by kernel_rfl, by kernel_rfl⟩⟩ (fun i => match i with | 0 => Mono.is (.pointer (some ⟨wo.heap.size + 1, 2, Option.none⟩)) | 1 => Mono.is (.slice A2 m c2) | 2 => Mono.is (.pointer (some ⟨wr.heap.size, 0, Option.none⟩)) | 3 => Mono.is (.int .i64 x.tim[k].reps[m].iv) | 4 => Mono.is (.pointer (some ⟨wr.heap.size, 1, Option.none⟩)) | 5 => Mono.is (.int .i64 x.tim[k].reps[m].du) | 6 => Mono.is (.pointer (some ⟨wr.heap.size, 2, Option.none⟩)) | 7 => Mono.is (.slice A8 x.tim[k].reps[m].offs.length c8) | 8 => Mono.sat (fun v => ∃ A c, v = .slice A x.tim[k].reps[m].offs.length c) | 9 => Mono.sat (fun v => ∃ A c, v = .agg #[.int .i64 x.tim[k].reps[m].iv, .int .i64 x.tim[k].reps[m].du, .slice A x.tim[k].reps[m].offs.length c]) | 10 => Mono.box1 170 0 (fun cs _ => (anyK 3).K (fun _ => True) w () cs) (fun h _ => h) | _ => Mono.is undef) [12] (fun i => match i with | 12 => some (.pointer (some ⟨wo.heap.size + 1, 2, Option.none⟩)) | _ => Option.none) (by kernel_rfl) (by kernel_rfl) (fun v w' => ∃ A c, v = .slice A (m + 1) c ∧ (anyK 3).Own 170 w' (wo.heap.size + 2) (fun b => wo.heap.size + 2 ≤ b) (.slice A (m + 1) c) (List.replicate m () ++ [()]) ∧ w'.heap[wo.heap.size + 1]? = some (.cells #[.int .u64 x.tim[k].st, .int .u64 x.tim[k].sp, .slice A2 m c2] 168 (0, 0)) ∧ Below wo.heap.size wo w') (fun w' => ∃ A c, (anyK 3).Own 170 w' (wo.heap.size + 2) (fun b => wo.heap.size + 2 ≤ b) (.slice A (m + 1) c) (List.replicate m () ++ [()]) ∧ w'.heap[wo.heap.size + 1]? = some (.cells #[.int .u64 x.tim[k].st, .int .u64 x.tim[k].sp, .slice A (m + 1) c] 168 (0, 0)) ∧ Below wo.heap.size wo w') ?_ ?_ ?_ ?_ ?_ (by decide)
            · intro i o ho hanc a wx hb hfr hv
              match i, ho with
              | 0, ho =>
                rw [← Array.getElem?_toList] at ho
                simp only [List.getElem?_cons_zero, Option.some.injEq] at ho
                subst ho
                have e6 : a.tmps[6]?.getD undef = .pointer (some ⟨wo.heap.size + 1, 0, Option.none⟩) := (eval_tmp a 6).trans (hfr 6 (by decide +kernel))
                clear hfr hv hanc hb
                refine mstep_val (.pointer (some ⟨wo.heap.size + 1, 2, Option.none⟩)) (fun K' hK => ?_) (by exact rfl)
                go_simp
                exact hK
              | 1, ho =>
                rw [← Array.getElem?_toList] at ho
                simp only [List.getElem?_cons_zero, List.getElem?_cons_succ, Option.some.injEq] at ho
                subst ho
                have e82 := (eval_tmp a 82).trans (hv 0 _ rfl rfl _ 82 rfl rfl)
                have c0 := (blk_cell (heap_below hb HG9.out) 2).trans rfl
                clear hfr hv hanc hb
                refine mstep_val (.slice A2 m c2) (fun K' hK => ?_) (by exact rfl)
                go_simp
                exact hK
              | 2, ho =>
                rw [← Array.getElem?_toList] at ho
                simp only [List.getElem?_cons_zero, List.getElem?_cons_succ, Option.some.injEq] at ho
                subst ho
                have e8 : a.tmps[8]?.getD undef = .pointer (some ⟨wr.heap.size, 0, Option.none⟩) := (eval_tmp a 8).trans (hfr 8 (by decide +kernel))
                clear hfr hv hanc hb
                refine mstep_val (.pointer (some ⟨wr.heap.size, 0, Option.none⟩)) (fun K' hK => ?_) (by exact rfl)
                go_simp
                exact hK
              | 3, ho =>
                rw [← Array.getElem?_toList] at ho
                simp only [List.getElem?_cons_zero, List.getElem?_cons_succ, Option.some.injEq] at ho
                subst ho
                have e84 := (eval_tmp a 84).trans (hv 0 _ rfl rfl _ 84 rfl rfl)
                have c0 := (blk_cell (heap_below hb HR9.out) 0).trans rfl
                clear hfr hv hanc hb
                refine mstep_val (.int .i64 x.tim[k].reps[m].iv) (fun K' hK => ?_) (by exact rfl)
                go_simp
                exact hK
              | 4, ho =>
                rw [← Array.getElem?_toList] at ho
                simp only [List.getElem?_cons_zero, List.getElem?_cons_succ, Option.some.injEq] at ho
                subst ho
                have e8 : a.tmps[8]?.getD undef = .pointer (some ⟨wr.heap.size, 0, Option.none⟩) := (eval_tmp a 8).trans (hfr 8 (by decide +kernel))
                clear hfr hv hanc hb
                refine mstep_val (.pointer (some ⟨wr.heap.size, 1, Option.none⟩)) (fun K' hK => ?_) (by exact rfl)
                go_simp
                exact hK
              | 5, ho =>
                rw [← Array.getElem?_toList] at ho
                simp only [List.getElem?_cons_zero, List.getElem?_cons_succ, Option.some.injEq] at ho
                subst ho
                have e86 := (eval_tmp a 86).trans (hv 0 _ rfl rfl _ 86 rfl rfl)
                have c0 := (blk_cell (heap_below hb HR9.out) 1).trans rfl
                clear hfr hv hanc hb
                refine mstep_val (.int .i64 x.tim[k].reps[m].du) (fun K' hK => ?_) (by exact rfl)
                go_simp
                exact hK
              | 6, ho =>
                rw [← Array.getElem?_toList] at ho
                simp only [List.getElem?_cons_zero, List.getElem?_cons_succ, Option.some.injEq] at ho
                subst ho
                have e8 : a.tmps[8]?.getD undef = .pointer (some ⟨wr.heap.size, 0, Option.none⟩) := (eval_tmp a 8).trans (hfr 8 (by decide +kernel))
                clear hfr hv hanc hb
                refine mstep_val (.pointer (some ⟨wr.heap.size, 2, Option.none⟩)) (fun K' hK => ?_) (by exact rfl)
                go_simp
                exact hK
              | 7, ho =>
                rw [← Array.getElem?_toList] at ho
                simp only [List.getElem?_cons_zero, List.getElem?_cons_succ, Option.some.injEq] at ho
                subst ho
                have e88 := (eval_tmp a 88).trans (hv 0 _ rfl rfl _ 88 rfl rfl)
                have c0 := (blk_cell (heap_below hb HR9.out) 2).trans rfl
                clear hfr hv hanc hb
                refine mstep_val (.slice A8 x.tim[k].reps[m].offs.length c8) (fun K' hK => ?_) (by exact rfl)
                go_simp
                exact hK
              | 8, ho =>
                rw [← Array.getElem?_toList] at ho
                simp only [List.getElem?_cons_zero, List.getElem?_cons_succ, Option.some.injEq] at ho
                subst ho
                have e89 := (eval_tmp a 89).trans (hv 0 _ rfl rfl _ 89 rfl rfl)
                refine mstep_gen (fun v w' => Below wx.heap.size wx w' ∧ ∃ A c, v = .slice A x.tim[k].reps[m].offs.length c) (fun K' hK => ?_) (fun v w' hG => ?_)
                · clear hfr hv hanc
                  have hK' := Bx.mk hK
                  have HY := Bx.mk (HS9.out.step (by decide) hb)
                  clear hK hb
                  go_simp
                  refine (iclone64 _ _ F _ HY.out HL9.out).mono ?_
                  rintro e w2 ⟨hb, A, c, rfl, hs⟩
                  exact hK'.out _ _ ⟨hb, A, c, rfl⟩
                · exact ⟨hG.2, hG.1⟩
              | 9, ho =>
                rw [← Array.getElem?_toList] at ho
                simp only [List.getElem?_cons_zero, List.getElem?_cons_succ, Option.some.injEq] at ho
                subst ho
                have e85 := (eval_tmp a 85).trans (hv 0 _ rfl rfl _ 85 rfl rfl)
                have e87 := (eval_tmp a 87).trans (hv 1 _ rfl rfl _ 87 rfl rfl)
                obtain ⟨A, c, e90⟩ := (hv 2 _ rfl rfl _ 90 rfl rfl)
                replace e90 := (eval_tmp a 90).trans e90
                refine mstep_gen (fun v w' => w' = wx ∧ v = .agg #[.int .i64 x.tim[k].reps[m].iv, .int .i64 x.tim[k].reps[m].du, .slice A x.tim[k].reps[m].offs.length c]) (fun K' hK => ?_) (fun v w' hG => ?_)
                · clear hfr hv hanc
                  clear hb
                  go_simp
                  exact hK _ _ ⟨rfl, rfl⟩
                · obtain ⟨rfl, rfl⟩ := hG
                  exact ⟨⟨_, _, rfl⟩, Below.refl _ _⟩
              | 10, ho =>
                rw [← Array.getElem?_toList] at ho
                simp only [List.getElem?_cons_zero, List.getElem?_cons_succ, Option.some.injEq] at ho
                subst ho
                obtain ⟨A, c, e91⟩ := (hv 0 _ rfl rfl _ 91 rfl rfl)
                replace e91 := (eval_tmp a 91).trans e91
                refine mstep_gen (fun v w' => v = .slice (some ⟨wx.heap.size, 0, Option.none⟩) 1 1 ∧ w' = wx.alloc (.cells #[.int .i64 x.tim[k].reps[m].iv, .int .i64 x.tim[k].reps[m].du, .slice A x.tim[k].reps[m].offs.length c] 170)) (fun K' hK => ?_) (fun v w' hG => ?_)
                · clear hfr hv hanc
                  clear hb
                  go_simp
                  exact hK _ _ ⟨rfl, rfl⟩
                · obtain ⟨rfl, rfl⟩ := hG
                  exact ⟨⟨_, _, rfl, Nat.zero_le _, heap_alloc_new _ _, anyK_mk rfl rfl⟩, below_alloc1 (Below.refl _ _) _⟩
              | 11, ho => exact (not_both (by kernel_rfl) hanc).elim
              | 12, ho => exact (not_both (by kernel_rfl) hanc).elim
              | 13, ho => exact (not_both (by kernel_rfl) hanc).elim
              | n + 14, ho => cases ho
            · intro i hi o ho a wx hfr hv
              simp only [List.mem_cons, List.not_mem_nil, or_false] at hi
              obtain rfl := hi
              · rw [← Array.getElem?_toList] at ho
                simp only [List.getElem?_cons_zero, List.getElem?_cons_succ, Option.some.injEq] at ho
                subst ho
                have e6 : a.tmps[6]?.getD undef = .pointer (some ⟨wo.heap.size + 1, 0, Option.none⟩) := (eval_tmp a 6).trans (hfr 6 (by decide +kernel))
                clear hfr hv
                refine fstep_val (.pointer (some ⟨wo.heap.size + 1, 2, Option.none⟩)) (fun K' hK => ?_) (by exact rfl)
                go_simp
                exact hK
            · intro o ho a wx hb hfr hv
              rw [← Array.getElem?_toList] at ho
              simp only [List.getElem?_cons_zero, List.getElem?_cons_succ, Option.some.injEq] at ho
              subst ho
              have e83 := (eval_tmp a 83).symm.trans ((eval_tmp a 83).trans (hv 1 _ 83 (by kernel_rfl) rfl rfl))
              obtain ⟨n, cs, e92, _, hn, hcs⟩ := (hv 10 _ 92 (by kernel_rfl) rfl rfl)
              have HO' := HO9.out.step (w' := wx) (fun b _ hlt => hb.block b hlt)
              have HGx := heap_below hb HG9.out
              have HBx := HB9.out.trans (hb.mono HB9.out.size)
              refine app_step (anyK 3) (B := wo.heap.size + 2) _ rfl _ _ 166 170 _ 40 rfl Tryz.underlying166 info170 rfl (by decide) (by decide) (by decide) (.slice A2 m c2) _ () cs m (by simp) n e83 e92 hn hcs HO' (Nat.le_trans HZ9.out hb.size) (fun _ h => h) HM9.out (fun A1 c1 w1 h1 h2 => ⟨A1, c1, rfl, h1, blk_grown HGx h2 (fun b hb' => by have := (HO'.lt b hb').1; omega), HBx.grown h2 HBx.size (fun b hb' => by have := (HO'.lt b hb').1; omega)⟩)
            · intro s o hs ho a wx hfr hv hP
              cases hs
              rw [← Array.getElem?_toList] at ho
              simp only [List.getElem?_cons_zero, List.getElem?_cons_succ, Option.some.injEq] at ho
              subst ho
              obtain ⟨v, hv1, A1, c1, rfl, h1, h2, h3⟩ := hP
              have e93 := (eval_tmp a 93).trans (hv1 _ 93 rfl rfl)
              have e94 := (eval_tmp a 94).trans (hv 0 _ rfl rfl _ 94 _ rfl rfl rfl)
              have hg5 : wx.cell? ⟨wo.heap.size + 1, 2, Option.none⟩ = some (.slice A2 m c2) := by rw [blk_cell h2]; rfl
              have hf5 := blk_frozen h2 2
              have H1 := Bx.mk h1
              have H2 := Bx.mk h2
              have H3 := Bx.mk h3
              clear hfr hv hv1 h1 h2 h3
              refine sstep_gen (fun K' hK => ?_)
              go_simp
              refine hK undef _ ⟨A1, c1, H1.out.step (fun b hb _ => Below.heap_setCell _ _ _ _ (by simp only; omega)), by rw [blk_set H2.out]; rfl, H3.out.setCell (Nat.le_succ _) _⟩
            · intro fz wx hTf hP hF _
              obtain ⟨A1, c1, h1, h2, h3⟩ := hF ⟨13, rfl, by decide⟩
              have H1 := Bx.mk h1
              have H2 := Bx.mk h2
              have H3 := Bx.mk h3
              have HZ : wo.heap.size + 2 ≤ wx.heap.size := blk_lt h2
              clear hTf hP hF h1 h2 h3
              dsimp only
              go_wp2
              go_roundw
              case rel => first | exact ⟨m + 1, A1, c1, by omega, by go_num, H2, ⟨by rw [List.replicate_succ']; exact H1.out⟩, H3, HZ⟩ | ((repeat apply Exists.intro); exact ⟨⟨m + 1, A1, c1, by omega, by go_num, H2, ⟨by rw [List.replicate_succ']; exact H1.out⟩, H3, HZ⟩, rfl⟩)
              case measure => simp [intOf]; omega
          · go_upto_region 11 with fail
            obtain rfl : m = x.tim[k].reps.length := by omega
            have hBd : Below wo.heap.size wo wr.drew := Below.drew hB2.out
            have HGR := Bx.mk (hG.out.step hBd)
            have HOR := Bx.mk (hO.out.step (fun b _ hlt => hBd.block b hlt))
            have HBR := Bx.mk (below_trans hB.out hBd)
            have HZR := Bx.mk (Nat.le_trans hZ.out hBd.size)
            have HD11 : Bx (wr.drew.heap[wo.heap.size + 1]? = some (.cells #[.int .u64 x.tim[k].st, .int .u64 x.tim[k].sp, .slice A2 x.tim[k].reps.length c2] 168 (0, 0))) := ⟨hG2.out⟩
            have HLR : Bx (k + 1 ≤ 2147483648) := ⟨by have := HFT.out.1; omega⟩
            clear hBd hG hO hB hG2 hO2 hB2
            refine region_app (by kernel_rfl) (by kernel_rfl) (by kernel_rfl) (by kernel_rfl) (fun fz => #[Value.agg #[Value.int IntKind.i64 x.ver, Value.string x.user, Value.int IntKind.u64 x.id, Value.int IntKind.u64 x.ver2, Value.string x.net, Value.string x.addr, Value.string x.address, Value.string x.name, Value.slice Y1 x.info.length y1, Value.slice Y2 x.uri.length y2, Value.slice Y3 x.email.length y3, Value.slice Y4 x.phone.length y4, Value.slice Y5 x.con.length y5, Value.slice Y6 x.bw.length y6, Value.slice (some ad) x.tim.length y7, Value.slice Y8 x.zon.length y8, Value.slice Y9 x.key.length y9, Value.slice Y10 x.atts.length y10, Value.slice Y11 x.med.length y11], Value.pointer (some { block := w.heap.size, off := 0 }), Value.pointer Option.none, Value.pointer (some { block := g, off := 0 }), undef, Value.pointer (some { block := wo.heap.size, off := 0 }), Value.pointer (some { block := wo.heap.size + 1, off := 0 }), undef, u8, undef, undef, undef, undef, f 13, f 14, f 15, f 16, f 17, f 18, f 19, f 20, f 21, f 22, f 23, f 24, f 25, f 26, f 27, f 28, f 29, f 30, f 31, f 32, f 33, f 34, f 35, f 36, f 37, f 38, f 39, f 40, f 41, f 42, f 43, f 44, f 45, f 46, f 47, f 48, f 49, f 50, f 51, f 52, f 53, f 54, f 55, f 56, f 57, f 58, f 59, f 60, f 61, Value.pointer (some { block := w.heap.size, off := 14 }), Value.slice (some ad) x.tim.length y7, Value.int IntKind.i64 ↑x.tim.length, Value.int IntKind.i64 ↑k, Value.bool true, Value.pointer (some (ad.add (k * 3))), Value.agg #[Value.int IntKind.u64 x.tim[k].st, Value.int IntKind.u64 x.tim[k].sp, Value.slice A3 x.tim[k].reps.length c3], Value.pointer (some { block := wo.heap.size, off := 0 }), Value.int IntKind.u64 x.tim[k].st, Value.pointer (some { block := wo.heap.size, off := 1 }), Value.int IntKind.u64 x.tim[k].sp, Value.agg #[Value.int IntKind.u64 x.tim[k].st, Value.int IntKind.u64 x.tim[k].sp], Value.agg #[Value.int IntKind.u64 x.tim[k].st, Value.int IntKind.u64 x.tim[k].sp, Value.slice Option.none 0 0], Value.pointer (some { block := wo.heap.size, off := 2 }), Value.slice A3 x.tim[k].reps.length c3, Value.int IntKind.i64 ↑x.tim[k].reps.length, Value.int IntKind.i64 ↑x.tim[k].reps.length, Value.bool false, u80, u81, u82, u83, u84, u85, u86, u87, u88, u89, u90, u91, u92, u93, u94, u95, fz 96, fz 97, fz 98, fz 99, fz 100, fz 101, fz 102, fz 103, fz 104, fz 105, u106, undef, undef, undef, undef, undef, undef, undef, undef, undef, undef, undef, undef, undef, undef, undef, undef, undef, undef, undef, undef, undef, undef, undef, undef, undef, undef, undef, undef, undef, undef, undef, undef, undef, undef, undef, undef, undef, undef, undef, undef, undef, undef]) (fun f => by kernel_rfl) 7 (some 10) (by kernel_rfl) ⟨by kernel_rfl, by simp, fun s hs => by cases hs; exact ⟨by kernel_rfl, by kernel_rfl⟩⟩ (fun i => match i with | 1 => Mono.is (.pointer (some ⟨g, 0, Option.none⟩)) | 2 => Mono.is (.pointer (some ⟨g, 0, Option.none⟩)) | 3 => Mono.is (.pointer (some ⟨g, 14, Option.none⟩)) | 4 => Mono.is (.slice A k c) | 5 => Mono.is (.agg #[.int .u64 x.tim[k].st, .int .u64 x.tim[k].sp, .slice A2 x.tim[k].reps.length c2]) | 6 => Mono.box1 168 0 (fun cs _ => (anyK 3).K (fun _ => True) w () cs) (fun h _ => h) | _ => Mono.is undef) [0, 8, 9] (fun i => match i with | 0 => some (.pointer (some ⟨g, 0, Option.none⟩)) | 8 => some (.pointer (some ⟨g, 0, Option.none⟩)) | 9 => some (.pointer (some ⟨g, 14, Option.none⟩)) | _ => Option.none) (by kernel_rfl) (by kernel_rfl) (fun v w' => ∃ A' c', v = .slice A' (k + 1) c' ∧ (anyK 3).Own 168 w' base (fun b => base ≤ b) (.slice A' (k + 1) c') (List.replicate k () ++ [()]) ∧ OutBlk w' g (.slice A k c) (.slice Option.none 0 0) (.slice Option.none 0 0) ∧ Below wb.heap.size wb w' ∧ base ≤ w'.heap.size) (fun w' => ∃ A' c', (anyK 3).Own 168 w' base (fun b => base ≤ b) (.slice A' (k + 1) c') (List.replicate k () ++ [()]) ∧ OutBlk w' g (.slice A' (k + 1) c') (.slice Option.none 0 0) (.slice Option.none 0 0) ∧ Below wb.heap.size wb w' ∧ base ≤ w'.heap.size) ?_ ?_ ?_ ?_ ?_ (by decide)
            · intro i o ho hanc a wx hb hfr hv
              match i, ho with
              | 0, ho => exact (not_both (by kernel_rfl) hanc).elim
              | 1, ho =>
                rw [← Array.getElem?_toList] at ho
                simp only [List.getElem?_cons_zero, List.getElem?_cons_succ, Option.some.injEq] at ho
                subst ho
                have e3 : a.tmps[3]?.getD undef = .pointer (some ⟨g, 0, Option.none⟩) := (eval_tmp a 3).trans (hfr 3 (by decide +kernel))
                clear hfr hv hanc hb
                refine mstep_val (.pointer (some ⟨g, 0, Option.none⟩)) (fun K' hK => ?_) (by exact rfl)
                go_simp
                exact hK
              | 2, ho =>
                rw [← Array.getElem?_toList] at ho
                simp only [List.getElem?_cons_zero, List.getElem?_cons_succ, Option.some.injEq] at ho
                subst ho
                have e97 := (eval_tmp a 97).trans (hv 0 _ rfl rfl _ 97 rfl rfl)
                clear hfr hv hanc hb
                refine mstep_val (.pointer (some ⟨g, 0, Option.none⟩)) (fun K' hK => ?_) (by exact rfl)
                go_simp
                exact hK
              | 3, ho =>
                rw [← Array.getElem?_toList] at ho
                simp only [List.getElem?_cons_zero, List.getElem?_cons_succ, Option.some.injEq] at ho
                subst ho
                have e98 := (eval_tmp a 98).trans (hv 0 _ rfl rfl _ 98 rfl rfl)
                clear hfr hv hanc hb
                refine mstep_val (.pointer (some ⟨g, 14, Option.none⟩)) (fun K' hK => ?_) (by exact rfl)
                go_simp
                exact hK
              | 4, ho =>
                rw [← Array.getElem?_toList] at ho
                simp only [List.getElem?_cons_zero, List.getElem?_cons_succ, Option.some.injEq] at ho
                subst ho
                have e99 := (eval_tmp a 99).trans (hv 0 _ rfl rfl _ 99 rfl rfl)
                have c0 := (HGR.out.step hb).c14
                clear hfr hv hanc hb
                refine mstep_val (.slice A k c) (fun K' hK => ?_) (by exact rfl)
                go_simp
                exact hK
              | 5, ho =>
                rw [← Array.getElem?_toList] at ho
                simp only [List.getElem?_cons_zero, List.getElem?_cons_succ, Option.some.injEq] at ho
                subst ho
                have e6 : a.tmps[6]?.getD undef = .pointer (some ⟨wo.heap.size + 1, 0, Option.none⟩) := (eval_tmp a 6).trans (hfr 6 (by decide +kernel))
                have hD := heap_below hb HD11.out
                have q0 := (blk_cell hD 0).trans rfl
                have q1 := (blk_cell hD 1).trans rfl
                have q2 := (blk_cell hD 2).trans rfl
                clear hfr hv hanc hb hD
                refine mstep_val (.agg #[.int .u64 x.tim[k].st, .int .u64 x.tim[k].sp, .slice A2 x.tim[k].reps.length c2]) (fun K' hK => ?_) (by exact rfl)
                go_simp
                exact hK
              | 6, ho =>
                rw [← Array.getElem?_toList] at ho
                simp only [List.getElem?_cons_zero, List.getElem?_cons_succ, Option.some.injEq] at ho
                subst ho
                have e101 := (eval_tmp a 101).trans (hv 0 _ rfl rfl _ 101 rfl rfl)
                refine mstep_gen (fun v w' => v = .slice (some ⟨wx.heap.size, 0, Option.none⟩) 1 1 ∧ w' = wx.alloc (.cells #[.int .u64 x.tim[k].st, .int .u64 x.tim[k].sp, .slice A2 x.tim[k].reps.length c2] 168)) (fun K' hK => ?_) (fun v w' hG => ?_)
                · clear hfr hv hanc
                  clear hb
                  go_simp
                  exact hK _ _ ⟨rfl, rfl⟩
                · obtain ⟨rfl, rfl⟩ := hG
                  exact ⟨⟨_, _, rfl, Nat.zero_le _, heap_alloc_new _ _, anyK_mk rfl rfl⟩, below_alloc1 (Below.refl _ _) _⟩
              | 7, ho => exact (not_both (by kernel_rfl) hanc).elim
              | 8, ho => exact (not_both (by kernel_rfl) hanc).elim
              | 9, ho => exact (not_both (by kernel_rfl) hanc).elim
              | 10, ho => exact (not_both (by kernel_rfl) hanc).elim
              | n + 11, ho => cases ho
            · intro i hi o ho a wx hfr hv
              simp only [List.mem_cons, List.not_mem_nil, or_false] at hi
              rcases hi with rfl | rfl | rfl
              · rw [← Array.getElem?_toList] at ho
                simp only [List.getElem?_cons_zero, Option.some.injEq] at ho
                subst ho
                have e3 : a.tmps[3]?.getD undef = .pointer (some ⟨g, 0, Option.none⟩) := (eval_tmp a 3).trans (hfr 3 (by decide +kernel))
                clear hfr hv
                refine fstep_val (.pointer (some ⟨g, 0, Option.none⟩)) (fun K' hK => ?_) (by exact rfl)
                go_simp
                exact hK
              · rw [← Array.getElem?_toList] at ho
                simp only [List.getElem?_cons_zero, List.getElem?_cons_succ, Option.some.injEq] at ho
                subst ho
                have e96 := (eval_tmp a 96).trans (hv 0 _ rfl rfl _ 96 _ rfl rfl rfl)
                clear hfr hv
                refine fstep_val (.pointer (some ⟨g, 0, Option.none⟩)) (fun K' hK => ?_) (by exact rfl)
                go_simp
                exact hK
              · rw [← Array.getElem?_toList] at ho
                simp only [List.getElem?_cons_zero, List.getElem?_cons_succ, Option.some.injEq] at ho
                subst ho
                have e104 := (eval_tmp a 104).trans (hv 0 _ rfl rfl _ 104 _ rfl rfl rfl)
                clear hfr hv
                refine fstep_val (.pointer (some ⟨g, 14, Option.none⟩)) (fun K' hK => ?_) (by exact rfl)
                go_simp
                exact hK
            · intro o ho a wx hb hfr hv
              rw [← Array.getElem?_toList] at ho
              simp only [List.getElem?_cons_zero, List.getElem?_cons_succ, Option.some.injEq] at ho
              subst ho
              have e100 := (eval_tmp a 100).symm.trans ((eval_tmp a 100).trans (hv 4 _ 100 (by kernel_rfl) rfl rfl))
              obtain ⟨n, cs, e102, _, hn, hcs⟩ := (hv 6 _ 102 (by kernel_rfl) rfl rfl)
              have HO' := HOR.out.step (w' := wx) (fun b _ hlt => hb.block b hlt)
              have HGx := HGR.out.step hb
              have HBx := HBR.out.trans (hb.mono HBR.out.size)
              refine app_step (anyK 3) (B := base) _ rfl _ _ 142 168 _ 40 rfl Tryz.underlying142 info168 rfl (by decide) (by decide) (by decide) (.slice A k c) _ () cs k (by simp) n e100 e102 hn hcs HO' (Nat.le_trans HZR.out hb.size) (fun _ h => h) HLR.out (fun A1 c1 w1 h1 h2 => ⟨A1, c1, rfl, h1, HGx.grown h2 (fun b hb' => by have := (HO'.lt b hb').1; have := hgb.out; omega), HBx.grown h2 HBx.size (fun b hb' => by have := (HO'.lt b hb').1; have := hwb.out; omega), Nat.le_trans HZR.out (Nat.le_trans hb.size h2.size)⟩)
            · intro s o hs ho a wx hfr hv hP
              cases hs
              rw [← Array.getElem?_toList] at ho
              simp only [List.getElem?_cons_zero, List.getElem?_cons_succ, Option.some.injEq] at ho
              subst ho
              obtain ⟨v, hv1, A1, c1, rfl, h1, h2, h3, h4⟩ := hP
              have e103 := (eval_tmp a 103).trans (hv1 _ 103 rfl rfl)
              have H4 := Bx.mk h4
              clear h4
              have e105 := (eval_tmp a 105).trans (hv 0 _ rfl rfl _ 105 _ rfl rfl rfl)
              have hg5 := h2.c14
              have hf5 := h2.frozen 14
              have H1 := Bx.mk h1
              have H2 := Bx.mk h2
              have H3 := Bx.mk h3
              clear hfr hv hv1 h1 h2 h3
              refine sstep_gen (fun K' hK => ?_)
              go_simp
              refine hK undef _ ⟨A1, c1, H1.out.step (fun b hb _ => Below.heap_setCell _ _ _ _ (by have := hgb.out; simp only; omega)), H2.out.set14 _, H3.out.setCell (by have := hwg.out; simp only; omega) _, by simpa [World.setCell] using H4.out⟩
            · intro fz wx hTf hP hF _
              obtain ⟨A1, c1, h1, h2, h3, h4⟩ := hF ⟨10, rfl, by decide⟩
              have HZB := Bx.mk h4
              clear h4
              have H1 := Bx.mk h1
              have H2 := Bx.mk h2
              have H3 := Bx.mk h3
              clear hTf hP hF h1 h2 h3
              dsimp only
              go_wp2
              go_roundw
              case rel => first | exact ⟨k + 1, A1, c1, by omega, by go_num, H2, ⟨by rw [List.replicate_succ']; exact H1.out⟩, H3, HZB⟩ | ((repeat apply Exists.intro); exact ⟨⟨k + 1, A1, c1, by omega, by go_num, H2, ⟨by rw [List.replicate_succ']; exact H1.out⟩, H3, HZB⟩, rfl⟩)
              case measure => simp [intOf]; omega
      · obtain rfl : k = x.tim.length := by omega
        obtain ⟨At, ct, hAt⟩ : ∃ At ct, At = A ∧ ct = c := ⟨A, c, rfl, rfl⟩
        obtain ⟨rfl, rfl⟩ := hAt
        have hc15 := cell_below hB.out (HB.out 15 _ rfl)
        clear hO
        go_wp2
        go_loopw [110] (fun i wr => ∃ (k : Nat) (A : Option Addr) (c : Nat), k ≤ x.zon.length ∧ i = .int .i64 k ∧ Bx (OutBlk wr g (.slice At x.tim.length ct) (.slice A k c) (.slice Option.none 0 0)) ∧ Bx ((anyK 2).Own 172 wr base (fun b => base ≤ b) (.slice A k c) (List.replicate k ())) ∧ Bx (Below wb.heap.size wb wr) ∧ Bx (base ≤ wr.heap.size)) (fun i _ => x.zon.length - (intOf i).toNat)
        case atStart => exact ⟨0, Option.none, 0, Nat.zero_le _, rfl, hG, ⟨Own.nil _ _ _ _ _⟩, hB, hZ⟩
        case round =>
          clear hG hB hZ
          obtain ⟨k, A, c, hk, rfl, hG, hO, hB, hZ⟩ := hrel
          by_cases hlt : k < x.zon.length
          · obtain ⟨ad, rfl, hc0, hc1⟩ := zon_get HR8.out k hlt
            replace hc0 := cell_below hB.out hc0
            replace hc1 := cell_below hB.out hc1
            have hBd : Below wr.heap.size wr (wr.alloc (.cells #[.int .u64 x.zon[k].t, .int .i64 x.zon[k].o] 86)).drew := Below.drew (below_alloc1 (Below.refl _ _) _)
            have HGR := Bx.mk (hG.out.step hBd)
            have HOR := Bx.mk (hO.out.step (fun b _ hlt => hBd.block b hlt))
            have HBR := Bx.mk (below_trans hB.out hBd)
            have HZR := Bx.mk (Nat.le_trans hZ.out hBd.size)
            have HZ16 : Bx ((wr.alloc (.cells #[.int .u64 x.zon[k].t, .int .i64 x.zon[k].o] 86)).drew.heap[wr.heap.size]? = some (.cells #[.int .u64 x.zon[k].t, .int .i64 x.zon[k].o] 86 (0, 0))) := ⟨heap_alloc_new wr _⟩
            have HLR : Bx (k + 1 ≤ 2147483648) := ⟨by omega⟩
            clear hBd hG hO hB
            go_upto_region 16 with fail
            refine region_app (by kernel_rfl) (by kernel_rfl) (by kernel_rfl) (by kernel_rfl) (fun fz => #[Value.agg #[Value.int IntKind.i64 x.ver, Value.string x.user, Value.int IntKind.u64 x.id, Value.int IntKind.u64 x.ver2, Value.string x.net, Value.string x.addr, Value.string x.address, Value.string x.name, Value.slice Y1 x.info.length y1, Value.slice Y2 x.uri.length y2, Value.slice Y3 x.email.length y3, Value.slice Y4 x.phone.length y4, Value.slice Y5 x.con.length y5, Value.slice Y6 x.bw.length y6, Value.slice Y7 x.tim.length y7, Value.slice (some ad) x.zon.length y8, Value.slice Y9 x.key.length y9, Value.slice Y10 x.atts.length y10, Value.slice Y11 x.med.length y11], Value.pointer (some { block := w.heap.size, off := 0 }), Value.pointer Option.none, Value.pointer (some { block := g, off := 0 }), undef, u5, u6, undef, u8, undef, Value.pointer (some { block := wr.heap.size, off := 0 }), undef, undef, f 13, f 14, f 15, f 16, f 17, f 18, f 19, f 20, f 21, f 22, f 23, f 24, f 25, f 26, f 27, f 28, f 29, f 30, f 31, f 32, f 33, f 34, f 35, f 36, f 37, f 38, f 39, f 40, f 41, f 42, f 43, f 44, f 45, f 46, f 47, f 48, f 49, f 50, f 51, f 52, f 53, f 54, f 55, f 56, f 57, f 58, f 59, f 60, f 61, Value.pointer (some { block := w.heap.size, off := 14 }), Value.slice Y7 x.tim.length y7, Value.int IntKind.i64 ↑x.tim.length, Value.int IntKind.i64 ↑x.tim.length, Value.bool false, u67, u68, u69, u70, u71, u72, u73, u74, u75, u76, u77, u78, u79, u80, u81, u82, u83, u84, u85, u86, u87, u88, u89, u90, u91, u92, u93, u94, u95, u96, u97, u98, u99, u100, u101, u102, u103, u104, u105, u106, Value.pointer (some { block := w.heap.size, off := 15 }), Value.slice (some ad) x.zon.length y8, Value.int IntKind.i64 ↑x.zon.length, Value.int IntKind.i64 ↑k, Value.bool true, Value.pointer (some (ad.add (k * 2))), Value.agg #[Value.int IntKind.u64 x.zon[k].t, Value.int IntKind.i64 x.zon[k].o], fz 114, fz 115, fz 116, fz 117, fz 118, fz 119, fz 120, fz 121, fz 122, fz 123, fz 124, fz 125, fz 126, fz 127, u128, undef, undef, undef, undef, undef, undef, undef, undef, undef, undef, undef, undef, undef, undef, undef, undef, undef, undef, undef, undef]) (fun f => by kernel_rfl) 11 (some 14) (by kernel_rfl) ⟨by kernel_rfl, by simp, fun s hs => by cases hs; exact ⟨by kernel_rfl, by kernel_rfl⟩⟩ (fun i => match i with | 1 => Mono.is (.pointer (some ⟨g, 0, Option.none⟩)) | 2 => Mono.is (.pointer (some ⟨g, 0, Option.none⟩)) | 3 => Mono.is (.pointer (some ⟨g, 15, Option.none⟩)) | 4 => Mono.is (.slice A k c) | 5 => Mono.is (.pointer (some ⟨wr.heap.size, 0, Option.none⟩)) | 6 => Mono.is (.int .u64 x.zon[k].t) | 7 => Mono.is (.pointer (some ⟨wr.heap.size, 1, Option.none⟩)) | 8 => Mono.is (.int .i64 x.zon[k].o) | 9 => Mono.is (.agg #[.int .u64 x.zon[k].t, .int .i64 x.zon[k].o]) | 10 => Mono.box1 172 0 (fun cs _ => (anyK 2).K (fun _ => True) w () cs) (fun h _ => h) | _ => Mono.is undef) [0, 12, 13] (fun i => match i with | 0 => some (.pointer (some ⟨g, 0, Option.none⟩)) | 12 => some (.pointer (some ⟨g, 0, Option.none⟩)) | 13 => some (.pointer (some ⟨g, 15, Option.none⟩)) | _ => Option.none) (by kernel_rfl) (by kernel_rfl) (fun v w' => ∃ A' c', v = .slice A' (k + 1) c' ∧ (anyK 2).Own 172 w' base (fun b => base ≤ b) (.slice A' (k + 1) c') (List.replicate k () ++ [()]) ∧ OutBlk w' g (.slice At x.tim.length ct) (.slice A k c) (.slice Option.none 0 0) ∧ Below wb.heap.size wb w' ∧ base ≤ w'.heap.size) (fun w' => ∃ A' c', (anyK 2).Own 172 w' base (fun b => base ≤ b) (.slice A' (k + 1) c') (List.replicate k () ++ [()]) ∧ OutBlk w' g (.slice At x.tim.length ct) (.slice A' (k + 1) c') (.slice Option.none 0 0) ∧ Below wb.heap.size wb w' ∧ base ≤ w'.heap.size) ?_ ?_ ?_ ?_ ?_ (by decide)
            · intro i o ho hanc a wx hb hfr hv
              match i, ho with
              | 0, ho => exact (not_both (by kernel_rfl) hanc).elim
              | 1, ho =>
                rw [← Array.getElem?_toList] at ho
                simp only [List.getElem?_cons_zero, List.getElem?_cons_succ, Option.some.injEq] at ho
                subst ho
                have e3 : a.tmps[3]?.getD undef = .pointer (some ⟨g, 0, Option.none⟩) := (eval_tmp a 3).trans (hfr 3 (by decide +kernel))
                clear hfr hv hanc hb
                refine mstep_val (.pointer (some ⟨g, 0, Option.none⟩)) (fun K' hK => ?_) (by exact rfl)
                go_simp
                exact hK
              | 2, ho =>
                rw [← Array.getElem?_toList] at ho
                simp only [List.getElem?_cons_zero, List.getElem?_cons_succ, Option.some.injEq] at ho
                subst ho
                have e115 := (eval_tmp a 115).trans (hv 0 _ rfl rfl _ 115 rfl rfl)
                clear hfr hv hanc hb
                refine mstep_val (.pointer (some ⟨g, 0, Option.none⟩)) (fun K' hK => ?_) (by exact rfl)
                go_simp
                exact hK
              | 3, ho =>
                rw [← Array.getElem?_toList] at ho
                simp only [List.getElem?_cons_zero, List.getElem?_cons_succ, Option.some.injEq] at ho
                subst ho
                have e116 := (eval_tmp a 116).trans (hv 0 _ rfl rfl _ 116 rfl rfl)
                clear hfr hv hanc hb
                refine mstep_val (.pointer (some ⟨g, 15, Option.none⟩)) (fun K' hK => ?_) (by exact rfl)
                go_simp
                exact hK
              | 4, ho =>
                rw [← Array.getElem?_toList] at ho
                simp only [List.getElem?_cons_zero, List.getElem?_cons_succ, Option.some.injEq] at ho
                subst ho
                have e117 := (eval_tmp a 117).trans (hv 0 _ rfl rfl _ 117 rfl rfl)
                have c0 := (HGR.out.step hb).c15
                clear hfr hv hanc hb
                refine mstep_val (.slice A k c) (fun K' hK => ?_) (by exact rfl)
                go_simp
                exact hK
              | 5, ho =>
                rw [← Array.getElem?_toList] at ho
                simp only [List.getElem?_cons_zero, List.getElem?_cons_succ, Option.some.injEq] at ho
                subst ho
                have e10 : a.tmps[10]?.getD undef = .pointer (some ⟨wr.heap.size, 0, Option.none⟩) := (eval_tmp a 10).trans (hfr 10 (by decide +kernel))
                clear hfr hv hanc hb
                refine mstep_val (.pointer (some ⟨wr.heap.size, 0, Option.none⟩)) (fun K' hK => ?_) (by exact rfl)
                go_simp
                exact hK
              | 6, ho =>
                rw [← Array.getElem?_toList] at ho
                simp only [List.getElem?_cons_zero, List.getElem?_cons_succ, Option.some.injEq] at ho
                subst ho
                have e119 := (eval_tmp a 119).trans (hv 0 _ rfl rfl _ 119 rfl rfl)
                have c0 := (blk_cell (heap_below hb HZ16.out) 0).trans rfl
                clear hfr hv hanc hb
                refine mstep_val (.int .u64 x.zon[k].t) (fun K' hK => ?_) (by exact rfl)
                go_simp
                exact hK
              | 7, ho =>
                rw [← Array.getElem?_toList] at ho
                simp only [List.getElem?_cons_zero, List.getElem?_cons_succ, Option.some.injEq] at ho
                subst ho
                have e10 : a.tmps[10]?.getD undef = .pointer (some ⟨wr.heap.size, 0, Option.none⟩) := (eval_tmp a 10).trans (hfr 10 (by decide +kernel))
                clear hfr hv hanc hb
                refine mstep_val (.pointer (some ⟨wr.heap.size, 1, Option.none⟩)) (fun K' hK => ?_) (by exact rfl)
                go_simp
                exact hK
              | 8, ho =>
                rw [← Array.getElem?_toList] at ho
                simp only [List.getElem?_cons_zero, List.getElem?_cons_succ, Option.some.injEq] at ho
                subst ho
                have e121 := (eval_tmp a 121).trans (hv 0 _ rfl rfl _ 121 rfl rfl)
                have c0 := (blk_cell (heap_below hb HZ16.out) 1).trans rfl
                clear hfr hv hanc hb
                refine mstep_val (.int .i64 x.zon[k].o) (fun K' hK => ?_) (by exact rfl)
                go_simp
                exact hK
              | 9, ho =>
                rw [← Array.getElem?_toList] at ho
                simp only [List.getElem?_cons_zero, List.getElem?_cons_succ, Option.some.injEq] at ho
                subst ho
                have e120 := (eval_tmp a 120).trans (hv 0 _ rfl rfl _ 120 rfl rfl)
                have e122 := (eval_tmp a 122).trans (hv 1 _ rfl rfl _ 122 rfl rfl)
                clear hfr hv hanc hb
                refine mstep_val (.agg #[.int .u64 x.zon[k].t, .int .i64 x.zon[k].o]) (fun K' hK => ?_) (by exact rfl)
                go_simp
                exact hK
              | 10, ho =>
                rw [← Array.getElem?_toList] at ho
                simp only [List.getElem?_cons_zero, List.getElem?_cons_succ, Option.some.injEq] at ho
                subst ho
                have e123 := (eval_tmp a 123).trans (hv 0 _ rfl rfl _ 123 rfl rfl)
                refine mstep_gen (fun v w' => v = .slice (some ⟨wx.heap.size, 0, Option.none⟩) 1 1 ∧ w' = wx.alloc (.cells #[.int .u64 x.zon[k].t, .int .i64 x.zon[k].o] 172)) (fun K' hK => ?_) (fun v w' hG => ?_)
                · clear hfr hv hanc
                  clear hb
                  go_simp
                  exact hK _ _ ⟨rfl, rfl⟩
                · obtain ⟨rfl, rfl⟩ := hG
                  exact ⟨⟨_, _, rfl, Nat.zero_le _, heap_alloc_new _ _, anyK_mk rfl rfl⟩, below_alloc1 (Below.refl _ _) _⟩
              | 11, ho => exact (not_both (by kernel_rfl) hanc).elim
              | 12, ho => exact (not_both (by kernel_rfl) hanc).elim
              | 13, ho => exact (not_both (by kernel_rfl) hanc).elim
              | 14, ho => exact (not_both (by kernel_rfl) hanc).elim
              | n + 15, ho => cases ho
            · intro i hi o ho a wx hfr hv
              simp only [List.mem_cons, List.not_mem_nil, or_false] at hi
              rcases hi with rfl | rfl | rfl
              · rw [← Array.getElem?_toList] at ho
                simp only [List.getElem?_cons_zero, Option.some.injEq] at ho
                subst ho
                have e3 : a.tmps[3]?.getD undef = .pointer (some ⟨g, 0, Option.none⟩) := (eval_tmp a 3).trans (hfr 3 (by decide +kernel))
                clear hfr hv
                refine fstep_val (.pointer (some ⟨g, 0, Option.none⟩)) (fun K' hK => ?_) (by exact rfl)
                go_simp
                exact hK
              · rw [← Array.getElem?_toList] at ho
                simp only [List.getElem?_cons_zero, List.getElem?_cons_succ, Option.some.injEq] at ho
                subst ho
                have e114 := (eval_tmp a 114).trans (hv 0 _ rfl rfl _ 114 _ rfl rfl rfl)
                clear hfr hv
                refine fstep_val (.pointer (some ⟨g, 0, Option.none⟩)) (fun K' hK => ?_) (by exact rfl)
                go_simp
                exact hK
              · rw [← Array.getElem?_toList] at ho
                simp only [List.getElem?_cons_zero, List.getElem?_cons_succ, Option.some.injEq] at ho
                subst ho
                have e126 := (eval_tmp a 126).trans (hv 0 _ rfl rfl _ 126 _ rfl rfl rfl)
                clear hfr hv
                refine fstep_val (.pointer (some ⟨g, 15, Option.none⟩)) (fun K' hK => ?_) (by exact rfl)
                go_simp
                exact hK
            · intro o ho a wx hb hfr hv
              rw [← Array.getElem?_toList] at ho
              simp only [List.getElem?_cons_zero, List.getElem?_cons_succ, Option.some.injEq] at ho
              subst ho
              have e118 := (eval_tmp a 118).symm.trans ((eval_tmp a 118).trans (hv 4 _ 118 (by kernel_rfl) rfl rfl))
              obtain ⟨n, cs, e124, _, hn, hcs⟩ := (hv 10 _ 124 (by kernel_rfl) rfl rfl)
              have HO' := HOR.out.step (w' := wx) (fun b _ hlt => hb.block b hlt)
              have HGx := HGR.out.step hb
              have HBx := HBR.out.trans (hb.mono HBR.out.size)
              refine app_step (anyK 2) (B := base) _ rfl _ _ 143 172 _ 16 rfl Tryz.underlying143 info172 rfl (by decide) (by decide) (by decide) (.slice A k c) _ () cs k (by simp) n e118 e124 hn hcs HO' (Nat.le_trans HZR.out hb.size) (fun _ h => h) HLR.out (fun A1 c1 w1 h1 h2 => ⟨A1, c1, rfl, h1, HGx.grown h2 (fun b hb' => by have := (HO'.lt b hb').1; have := hgb.out; omega), HBx.grown h2 HBx.size (fun b hb' => by have := (HO'.lt b hb').1; have := hwb.out; omega), Nat.le_trans HZR.out (Nat.le_trans hb.size h2.size)⟩)
            · intro s o hs ho a wx hfr hv hP
              cases hs
              rw [← Array.getElem?_toList] at ho
              simp only [List.getElem?_cons_zero, List.getElem?_cons_succ, Option.some.injEq] at ho
              subst ho
              obtain ⟨v, hv1, A1, c1, rfl, h1, h2, h3, h4⟩ := hP
              have e125 := (eval_tmp a 125).trans (hv1 _ 125 rfl rfl)
              have H4 := Bx.mk h4
              clear h4
              have e127 := (eval_tmp a 127).trans (hv 0 _ rfl rfl _ 127 _ rfl rfl rfl)
              have hg5 := h2.c15
              have hf5 := h2.frozen 15
              have H1 := Bx.mk h1
              have H2 := Bx.mk h2
              have H3 := Bx.mk h3
              clear hfr hv hv1 h1 h2 h3
              refine sstep_gen (fun K' hK => ?_)
              go_simp
              refine hK undef _ ⟨A1, c1, H1.out.step (fun b hb _ => Below.heap_setCell _ _ _ _ (by have := hgb.out; simp only; omega)), H2.out.set15 _, H3.out.setCell (by have := hwg.out; simp only; omega) _, by simpa [World.setCell] using H4.out⟩
            · intro fz wx hTf hP hF _
              obtain ⟨A1, c1, h1, h2, h3, h4⟩ := hF ⟨14, rfl, by decide⟩
              have HZB := Bx.mk h4
              clear h4
              have H1 := Bx.mk h1
              have H2 := Bx.mk h2
              have H3 := Bx.mk h3
              clear hTf hP hF h1 h2 h3
              dsimp only
              go_wp2
              go_roundw
              case rel => first | exact ⟨k + 1, A1, c1, by omega, by go_num, H2, ⟨by rw [List.replicate_succ']; exact H1.out⟩, H3, HZB⟩ | ((repeat apply Exists.intro); exact ⟨⟨k + 1, A1, c1, by omega, by go_num, H2, ⟨by rw [List.replicate_succ']; exact H1.out⟩, H3, HZB⟩, rfl⟩)
              case measure => simp [intOf]; omega
          · obtain rfl : k = x.zon.length := by omega
            obtain ⟨Az, cz, hAz⟩ : ∃ Az cz, Az = A ∧ cz = c := ⟨A, c, rfl, rfl⟩
            obtain ⟨rfl, rfl⟩ := hAz
            have hc18 := cell_below hB.out (HB.out 18 _ rfl)
            clear hO
            go_wp2
            go_loopw [132] (fun i wr => ∃ (k : Nat) (A : Option Addr) (c : Nat), k ≤ x.med.length ∧ i = .int .i64 k ∧ Bx (OutBlk wr g (.slice At x.tim.length ct) (.slice Az x.zon.length cz) (.slice A k c)) ∧ Bx (kMB.Own 173 wr base (fun b => base ≤ b) (.slice A k c) (x.med.take k)) ∧ Bx (Below wb.heap.size wb wr) ∧ Bx (base ≤ wr.heap.size)) (fun i _ => x.med.length - (intOf i).toNat)
            case atStart => exact ⟨0, Option.none, 0, Nat.zero_le _, rfl, hG, ⟨Own.nil _ _ _ _ _⟩, hB, hZ⟩
            case round =>
              clear hG hB hZ
              obtain ⟨k, A, c, hk, rfl, hG, hO, hB, hZ⟩ := hrel
              by_cases hlt : k < x.med.length
              · obtain ⟨ad, Av2, cv2, Av3, cv3, Av4, cv4, Av5, cv5, Av6, cv6, Av7, cv7, Av8, cv8, Av9, cv9, rfl, m0, m1, m2, m3, m4, m5, m6, m7, m8, m9, s2, s3, s4, s5, s6, s7, s8, s9⟩ := med_get HR11.out k hlt
                replace m0 := cell_below hB.out m0
                replace m1 := cell_below hB.out m1
                replace m2 := cell_below hB.out m2
                replace m3 := cell_below hB.out m3
                replace m4 := cell_below hB.out m4
                replace m5 := cell_below hB.out m5
                replace m6 := cell_below hB.out m6
                replace m7 := cell_below hB.out m7
                replace m8 := cell_below hB.out m8
                replace m9 := cell_below hB.out m9
                have hBd : Below wr.heap.size wr (wr.alloc (.cells #[.string x.med[k].name, .int .i64 x.med[k].port, .slice Av2 x.med[k].ports.length cv2, .slice Av3 x.med[k].protos.length cv3, .slice Av4 x.med[k].formats.length cv4, .slice Av5 x.med[k].title.length cv5, .slice Av6 x.med[k].con.length cv6, .slice Av7 x.med[k].bw.length cv7, .slice Av8 x.med[k].key.length cv8, .slice Av9 x.med[k].atts.length cv9] 54)).drew := Below.drew (below_alloc1 (Below.refl _ _) _)
                have HGR := Bx.mk (hG.out.step hBd)
                have HOR := Bx.mk (hO.out.step (fun b _ hlt => hBd.block b hlt))
                have HOR0 := Bx.mk hO.out
                have HBR := Bx.mk (below_trans hB.out hBd)
                have HZR := Bx.mk (Nat.le_trans hZ.out hBd.size)
                have HZ21 := Bx.mk hBd.size
                have HBZ := Bx.mk hZ.out
                have HK21 := Bx.mk (K_step (K_step (kMed_mk x.med[k] s2 s3 s4 s5 s6 s7 s8 s9) hB.out) hBd)
                have HF21 := Bx.mk (HFM.out.2 _ (List.getElem_mem hlt))
                have HM21 : Bx ((wr.alloc (.cells #[.string x.med[k].name, .int .i64 x.med[k].port, .slice Av2 x.med[k].ports.length cv2, .slice Av3 x.med[k].protos.length cv3, .slice Av4 x.med[k].formats.length cv4, .slice Av5 x.med[k].title.length cv5, .slice Av6 x.med[k].con.length cv6, .slice Av7 x.med[k].bw.length cv7, .slice Av8 x.med[k].key.length cv8, .slice Av9 x.med[k].atts.length cv9] 54)).drew.heap[wr.heap.size]? = some (.cells #[.string x.med[k].name, .int .i64 x.med[k].port, .slice Av2 x.med[k].ports.length cv2, .slice Av3 x.med[k].protos.length cv3, .slice Av4 x.med[k].formats.length cv4, .slice Av5 x.med[k].title.length cv5, .slice Av6 x.med[k].con.length cv6, .slice Av7 x.med[k].bw.length cv7, .slice Av8 x.med[k].key.length cv8, .slice Av9 x.med[k].atts.length cv9] 54 (0, 0))) := ⟨heap_alloc_new wr _⟩
                have HLR : Bx (k + 1 ≤ 2147483648) := ⟨by have := HFM.out.1; omega⟩
                clear hBd hG hO hB s2 s3 s4 s5 s6 s7 s8 s9
                go_upto_region 21 with fail
                refine region_app (by kernel_rfl) (by kernel_rfl) (by kernel_rfl) (by kernel_rfl) (fun fz => #[Value.agg #[Value.int IntKind.i64 x.ver, Value.string x.user, Value.int IntKind.u64 x.id, Value.int IntKind.u64 x.ver2, Value.string x.net, Value.string x.addr, Value.string x.address, Value.string x.name, Value.slice Y1 x.info.length y1, Value.slice Y2 x.uri.length y2, Value.slice Y3 x.email.length y3, Value.slice Y4 x.phone.length y4, Value.slice Y5 x.con.length y5, Value.slice Y6 x.bw.length y6, Value.slice Y7 x.tim.length y7, Value.slice Y8 x.zon.length y8, Value.slice Y9 x.key.length y9, Value.slice Y10 x.atts.length y10, Value.slice (some ad) x.med.length y11], Value.pointer (some { block := w.heap.size, off := 0 }), Value.pointer Option.none, Value.pointer (some { block := g, off := 0 }), undef, u5, u6, undef, u8, undef, u10, undef, Value.pointer (some { block := wr.heap.size, off := 0 }), f 13, f 14, f 15, f 16, f 17, f 18, f 19, f 20, f 21, f 22, f 23, f 24, f 25, f 26, f 27, f 28, f 29, f 30, f 31, f 32, f 33, f 34, f 35, f 36, f 37, f 38, f 39, f 40, f 41, f 42, f 43, f 44, f 45, f 46, f 47, f 48, f 49, f 50, f 51, f 52, f 53, f 54, f 55, f 56, f 57, f 58, f 59, f 60, f 61, Value.pointer (some { block := w.heap.size, off := 14 }), Value.slice Y7 x.tim.length y7, Value.int IntKind.i64 ↑x.tim.length, Value.int IntKind.i64 ↑x.tim.length, Value.bool false, u67, u68, u69, u70, u71, u72, u73, u74, u75, u76, u77, u78, u79, u80, u81, u82, u83, u84, u85, u86, u87, u88, u89, u90, u91, u92, u93, u94, u95, u96, u97, u98, u99, u100, u101, u102, u103, u104, u105, u106, Value.pointer (some { block := w.heap.size, off := 15 }), Value.slice Y8 x.zon.length y8, Value.int IntKind.i64 ↑x.zon.length, Value.int IntKind.i64 ↑x.zon.length, Value.bool false, u112, u113, u114, u115, u116, u117, u118, u119, u120, u121, u122, u123, u124, u125, u126, u127, u128, Value.pointer (some { block := w.heap.size, off := 18 }), Value.slice (some ad) x.med.length y11, Value.int IntKind.i64 ↑x.med.length, Value.int IntKind.i64 ↑k, Value.bool true, Value.pointer (some (ad.add (k * 10))), Value.agg #[Value.string x.med[k].name, Value.int IntKind.i64 x.med[k].port, Value.slice Av2 x.med[k].ports.length cv2, Value.slice Av3 x.med[k].protos.length cv3, Value.slice Av4 x.med[k].formats.length cv4, Value.slice Av5 x.med[k].title.length cv5, Value.slice Av6 x.med[k].con.length cv6, Value.slice Av7 x.med[k].bw.length cv7, Value.slice Av8 x.med[k].key.length cv8, Value.slice Av9 x.med[k].atts.length cv9], fz 136, fz 137, fz 138, fz 139, fz 140, fz 141, fz 142, fz 143, fz 144, fz 145, fz 146, u147, undef]) (fun f => by kernel_rfl) 8 (some 11) (by kernel_rfl) ⟨by kernel_rfl, by simp, fun s hs => by cases hs; exact ⟨by kernel_rfl, by kernel_rfl⟩⟩ (fun i => match i with | 1 => Mono.is (.pointer (some ⟨g, 0, Option.none⟩)) | 2 => Mono.is (.pointer (some ⟨g, 0, Option.none⟩)) | 3 => Mono.is (.pointer (some ⟨g, 18, Option.none⟩)) | 4 => Mono.is (.slice A k c) | 5 => Mono.is (.agg #[.string x.med[k].name, .int .i64 x.med[k].port, .slice Av2 x.med[k].ports.length cv2, .slice Av3 x.med[k].protos.length cv3, .slice Av4 x.med[k].formats.length cv4, .slice Av5 x.med[k].title.length cv5, .slice Av6 x.med[k].con.length cv6, .slice Av7 x.med[k].bw.length cv7, .slice Av8 x.med[k].key.length cv8, .slice Av9 x.med[k].atts.length cv9]) | 6 => ⟨fun v w' => ∃ b, v = .pointer (some ⟨b, 0, Option.none⟩) ∧ wr.heap.size ≤ b ∧ MedBlk (fun b => wr.heap.size ≤ b) w' b x.med[k].atts, fun ⟨g, h1, h2, h3⟩ hb => ⟨g, h1, h2, h3.step hb⟩⟩ | 7 => Mono.box1 173 0 (fun cs w' => kMB.K (fun b => wr.heap.size ≤ b) w' x.med[k] cs) (fun h hb => K_step h hb) | _ => Mono.is undef) [0, 9, 10] (fun i => match i with | 0 => some (.pointer (some ⟨g, 0, Option.none⟩)) | 9 => some (.pointer (some ⟨g, 0, Option.none⟩)) | 10 => some (.pointer (some ⟨g, 18, Option.none⟩)) | _ => Option.none) (by kernel_rfl) (by kernel_rfl) (fun v w' => ∃ A' c', v = .slice A' (k + 1) c' ∧ kMB.Own 173 w' base (fun b => base ≤ b) (.slice A' (k + 1) c') (x.med.take k ++ [x.med[k]]) ∧ OutBlk w' g (.slice At x.tim.length ct) (.slice Az x.zon.length cz) (.slice A k c) ∧ Below wb.heap.size wb w' ∧ base ≤ w'.heap.size) (fun w' => ∃ A' c', kMB.Own 173 w' base (fun b => base ≤ b) (.slice A' (k + 1) c') (x.med.take k ++ [x.med[k]]) ∧ OutBlk w' g (.slice At x.tim.length ct) (.slice Az x.zon.length cz) (.slice A' (k + 1) c') ∧ Below wb.heap.size wb w' ∧ base ≤ w'.heap.size) ?_ ?_ ?_ ?_ ?_ (by decide)
                · intro i o ho hanc a wx hb hfr hv
                  match i, ho with
                  | 0, ho => exact (not_both (by kernel_rfl) hanc).elim
                  | 1, ho =>
                    rw [← Array.getElem?_toList] at ho
                    simp only [List.getElem?_cons_zero, List.getElem?_cons_succ, Option.some.injEq] at ho
                    subst ho
                    have e3 : a.tmps[3]?.getD undef = .pointer (some ⟨g, 0, Option.none⟩) := (eval_tmp a 3).trans (hfr 3 (by decide +kernel))
                    clear hfr hv hanc hb
                    refine mstep_val (.pointer (some ⟨g, 0, Option.none⟩)) (fun K' hK => ?_) (by exact rfl)
                    go_simp
                    exact hK
                  | 2, ho =>
                    rw [← Array.getElem?_toList] at ho
                    simp only [List.getElem?_cons_zero, List.getElem?_cons_succ, Option.some.injEq] at ho
                    subst ho
                    have e137 := (eval_tmp a 137).trans (hv 0 _ rfl rfl _ 137 rfl rfl)
                    clear hfr hv hanc hb
                    refine mstep_val (.pointer (some ⟨g, 0, Option.none⟩)) (fun K' hK => ?_) (by exact rfl)
                    go_simp
                    exact hK
                  | 3, ho =>
                    rw [← Array.getElem?_toList] at ho
                    simp only [List.getElem?_cons_zero, List.getElem?_cons_succ, Option.some.injEq] at ho
                    subst ho
                    have e138 := (eval_tmp a 138).trans (hv 0 _ rfl rfl _ 138 rfl rfl)
                    clear hfr hv hanc hb
                    refine mstep_val (.pointer (some ⟨g, 18, Option.none⟩)) (fun K' hK => ?_) (by exact rfl)
                    go_simp
                    exact hK
                  | 4, ho =>
                    rw [← Array.getElem?_toList] at ho
                    simp only [List.getElem?_cons_zero, List.getElem?_cons_succ, Option.some.injEq] at ho
                    subst ho
                    have e139 := (eval_tmp a 139).trans (hv 0 _ rfl rfl _ 139 rfl rfl)
                    have c0 := (HGR.out.step hb).c18
                    clear hfr hv hanc hb
                    refine mstep_val (.slice A k c) (fun K' hK => ?_) (by exact rfl)
                    go_simp
                    exact hK
                  | 5, ho =>
                    rw [← Array.getElem?_toList] at ho
                    simp only [List.getElem?_cons_zero, List.getElem?_cons_succ, Option.some.injEq] at ho
                    subst ho
                    have e12 : a.tmps[12]?.getD undef = .pointer (some ⟨wr.heap.size, 0, Option.none⟩) := (eval_tmp a 12).trans (hfr 12 (by decide +kernel))
                    have hD := heap_below hb HM21.out
                    have q0 := (blk_cell hD 0).trans rfl
                    have q1 := (blk_cell hD 1).trans rfl
                    have q2 := (blk_cell hD 2).trans rfl
                    have q3 := (blk_cell hD 3).trans rfl
                    have q4 := (blk_cell hD 4).trans rfl
                    have q5 := (blk_cell hD 5).trans rfl
                    have q6 := (blk_cell hD 6).trans rfl
                    have q7 := (blk_cell hD 7).trans rfl
                    have q8 := (blk_cell hD 8).trans rfl
                    have q9 := (blk_cell hD 9).trans rfl
                    clear hfr hv hanc hb hD
                    refine mstep_val (.agg #[.string x.med[k].name, .int .i64 x.med[k].port, .slice Av2 x.med[k].ports.length cv2, .slice Av3 x.med[k].protos.length cv3, .slice Av4 x.med[k].formats.length cv4, .slice Av5 x.med[k].title.length cv5, .slice Av6 x.med[k].con.length cv6, .slice Av7 x.med[k].bw.length cv7, .slice Av8 x.med[k].key.length cv8, .slice Av9 x.med[k].atts.length cv9]) (fun K' hK => ?_) (by exact rfl)
                    go_simp
                    exact hK
                  | 6, ho =>
                    rw [← Array.getElem?_toList] at ho
                    simp only [List.getElem?_cons_zero, List.getElem?_cons_succ, Option.some.injEq] at ho
                    subst ho
                    have e141 := (eval_tmp a 141).trans (hv 0 _ rfl rfl _ 141 rfl rfl)
                    refine mstep_gen (fun v w' => Below wx.heap.size wx w' ∧ ∃ b, v = .pointer (some ⟨b, 0, Option.none⟩) ∧ wr.heap.size ≤ b ∧ MedBlk (fun b => wr.heap.size ≤ b) w' b x.med[k].atts) (fun K' hK => ?_) (fun v w' hG => ?_)
                    · clear hfr hv hanc
                      have hK' := Bx.mk hK
                      have HY := Bx.mk (K_step HK21.out hb)
                      have HL := Bx.mk (Nat.le_trans HZ21.out hb.size)
                      clear hK hb
                      go_simp
                      refine (imedia x.med[k] _ F _ HY.out HF21.out).mono ?_
                      rintro e w2 ⟨hb, b, rfl, h1, h2⟩
                      exact hK'.out _ _ ⟨hb, b, rfl, Nat.le_trans HL.out h1, h2.mono fun _ h => Nat.le_trans HL.out h⟩
                    · exact ⟨hG.2, hG.1⟩
                  | 7, ho =>
                    rw [← Array.getElem?_toList] at ho
                    simp only [List.getElem?_cons_zero, List.getElem?_cons_succ, Option.some.injEq] at ho
                    subst ho
                    obtain ⟨b, e142, h1, h2⟩ := (hv 0 _ rfl rfl _ 142 rfl rfl)
                    replace e142 := (eval_tmp a 142).trans e142
                    refine mstep_gen (fun v w' => v = .slice (some ⟨wx.heap.size, 0, Option.none⟩) 1 1 ∧ w' = wx.alloc (.cells #[.pointer (some ⟨b, 0, Option.none⟩)] 173)) (fun K' hK => ?_) (fun v w' hG => ?_)
                    · clear hfr hv hanc
                      clear hb h2
                      go_simp
                      exact hK _ _ ⟨rfl, rfl⟩
                    · obtain ⟨rfl, rfl⟩ := hG
                      exact ⟨⟨_, [.pointer (some ⟨b, 0, Option.none⟩)], rfl, Nat.zero_le _, heap_alloc_new _ _, b, rfl, h1, h2.step (below_alloc1 (Below.refl _ _) _)⟩, below_alloc1 (Below.refl _ _) _⟩
                  | 8, ho => exact (not_both (by kernel_rfl) hanc).elim
                  | 9, ho => exact (not_both (by kernel_rfl) hanc).elim
                  | 10, ho => exact (not_both (by kernel_rfl) hanc).elim
                  | 11, ho => exact (not_both (by kernel_rfl) hanc).elim
                  | n + 12, ho => cases ho
                · intro i hi o ho a wx hfr hv
                  simp only [List.mem_cons, List.not_mem_nil, or_false] at hi
                  rcases hi with rfl | rfl | rfl
                  · rw [← Array.getElem?_toList] at ho
                    simp only [List.getElem?_cons_zero, Option.some.injEq] at ho
                    subst ho
                    have e3 : a.tmps[3]?.getD undef = .pointer (some ⟨g, 0, Option.none⟩) := (eval_tmp a 3).trans (hfr 3 (by decide +kernel))
                    clear hfr hv
                    refine fstep_val (.pointer (some ⟨g, 0, Option.none⟩)) (fun K' hK => ?_) (by exact rfl)
                    go_simp
                    exact hK
                  · rw [← Array.getElem?_toList] at ho
                    simp only [List.getElem?_cons_zero, List.getElem?_cons_succ, Option.some.injEq] at ho
                    subst ho
                    have e136 := (eval_tmp a 136).trans (hv 0 _ rfl rfl _ 136 _ rfl rfl rfl)
                    clear hfr hv
                    refine fstep_val (.pointer (some ⟨g, 0, Option.none⟩)) (fun K' hK => ?_) (by exact rfl)
                    go_simp
                    exact hK
                  · rw [← Array.getElem?_toList] at ho
                    simp only [List.getElem?_cons_zero, List.getElem?_cons_succ, Option.some.injEq] at ho
                    subst ho
                    have e145 := (eval_tmp a 145).trans (hv 0 _ rfl rfl _ 145 _ rfl rfl rfl)
                    clear hfr hv
                    refine fstep_val (.pointer (some ⟨g, 18, Option.none⟩)) (fun K' hK => ?_) (by exact rfl)
                    go_simp
                    exact hK
                · intro o ho a wx hb hfr hv
                  rw [← Array.getElem?_toList] at ho
                  simp only [List.getElem?_cons_zero, List.getElem?_cons_succ, Option.some.injEq] at ho
                  subst ho
                  have e140 := (eval_tmp a 140).symm.trans ((eval_tmp a 140).trans (hv 4 _ 140 (by kernel_rfl) rfl rfl))
                  obtain ⟨n, cs, e143, _, hn, hcs⟩ := (hv 7 _ 143 (by kernel_rfl) rfl rfl)
                  have HO' := HOR.out.step (w' := wx) (fun b _ hlt => hb.block b hlt)
                  have HGx := HGR.out.step hb
                  have HBx := HBR.out.trans (hb.mono HBR.out.size)
                  refine app_step kMB (B := base) _ rfl _ _ 146 173 _ 8 rfl Tryz.underlying146 info173 rfl (by decide) (by decide) (by decide) (.slice A k c) _ x.med[k] cs k (List.length_take_of_le hk) n e140 e143 hn (kMB.mono (fun b hb' => ⟨Nat.le_trans HBZ.out hb', fun e => by have h1 := (HOR0.out.lt b e.symm).2; omega⟩) hcs) HO' (Nat.le_trans HZR.out hb.size) (fun _ h => h) HLR.out (fun A1 c1 w1 h1 h2 => ⟨A1, c1, rfl, h1, HGx.grown h2 (fun b hb' => by have := (HO'.lt b hb').1; have := hgb.out; omega), HBx.grown h2 HBx.size (fun b hb' => by have := (HO'.lt b hb').1; have := hwb.out; omega), Nat.le_trans HZR.out (Nat.le_trans hb.size h2.size)⟩)
                · intro s o hs ho a wx hfr hv hP
                  cases hs
                  rw [← Array.getElem?_toList] at ho
                  simp only [List.getElem?_cons_zero, List.getElem?_cons_succ, Option.some.injEq] at ho
                  subst ho
                  obtain ⟨v, hv1, A1, c1, rfl, h1, h2, h3, h4⟩ := hP
                  have e144 := (eval_tmp a 144).trans (hv1 _ 144 rfl rfl)
                  have H4 := Bx.mk h4
                  clear h4
                  have e146 := (eval_tmp a 146).trans (hv 0 _ rfl rfl _ 146 _ rfl rfl rfl)
                  have hg5 := h2.c18
                  have hf5 := h2.frozen 18
                  have H1 := Bx.mk h1
                  have H2 := Bx.mk h2
                  have H3 := Bx.mk h3
                  clear hfr hv hv1 h1 h2 h3
                  refine sstep_gen (fun K' hK => ?_)
                  go_simp
                  refine hK undef _ ⟨A1, c1, H1.out.step (fun b hb _ => Below.heap_setCell _ _ _ _ (by have := hgb.out; simp only; omega)), H2.out.set18 _, H3.out.setCell (by have := hwg.out; simp only; omega) _, by simpa [World.setCell] using H4.out⟩
                · intro fz wx hTf hP hF _
                  obtain ⟨A1, c1, h1, h2, h3, h4⟩ := hF ⟨11, rfl, by decide⟩
                  have HZB := Bx.mk h4
                  clear h4
                  have H1 := Bx.mk h1
                  have H2 := Bx.mk h2
                  have H3 := Bx.mk h3
                  clear hTf hP hF h1 h2 h3
                  dsimp only
                  go_wp2
                  go_roundw
                  case rel => first | exact ⟨k + 1, A1, c1, by omega, by go_num, H2, ⟨by rw [← take_snoc x.med k hlt]; exact H1.out⟩, H3, HZB⟩ | ((repeat apply Exists.intro); exact ⟨⟨k + 1, A1, c1, by omega, by go_num, H2, ⟨by rw [← take_snoc x.med k hlt]; exact H1.out⟩, H3, HZB⟩, rfl⟩)
                  case measure => simp [intOf]; omega
              · obtain rfl : k = x.med.length := by omega
                have HX := hO.out
                rw [List.take_length] at HX
                go_wp2
                go_ret
                obtain ⟨cs, h1, h2, h3, h4⟩ := hG.out
                exact ⟨below_trans HW.out hB.out, g, rfl, Nat.le_trans HW.out.size hwg.out, cs, h1, A, c, h4, HX.reads.mono fun _ h => Nat.le_trans (Nat.le_trans HW.out.size hwb.out) h⟩
end Go.Proofs.YtimonhimfioohaaGreatDoor
