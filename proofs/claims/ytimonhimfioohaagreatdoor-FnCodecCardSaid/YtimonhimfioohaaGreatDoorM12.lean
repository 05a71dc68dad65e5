/- Lemmas on which the proof of Rows.FnCodecCardSaid rests: no statement of the seat is proved in this file. Conditions: each lemma's own hypotheses, no others. -/
import Derived.Test.YtimonhimfioohaaGreatDoorM02
import Derived.Test.YtimonhimfioohaaGreatDoorM11
import Derived.Test.YtimonhimfioohaaGreatDoorM10
/-! spec.connections, media, Proper, Codecs. -/
namespace Go.Proofs.YtimonhimfioohaaGreatDoor
open Go Go.RowKit Go.PlainAid Kn
theorem info3 : (Tryz.prog.info? 3).map (fun i => (i.zero, i.size, i.bytes)) = some (some (.int .i64 0), 1, 8) := by kernel_rfl
set_option maxRecDepth 10000 in
set_option maxHeartbeats 1600000 in
theorem scons (v : Value) (l : List Con) (F : Nat → Prop) (w : World) (hv : kCon.SV F w v l) (hf : fCons l) : Calls Tryz.prog 31 #[v] w (RG True w) := by
  obtain ⟨A, c, rfl, hl, hr⟩ := hv
  have hm := hr.1
  match l, hf with
  | [], _ =>
    go_enter Tryz.func31, Tryz.ntmps31
    go_wp2
    go_ret
    exact ⟨Below.refl _ _, _, rfl, fun _ => trivial⟩
  | x :: y :: l, _ =>
    obtain ⟨ad, Av, cv, rfl, hc0, hc1, hc2, hx⟩ := con_get hr 0 (by simp)
    have h0 : ad.add (0 * 3) = ad := by simp [Addr.add]
    rw [h0] at hc0 hc1 hc2
    clear hr hx
    go_enter Tryz.func31, Tryz.ntmps31
    go_wp2
    go_ret
    exact ⟨below_alloc1 (Below.refl _ _) _, _, rfl, fun _ => trivial⟩
  | [⟨net, addr, adr⟩], hf =>
    obtain ⟨ad, Av, cv, rfl, hc0, hc1, hc2, hx⟩ := con_get hr 0 (by simp)
    have h0 : ad.add (0 * 3) = ad := by simp [Addr.add]
    rw [h0] at hc0 hc1 hc2
    simp only [List.getElem_cons_zero] at hc0 hc1 hc2 hx
    have HF := Bx.mk (hf.2 _ (List.mem_singleton.2 rfl))
    have HX := Bx.mk hx
    clear hr hx hf
    rcases adr with _ | ⟨⟨a, ttl, rng⟩, _ | ⟨b, t⟩⟩
    case nil =>
      go_enter Tryz.func31, Tryz.ntmps31
      go_wp2_with (go_at_call 27; refine (is_any addr _ [⟨#[73, 80, 52]⟩, ⟨#[73, 80, 54]⟩] _ _ _ _ (by simp) rfl rfl (by decide)).mono ?_; rintro e w' ⟨rfl, b, rfl, hf⟩; clear hf; cases b)
      all_goals (go_ret; exact ⟨by first | exact below_alloc1 (Below.refl _ _) _ | exact below_alloc2 (Below.refl _ _) _ _, _, rfl, fun _ => trivial⟩)
    case cons.nil =>
      obtain ⟨A2, c2, he, hl2, hr2⟩ := HX.out
      simp only [Value.slice.injEq, true_and] at he
      obtain ⟨rfl, rfl⟩ := he
      obtain ⟨ad2, A3, c3, A4, c4, rfl, hd0, hd1, hd2, hs1, hs2⟩ := adr_get hr2 0 (by simp)
      have h0 : ad2.add (0 * 3) = ad2 := by simp [Addr.add]
      rw [h0] at hd0 hd1 hd2
      simp only [List.getElem_cons_zero] at hd0 hd1 hd2 hs1 hs2
      have HS1 := Bx.mk hs1
      have HS2 := Bx.mk hs2
      clear hr2 hs1 hs2
      have HZ : Bx (fAdr ⟨a, ttl, rng⟩) := ⟨HF.out.2.2.2 _ (List.mem_singleton.2 rfl)⟩
      have hz1 := HZ.out.2.1
      have hz2 := HZ.out.2.2
      simp only at hz1 hz2
      have hB2 := below_alloc2 (Below.refl w.heap.size w) (.cells #[.string net, .string addr, .slice (some ad2) 1 cv] 127) (.cells #[.string ⟨#[73, 80, 52]⟩, .string ⟨#[73, 80, 54]⟩] 9)
      have hd0' := cell_below hB2 hd0
      have hd1' := cell_below hB2 hd1
      have hd2' := cell_below hB2 hd2
      go_enter Tryz.func31, Tryz.ntmps31
      go_upto_region 4 with fail
      go_cut [2, 59] (fun s2 s59 wx => ∃ b : Bool, s59 = .bool b ∧ (b = false → ttl.length ≤ 1 ∧ rng.length ≤ 1) ∧ Bx (Below w.heap.size w wx) ∧ Bx (wx.heap[w.heap.size]? = some (.cells #[.string net, .string addr, .slice (some ad2) 1 cv] 127 (0, 0))))
      case first =>
        go_wp2_with (first
          | (go_at_call 27; refine (is_any addr _ [⟨#[73, 80, 52]⟩, ⟨#[73, 80, 54]⟩] _ _ _ _ (by simp) rfl rfl (by decide)).mono ?_; rintro e w' ⟨rfl, b, rfl, hf⟩; clear hf; cases b)
          | (go_at_call 8; refine (word_calls a _ HZ.out.1).mono ?_; rintro e w' ⟨rfl, b, rfl, hf⟩; clear hf; cases b))
        all_goals (go_meet; case rel => exact ⟨_, rfl, by (intro h; (try simp at h); (try omega)), ⟨by first | exact below_alloc1 (Below.refl _ _) _ | exact below_alloc2 (Below.refl _ _) _ _⟩, ⟨by first | exact heap_alloc_new w _ | exact blk_alloc (heap_alloc_new w _) _⟩⟩)
      case rest =>
        obtain ⟨b, rfl, hz, HB, HG⟩ := hcut
        cases b
        case true =>
          go_wp2
          go_ret
          exact ⟨HB.out, _, rfl, fun _ => trivial⟩
        obtain ⟨hz3, hz4⟩ := hz rfl
        go_upto_region 6 with fail
        obtain ⟨tr, htr⟩ : ∃ tr : List Int, tr = ttl ++ rng := ⟨_, rfl⟩
        have HTR := Bx.mk htr
        clear htr
        refine region_rule2 (by kernel_rfl) (by kernel_rfl) (by kernel_rfl) (fun f => #[.slice (some ad) 1 c, undef, u2, .pointer (some ⟨w.heap.size, 0, Option.none⟩), undef, undef, u6, u7, u8, u9, u10, u11, u12, u13, u14, u15, u16, u17, u18, u19, u20, u21, u22, u23, u24, u25, u26, u27, u28, u29, u30, u31, u32, u33, u34, u35, u36, u37, u38, u39, u40, u41, u42, u43, u44, u45, u46, u47, u48, u49, u50, u51, u52, u53, u54, u55, u56, u57, u58, .bool false, f 60, f 61, f 62, f 63, f 64, f 65, f 66, f 67, f 68, f 69, f 70, f 71, f 72, f 73, f 74, u75, u76, u77, u78, u79, u80, u81, u82, u83, u84]) (fun f => by kernel_rfl) (fun i => match i with | 1 => some (.pointer (some ⟨w.heap.size, 2, Option.none⟩)) | 2 => some (.slice (some ad2) 1 cv) | 3 => some (.pointer (some ad2)) | 4 => some (.pointer (some ⟨ad2.block, ad2.off + 1, Option.none⟩)) | 5 => some (.slice A3 ttl.length c3) | 7 => some (.pointer (some ⟨w.heap.size, 2, Option.none⟩)) | 8 => some (.slice (some ad2) 1 cv) | 9 => some (.pointer (some ad2)) | 10 => some (.pointer (some ⟨ad2.block, ad2.off + 2, Option.none⟩)) | 11 => some (.slice A4 rng.length c4) | 14 => some (.int .i64 0) | 13 => some (.int .i64 tr.length) | _ => Option.none) (fun d f w' => Below wc.heap.size wc w' ∧ (d 0 = true → d 6 = false → kI.Own 3 w' wc.heap.size (fun b => wc.heap.size ≤ b) (f 60) []) ∧ (d 6 = true → d 12 = false → kI.Own 3 w' wc.heap.size (fun b => wc.heap.size ≤ b) (f 66) ttl) ∧ (d 12 = true → kI.Own 3 w' wc.heap.size (fun b => wc.heap.size ≤ b) (f 72) tr)) ?_ ?_ ?_
        · exact ⟨Below.drew (Below.refl _ _), fun h => (by cases h), fun h => (by cases h), fun h => (by cases h)⟩
        · intro i o ho d a wx hdi hdep hcl hfr hT hSp
          match i, ho with
            | 0, ho =>
              rw [← Array.getElem?_toList] at ho
              simp only [List.getElem?_cons_zero, Option.some.injEq] at ho
              subst ho
              have h6 : d 6 = false := not_yet hcl hdi (j := 6) (p := 0) rfl rfl rfl rfl
              have h12 : d 12 = false := not_yet hcl h6 (j := 12) (p := 0) rfl rfl rfl rfl
              clear hdep hfr hT hcl
              refine op_gen rfl rfl (fun v w' => v = .slice (some ⟨wx.heap.size, 0, Option.none⟩) 0 0 ∧ w' = wx.alloc (.cells #[] 3)) (fun K' hK => ?_) (fun v w' hG => ⟨_, rfl, fun u hu => (by cases hu), ?_⟩)
              · clear hSp h6 h12
                go_simp
                exact hK _ _ ⟨rfl, rfl⟩
              · obtain ⟨rfl, rfl⟩ := hG
                refine ⟨below_alloc1 hSp.1 _, fun _ _ => Own.empty kI 3 wx _ _ hSp.1.size hSp.1.size, fun h => ?_, fun h => ?_⟩
                · simp [h6] at h
                · simp [h12] at h
            | 1, ho =>
              rw [← Array.getElem?_toList] at ho
              simp only [List.getElem?_cons_zero, List.getElem?_cons_succ, Option.some.injEq] at ho
              subst ho
              have e3 : a.tmps[3]?.getD undef = .pointer (some ⟨w.heap.size, 0, Option.none⟩) := (eval_tmp a 3).trans (hfr 3 (by decide +kernel))
              clear hdi hdep hfr hT hcl
              refine op_val rfl rfl (.pointer (some ⟨w.heap.size, 2, Option.none⟩)) (fun K' hK => ?_) ⟨_, rfl, fun u hu => by cases hu; rfl, hSp⟩
              clear hSp
              go_simp
              exact hK
            | 2, ho =>
              rw [← Array.getElem?_toList] at ho
              simp only [List.getElem?_cons_zero, List.getElem?_cons_succ, Option.some.injEq] at ho
              subst ho
              have e61 := (eval_tmp a 61).trans (hT 1 _ 61 _ rfl rfl rfl (hdep _ (Array.mem_of_getElem? (i := 0) rfl) rfl))
              have c0 : wx.cell? ⟨w.heap.size, 2, Option.none⟩ = some (.slice (some ad2) 1 cv) := cell_below hSp.1 ((blk_cell HG.out 2).trans rfl)
              clear hdi hdep hfr hT hcl
              refine op_val rfl rfl (.slice (some ad2) 1 cv) (fun K' hK => ?_) ⟨_, rfl, fun u hu => by cases hu; rfl, hSp⟩
              clear hSp
              go_simp
              exact hK
            | 3, ho =>
              rw [← Array.getElem?_toList] at ho
              simp only [List.getElem?_cons_zero, List.getElem?_cons_succ, Option.some.injEq] at ho
              subst ho
              have e62 := (eval_tmp a 62).trans (hT 2 _ 62 _ rfl rfl rfl (hdep _ (Array.mem_of_getElem? (i := 0) rfl) rfl))
              clear hdi hdep hfr hT hcl
              refine op_val rfl rfl (.pointer (some ad2)) (fun K' hK => ?_) ⟨_, rfl, fun u hu => by cases hu; rfl, hSp⟩
              clear hSp
              go_simp
              exact hK
            | 4, ho =>
              rw [← Array.getElem?_toList] at ho
              simp only [List.getElem?_cons_zero, List.getElem?_cons_succ, Option.some.injEq] at ho
              subst ho
              have e63 := (eval_tmp a 63).trans (hT 3 _ 63 _ rfl rfl rfl (hdep _ (Array.mem_of_getElem? (i := 0) rfl) rfl))
              clear hdi hdep hfr hT hcl
              refine op_val rfl rfl (.pointer (some ⟨ad2.block, ad2.off + 1, Option.none⟩)) (fun K' hK => ?_) ⟨_, rfl, fun u hu => by cases hu; rfl, hSp⟩
              clear hSp
              go_simp
              exact hK
            | 5, ho =>
              rw [← Array.getElem?_toList] at ho
              simp only [List.getElem?_cons_zero, List.getElem?_cons_succ, Option.some.injEq] at ho
              subst ho
              have e64 := (eval_tmp a 64).trans (hT 4 _ 64 _ rfl rfl rfl (hdep _ (Array.mem_of_getElem? (i := 0) rfl) rfl))
              have c0 := cell_below (below_trans HB.out hSp.1) hd1
              clear hdi hdep hfr hT hcl
              refine op_val rfl rfl (.slice A3 ttl.length c3) (fun K' hK => ?_) ⟨_, rfl, fun u hu => by cases hu; rfl, hSp⟩
              clear hSp
              go_simp
              exact hK
            | 6, ho =>
              rw [← Array.getElem?_toList] at ho
              simp only [List.getElem?_cons_zero, List.getElem?_cons_succ, Option.some.injEq] at ho
              subst ho
              have hp : d 0 = true := (hdep _ (Array.mem_of_getElem? (i := 0) rfl) rfl)
              have h12 : d 12 = false := not_yet hcl hdi (j := 12) (p := 0) rfl rfl rfl rfl
              have e65 := (eval_tmp a 65).trans (hT 5 _ 65 _ rfl rfl rfl (hdep _ (Array.mem_of_getElem? (i := 1) rfl) rfl))
              clear hdep hfr hT hcl
              have HO := Bx.mk (hSp.2.1 hp hdi)
              have HBx := Bx.mk hSp.1
              have HY := Bx.mk (HS1.out.step (by decide) (below_trans HB.out hSp.1))
              refine op_gen rfl rfl (fun v w' => Below wc.heap.size wc w' ∧ kI.Own 3 w' wc.heap.size (fun b => wc.heap.size ≤ b) v (ttl)) (fun K' hK => ?_) (fun v w' hG => ⟨_, rfl, fun u hu => (by cases hu), ?_⟩)
              · refine oper_of_list (ops := #[]) rfl (fun Q' hQ' => app_all kI (w := wc) _ _ rfl _ _ 52 3 _ 8 rfl Tryz.underlying52 info3 rfl (by decide) (by decide) (by decide) _ [] ttl 0 rfl A3 ttl.length c3 rfl rfl ((eval_tmp a 65).symm.trans e65) HY (fun _ _ h => h) HO HBx (Nat.le_refl _) hSp.1.size (fun _ h => h) (by omega) (fun A5 c5 w5 HO5 HB5 HG5 => wpList_nil (hQ' _ _ (hK _ _ ⟨HB5.out, by simpa using HO5.out⟩))))
              · obtain ⟨hb5, ho5⟩ := hG
                refine ⟨hb5, fun _ h => ?_, fun _ _ => ho5, fun h => ?_⟩
                · simp at h
                · simp [h12] at h
            | 7, ho =>
              rw [← Array.getElem?_toList] at ho
              simp only [List.getElem?_cons_zero, List.getElem?_cons_succ, Option.some.injEq] at ho
              subst ho
              have e3 : a.tmps[3]?.getD undef = .pointer (some ⟨w.heap.size, 0, Option.none⟩) := (eval_tmp a 3).trans (hfr 3 (by decide +kernel))
              clear hdi hdep hfr hT hcl
              refine op_val rfl rfl (.pointer (some ⟨w.heap.size, 2, Option.none⟩)) (fun K' hK => ?_) ⟨_, rfl, fun u hu => by cases hu; rfl, hSp⟩
              clear hSp
              go_simp
              exact hK
            | 8, ho =>
              rw [← Array.getElem?_toList] at ho
              simp only [List.getElem?_cons_zero, List.getElem?_cons_succ, Option.some.injEq] at ho
              subst ho
              have e67 := (eval_tmp a 67).trans (hT 7 _ 67 _ rfl rfl rfl (hdep _ (Array.mem_of_getElem? (i := 0) rfl) rfl))
              have c0 : wx.cell? ⟨w.heap.size, 2, Option.none⟩ = some (.slice (some ad2) 1 cv) := cell_below hSp.1 ((blk_cell HG.out 2).trans rfl)
              clear hdi hdep hfr hT hcl
              refine op_val rfl rfl (.slice (some ad2) 1 cv) (fun K' hK => ?_) ⟨_, rfl, fun u hu => by cases hu; rfl, hSp⟩
              clear hSp
              go_simp
              exact hK
            | 9, ho =>
              rw [← Array.getElem?_toList] at ho
              simp only [List.getElem?_cons_zero, List.getElem?_cons_succ, Option.some.injEq] at ho
              subst ho
              have e68 := (eval_tmp a 68).trans (hT 8 _ 68 _ rfl rfl rfl (hdep _ (Array.mem_of_getElem? (i := 0) rfl) rfl))
              clear hdi hdep hfr hT hcl
              refine op_val rfl rfl (.pointer (some ad2)) (fun K' hK => ?_) ⟨_, rfl, fun u hu => by cases hu; rfl, hSp⟩
              clear hSp
              go_simp
              exact hK
            | 10, ho =>
              rw [← Array.getElem?_toList] at ho
              simp only [List.getElem?_cons_zero, List.getElem?_cons_succ, Option.some.injEq] at ho
              subst ho
              have e69 := (eval_tmp a 69).trans (hT 9 _ 69 _ rfl rfl rfl (hdep _ (Array.mem_of_getElem? (i := 0) rfl) rfl))
              clear hdi hdep hfr hT hcl
              refine op_val rfl rfl (.pointer (some ⟨ad2.block, ad2.off + 2, Option.none⟩)) (fun K' hK => ?_) ⟨_, rfl, fun u hu => by cases hu; rfl, hSp⟩
              clear hSp
              go_simp
              exact hK
            | 11, ho =>
              rw [← Array.getElem?_toList] at ho
              simp only [List.getElem?_cons_zero, List.getElem?_cons_succ, Option.some.injEq] at ho
              subst ho
              have e70 := (eval_tmp a 70).trans (hT 10 _ 70 _ rfl rfl rfl (hdep _ (Array.mem_of_getElem? (i := 0) rfl) rfl))
              have c0 := cell_below (below_trans HB.out hSp.1) hd2
              clear hdi hdep hfr hT hcl
              refine op_val rfl rfl (.slice A4 rng.length c4) (fun K' hK => ?_) ⟨_, rfl, fun u hu => by cases hu; rfl, hSp⟩
              clear hSp
              go_simp
              exact hK
            | 12, ho =>
              rw [← Array.getElem?_toList] at ho
              simp only [List.getElem?_cons_zero, List.getElem?_cons_succ, Option.some.injEq] at ho
              subst ho
              have hp : d 6 = true := (hdep _ (Array.mem_of_getElem? (i := 0) rfl) rfl)
              have h6 : d 6 = true := hp
              have e71 := (eval_tmp a 71).trans (hT 11 _ 71 _ rfl rfl rfl (hdep _ (Array.mem_of_getElem? (i := 1) rfl) rfl))
              clear hdep hfr hT hcl
              have HO := Bx.mk (hSp.2.2.1 hp hdi)
              have HBx := Bx.mk hSp.1
              have HY := Bx.mk (HS2.out.step (by decide) (below_trans HB.out hSp.1))
              refine op_gen rfl rfl (fun v w' => Below wc.heap.size wc w' ∧ kI.Own 3 w' wc.heap.size (fun b => wc.heap.size ≤ b) v (tr)) (fun K' hK => ?_) (fun v w' hG => ⟨_, rfl, fun u hu => (by cases hu), ?_⟩)
              · refine oper_of_list (ops := #[]) rfl (fun Q' hQ' => app_all kI (w := wc) _ _ rfl _ _ 52 3 _ 8 rfl Tryz.underlying52 info3 rfl (by decide) (by decide) (by decide) _ ttl rng ttl.length rfl A4 rng.length c4 rfl rfl ((eval_tmp a 71).symm.trans e71) HY (fun _ _ h => h) HO HBx (Nat.le_refl _) hSp.1.size (fun _ h => h) (by omega) (fun A5 c5 w5 HO5 HB5 HG5 => wpList_nil (hQ' _ _ (hK _ _ ⟨HB5.out, by rw [HTR.out]; exact HO5.out⟩))))
              · obtain ⟨hb5, ho5⟩ := hG
                refine ⟨hb5, fun _ h => ?_, fun _ h => ?_, fun _ => ho5⟩
                · simp [h6] at h
                · simp at h
            | 13, ho =>
              rw [← Array.getElem?_toList] at ho
              simp only [List.getElem?_cons_zero, List.getElem?_cons_succ, Option.some.injEq] at ho
              subst ho
              have h12 : d 12 = true := (hdep _ (Array.mem_of_getElem? (i := 0) rfl) rfl)
              obtain ⟨A5, c5, q72, _⟩ := (hSp.2.2.2 h12).reads
              have e72 := (eval_tmp a 72).trans q72
              clear hdi hdep hfr hT hcl
              refine op_val rfl rfl (.int .i64 tr.length) (fun K' hK => ?_) ⟨_, rfl, fun u hu => by cases hu; rfl, hSp⟩
              clear hSp
              go_simp
              exact hK
            | 14, ho =>
              rw [← Array.getElem?_toList] at ho
              simp only [List.getElem?_cons_zero, List.getElem?_cons_succ, Option.some.injEq] at ho
              subst ho
              clear hdi hdep hfr hT hcl
              refine op_val rfl rfl (.int .i64 0) (fun K' hK => ?_) ⟨_, rfl, fun u hu => by cases hu; rfl, hSp⟩
              clear hSp
              go_simp
              exact hK
            | n + 15, ho => cases ho
        · intro d f wx hall hT hSp
          have HO := Bx.mk (hSp.2.2.2 (hall 12 (by decide)))
          obtain ⟨A5, c5, q72, hl5, hr5⟩ := HO.out.reads
          have HR5 := Bx.mk hr5
          have q73 := hT 13 _ 73 _ rfl rfl rfl
          have q74 := hT 14 _ 74 _ rfl rfl rfl
          have HBW := Bx.mk (below_trans HB.out hSp.1)
          have hm5 := hr5.1
          clear hT hSp hall hr5
          dsimp only
          rw [q72, q73, q74]
          go_wp2
          go_loop [74] (fun i => ∃ n : Nat, n ≤ tr.length ∧ i = .int .i64 n) (fun i => tr.length - (intOf i).toNat)
          case atStart => exact ⟨0, Nat.zero_le _, rfl⟩
          case round =>
            obtain ⟨n, hn, rfl⟩ := hrel
            by_cases hlt : n < tr.length
            · obtain ⟨ad3, rfl, he0⟩ := int_get HR5.out n hlt
              go_wp2
              all_goals first
                | (go_ret; exact ⟨HBW.out, _, rfl, fun _ => trivial⟩)
                | exact ⟨⟨n + 1, by omega, by go_num⟩, by simp [intOf]; omega⟩
            · go_wp2
              go_ret
              exact ⟨HBW.out, _, rfl, fun _ => trivial⟩
    case cons.cons =>
      go_enter Tryz.func31, Tryz.ntmps31
      go_wp2_with (go_at_call 27; refine (is_any addr _ [⟨#[73, 80, 52]⟩, ⟨#[73, 80, 54]⟩] _ _ _ _ (by simp) rfl rfl (by decide)).mono ?_; rintro e w' ⟨rfl, b, rfl, hf⟩; clear hf; cases b)
      all_goals (go_ret; exact ⟨by first | exact below_alloc1 (Below.refl _ _) _ | exact below_alloc2 (Below.refl _ _) _ _, _, rfl, fun _ => trivial⟩)
end Go.Proofs.YtimonhimfioohaaGreatDoor
/-! spec.media. -/
namespace Go.Proofs.YtimonhimfioohaaGreatDoor
open Go Go.RowKit Go.PlainAid Kn
theorem below_of_box {w w' : World} {o : Obj} (h : Below (w.alloc o).heap.size (w.alloc o) w') : Below w.heap.size w w' := below_call (Below.refl _ _) h
theorem ex_false {p : Prop} : (false : Bool) = true → p := fun h => absurd h (by simp)
set_option maxRecDepth 10000 in
set_option maxHeartbeats 3200000 in
theorem smedia (x : Med) (v2 v3 v4 v5 v6 v7 v8 v9 : Value) (F : Nat → Prop) (w : World) (hv2 : kI.SV F w v2 x.ports) (hv3 : Kn.string.SV F w v3 x.protos) (hv4 : Kn.string.SV F w v4 x.formats) (hv5 : Kn.string.SV F w v5 x.title) (hv6 : kCon.SV F w v6 x.con) (hv7 : kBw.SV F w v7 x.bw) (hv8 : Kn.string.SV F w v8 x.key) (hv9 : kAtt.SV F w v9 x.atts) (hf : fMed x) : Calls Tryz.prog 29 #[.agg #[.string x.name, .int .i64 x.port, v2, v3, v4, v5, v6, v7, v8, v9]] w (RG (AttsOK x.atts) w) := by
  obtain ⟨Av2, cv2, rfl, lv2, rv2⟩ := hv2
  have HV2 := Bx.mk rv2
  have hm2 := rv2.1
  clear rv2
  obtain ⟨Av3, cv3, rfl, lv3, rv3⟩ := hv3
  have HV3 := Bx.mk rv3
  have hm3 := rv3.1
  clear rv3
  obtain ⟨Av4, cv4, rfl, lv4, rv4⟩ := hv4
  have HV4 := Bx.mk rv4
  have hm4 := rv4.1
  clear rv4
  obtain ⟨Av5, cv5, rfl, lv5, rv5⟩ := hv5
  have HV5 := Bx.mk rv5
  have hm5 := rv5.1
  clear rv5
  obtain ⟨Av6, cv6, rfl, lv6, rv6⟩ := hv6
  have HV6 := Bx.mk rv6
  have hm6 := rv6.1
  clear rv6
  obtain ⟨Av7, cv7, rfl, lv7, rv7⟩ := hv7
  have HV7 := Bx.mk rv7
  have hm7 := rv7.1
  clear rv7
  obtain ⟨Av8, cv8, rfl, lv8, rv8⟩ := hv8
  have HV8 := Bx.mk rv8
  have hm8 := rv8.1
  clear rv8
  obtain ⟨Av9, cv9, rfl, lv9, rv9⟩ := hv9
  have HV9 := Bx.mk rv9
  have hm9 := rv9.1
  clear rv9
  have HF := Bx.mk hf
  clear hf
  have HC : Bx (∀ j u, #[.string x.name, .int .i64 x.port, .slice Av2 x.ports.length cv2, .slice Av3 x.protos.length cv3, .slice Av4 x.formats.length cv4, .slice Av5 x.title.length cv5, .slice Av6 x.con.length cv6, .slice Av7 x.bw.length cv7, .slice Av8 x.key.length cv8, .slice Av9 x.atts.length cv9][j]? = some u → (w.alloc (.cells #[.string x.name, .int .i64 x.port, .slice Av2 x.ports.length cv2, .slice Av3 x.protos.length cv3, .slice Av4 x.formats.length cv4, .slice Av5 x.title.length cv5, .slice Av6 x.con.length cv6, .slice Av7 x.bw.length cv7, .slice Av8 x.key.length cv8, .slice Av9 x.atts.length cv9] 89)).cell? ⟨w.heap.size, j, Option.none⟩ = some u) := ⟨fun j u h => box_cells w _ _ j u h⟩
  rcases Nat.eq_zero_or_pos x.protos.length with h3 | h3
  · go_enter Tryz.func29, Tryz.ntmps29
    go_wp2_with (go_at_call 27; refine (is_any x.name _ [⟨#[97, 117, 100, 105, 111]⟩, ⟨#[118, 105, 100, 101, 111]⟩, ⟨#[116, 101, 120, 116]⟩, ⟨#[97, 112, 112, 108, 105, 99, 97, 116, 105, 111, 110]⟩, ⟨#[109, 101, 115, 115, 97, 103, 101]⟩] _ _ _ _ (by simp) rfl rfl (by decide)).mono ?_; rintro e w' ⟨rfl, b, rfl, hf⟩; clear hf; cases b)
    all_goals (go_ret; exact ⟨below_alloc2 (Below.refl _ _) _ _, _, rfl, ex_false⟩)
  rcases Nat.eq_zero_or_pos x.formats.length with h4 | h4
  · go_enter Tryz.func29, Tryz.ntmps29
    go_wp2_with (go_at_call 27; refine (is_any x.name _ [⟨#[97, 117, 100, 105, 111]⟩, ⟨#[118, 105, 100, 101, 111]⟩, ⟨#[116, 101, 120, 116]⟩, ⟨#[97, 112, 112, 108, 105, 99, 97, 116, 105, 111, 110]⟩, ⟨#[109, 101, 115, 115, 97, 103, 101]⟩] _ _ _ _ (by simp) rfl rfl (by decide)).mono ?_; rintro e w' ⟨rfl, b, rfl, hf⟩; clear hf; cases b)
    all_goals (go_ret; exact ⟨below_alloc2 (Below.refl _ _) _ _, _, rfl, ex_false⟩)
  have hk3 : ((x.protos.length : Int) == 0) = false := by simp; intro e; rw [e] at h3; exact absurd h3 (by simp)
  have hk4 : ((x.formats.length : Int) == 0) = false := by simp; intro e; rw [e] at h4; exact absurd h4 (by simp)
  go_enter Tryz.func29, Tryz.ntmps29
  go_upto_region 1 with fail
  go_cut [53] (fun s53 wx => ∃ b : Bool, s53 = .bool b ∧ Bx (Below (w.alloc (.cells #[.string x.name, .int .i64 x.port, .slice Av2 x.ports.length cv2, .slice Av3 x.protos.length cv3, .slice Av4 x.formats.length cv4, .slice Av5 x.title.length cv5, .slice Av6 x.con.length cv6, .slice Av7 x.bw.length cv7, .slice Av8 x.key.length cv8, .slice Av9 x.atts.length cv9] 89)).heap.size (w.alloc (.cells #[.string x.name, .int .i64 x.port, .slice Av2 x.ports.length cv2, .slice Av3 x.protos.length cv3, .slice Av4 x.formats.length cv4, .slice Av5 x.title.length cv5, .slice Av6 x.con.length cv6, .slice Av7 x.bw.length cv7, .slice Av8 x.key.length cv8, .slice Av9 x.atts.length cv9] 89)) wx))
  case first =>
    go_wp2_with (go_at_call 27; refine (is_any x.name _ [⟨#[97, 117, 100, 105, 111]⟩, ⟨#[118, 105, 100, 101, 111]⟩, ⟨#[116, 101, 120, 116]⟩, ⟨#[97, 112, 112, 108, 105, 99, 97, 116, 105, 111, 110]⟩, ⟨#[109, 101, 115, 115, 97, 103, 101]⟩] _ _ _ _ (by simp) rfl rfl (by decide)).mono ?_; rintro e w' ⟨rfl, b, rfl, hf⟩; clear hf; cases b)
    all_goals (go_meet; case rel => exact ⟨_, rfl, ⟨below_alloc1 (Below.refl _ _) _⟩⟩)
  case rest =>
    obtain ⟨b, rfl, HB⟩ := hcut
    cases b
    case true =>
      go_wp2
      go_ret
      exact ⟨below_of_box HB.out, _, rfl, ex_false⟩
    obtain ⟨wa, rfl⟩ : ∃ wa : World, wa = wc := ⟨_, rfl⟩
    have hq2 := cell_below HB.out (HC.out 2 _ rfl)
    have hq3 := cell_below HB.out (HC.out 3 _ rfl)
    go_wp2
    go_loop [57] (fun i => ∃ n : Nat, n ≤ x.ports.length ∧ i = .int .i64 n) (fun i => x.ports.length - (intOf i).toNat)
    case atStart => exact ⟨0, Nat.zero_le _, rfl⟩
    case round =>
      obtain ⟨n, hn, rfl⟩ := hrel
      by_cases hlt : n < x.ports.length
      · obtain ⟨ad3, rfl, he0⟩ := int_get HV2.out n hlt
        have he1 := cell_below (below_of_box HB.out) he0
        go_wp2
        all_goals first
          | (go_ret; exact ⟨below_of_box HB.out, _, rfl, ex_false⟩)
          | exact ⟨⟨n + 1, by omega, by go_num⟩, by simp [intOf]; omega⟩
      · go_wp2
        go_loopw [71] (fun i wr => ∃ k : Nat, k ≤ x.protos.length ∧ i = .int .i64 k ∧ Bx (Below wa.heap.size wa wr)) (fun i _ => x.protos.length - (intOf i).toNat)
        case atStart => exact ⟨0, Nat.zero_le _, rfl, ⟨Below.refl _ _⟩⟩
        case round =>
          obtain ⟨k, hk, rfl, hB⟩ := hrel
          have HB2 := Bx.mk (HB.out.trans (hB.out.mono HB.out.size))
          by_cases hlt2 : k < x.protos.length
          · obtain ⟨ad3, rfl, he0⟩ := str_get HV3.out k hlt2
            have he1 := cell_below (below_of_box HB2.out) he0
            go_wp2_with (fail)
            refine (is_any x.protos[k] _ [⟨#[85, 68, 80]⟩, ⟨#[82, 84, 80]⟩, ⟨#[65, 86, 80]⟩, ⟨#[83, 65, 86, 80]⟩, ⟨#[83, 65, 86, 80, 70]⟩, ⟨#[84, 76, 83]⟩, ⟨#[68, 84, 76, 83]⟩, ⟨#[83, 67, 84, 80]⟩, ⟨#[65, 86, 80, 70]⟩] _ _ _ _ (by simp) rfl rfl (by decide)).mono ?_
            rintro e w' ⟨rfl, b, rfl, hf⟩
            clear hf
            cases b
            · go_wp2
              go_ret
              exact ⟨below_alloc1 (below_of_box HB2.out) _, _, rfl, ex_false⟩
            · go_wp2
              go_roundw
              case rel => exact ⟨k + 1, by omega, by go_num, ⟨below_alloc1 hB.out _⟩⟩
              case measure => simp [intOf]; omega
          · have hq4 := cell_below HB2.out (HC.out 4 _ rfl)
            go_wp2
            go_loop [83] (fun i => ∃ n : Nat, n ≤ x.formats.length ∧ i = .int .i64 n) (fun i => x.formats.length - (intOf i).toNat)
            case atStart => exact ⟨0, Nat.zero_le _, rfl⟩
            case round =>
              obtain ⟨n3, hn3, rfl⟩ := hrel
              by_cases hlt3 : n3 < x.formats.length
              · obtain ⟨ad3, rfl, he0⟩ := str_get HV4.out n3 hlt3
                have he1 := cell_below (below_of_box HB2.out) he0
                go_wp2_with (fail)
                refine (word_calls x.formats[n3] _ (HF.out.2.2.2.1.2 _ (List.getElem_mem hlt3))).mono ?_
                rintro e w' ⟨rfl, b, rfl, hf⟩
                clear hf
                cases b
                · go_wp2
                  go_ret
                  exact ⟨below_of_box HB2.out, _, rfl, ex_false⟩
                · go_wp2
                  exact ⟨⟨n3 + 1, by omega, by go_num⟩, by simp [intOf]; omega⟩
              · have hq5 := cell_below HB2.out (HC.out 5 _ rfl)
                have hq6 := cell_below HB2.out (HC.out 6 _ rfl)
                have HY5 := Bx.mk (SV.step (⟨_, _, rfl, lv5, HV5.out⟩ : Kn.string.SV F w (.slice Av5 x.title.length cv5) x.title) (by decide) (below_of_box HB2.out))
                have HY6 := Bx.mk (SV.step (⟨_, _, rfl, lv6, HV6.out⟩ : kCon.SV F w (.slice Av6 x.con.length cv6) x.con) (by decide) (below_of_box HB2.out))
                go_wp2_with (fail)
                refine (one_calls _ x.title F _ HY5.out HF.out.2.2.2.2.1.2).mono ?_
                rintro e w' ⟨rfl, b, rfl, hf⟩
                clear hf
                cases b
                · go_wp2
                  go_ret
                  exact ⟨below_of_box HB2.out, _, rfl, ex_false⟩
                go_wp2_with (fail)
                refine (scons _ x.con F _ HY6.out HF.out.2.2.2.2.2.1).mono ?_
                rintro e w6 ⟨hb6, b, rfl, hf⟩
                clear hf
                have HB6 := Bx.mk (HB2.out.trans (hb6.mono HB2.out.size))
                clear hb6
                cases b
                · go_wp2
                  go_ret
                  exact ⟨below_of_box HB6.out, _, rfl, ex_false⟩
                have hq7 := cell_below HB6.out (HC.out 7 _ rfl)
                have HY7 := Bx.mk (SV.step (⟨_, _, rfl, lv7, HV7.out⟩ : kBw.SV F w (.slice Av7 x.bw.length cv7) x.bw) (by decide) (below_of_box HB6.out))
                go_wp2_with (fail)
                refine (sbws _ x.bw F _ HY7.out HF.out.2.2.2.2.2.2.1).mono ?_
                rintro e w7 ⟨hb7, b, rfl, hf⟩
                clear hf
                have HB7 := Bx.mk (HB6.out.trans (hb7.mono HB6.out.size))
                clear hb7
                cases b
                · go_wp2
                  go_ret
                  exact ⟨below_of_box HB7.out, _, rfl, ex_false⟩
                have hq8 := cell_below HB7.out (HC.out 8 _ rfl)
                have hq9 := cell_below HB7.out (HC.out 9 _ rfl)
                have HY8 := Bx.mk (SV.step (⟨_, _, rfl, lv8, HV8.out⟩ : Kn.string.SV F w (.slice Av8 x.key.length cv8) x.key) (by decide) (below_of_box HB7.out))
                have HY9 := Bx.mk (SV.step (⟨_, _, rfl, lv9, HV9.out⟩ : kAtt.SV F w (.slice Av9 x.atts.length cv9) x.atts) (by decide) (below_of_box HB7.out))
                go_wp2_with (fail)
                refine (one_calls _ x.key F _ HY8.out HF.out.2.2.2.2.2.2.2.1.2).mono ?_
                rintro e w' ⟨rfl, b, rfl, hf⟩
                clear hf
                cases b
                · go_wp2
                  go_ret
                  exact ⟨below_of_box HB7.out, _, rfl, ex_false⟩
                go_wp2_with (fail)
                refine (satts _ x.atts F _ HY9.out HF.out.2.2.2.2.2.2.2.2).mono ?_
                rintro e w9 ⟨hb9, b, rfl, hf⟩
                have HFA := Bx.mk hf
                have HB9 := Bx.mk (HB7.out.trans (hb9.mono HB7.out.size))
                clear hb9 hf
                cases b
                · go_wp2
                  go_ret
                  exact ⟨below_of_box HB9.out, _, rfl, ex_false⟩
                go_wp2
                go_ret
                exact ⟨below_of_box HB9.out, _, rfl, fun _ => HFA.out (by simp)⟩
end Go.Proofs.YtimonhimfioohaaGreatDoor
/-! spec.Proper. -/
namespace Go.Proofs.YtimonhimfioohaaGreatDoor
open Go Go.RowKit Go.PlainAid Kn
def MedOK (m : Med) : Prop := AttsOK m.atts
set_option maxRecDepth 20000 in
set_option maxHeartbeats 6400000 in
theorem sproper (x : Ses) (cs : List Value) (F : Nat → Prop) (w : World) (hx : kSes.K F w x cs) (hf : fSes x) : Calls Tryz.prog 7 #[.agg cs.toArray] w (RG (x.med.length ≤ 5 ∧ ∀ m ∈ x.med, MedOK m) w) := by
  obtain ⟨u1, u2, u3, u4, u5, u6, u7, u8, u9, u10, u11, rfl, h1, h2, h3, h4, h5, h6, h7, h8, h9, h10, h11⟩ := kSes_open hx
  have HF := Bx.mk hf
  clear hx hf
  obtain ⟨A1, c1, rfl, l1, r1⟩ := h1
  have hm1 := r1.1
  have V1 : Bx (Kn.string.SV F w (.slice A1 x.info.length c1) x.info) := ⟨⟨A1, c1, rfl, l1, r1⟩⟩
  clear r1
  obtain ⟨A2, c2, rfl, l2, r2⟩ := h2
  have hm2 := r2.1
  have V2 : Bx (Kn.string.SV F w (.slice A2 x.uri.length c2) x.uri) := ⟨⟨A2, c2, rfl, l2, r2⟩⟩
  clear r2
  obtain ⟨A3, c3, rfl, l3, r3⟩ := h3
  have hm3 := r3.1
  have V3 : Bx (Kn.string.SV F w (.slice A3 x.email.length c3) x.email) := ⟨⟨A3, c3, rfl, l3, r3⟩⟩
  clear r3
  obtain ⟨A4, c4, rfl, l4, r4⟩ := h4
  have hm4 := r4.1
  have V4 : Bx (Kn.string.SV F w (.slice A4 x.phone.length c4) x.phone) := ⟨⟨A4, c4, rfl, l4, r4⟩⟩
  clear r4
  obtain ⟨A5, c5, rfl, l5, r5⟩ := h5
  have hm5 := r5.1
  have V5 : Bx (kCon.SV F w (.slice A5 x.con.length c5) x.con) := ⟨⟨A5, c5, rfl, l5, r5⟩⟩
  clear r5
  obtain ⟨A6, c6, rfl, l6, r6⟩ := h6
  have hm6 := r6.1
  have V6 : Bx (kBw.SV F w (.slice A6 x.bw.length c6) x.bw) := ⟨⟨A6, c6, rfl, l6, r6⟩⟩
  clear r6
  obtain ⟨A7, c7, rfl, l7, r7⟩ := h7
  have hm7 := r7.1
  have V7 : Bx (kTim.SV F w (.slice A7 x.tim.length c7) x.tim) := ⟨⟨A7, c7, rfl, l7, r7⟩⟩
  clear r7
  obtain ⟨A8, c8, rfl, l8, r8⟩ := h8
  have hm8 := r8.1
  have V8 : Bx (kZon.SV F w (.slice A8 x.zon.length c8) x.zon) := ⟨⟨A8, c8, rfl, l8, r8⟩⟩
  have R8 := Bx.mk r8
  clear r8
  obtain ⟨A9, c9, rfl, l9, r9⟩ := h9
  have hm9 := r9.1
  have V9 : Bx (Kn.string.SV F w (.slice A9 x.key.length c9) x.key) := ⟨⟨A9, c9, rfl, l9, r9⟩⟩
  clear r9
  obtain ⟨A10, c10, rfl, l10, r10⟩ := h10
  have hm10 := r10.1
  have V10 : Bx (kAtt.SV F w (.slice A10 x.atts.length c10) x.atts) := ⟨⟨A10, c10, rfl, l10, r10⟩⟩
  clear r10
  obtain ⟨A11, c11, rfl, l11, r11⟩ := h11
  have hm11 := r11.1
  have V11 : Bx (kMed.SV F w (.slice A11 x.med.length c11) x.med) := ⟨⟨A11, c11, rfl, l11, r11⟩⟩
  have R11 := Bx.mk r11
  clear r11
  obtain ⟨ver, hver⟩ : ∃ v, v = x.ver := ⟨_, rfl⟩
  rw [← hver]
  clear hver
  by_cases hv0 : ver = 0
  case neg =>
    have hq : (ver != 0) = true := by simpa using hv0
    go_enter Tryz.func7, Tryz.ntmps7
    go_wp2
    all_goals (go_ret; exact ⟨below_alloc2 (Below.refl _ _) _ _, _, rfl, ex_false⟩)
  subst hv0
  have HC : Bx (∀ j u, #[.int .i64 0, .string x.user, .int .u64 x.id, .int .u64 x.ver2, .string x.net, .string x.addr, .string x.address, .string x.name, .slice A1 x.info.length c1, .slice A2 x.uri.length c2, .slice A3 x.email.length c3, .slice A4 x.phone.length c4, .slice A5 x.con.length c5, .slice A6 x.bw.length c6, .slice A7 x.tim.length c7, .slice A8 x.zon.length c8, .slice A9 x.key.length c9, .slice A10 x.atts.length c10, .slice A11 x.med.length c11][j]? = some u → (w.alloc (.cells #[.int .i64 0, .string x.user, .int .u64 x.id, .int .u64 x.ver2, .string x.net, .string x.addr, .string x.address, .string x.name, .slice A1 x.info.length c1, .slice A2 x.uri.length c2, .slice A3 x.email.length c3, .slice A4 x.phone.length c4, .slice A5 x.con.length c5, .slice A6 x.bw.length c6, .slice A7 x.tim.length c7, .slice A8 x.zon.length c8, .slice A9 x.key.length c9, .slice A10 x.atts.length c10, .slice A11 x.med.length c11] 44)).cell? ⟨w.heap.size, j, Option.none⟩ = some u) := ⟨fun j u h => box_cells w _ _ j u h⟩
  go_enter Tryz.func7, Tryz.ntmps7
  go_upto_region 2 with fail
  go_cut [0, 60] (fun s0 s60 wx => ∃ b : Bool, s60 = .bool b ∧ (b = false → x.med.length ≤ 5) ∧ Bx (Below (w.alloc (.cells #[.int .i64 0, .string x.user, .int .u64 x.id, .int .u64 x.ver2, .string x.net, .string x.addr, .string x.address, .string x.name, .slice A1 x.info.length c1, .slice A2 x.uri.length c2, .slice A3 x.email.length c3, .slice A4 x.phone.length c4, .slice A5 x.con.length c5, .slice A6 x.bw.length c6, .slice A7 x.tim.length c7, .slice A8 x.zon.length c8, .slice A9 x.key.length c9, .slice A10 x.atts.length c10, .slice A11 x.med.length c11] 44)).heap.size (w.alloc (.cells #[.int .i64 0, .string x.user, .int .u64 x.id, .int .u64 x.ver2, .string x.net, .string x.addr, .string x.address, .string x.name, .slice A1 x.info.length c1, .slice A2 x.uri.length c2, .slice A3 x.email.length c3, .slice A4 x.phone.length c4, .slice A5 x.con.length c5, .slice A6 x.bw.length c6, .slice A7 x.tim.length c7, .slice A8 x.zon.length c8, .slice A9 x.key.length c9, .slice A10 x.atts.length c10, .slice A11 x.med.length c11] 44)) wx))
  case first =>
    go_wp2_with (first
      | (go_at_call 8; refine (word_calls _ _ ?hz).mono ?_; (case hz => (first | exact HF.out.1.1 | exact HF.out.1.2.2.2)); rintro e w' ⟨rfl, b, rfl, hf⟩; clear hf; cases b)
      | (go_at_call 27; refine (is_any x.addr _ [⟨#[73, 80, 52]⟩, ⟨#[73, 80, 54]⟩] _ _ _ _ (by simp) rfl rfl (by decide)).mono ?_; rintro e w' ⟨rfl, b, rfl, hf⟩; clear hf; cases b)
      | (go_at_call 9; refine (line_calls x.name _ HF.out.2.1).mono ?_; rintro e w' ⟨rfl, b, rfl, hf⟩; clear hf; cases b)
      | (go_at_call 28; refine (stimes _ x.tim F _ (V7.out.step (by decide) (below_alloc1 (below_alloc2 (Below.refl _ _) _ _) _)) HF.out.2.2.2.2.2.2.2.2.1).mono ?_; rintro e w5 ⟨hb5, b, rfl, hf⟩; clear hf; have HB5 := Bx.mk hb5; have hB6 := Bx.mk (below_trans (below_alloc2 (Below.refl (w.alloc (.cells #[.int .i64 0, .string x.user, .int .u64 x.id, .int .u64 x.ver2, .string x.net, .string x.addr, .string x.address, .string x.name, .slice A1 x.info.length c1, .slice A2 x.uri.length c2, .slice A3 x.email.length c3, .slice A4 x.phone.length c4, .slice A5 x.con.length c5, .slice A6 x.bw.length c6, .slice A7 x.tim.length c7, .slice A8 x.zon.length c8, .slice A9 x.key.length c9, .slice A10 x.atts.length c10, .slice A11 x.med.length c11] 44)).heap.size (w.alloc (.cells #[.int .i64 0, .string x.user, .int .u64 x.id, .int .u64 x.ver2, .string x.net, .string x.addr, .string x.address, .string x.name, .slice A1 x.info.length c1, .slice A2 x.uri.length c2, .slice A3 x.email.length c3, .slice A4 x.phone.length c4, .slice A5 x.con.length c5, .slice A6 x.bw.length c6, .slice A7 x.tim.length c7, .slice A8 x.zon.length c8, .slice A9 x.key.length c9, .slice A10 x.atts.length c10, .slice A11 x.med.length c11] 44))) _ _) hb5); have hq15 := cell_below hB6.out (HC.out 15 _ rfl); have hq18 := cell_below hB6.out (HC.out 18 _ rfl); clear hb5; cases b))
    all_goals (go_meet; case rel => exact ⟨_, rfl, by (intro h; (try simp at h); (try omega)), ⟨by first | exact hB6.out | exact below_alloc1 (Below.refl _ _) _ | exact below_alloc2 (Below.refl _ _) _ _⟩⟩)
  case rest =>
    obtain ⟨b, rfl, hml, HB⟩ := hcut
    cases b
    case true =>
      go_wp2
      go_ret
      exact ⟨below_of_box HB.out, _, rfl, ex_false⟩
    have HL := Bx.mk (hml rfl)
    clear hml
    obtain ⟨wa, rfl⟩ : ∃ wa : World, wa = wc := ⟨_, rfl⟩
    have hq15 := cell_below HB.out (HC.out 15 _ rfl)
    go_wp2
    go_loopw [64] (fun i wr => ∃ k : Nat, k ≤ x.zon.length ∧ i = .int .i64 k ∧ Bx (Below wa.heap.size wa wr)) (fun i _ => x.zon.length - (intOf i).toNat)
    case atStart => exact ⟨0, Nat.zero_le _, rfl, ⟨Below.refl _ _⟩⟩
    case round =>
      obtain ⟨k, hk, rfl, hB⟩ := hrel
      have HB2 := Bx.mk (HB.out.trans (hB.out.mono HB.out.size))
      by_cases hlt : k < x.zon.length
      · obtain ⟨ad, rfl, hc0, hc1⟩ := zon_get R8.out k hlt
        have hc0' := cell_below (below_of_box HB2.out) hc0
        have hc1' := cell_below (below_of_box HB2.out) hc1
        go_wp2
        all_goals first
          | (go_ret; exact ⟨below_alloc1 (below_of_box HB2.out) _, _, rfl, ex_false⟩)
          | (go_roundw
             case rel => exact ⟨k + 1, by omega, by go_num, ⟨below_alloc1 hB.out _⟩⟩
             case measure => simp [intOf]; omega)
      · obtain ⟨wb, rfl⟩ : ∃ wb : World, wb = wr := ⟨_, rfl⟩
        have hq18 := cell_below HB2.out (HC.out 18 _ rfl)
        clear hB
        go_wp2
        go_loopw [85] (fun i wr => ∃ k : Nat, k ≤ x.med.length ∧ i = .int .i64 k ∧ Bx (UpTo MedOK x.med k) ∧ Bx (Below wb.heap.size wb wr)) (fun i _ => x.med.length - (intOf i).toNat)
        case atStart => exact ⟨0, Nat.zero_le _, rfl, ⟨upTo_zero _ _⟩, ⟨Below.refl _ _⟩⟩
        case round =>
          obtain ⟨k, hk, rfl, hU, hB⟩ := hrel
          have HB5 := Bx.mk (HB2.out.trans (hB.out.mono HB2.out.size))
          by_cases hlt : k < x.med.length
          · obtain ⟨ad, Av2, cv2, Av3, cv3, Av4, cv4, Av5, cv5, Av6, cv6, Av7, cv7, Av8, cv8, Av9, cv9, rfl, hc0, hc1, hc2, hc3, hc4, hc5, hc6, hc7, hc8, hc9, hv2, hv3, hv4, hv5, hv6, hv7, hv8, hv9⟩ := med_get R11.out k hlt
            replace hc0 := cell_below (below_of_box HB5.out) hc0
            replace hc1 := cell_below (below_of_box HB5.out) hc1
            replace hc2 := cell_below (below_of_box HB5.out) hc2
            replace hc3 := cell_below (below_of_box HB5.out) hc3
            replace hc4 := cell_below (below_of_box HB5.out) hc4
            replace hc5 := cell_below (below_of_box HB5.out) hc5
            replace hc6 := cell_below (below_of_box HB5.out) hc6
            replace hc7 := cell_below (below_of_box HB5.out) hc7
            replace hc8 := cell_below (below_of_box HB5.out) hc8
            replace hc9 := cell_below (below_of_box HB5.out) hc9
            have hBm := below_alloc1 (below_of_box HB5.out) (.cells #[.string x.med[k].name, .int .i64 x.med[k].port, .slice Av2 x.med[k].ports.length cv2, .slice Av3 x.med[k].protos.length cv3, .slice Av4 x.med[k].formats.length cv4, .slice Av5 x.med[k].title.length cv5, .slice Av6 x.med[k].con.length cv6, .slice Av7 x.med[k].bw.length cv7, .slice Av8 x.med[k].key.length cv8, .slice Av9 x.med[k].atts.length cv9] 89)
            have HV2 := Bx.mk (hv2.step (by decide) hBm)
            have HV3 := Bx.mk (hv3.step (by decide) hBm)
            have HV4 := Bx.mk (hv4.step (by decide) hBm)
            have HV5 := Bx.mk (hv5.step (by decide) hBm)
            have HV6 := Bx.mk (hv6.step (by decide) hBm)
            have HV7 := Bx.mk (hv7.step (by decide) hBm)
            have HV8 := Bx.mk (hv8.step (by decide) hBm)
            have HV9 := Bx.mk (hv9.step (by decide) hBm)
            clear hv2 hv3 hv4 hv5 hv6 hv7 hv8 hv9 hBm
            go_wp2_with (fail)
            refine (smedia x.med[k] _ _ _ _ _ _ _ _ F _ HV2.out HV3.out HV4.out HV5.out HV6.out HV7.out HV8.out HV9.out (HF.out.2.2.2.2.2.2.2.2.2.2.2.2.2 _ (List.getElem_mem hlt))).mono ?_
            rintro e w6 ⟨hb6, b, rfl, hf⟩
            have HM := Bx.mk hf
            have HB7 := Bx.mk (below_call hB.out hb6)
            clear hb6 hf
            cases b
            · go_wp2
              go_ret
              exact ⟨below_of_box (HB2.out.trans (HB7.out.mono HB2.out.size)), _, rfl, ex_false⟩
            · go_wp2
              go_roundw
              case rel => exact ⟨k + 1, by omega, by go_num, ⟨upTo_succ hU.out hlt (HM.out (by simp))⟩, HB7⟩
              case measure => simp [intOf]; omega
          · obtain rfl : k = x.med.length := by omega
            have HU := Bx.mk (upTo_all hU.out)
            clear hU hB
            have hq8 := cell_below HB5.out (HC.out 8 _ rfl)
            have HY1 := Bx.mk (V1.out.step (by decide) (below_of_box HB5.out))
            go_wp2_with (fail)
            refine (one_calls _ x.info F _ HY1.out HF.out.2.2.1.2).mono ?_
            rintro e w' ⟨rfl, b, rfl, hf⟩
            clear hf
            cases b
            · go_wp2
              go_ret
              exact ⟨below_of_box HB5.out, _, rfl, ex_false⟩
            have hq9 := cell_below HB5.out (HC.out 9 _ rfl)
            have HY2 := Bx.mk (V2.out.step (by decide) (below_of_box HB5.out))
            go_wp2_with (fail)
            refine (one_calls _ x.uri F _ HY2.out HF.out.2.2.2.1.2).mono ?_
            rintro e w' ⟨rfl, b, rfl, hf⟩
            clear hf
            cases b
            · go_wp2
              go_ret
              exact ⟨below_of_box HB5.out, _, rfl, ex_false⟩
            have hq10 := cell_below HB5.out (HC.out 10 _ rfl)
            have HY3 := Bx.mk (V3.out.step (by decide) (below_of_box HB5.out))
            go_wp2_with (fail)
            refine (one_calls _ x.email F _ HY3.out HF.out.2.2.2.2.1.2).mono ?_
            rintro e w' ⟨rfl, b, rfl, hf⟩
            clear hf
            cases b
            · go_wp2
              go_ret
              exact ⟨below_of_box HB5.out, _, rfl, ex_false⟩
            have hq11 := cell_below HB5.out (HC.out 11 _ rfl)
            have HY4 := Bx.mk (V4.out.step (by decide) (below_of_box HB5.out))
            go_wp2_with (fail)
            refine (one_calls _ x.phone F _ HY4.out HF.out.2.2.2.2.2.1.2).mono ?_
            rintro e w' ⟨rfl, b, rfl, hf⟩
            clear hf
            cases b
            · go_wp2
              go_ret
              exact ⟨below_of_box HB5.out, _, rfl, ex_false⟩
            have hq12 := cell_below HB5.out (HC.out 12 _ rfl)
            have HY5 := Bx.mk (V5.out.step (by decide) (below_of_box HB5.out))
            go_wp2_with (fail)
            refine (scons _ x.con F _ HY5.out HF.out.2.2.2.2.2.2.1).mono ?_
            rintro e w25 ⟨hb, b, rfl, hf⟩
            clear hf
            have HB25 := Bx.mk (HB5.out.trans (hb.mono HB5.out.size))
            clear hb
            cases b
            · go_wp2
              go_ret
              exact ⟨below_of_box HB25.out, _, rfl, ex_false⟩
            have hq13 := cell_below HB25.out (HC.out 13 _ rfl)
            have HY6 := Bx.mk (V6.out.step (by decide) (below_of_box HB25.out))
            go_wp2_with (fail)
            refine (sbws _ x.bw F _ HY6.out HF.out.2.2.2.2.2.2.2.1).mono ?_
            rintro e w26 ⟨hb, b, rfl, hf⟩
            clear hf
            have HB26 := Bx.mk (HB25.out.trans (hb.mono HB25.out.size))
            clear hb
            cases b
            · go_wp2
              go_ret
              exact ⟨below_of_box HB26.out, _, rfl, ex_false⟩
            have hq16 := cell_below HB26.out (HC.out 16 _ rfl)
            have HY9 := Bx.mk (V9.out.step (by decide) (below_of_box HB26.out))
            go_wp2_with (fail)
            refine (one_calls _ x.key F _ HY9.out HF.out.2.2.2.2.2.2.2.2.2.2.1.2).mono ?_
            rintro e w' ⟨rfl, b, rfl, hf⟩
            clear hf
            cases b
            · go_wp2
              go_ret
              exact ⟨below_of_box HB26.out, _, rfl, ex_false⟩
            have hq17 := cell_below HB26.out (HC.out 17 _ rfl)
            have HY10 := Bx.mk (V10.out.step (by decide) (below_of_box HB26.out))
            go_wp2_with (fail)
            refine (satts _ x.atts F _ HY10.out HF.out.2.2.2.2.2.2.2.2.2.2.2.1).mono ?_
            rintro e w30 ⟨hb, b, rfl, hf⟩
            clear hf
            have HB30 := Bx.mk (HB26.out.trans (hb.mono HB26.out.size))
            clear hb
            go_wp2
            go_ret
            exact ⟨below_of_box HB30.out, _, rfl, fun _ => ⟨HL.out, HU.out⟩⟩
end Go.Proofs.YtimonhimfioohaaGreatDoor
/-! FnCodec's plain law: the attributes that it adds make the codec. -/
namespace Go.Proofs.YtimonhimfioohaaGreatDoor
open Go Go.RowKit Go.PlainAid Kn
theorem size_len (s : ByteArray) : s.data.toList.length = s.size := Array.length_toList
theorem bt_get (s : ByteArray) (j : Nat) (hj : j < s.data.toList.length) : bt s j = (s.data.toList[j].toNat : Int) := by
  have hj2 : j < s.size := by rw [← size_len]; exact hj
  unfold bt
  rw [dif_pos hj2]
  rfl
theorem word_bytes {s : ByteArray} (h : IsWord s) : s.data.toList ≠ [] ∧ ∀ b ∈ s.data.toList, b.toNat < 128 ∧ b ≠ 32 ∧ b ≠ 47 ∧ b ≠ 58 := by
  refine ⟨fun e => ?_, fun b hb => ?_⟩
  · have h1 := h.1
    rw [← size_len, e] at h1
    exact absurd h1 (by simp)
  · obtain ⟨j, hj, rfl⟩ := List.getElem_of_mem hb
    have h1 := h.2 j (by rw [← size_len]; exact hj)
    rw [bt_get s j hj] at h1
    refine ⟨by omega, fun e => ?_, fun e => ?_, fun e => ?_⟩ <;> (rw [e] at h1; revert h1; decide)
theorem line_bytes {s : ByteArray} (h : IsLine s) : ∀ b ∈ s.data.toList, b.toNat < 128 := by
  intro b hb
  obtain ⟨j, hj, rfl⟩ := List.getElem_of_mem hb
  have h1 := h.2 j (by rw [← size_len]; exact hj)
  rw [bt_get s j hj] at h1
  omega
theorem no_pre {k v : List UInt8} (q : List UInt8) (hk : ∀ b ∈ k, b ≠ 58) (hq : ∀ b ∈ q, b ≠ 58) (hne : k ≠ q) : Lib.hasPrefix (k ++ 58 :: v) (q ++ [58]) = false := by
  unfold Lib.hasPrefix
  cases h : (q ++ [58]).isPrefixOf (k ++ 58 :: v) with
  | false => rfl
  | true =>
    exfalso
    apply hne
    rw [List.isPrefixOf_iff_prefix] at h
    obtain ⟨t, ht⟩ := h
    rw [List.append_assoc, List.singleton_append] at ht
    induction k generalizing q with
    | nil =>
      cases q with
      | nil => rfl
      | cons y q => simp only [List.cons_append, List.nil_append, List.cons.injEq] at ht; exact absurd ht.1 (hq y (by simp))
    | cons x k ih =>
      cases q with
      | nil => simp only [List.cons_append, List.nil_append, List.cons.injEq] at ht; exact absurd ht.1.symm (hk x (by simp))
      | cons y q =>
        simp only [List.cons_append, List.cons.injEq] at ht
        rw [ht.1, ih q (fun b hb => hk b (by simp [hb])) (fun b hb => hq b (by simp [hb])) (by intro e; apply hne; rw [e, ht.1]) ht.2]
theorem no_pre2 {k : List UInt8} (q : List UInt8) (hk : ∀ b ∈ k, b ≠ 58) : Lib.hasPrefix k (q ++ [58]) = false := by
  unfold Lib.hasPrefix
  cases h : (q ++ [58]).isPrefixOf k with
  | false => rfl
  | true =>
    exfalso
    rw [List.isPrefixOf_iff_prefix] at h
    obtain ⟨t, ht⟩ := h
    exact hk 58 (by rw [← ht]; simp) rfl
theorem acts_plain (p : Nat) (a : Att) (st : Option Cd) (h : AttOK a) (hk : a.key ∉ codecKeys) : Acts p a st st := by
  have h1 := (word_bytes h.1).2
  have hk1 : ∀ b ∈ a.key.data.toList, b ≠ 58 := fun b hb => (h1 b hb).2.2.2
  have hne : ∀ q : List UInt8, (⟨q.toArray⟩ : ByteArray) ∈ codecKeys → a.key.data.toList ≠ q := fun q hq e => hk (by
    have : a.key = ⟨q.toArray⟩ := by rw [← e]
    rw [this]; exact hq)
  have key : ∀ q : List UInt8, (⟨q.toArray⟩ : ByteArray) ∈ codecKeys → (∀ b ∈ q, b ≠ 58) → Lib.hasPrefix (attBytes a) (q ++ [58]) = false := fun q hq hq2 => by
    unfold attBytes
    split
    · exact no_pre2 q hk1
    · exact no_pre q hk1 hq2 (hne q hq)
  exact .plain a st (key sRtpmap (.head _) (by decide)) (key sFmtp (.tail _ (.head _)) (by decide)) (key sRtcpFb (.tail _ (.tail _ (.head _))) (by decide))
theorem ActsL.append {p : Nat} {l m : List Att} {s t u : Option Cd} (h : ActsL p l s t) (k : ActsL p m t u) : ActsL p (l ++ m) s u := by
  induction h with
  | nil => exact k
  | cons h _ ih => exact .cons h (ih k)
theorem actsL_plain (p : Nat) (l : List Att) (st : Option Cd) (h : ∀ a ∈ l, AttOK a ∧ a.key ∉ codecKeys) : ActsL p l st st := by
  induction l with
  | nil => exact .nil st
  | cons a l ih => exact .cons (acts_plain p a st (h a (by simp)).1 (h a (by simp)).2) (ih fun b hb => h b (by simp [hb]))
/-- The attributes that FnCodec adds. -/
def mapAtt (p : Nat) (c : Cd) : Att := ⟨⟨#[114, 116, 112, 109, 97, 112]⟩, B (dec p ++ 32 :: (c.name.data.toList ++ 47 :: (dec c.rate ++ parL c.par.data.toList)))⟩
def fmtpAtt (p : Nat) (f : ByteArray) : Att := ⟨⟨#[102, 109, 116, 112]⟩, B (dec p ++ 32 :: f.data.toList)⟩
def fbAtt (p : Nat) (f : ByteArray) : Att := ⟨⟨#[114, 116, 99, 112, 45, 102, 98]⟩, B (dec p ++ 32 :: f.data.toList)⟩
def exAtts (p : Nat) (c : Cd) : List Att := mapAtt p c :: ((if c.fm.size = 0 then [] else [fmtpAtt p c.fm]) ++ c.fb.map (fbAtt p))
theorem fb_len (p : Nat) (c : Cd) (h : c.fb.length ≤ 5) : (exAtts p c).length ≤ 7 := by
  unfold exAtts
  split <;> simp <;> omega
theorem B_ne (a : List UInt8) (x : UInt8) (b : List UInt8) : (B (a ++ x :: b)).size ≠ 0 := by rw [B_size]; simp
theorem empty_of (s : ByteArray) (h : s.size = 0) : s = ⟨#[]⟩ := by
  have := size_len s
  rw [h, List.length_eq_zero_iff] at this
  exact (B_data s).symm.trans (by rw [this]; rfl)
theorem acts_fb (p : Nat) (hp : p ≤ 255) (c : Cd) : ∀ (l : List ByteArray), (∀ f ∈ l, f.size ≤ 2147483647) → ActsL p (l.map (fbAtt p)) (some c) (some { c with fb := c.fb ++ l })
  | [], _ => by simpa using ActsL.nil (some c)
  | f :: l, h => by
    have h1 := h f (by simp)
    have h2 := acts_fb p hp { c with fb := c.fb ++ [f] } l (fun g hg => h g (by simp [hg]))
    have h3 : attBytes (fbAtt p f) = fbText p f.data.toList := by
      unfold attBytes fbAtt
      rw [if_neg (B_ne _ _ _)]
      rfl
    have h4 := Acts.fb (p := p) (fbAtt p f) f.data.toList h3 (by unfold fbText; simp only [List.length_append, List.length_cons, size_len]; have := dec_len p; simp [sRtcpFb]; omega) c
    have h5 : (if c.fm.size = 0 then (⟨#[]⟩ : ByteArray) else c.fm) = c.fm := by
      split
      · next h0 => exact (empty_of _ h0).symm
      · rfl
    rw [h5] at h4
    refine .cons h4 ?_
    have h6 : ({ c with fb := c.fb ++ (f :: l) } : Cd) = { c with fb := (c.fb ++ [f]) ++ l } := by simp
    rw [h6]
    exact h2
/-- What FnCodec knows of its arguments. -/
structure CdArg (p : Nat) (c : Cd) : Prop where
  p1 : 35 ≤ p
  p2 : p ≤ 127
  name : IsWord c.name
  nsz : c.name.size ≤ 2147483647
  r1 : 1 ≤ c.rate
  r2 : c.rate ≤ 1000000
  par : c.par.size = 0 ∨ IsWord c.par
  psz : c.par.size ≤ 2147483647
  fm : c.fm.size = 0 ∨ IsLine c.fm
  fsz : c.fm.size ≤ 2147483647
  fb : c.fb.length ≤ 5
  fbs : ∀ f ∈ c.fb, f.size ≤ 2147483647
  st : up c.name ∉ statics
theorem CdArg.want {p : Nat} {c : Cd} (h : CdArg p c) : Want c := by
  obtain ⟨h1, h2⟩ := word_bytes h.name
  refine ⟨?_, by have := h.nsz; omega, fun j b hb => (h2 b (List.mem_of_getElem? hb)).1, h.st, h.r1, h.fsz, ?_⟩
  · rw [toList_isEmpty, decide_eq_false_iff_not]; have := h.name.1; omega
  · rcases h.fm with h0 | h0
    · rw [empty_of _ h0]; simp
    · exact line_bytes h0
theorem acts_ex {p : Nat} {c : Cd} (h : CdArg p c) : ActsL p (exAtts p c) Option.none (some c) := by
  obtain ⟨n1, n2⟩ := word_bytes h.name
  have hd := dec_len p
  have hp2 := h.p2
  have hpar : ∀ b ∈ c.par.data.toList, b ≠ 32 ∧ b ≠ 47 := by
    rcases h.par with h0 | h0
    · rw [empty_of _ h0]; simp
    · exact fun b hb => ⟨((word_bytes h0).2 b hb).2.1, ((word_bytes h0).2 b hb).2.2.1⟩
  have e1 : attBytes (mapAtt p c) = mapText p c.name.data.toList c.rate c.par.data.toList := by
    unfold attBytes mapAtt
    rw [if_neg (B_ne _ _ _)]
    rfl
  have hl : (mapText p c.name.data.toList c.rate c.par.data.toList).length ≤ 9000000000 := by
    unfold mapText parL
    have := dec_len c.rate
    have := h.nsz
    have := h.psz
    have := h.r2
    simp only [List.length_append, List.length_cons, size_len]
    have e0 : sRtpmap.length = 6 := rfl
    rw [e0]
    split
    · simp; omega
    · simp only [List.length_cons, size_len]; omega
  have a1 := Acts.map (p := p) (mapAtt p c) c.name.data.toList c.rate c.par.data.toList e1 (by have := h.r1; omega) (by have := h.r2; omega) ⟨n1, fun b hb => ⟨(n2 b hb).2.1, (n2 b hb).2.2.1⟩⟩ hpar hl
  refine .cons a1 ?_
  have a2 : ActsL p (if c.fm.size = 0 then [] else [fmtpAtt p c.fm]) (some ⟨c.name, c.rate, c.par, ⟨#[]⟩, []⟩) (some ⟨c.name, c.rate, c.par, c.fm, []⟩) := by
    split
    · next h0 => rw [empty_of _ h0]; exact .nil _
    · have h3 : attBytes (fmtpAtt p c.fm) = fmtpText p c.fm.data.toList := by
        unfold attBytes fmtpAtt
        rw [if_neg (B_ne _ _ _)]
        rfl
      exact .cons (Acts.fmtp (p := p) (fmtpAtt p c.fm) c.fm.data.toList h3 (by unfold fmtpText; simp only [List.length_append, List.length_cons, size_len]; have := h.fsz; simp [sFmtp]; omega) ⟨c.name, c.rate, c.par, ⟨#[]⟩, []⟩) (.nil _)
  exact a2.append (acts_fb p (by omega) ⟨c.name, c.rate, c.par, c.fm, []⟩ c.fb h.fbs)
theorem exAtts_wide {p : Nat} {c : Cd} (h : CdArg p c) : ∀ a ∈ exAtts p c, fAttW a := by
  have hd := dec_len p
  have hp2 := h.p2
  have hfb : ∀ f ∈ c.fb, fAttW (fbAtt p f) := fun f hf => by
    refine ⟨by show (7 : Nat) ≤ _; decide, ?_⟩
    have := h.fbs f hf
    simp only [fbAtt, B_size, List.length_append, List.length_cons, size_len]; omega
  intro a ha
  unfold exAtts at ha
  rcases List.mem_cons.1 ha with rfl | ha
  · refine ⟨by show (6 : Nat) ≤ _; decide, ?_⟩
    have := dec_len c.rate
    have := h.nsz
    have := h.psz
    have := h.r2
    simp only [mapAtt, B_size, List.length_append, List.length_cons, size_len]
    unfold parL
    split
    · simp; omega
    · simp only [List.length_cons, size_len]; omega
  rcases List.mem_append.1 ha with ha | ha
  · split at ha
    · cases ha
    · obtain rfl := List.mem_singleton.1 ha
      refine ⟨by show (4 : Nat) ≤ _; decide, ?_⟩
      have := h.fsz
      simp only [fmtpAtt, B_size, List.length_append, List.length_cons, size_len]; omega
  · obtain ⟨f, hf, rfl⟩ := List.mem_map.1 ha
    exact hfb f hf
/-- The session that FnCodec hands over. -/
def newMed (m : Med) (p : Nat) (c : Cd) : Med := { m with atts := m.atts ++ exAtts p c }
def newSes (x : Ses) (m : Med) (ms : List Med) (p : Nat) (c : Cd) : Ses := { x with med := newMed m p c :: ms }
theorem sesArg_new {w : World} {x : Ses} {m : Med} {ms : List Med} {p : Nat} {c : Cd} (hx : x.med = m :: ms) (hf : fSes x) (hpr : x.med.length ≤ 5 ∧ ∀ m ∈ x.med, MedOK m) (hck : ∀ m ∈ x.med, ∀ a ∈ m.atts, a.key ∉ codecKeys) (h : CdArg p c) (g2 : Glob 2 w) (g3 : Glob 3 w) (g4 : Glob 4 w) : SesArg w (newSes x m ms p c) p c := by
  obtain ⟨_, _, _, _, _, _, _, f7, f8, f9, _, f11, f12⟩ := hf
  rw [hx] at hpr hck f12
  have hm5 : ms.length ≤ 4 := by have := hpr.1; simp at this; omega
  have hm20 : ∀ m' ∈ m :: ms, m'.atts.length ≤ 20 := fun m' hm' => (hpr.2 m' hm').2
  have hfb := fb_len p c h.fb
  have hI : ∀ m' ∈ m :: ms, fMedI m' := fun m' hm' => by
    have := f12.2 m' hm'
    exact ⟨this.2.2.1.1, this.2.2.2.1.1, this.2.2.2.2.2.2.1.1, this.2.2.2.2.2.2.2.2.1⟩
  have hI0 := hI m (by simp)
  have h20 := hm20 m (by simp)
  refine ⟨⟨f7.1, ⟨f8.1, fun t ht => ⟨(f8.2 t ht).1, (f8.2 t ht).2⟩⟩, f9, f11.1, by simp [newSes]; omega, ?_⟩, ?_, by have := h.p1; omega, by have := h.p2; omega, ?_, ?_, by have := h.fb; omega, g2, g3, g4⟩
  · intro m' hm'
    rcases List.mem_cons.1 hm' with rfl | hm'
    · exact ⟨hI0.1, hI0.2.1, hI0.2.2.1, by simp only [newMed, List.length_append]; omega⟩
    · exact hI m' (by simp [hm'])
  · intro m' hm'
    rcases List.mem_cons.1 hm' with rfl | hm'
    · refine ⟨by simp only [newMed, List.length_append]; omega, fun a ha => ?_⟩
      rcases List.mem_append.1 ha with ha | ha
      · have := ((f12.2 m (by simp)).2.2.2.2.2.2.2.2).2 a ha
        unfold fAtt fS at this
        exact ⟨by omega, by omega⟩
      · exact exAtts_wide h a ha
    · have := hm20 m' (by simp [hm'])
      refine ⟨by omega, fun a ha => ?_⟩
      have := ((f12.2 m' (by simp [hm'])).2.2.2.2.2.2.2.2).2 a ha
      unfold fAtt fS at this
      exact ⟨by omega, by omega⟩
  · show ActsL p ((newMed m p c :: ms).flatMap Med.atts) Option.none (some c)
    rw [List.flatMap_cons]
    refine ActsL.append (t := some c) (ActsL.append (t := Option.none) (actsL_plain p m.atts _ fun a ha => ⟨(hpr.2 m (by simp)).1 a ha, hck m (by simp) a ha⟩) (acts_ex h)) (actsL_plain p _ _ fun a ha => ?_)
    obtain ⟨m', hm', ha⟩ := List.mem_flatMap.1 ha
    exact ⟨(hpr.2 m' (by simp [hm'])).1 a ha, hck m' (by simp [hm']) a ha⟩
  · show ((newMed m p c :: ms).flatMap Med.atts).length ≤ 400000
    rw [List.flatMap_cons, List.length_append]
    have key : ∀ l : List Med, (∀ m' ∈ l, m'.atts.length ≤ 20) → (l.flatMap Med.atts).length ≤ 20 * l.length := fun l hl => by
      induction l with
      | nil => simp
      | cons a l ih =>
        rw [List.flatMap_cons, List.length_append, List.length_cons]
        have := ih fun b hb => hl b (by simp [hb])
        have := hl a (by simp)
        omega
    have := key ms fun b hb => hm20 b (by simp [hb])
    simp only [newMed, List.length_append]
    omega
end Go.Proofs.YtimonhimfioohaaGreatDoor
