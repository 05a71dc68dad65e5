/- Lemmas on which the proof of Rows.FnCodecCardSaid rests: no statement of the seat is proved in this file. Conditions: each lemma's own hypotheses, no others. -/
import Derived.Test.YtimonhimfioohaaGreatDoorM14
import Derived.Test.YtimonhimfioohaaGreatDoorM05
/-! FnCodec: the walk. -/
namespace Go.Proofs.YtimonhimfioohaaGreatDoor
open Go Go.RowKit Go.PlainAid Kn
theorem size0 {s : ByteArray} (h : (!s.toList.isEmpty) = false) : s.size = 0 := by
  rw [toList_isEmpty] at h
  simpa using h
theorem load_row_g {P : Program} {ops : Array Oper} {rest : List Oper} {o : Oper} {a : Act} {w : World} {Q : Exit → Act → World → Prop} (hw : Region.wanted o (yielded ops a.tmps) = true) (ty : TypeId) (x : Operand) (ho : o.op = .load ty x)
    (g : Nat) (hx : a.eval x = .pointer (some ⟨g, 0, Option.none⟩)) (t : TypeId) (cs : Array Value) (fr : Nat × Nat) (d : TypeDesc) (hg : w.heap[g]? = some (.cells cs t fr))
    (hu : P.underlying ty = some d) (hd : (match d with | .struct _ | .array _ _ => true | _ => false) = true) (hi : (P.info? ty).map (·.size) = some cs.size)
    (h : wpList P ops Q rest (a.put o.dst (.agg cs)) w) : wpList P ops Q (o :: rest) a w :=
  BigFrame.wpList_want hw fun _ hK => wp_load_row ty x ho g hx t cs fr d hg hu hd hi (hK _ _ h)
theorem put_none (a : Act) (v : Value) : a.put Option.none v = a := rfl
/-- What is known of works(). -/
def WorksAt (w : World) : Prop := Calls Tryz.prog 12 #[] w fun e w' => Below w.heap.size w w' ∧ e = .returned (.bool true)
set_option maxRecDepth 20000 in
set_option maxHeartbeats 12800000 in
theorem fncodec_calls (tb : Nat → Int) (x : Ses) (cs : List Value) (F : Nat → Prop) (w : World) (pl rate : Int) (name par fm : ByteArray) (v : Value) (fb : List ByteArray) (hk : kSes.K F w x cs) (hv : Kn.string.SV F w v fb) (hF : ∀ b, F b → b < w.heap.size)
    (g2 : Glob 2 w) (g3 : Glob 3 w) (g4 : Glob 4 w) (ht : SpTab tb w) (hw : ∀ w', Below w.heap.size w w' → WorksAt w') :
    Calls Tryz.prog 3 #[.agg cs.toArray, .int .i64 pl, .string name, .int .i64 rate, .string par, .string fm, v] w fun e w' => Below w.heap.size w w' ∧ e = .returned (.bool true) := by
  obtain ⟨Af, cf, rfl, hlf, hrf⟩ := hv
  have hmf := hrf.1
  have HV0 : Bx (Kn.string.SV F w (.slice Af fb.length cf) fb) := ⟨⟨Af, cf, rfl, hlf, hrf⟩⟩
  clear hrf
  obtain ⟨nf, hnf⟩ : ∃ n, n = fb.length := ⟨_, rfl⟩
  rw [← hnf] at hlf hmf HV0 ⊢
  obtain ⟨ca, hca⟩ : ∃ ca, ca = cs.toArray := ⟨_, rfl⟩
  have hsz : ca.size = 19 := by rw [hca]; exact kSes.len hk
  have hsz2 : (Tryz.prog.info? 33).map (·.size) = some ca.size := by rw [hsz]; exact size33
  obtain ⟨Am, cm, hcm, hca18, hvm⟩ := ses_last hk
  rw [← hca] at hca18
  have hmm : x.med.length ≤ 9223372036854775807 := by obtain ⟨_, _, _, _, h⟩ := id hvm; exact h.1
  obtain ⟨nm, hnm⟩ : ∃ n, n = x.med.length := ⟨_, rfl⟩
  rw [← hnm] at hcm hca18 hmm hvm
  have hB1 := below_alloc1 (Below.refl w.heap.size w) (.cells ca 33)
  have HE := Bx.mk hca
  rw [← hca]
  have HZ := Bx.mk hsz2
  have HB1 := Bx.mk hB1
  have HK1 := Bx.mk (K_step hk hB1)
  have HV1 := Bx.mk (HV0.out.step (by decide) hB1)
  have HM := Bx.mk hnm
  have HVM := Bx.mk (hvm.step (by decide) hB1)
  have HG1 := Bx.mk (heap_alloc_new w (.cells ca 33))
  have HC18 := Bx.mk hca18
  have HFF := Bx.mk hF
  have HNF := Bx.mk hnf
  have HG2 := Bx.mk g2
  have HG3 := Bx.mk g3
  have HG4 := Bx.mk g4
  have HT := Bx.mk ht
  have HW := Bx.mk hw
  clear hk hca hsz hsz2 hB1 hnm hvm hca18 hF hnf HV0 g2 g3 g4 ht hw
  go_enter Tryz.func3, Tryz.ntmps3
  go_wp2_with (refine wpList_load_row rfl 33 _ rfl w.heap.size rfl 33 _ (0, 0) _ HG1.out Tryz.underlying33 rfl HZ.out ?_)
  have h1 := fits1K x cs F _ HK1.out
  rw [← HE.out] at h1
  refine h1.mono ?_
  clear h1
  rintro e w2 ⟨hb, b, rfl, hf⟩
  have HB2 := Bx.mk (below_trans HB1.out hb)
  have HK2 := Bx.mk (K_step HK1.out hb)
  have HV2 := Bx.mk (HV1.out.step (by decide) hb)
  have HVM2 := Bx.mk (HVM.out.step (by decide) hb)
  have HG12 := Bx.mk (heap_below hb HG1.out)
  have HF1 := Bx.mk hf
  clear hb hf HB1 HK1 HV1 HVM HG1
  cases b
  · go_wp2
    go_ret
    exact ⟨HB2.out, rfl⟩
  have HFit := Bx.mk (HF1.out rfl)
  clear HF1
  cases hdname : decide ((2147483647 : Int) < (name.size : Int))
  case true =>
    go_wp2
    go_ret
    exact ⟨HB2.out, rfl⟩
  have hname : name.size ≤ 2147483647 := by have := of_decide_eq_false hdname; omega
  cases hdpar : decide ((2147483647 : Int) < (par.size : Int))
  case true =>
    go_wp2
    go_ret
    exact ⟨HB2.out, rfl⟩
  have hpar : par.size ≤ 2147483647 := by have := of_decide_eq_false hdpar; omega
  cases hdfm : decide ((2147483647 : Int) < (fm.size : Int))
  case true =>
    go_wp2
    go_ret
    exact ⟨HB2.out, rfl⟩
  have hfm : fm.size ≤ 2147483647 := by have := of_decide_eq_false hdfm; omega
  go_wp2_with (fail)
  refine (fits3 _ fb F _ HV2.out).mono ?_
  rintro e w' ⟨rfl, b, rfl, hf⟩
  have HF3 := Bx.mk hf
  clear hf
  cases b
  · go_wp2
    go_ret
    exact ⟨HB2.out, rfl⟩
  have HFb := Bx.mk (HF3.out rfl)
  clear HF3
  have HB2' := HB2
  go_wp2_with (refine wpList_load_row rfl 33 _ rfl w.heap.size rfl 33 _ (0, 0) _ HG12.out Tryz.underlying33 rfl HZ.out ?_)
  have h1 := lses x cs F _ HK2.out (fun b h => Nat.lt_of_lt_of_le (HFF.out b h) HB2.out.size) HFit.out
  rw [← HE.out] at h1
  refine h1.mono ?_
  clear h1
  rintro e w3 ⟨hb, cs', rfl, hk'⟩
  obtain ⟨cr, hcr⟩ : ∃ cr, cr = cs'.toArray := ⟨_, rfl⟩
  have hrs : cr.size = 19 := by rw [hcr]; exact kSes.len hk'
  have hsz4 : (Tryz.prog.info? 44).map (·.size) = some cr.size := by rw [hrs]; exact size44
  have hr1 : cr.all (·.oneCell') = true := by rw [hcr]; exact Array.all_eq_true_iff_forall_mem.2 fun u hu => kSes.one hk' u (by simpa using hu)
  have hg0 := heap_alloc_new w3 (.cells #[.int .i64 0, .string ⟨#[]⟩, .int .u64 0, .int .u64 0, .string ⟨#[]⟩, .string ⟨#[]⟩, .string ⟨#[]⟩, .string ⟨#[]⟩, .slice Option.none 0 0, .slice Option.none 0 0, .slice Option.none 0 0, .slice Option.none 0 0, .slice Option.none 0 0, .slice Option.none 0 0, .slice Option.none 0 0, .slice Option.none 0 0, .slice Option.none 0 0, .slice Option.none 0 0, .slice Option.none 0 0] 44)
  rw [← hcr]
  have HER := Bx.mk hcr
  have HZR := Bx.mk hsz4
  have HR1 := Bx.mk hr1
  have HRS := Bx.mk hrs
  have H0 := Bx.mk hg0
  have HKR0 := Bx.mk hk'
  have HB30 := Bx.mk hb
  clear hcr hsz4 hr1 hrs hg0 hk' hb
  go_upto_region 4 with (refine wpList_store_row rfl 44 _ _ rfl w3.heap.size cr rfl rfl 44 _ H0.out HZR.out (by rw [HRS.out]; rfl) HR1.out ?_)
  obtain ⟨W4, hW4⟩ : ∃ W4, W4 = (w3.alloc (.cells #[.int .i64 0, .string ⟨#[]⟩, .int .u64 0, .int .u64 0, .string ⟨#[]⟩, .string ⟨#[]⟩, .string ⟨#[]⟩, .string ⟨#[]⟩, .slice Option.none 0 0, .slice Option.none 0 0, .slice Option.none 0 0, .slice Option.none 0 0, .slice Option.none 0 0, .slice Option.none 0 0, .slice Option.none 0 0, .slice Option.none 0 0, .slice Option.none 0 0, .slice Option.none 0 0, .slice Option.none 0 0] 44)).setRow w3.heap.size cr := ⟨_, rfl⟩
  have hR := setRow_heap _ w3.heap.size _ cr _ _ H0.out
  have hb3 : Below w3.heap.size w3 W4 := by rw [hW4]; exact (below_alloc1 (Below.refl _ _) _).trans ((keep_setRow _ _ _).below (by simp) (Nat.le_refl _))
  rw [← hW4] at hR ⊢
  clear hW4 H0
  have hb2 := below_trans HB30.out hb3
  have HB4 := Bx.mk (below_trans HB2.out hb2)
  have HK4 := Bx.mk (K_step HK2.out hb2)
  have HV4 := Bx.mk (HV2.out.step (by decide) hb2)
  have HVM4 := Bx.mk (HVM2.out.step (by decide) hb2)
  have HG14 := Bx.mk (heap_below hb2 HG12.out)
  have HKR := Bx.mk (K_step HKR0.out hb3)
  have HR := Bx.mk hR
  clear hb2 hb3 HKR0 HB30 HB2 HK2 HV2 HVM2 HG12 HB2' hR HRS HR1
  rw [put_none]
  go_cut [114] (fun s114 wx => ∃ b : Bool, s114 = .bool b ∧ Bx (Below W4.heap.size W4 wx) ∧ (b = false → 0 < nm ∧ (35 ≤ pl ∧ pl ≤ 127) ∧ (1 ≤ rate ∧ rate ≤ 1000000) ∧ nf ≤ 5 ∧ Bx ((x.med.length ≤ 5 ∧ ∀ m ∈ x.med, MedOK m) ∧ IsWord name ∧ (par.size = 0 ∨ IsWord par) ∧ (fm.size = 0 ∨ IsLine fm) ∧ (∀ m ∈ x.med, ∀ a ∈ m.atts, a.key ∉ codecKeys) ∧ up name ∉ statics)))
  case first =>
   as_aux_lemma =>
    go_wp2_with (refine wpList_load_row rfl 44 _ rfl w3.heap.size rfl 44 _ (0, 0) _ HR.out Tryz.underlying44 rfl HZR.out ?_)
    have h1 := sproper x cs' _ _ HKR.out HFit.out
    rw [← HER.out] at h1
    refine h1.mono ?_
    clear h1
    rintro e w5 ⟨hb, b, rfl, hf⟩
    have HB5 := Bx.mk hb
    have hG15 := heap_below hb HG14.out
    have HKR5 := Bx.mk (K_step HKR.out hb)
    have HR5 := Bx.mk (heap_below hb HR.out)
    have c18 := (blk_cell hG15 18).trans HC18.out
    have HPR := Bx.mk hf
    clear hb hf HB4 HK4 HV4 HVM4 HG14 HKR HR hG15
    cases b
    · go_wp2
      go_meet
      case rel => exact ⟨true, rfl, HB5, fun h => absurd h (by simp)⟩
    have HP := Bx.mk (HPR.out rfl)
    clear HPR
    cases hnm0 : ((nm : Int) == 0)
    case true =>
      go_wp2
      go_meet
      case rel => exact ⟨true, rfl, HB5, fun h => absurd h (by simp)⟩
    have h0 : 0 < nm := by have := beq_eq_false_iff_ne.1 hnm0; omega
    cases hd1 : decide (pl < 35)
    case true =>
      go_wp2
      go_meet
      case rel => exact ⟨true, rfl, HB5, fun h => absurd h (by simp)⟩
    have hp1 : 35 ≤ pl := by have := of_decide_eq_false hd1; omega
    cases hd2 : decide ((127 : Int) < pl)
    case true =>
      go_wp2
      go_meet
      case rel => exact ⟨true, rfl, HB5, fun h => absurd h (by simp)⟩
    have hp2 : pl ≤ 127 := by have := of_decide_eq_false hd2; omega
    go_wp2_with (fail)
    refine (word_calls name _ hname).mono ?_
    rintro e w' ⟨rfl, b, rfl, hf⟩
    have HWD := Bx.mk hf
    clear hf
    cases b
    case false =>
      go_wp2
      go_meet
      case rel => exact ⟨true, rfl, HB5, fun h => absurd h (by simp)⟩
    cases hd3 : decide (rate < 1)
    case true =>
      go_wp2
      go_meet
      case rel => exact ⟨true, rfl, HB5, fun h => absurd h (by simp)⟩
    have hr1 : 1 ≤ rate := by have := of_decide_eq_false hd3; omega
    cases hd4 : decide ((1000000 : Int) < rate)
    case true =>
      go_wp2
      go_meet
      case rel => exact ⟨true, rfl, HB5, fun h => absurd h (by simp)⟩
    have hr2 : rate ≤ 1000000 := by have := of_decide_eq_false hd4; omega
    cases hd5 : (!par.toList.isEmpty)
    case false =>
     as_aux_lemma =>
      cases hd6 : (!fm.toList.isEmpty)
      case false =>
       as_aux_lemma =>
        cases hd7 : decide ((5 : Int) < (nf : Int))
        case true =>
          go_wp2
          go_meet
          case rel => exact ⟨true, rfl, HB5, fun h => absurd h (by simp)⟩
        have hf5 : nf ≤ 5 := by have := of_decide_eq_false hd7; omega
        go_wp2_with (refine load_row_g rfl 44 _ rfl w3.heap.size rfl 44 _ (0, 0) _ HR5.out Tryz.underlying44 rfl HZR.out ?_)
        have h1 := scodecs x cs' _ _ HKR5.out HFit.out HP.out.1
        rw [← HER.out] at h1
        refine h1.mono ?_
        clear h1
        rintro e w6 ⟨hb, b, rfl, hf⟩
        have HB6 := Bx.mk (below_trans HB5.out hb)
        have HC := Bx.mk hf
        clear hb hf
        cases b
        case true =>
          go_wp2
          go_meet
          case rel => exact ⟨true, rfl, HB6, fun h => absurd h (by simp)⟩
        go_wp2_with (fail)
        refine (sstatic name _ hname).mono ?_
        rintro e w7 ⟨hb, b, rfl, hf⟩
        have HB7 := Bx.mk (below_trans HB6.out hb)
        have HS := Bx.mk hf
        clear hb hf
        cases b
        case true =>
          go_wp2
          go_meet
          case rel => exact ⟨true, rfl, HB7, fun h => absurd h (by simp)⟩
        go_wp2
        go_meet
        case rel => exact ⟨false, rfl, HB7, fun _ => ⟨h0, ⟨hp1, hp2⟩, ⟨hr1, hr2⟩, hf5, ⟨HP.out, HWD.out (by simp), .inl (size0 hd5), .inl (size0 hd6), HC.out (by simp), HS.out (by simp)⟩⟩⟩
      go_wp2_with (fail)
      refine (line_calls fm _ hfm).mono ?_
      rintro e w' ⟨rfl, b, rfl, hf⟩
      have HFL := Bx.mk hf
      clear hf
      cases b
      case false =>
        go_wp2
        go_meet
        case rel => exact ⟨true, rfl, HB5, fun h => absurd h (by simp)⟩
      cases hd7 : decide ((5 : Int) < (nf : Int))
      case true =>
        go_wp2
        go_meet
        case rel => exact ⟨true, rfl, HB5, fun h => absurd h (by simp)⟩
      have hf5 : nf ≤ 5 := by have := of_decide_eq_false hd7; omega
      go_wp2_with (refine load_row_g rfl 44 _ rfl w3.heap.size rfl 44 _ (0, 0) _ HR5.out Tryz.underlying44 rfl HZR.out ?_)
      have h1 := scodecs x cs' _ _ HKR5.out HFit.out HP.out.1
      rw [← HER.out] at h1
      refine h1.mono ?_
      clear h1
      rintro e w6 ⟨hb, b, rfl, hf⟩
      have HB6 := Bx.mk (below_trans HB5.out hb)
      have HC := Bx.mk hf
      clear hb hf
      cases b
      case true =>
        go_wp2
        go_meet
        case rel => exact ⟨true, rfl, HB6, fun h => absurd h (by simp)⟩
      go_wp2_with (fail)
      refine (sstatic name _ hname).mono ?_
      rintro e w7 ⟨hb, b, rfl, hf⟩
      have HB7 := Bx.mk (below_trans HB6.out hb)
      have HS := Bx.mk hf
      clear hb hf
      cases b
      case true =>
        go_wp2
        go_meet
        case rel => exact ⟨true, rfl, HB7, fun h => absurd h (by simp)⟩
      go_wp2
      go_meet
      case rel => exact ⟨false, rfl, HB7, fun _ => ⟨h0, ⟨hp1, hp2⟩, ⟨hr1, hr2⟩, hf5, ⟨HP.out, HWD.out (by simp), .inl (size0 hd5), .inr (HFL.out (by simp)), HC.out (by simp), HS.out (by simp)⟩⟩⟩
    go_wp2_with (fail)
    refine (word_calls par _ hpar).mono ?_
    rintro e w' ⟨rfl, b, rfl, hf⟩
    have HPW := Bx.mk hf
    clear hf
    cases b
    case false =>
      go_wp2
      go_meet
      case rel => exact ⟨true, rfl, HB5, fun h => absurd h (by simp)⟩
    cases hd6 : (!fm.toList.isEmpty)
    case false =>
     as_aux_lemma =>
      cases hd7 : decide ((5 : Int) < (nf : Int))
      case true =>
        go_wp2
        go_meet
        case rel => exact ⟨true, rfl, HB5, fun h => absurd h (by simp)⟩
      have hf5 : nf ≤ 5 := by have := of_decide_eq_false hd7; omega
      go_wp2_with (refine load_row_g rfl 44 _ rfl w3.heap.size rfl 44 _ (0, 0) _ HR5.out Tryz.underlying44 rfl HZR.out ?_)
      have h1 := scodecs x cs' _ _ HKR5.out HFit.out HP.out.1
      rw [← HER.out] at h1
      refine h1.mono ?_
      clear h1
      rintro e w6 ⟨hb, b, rfl, hf⟩
      have HB6 := Bx.mk (below_trans HB5.out hb)
      have HC := Bx.mk hf
      clear hb hf
      cases b
      case true =>
        go_wp2
        go_meet
        case rel => exact ⟨true, rfl, HB6, fun h => absurd h (by simp)⟩
      go_wp2_with (fail)
      refine (sstatic name _ hname).mono ?_
      rintro e w7 ⟨hb, b, rfl, hf⟩
      have HB7 := Bx.mk (below_trans HB6.out hb)
      have HS := Bx.mk hf
      clear hb hf
      cases b
      case true =>
        go_wp2
        go_meet
        case rel => exact ⟨true, rfl, HB7, fun h => absurd h (by simp)⟩
      go_wp2
      go_meet
      case rel => exact ⟨false, rfl, HB7, fun _ => ⟨h0, ⟨hp1, hp2⟩, ⟨hr1, hr2⟩, hf5, ⟨HP.out, HWD.out (by simp), .inr (HPW.out (by simp)), .inl (size0 hd6), HC.out (by simp), HS.out (by simp)⟩⟩⟩
    go_wp2_with (fail)
    refine (line_calls fm _ hfm).mono ?_
    rintro e w' ⟨rfl, b, rfl, hf⟩
    have HFL := Bx.mk hf
    clear hf
    cases b
    case false =>
      go_wp2
      go_meet
      case rel => exact ⟨true, rfl, HB5, fun h => absurd h (by simp)⟩
    cases hd7 : decide ((5 : Int) < (nf : Int))
    case true =>
      go_wp2
      go_meet
      case rel => exact ⟨true, rfl, HB5, fun h => absurd h (by simp)⟩
    have hf5 : nf ≤ 5 := by have := of_decide_eq_false hd7; omega
    go_wp2_with (refine load_row_g rfl 44 _ rfl w3.heap.size rfl 44 _ (0, 0) _ HR5.out Tryz.underlying44 rfl HZR.out ?_)
    have h1 := scodecs x cs' _ _ HKR5.out HFit.out HP.out.1
    rw [← HER.out] at h1
    refine h1.mono ?_
    clear h1
    rintro e w6 ⟨hb, b, rfl, hf⟩
    have HB6 := Bx.mk (below_trans HB5.out hb)
    have HC := Bx.mk hf
    clear hb hf
    cases b
    case true =>
      go_wp2
      go_meet
      case rel => exact ⟨true, rfl, HB6, fun h => absurd h (by simp)⟩
    go_wp2_with (fail)
    refine (sstatic name _ hname).mono ?_
    rintro e w7 ⟨hb, b, rfl, hf⟩
    have HB7 := Bx.mk (below_trans HB6.out hb)
    have HS := Bx.mk hf
    clear hb hf
    cases b
    case true =>
      go_wp2
      go_meet
      case rel => exact ⟨true, rfl, HB7, fun h => absurd h (by simp)⟩
    go_wp2
    go_meet
    case rel => exact ⟨false, rfl, HB7, fun _ => ⟨h0, ⟨hp1, hp2⟩, ⟨hr1, hr2⟩, hf5, ⟨HP.out, HWD.out (by simp), .inr (HPW.out (by simp)), .inr (HFL.out (by simp)), HC.out (by simp), HS.out (by simp)⟩⟩⟩
  case rest =>
    obtain ⟨b, rfl, hb5, hfa⟩ := hcut
    have HB6 := Bx.mk (below_trans HB4.out hb5.out)
    have HK6 := Bx.mk (K_step HK4.out hb5.out)
    have HV6 := Bx.mk (HV4.out.step (by decide) hb5.out)
    have HVM6 := Bx.mk (HVM4.out.step (by decide) hb5.out)
    have HG16 := Bx.mk (heap_below hb5.out HG14.out)
    clear hb5 HB4 HK4 HV4 HVM4 HG14 HR HKR HZR HER
    cases b
    case true =>
      clear hfa
      go_wp2_with (fail)
      refine (HW.out _ HB6.out).mono ?_
      rintro e wz ⟨hbz, rfl⟩
      have HBZ := Bx.mk (below_trans HB6.out hbz)
      clear hbz
      go_wp2
      go_ret
      exact ⟨HBZ.out, rfl⟩
    obtain ⟨h0, ⟨hp1, hp2⟩, ⟨hr1, hr2⟩, hf5, HPF⟩ := hfa rfl
    clear hfa
    obtain ⟨p, rfl⟩ : ∃ p : Nat, pl = p := ⟨pl.toNat, by omega⟩
    obtain ⟨r, rfl⟩ : ∃ r : Nat, rate = r := ⟨rate.toNat, by omega⟩
    have HCD : Bx (CdArg p ⟨name, r, par, fm, fb⟩) := ⟨{ p1 := by omega, p2 := by omega, name := HPF.out.2.1, nsz := hname, r1 := by show 1 ≤ r; omega, r2 := by show r ≤ 1000000; omega, par := HPF.out.2.2.1, psz := hpar, fm := HPF.out.2.2.2.1, fsz := hfm, fb := by show fb.length ≤ 5; rw [← HNF.out]; exact hf5, fbs := HFb.out.2, st := HPF.out.2.2.2.2.2 }⟩
    have hwp : IntKind.u64.wrap (p : Int) = p := IntWalk.u64_in _ (by omega)
    have hwr : IntKind.u64.wrap (r : Int) = r := IntWalk.u64_in _ (by omega)
    go_wp2_with (fail)
    refine (decimal_calls p (by omega) _).mono ?_
    rintro e w7 ⟨hb, rfl⟩
    have HB7 := Bx.mk (below_trans HB6.out hb)
    have HK7 := Bx.mk (K_step HK6.out hb)
    have HV7 := Bx.mk (HV6.out.step (by decide) hb)
    have HVM7 := Bx.mk (HVM6.out.step (by decide) hb)
    have HG17 := Bx.mk (heap_below hb HG16.out)
    clear hb HB6 HK6 HV6 HVM6 HG16
    obtain ⟨dp, hdp⟩ : ∃ s : ByteArray, s = ⟨(dec p).toArray⟩ := ⟨_, rfl⟩
    have hsp : dp.size ≤ 128 := by rw [hdp]; have := dec_len p; show (dec p).toArray.size ≤ _; rw [List.size_toArray]; omega
    rw [← hdp]
    have HDP := Bx.mk hdp
    clear hdp
    go_wp2_with (fail)
    refine (decimal_calls r (by omega) _).mono ?_
    rintro e w8 ⟨hb, rfl⟩
    have HB8 := Bx.mk (below_trans HB7.out hb)
    have HK8 := Bx.mk (K_step HK7.out hb)
    have HV8 := Bx.mk (HV7.out.step (by decide) hb)
    have HVM8 := Bx.mk (HVM7.out.step (by decide) hb)
    have HG18 := Bx.mk (heap_below hb HG17.out)
    clear hb HB7 HK7 HV7 HVM7 HG17
    obtain ⟨dr, hdr⟩ : ∃ s : ByteArray, s = ⟨(dec r).toArray⟩ := ⟨_, rfl⟩
    have hsr : dr.size ≤ 1000001 := by rw [hdr]; have := dec_len r; show (dec r).toArray.size ≤ _; rw [List.size_toArray]; omega
    rw [← hdr]
    have HDR := Bx.mk hdr
    clear hdr
    go_upto_region 8 with fail
    go_cut [129] (fun s129 wx => s129 = .bool (!par.toList.isEmpty) ∧ w8 = wx)
    case first => as_aux_lemma =>
      go_wp2
      go_meet
      case rel => exact ⟨rfl, rfl⟩
    case rest =>
    as_aux_lemma =>
    go_upto_region 11 with fail
    obtain ⟨rfl, rfl⟩ := hcut
    go_cut [17] (fun s17 wx => s17 = .string (mapAtt p ⟨name, r, par, fm, fb⟩).val ∧ w8 = wx)
    case first => as_aux_lemma =>
      cases hd5 : (!par.toList.isEmpty)
      · go_wp2
        go_meet
        case rel => exact ⟨congrArg Value.string (map_val0 HDP.out HDR.out (size0 hd5)), rfl⟩
      · have hne : par.size ≠ 0 := fun h => by rw [toList_isEmpty, h] at hd5; simp at hd5
        go_wp2
        go_meet
        case rel => exact ⟨congrArg Value.string (map_val1 HDP.out HDR.out hne), rfl⟩
    case rest =>
    as_aux_lemma =>
    go_upto_region 11 with fail
    obtain ⟨rfl, rfl⟩ := hcut
    have hO9 : kAtt.Own 51 (w8.alloc (.cells #[.string ⟨#[114, 116, 112, 109, 97, 112]⟩, .string (mapAtt p ⟨name, r, par, fm, fb⟩).val] 51)) w8.heap.size (fun b => w8.heap.size ≤ b) (.slice (some ⟨w8.heap.size, 0, Option.none⟩) 1 1) [(mapAtt p ⟨name, r, par, fm, fb⟩)] := own_one kAtt 51 w8 w8.heap.size _ (mapAtt p ⟨name, r, par, fm, fb⟩) [.string ⟨#[114, 116, 112, 109, 97, 112]⟩, .string (mapAtt p ⟨name, r, par, fm, fb⟩).val] (Nat.le_refl _) (Nat.le_refl _) (kAtt_mk _ _ _)
    have hB9 := below_alloc1 (Below.refl w8.heap.size w8) (.cells #[.string ⟨#[114, 116, 112, 109, 97, 112]⟩, .string (mapAtt p ⟨name, r, par, fm, fb⟩).val] 51)
    obtain ⟨W9, hW9⟩ : ∃ W9, W9 = w8.alloc (.cells #[.string ⟨#[114, 116, 112, 109, 97, 112]⟩, .string (mapAtt p ⟨name, r, par, fm, fb⟩).val] 51) := ⟨_, rfl⟩
    rw [← hW9] at hO9 hB9 ⊢
    have HO9 := Bx.mk hO9
    have HB9 := Bx.mk hB9
    clear hO9 hB9 hW9
    go_cut [138] (fun s138 wx => s138 = .bool (!fm.toList.isEmpty) ∧ W9 = wx)
    case first => as_aux_lemma =>
      go_wp2
      go_meet
      case rel => exact ⟨rfl, rfl⟩
    case rest =>
    as_aux_lemma =>
    go_upto_region 13 with fail
    obtain ⟨rfl, rfl⟩ := hcut
    go_cut [18] (fun s18 wx => Bx (LSt w8 wx s18 ((mapAtt p ⟨name, r, par, fm, fb⟩) :: (if fm.size = 0 then [] else [fmtpAtt p fm]))))
    case first => as_aux_lemma =>
      cases hd6 : (!fm.toList.isEmpty)
      · have e : (if fm.size = 0 then [] else [fmtpAtt p fm]) = [] := if_pos (size0 hd6)
        have HX : Bx (LSt w8 W9 (.slice (some ⟨w8.heap.size, 0, Option.none⟩) 1 1) ((mapAtt p ⟨name, r, par, fm, fb⟩) :: (if fm.size = 0 then [] else [fmtpAtt p fm]))) := ⟨HB9.out, _, _, _, rfl, by rw [e]; rfl, by rw [e]; exact HO9.out⟩
        clear e
        go_wp2
        go_meet
        case rel => exact HX
      · have hne : fm.size ≠ 0 := fun h => by rw [toList_isEmpty, h] at hd6; simp at hd6
        have e : (if fm.size = 0 then [] else [fmtpAtt p fm]) = [fmtpAtt p fm] := if_neg hne
        have HE2 := Bx.mk e
        have HNE := Bx.mk hne
        clear e hne
        go_wp2_with (at_builtin; refine app_row (w := w8) (B := w8.heap.size) kAtt (fun b => w8.heap.size ≤ b) ?hgd (.tmp 139) (.tmp 145) 30 51 (.agg #[.string ⟨#[]⟩, .string ⟨#[]⟩]) 32 ?ho Tryz.underlying30 info51 ?hz (by decide) (by decide) (by decide) (.slice (some ⟨w8.heap.size, 0, Option.none⟩) 1 1) [(mapAtt p ⟨name, r, par, fm, fb⟩)] (fmtpAtt p fm) [.string ⟨#[102, 109, 116, 112]⟩, .string (dp ++ ⟨#[32]⟩ ++ fm)] 1 rfl W9.heap.size ?hs ?hx ?hn ?hp HO9 HB9 (Nat.le_refl _) HB9.out.size (fun _ h => h) (by decide) ?h; (case hp => exact ⟨by rw [fm_val HDP.out]; exact kAtt_mk _ _ _⟩); (case hgd => rfl); (case ho => rfl); (case hz => rfl); (case hs => rfl); (case hx => rfl); (case hn => rfl); intro A1 c1 w1 HO2 HB2 HG2)
        go_meet
        case rel => exact ⟨HB2.out, _, _, _, rfl, by rw [HE2.out]; rfl, by rw [HE2.out]; exact HO2.out⟩
    case rest =>
    as_aux_lemma =>
    go_upto_region 13 with fail
    obtain ⟨hb10, A0, n0, k0, rfl, hl0, hO0⟩ := hcut.out
    have HL0 : Bx (LSt w8 wc (.slice A0 n0 k0) ((mapAtt p ⟨name, r, par, fm, fb⟩) :: (if fm.size = 0 then [] else [fmtpAtt p fm]))) := ⟨hb10, A0, n0, k0, rfl, hl0, hO0⟩
    clear hcut hb10 hl0 hO0 HO9 HB9
    obtain ⟨base, hbase⟩ : ∃ l, l = ((mapAtt p ⟨name, r, par, fm, fb⟩) :: (if fm.size = 0 then [] else [fmtpAtt p fm])) := ⟨_, rfl⟩
    rw [← hbase] at HL0
    have HBASE := Bx.mk hbase
    clear hbase
    go_wp2
    go_loopw [18, 149] (fun l i wr => ∃ k : Nat, k ≤ nf ∧ i = .int .i64 k ∧ Bx (LSt w8 wr l (base ++ (fb.take k).map (fbAtt p)))) (fun _ i _ => nf - (intOf i).toNat)
    case atStart => exact ⟨0, Nat.zero_le _, rfl, ⟨by simpa using HL0.out⟩⟩
    case round =>
      obtain ⟨k, hk, rfl, hL⟩ := hrel
      obtain ⟨hbL, AL, nL, kL, rfl, hlL, hOL⟩ := hL.out
      have HBL := Bx.mk hbL
      have HOL := Bx.mk hOL
      have HLL := Bx.mk hlL
      clear hL hbL hOL hlL
      by_cases hlt : k < nf
      · have hlt2 : k < fb.length := by rw [← HNF.out]; exact hlt
        obtain ⟨ad, rfl, hcell⟩ := str_cell (HV8.out.step (by decide) HBL.out) k hlt2
        obtain ⟨f, hf⟩ : ∃ f, f = fb[k] := ⟨_, rfl⟩
        have hfs : f.size ≤ 2147483647 := by rw [hf]; exact HFb.out.2 _ (List.getElem_mem hlt2)
        rw [← hf] at hcell
        have HF := Bx.mk hf
        have HLT := Bx.mk hlt2
        clear hf
        go_wp2_with (fail)
        refine (line_calls f _ hfs).mono ?_
        rintro e w' ⟨rfl, b, rfl, hf⟩
        clear hf
        cases b
        · go_wp2_with (fail)
          refine (HW.out _ (below_trans HB8.out HBL.out)).mono ?_
          rintro e wz ⟨hbz, rfl⟩
          have HBZ := Bx.mk (below_trans (below_trans HB8.out HBL.out) hbz)
          clear hbz
          go_wp2
          go_ret
          exact ⟨HBZ.out, rfl⟩
        have hnL : nL + 1 ≤ 2147483648 := by
          have h1 := HLL.out
          rw [List.length_append, List.length_map, List.length_take, HBASE.out, List.length_cons] at h1
          split at h1 <;> simp at h1 <;> omega
        go_wp2_with (at_builtin; refine app_row (w := w8) (B := w8.heap.size) kAtt (fun b => w8.heap.size ≤ b) ?hgd (.tmp 157) (.tmp 163) 30 51 (.agg #[.string ⟨#[]⟩, .string ⟨#[]⟩]) 32 ?ho Tryz.underlying30 info51 ?hz (by decide) (by decide) (by decide) (.slice AL nL kL) (base ++ (fb.take k).map (fbAtt p)) (fbAtt p f) [.string ⟨#[114, 116, 99, 112, 45, 102, 98]⟩, .string (dp ++ ⟨#[32]⟩ ++ f)] nL HLL.out wr.heap.size ?hs ?hx ?hn ?hp HOL HBL (Nat.le_refl _) HBL.out.size (fun _ h => h) hnL ?h; (case hp => exact ⟨by rw [fb_val HDP.out]; exact kAtt_mk _ _ _⟩); (case hgd => rfl); (case ho => rfl); (case hz => rfl); (case hs => rfl); (case hx => rfl); (case hn => rfl); intro A1 c1 w1 HO2 HB2 HG2)
        have HX : Bx (LSt w8 w1 (.slice A1 (nL + 1) c1) (base ++ (fb.take (k + 1)).map (fbAtt p))) := by
          have e : base ++ (fb.take (k + 1)).map (fbAtt p) = base ++ (fb.take k).map (fbAtt p) ++ [fbAtt p f] := by rw [← take_snoc fb k HLT.out, ← HF.out]; simp
          rw [e]
          exact ⟨HB2.out, _, _, _, rfl, by rw [List.length_append, HLL.out]; rfl, HO2.out⟩
        clear HO2 HB2 HG2 HOL HBL
        go_roundw
        case rel => first | exact ⟨k + 1, by omega, by go_num, HX⟩ | ((repeat apply Exists.intro); exact ⟨⟨k + 1, by omega, by go_num, HX⟩, rfl⟩)
        case measure => simp [intOf]; omega
      · obtain rfl : k = nf := by omega
        have hex : base ++ (fb.take k).map (fbAtt p) = exAtts p ⟨name, r, par, fm, fb⟩ := by rw [HBASE.out, HNF.out, List.take_length]; rfl
        rw [hex] at HOL HLL
        clear hex HBASE HL0
        go_upto_region 20 with fail
        have hx0 : 0 < x.med.length := by rw [← HM.out]; exact h0
        have HBr := Bx.mk (below_trans HB8.out HBL.out)
        have HKr := Bx.mk (K_step HK8.out HBL.out)
        have HVr := Bx.mk (HV8.out.step (by decide) HBL.out)
        have HVMr := Bx.mk (HVM8.out.step (by decide) HBL.out)
        have hG1r := heap_below HBL.out HG18.out
        have c18 := (blk_cell hG1r 18).trans HC18.out
        have HG1r := Bx.mk hG1r
        obtain ⟨Am', cm', he, hlm, hrow⟩ := HVMr.out
        simp only [Value.slice.injEq] at he
        obtain ⟨rfl, -, rfl⟩ := he
        obtain ⟨ad, Av2, cv2, Av3, cv3, Av4, cv4, Av5, cv5, Av6, cv6, Av7, cv7, Av8, cv8, Av9, cv9, rfl, q0, q1, q2, q3, q4, q5, q6, q7, q8, q9, r2, r3, r4, r5, r6, r7, r8, r9⟩ := med_get hrow 0 hx0
        clear hG1r hrow HB8 HK8 HV8 HVM8 HG18
        have e0 : ad.add (0 * 10) = ad := rfl
        rw [e0] at q0 q1 q2 q3 q4 q5 q6 q7 q8 q9
        obtain ⟨m, hm⟩ : ∃ m, m = x.med[0] := ⟨_, rfl⟩
        rw [← hm] at q0 q1 q2 q3 q4 q5 q6 q7 q8 q9 r2 r3 r4 r5 r6 r7 r8 r9
        have HKM := Bx.mk (kMed_mk m r2 r3 r4 r5 r6 r7 r8 r9)
        have HMM := Bx.mk hm
        have H0 := Bx.mk (heap_alloc_new wr (.cells #[.string ⟨#[]⟩, .int .i64 0, .slice Option.none 0 0, .slice Option.none 0 0, .slice Option.none 0 0, .slice Option.none 0 0, .slice Option.none 0 0, .slice Option.none 0 0, .slice Option.none 0 0, .slice Option.none 0 0] 54))
        clear hm r2 r3 r4 r5 r6 r7 r8 r9 e0
        go_upto_region 21 with (refine wpList_store_row rfl 54 _ _ rfl wr.heap.size #[.string m.name, .int .i64 m.port, .slice Av2 m.ports.length cv2, .slice Av3 m.protos.length cv3, .slice Av4 m.formats.length cv4, .slice Av5 m.title.length cv5, .slice Av6 m.con.length cv6, .slice Av7 m.bw.length cv7, .slice Av8 m.key.length cv8, .slice Av9 m.atts.length cv9] rfl rfl 54 _ H0.out size54 rfl (by simp [Value.oneCell']) ?_)
        obtain ⟨W10, hW10⟩ : ∃ W10, W10 = (wr.alloc (.cells #[.string ⟨#[]⟩, .int .i64 0, .slice Option.none 0 0, .slice Option.none 0 0, .slice Option.none 0 0, .slice Option.none 0 0, .slice Option.none 0 0, .slice Option.none 0 0, .slice Option.none 0 0, .slice Option.none 0 0] 54)).setRow wr.heap.size #[.string m.name, .int .i64 m.port, .slice Av2 m.ports.length cv2, .slice Av3 m.protos.length cv3, .slice Av4 m.formats.length cv4, .slice Av5 m.title.length cv5, .slice Av6 m.con.length cv6, .slice Av7 m.bw.length cv7, .slice Av8 m.key.length cv8, .slice Av9 m.atts.length cv9] := ⟨_, rfl⟩
        have hR := setRow_heap _ wr.heap.size _ #[.string m.name, .int .i64 m.port, .slice Av2 m.ports.length cv2, .slice Av3 m.protos.length cv3, .slice Av4 m.formats.length cv4, .slice Av5 m.title.length cv5, .slice Av6 m.con.length cv6, .slice Av7 m.bw.length cv7, .slice Av8 m.key.length cv8, .slice Av9 m.atts.length cv9] _ _ H0.out
        have hb3 : Below wr.heap.size wr W10 := by rw [hW10]; exact (below_alloc1 (Below.refl _ _) _).trans ((keep_setRow _ _ _).below (by simp) (Nat.le_refl _))
        rw [← hW10] at hR ⊢
        clear hW10 H0 c18 q0 q1 q2 q3 q4 q5 q6 q7 q8 q9
        have HB10 := Bx.mk (below_trans HBr.out hb3)
        have HK10 := Bx.mk (K_step HKr.out hb3)
        have HV10 := Bx.mk (HVr.out.step (by decide) hb3)
        have HVM10 := Bx.mk (HVMr.out.step (by decide) hb3)
        have HG110 := Bx.mk (heap_below hb3 HG1r.out)
        have HKM10 := Bx.mk (K_step HKM.out hb3)
        have HX10 := Bx.mk ((HOL.out.reads.step (by decide) hb3).mono (F' := fun _ => True) fun _ _ => trivial)
        have HR10 := Bx.mk hR
        have HLE := Bx.mk hb3.size
        have hn1 : m.atts.length ≤ 20 := by rw [HMM.out]; exact (HPF.out.1.2 _ (List.getElem_mem hx0)).2
        have hn2 : nL ≤ 7 := by have h1 := HLL.out; have h2 := fb_len p ⟨name, r, par, fm, fb⟩ (by show fb.length ≤ 5; rw [← HNF.out]; exact hf5); omega
        obtain ⟨A9', c9', hl9, e9, hs9⟩ := med_last HKM10.out
        have hq9 : A9' = Av9 ∧ c9' = cv9 := by
          have : some (Value.slice Av9 m.atts.length cv9) = some (Value.slice A9' m.atts.length c9') := e9
          simp only [Option.some.injEq, Value.slice.injEq, true_and] at this
          exact ⟨this.1.symm, this.2.symm⟩
        obtain ⟨rfl, rfl⟩ := hq9
        have HS9 := Bx.mk (hs9.mono (F' := fun _ => True) fun _ _ => trivial)
        have c9 := (blk_cell hR 9).trans e9
        have HGW := Bx.mk (blk_lt HG1r.out)
        clear hb3 hR HBr HKr HVr HVMr HG1r HKM e9 hs9 hl9
        rw [put_none]
        have HOe : Bx (kAtt.Own 51 (W10.alloc (.cells #[] 51)) W10.heap.size (fun b => W10.heap.size ≤ b) (.slice (some ⟨W10.heap.size, 0, Option.none⟩) 0 0) []) := ⟨Own.empty kAtt 51 W10 W10.heap.size _ (Nat.le_refl _) (Nat.le_refl _)⟩
        have HBe := Bx.mk (below_alloc1 (Below.refl W10.heap.size W10) (.cells #[] 51))
        have HS9e := Bx.mk (HS9.out.step (by decide) HBe.out)
        have c9e := cell_below HBe.out c9
        clear HS9 c9
        go_upto_region 22 with (first
          | (at_builtin; refine app_all (w := W10) (B := W10.heap.size) kAtt (fun b => W10.heap.size ≤ b) (fun _ => True) ?hgd (.tmp 170) (.tmp 172) 30 51 (.agg #[.string ⟨#[]⟩, .string ⟨#[]⟩]) 32 ?ho Tryz.underlying30 info51 ?hz (by decide) (by decide) (by decide) (.slice (some ⟨W10.heap.size, 0, Option.none⟩) 0 0) [] m.atts 0 rfl A9' m.atts.length c9' rfl ?hs ?hx ⟨HS9e.out⟩ ?hF HOe HBe (Nat.le_refl _) HBe.out.size (fun _ h => h) (by omega) ?h; (case hF => exact fun x cs h => by obtain rfl := kAtt_open h; exact kAtt_mk _ _ _); (case hgd => rfl); (case ho => rfl); (case hz => rfl); (case hs => rfl); (case hx => rfl); intro A1 c1 w1 HO1' HBa HGa; have HO1 : Bx (kAtt.Own 51 w1 W10.heap.size (fun b => W10.heap.size ≤ b) (.slice A1 m.atts.length c1) m.atts) := ⟨by have h := HO1'.out; rw [Nat.zero_add, List.nil_append] at h; exact h⟩; have HXa := Bx.mk (HX10.out.step (by decide) HBa.out))
          | (at_builtin; refine app_all (w := W10) (B := W10.heap.size) kAtt (fun b => W10.heap.size ≤ b) (fun _ => True) ?hgdq (.tmp 173) (.tmp 174) 30 51 (.agg #[.string ⟨#[]⟩, .string ⟨#[]⟩]) 32 ?hoq Tryz.underlying30 info51 ?hzq (by decide) (by decide) (by decide) (.slice A1 m.atts.length c1) m.atts (exAtts p ⟨name, r, par, fm, fb⟩) m.atts.length rfl AL nL kL HLL.out ?hsq ?hxq ⟨HXa.out⟩ ?hFq HO1 HBa (Nat.le_refl _) HBa.out.size (fun _ h => h) (by omega) ?hq; (case hFq => exact fun x cs h => by obtain rfl := kAtt_open h; exact kAtt_mk _ _ _); (case hgdq => rfl); (case hoq => rfl); (case hzq => rfl); (case hsq => rfl); (case hxq => rfl); intro A2 c2 w2 HO2 HBb HGb; have hR2 := heap_below HBb.out HR10.out; have c9b : w2.cell? ⟨wr.heap.size, 9, Option.none⟩ = some (.slice A9' m.atts.length c9') := (blk_cell hR2 9).trans rfl; have f9b := blk_frozen hR2 9))
        obtain ⟨ms, hms⟩ := cons_of_pos hx0
        rw [← HMM.out] at hms
        obtain ⟨cM, hcM, hKM⟩ := newMed_K HKM10.out HFF.out HGW.out (Nat.lt_trans HGW.out (blk_lt HR10.out)) HBb.out HO2.out (blk_lt HR10.out)
        obtain ⟨cMa, hcMa⟩ : ∃ c, c = cM.toArray := ⟨_, rfl⟩
        have HMZ : Bx (cMa.size = 10) := ⟨by rw [hcMa, List.size_toArray]; exact kMed.len hKM⟩
        have hG10 := heap_below HBb.out HG110.out
        have hK10 := K_step HK10.out HBb.out
        have hV10 := HV10.out.step (by decide) HBb.out
        have hS10 := HVM10.out.step (by decide) HBb.out
        have hb10 := below_trans HB10.out HBb.out
        have hk11 : Keep wr.heap.size w2 (w2.setCell ⟨wr.heap.size, 9, Option.none⟩ (.slice A2 (m.atts.length + nL) c2)) := Keep.set _
        have hM11 := blk_set (heap_below HBb.out HR10.out) 9 (.slice A2 (m.atts.length + nL) c2)
        rw [hcM, ← hcMa] at hM11
        obtain ⟨W11, hW11⟩ : ∃ W, W = w2.setCell ⟨wr.heap.size, 9, Option.none⟩ (.slice A2 (m.atts.length + nL) c2) := ⟨_, rfl⟩
        rw [← hW11] at hM11 hk11 hKM ⊢
        have hne : ∀ b, F b → b ≠ wr.heap.size := fun b h => by have := HFF.out b h; have := HGW.out; omega
        have HM11 := Bx.mk hM11
        have HMS : Bx ((Tryz.prog.info? 54).map (·.size) = some cMa.size) := ⟨by rw [HMZ.out]; exact size54⟩
        have HKM := Bx.mk hKM
        have HcMa := Bx.mk hcMa
        have HG11 := Bx.mk ((hk11.block w.heap.size (blk_lt hG10) (Nat.ne_of_lt HGW.out)).trans hG10)
        have HG11L := Bx.mk (blk_lt HG11.out)
        have HK11 := Bx.mk (K_keep hK10 hne hk11)
        have HV11 := Bx.mk (hV10.keep (by decide) hne hk11)
        have HB11 := Bx.mk (hb10.trans (hk11.below hb10.size (Nat.le_of_lt HGW.out)))
        have hS11 := hS10.keep (by decide) hne hk11
        have hnm : nm = ms.length + 1 := by rw [HM.out, hms]; rfl
        rw [hms, hnm] at hS11
        have hS12 := sv_tail hS11
        have HMS5 : Bx (ms.length ≤ 4) := ⟨by have h := HPF.out.1.1; rw [hms] at h; simp at h; omega⟩
        have HMS2 : Bx (kMed.SV F W11 (.slice (if cm = 1 then some ad else some ⟨ad.block, ad.off + 10, Option.none⟩) (nm - 1) (cm - 1)) ms) := ⟨by rw [hnm, Nat.add_sub_cancel]; exact hS12⟩
        have HMSE := Bx.mk hms
        have HNM := Bx.mk hnm
        clear hms hcM hKM hcMa hG10 hK10 hV10 hS10 hb10 hk11 hM11 hW11 hne hS11 hS12 hnm HOe HBe HS9e HO1 HBa HGa HXa HO2 HBb HGb hR2 c9b f9b HKM10 HX10 HR10 HG110 HK10 HV10 HVM10 HB10
        refine region_rule2 (by kernel_rfl) (by kernel_rfl) (by kernel_rfl) (fun f => #[Value.agg ca, Value.int IntKind.i64 ↑p, Value.string name, Value.int IntKind.i64 ↑r, Value.string par, Value.string fm, Value.slice Af k cf, Value.pointer (some { block := w.heap.size, off := 0 }), undef, undef, undef, undef, undef, undef, u14, Value.pointer (some { block := w3.heap.size, off := 0 }), Value.string dp, Value.string (mapAtt p { name := name, rate := r, par := par, fm := fm, fb := fb }).val, Value.slice AL nL kL, undef, u20, Value.pointer (some { block := wr.heap.size, off := 0 }), undef, undef, undef, undef, undef, undef, undef, u29, u30, u31, u32, u33, u34, u35, u36, u37, u38, u39, u40, u41, u42, u43, u44, u45, u46, u47, u48, u49, u50, u51, u52, u53, u54, u55, u56, u57, u58, u59, u60, u61, u62, u63, u64, u65, u66, u67, u68, u69, u70, u71, u72, u73, u74, u75, u76, u77, u78, u79, u80, u81, u82, u83, u84, u85, u86, u87, u88, u89, u90, u91, u92, u93, u94, u95, u96, u97, u98, u99, u100, u101, u102, u103, u104, u105, u106, u107, u108, u109, u110, u111, u112, u113, u114, u115, u116, u117, u118, u119, u120, u121, u122, u123, u124, u125, u126, u127, u128, u129, u130, u131, u132, u133, u134, u135, u136, u137, u138, u139, u140, u141, u142, u143, u144, u145, u146, Value.slice Af k cf, Value.int IntKind.i64 ↑k, Value.int IntKind.i64 ↑k, Value.bool false, u151, u152, u153, u154, u155, u156, u157, u158, u159, u160, u161, u162, u163, u164, u165, Value.pointer (some { block := w.heap.size, off := 18 }), Value.slice (some ad) nm cm, Value.pointer (some ad), Value.agg #[Value.string m.name, Value.int IntKind.i64 m.port, Value.slice Av2 m.ports.length cv2, Value.slice Av3 m.protos.length cv3, Value.slice Av4 m.formats.length cv4, Value.slice Av5 m.title.length cv5, Value.slice Av6 m.con.length cv6, Value.slice Av7 m.bw.length cv7, Value.slice Av8 m.key.length cv8, Value.slice A9' m.atts.length c9'], Value.slice (some { block := W10.heap.size, off := 0 }) 0 0, Value.pointer (some { block := wr.heap.size, off := 9 }), Value.slice A9' m.atts.length c9', Value.slice A1 m.atts.length c1, Value.slice AL nL kL, Value.slice A2 (m.atts.length + nL) c2, Value.pointer (some { block := wr.heap.size, off := 9 }), f 177, f 178, f 179, f 180, f 181, f 182, f 183, u184, u185, u186, u187, u188, u189, u190, u191, u192, u193, u194, u195, u196, u197, u198, u199, u200, u201, u202, u203, u204, u205, u206, u207, u208, u209, u210, u211, u212, u213, u214, u215, u216, u217, u218, u219, u220, u221, u222, u223, u224, u225, u226, u227, u228, u229, u230, u231, u232, u233, u234, u235, u236, undef, undef, undef, u240, u241, u242, u243, u244, u245, u246, u247, u248, u249, u250, u251, u252, u253, u254, u255, u256, u257, u258, u259, u260, u261, u262, u263, u264, u265, u266, u267, u268]) (fun f => by kernel_rfl) (fun i => match i with | 2 => some (.pointer (some ⟨w.heap.size, 18, Option.none⟩)) | 6 => some (.pointer (some ⟨w.heap.size, 18, Option.none⟩)) | 0 => some (.agg cMa) | 3 => some (.slice (some ad) nm cm) | 4 => some (.slice (if cm = 1 then some ad else some ⟨ad.block, ad.off + 10, Option.none⟩) (nm - 1) (cm - 1)) | _ => Option.none) (fun d f w' => (d 7 = false → Below W11.heap.size W11 w') ∧ (d 1 = true → d 5 = false → ∃ n, f 178 = .slice (some ⟨n, 0, Option.none⟩) 1 1 ∧ kMed.Own 54 w' W11.heap.size (FN F w.heap.size) (.slice (some ⟨n, 0, Option.none⟩) 1 1) [newMed m p ⟨name, r, par, fm, fb⟩]) ∧ (d 5 = true → d 7 = false → ∃ A c, f 182 = .slice A (1 + (nm - 1)) c ∧ kMed.Own 54 w' W11.heap.size (FN F w.heap.size) (.slice A (1 + (nm - 1)) c) ([newMed m p ⟨name, r, par, fm, fb⟩] ++ ms)) ∧ (d 7 = true → ∃ A c W, Below W11.heap.size W11 W ∧ w' = W.setCell ⟨w.heap.size, 18, Option.none⟩ (.slice A (1 + (nm - 1)) c) ∧ kMed.Own 54 W W11.heap.size (FN F w.heap.size) (.slice A (1 + (nm - 1)) c) ([newMed m p ⟨name, r, par, fm, fb⟩] ++ ms))) ?_ ?_ ?_
        · exact ⟨fun _ => Below.drew (Below.refl _ _), fun h => (by cases h), fun h => (by cases h), fun h => (by cases h)⟩
        · intro i o ho d a wx hdi hdep hcl hfr hT hSp
          match i, ho with
          | 0, ho =>
            rw [← Array.getElem?_toList] at ho
            simp only [List.getElem?_cons_zero, Option.some.injEq] at ho
            subst ho
            have e21 : a.tmps[21]?.getD undef = .pointer (some ⟨wr.heap.size, 0, Option.none⟩) := (eval_tmp a 21).trans (hfr 21 (by decide +kernel))
            have h7 : d 7 = false := not_yet hcl hdi (j := 7) (p := 3) rfl rfl rfl rfl
            have hd := heap_below (hSp.1 h7) HM11.out
            clear hdi hdep hfr hT hcl h7
            refine op_val rfl rfl (.agg cMa) (fun K' hK => ?_) ⟨_, rfl, fun u hu => by cases hu; rfl, hSp⟩
            clear hSp
            exact oper_of_list (ops := #[]) rfl (fun Q' hQ' => wpList_load_row rfl 54 _ rfl wr.heap.size ((eval_tmp a 21).symm.trans e21) 54 _ (0, 0) _ hd Tryz.underlying54 rfl HMS.out (wpList_nil (hQ' _ _ hK)))
          | 1, ho =>
            rw [← Array.getElem?_toList] at ho
            simp only [List.getElem?_cons_zero, List.getElem?_cons_succ, Option.some.injEq] at ho
            subst ho
            have e177 := (eval_tmp a 177).trans (hT 0 _ 177 _ rfl rfl rfl (hdep _ (Array.mem_of_getElem? (i := 0) rfl) rfl))
            have h5 : d 5 = false := not_yet hcl hdi (j := 5) (p := 0) rfl rfl rfl rfl
            have h7 : d 7 = false := not_yet hcl h5 (j := 7) (p := 1) rfl rfl rfl rfl
            clear hdep hfr hT hcl
            refine op_gen rfl rfl (fun v w' => v = .slice (some ⟨wx.heap.size, 0, Option.none⟩) 1 1 ∧ w' = wx.alloc (.cells cMa 54)) (fun K' hK => ?_) (fun v w' hG => ⟨_, rfl, fun u hu => (by cases hu), ?_⟩)
            · clear hSp h5 h7
              have hf := fold_ten cMa HMZ.out #[.string ⟨#[]⟩, .int .i64 0, .slice Option.none 0 0, .slice Option.none 0 0, .slice Option.none 0 0, .slice Option.none 0 0, .slice Option.none 0 0, .slice Option.none 0 0, .slice Option.none 0 0, .slice Option.none 0 0] rfl
              have hc : ¬ ((decide ¬cMa.size = 10) = true ∨ 10 < cMa.size) := by rw [HMZ.out]; decide
              have hz := HMZ.out
              go_simp
              exact hK _ _ ⟨rfl, rfl⟩
            · obtain ⟨rfl, rfl⟩ := hG
              have hb := hSp.1 h7
              refine ⟨fun _ => below_alloc1 hb _, fun _ _ => ⟨_, rfl, ?_⟩, fun h => ?_, fun h => ?_⟩
              · rw [HcMa.out]
                exact own_box kMed 54 wx W11.heap.size _ _ _ hb.size (.inr (by have := HG11L.out; have := hb.size; omega)) (K_step HKM.out hb)
              · simp [h5] at h
              · simp [h7] at h
          | 2, ho =>
            rw [← Array.getElem?_toList] at ho
            simp only [List.getElem?_cons_zero, List.getElem?_cons_succ, Option.some.injEq] at ho
            subst ho
            have e7 : a.tmps[7]?.getD undef = .pointer (some ⟨w.heap.size, 0, Option.none⟩) := (eval_tmp a 7).trans (hfr 7 (by decide +kernel))
            clear hdi hdep hfr hT hcl
            refine op_val rfl rfl (.pointer (some ⟨w.heap.size, 18, Option.none⟩)) (fun K' hK => ?_) ⟨_, rfl, fun u hu => by cases hu; rfl, hSp⟩
            clear hSp
            go_simp
            exact hK
          | 3, ho =>
            rw [← Array.getElem?_toList] at ho
            simp only [List.getElem?_cons_zero, List.getElem?_cons_succ, Option.some.injEq] at ho
            subst ho
            have e179 := (eval_tmp a 179).trans (hT 2 _ 179 _ rfl rfl rfl (hdep _ (Array.mem_of_getElem? (i := 0) rfl) rfl))
            have h7 : d 7 = false := not_yet hcl hdi (j := 7) (p := 6) rfl rfl rfl rfl
            have c0 : wx.cell? ⟨w.heap.size, 18, Option.none⟩ = some (.slice (some ad) nm cm) := (blk_cell (heap_below (hSp.1 h7) HG11.out) 18).trans HC18.out
            clear hdi hdep hfr hT hcl h7
            refine op_val rfl rfl (.slice (some ad) nm cm) (fun K' hK => ?_) ⟨_, rfl, fun u hu => by cases hu; rfl, hSp⟩
            clear hSp
            go_simp
            exact hK
          | 4, ho =>
            rw [← Array.getElem?_toList] at ho
            simp only [List.getElem?_cons_zero, List.getElem?_cons_succ, Option.some.injEq] at ho
            subst ho
            have e180 := (eval_tmp a 180).trans (hT 3 _ 180 _ rfl rfl rfl (hdep _ (Array.mem_of_getElem? (i := 0) rfl) rfl))
            clear hdi hdep hfr hT hcl
            refine op_val rfl rfl (.slice (if cm = 1 then some ad else some ⟨ad.block, ad.off + 10, Option.none⟩) (nm - 1) (cm - 1)) (fun K' hK => ?_) ⟨_, rfl, fun u hu => by cases hu; rfl, hSp⟩
            clear hSp
            have hnm1 : (1 : Int) ≤ (nm : Int) := by have := HNM.out; omega
            go_simp
            exact hK
          | 5, ho =>
            rw [← Array.getElem?_toList] at ho
            simp only [List.getElem?_cons_zero, List.getElem?_cons_succ, Option.some.injEq] at ho
            subst ho
            have e181 := (eval_tmp a 181).trans (hT 4 _ 181 _ rfl rfl rfl (hdep _ (Array.mem_of_getElem? (i := 1) rfl) rfl))
            have h7 : d 7 = false := not_yet hcl hdi (j := 7) (p := 1) rfl rfl rfl rfl
            have hp : d 1 = true := (hdep _ (Array.mem_of_getElem? (i := 0) rfl) rfl)
            obtain ⟨n, e178, hv⟩ := hSp.2.1 hp hdi
            have HO := Bx.mk hv
            have HBx := Bx.mk (hSp.1 h7)
            have HY := Bx.mk (HMS2.out.step (by decide) HBx.out)
            clear hdep hfr hT hcl
            refine op_gen rfl rfl (fun v w' => ∃ A c, v = .slice A (1 + (nm - 1)) c ∧ Below W11.heap.size W11 w' ∧ kMed.Own 54 w' W11.heap.size (FN F w.heap.size) (.slice A (1 + (nm - 1)) c) ([newMed m p ⟨name, r, par, fm, fb⟩] ++ ms)) (fun K' hK => ?_) (fun v w' hG => ⟨_, rfl, fun u hu => (by cases hu), ?_⟩)
            · exact oper_of_list (ops := #[]) rfl (fun Q' hQ' => app_all kMed (w := W11) (FN F w.heap.size) F rfl _ _ 31 54 _ 216 rfl Tryz.underlying31 info54 rfl (by decide) (by decide) (by decide) (.slice (some ⟨n, 0, Option.none⟩) 1 1) [newMed m p ⟨name, r, par, fm, fb⟩] ms 1 rfl (if cm = 1 then some ad else some ⟨ad.block, ad.off + 10, Option.none⟩) (nm - 1) (cm - 1) (by have := HNM.out; omega) e178 ((eval_tmp a 181).symm.trans e181) HY (fun y ys h => own_apart HO.out HFF.out (Nat.le_of_lt HG11L.out) h) HO HBx (Nat.le_refl _) HBx.out.size (fun b h => .inr (by have := HG11L.out; omega)) (by have := HMS5.out; have := HNM.out; omega) (fun A5 c5 w5 HO5 HB5 HG5 => wpList_nil (hQ' _ _ (hK _ _ ⟨A5, c5, rfl, HB5.out, HO5.out⟩))))
            · obtain ⟨A, c, rfl, hb, ho⟩ := hG
              refine ⟨fun _ => hb, fun _ h => ?_, fun _ _ => ⟨A, c, rfl, ho⟩, fun h => ?_⟩
              · simp at h
              · simp [h7] at h
          | 6, ho =>
            rw [← Array.getElem?_toList] at ho
            simp only [List.getElem?_cons_zero, List.getElem?_cons_succ, Option.some.injEq] at ho
            subst ho
            have e7 : a.tmps[7]?.getD undef = .pointer (some ⟨w.heap.size, 0, Option.none⟩) := (eval_tmp a 7).trans (hfr 7 (by decide +kernel))
            clear hdi hdep hfr hT hcl
            refine op_val rfl rfl (.pointer (some ⟨w.heap.size, 18, Option.none⟩)) (fun K' hK => ?_) ⟨_, rfl, fun u hu => by cases hu; rfl, hSp⟩
            clear hSp
            go_simp
            exact hK
          | 7, ho =>
            rw [← Array.getElem?_toList] at ho
            simp only [List.getElem?_cons_zero, List.getElem?_cons_succ, Option.some.injEq] at ho
            subst ho
            have e183 := (eval_tmp a 183).trans (hT 6 _ 183 _ rfl rfl rfl (hdep _ (Array.mem_of_getElem? (i := 0) rfl) rfl))
            have hp : d 5 = true := (hdep _ (Array.mem_of_getElem? (i := 1) rfl) rfl)
            obtain ⟨A, c, e182, ho⟩ := hSp.2.2.1 hp hdi
            have hb := hSp.1 hdi
            have hd := heap_below hb HG11.out
            have fd := blk_frozen hd 18
            have cd : wx.cell? ⟨w.heap.size, 18, Option.none⟩ = some (.slice (some ad) nm cm) := (blk_cell hd 18).trans HC18.out
            have e182' := (eval_tmp a 182).trans e182
            clear hdep hfr hT hcl
            refine op_gen rfl rfl (fun v w' => w' = wx.setCell ⟨w.heap.size, 18, Option.none⟩ (.slice A (1 + (nm - 1)) c)) (fun K' hK => ?_) (fun v w' hG => ⟨v, rfl, fun u hu => (by cases hu), ?_⟩)
            · clear hSp hdi hp ho hb hd e182
              go_simp
              exact hK undef _ rfl
            · subst hG
              exact ⟨fun h => absurd h (by simp), fun _ h => absurd h (by simp [hp]), fun _ h => absurd h (by simp), fun _ => ⟨A, c, wx, hb, rfl, ho⟩⟩
          | n + 8, ho => cases ho
        intro d f wx hall hTf hSp
        obtain ⟨A3, c3, W, hbW, rfl, hoW⟩ := hSp.2.2.2 (hall 7 (by decide))
        have hsv : kMed.SV (FN F w.heap.size) W (.slice A3 (1 + (nm - 1)) c3) (newMed m p ⟨name, r, par, fm, fb⟩ :: ms) := hoW.reads
        obtain ⟨csN, hcsN, hKN⟩ := newSes_K (p := p) (c := ⟨name, r, par, fm, fb⟩) HK11.out HFF.out hbW hsv
        have hGN := blk_set (heap_below hbW HG11.out) 18 (.slice A3 (1 + (nm - 1)) c3)
        rw [HE.out, hcsN] at hGN
        have hkN : Keep w.heap.size W (W.setCell ⟨w.heap.size, 18, Option.none⟩ (.slice A3 (1 + (nm - 1)) c3)) := Keep.set _
        have hbN : Below w.heap.size w (W.setCell ⟨w.heap.size, 18, Option.none⟩ (.slice A3 (1 + (nm - 1)) c3)) := (HB11.out.trans (hbW.mono HB11.out.size)).trans (hkN.below (Nat.le_trans HB11.out.size hbW.size) (Nat.le_refl _))
        have hVN := (HV11.out.step (by decide) hbW).keep (by decide) (fun b h => Nat.ne_of_lt (HFF.out b h)) hkN
        obtain ⟨WN, hWN⟩ : ∃ V, V = W.setCell ⟨w.heap.size, 18, Option.none⟩ (.slice A3 (1 + (nm - 1)) c3) := ⟨_, rfl⟩
        rw [← hWN] at hKN hGN hkN hbN hVN ⊢
        have HSA : Bx (SesArg WN (newSes x m ms p ⟨name, r, par, fm, fb⟩) p ⟨name, r, par, fm, fb⟩) := ⟨sesArg_new HMSE.out HFit.out HPF.out.1 HPF.out.2.2.2.2.1 HCD.out (HG2.out.step hbN) (HG3.out.step hbN) (HG4.out.step hbN)⟩
        obtain ⟨cN, hcN⟩ : ∃ c, c = csN.toArray := ⟨_, rfl⟩
        rw [← hcN] at hGN
        have HZN : Bx ((Tryz.prog.info? 33).map (·.size) = some cN.size) := ⟨by have h := kSes.len hKN; rw [hcN, List.size_toArray, h]; exact size33⟩
        have HCN := Bx.mk hcN
        have HKN := Bx.mk hKN
        have HGN := Bx.mk hGN
        have HBN := Bx.mk hbN
        have HVN := Bx.mk hVN
        have HTN := Bx.mk (HT.out.step hbN)
        clear hsv hcsN hKN hGN hkN hbN hVN hWN hbW hoW hcN hSp hall hTf HMS2 HM11 HMS HMZ HcMa HKM HG11 HG11L HK11 HV11 HB11 HG2 HG3 HG4 HT HE HZ
        dsimp only
        go_wp2_with (refine wpList_load_row rfl 33 _ rfl w.heap.size rfl 33 _ (0, 0) _ HGN.out Tryz.underlying33 rfl HZN.out ?_)
        have h1 := codecfor_calls (newSes x m ms p ⟨name, r, par, fm, fb⟩) csN _ WN p ⟨name, r, par, fm, fb⟩ HKN.out HSA.out
        rw [← HCN.out] at h1
        refine h1.mono ?_
        clear h1
        rintro e w12 ⟨hb12, Ac, kc, rfl, hvc⟩
        have HBc := Bx.mk hb12
        have HVc := Bx.mk (hvc.step (by decide) (below_alloc1 (Below.refl w12.heap.size w12) (.cells #[.int .i64 p, .string name, .int .u32 r, .string par, .string fm, .slice Ac fb.length kc] 57)))
        clear hb12 hvc
        go_wp2_with (fail)
        have hal := below_alloc1 (Below.refl w12.heap.size w12) (.cells #[.int .i64 p, .string name, .int .u32 r, .string par, .string fm, .slice Ac fb.length kc] 57)
        have HVf := Bx.mk ((HVN.out.step (by decide) HBc.out).step (by decide) hal)
        have HBd := Bx.mk (below_trans HBc.out hal)
        have HCd := Bx.mk (heap_alloc_new w12 (.cells #[.int .i64 p, .string name, .int .u32 r, .string par, .string fm, .slice Ac fb.length kc] 57))
        clear hal
        refine (lines_true _ _ fb (fun _ => True) _ (HVc.out.mono fun _ _ => trivial) (HVf.out.mono fun _ _ => trivial)).mono ?_
        rintro e w13 ⟨hb13, rfl⟩
        have HB13 := Bx.mk (below_trans HBd.out hb13)
        have HC13 := Bx.mk (heap_below hb13 HCd.out)
        have HG13 := Bx.mk (heap_below HB13.out HGN.out)
        have HK13 := Bx.mk (K_step HKN.out HB13.out)
        have HS13 := Bx.mk (HSA.out.step HB13.out)
        have HT13 := Bx.mk (HTN.out.step HB13.out)
        have HV13 := Bx.mk (HVc.out.step (by decide) hb13)
        have HBw := Bx.mk (below_trans HBN.out HB13.out)
        clear hb13 HBd HCd HVf HVc HGN HKN HSA HTN HBN HVN HBc HB13
        go_wp2_with (first | refine wpList_load_row rfl 33 _ rfl w.heap.size rfl 33 _ (0, 0) _ HG13.out Tryz.underlying33 rfl HZN.out ?_ | refine wpList_load_row rfl 57 _ rfl w12.heap.size rfl 57 _ (0, 0) _ HC13.out Tryz.underlying57 rfl size57 ?_)
        have h1 := payloadfor_calls tb (newSes x m ms p ⟨name, r, par, fm, fb⟩) csN _ _ w13 p ⟨name, r, par, fm, fb⟩ Ac fb.length kc HK13.out HS13.out HCD.out.want HT13.out HV13.out
        rw [← HCN.out] at h1
        refine h1.mono ?_
        clear h1
        rintro e w14 ⟨hb14, rfl⟩
        have HG14 := Bx.mk (heap_below hb14 HG13.out)
        have HK14 := Bx.mk (K_step HK13.out hb14)
        have HS14 := Bx.mk (HS13.out.step hb14)
        have HB14 := Bx.mk (below_trans HBw.out hb14)
        clear hb14 HG13 HK13 HS13 HBw HC13 HV13 HT13
        go_wp2_with (refine wpList_load_row rfl 33 _ rfl w.heap.size rfl 33 _ (0, 0) _ HG14.out Tryz.underlying33 rfl HZN.out ?_)
        have h1 := codecs_calls (newSes x m ms p ⟨name, r, par, fm, fb⟩) csN _ w14 p ⟨name, r, par, fm, fb⟩ HK14.out HS14.out
        rw [← HCN.out] at h1
        refine h1.mono ?_
        clear h1
        rintro e w15 ⟨hb15, l, Al, n, kl, rfl, hvl, hll, hml⟩
        have HB15 := Bx.mk (below_trans HB14.out hb15)
        have HVL := Bx.mk hvl
        have HML := Bx.mk hml
        have hnl : n = l.length := by obtain ⟨_, _, he, _, _⟩ := hvl; injection he
        have HNL := Bx.mk hnl
        have hnl2 : n ≤ 256 := by omega
        clear hb15 hvl hml hnl hll HG14 HK14 HS14 HB14
        go_wp2_with (fail)
        go_loopw [26, 239] (fun s26 s239 wq => ∃ (b : Bool) (i : Nat), s26 = .bool b ∧ s239 = .int .i64 i ∧ i ≤ n ∧ Bx ((p, name) ∈ l.take i → b = true) ∧ Bx (Below w15.heap.size w15 wq)) (fun _ s239 _ => n - (intOf s239).toNat)
        case atStart => exact ⟨false, 0, rfl, rfl, Nat.zero_le _, ⟨fun h => absurd h (by simp)⟩, ⟨Below.refl _ _⟩⟩
        case round =>
          obtain ⟨b, i, rfl, rfl, hin, hP, hBq⟩ := hrel
          by_cases hltn : i < n
          · have hlt2 : i < l.length := by rw [← HNL.out]; exact hltn
            obtain ⟨y, hy⟩ : ∃ y, y = l[i] := ⟨_, rfl⟩
            obtain ⟨Al', cl', he, hlc, hrowl⟩ := HVL.out.step (by decide) hBq.out
            simp only [Value.slice.injEq] at he
            obtain ⟨rfl, -, rfl⟩ := he
            obtain ⟨ad2, cx, rfl, -, hkx, hcx⟩ := hrowl.get i hlt2
            rw [← hy] at hkx
            have hone := kCx.one hkx
            obtain ⟨c2', c3', c4', c5', rfl, o2, o3, o4, o5⟩ := hkx
            have HALL : Bx ((#[.int .i64 y.1, .string y.2, c2', c3', c4', c5'] : Array Value).all (·.oneCell') = true) := ⟨Array.all_eq_true_iff_forall_mem.2 fun u hu => hone u (by simpa using hu)⟩
            clear hone
            have q0 := hcx 0 _ rfl
            have q1 := hcx 1 _ rfl
            have q2 := hcx 2 _ rfl
            have q3 := hcx 3 _ rfl
            have q4 := hcx 4 _ rfl
            have q5 := hcx 5 _ rfl
            have e6 : kCx.sz = 6 := rfl
            rw [e6, Nat.add_zero] at q0
            rw [e6, add_field ad2 (i * 6) 1 (by decide)] at q1
            rw [e6, add_field ad2 (i * 6) 2 (by decide)] at q2
            rw [e6, add_field ad2 (i * 6) 3 (by decide)] at q3
            rw [e6, add_field ad2 (i * 6) 4 (by decide)] at q4
            rw [e6, add_field ad2 (i * 6) 5 (by decide)] at q5
            have hG57 := setRow_heap (wr.alloc (.cells #[.int .i64 0, .string ⟨#[]⟩, .int .u32 0, .string ⟨#[]⟩, .string ⟨#[]⟩, .slice Option.none 0 0] 57)) wr.heap.size _ #[.int .i64 y.1, .string y.2, c2', c3', c4', c5'] 57 (0, 0) (heap_alloc_new wr _)
            have hbx : Below w15.heap.size w15 ((wr.alloc (.cells #[.int .i64 0, .string ⟨#[]⟩, .int .u32 0, .string ⟨#[]⟩, .string ⟨#[]⟩, .slice Option.none 0 0] 57)).setRow wr.heap.size #[.int .i64 y.1, .string y.2, c2', c3', c4', c5']) := (below_alloc1 hBq.out _).trans ((keep_setRow _ _ _).below (by rw [World.size_alloc]; exact Nat.le_succ_of_le hBq.out.size) hBq.out.size)
            have key : ∀ nb : Bool, (b = true → nb = true) → (y = (p, name) → nb = true) → ((p, name) ∈ l.take (i + 1) → nb = true) := fun nb h1 h2 hm => by
              rw [← take_snoc l i hlt2, ← hy] at hm
              rcases List.mem_append.1 hm with hm | hm
              · exact h1 (hP.out hm)
              · exact h2 (List.mem_singleton.1 hm).symm
            have HKEY := Bx.mk key
            clear e6 hcx hrowl hy key hlc hlt2
            go_upto_region 31 with (refine wpList_store_row rfl 57 _ _ rfl wr.heap.size #[.int .i64 y.1, .string y.2, c2', c3', c4', c5'] rfl rfl 57 _ (heap_alloc_new wr _) size57 rfl HALL.out ?_)
            obtain ⟨W57, hW57⟩ : ∃ V, V = (wr.alloc (.cells #[.int .i64 0, .string ⟨#[]⟩, .int .u32 0, .string ⟨#[]⟩, .string ⟨#[]⟩, .slice Option.none 0 0] 57)).setRow wr.heap.size #[.int .i64 y.1, .string y.2, c2', c3', c4', c5'] := ⟨_, rfl⟩
            rw [← hW57] at hG57 hbx ⊢
            have HBX := Bx.mk hbx
            have r0 : W57.cell? ⟨wr.heap.size, 0, Option.none⟩ = some (.int .i64 y.1) := (blk_cell hG57 0).trans rfl
            have r1 : W57.cell? ⟨wr.heap.size, 1, Option.none⟩ = some (.string y.2) := (blk_cell hG57 1).trans rfl
            clear hW57 hbx hG57 q0 q1 q2 q3 q4 q5
            rw [put_none]
            cases b
            case true =>
              go_wp2_with (fail)
              go_roundw
              case rel => exact ⟨true, i + 1, rfl, by go_num, by omega, ⟨HKEY.out true (fun _ => rfl) (fun _ => rfl)⟩, HBX⟩
              case measure => simp [intOf]; omega
            case false =>
              cases hy1 : ((y.1 : Int) == (p : Int))
              case false =>
                go_wp2_with (fail)
                go_roundw
                case rel => exact ⟨false, i + 1, rfl, by go_num, by omega, ⟨HKEY.out false (fun h => h) (fun h => by rw [h] at hy1; simp at hy1)⟩, HBX⟩
                case measure => simp [intOf]; omega
              case true =>
                cases hy2 : (y.2.toList == name.toList)
                case false =>
                  go_wp2_with (fail)
                  go_roundw
                  case rel => exact ⟨false, i + 1, rfl, by go_num, by omega, ⟨HKEY.out false (fun h => h) (fun h => by rw [h] at hy2; simp at hy2)⟩, HBX⟩
                  case measure => simp [intOf]; omega
                case true =>
                  go_wp2_with (fail)
                  go_roundw
                  case rel => exact ⟨true, i + 1, rfl, by go_num, by omega, ⟨HKEY.out true (fun _ => rfl) (fun _ => rfl)⟩, HBX⟩
                  case measure => simp [intOf]; omega
          · obtain rfl : i = n := by omega
            have hb1 : b = true := hP.out (by rw [HNL.out, List.take_length]; exact HML.out)
            subst hb1
            go_wp2_with (fail)
            refine (HW.out _ (below_trans HB15.out hBq.out)).mono ?_
            rintro e wz ⟨hbz, rfl⟩
            have HBZ := Bx.mk (below_trans (below_trans HB15.out hBq.out) hbz)
            clear hbz
            go_wp2
            go_ret
            exact ⟨HBZ.out, rfl⟩
end Go.Proofs.YtimonhimfioohaaGreatDoor
