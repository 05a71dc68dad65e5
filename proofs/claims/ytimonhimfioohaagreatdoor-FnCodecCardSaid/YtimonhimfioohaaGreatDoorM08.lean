/- Lemmas on which the proof of Rows.FnCodecCardSaid rests: no statement of the seat is proved in this file. Conditions: each lemma's own hypotheses, no others. -/
import Derived.Test.YtimonhimfioohaaGreatDoorM07
/-! sdp.GetCodecMap, walked. -/
namespace Go.Proofs.YtimonhimfioohaaGreatDoor
open Go Go.RowKit Go.PlainAid Kn Go.Maps
theorem flat_drop (meds : List Med) (k : Nat) (h : k < meds.length) : (meds.drop k).flatMap Med.atts = meds[k].atts ++ (meds.drop (k + 1)).flatMap Med.atts := by
  rw [List.drop_eq_getElem_cons h, List.flatMap_cons]
theorem mb_get {F : Nat → Prop} {w : World} {A : Option Addr} {l : List Med} {n c : Nat} (h : kMB.SV F w (.slice A n c) l) (i : Nat) (hi : i < l.length) : ∃ ad g, A = some ad ∧ w.cell? (ad.add i) = some (.pointer (some ⟨g, 0, Option.none⟩)) ∧ MedBlk F w g l[i].atts := by
  obtain ⟨A', c', he, _, hr⟩ := h
  cases he
  obtain ⟨ad, cs, e, _, ⟨g, hcs, _, hm⟩, hc⟩ := hr.get i hi
  subst hcs
  have := hc 0 _ rfl
  exact ⟨ad, g, e, by simpa [kMB] using this, hm⟩
theorem pre_is (a : Att) (l : List UInt8) (b : Bool) (h : Lib.hasPrefix (attBytes a) l = b) (w : World) : Calls Tryz.prog 62 #[.string (attStr a), .string ⟨l.toArray⟩] w fun e w' => w = w' ∧ e = .returned (.bool b) := by
  rw [← h]; exact pre_calls a l w
theorem rtpmap_any (p : Nat) (name : List UInt8) (rate : Nat) (par : List UInt8) (w : World) (hp8 : p ≤ 255) (hr32 : rate ≤ 4294967295) (hn : ∀ b ∈ name, b ≠ 32 ∧ b ≠ 47) (hpar : ∀ b ∈ par, b ≠ 32 ∧ b ≠ 47) (hlen : (mapText p name rate par).length ≤ 9000000000)
    (hg : Glob 2 w) : Calls Tryz.prog 63 #[.string (B (mapText p name rate par))] w fun e w' => Below w.heap.size w w' ∧ e = .returned (.tuple #[.agg #[.int .u8 p, .string (B name), .int .u32 rate, .string (B par), .string ⟨#[]⟩, .slice Option.none 0 0], .nilIface]) := by
  by_cases h : par = []
  · subst h
    exact rtpmap_nil p name rate w hp8 hr32 hn hlen hg
  · exact rtpmap_par p name rate par h w hp8 hr32 hn hpar hlen hg
theorem str_of {a : Att} {l : List UInt8} (h : attBytes a = l) : attStr a = B l := by unfold attStr B; rw [h]
/-- What the merge leaves. -/
theorem merged {w0 W : World} {p r n : Nat} {D : DataW Value} {ev : Option Value} {c : Cd} {A : Option Addr} {k : Nat} (hT : TabD p ev D) (hp9 : 9 < p) (hO : Kn.string.Own 9 W (w0.heap.size + 1) (fun b => w0.heap.size + 1 ≤ b) (.slice A c.fb.length k) c.fb)
    (hm : W.ownsMap Tryz.prog 5 hR w0.heap.size (n + 1) (D.put (.int .u8 p) (.held (codV p c.name c.rate c.par c.fm (.slice A c.fb.length k))))) (hn : n + (r + 1) ≤ 500000) (hc : CdOK r (some c)) : MapSt w0 W p r (some c) :=
  ⟨hc, n + 1, _, _, hm, hT.put hp9 _, ⟨A, _, k, rfl, rfl, hO⟩, by omega⟩
structure CodT where
  a : Int
  b : ByteArray
  c : Int
  d : ByteArray
  e : ByteArray
  A : Option Addr
  n : Nat
  k : Nat
abbrev mkC (x : CodT) : Value := .agg #[.int .u8 x.a, .string x.b, .int .u32 x.c, .string x.d, .string x.e, .slice x.A x.n x.k]
theorem inv8 (key : Value) (kl : Lit) (h : keyOf Tryz.prog 5 key = some kl) : ∃ x : Int, key = .int .u8 x := by
  obtain ⟨x, e, _⟩ := Maps.keyOf_int_inv Tryz.underlying5 h
  exact ⟨x, e⟩
theorem invC (v : Value) (y : DataW Value × List MemPlace) (h : hR v = some y) : ∃ c : CodT, v = mkC c := by
  obtain ⟨_, a, b, c, d, e, A, n, k, rfl⟩ := hR_inv h
  exact ⟨⟨a, b, c, d, e, A, n, k⟩, rfl⟩
theorem key8 {x : Int} {kl : Lit} (h : keyOf Tryz.prog 5 (.int .u8 x) = some kl) : ∃ q : Nat, x = q ∧ q ≤ 255 ∧ kl = .int .u8 q := by
  obtain ⟨x', e, rfl, hw⟩ := Maps.keyOf_int_inv Tryz.underlying5 h
  cases e
  have h2 : 0 ≤ x ∧ x ≤ 255 := by simpa [Lit.wf, IntKind.min, IntKind.max, IntKind.signed, IntKind.bits] using hw
  exact ⟨x.toNat, by omega, by omega, by rw [Int.toNat_of_nonneg h2.1]⟩
/-- The feedback's row is no iterator. -/
theorem evok_next {w0 W W' : World} {p n r cnt : Nat} {st : Option Cd} {ev : Option Value} {D : DataW Value} {left : Lit → Bool} (h : EvOK w0 W p st ev) (hr : W.ranges Tryz.prog 5 hR w0.heap.size r n D left cnt) (hg : W.grownBy W' (some r)) : EvOK w0 W' p st ev := by
  cases st with
  | none => exact h
  | some c =>
    obtain ⟨A, n', k, e, hl, h0, inner, ho, hrp⟩ := h
    refine ⟨A, n', k, e, hl, h0, inner, own_move ho (fun b hb => hg.block b (ho.lt b hb).2 (fun e2 => ?_)), hrp⟩
    cases e2
    obtain ⟨es, clock, since, seen, c0, _, _, _, _, hri, _⟩ := hr
    rcases ho.2 with ⟨he, _⟩ | ⟨g, cap, cur, he, hg', hh, _⟩
    · rw [he] at hb; simp [Value.ownBlock] at hb
    · rw [he] at hb
      simp [Value.ownBlock] at hb
      subst hb
      rw [hri] at hh
      cases hh
theorem evok_step {w0 W W' : World} {p : Nat} {st : Option Cd} {ev : Option Value} (h : EvOK w0 W p st ev) (hb : Below W.heap.size W W') : EvOK w0 W' p st ev := by
  cases st with
  | none => exact h
  | some c =>
    obtain ⟨A, n', k, e, hl, hO⟩ := h
    exact ⟨A, n', k, e, hl, hO.step fun b _ hlt => hb.block b hlt⟩
theorem begin_map (w : World) {w1 w2 w3 : World} (h1 : (w.alloc (.map #[] 0)).grownBy w1 (some w.heap.size)) (h2 : w1.grownBy w2 (some w.heap.size)) (h3 : w2.grownBy w3 (some w.heap.size)) : Below w.heap.size w w3 := by
  have g : ∀ b, (some w.heap.size) = some b → w.heap.size ≤ b := fun b e => by cases e; exact Nat.le_refl _
  have b0 := below_alloc1 (Below.refl w.heap.size w) (.map #[] 0)
  have b1 := b0.grown h1 b0.size g
  have b2 := b1.grown h2 b1.size g
  exact b2.grown h3 b2.size g
set_option maxRecDepth 100000 in
set_option maxHeartbeats 12800000 in
theorem codecmap_calls (w : World) (g : Nat) (meds : List Med) (F : Nat → Prop) (hS : SesBlk F w g meds) (hl : meds.length ≤ 2147483647) (hf : ∀ m ∈ meds, fAttsW m.atts) (p : Nat) (hp9 : 9 < p) (hp : p ≤ 255) (fin : Option Cd)
    (hA : ActsL p (meds.flatMap Med.atts) Option.none fin) (hlen : (meds.flatMap Med.atts).length ≤ 400000) (hg2 : Glob 2 w) (hg3 : Glob 3 w) (hg4 : Glob 4 w) :
    Calls Tryz.prog 40 #[.pointer (some ⟨g, 0, Option.none⟩)] w fun e w' => Below w.heap.size w w' ∧ e = .returned (.map (some w.heap.size)) ∧ MapSt w w' p 0 fin := by
  have HS := Bx.mk hS
  have HF := Bx.mk hf
  have HA := Bx.mk hA
  have HLN := Bx.mk hlen
  have HG2 := Bx.mk hg2
  have HG3 := Bx.mk hg3
  have HG4 := Bx.mk hg4
  clear hS hf hA hlen hg2 hg3 hg4
  have HM0 : (w.alloc (.map #[] 0)).ownsMap Tryz.prog 5 hR w.heap.size 0 (.map []) := World.ownsMap_made _ _ _ _
  have hmm := @run_makeMap Tryz.prog
  go_enter Tryz.func40, Tryz.ntmps40
  go_upto_region 2 with (first | (refine wpList_insert_own _ rfl _ (.const (.int .u8 0)) _ 112 rfl 5 101 law5 Tryz.underlying112 hR w.heap.size 0 (.map []) rfl HM0 (by unfold maxLen; omega) _ _ (.int .u8 0) rfl rfl (key5 0 (by decide)) (.held c0V) [] rfl ?_; intro w1 HM1 HG1) | (refine wpList_insert_own _ rfl _ (.const (.int .u8 8)) _ 112 rfl 5 101 law5 Tryz.underlying112 hR w.heap.size 1 _ rfl HM1 (by unfold maxLen; omega) _ _ (.int .u8 8) rfl rfl (key5 8 (by decide)) (.held c8V) [] rfl ?_; intro w2 HM2 HG2') | (refine wpList_insert_own _ rfl _ (.const (.int .u8 9)) _ 112 rfl 5 101 law5 Tryz.underlying112 hR w.heap.size 2 _ rfl HM2 (by unfold maxLen; omega) _ _ (.int .u8 9) rfl rfl (key5 9 (by decide)) (.held c9V) [] rfl ?_; intro w3 HM3 HG3'))
  clear hmm
  go_upto_region 3 with (fail)
  have hB3 := below_alloc1 (begin_map w HG1 HG2' HG3') (.cells #[] 9)
  have hM4 := HM3.alloc (.cells #[] 9)
  obtain ⟨wa, hwa⟩ : ∃ wa, wa = w3.alloc (.cells #[] 9) := ⟨_, rfl⟩
  rw [← hwa] at hB3 hM4 ⊢
  have HB := Bx.mk hB3
  have HM : Bx (MapSt w wa p (meds.flatMap Med.atts).length Option.none) := ⟨trivial, 3, D3, Option.none, hM4, tab_start p, rfl, by have := HLN.out; omega⟩
  obtain ⟨cs, hs1, A, c, hs2, hs3⟩ := HS.out
  have hcell := cell_below HB.out ((blk_cell hs1 18).trans hs2)
  have HV := Bx.mk hs3
  have hm := hs3
  obtain ⟨A', c', he, hlc, hrow⟩ := hm
  have hmax := hrow.1
  clear he hlc hrow hs1 hs2 hs3 hB3 hM4 HM0 HM1 HM2 HM3 HG1 HG2' HG3' hwa
  go_wp2
  go_loopw [4, 32] (fun s4 i wr => ∃ (k : Nat) (st : Option Cd), k ≤ meds.length ∧ i = .int .i64 k ∧ s4 = .slice (some ⟨w3.heap.size, 0, Option.none⟩) 0 0 ∧ Bx (ActsL p ((meds.drop k).flatMap Med.atts) st fin) ∧ Bx (MapSt w wr p ((meds.drop k).flatMap Med.atts).length st) ∧ Bx (Below w.heap.size w wr)) (fun _ i _ => meds.length - (intOf i).toNat)
  case atStart => exact ⟨0, Option.none, Nat.zero_le _, rfl, rfl, HA, HM, HB⟩
  case round =>
    obtain ⟨k, st, hk, rfl, rfl, hA, hM, hB⟩ := hrel
    by_cases hlt : k < meds.length
    · obtain ⟨ad, g2, rfl, hc0, cs2, hb1, A2, c2, hb2, hb3⟩ := mb_get HV.out k hlt
      replace hc0 := cell_below hB.out hc0
      have hcell2 := cell_below hB.out ((blk_cell hb1 9).trans hb2)
      have hm2 := hb3
      obtain ⟨A2', c2', he2, hlc2, hrow2⟩ := hm2
      cases he2
      have hmax2 := hrow2.1
      have HR2 := Bx.mk hrow2
      have HFm := Bx.mk (HF.out _ (List.getElem_mem hlt))
      have HD := Bx.mk (flat_drop meds k hlt)
      have HA1 : Bx (ActsL p (meds[k].atts.drop 0 ++ (meds.drop (k + 1)).flatMap Med.atts) st fin) := ⟨by rw [List.drop_zero, ← HD.out]; exact hA.out⟩
      have HM1 : Bx (MapSt w wr p (meds[k].atts.drop 0 ++ (meds.drop (k + 1)).flatMap Med.atts).length st) := ⟨by rw [List.drop_zero, ← HD.out]; exact hM.out⟩
      obtain ⟨wo, rfl⟩ : ∃ wo : World, wo = wr := ⟨_, rfl⟩
      clear hlc2 hrow2 hb1 hb2 hb3 hA hM
      go_wp2
      go_loopw [4, 41] (fun s4 j wr => ∃ (n : Nat) (st : Option Cd), n ≤ meds[k].atts.length ∧ j = .int .i64 n ∧ s4 = .slice (some ⟨w3.heap.size, 0, Option.none⟩) 0 0 ∧ Bx (ActsL p (meds[k].atts.drop n ++ (meds.drop (k + 1)).flatMap Med.atts) st fin) ∧ Bx (MapSt w wr p (meds[k].atts.drop n ++ (meds.drop (k + 1)).flatMap Med.atts).length st) ∧ Bx (Below w.heap.size w wr)) (fun _ j _ => meds[k].atts.length - (intOf j).toNat)
      case atStart => exact ⟨0, st, Nat.zero_le _, rfl, rfl, HA1, HM1, hB⟩
      case round =>
        clear HA1 HM1
        obtain ⟨n, st, hn, rfl, rfl, hA, hM, hB2⟩ := hrel
        by_cases hlt2 : n < meds[k].atts.length
        · obtain ⟨ad2, rfl, e0, e1⟩ := att_get HR2.out n hlt2
          replace e0 := cell_below hB2.out e0
          replace e1 := cell_below hB2.out e1
          obtain ⟨a, ha⟩ : ∃ a, a = meds[k].atts[n] := ⟨_, rfl⟩
          obtain ⟨R, hR⟩ : ∃ R, R = meds[k].atts.drop (n + 1) ++ (meds.drop (k + 1)).flatMap Med.atts := ⟨_, rfl⟩
          have hdr : meds[k].atts.drop n ++ (meds.drop (k + 1)).flatMap Med.atts = a :: R := by rw [hR, ha, List.drop_eq_getElem_cons hlt2, List.cons_append]
          have hfa : fAttW a := by rw [ha]; exact HFm.out.2 _ (List.getElem_mem hlt2)
          rw [hdr] at hA hM
          rw [← ha] at e0 e1
          have HFA := Bx.mk hfa
          have HRE := Bx.mk hR
          clear hdr hfa hR
          have hBx := below_trans hB2.out (below_alloc1 (Below.refl wr.heap.size wr) (.cells #[.string a.key, .string a.val] 183))
          have HBX := Bx.mk hBx
          have HMX := Bx.mk (hM.out.step (below_alloc1 (Below.refl wr.heap.size wr) (.cells #[.string a.key, .string a.val] 183)))
          have HB2 := Bx.mk (below_trans hB2.out (below_alloc1 (Below.refl wr.heap.size wr) (.cells #[.string a.key, .string a.val] 183)))
          have HAct := hA.out
          clear hBx hA hM ha hB2
          cases HAct with
          | cons hact hrest =>
            have HL := Bx.mk hrest
            clear hrest
            cases hact with
            | plain _ h1 h2 h3 =>
              go_wp2_with (fail)
              refine (attstr_calls a _ HFA.out).mono ?_
              rintro e w1 ⟨hb1, rfl⟩
              have HM1 := Bx.mk (HMX.out.step hb1).plain
              have HB1 := Bx.mk (below_trans HB2.out hb1)
              clear hb1
              have P1 := Bx.mk h1
              have P2 := Bx.mk h2
              have P3 := Bx.mk h3
              clear h1 h2 h3
              go_wp2_with (fail)
              refine (pre_is a pMap false P1.out _).mono ?_
              rintro e w' ⟨rfl, rfl⟩
              go_wp2_with (fail)
              refine (pre_is a pFmtp false P2.out _).mono ?_
              rintro e w' ⟨rfl, rfl⟩
              go_wp2_with (fail)
              refine (pre_is a pFb false P3.out _).mono ?_
              rintro e w' ⟨rfl, rfl⟩
              go_wp2
              go_roundw
              case rel => first | exact ⟨n + 1, st, by omega, by go_num, rfl, ⟨by rw [← HRE.out]; exact HL.out⟩, ⟨by rw [← HRE.out]; exact HM1.out⟩, HB1⟩ | ((repeat apply Exists.intro); exact ⟨⟨n + 1, st, by omega, by go_num, rfl, ⟨by rw [← HRE.out]; exact HL.out⟩, ⟨by rw [← HRE.out]; exact HM1.out⟩, HB1⟩, rfl⟩)
              case measure => simp [intOf]; omega
            | map name rate par h hr0 hr hn' hp' hl' =>
              have HH := Bx.mk h
              have HN := Bx.mk hn'
              have HP := Bx.mk hp'
              have HLL := Bx.mk hl'
              clear h hn' hp' hl'
              go_wp2_with (fail)
              refine (attstr_calls a _ HFA.out).mono ?_
              rintro e w1 ⟨hb1, rfl⟩
              have HM1 := Bx.mk (HMX.out.step hb1)
              have HB1 := Bx.mk (below_trans HB2.out hb1)
              have HX1 := Bx.mk (below_trans HBX.out hb1)
              clear hb1
              go_wp2_with (fail)
              refine (pre_is a pMap true (by rw [HH.out]; rfl) _).mono ?_
              rintro e w' ⟨rfl, rfl⟩
              go_wp2_with (fail)
              rw [str_of HH.out]
              refine (rtpmap_any p name rate par _ hp hr HN.out.2 HP.out HLL.out (HG2.out.step HX1.out)).mono ?_
              rintro e w2 ⟨hb2', rfl⟩
              have hM2 := (HM1.out.step hb2').step (below_alloc1 (Below.refl w2.heap.size w2) (.cells #[.int .u8 p, .string (B name), .int .u32 rate, .string (B par), .string ⟨#[]⟩, .slice Option.none 0 0] 101))
              have HX2 := Bx.mk (below_trans (below_trans HX1.out hb2') (below_alloc1 (Below.refl w2.heap.size w2) (.cells #[.int .u8 p, .string (B name), .int .u32 rate, .string (B par), .string ⟨#[]⟩, .slice Option.none 0 0] 101)))
              obtain ⟨-, n', D, ev, q1, q2, q3, q4⟩ := hM2
              have q3' : ev = Option.none := q3
              subst q3'
              have Q1 := Bx.mk q1
              have Q2 := Bx.mk q2
              have Q4 := Bx.mk q4
              clear hb2' q1 q2 q3 q4
              go_wp2_with (fail)
              refine (merge_new p (B name) rate (B par) w _ n' D hp Q1.out (by have := Q4.out; omega) (Q2.out.none_at hp9 _) HX2.out).mono ?_
              rintro e w3 ⟨rfl, hb3, A5, c5, hO5, hm5⟩
              have HM5 : Bx (MapSt w w3 p R.length (some ⟨B name, rate, B par, ⟨#[]⟩, []⟩)) := ⟨merged Q2.out hp9 hO5 hm5 Q4.out ⟨by rw [toList_isEmpty, decide_eq_false_iff_not, B_size]; have := HN.out.1; cases name; exact absurd rfl this; simp, hr0, by have := Q4.out; simp at this ⊢; omega⟩⟩
              have HB5 := Bx.mk hb3
              clear hb3 hO5 hm5
              go_wp2
              go_roundw
              case rel => first | exact ⟨n + 1, _, by omega, by go_num, rfl, ⟨by rw [← HRE.out]; exact HL.out⟩, ⟨by rw [← HRE.out]; exact HM5.out⟩, HB5⟩ | ((repeat apply Exists.intro); exact ⟨⟨n + 1, _, by omega, by go_num, rfl, ⟨by rw [← HRE.out]; exact HL.out⟩, ⟨by rw [← HRE.out]; exact HM5.out⟩, HB5⟩, rfl⟩)
              case measure => simp [intOf]; omega
            | fmtp f h hl' c =>
              have HH := Bx.mk h
              have HLL := Bx.mk hl'
              clear h hl'
              go_wp2_with (fail)
              refine (attstr_calls a _ HFA.out).mono ?_
              rintro e w1 ⟨hb1, rfl⟩
              have HM1 := Bx.mk (HMX.out.step hb1)
              have HX1 := Bx.mk (below_trans HBX.out hb1)
              clear hb1
              go_wp2_with (fail)
              refine (pre_is a pMap false (by rw [HH.out]; rfl) _).mono ?_
              rintro e w' ⟨rfl, rfl⟩
              go_wp2_with (fail)
              refine (pre_is a pFmtp true (by rw [HH.out]; rfl) _).mono ?_
              rintro e w' ⟨rfl, rfl⟩
              go_wp2_with (fail)
              rw [str_of HH.out]
              refine (fmtp_calls p f _ hp HLL.out (HG3.out.step HX1.out)).mono ?_
              rintro e w2 ⟨hb2', rfl⟩
              have hM2 := (HM1.out.step hb2').step (below_alloc1 (Below.refl w2.heap.size w2) (.cells #[.int .u8 p, .string ⟨#[]⟩, .int .u32 0, .string ⟨#[]⟩, .string (B f), .slice Option.none 0 0] 101))
              have HX2 := Bx.mk (below_trans (below_trans HX1.out hb2') (below_alloc1 (Below.refl w2.heap.size w2) (.cells #[.int .u8 p, .string ⟨#[]⟩, .int .u32 0, .string ⟨#[]⟩, .string (B f), .slice Option.none 0 0] 101)))
              obtain ⟨hok, n', D, ev, q1, q2, ⟨A9, n9, k9, hev, hl9, hO9⟩, q4⟩ := hM2
              subst hev
              have Q1 := Bx.mk q1
              have Q2 := Bx.mk q2
              have Q4 := Bx.mk q4
              have QK := Bx.mk hok
              have QO := Bx.mk hO9
              have QL := Bx.mk hl9
              clear hb2' q1 q2 q4 hok hO9 hl9
              go_wp2_with (fail)
              refine (merge_old p c.name c.rate c.par c.fm (B f) A9 n9 k9 c.fb Option.none 0 0 [] (fun _ => True) w _ n' D (by omega) hp QK.out.1 QK.out.2.1 Q1.out (by have := Q4.out; omega) (Q2.out.ap _ rfl _) HX2.out QO.out QL.out (SV.nil _ _ _) rfl (by have := QK.out.2.2; have := QL.out; simp only [List.length_cons] at *; omega)).mono ?_
              rintro e w3 ⟨rfl, hb3, A5, c5, hO5, hm5⟩
              have HM5 : Bx (MapSt w w3 p R.length (some { c with fm := if c.fm.size = 0 then B f else c.fm })) := ⟨by
                obtain rfl := QL.out
                refine merged Q2.out hp9 (A := A5) (k := c5) ?_ ?_ Q4.out ⟨QK.out.1, QK.out.2.1, ?_⟩
                · simpa using hO5
                · simpa using hm5
                · have := QK.out.2.2; simp at this ⊢; omega⟩
              have HB5 := Bx.mk hb3
              clear hb3 hO5 hm5
              go_wp2
              go_roundw
              case rel => first | exact ⟨n + 1, _, by omega, by go_num, rfl, ⟨by rw [← HRE.out]; exact HL.out⟩, ⟨by rw [← HRE.out]; exact HM5.out⟩, HB5⟩ | ((repeat apply Exists.intro); exact ⟨⟨n + 1, _, by omega, by go_num, rfl, ⟨by rw [← HRE.out]; exact HL.out⟩, ⟨by rw [← HRE.out]; exact HM5.out⟩, HB5⟩, rfl⟩)
              case measure => simp [intOf]; omega
            | fb f h hl' c =>
              have HH := Bx.mk h
              have HLL := Bx.mk hl'
              clear h hl'
              go_wp2_with (fail)
              refine (attstr_calls a _ HFA.out).mono ?_
              rintro e w1 ⟨hb1, rfl⟩
              have HM1 := Bx.mk (HMX.out.step hb1)
              have HX1 := Bx.mk (below_trans HBX.out hb1)
              clear hb1
              go_wp2_with (fail)
              refine (pre_is a pMap false (by rw [HH.out]; rfl) _).mono ?_
              rintro e w' ⟨rfl, rfl⟩
              go_wp2_with (fail)
              refine (pre_is a pFmtp false (by rw [HH.out]; rfl) _).mono ?_
              rintro e w' ⟨rfl, rfl⟩
              go_wp2_with (fail)
              refine (pre_is a pFb true (by rw [HH.out]; rfl) _).mono ?_
              rintro e w' ⟨rfl, rfl⟩
              go_wp2_with (fail)
              rw [str_of HH.out]
              refine (fb_calls p f _ hp HLL.out (HG4.out.step HX1.out)).mono ?_
              rintro e w2 ⟨hb2', A8, c8, rfl, hs8⟩
              have HY8 := Bx.mk (hs8.step (by decide) (below_alloc1 (Below.refl w2.heap.size w2) (.cells #[.int .u8 p, .string ⟨#[]⟩, .int .u32 0, .string ⟨#[]⟩, .string ⟨#[]⟩, .slice A8 1 c8] 101)))
              clear hs8
              have hM2 := (HM1.out.step hb2').step (below_alloc1 (Below.refl w2.heap.size w2) (.cells #[.int .u8 p, .string ⟨#[]⟩, .int .u32 0, .string ⟨#[]⟩, .string ⟨#[]⟩, .slice A8 1 c8] 101))
              have HX2 := Bx.mk (below_trans (below_trans HX1.out hb2') (below_alloc1 (Below.refl w2.heap.size w2) (.cells #[.int .u8 p, .string ⟨#[]⟩, .int .u32 0, .string ⟨#[]⟩, .string ⟨#[]⟩, .slice A8 1 c8] 101)))
              obtain ⟨hok, n', D, ev, q1, q2, ⟨A9, n9, k9, hev, hl9, hO9⟩, q4⟩ := hM2
              subst hev
              have Q1 := Bx.mk q1
              have Q2 := Bx.mk q2
              have Q4 := Bx.mk q4
              have QK := Bx.mk hok
              have QO := Bx.mk hO9
              have QL := Bx.mk hl9
              clear hb2' q1 q2 q4 hok hO9 hl9
              go_wp2_with (fail)
              refine (merge_old p c.name c.rate c.par c.fm ⟨#[]⟩ A9 n9 k9 c.fb A8 1 c8 [B f] _ w _ n' D (by omega) hp QK.out.1 QK.out.2.1 Q1.out (by have := Q4.out; omega) (Q2.out.ap _ rfl _) HX2.out QO.out QL.out HY8.out rfl (by have := QK.out.2.2; have := QL.out; simp only [List.length_cons] at *; omega)).mono ?_
              rintro e w3 ⟨rfl, hb3, A5, c5, hO5, hm5⟩
              have HM5 : Bx (MapSt w w3 p R.length (some { c with fm := if c.fm.size = 0 then ⟨#[]⟩ else c.fm, fb := c.fb ++ [B f] })) := ⟨by
                obtain rfl := QL.out
                refine merged Q2.out hp9 (A := A5) (k := c5) ?_ ?_ Q4.out ⟨QK.out.1, QK.out.2.1, ?_⟩
                · simpa using hO5
                · simpa using hm5
                · have := QK.out.2.2; simp at this ⊢; omega⟩
              have HB5 := Bx.mk hb3
              clear hb3 hO5 hm5
              go_wp2
              go_roundw
              case rel => first | exact ⟨n + 1, _, by omega, by go_num, rfl, ⟨by rw [← HRE.out]; exact HL.out⟩, ⟨by rw [← HRE.out]; exact HM5.out⟩, HB5⟩ | ((repeat apply Exists.intro); exact ⟨⟨n + 1, _, by omega, by go_num, rfl, ⟨by rw [← HRE.out]; exact HL.out⟩, ⟨by rw [← HRE.out]; exact HM5.out⟩, HB5⟩, rfl⟩)
              case measure => simp [intOf]; omega
        · go_wp2
          go_roundw
          case rel =>
            obtain rfl : n = meds[k].atts.length := by omega
            have h1 := hA.out
            have h2 := hM.out
            rw [List.drop_length, List.nil_append] at h1 h2
            first | exact ⟨k + 1, st, by omega, by go_num, rfl, ⟨h1⟩, ⟨h2⟩, hB2⟩ | ((repeat apply Exists.intro); exact ⟨⟨k + 1, st, by omega, by go_num, rfl, ⟨h1⟩, ⟨h2⟩, hB2⟩, rfl⟩)
          case measure => simp [intOf]; omega
    · obtain rfl : k = meds.length := by omega
      have hA' := hA.out
      have hM' := hM.out
      rw [List.drop_length] at hA' hM'
      obtain rfl : st = fin := by cases hA'; rfl
      obtain ⟨hok, n', D, ev, q1, q2, q3, q4⟩ := hM'
      have Q1 := Bx.mk q1
      have Q2 := Bx.mk q2
      have Q3 := Bx.mk q3
      have Q4 := Bx.mk q4
      have QK := Bx.mk hok
      obtain ⟨wq, rfl⟩ : ∃ wq : World, wq = wr := ⟨_, rfl⟩
      have hzq := hB.out.size
      clear hA hM hA' q1 q2 q3 q4 hok
      go_wp2_with (at_range; refine wpList_range_own _ rfl _ 112 rfl 5 101 law5 Tryz.underlying112 hR w.heap.size n' D rfl Q1.out ?_; intro wb hrg0 hg0 hs0)
      go_frame
      have HR0 := Bx.mk hrg0
      have HB0 := Bx.mk (below_trans hB.out (Below.grown (Below.refl _ _) hg0 (Nat.le_refl _) (fun b hb => by cases hb)))
      have HE0 := Bx.mk (evok_step Q3.out (Below.grown (Below.refl _ _) hg0 (Nat.le_refl _) (fun b hb => by cases hb)))
      clear hrg0 hg0 hs0
      go_loopw [98] (fun _ wr => ∃ (left : Lit → Bool) (cnt : Nat), Bx (wr.ranges Tryz.prog 5 hR w.heap.size wq.heap.size n' D left cnt) ∧ Bx (EvOK w wr p st ev) ∧ Bx (Below w.heap.size w wr)) (fun _ wr => wr.rangeLeft w.heap.size wq.heap.size)
      case atStart => exact ⟨_, _, HR0, HE0, HB0⟩
      case round =>
        clear HR0 HE0 HB0
        obtain ⟨left, cnt, hrg, hE, hBr⟩ := hrel
        go_wp2_with (at_next; refine wpList_next_ranges _ rfl _ rfl 5 law5 hR (Value.int .u8) mkC inv8 invC w.heap.size wq.heap.size n' D left cnt rfl hrg.out ?_ ?_)
        · intro _ hl0
          go_wp2
          go_ret
          exact ⟨hBr.out, rfl, QK.out, n', D, ev, hrg.out.owns, Q2.out, hE.out, Q4.out⟩
        · intro x c kl y1 y2 w1 cnt1 hkey hlx hRv hat hrg1 hlt hg1 hs1 hen
          obtain ⟨q, rfl, hq, rfl⟩ := key8 hkey
          have hy := (hR_inv hRv).1
          simp only [Prod.mk.injEq] at hy
          obtain ⟨rfl, rfl⟩ := hy
          have hsame := store_same (hrg1.alloc (.cells #[.int .u8 c.a, .string c.b, .int .u32 c.c, .string c.d, .string c.e, .slice c.A c.n c.k] 101)).owns hq hat
          have HRN := Bx.mk (hrg1.alloc (.cells #[.int .u8 c.a, .string c.b, .int .u32 c.c, .string c.d, .string c.e, .slice c.A c.n c.k] 101))
          have HEN := Bx.mk (evok_step (evok_next hE.out hrg.out hg1) (below_alloc1 (Below.refl w1.heap.size w1) (.cells #[.int .u8 c.a, .string c.b, .int .u32 c.c, .string c.d, .string c.e, .slice c.A c.n c.k] 101)))
          have HBN := Bx.mk (below_trans (hBr.out.grown hg1 hBr.out.size (fun b hb => by cases hb; exact hzq)) (below_alloc1 (Below.refl w1.heap.size w1) (.cells #[.int .u8 c.a, .string c.b, .int .u32 c.c, .string c.d, .string c.e, .slice c.A c.n c.k] 101)))
          have HLT := Bx.mk (show w1.rangeLeft w.heap.size wq.heap.size = cnt1 ∧ cnt1 < cnt from ⟨hrg1.left_eq, hlt⟩)
          have HCN := Bx.mk hrg.out.left_eq
          clear hkey hlx hRv hat hrg1 hlt hg1 hs1 hrg hE hBr
          dsimp only [mkC] at hen hsame ⊢
          go_wp2
          refine wp_loop_rounds 1 ?_
          rw [rounds_succ]
          go_wp2
          go_roundw
          case rel => first | exact ⟨_, cnt1, HRN, HEN, HBN⟩ | ((repeat apply Exists.intro); exact ⟨⟨_, cnt1, HRN, HEN, HBN⟩, rfl⟩)
          case measure => rw [HRN.out.left_eq, HCN.out]; exact HLT.out.2
end Go.Proofs.YtimonhimfioohaaGreatDoor
/-! sdp.GetCodecForPayloadType. -/
namespace Go.Proofs.YtimonhimfioohaaGreatDoor
open Go Go.RowKit Go.PlainAid Kn Go.Maps
theorem look5_ok {w : World} {m n : Nat} {D : DataW Value} (h : w.ownsMap Tryz.prog 5 hR m n D) {p : Nat} (hp : p ≤ 255) {v : Value} {b : Bool} (hv : D.atKey (.int .u8 p) (.held zeroV) = .held v) (hb : Maps.has D (.int .u8 p) = b) : (Instr.lookup 112 (.map (some m)) (.int .u8 p) true).run Tryz.prog w = .ok (.tuple #[v, .bool b]) w := by
  obtain ⟨v', ps, hr, he⟩ := h.look_ok law5 Tryz.underlying112 (zero101 w) (zd := .held zeroV) (zp := []) rfl (key5 p hp)
  rw [hv] at he
  have he2 := (hR_inv he).1
  simp only [Prod.mk.injEq, DataW.held.injEq] at he2
  rw [hr, ← he2.1, hb]
/-- What GetCodecMap asks of a session's description. -/
structure SesIn (w : World) (g : Nat) (meds : List Med) (F : Nat → Prop) (p : Nat) (fin : Option Cd) : Prop where
  blk : SesBlk F w g meds
  len : meds.length ≤ 2147483647
  atts : ∀ m ∈ meds, fAttsW m.atts
  p9 : 9 < p
  p8 : p ≤ 255
  acts : ActsL p (meds.flatMap Med.atts) Option.none fin
  tot : (meds.flatMap Med.atts).length ≤ 400000
  g2 : Glob 2 w
  g3 : Glob 3 w
  g4 : Glob 4 w
theorem SesIn.step {w w' : World} {g : Nat} {meds : List Med} {F : Nat → Prop} {p : Nat} {fin : Option Cd} (h : SesIn w g meds F p fin) (hb : Below w.heap.size w w') : SesIn w' g meds F p fin :=
  ⟨h.blk.step hb, h.len, h.atts, h.p9, h.p8, h.acts, h.tot, h.g2.step hb, h.g3.step hb, h.g4.step hb⟩
theorem SesIn.map {w : World} {g : Nat} {meds : List Med} {F : Nat → Prop} {p : Nat} {fin : Option Cd} (h : SesIn w g meds F p fin) : Calls Tryz.prog 40 #[.pointer (some ⟨g, 0, Option.none⟩)] w fun e w' => Below w.heap.size w w' ∧ e = .returned (.map (some w.heap.size)) ∧ MapSt w w' p 0 fin :=
  codecmap_calls w g meds F h.blk h.len h.atts p h.p9 h.p8 fin h.acts h.tot h.g2 h.g3 h.g4
set_option maxRecDepth 20000 in
set_option maxHeartbeats 3200000 in
theorem forpt_calls (w : World) (g : Nat) (meds : List Med) (F : Nat → Prop) (p : Nat) (c : Cd) (hS : SesIn w g meds F p (some c)) :
    Calls Tryz.prog 36 #[.pointer (some ⟨g, 0, Option.none⟩), .int .u8 p] w fun e w' => Below w.heap.size w w' ∧ ∃ A k, e = .returned (.tuple #[.agg #[.int .u8 p, .string c.name, .int .u32 c.rate, .string c.par, .string c.fm, .slice A c.fb.length k], .nilIface]) ∧ Kn.string.SV (fun b => w.heap.size ≤ b) w' (.slice A c.fb.length k) c.fb := by
  have hp := hS.p8
  have HS := Bx.mk (hS.step (below_alloc1 (Below.refl _ _) (.cells #[.int .u8 0, .string ⟨#[]⟩, .int .u32 0, .string ⟨#[]⟩, .string ⟨#[]⟩, .slice Option.none 0 0] 101)))
  clear hS
  go_enter Tryz.func36, Tryz.ntmps36
  go_wp2_with (fail)
  refine HS.out.map.mono ?_
  rintro e w1 ⟨hb1, rfl, -, n, D, ev, q1, q2, ⟨A, n', k, rfl, rfl, hO⟩, -⟩
  have HB1 := Bx.mk (below_trans (below_alloc1 (Below.refl w.heap.size w) (.cells #[.int .u8 0, .string ⟨#[]⟩, .int .u32 0, .string ⟨#[]⟩, .string ⟨#[]⟩, .slice Option.none 0 0] 101)) hb1)
  have hlk := look5_ok q1 hp (q2.ap _ rfl _) (b := true) (by rw [q2.hs]; simp)
  have HC1 := (Cod.new w (.int .u8 0) (.string ⟨#[]⟩) (.int .u32 0) (.string ⟨#[]⟩) (.string ⟨#[]⟩) (.slice Option.none 0 0)).step hb1
  have HD1 := Bx.mk HC1
  have HO := Bx.mk hO
  clear hb1 q1 q2 hO HC1
  unfold codV at hlk
  simp only [World.size_alloc] at hlk
  go_upto_region 4 with (fail)
  have hB2 := below_trans HB1.out (below_alloc1 (Below.refl w1.heap.size w1) (.cells #[.int .u8 p, .string c.name, .int .u32 c.rate, .string c.par, .string c.fm, .slice A c.fb.length k] 101))
  have hD2 := HD1.out.step (below_alloc1 (Below.refl w1.heap.size w1) (.cells #[.int .u8 p, .string c.name, .int .u32 c.rate, .string c.par, .string c.fm, .slice A c.fb.length k] 101))
  have hC2 := Cod.new w1 (.int .u8 p) (.string c.name) (.int .u32 c.rate) (.string c.par) (.string c.fm) (.slice A c.fb.length k)
  have hS2 := (HO.out.reads).step (by decide) (below_alloc1 (Below.refl w1.heap.size w1) (.cells #[.int .u8 p, .string c.name, .int .u32 c.rate, .string c.par, .string c.fm, .slice A c.fb.length k] 101))
  obtain ⟨w2, hw2⟩ : ∃ w2, w2 = w1.alloc (.cells #[.int .u8 p, .string c.name, .int .u32 c.rate, .string c.par, .string c.fm, .slice A c.fb.length k] 101) := ⟨_, rfl⟩
  rw [← hw2] at hB2 hD2 hC2 hS2 ⊢
  obtain ⟨x, hx⟩ : ∃ x, x = w1.heap.size := ⟨_, rfl⟩
  rw [← hx] at hC2 ⊢
  have HB2 := Bx.mk hB2
  have HS2 := Bx.mk hS2
  obtain ⟨⟨k0, k1, k2, k3, k4, k5⟩, -, -⟩ := hC2.facts
  obtain ⟨⟨d0, d1, d2, d3, d4, d5⟩, df, dz⟩ := hD2.facts
  have df0 := df 0
  have df1 := df 1
  have df2 := df 2
  have df3 := df 3
  have df4 := df 4
  have df5 := df 5
  clear df hw2 hx hC2 hD2 hB2 hS2 HD1 HO HB1 hlk HS
  go_wp2
  refine bodyPost_ret (v := .tuple #[.agg #[.int .u8 p, .string c.name, .int .u32 c.rate, .string c.par, .string c.fm, .slice A c.fb.length k], .nilIface]) (by simp [results, Tryz.results36, go_sem, *]) rfl ⟨?_, A, k, rfl, ?_⟩
  · have := HB2.out; exact ((((((this.setCell (Nat.le_refl _) _).setCell (Nat.le_refl _) _).setCell (Nat.le_refl _) _).setCell (Nat.le_refl _) _).setCell (Nat.le_refl _) _).setCell (Nat.le_refl _) _)
  · have hK : Keep w.heap.size w2 _ := ((((((Keep.set (g := w.heap.size) (i := 0) (w := w2) (.int .u8 p)).trans (Keep.set (i := 1) (.string c.name))).trans (Keep.set (i := 2) (.int .u32 c.rate))).trans (Keep.set (i := 3) (.string c.par))).trans (Keep.set (i := 4) (.string c.fm))).trans (Keep.set (i := 5) (.slice A c.fb.length k)))
    exact (HS2.out.keep (by decide) (fun b hb => by simp at hb; omega) hK).mono fun b hb => by simp at hb; omega
end Go.Proofs.YtimonhimfioohaaGreatDoor
/-! impl.codec. -/
namespace Go.Proofs.YtimonhimfioohaaGreatDoor
open Go Go.RowKit Go.PlainAid Kn
theorem size57 : (Tryz.prog.info? 57).map (·.size) = some 6 := by kernel_rfl
set_option maxRecDepth 20000 in
set_option maxHeartbeats 3200000 in
theorem codec_calls (p : Nat) (name : ByteArray) (rate : Nat) (par fm : ByteArray) (A : Option Addr) (n k : Nat) (l : List ByteArray) (F : Nat → Prop) (w : World) (hp : p ≤ 255) (hv : Kn.string.SV F w (.slice A n k) l) (hl : l.length ≤ 137438953472) :
    Calls Tryz.prog 37 #[.agg #[.int .u8 p, .string name, .int .u32 rate, .string par, .string fm, .slice A n k]] w fun e w' => Below w.heap.size w w' ∧ ∃ A' k', e = .returned (.agg #[.int .i64 p, .string name, .int .u32 rate, .string par, .string fm, .slice A' l.length k']) ∧ Kn.string.SV (fun b => w.heap.size ≤ b) w' (.slice A' l.length k') l := by
  have HV := Bx.mk hv
  have HL := Bx.mk hl
  have hB0 : ∀ (i : Nat) (u : Value), #[.int .u8 p, .string name, .int .u32 rate, .string par, .string fm, .slice A n k][i]? = some u → ((w.alloc (.cells #[.int .u8 p, .string name, .int .u32 rate, .string par, .string fm, .slice A n k] 101)).alloc (.cells #[.int .i64 0, .string ⟨#[]⟩, .int .u32 0, .string ⟨#[]⟩, .string ⟨#[]⟩, .slice Option.none 0 0] 57)).drew.cell? ⟨w.heap.size, i, Option.none⟩ = some u := fun i u h => (blk_cell (blk_alloc (heap_alloc_new w (.cells #[.int .u8 p, .string name, .int .u32 rate, .string par, .string fm, .slice A n k] 101)) (.cells #[.int .i64 0, .string ⟨#[]⟩, .int .u32 0, .string ⟨#[]⟩, .string ⟨#[]⟩, .slice Option.none 0 0] 57)) i).trans h
  have HB := Bx.mk hB0
  have HW : Bx (Below w.heap.size w ((w.alloc (.cells #[.int .u8 p, .string name, .int .u32 rate, .string par, .string fm, .slice A n k] 101)).alloc (.cells #[.int .i64 0, .string ⟨#[]⟩, .int .u32 0, .string ⟨#[]⟩, .string ⟨#[]⟩, .slice Option.none 0 0] 57)).drew) := ⟨Below.drew (below_alloc2 (Below.refl w.heap.size w) (.cells #[.int .u8 p, .string name, .int .u32 rate, .string par, .string fm, .slice A n k] 101) (.cells #[.int .i64 0, .string ⟨#[]⟩, .int .u32 0, .string ⟨#[]⟩, .string ⟨#[]⟩, .slice Option.none 0 0] 57))⟩
  have HZ : Bx (w.heap.size + 2 ≤ ((w.alloc (.cells #[.int .u8 p, .string name, .int .u32 rate, .string par, .string fm, .slice A n k] 101)).alloc (.cells #[.int .i64 0, .string ⟨#[]⟩, .int .u32 0, .string ⟨#[]⟩, .string ⟨#[]⟩, .slice Option.none 0 0] 57)).drew.heap.size) := ⟨by simp⟩
  have HG : Bx (((w.alloc (.cells #[.int .u8 p, .string name, .int .u32 rate, .string par, .string fm, .slice A n k] 101)).alloc (.cells #[.int .i64 0, .string ⟨#[]⟩, .int .u32 0, .string ⟨#[]⟩, .string ⟨#[]⟩, .slice Option.none 0 0] 57)).drew.heap[w.heap.size + 1]? = some (.cells #[.int .i64 0, .string ⟨#[]⟩, .int .u32 0, .string ⟨#[]⟩, .string ⟨#[]⟩, .slice Option.none 0 0] 57)) := ⟨by have := heap_alloc_new (w.alloc (.cells #[.int .u8 p, .string name, .int .u32 rate, .string par, .string fm, .slice A n k] 101)) (.cells #[.int .i64 0, .string ⟨#[]⟩, .int .u32 0, .string ⟨#[]⟩, .string ⟨#[]⟩, .slice Option.none 0 0] 57); rw [World.size_alloc] at this; exact this⟩
  have hwr : IntKind.i64.wrap (p : Int) = p := IntWalk.i64_in _ (by omega)
  clear hv hl hB0
  go_enter Tryz.func37, Tryz.ntmps37
  go_upto_region 1 with fail
  refine region_app (by kernel_rfl) (by kernel_rfl) (by kernel_rfl) (by kernel_rfl) (fun f => #[.agg #[.int .u8 p, .string name, .int .u32 rate, .string par, .string fm, .slice A n k], .pointer (some ⟨w.heap.size, 0, Option.none⟩), .pointer (some ⟨w.heap.size + 1, 0, Option.none⟩), f 3, f 4, f 5, f 6, f 7, f 8, f 9, f 10, f 11, f 12, f 13, f 14, f 15, f 16, f 17]) (fun f => by kernel_rfl) 15 (Option.none) (by kernel_rfl) ⟨by kernel_rfl, by simp, fun s hs => by cases hs⟩ (fun i => match i with | 0 => Mono.is (.pointer (some ⟨w.heap.size, 0, Option.none⟩)) | 1 => Mono.is (.int .u8 p) | 2 => Mono.is (.int .i64 p) | 3 => Mono.is (.pointer (some ⟨w.heap.size, 1, Option.none⟩)) | 4 => Mono.is (.string name) | 5 => Mono.is (.pointer (some ⟨w.heap.size, 2, Option.none⟩)) | 6 => Mono.is (.int .u32 rate) | 7 => Mono.is (.pointer (some ⟨w.heap.size, 3, Option.none⟩)) | 8 => Mono.is (.string par) | 9 => Mono.is (.pointer (some ⟨w.heap.size, 4, Option.none⟩)) | 10 => Mono.is (.string fm) | 11 => Mono.is (.pointer (some ⟨w.heap.size, 5, Option.none⟩)) | 12 => Mono.is (.slice A n k) | 13 => ⟨fun v w' => ∃ A' k', v = .slice A' l.length k' ∧ Kn.string.SV (fun b => w.heap.size + 2 ≤ b) w' (.slice A' l.length k') l, fun ⟨A', k', h1, h2⟩ hb => ⟨A', k', h1, h2.step (by decide) hb⟩⟩ | 14 => ⟨fun v w' => ∃ A' k', v = .agg #[.int .i64 p, .string name, .int .u32 rate, .string par, .string fm, .slice A' l.length k'] ∧ Kn.string.SV (fun b => w.heap.size + 2 ≤ b) w' (.slice A' l.length k') l, fun ⟨A', k', h1, h2⟩ hb => ⟨A', k', h1, h2.step (by decide) hb⟩⟩ | _ => Mono.is undef) [] (fun i => match i with  | _ => Option.none) (by kernel_rfl) (by kernel_rfl) (fun _ w' => Below w.heap.size w w' ∧ ∃ A' k', w'.heap[w.heap.size + 1]? = some (.cells #[.int .i64 p, .string name, .int .u32 rate, .string par, .string fm, .slice A' l.length k'] 57 (0, 0)) ∧ Kn.string.SV (fun b => w.heap.size + 2 ≤ b) w' (.slice A' l.length k') l) (fun _ => True) ?_ ?_ ?_ ?_ ?_ (by decide)
  · intro i o ho hanc a wx hb hfr hv
    match i, ho with
    | 0, ho =>
      rw [← Array.getElem?_toList] at ho
      simp only [List.getElem?_cons_zero, Option.some.injEq] at ho
      subst ho
      have e1 : a.tmps[1]?.getD undef = .pointer (some ⟨w.heap.size, 0, Option.none⟩) := (eval_tmp a 1).trans (hfr 1 (by decide +kernel))
      clear hfr hv hanc hb
      refine mstep_val (.pointer (some ⟨w.heap.size, 0, Option.none⟩)) (fun K' hK => ?_) (by exact rfl)
      go_simp
      exact hK
    | 1, ho =>
      rw [← Array.getElem?_toList] at ho
      simp only [List.getElem?_cons_zero, List.getElem?_cons_succ, Option.some.injEq] at ho
      subst ho
      have e3 := (eval_tmp a 3).trans (hv 0 _ rfl rfl _ 3 rfl rfl)
      have c0 := cell_below hb (HB.out 0 _ rfl)
      clear hfr hv hanc hb
      refine mstep_val (.int .u8 p) (fun K' hK => ?_) (by exact rfl)
      go_simp
      exact hK
    | 2, ho =>
      rw [← Array.getElem?_toList] at ho
      simp only [List.getElem?_cons_zero, List.getElem?_cons_succ, Option.some.injEq] at ho
      subst ho
      have e4 := (eval_tmp a 4).trans (hv 0 _ rfl rfl _ 4 rfl rfl)
      clear hfr hv hanc hb
      refine mstep_val (.int .i64 p) (fun K' hK => ?_) (by exact rfl)
      go_simp
      exact hK
    | 3, ho =>
      rw [← Array.getElem?_toList] at ho
      simp only [List.getElem?_cons_zero, List.getElem?_cons_succ, Option.some.injEq] at ho
      subst ho
      have e1 : a.tmps[1]?.getD undef = .pointer (some ⟨w.heap.size, 0, Option.none⟩) := (eval_tmp a 1).trans (hfr 1 (by decide +kernel))
      clear hfr hv hanc hb
      refine mstep_val (.pointer (some ⟨w.heap.size, 1, Option.none⟩)) (fun K' hK => ?_) (by exact rfl)
      go_simp
      exact hK
    | 4, ho =>
      rw [← Array.getElem?_toList] at ho
      simp only [List.getElem?_cons_zero, List.getElem?_cons_succ, Option.some.injEq] at ho
      subst ho
      have e6 := (eval_tmp a 6).trans (hv 0 _ rfl rfl _ 6 rfl rfl)
      have c0 := cell_below hb (HB.out 1 _ rfl)
      clear hfr hv hanc hb
      refine mstep_val (.string name) (fun K' hK => ?_) (by exact rfl)
      go_simp
      exact hK
    | 5, ho =>
      rw [← Array.getElem?_toList] at ho
      simp only [List.getElem?_cons_zero, List.getElem?_cons_succ, Option.some.injEq] at ho
      subst ho
      have e1 : a.tmps[1]?.getD undef = .pointer (some ⟨w.heap.size, 0, Option.none⟩) := (eval_tmp a 1).trans (hfr 1 (by decide +kernel))
      clear hfr hv hanc hb
      refine mstep_val (.pointer (some ⟨w.heap.size, 2, Option.none⟩)) (fun K' hK => ?_) (by exact rfl)
      go_simp
      exact hK
    | 6, ho =>
      rw [← Array.getElem?_toList] at ho
      simp only [List.getElem?_cons_zero, List.getElem?_cons_succ, Option.some.injEq] at ho
      subst ho
      have e8 := (eval_tmp a 8).trans (hv 0 _ rfl rfl _ 8 rfl rfl)
      have c0 := cell_below hb (HB.out 2 _ rfl)
      clear hfr hv hanc hb
      refine mstep_val (.int .u32 rate) (fun K' hK => ?_) (by exact rfl)
      go_simp
      exact hK
    | 7, ho =>
      rw [← Array.getElem?_toList] at ho
      simp only [List.getElem?_cons_zero, List.getElem?_cons_succ, Option.some.injEq] at ho
      subst ho
      have e1 : a.tmps[1]?.getD undef = .pointer (some ⟨w.heap.size, 0, Option.none⟩) := (eval_tmp a 1).trans (hfr 1 (by decide +kernel))
      clear hfr hv hanc hb
      refine mstep_val (.pointer (some ⟨w.heap.size, 3, Option.none⟩)) (fun K' hK => ?_) (by exact rfl)
      go_simp
      exact hK
    | 8, ho =>
      rw [← Array.getElem?_toList] at ho
      simp only [List.getElem?_cons_zero, List.getElem?_cons_succ, Option.some.injEq] at ho
      subst ho
      have e10 := (eval_tmp a 10).trans (hv 0 _ rfl rfl _ 10 rfl rfl)
      have c0 := cell_below hb (HB.out 3 _ rfl)
      clear hfr hv hanc hb
      refine mstep_val (.string par) (fun K' hK => ?_) (by exact rfl)
      go_simp
      exact hK
    | 9, ho =>
      rw [← Array.getElem?_toList] at ho
      simp only [List.getElem?_cons_zero, List.getElem?_cons_succ, Option.some.injEq] at ho
      subst ho
      have e1 : a.tmps[1]?.getD undef = .pointer (some ⟨w.heap.size, 0, Option.none⟩) := (eval_tmp a 1).trans (hfr 1 (by decide +kernel))
      clear hfr hv hanc hb
      refine mstep_val (.pointer (some ⟨w.heap.size, 4, Option.none⟩)) (fun K' hK => ?_) (by exact rfl)
      go_simp
      exact hK
    | 10, ho =>
      rw [← Array.getElem?_toList] at ho
      simp only [List.getElem?_cons_zero, List.getElem?_cons_succ, Option.some.injEq] at ho
      subst ho
      have e12 := (eval_tmp a 12).trans (hv 0 _ rfl rfl _ 12 rfl rfl)
      have c0 := cell_below hb (HB.out 4 _ rfl)
      clear hfr hv hanc hb
      refine mstep_val (.string fm) (fun K' hK => ?_) (by exact rfl)
      go_simp
      exact hK
    | 11, ho =>
      rw [← Array.getElem?_toList] at ho
      simp only [List.getElem?_cons_zero, List.getElem?_cons_succ, Option.some.injEq] at ho
      subst ho
      have e1 : a.tmps[1]?.getD undef = .pointer (some ⟨w.heap.size, 0, Option.none⟩) := (eval_tmp a 1).trans (hfr 1 (by decide +kernel))
      clear hfr hv hanc hb
      refine mstep_val (.pointer (some ⟨w.heap.size, 5, Option.none⟩)) (fun K' hK => ?_) (by exact rfl)
      go_simp
      exact hK
    | 12, ho =>
      rw [← Array.getElem?_toList] at ho
      simp only [List.getElem?_cons_zero, List.getElem?_cons_succ, Option.some.injEq] at ho
      subst ho
      have e14 := (eval_tmp a 14).trans (hv 0 _ rfl rfl _ 14 rfl rfl)
      have c0 := cell_below hb (HB.out 5 _ rfl)
      clear hfr hv hanc hb
      refine mstep_val (.slice A n k) (fun K' hK => ?_) (by exact rfl)
      go_simp
      exact hK
    | 13, ho =>
      rw [← Array.getElem?_toList] at ho
      simp only [List.getElem?_cons_zero, List.getElem?_cons_succ, Option.some.injEq] at ho
      subst ho
      have e15 := (eval_tmp a 15).trans (hv 0 _ rfl rfl _ 15 rfl rfl)
      refine mstep_gen (fun v w' => Below wx.heap.size wx w' ∧ ∃ A' k', v = .slice A' l.length k' ∧ Kn.string.SV (fun b => w.heap.size + 2 ≤ b) w' (.slice A' l.length k') l) (fun K' hK => ?_) (fun v w' hG => ?_)
      · clear hfr hv hanc
        have hK' := Bx.mk hK
        have HY := Bx.mk (HV.out.step (by decide) (below_trans HW.out hb))
        have HL2 := Bx.mk (Nat.le_trans HZ.out hb.size)
        clear hK hb
        go_simp
        refine (iclone _ l F _ HY.out HL.out).mono ?_
        rintro e w2 ⟨hb, A', k', rfl, hs⟩
        exact hK'.out _ _ ⟨hb, A', k', rfl, hs.mono fun _ h => Nat.le_trans HL2.out h⟩
      · exact ⟨hG.2, hG.1⟩
    | 14, ho =>
      rw [← Array.getElem?_toList] at ho
      simp only [List.getElem?_cons_zero, List.getElem?_cons_succ, Option.some.injEq] at ho
      subst ho
      have e5 := (eval_tmp a 5).trans (hv 0 _ rfl rfl _ 5 rfl rfl)
      have e7 := (eval_tmp a 7).trans (hv 1 _ rfl rfl _ 7 rfl rfl)
      have e9 := (eval_tmp a 9).trans (hv 2 _ rfl rfl _ 9 rfl rfl)
      have e11 := (eval_tmp a 11).trans (hv 3 _ rfl rfl _ 11 rfl rfl)
      have e13 := (eval_tmp a 13).trans (hv 4 _ rfl rfl _ 13 rfl rfl)
      obtain ⟨A', k', e16, hsv⟩ := (hv 5 _ rfl rfl _ 16 rfl rfl)
      replace e16 := (eval_tmp a 16).trans e16
      refine mstep_gen (fun v w' => w' = wx ∧ v = .agg #[.int .i64 p, .string name, .int .u32 rate, .string par, .string fm, .slice A' l.length k']) (fun K' hK => ?_) (fun v w' hG => ?_)
      · clear hfr hv hanc
        clear hb hsv
        go_simp
        exact hK _ _ ⟨rfl, rfl⟩
      · obtain ⟨rfl, rfl⟩ := hG
        exact ⟨⟨_, _, rfl, hsv⟩, Below.refl _ _⟩
    | 15, ho => exact (not_both (by kernel_rfl) hanc).elim
    | n + 16, ho => cases ho
  · intro i hi
    cases hi
  · intro o ho a wx hb hfr hv
    rw [← Array.getElem?_toList] at ho
    simp only [List.getElem?_cons_zero, List.getElem?_cons_succ, Option.some.injEq] at ho
    subst ho
    obtain ⟨A', k', e17, hsv⟩ := (hv 14 _ 17 (by kernel_rfl) rfl rfl)
    have e2 := hfr 2 (by decide +kernel)
    have hG := heap_below hb HG.out
    have HB2 := Bx.mk (below_trans HW.out hb)
    have HSV := Bx.mk hsv
    clear hv hb hsv hfr
    refine astep_gen (fun K' hK => ?_)
    refine wp_store_row 57 _ _ rfl (w.heap.size + 1) _ e2 e17 57 _ hG size57 rfl (by simp [Value.oneCell']) (hK _ _ ⟨HB2.out.trans ((keep_setRow _ _ _).below HB2.out.size (Nat.le_succ _)), A', k', setRow_heap _ _ _ _ _ _ hG, HSV.out.keep (by decide) (fun b hb' => by have : w.heap.size + 2 ≤ b := hb'; omega) (keep_setRow _ _ _)⟩)
  · intro s o hs
    cases hs
  · intro f wx hTf hP hF _
    obtain ⟨v, hv, hW, A', k', hg2, hs2⟩ := hP rfl
    have HBW := Bx.mk hW
    have HS := Bx.mk hs2
    have c0 := (blk_cell hg2 0).trans rfl
    have c1 := (blk_cell hg2 1).trans rfl
    have c2 := (blk_cell hg2 2).trans rfl
    have c3 := (blk_cell hg2 3).trans rfl
    have c4 := (blk_cell hg2 4).trans rfl
    have c5 := (blk_cell hg2 5).trans rfl
    clear hTf hP hF hW hs2 hv hg2
    dsimp only
    go_wp2
    exact bodyPost_ret (v := .agg #[.int .i64 p, .string name, .int .u32 rate, .string par, .string fm, .slice A' l.length k']) (by simp [results, Tryz.results37, go_sem, *]) rfl ⟨HBW.out, A', k', rfl, HS.out.mono fun b hb => by have : w.heap.size + 2 ≤ b := hb; omega⟩
end Go.Proofs.YtimonhimfioohaaGreatDoor
