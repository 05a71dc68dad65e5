/- Lemmas on which the proof of Rows.FnCodecCardSaid rests: no statement of the seat is proved in this file. Conditions: each lemma's own hypotheses, no others. -/
import Derived.Test.YtimonhimfioohaaGreatDoorM10
import Derived.Test.YtimonhimfioohaaGreatDoorM03
/-! sdp.codecsMatch, GetPayloadTypeForCodec. -/
namespace Go.Proofs.YtimonhimfioohaaGreatDoor
open Go Go.RowKit Go.PlainAid Kn Go.Maps
def upU (c : UInt8) : UInt8 := UInt8.ofNat (upb c.toNat).toNat
theorem fold_one {x y : UInt8} (h : Lib.foldEq x y = true) : upU x = upU y := by
  unfold Lib.foldEq at h
  have h2 := of_decide_eq_true h
  unfold upU upb
  rcases h2 with h2 | h2 | h2
  · rw [h2]
  · rw [if_neg (by omega), if_pos (by omega)]
    congr 1; omega
  · rw [if_pos (by omega), if_neg (by omega)]
    congr 1; omega
theorem fold_up : ∀ (s t : List UInt8), Lib.equalFold s t = true → s.map upU = t.map upU
  | [], [], _ => rfl
  | x :: s, y :: t, h => by
    simp only [Lib.equalFold, Bool.and_eq_true] at h
    rw [List.map_cons, List.map_cons, fold_one h.1, fold_up s t h.2]
  | [], _ :: _, h => by simp [Lib.equalFold] at h
  | _ :: _, [], h => by simp [Lib.equalFold] at h
theorem fold_self : ∀ (s : List UInt8), Lib.equalFold s s = true
  | [] => rfl
  | x :: s => by simp only [Lib.equalFold, Bool.and_eq_true]; exact ⟨by simp [Lib.foldEq], fold_self s⟩
theorem fold_no {s t : ByteArray} (ht : up t = t) (h : up s ≠ t) : Lib.equalFold s.data.toList t.data.toList = false := by
  cases he : Lib.equalFold s.data.toList t.data.toList
  · rfl
  · exfalso
    apply h
    have := fold_up _ _ he
    rw [← ht]
    unfold up
    have h2 : (s.data.toList.map fun c => UInt8.ofNat (upb c.toNat).toNat) = t.data.toList.map fun c => UInt8.ofNat (upb c.toNat).toNat := this
    rw [h2]
def Asc (s : ByteArray) : Prop := ∀ (j : Nat) (b : UInt8), s.data.toList[j]? = some b → b.toNat < 128
set_option maxRecDepth 20000 in
set_option maxHeartbeats 3200000 in
theorem match_no (a rate : Int) (name par fm : ByteArray) (v : Value) (a2 rate2 : Int) (name2 par2 fm2 : ByteArray) (v2 : Value) (w : World) (h0 : name.toList.isEmpty = false) (hs : name.size < 4294967281) (h1 : Asc name) (h2 : Asc name2) (hf : Lib.equalFold name.data.toList name2.data.toList = false) :
    Calls Tryz.prog 60 #[.agg #[.int .u8 a, .string name, .int .u32 rate, .string par, .string fm, v], .agg #[.int .u8 a2, .string name2, .int .u32 rate2, .string par2, .string fm2, v2]] w fun e w' => Below w.heap.size w w' ∧ e = .returned (.bool false) := by
  have H1 := Bx.mk h1
  have H2 := Bx.mk h2
  have HF := Bx.mk hf
  have h0' : (!name.toList.isEmpty) = true := by rw [h0]; rfl
  clear h1 h2 hf
  go_enter Tryz.func60, Tryz.ntmps60
  go_wp2_with (fail)
  refine (Tryz.strings_EqualFold name name2 _ hs H1.out H2.out).mono ?_
  rintro e w' ⟨rfl, rfl⟩
  rw [HF.out]
  go_wp2
  go_ret
  exact ⟨below_alloc2 (Below.refl _ _) _ _, rfl⟩
set_option maxRecDepth 20000 in
set_option maxHeartbeats 3200000 in
theorem match_yes (tb : Nat → Int) (a : Int) (rate : Nat) (name par fm : ByteArray) (v : Value) (a2 : Int) (v2 : Value) (w : World) (h0 : name.toList.isEmpty = false) (hs : name.size < 4294967281) (h1 : Asc name) (hr : 0 < rate) (hfs : fm.size ≤ 2147483647) (hfa : ∀ b ∈ fm.data.toList, b.toNat < 128) (ht : SpTab tb w) :
    Calls Tryz.prog 60 #[.agg #[.int .u8 a, .string name, .int .u32 rate, .string par, .string fm, v], .agg #[.int .u8 a2, .string name, .int .u32 rate, .string par, .string fm, v2]] w fun e w' => Below w.heap.size w w' ∧ e = .returned (.bool true) := by
  have H1 := Bx.mk h1
  have HA := Bx.mk hfa
  have HT := Bx.mk (ht.step (below_alloc2 (Below.refl w.heap.size w) (.cells #[.int .u8 a, .string name, .int .u32 rate, .string par, .string fm, v] 101) (.cells #[.int .u8 a2, .string name, .int .u32 rate, .string par, .string fm, v2] 101)))
  have HF := Bx.mk (fold_self name.data.toList)
  have h0' : (!name.toList.isEmpty) = true := by rw [h0]; rfl
  have hr0 : ((rate : Int) == 0) = false := by simp; omega
  have hr1 : (!((rate : Int) == 0)) = true := by rw [hr0]; rfl
  clear h1 hfa ht
  cases hpe : par.toList.isEmpty <;> cases hfe : fm.toList.isEmpty
  all_goals
    have hpe' : (!par.toList.isEmpty) = _ := congrArg not hpe
    have hfe' : (!fm.toList.isEmpty) = _ := congrArg not hfe
    simp only [Bool.not_true, Bool.not_false] at hpe' hfe'
    go_enter Tryz.func60, Tryz.ntmps60
    go_wp2_with (fail)
    refine (Tryz.strings_EqualFold name name _ hs H1.out H1.out).mono ?_
    rintro e w' ⟨rfl, rfl⟩
    rw [HF.out]
    first
      | (go_wp2
         go_ret
         exact ⟨below_alloc2 (Below.refl _ _) _ _, rfl⟩)
      | (go_wp2_with (fail)
         refine (equiv_calls tb fm _ hfs HA.out HT.out).mono ?_
         rintro e w3 ⟨hb3, rfl⟩
         have HB := Bx.mk (below_trans (below_alloc2 (Below.refl w.heap.size w) (.cells #[.int .u8 a, .string name, .int .u32 rate, .string par, .string fm, v] 101) (.cells #[.int .u8 a2, .string name, .int .u32 rate, .string par, .string fm, v2] 101)) hb3)
         clear hb3
         go_wp2
         go_ret
         exact ⟨HB.out, rfl⟩)
end Go.Proofs.YtimonhimfioohaaGreatDoor
/-! sdp.GetPayloadTypeForCodec. -/
namespace Go.Proofs.YtimonhimfioohaaGreatDoor
open Go Go.RowKit Go.PlainAid Kn Go.Maps
/-- What the search for a codec asks of it. -/
structure Want (c : Cd) : Prop where
  ne : c.name.toList.isEmpty = false
  size : c.name.size < 4294967281
  asc : Asc c.name
  st : up c.name ∉ statics
  rate : 0 < c.rate
  fsize : c.fm.size ≤ 2147483647
  fasc : ∀ b ∈ c.fm.data.toList, b.toNat < 128
theorem asc_lit (l : List UInt8) (h : l.all (fun b => decide (b.toNat < 128)) = true) : Asc ⟨l.toArray⟩ := fun j b hb => by
  have := List.all_eq_true.1 h b (List.mem_of_getElem? (by simpa using hb))
  simpa using this
set_option maxRecDepth 20000 in
set_option maxHeartbeats 6400000 in
theorem ptfor_calls (tb : Nat → Int) (w : World) (g : Nat) (meds : List Med) (F : Nat → Prop) (p : Nat) (c : Cd) (A : Option Addr) (n k : Nat) (hS : SesIn w g meds F p (some c)) (hw : Want c) (ht : SpTab tb w) :
    Calls Tryz.prog 38 #[.pointer (some ⟨g, 0, Option.none⟩), .agg #[.int .u8 p, .string c.name, .int .u32 c.rate, .string c.par, .string c.fm, .slice A n k]] w fun e w' => Below w.heap.size w w' ∧ e = .returned (.tuple #[.int .u8 p, .nilIface]) := by
  have hp := hS.p8
  have hp9 := hS.p9
  have h10 : 10 < w.heap.size := World.block_lt_of_cell? w _ (ht 0 (by decide))
  have hB0 := below_alloc1 (Below.refl w.heap.size w) (.cells #[.int .u8 p, .string c.name, .int .u32 c.rate, .string c.par, .string c.fm, .slice A n k] 101)
  have HS := Bx.mk (hS.step hB0)
  have HT := Bx.mk (ht.step hB0)
  have HB0 := Bx.mk hB0
  have HC0 := Bx.mk (Cod.new w (.int .u8 p) (.string c.name) (.int .u32 c.rate) (.string c.par) (.string c.fm) (.slice A n k))
  have HW := Bx.mk hw
  clear hS ht hB0 hw
  go_enter Tryz.func38, Tryz.ntmps38
  go_wp2_with (fail)
  refine HS.out.map.mono ?_
  rintro e w1 ⟨hb1, rfl, -, n', D, ev, q1, q2, ⟨A9, n9, k9, rfl, -, -⟩, -⟩
  have HB1 := Bx.mk (below_trans HB0.out hb1)
  have HC1 := Bx.mk (HC0.out.step hb1)
  have HT1 := Bx.mk (HT.out.step hb1)
  have Q1 := Bx.mk q1
  have Q2 := Bx.mk q2
  have hzq := hb1.size
  rw [World.size_alloc] at hzq
  clear hb1 q1 q2 HS HT HB0 HC0
  go_wp2_with (at_range; refine wpList_range_own _ rfl _ 112 rfl 5 101 law5 Tryz.underlying112 hR (w.heap.size + 1) n' D rfl (by have := Q1.out; rwa [World.size_alloc] at this) ?_; intro wb hrg0 hg0 hs0)
  go_frame
  have HR0 := Bx.mk hrg0
  have hBb : Below w1.heap.size w1 wb := Below.grown (Below.refl _ _) hg0 (Nat.le_refl _) (fun b hb => by cases hb)
  have HB2 := Bx.mk (below_trans HB1.out hBb)
  have HC2 := Bx.mk (HC1.out.step hBb)
  have HT2 := Bx.mk (HT1.out.step hBb)
  have HP0 : Bx (Maps.has D (.int .u8 p) = true) := ⟨by rw [Q2.out.hs]; simp⟩
  clear hrg0 hg0 hs0 hBb HB1 HC1 HT1
  go_loopw [13] (fun _ wr => ∃ (left : Lit → Bool) (cnt : Nat), Bx (wr.ranges Tryz.prog 5 hR (w.heap.size + 1) w1.heap.size n' D left cnt) ∧ Bx (left (.int .u8 p) = true) ∧ Bx (Below w.heap.size w wr) ∧ Bx (Cod wr w.heap.size (.int .u8 p) (.string c.name) (.int .u32 c.rate) (.string c.par) (.string c.fm) (.slice A n k)) ∧ Bx (SpTab tb wr)) (fun _ wr => wr.rangeLeft (w.heap.size + 1) w1.heap.size)
  case atStart => exact ⟨_, _, HR0, HP0, HB2, HC2, HT2⟩
  case round =>
    clear HR0 HP0 HB2 HC2 HT2
    obtain ⟨left, cnt, hrg, hlp, hBr, hCr, hTr⟩ := hrel
    go_wp2_with (at_next; refine wpList_next_ranges _ rfl _ rfl 5 law5 hR (Value.int .u8) mkC inv8 invC (w.heap.size + 1) w1.heap.size n' D left cnt rfl hrg.out ?_ ?_)
    · intro _ hl0
      exact absurd hlp.out (by rw [hl0]; simp)
    · intro x cc kl y1 y2 w2 cnt1 hkey hlx hRv hat hrg1 hlt hg1 hs1 hen
      obtain ⟨q, rfl, hq, rfl⟩ := key8 hkey
      have hy := (hR_inv hRv).1
      simp only [Prod.mk.injEq] at hy
      obtain ⟨rfl, rfl⟩ := hy
      have hhas := has_true_of_atKey hat
      rw [Q2.out.hs] at hhas
      have hst : ∀ {j : Nat} {nm : ByteArray}, q = j → (∀ zd, D.atKey (.int .u8 (j : Nat)) zd = .held (codV j nm 8000 ⟨#[]⟩ ⟨#[]⟩ (.slice Option.none 0 0))) → cc = ⟨j, nm, 8000, ⟨#[]⟩, ⟨#[]⟩, Option.none, 0, 0⟩ := by
        rintro j nm rfl ha
        have h1 := (hat (.map [])).symm.trans (ha (.map []))
        cases cc
        simp only [DataW.held.injEq, codV, mkC, Value.agg.injEq] at h1
        simp at h1
        simp [h1]
      have hBn : Below w.heap.size w w2 := hBr.out.grown hg1 hBr.out.size (fun b hb => by cases hb; omega)
      have hCn : Cod w2 w.heap.size (.int .u8 p) (.string c.name) (.int .u32 c.rate) (.string c.par) (.string c.fm) (.slice A n k) := (hg1.block _ (blk_lt hCr.out) (fun e => by injection e with e; omega)).trans hCr.out
      have hTn : SpTab tb w2 := fun ch hch => (World.cell?_of_block (a := ⟨10, ch, Option.none⟩) (hg1.block 10 (by have := hBr.out.size; show 10 < wr.heap.size; omega) (fun e => by injection e with e; omega))).trans (hTr.out ch hch)
      have HRN := Bx.mk hrg1
      have HBN := Bx.mk hBn
      have HCN := Bx.mk hCn
      have HTN := Bx.mk hTn
      have HLT := Bx.mk (show w2.rangeLeft (w.heap.size + 1) w1.heap.size = cnt1 ∧ cnt1 < cnt from ⟨hrg1.left_eq, hlt⟩)
      have HLE := Bx.mk hrg.out.left_eq
      have HLP := Bx.mk hlp.out
      by_cases hqp : q = p
      · subst hqp
        have h1 := (hat (.map [])).symm.trans (Q2.out.ap _ rfl (.map []))
        have hcc : cc = ⟨q, c.name, c.rate, c.par, c.fm, A9, n9, k9⟩ := by
          cases cc
          simp only [DataW.held.injEq, codV, mkC, Value.agg.injEq] at h1
          simp at h1
          simp [h1]
        subst hcc
        have hbx := below_alloc1 (Below.refl w2.heap.size w2) (.cells #[.int .u8 q, .string c.name, .int .u32 c.rate, .string c.par, .string c.fm, .slice A9 n9 k9] 101)
        have HTX := Bx.mk (HTN.out.step hbx)
        have HBX := Bx.mk (below_trans HBN.out hbx)
        obtain ⟨⟨d0, d1, d2, d3, d4, d5⟩, -, -⟩ := (HCN.out.step hbx).facts
        clear hkey hlx hRv hat hrg1 hlt hg1 hs1 hrg hlp hBr hCr hTr hhas hst hBn hCn hTn h1 hbx HRN HCN HTN
        dsimp only [mkC] at hen ⊢
        go_wp2_with (fail)
        refine (match_yes tb q c.rate c.name c.par c.fm _ q _ _ HW.out.ne HW.out.size HW.out.asc HW.out.rate HW.out.fsize HW.out.fasc HTX.out).mono ?_
        rintro e w3 ⟨hb3, rfl⟩
        have HB3 := Bx.mk (below_trans HBX.out hb3)
        clear hb3 d0 d1 d2 d3 d4 d5
        go_wp2
        go_ret2
        exact ⟨HB3.out, rfl⟩
      · have hl2 : (left (.int .u8 p) && !(Lit.int .u8 p).sameKey (.int .u8 q)) = true := by
          rw [hlp.out, Maps.sameKey_ne (ne8 (by omega))]; rfl
        have hnm : Asc cc.b ∧ Lib.equalFold c.name.data.toList cc.b.data.toList = false ∧ cc.a = q := by
          have hq4 : q = 0 ∨ q = 8 ∨ q = 9 := by simp at hhas; omega
          have hno : ∀ t ∈ statics, up t = t → Lib.equalFold c.name.data.toList t.data.toList = false := fun t ht hu => fold_no hu (fun e => HW.out.st (e ▸ ht))
          rcases hq4 with h | h | h
          · rw [hst h Q2.out.a0]; exact ⟨asc_lit [80, 67, 77, 85] (by decide), hno _ (by simp [statics]) (by decide), by simp [h]⟩
          · rw [hst h Q2.out.a8]; exact ⟨asc_lit [80, 67, 77, 65] (by decide), hno _ (by simp [statics]) (by decide), by simp [h]⟩
          · rw [hst h Q2.out.a9]; exact ⟨asc_lit [71, 55, 50, 50] (by decide), hno _ (by simp [statics]) (by decide), by simp [h]⟩
        have hbx := below_alloc1 (Below.refl w2.heap.size w2) (.cells #[.int .u8 cc.a, .string cc.b, .int .u32 cc.c, .string cc.d, .string cc.e, .slice cc.A cc.n cc.k] 101)
        have HRX := Bx.mk (HRN.out.alloc (.cells #[.int .u8 cc.a, .string cc.b, .int .u32 cc.c, .string cc.d, .string cc.e, .slice cc.A cc.n cc.k] 101))
        have HTX := Bx.mk (HTN.out.step hbx)
        have HBX := Bx.mk (below_trans HBN.out hbx)
        have HCX := Bx.mk (HCN.out.step hbx)
        obtain ⟨⟨d0, d1, d2, d3, d4, d5⟩, -, -⟩ := HCX.out.facts
        have HNM := Bx.mk hnm
        have HL2 := Bx.mk hl2
        clear hkey hlx hRv hat hrg1 hlt hg1 hs1 hrg hlp hBr hCr hTr hhas hst hBn hCn hTn hbx HRN HCN HTN hnm hl2
        dsimp only [mkC] at hen ⊢
        go_wp2_with (fail)
        refine (match_no _ _ c.name _ _ _ _ _ cc.b _ _ _ _ HW.out.ne HW.out.size HW.out.asc HNM.out.1 HNM.out.2.1).mono ?_
        rintro e w3 ⟨hb3, rfl⟩
        have hrgk := HRX.out.kept (row := Option.none) (w' := w3) ⟨hb3.os, hb3.tape, hb3.output, hb3.size, fun i hi _ => hb3.block i hi⟩ (by simp) (by simp)
        have HR3 := Bx.mk hrgk
        have HB3 := Bx.mk (below_trans HBX.out hb3)
        have HC3 := Bx.mk (HCX.out.step hb3)
        have HT3 := Bx.mk (HTX.out.step hb3)
        clear hb3 d0 d1 d2 d3 d4 d5 hrgk
        go_wp2
        go_roundw
        case rel => first | exact ⟨_, cnt1, HR3, HL2, HB3, HC3, HT3⟩ | ((repeat apply Exists.intro); exact ⟨⟨_, cnt1, HR3, HL2, HB3, HC3, HT3⟩, rfl⟩)
        case measure => rw [HR3.out.left_eq, HLE.out]; exact HLT.out.2
end Go.Proofs.YtimonhimfioohaaGreatDoor
/-! The same rule, the facts of what was done first being kept for the end. -/
namespace Go.Proofs.YtimonhimfioohaaGreatDoor
open Go Go.RowKit
section
variable {P : Program} {ops : Array Oper} {Q : Exit → Act → World → Prop}
theorem region_app2 {id : Nat} {a0 : Act} {w0 : World} (hm : P.follows .mixedOrders = true) (ht : topo ops = true) (hd : dstOk ops a0.tmps.size = true) (hg : ops.all (fun o => o.guard.isNone) = true) (lit : (Nat → Value) → Array Value)
    (hlit : ∀ f : Nat → Value, ((List.range a0.tmps.size).map fun t => cond (writes ops t) (f t) (a0.eval (.tmp t))).toArray = lit f)
    (A : Nat) (S : Option Nat) (hanc : ancOk ops 30 A = true) (hSA : anc ops 30 A A = false ∧ S ≠ some A ∧ (∀ s, S = some s → anc ops 30 A s = false ∧ anc ops 30 s A = true)) (G : Nat → Mono) (Fr : List Nat) (T0 : Nat → Option Value)
    (hFr : ((List.range ops.size).all fun i => anc ops 30 A i || i == A || S == some i || Fr.contains i) = true) (hFr2 : (Fr.all fun i => !anc ops 30 A i && i != A && S != some i) = true) (Post : Value → World → Prop) (Fin : World → Prop)
    (pre : ∀ i o, ops[i]? = some o → anc ops 30 A i = true → ∀ a w, Below w0.drew.heap.size w0.drew w → (∀ t, writes ops t = false → a.eval (.tmp t) = a0.eval (.tmp t)) →
      (∀ (q : Nat) e, o.after[q]? = some e → Region.binds .any e = true → ∀ o' t, ops[e.on]? = some o' → o'.dst = some t → (G e.on).p (a.eval (.tmp t)) w) →
      o.wp P a w (fun a' w' => ∃ v, a' = a.put o.dst v ∧ (G i).p v w' ∧ Below w.heap.size w w') Q)
    (free : ∀ i, i ∈ Fr → ∀ o, ops[i]? = some o → ∀ a w, (∀ t, writes ops t = false → a.eval (.tmp t) = a0.eval (.tmp t)) →
      (∀ (q : Nat) e, o.after[q]? = some e → Region.binds .any e = true → ∀ o' t c, ops[e.on]? = some o' → o'.dst = some t → Tof Fr T0 e.on = some c → a.eval (.tmp t) = c) →
      ∃ c, Tof Fr T0 i = some c ∧ o.wp P a w (fun a' w' => a' = a.put o.dst c ∧ w' = w) Q)
    (app : ∀ o, ops[A]? = some o → ∀ a w, Below w0.drew.heap.size w0.drew w → (∀ t, writes ops t = false → a.eval (.tmp t) = a0.eval (.tmp t)) →
      (∀ j o' t, anc ops 30 A j = true → ops[j]? = some o' → o'.dst = some t → (G j).p (a.eval (.tmp t)) w) →
      o.wp P a w (fun a' w' => ∃ v, a' = a.put o.dst v ∧ Post v w') Q)
    (sto : ∀ s o, S = some s → ops[s]? = some o → ∀ a w, (∀ t, writes ops t = false → a.eval (.tmp t) = a0.eval (.tmp t)) →
      (∀ (q : Nat) e, o.after[q]? = some e → Region.binds .any e = true → ∀ o' t c, ops[e.on]? = some o' → o'.dst = some t → Tof Fr T0 e.on = some c → a.eval (.tmp t) = c) →
      (∃ v, (∀ o' t, ops[A]? = some o' → o'.dst = some t → a.eval (.tmp t) = v) ∧ Post v w) →
      o.wp P a w (fun a' w' => ∃ v, a' = a.put o.dst v ∧ Fin w') Q)
    (fin : ∀ (f : Nat → Value) w, (∀ j o' t v, ops[j]? = some o' → o'.dst = some t → Tof Fr T0 j = some v → f t = v) → (S = Option.none → ∃ v, (∀ o' t, ops[A]? = some o' → o'.dst = some t → f t = v) ∧ Post v w) → ((∃ s, S = some s ∧ s < ops.size) → Fin w) →
      (∀ j o' t, anc ops 30 A j = true → ops[j]? = some o' → o'.dst = some t → ∃ w1, (G j).p (f t) w1) → A < ops.size → Q .normal { tmps := lit f, defers := a0.defers } w) (hA : A < ops.size) : (Code.region id ops true).wp P Q a0 w0 := by
  have hgd : ∀ (i : Nat) (o : Oper), ops[i]? = some o → o.guard = Option.none := fun i o ho => by
    have := Array.all_eq_true_iff_forall_mem.1 hg o (Array.mem_of_getElem? ho)
    simpa using this
  have hT : ∀ i, (anc ops 30 A i = true ∨ i = A ∨ S = some i) → Tof Fr T0 i = Option.none := by
    intro i hi
    unfold Tof
    cases hc : Fr.contains i
    · rfl
    · have := List.all_eq_true.1 hFr2 i (by simpa using hc)
      simp only [Bool.and_eq_true, Bool.not_eq_true', bne_iff_ne, ne_eq] at this
      rcases hi with hi | hi | hi
      · rw [this.1.1] at hi; cases hi
      · exact absurd hi this.1.2
      · exact absurd hi this.2
  refine region_rule2 hm ht hd lit hlit (Tof Fr T0) (fun d f w =>
    (d A = false → Below w0.drew.heap.size w0.drew w ∧ ∀ j o' t, anc ops 30 A j = true → d j = true → ops[j]? = some o' → o'.dst = some t → (G j).p (f t) w) ∧
    (d A = true → (∀ s, S = some s → d s = false) → ∃ v, (∀ o' t, ops[A]? = some o' → o'.dst = some t → f t = v) ∧ Post v w) ∧ (∀ s, S = some s → d s = true → Fin w) ∧ (d A = true → ∀ j o' t, anc ops 30 A j = true → ops[j]? = some o' → o'.dst = some t → ∃ w1, (G j).p (f t) w1)) ?_ ?_ ?_
  · exact ⟨fun _ => ⟨Below.refl _ _, fun _ _ _ _ h => absurd h (by simp)⟩, fun h => absurd h (by simp), fun _ _ h => absurd h (by simp), fun h => absurd h (by simp)⟩
  · rintro i o ho d a w hdi hdep hcl hfr hTv ⟨h1, h2, h3, h4⟩
    have huniq : ∀ {t}, o.dst = some t → ∀ j o', ops[j]? = some o' → j ≠ i → o'.dst ≠ some t := fun hdt => (dstOk_spec hd ho hdt).2
    have other : ∀ {v : Value} {j o' t}, ops[j]? = some o' → o'.dst = some t → j ≠ i → upd o.dst v (fun t => a.eval (.tmp t)) t = a.eval (.tmp t) := fun hj hjt hne => upd_off (fun e => huniq e _ _ hj hne hjt)
    have hdepT : ∀ (q : Nat) e, o.after[q]? = some e → Region.binds .any e = true → ∀ o' t c, ops[e.on]? = some o' → o'.dst = some t → Tof Fr T0 e.on = some c → a.eval (.tmp t) = c := fun q e he hb o' t c ho' ht hc => hTv _ o' t c ho' ht hc (hdep e (Array.mem_of_getElem? he) hb)
    by_cases hiA : i = A
    · subst hiA
      obtain ⟨hb, hgs⟩ := h1 hdi
      have hall0 : ∀ j o' t, anc ops 30 i j = true → ops[j]? = some o' → o'.dst = some t → (G j).p (a.eval (.tmp t)) w := (fun j o' t hj ho' ht => hgs j o' t hj (by
        -- all that A waits for is done
        have : ∀ n k, (∀ e ∈ o.after, Region.binds .any e = true → d e.on = true) → anc ops n i k = true → d k = true := by
          intro n k hdd hk
          cases n with
          | zero => simp [anc] at hk
          | succ n =>
            unfold anc at hk
            simp only [ho, Bool.or_eq_true] at hk
            rcases hk with hk | hk
            · obtain ⟨e, he, hb⟩ := Array.any_eq_true'.1 hk
              simp only [Bool.and_eq_true, beq_iff_eq] at hb
              exact hb.2 ▸ hdd e he hb.1
            · obtain ⟨e, he, hb⟩ := Array.any_eq_true'.1 hk
              simp only [Bool.and_eq_true] at hb
              exact anc_spec hcl n e.on k hb.2 (hdd e he hb.1)
        exact this 30 j hdep hj) ho' ht)
      have key := app o ho a w hb hfr hall0
      refine op_gen ho (hgd _ _ ho) (fun v w' => Post v w') (fun K' hK => ?_) (fun v w' hP => ⟨v, rfl, fun u hu => (by rw [hT i (.inr (.inl rfl))] at hu; cases hu), fun h => ?_, fun _ _ => ⟨v, fun o' t ho' ht => ?_, hP⟩, fun s hs hds => ?_, fun _ j o' t hj ho' ht => ⟨w, by rw [other ho' ht (fun e => by rw [e, hSA.1] at hj; cases hj)]; exact hall0 j o' t hj ho' ht⟩⟩)
      · exact Oper.wp_mono (fun a' w' ⟨v, hv, hP⟩ => by rw [hv]; exact hK v w' hP) key
      · simp at h
      · rw [ho] at ho'; cases ho'; exact upd_at ht
      · -- S cannot be done before A
        simp only [Bool.or_eq_true, beq_iff_eq] at hds
        rcases hds with rfl | hds
        · exact absurd hs hSA.2.1
        · have := anc_spec hcl 30 s i (hSA.2.2 s hs).2 hds
          rw [hdi] at this; cases this
    · by_cases hiS : S = some i
      · have hdA : d A = true := by
          have : ∀ n, anc ops n i A = true → d A = true := by
            intro n hk
            cases n with
            | zero => simp [anc] at hk
            | succ n =>
              unfold anc at hk
              simp only [ho, Bool.or_eq_true] at hk
              rcases hk with hk | hk
              · obtain ⟨e, he, hb⟩ := Array.any_eq_true'.1 hk
                simp only [Bool.and_eq_true, beq_iff_eq] at hb
                exact hb.2 ▸ hdep e he hb.1
              · obtain ⟨e, he, hb⟩ := Array.any_eq_true'.1 hk
                simp only [Bool.and_eq_true] at hb
                exact anc_spec hcl n e.on A hb.2 (hdep e he hb.1)
          exact this 30 (hSA.2.2 i hiS).2
        have hp := h2 hdA (fun s hs => by rw [hiS] at hs; cases hs; exact hdi)
        have key := sto i o hiS ho a w hfr hdepT hp
        refine op_gen ho (hgd _ _ ho) (fun v w' => Fin w') (fun K' hK => ?_) (fun v w' hF => ⟨v, rfl, fun u hu => (by rw [hT i (.inr (.inr hiS))] at hu; cases hu), fun h => ?_, fun _ hs => ?_, fun _ _ _ => hF, fun _ j o' t hj ho' ht => by rw [other ho' ht (fun e => by rw [e, (hSA.2.2 i hiS).1] at hj; cases hj)]; exact h4 hdA j o' t hj ho' ht⟩)
        · exact Oper.wp_mono (fun a' w' ⟨v, hv, hP⟩ => by rw [hv]; exact hK v w' hP) key
        · simp [hdA] at h
        · have := hs i hiS; simp at this
      · by_cases hpre : anc ops 30 A i = true
        · have hdA : d A = false := by
            cases hda : d A
            · rfl
            · have := anc_spec hcl 30 A i hpre hda
              rw [hdi] at this; cases this
          obtain ⟨hb, hgs⟩ := h1 hdA
          have key := pre i o ho hpre a w hb hfr (fun q e he hbd o' t ho' ht => hgs e.on o' t (ancOk_spec hanc ho hpre e (Array.mem_of_getElem? he) hbd) (hdep e (Array.mem_of_getElem? he) hbd) ho' ht)
          refine op_gen ho (hgd _ _ ho) (fun v w' => (G i).p v w' ∧ Below w.heap.size w w') (fun K' hK => ?_) (fun v w' hP => ⟨v, rfl, fun u hu => (by rw [hT i (.inl hpre)] at hu; cases hu), fun _ => ⟨below_trans hb hP.2, fun j o' t hj hdj ho' ht => ?_⟩, fun h => ?_, fun s hs hds => ?_, fun h => ?_⟩)
          · exact Oper.wp_mono (fun a' w' ⟨v, hv, hP⟩ => by rw [hv]; exact hK v w' hP) key
          · by_cases hji : j = i
            · subst hji
              rw [ho] at ho'; cases ho'
              rw [upd_at ht]
              exact hP.1
            · rw [other ho' ht hji]
              simp only [Bool.or_eq_true, beq_iff_eq, hji, false_or] at hdj
              exact (G j).up (hgs j o' t hj hdj ho' ht) hP.2
          · simp [Ne.symm hiA, hdA] at h
          · simp only [Bool.or_eq_true, beq_iff_eq] at hds
            rcases hds with rfl | hds
            · exact absurd hs hiS
            · have := anc_spec hcl 30 s A (hSA.2.2 s hs).2 hds
              rw [hdA] at this; cases this
          · simp [Ne.symm hiA, hdA] at h
        · have hpf : anc ops 30 A i = false := by simpa using hpre
          obtain ⟨c, hc, key⟩ := free i (by
            have := List.all_eq_true.1 hFr i (List.mem_range.2 (Array.getElem?_eq_some_iff.1 ho).1)
            simp only [hpf, Bool.false_or, Bool.or_eq_true, beq_iff_eq, List.contains_iff_mem] at this
            rcases this with (h | h) | h
            · exact absurd h hiA
            · exact absurd h hiS
            · exact h) o ho a w hfr hdepT
          refine op_gen ho (hgd _ _ ho) (fun v w' => v = c ∧ w' = w) (fun K' hK => ?_) (fun v w' hP => ?_)
          · exact Oper.wp_mono (fun a' w' ⟨hv, hw⟩ => by rw [hv]; exact hK c w' ⟨rfl, hw⟩) key
          · obtain ⟨rfl, rfl⟩ := hP
            refine ⟨v, rfl, fun u hu => (by rw [hc] at hu; exact Option.some.inj hu), fun h => ?_, fun h hs => ?_, fun s hs hds => ?_, fun h j o' t hj ho' ht => ?_⟩
            · have hdA : d A = false := by simpa [Ne.symm hiA] using h
              obtain ⟨hb, hgs⟩ := h1 hdA
              refine ⟨hb, fun j o' t hj hdj ho' ht => ?_⟩
              have hji : j ≠ i := by rintro rfl; rw [hpf] at hj; cases hj
              rw [other ho' ht hji]
              exact hgs j o' t hj (by simpa [hji] using hdj) ho' ht
            · have hdA : d A = true := by simpa [Ne.symm hiA] using h
              obtain ⟨v', hv', hP'⟩ := h2 hdA (fun s hs' => by have := hs s hs'; simp at this; exact this.2)
              exact ⟨v', fun o' t ho' ht => by rw [other ho' ht (Ne.symm hiA)]; exact hv' o' t ho' ht, hP'⟩
            · simp only [Bool.or_eq_true, beq_iff_eq] at hds
              rcases hds with rfl | hds
              · exact absurd hs hiS
              · exact h3 s hs hds
            · have hdA : d A = true := by simpa [Ne.symm hiA] using h
              rw [other ho' ht (by rintro rfl; rw [hpf] at hj; cases hj)]
              exact h4 hdA j o' t hj ho' ht
  · rintro d f w hall hTv ⟨h1, h2, h3, h4⟩
    refine fin f w hTv (fun hS => h2 (hall A hA) (fun s hs => by rw [hS] at hs; cases hs)) (fun ⟨s, hs, hlt⟩ => h3 s hs (hall s hlt)) (h4 (hall A hA)) hA
end
end Go.Proofs.YtimonhimfioohaaGreatDoor
/-! impl.PayloadFor. -/
namespace Go.Proofs.YtimonhimfioohaaGreatDoor
open Go Go.RowKit Go.PlainAid Kn
set_option maxRecDepth 20000 in
set_option maxHeartbeats 6400000 in
theorem payloadfor_calls (tb : Nat → Int) (x : Ses) (cs : List Value) (F F2 : Nat → Prop) (w : World) (p : Nat) (c : Cd) (A : Option Addr) (n k : Nat) (hk : kSes.K F w x cs) (ha : SesArg w x p c) (hw : Want c) (ht : SpTab tb w) (hv : Kn.string.SV F2 w (.slice A n k) c.fb) :
    Calls Tryz.prog 16 #[.agg cs.toArray, .agg #[.int .i64 p, .string c.name, .int .u32 c.rate, .string c.par, .string c.fm, .slice A n k]] w fun e w' => Below w.heap.size w w' ∧ e = .returned (.tuple #[.int .i64 p, .bool true]) := by
  have hp := ha.p8
  obtain ⟨ca, hca⟩ : ∃ ca, ca = cs.toArray := ⟨_, rfl⟩
  have hsz : ca.size = 19 := by rw [hca]; exact kSes.len hk
  have hsz2 : (Tryz.prog.info? 33).map (·.size) = some ca.size := by rw [hsz]; exact size33
  have HE := Bx.mk hca
  rw [← hca]
  have HZ := Bx.mk hsz2
  have hB : Below w.heap.size w ((w.alloc (.cells ca 33)).alloc (.cells #[.int .i64 p, .string c.name, .int .u32 c.rate, .string c.par, .string c.fm, .slice A n k] 57)).drew := Below.drew (below_alloc2 (Below.refl w.heap.size w) (.cells ca 33) (.cells #[.int .i64 p, .string c.name, .int .u32 c.rate, .string c.par, .string c.fm, .slice A n k] 57))
  have HK := Bx.mk (K_step hk hB)
  have HA := Bx.mk (ha.step hB)
  have HTB := Bx.mk (ht.step hB)
  have HV := Bx.mk (hv.step (by decide) hB)
  have HW := Bx.mk hB
  have HWA := Bx.mk hw
  have hwu : IntKind.u8.wrap (p : Int) = p := IntWalk.u8_in _ (by omega)
  have HG : Bx (((w.alloc (.cells ca 33)).alloc (.cells #[.int .i64 p, .string c.name, .int .u32 c.rate, .string c.par, .string c.fm, .slice A n k] 57)).drew.heap[w.heap.size]? = some (.cells ca 33 (0, 0))) := ⟨blk_alloc (heap_alloc_new w (.cells ca 33)) (.cells #[.int .i64 p, .string c.name, .int .u32 c.rate, .string c.par, .string c.fm, .slice A n k] 57)⟩
  have hG2 : ((w.alloc (.cells ca 33)).alloc (.cells #[.int .i64 p, .string c.name, .int .u32 c.rate, .string c.par, .string c.fm, .slice A n k] 57)).drew.heap[w.heap.size + 1]? = some (.cells #[.int .i64 p, .string c.name, .int .u32 c.rate, .string c.par, .string c.fm, .slice A n k] 57) := by have := heap_alloc_new (w.alloc (.cells ca 33)) (.cells #[.int .i64 p, .string c.name, .int .u32 c.rate, .string c.par, .string c.fm, .slice A n k] 57); rw [World.size_alloc] at this; exact this
  have hB0 : ∀ (i : Nat) (u : Value), #[.int .i64 p, .string c.name, .int .u32 c.rate, .string c.par, .string c.fm, .slice A n k][i]? = some u → ((w.alloc (.cells ca 33)).alloc (.cells #[.int .i64 p, .string c.name, .int .u32 c.rate, .string c.par, .string c.fm, .slice A n k] 57)).drew.cell? ⟨w.heap.size + 1, i, Option.none⟩ = some u := fun i u h => (blk_cell hG2 i).trans h
  have HB := Bx.mk hB0
  clear hk ha hca hsz hsz2 hB ht hv hw hG2 hB0
  go_enter Tryz.func16, Tryz.ntmps16
  go_upto_region 3 with (fail)
  refine region_app2 (by kernel_rfl) (by kernel_rfl) (by kernel_rfl) (by kernel_rfl) (fun fz => #[Value.agg ca, Value.agg #[Value.int IntKind.i64 (p : Int), Value.string c.name, Value.int IntKind.u32 ↑c.rate, Value.string c.par, Value.string c.fm, Value.slice A n k], Value.pointer (some { block := w.heap.size, off := 0 }), Value.pointer (some { block := w.heap.size + 1, off := 0 }), Value.int IntKind.i64 0, Value.bool false, fz 6, fz 7, Value.pointer (some { block := w.heap.size + 1, off := 0 }), Value.int IntKind.i64 (p : Int), Value.bool (decide ((p : Int) < 0)), Value.bool (decide ((p : Int) < 0)), Value.pointer (some { block := w.heap.size + 1, off := 0 }), Value.int IntKind.i64 (p : Int), Value.bool (decide (255 < (p : Int))), Value.bool (decide ((p : Int) < 0) || decide (255 < (p : Int))), fz 16, fz 17, fz 18, fz 19, fz 20, fz 21, fz 22, fz 23, fz 24, fz 25, fz 26, fz 27, fz 28, fz 29, fz 30, fz 31, fz 32, fz 33, fz 34, fz 35, fz 36, undef, undef, undef, undef]) (fun f => by kernel_rfl) 22 (Option.none) (by kernel_rfl) ⟨by kernel_rfl, by simp, fun s hs => by cases hs⟩ (fun i => match i with | 0 => Mono.is (.agg ca) | 1 => ⟨fun v w' => ∃ g, v = .pointer (some ⟨g, 0, Option.none⟩) ∧ SesBlk (fun b => w.heap.size ≤ b) w' g x.med, fun ⟨g, h1, h2⟩ hb => ⟨g, h1, h2.step hb⟩⟩ | 2 => Mono.is (.pointer (some ⟨w.heap.size + 1, 0, Option.none⟩)) | 3 => Mono.is (.int .i64 p) | 4 => Mono.is (.int .u8 p) | 5 => Mono.is (.pointer (some ⟨w.heap.size + 1, 1, Option.none⟩)) | 6 => Mono.is (.string c.name) | 7 => Mono.is (.pointer (some ⟨w.heap.size + 1, 2, Option.none⟩)) | 8 => Mono.is (.int .u32 c.rate) | 9 => Mono.is (.pointer (some ⟨w.heap.size + 1, 3, Option.none⟩)) | 10 => Mono.is (.string c.par) | 11 => Mono.is (.pointer (some ⟨w.heap.size + 1, 4, Option.none⟩)) | 12 => Mono.is (.string c.fm) | 13 => Mono.is (.pointer (some ⟨w.heap.size + 1, 5, Option.none⟩)) | 14 => Mono.is (.slice A n k) | 15 => Mono.sat (fun v => ∃ A' k', v = .slice A' c.fb.length k') | 16 => Mono.sat (fun v => ∃ A' k', v = .agg #[.int .u8 p, .string c.name, .int .u32 c.rate, .string c.par, .string c.fm, .slice A' c.fb.length k']) | 17 => Mono.is (.tuple #[.int .u8 p, .nilIface]) | 18 => Mono.is (.tuple #[.int .u8 p, .nilIface]) | 19 => Mono.is (.int .u8 p) | 20 => Mono.is (.nilIface) | 21 => Mono.is (.int .u8 p) | _ => Mono.is undef) [] (fun i => match i with  | _ => Option.none) (by kernel_rfl) (by kernel_rfl) (fun v w' => v = .nilIface ∧ Below w.heap.size w w') (fun _ => True) ?_ ?_ ?_ ?_ ?_ (by decide)
  · intro i o ho hanc a wx hb hfr hv
    match i, ho with
    | 0, ho =>
      rw [← Array.getElem?_toList] at ho
      simp only [List.getElem?_cons_zero, Option.some.injEq] at ho
      subst ho
      have e2 : a.tmps[2]?.getD undef = .pointer (some ⟨w.heap.size, 0, Option.none⟩) := (eval_tmp a 2).trans (hfr 2 (by decide +kernel))
      refine mstep_val (.agg ca) (fun K' hK => ?_) (by exact rfl)
      exact wp_load_row 33 _ rfl w.heap.size ((eval_tmp a 2).symm.trans e2) 33 _ (0, 0) _ (heap_below hb HG.out) Tryz.underlying33 rfl HZ.out hK
    | 1, ho =>
      rw [← Array.getElem?_toList] at ho
      simp only [List.getElem?_cons_zero, List.getElem?_cons_succ, Option.some.injEq] at ho
      subst ho
      have e17 := (eval_tmp a 17).trans (hv 0 _ rfl rfl _ 17 rfl rfl)
      refine mstep_gen (fun v w' => Below wx.heap.size wx w' ∧ ∃ g, v = .pointer (some ⟨g, 0, Option.none⟩) ∧ SesBlk (fun b => w.heap.size ≤ b) w' g x.med) (fun K' hK => ?_) (fun v w' hG => ?_)
      · clear hfr hv hanc
        have hK' := Bx.mk hK
        have HI := isession x cs F wx (K_step HK.out hb) HA.out.fit
        rw [← HE.out] at HI
        have HL := Bx.mk (below_trans HW.out hb).size
        clear hK hb
        go_simp
        refine HI.mono ?_
        rintro e w2 ⟨hb, g, rfl, h1, h2⟩
        obtain ⟨ds, k1, A1, c1, k2, k3⟩ := h2
        exact hK'.out _ _ ⟨hb, g, rfl, ds, k1, A1, c1, k2, k3.mono fun _ h => Nat.le_trans HL.out h⟩
      · exact ⟨hG.2, hG.1⟩
    | 2, ho =>
      rw [← Array.getElem?_toList] at ho
      simp only [List.getElem?_cons_zero, List.getElem?_cons_succ, Option.some.injEq] at ho
      subst ho
      have e3 : a.tmps[3]?.getD undef = .pointer (some ⟨w.heap.size + 1, 0, Option.none⟩) := (eval_tmp a 3).trans (hfr 3 (by decide +kernel))
      clear hfr hv hanc hb
      refine mstep_val (.pointer (some ⟨w.heap.size + 1, 0, Option.none⟩)) (fun K' hK => ?_) (by exact rfl)
      go_simp
      exact hK
    | 3, ho =>
      rw [← Array.getElem?_toList] at ho
      simp only [List.getElem?_cons_zero, List.getElem?_cons_succ, Option.some.injEq] at ho
      subst ho
      have e19 := (eval_tmp a 19).trans (hv 0 _ rfl rfl _ 19 rfl rfl)
      have c0 := cell_below hb (HB.out 0 _ rfl)
      clear hfr hv hanc hb
      refine mstep_val (.int .i64 p) (fun K' hK => ?_) (by exact rfl)
      go_simp
      exact hK
    | 4, ho =>
      rw [← Array.getElem?_toList] at ho
      simp only [List.getElem?_cons_zero, List.getElem?_cons_succ, Option.some.injEq] at ho
      subst ho
      have e20 := (eval_tmp a 20).trans (hv 0 _ rfl rfl _ 20 rfl rfl)
      clear hfr hv hanc hb
      refine mstep_val (.int .u8 p) (fun K' hK => ?_) (by exact rfl)
      go_simp
      exact hK
    | 5, ho =>
      rw [← Array.getElem?_toList] at ho
      simp only [List.getElem?_cons_zero, List.getElem?_cons_succ, Option.some.injEq] at ho
      subst ho
      have e3 : a.tmps[3]?.getD undef = .pointer (some ⟨w.heap.size + 1, 0, Option.none⟩) := (eval_tmp a 3).trans (hfr 3 (by decide +kernel))
      clear hfr hv hanc hb
      refine mstep_val (.pointer (some ⟨w.heap.size + 1, 1, Option.none⟩)) (fun K' hK => ?_) (by exact rfl)
      go_simp
      exact hK
    | 6, ho =>
      rw [← Array.getElem?_toList] at ho
      simp only [List.getElem?_cons_zero, List.getElem?_cons_succ, Option.some.injEq] at ho
      subst ho
      have e22 := (eval_tmp a 22).trans (hv 0 _ rfl rfl _ 22 rfl rfl)
      have c0 := cell_below hb (HB.out 1 _ rfl)
      clear hfr hv hanc hb
      refine mstep_val (.string c.name) (fun K' hK => ?_) (by exact rfl)
      go_simp
      exact hK
    | 7, ho =>
      rw [← Array.getElem?_toList] at ho
      simp only [List.getElem?_cons_zero, List.getElem?_cons_succ, Option.some.injEq] at ho
      subst ho
      have e3 : a.tmps[3]?.getD undef = .pointer (some ⟨w.heap.size + 1, 0, Option.none⟩) := (eval_tmp a 3).trans (hfr 3 (by decide +kernel))
      clear hfr hv hanc hb
      refine mstep_val (.pointer (some ⟨w.heap.size + 1, 2, Option.none⟩)) (fun K' hK => ?_) (by exact rfl)
      go_simp
      exact hK
    | 8, ho =>
      rw [← Array.getElem?_toList] at ho
      simp only [List.getElem?_cons_zero, List.getElem?_cons_succ, Option.some.injEq] at ho
      subst ho
      have e24 := (eval_tmp a 24).trans (hv 0 _ rfl rfl _ 24 rfl rfl)
      have c0 := cell_below hb (HB.out 2 _ rfl)
      clear hfr hv hanc hb
      refine mstep_val (.int .u32 c.rate) (fun K' hK => ?_) (by exact rfl)
      go_simp
      exact hK
    | 9, ho =>
      rw [← Array.getElem?_toList] at ho
      simp only [List.getElem?_cons_zero, List.getElem?_cons_succ, Option.some.injEq] at ho
      subst ho
      have e3 : a.tmps[3]?.getD undef = .pointer (some ⟨w.heap.size + 1, 0, Option.none⟩) := (eval_tmp a 3).trans (hfr 3 (by decide +kernel))
      clear hfr hv hanc hb
      refine mstep_val (.pointer (some ⟨w.heap.size + 1, 3, Option.none⟩)) (fun K' hK => ?_) (by exact rfl)
      go_simp
      exact hK
    | 10, ho =>
      rw [← Array.getElem?_toList] at ho
      simp only [List.getElem?_cons_zero, List.getElem?_cons_succ, Option.some.injEq] at ho
      subst ho
      have e26 := (eval_tmp a 26).trans (hv 0 _ rfl rfl _ 26 rfl rfl)
      have c0 := cell_below hb (HB.out 3 _ rfl)
      clear hfr hv hanc hb
      refine mstep_val (.string c.par) (fun K' hK => ?_) (by exact rfl)
      go_simp
      exact hK
    | 11, ho =>
      rw [← Array.getElem?_toList] at ho
      simp only [List.getElem?_cons_zero, List.getElem?_cons_succ, Option.some.injEq] at ho
      subst ho
      have e3 : a.tmps[3]?.getD undef = .pointer (some ⟨w.heap.size + 1, 0, Option.none⟩) := (eval_tmp a 3).trans (hfr 3 (by decide +kernel))
      clear hfr hv hanc hb
      refine mstep_val (.pointer (some ⟨w.heap.size + 1, 4, Option.none⟩)) (fun K' hK => ?_) (by exact rfl)
      go_simp
      exact hK
    | 12, ho =>
      rw [← Array.getElem?_toList] at ho
      simp only [List.getElem?_cons_zero, List.getElem?_cons_succ, Option.some.injEq] at ho
      subst ho
      have e28 := (eval_tmp a 28).trans (hv 0 _ rfl rfl _ 28 rfl rfl)
      have c0 := cell_below hb (HB.out 4 _ rfl)
      clear hfr hv hanc hb
      refine mstep_val (.string c.fm) (fun K' hK => ?_) (by exact rfl)
      go_simp
      exact hK
    | 13, ho =>
      rw [← Array.getElem?_toList] at ho
      simp only [List.getElem?_cons_zero, List.getElem?_cons_succ, Option.some.injEq] at ho
      subst ho
      have e3 : a.tmps[3]?.getD undef = .pointer (some ⟨w.heap.size + 1, 0, Option.none⟩) := (eval_tmp a 3).trans (hfr 3 (by decide +kernel))
      clear hfr hv hanc hb
      refine mstep_val (.pointer (some ⟨w.heap.size + 1, 5, Option.none⟩)) (fun K' hK => ?_) (by exact rfl)
      go_simp
      exact hK
    | 14, ho =>
      rw [← Array.getElem?_toList] at ho
      simp only [List.getElem?_cons_zero, List.getElem?_cons_succ, Option.some.injEq] at ho
      subst ho
      have e30 := (eval_tmp a 30).trans (hv 0 _ rfl rfl _ 30 rfl rfl)
      have c0 := cell_below hb (HB.out 5 _ rfl)
      clear hfr hv hanc hb
      refine mstep_val (.slice A n k) (fun K' hK => ?_) (by exact rfl)
      go_simp
      exact hK
    | 15, ho =>
      rw [← Array.getElem?_toList] at ho
      simp only [List.getElem?_cons_zero, List.getElem?_cons_succ, Option.some.injEq] at ho
      subst ho
      have e31 := (eval_tmp a 31).trans (hv 0 _ rfl rfl _ 31 rfl rfl)
      refine mstep_gen (fun v w' => Below wx.heap.size wx w' ∧ ∃ A' k', v = .slice A' c.fb.length k') (fun K' hK => ?_) (fun v w' hG => ?_)
      · clear hfr hv hanc
        have hK' := Bx.mk hK
        have HY := Bx.mk (HV.out.step (by decide) hb)
        clear hK hb
        go_simp
        refine (iclone _ c.fb _ _ HY.out (by have := HA.out.fb; omega)).mono ?_
        rintro e w2 ⟨hb, A', k', rfl, -⟩
        exact hK'.out _ _ ⟨hb, A', k', rfl⟩
      · exact ⟨hG.2, hG.1⟩
    | 16, ho =>
      rw [← Array.getElem?_toList] at ho
      simp only [List.getElem?_cons_zero, List.getElem?_cons_succ, Option.some.injEq] at ho
      subst ho
      have e21 := (eval_tmp a 21).trans (hv 0 _ rfl rfl _ 21 rfl rfl)
      have e23 := (eval_tmp a 23).trans (hv 1 _ rfl rfl _ 23 rfl rfl)
      have e25 := (eval_tmp a 25).trans (hv 2 _ rfl rfl _ 25 rfl rfl)
      have e27 := (eval_tmp a 27).trans (hv 3 _ rfl rfl _ 27 rfl rfl)
      have e29 := (eval_tmp a 29).trans (hv 4 _ rfl rfl _ 29 rfl rfl)
      obtain ⟨A', k', e32⟩ := (hv 5 _ rfl rfl _ 32 rfl rfl)
      replace e32 := (eval_tmp a 32).trans e32
      refine mstep_gen (fun v w' => w' = wx ∧ v = .agg #[.int .u8 p, .string c.name, .int .u32 c.rate, .string c.par, .string c.fm, .slice A' c.fb.length k']) (fun K' hK => ?_) (fun v w' hG => ?_)
      · clear hfr hv hanc
        clear hb
        go_simp
        exact hK _ _ ⟨rfl, rfl⟩
      · obtain ⟨rfl, rfl⟩ := hG
        exact ⟨⟨_, _, rfl⟩, Below.refl _ _⟩
    | 17, ho =>
      rw [← Array.getElem?_toList] at ho
      simp only [List.getElem?_cons_zero, List.getElem?_cons_succ, Option.some.injEq] at ho
      subst ho
      obtain ⟨g, e18, hs18⟩ := (hv 0 _ rfl rfl _ 18 rfl rfl)
      replace e18 := (eval_tmp a 18).trans e18
      obtain ⟨A', k', e33⟩ := (hv 1 _ rfl rfl _ 33 rfl rfl)
      replace e33 := (eval_tmp a 33).trans e33
      refine mstep_gen (fun v w' => Below wx.heap.size wx w' ∧ v = .tuple #[.int .u8 p, .nilIface]) (fun K' hK => ?_) (fun v w' hG => ?_)
      · clear hfr hv hanc
        have hK' := Bx.mk hK
        have HSI := Bx.mk ((HA.out.step hb).inn hs18)
        have HT := Bx.mk (HTB.out.step hb)
        clear hK hb hs18
        go_simp
        refine (ptfor_calls tb wx g x.med _ p c A' c.fb.length k' HSI.out HWA.out HT.out).mono ?_
        rintro e w2 ⟨hb, rfl⟩
        exact hK'.out _ _ ⟨hb, rfl⟩
      · exact ⟨hG.2, hG.1⟩
    | 18, ho =>
      rw [← Array.getElem?_toList] at ho
      simp only [List.getElem?_cons_zero, List.getElem?_cons_succ, Option.some.injEq] at ho
      subst ho
      have e34 := (eval_tmp a 34).trans (hv 0 _ rfl rfl _ 34 rfl rfl)
      clear hfr hv hanc hb
      refine mstep_val (.tuple #[.int .u8 p, .nilIface]) (fun K' hK => ?_) (by exact rfl)
      go_simp
      exact hK
    | 19, ho =>
      rw [← Array.getElem?_toList] at ho
      simp only [List.getElem?_cons_zero, List.getElem?_cons_succ, Option.some.injEq] at ho
      subst ho
      have e16 := (eval_tmp a 16).trans (hv 0 _ rfl rfl _ 16 rfl rfl)
      clear hfr hv hanc hb
      refine mstep_val (.int .u8 p) (fun K' hK => ?_) (by exact rfl)
      go_simp
      exact hK
    | 20, ho =>
      rw [← Array.getElem?_toList] at ho
      simp only [List.getElem?_cons_zero, List.getElem?_cons_succ, Option.some.injEq] at ho
      subst ho
      have e16 := (eval_tmp a 16).trans (hv 0 _ rfl rfl _ 16 rfl rfl)
      clear hfr hv hanc hb
      refine mstep_val (.nilIface) (fun K' hK => ?_) (by exact rfl)
      go_simp
      exact hK
    | 21, ho =>
      rw [← Array.getElem?_toList] at ho
      simp only [List.getElem?_cons_zero, List.getElem?_cons_succ, Option.some.injEq] at ho
      subst ho
      have e35 := (eval_tmp a 35).trans (hv 0 _ rfl rfl _ 35 rfl rfl)
      clear hfr hv hanc hb
      refine mstep_val (.int .u8 p) (fun K' hK => ?_) (by exact rfl)
      go_simp
      exact hK
    | 22, ho => exact (not_both (by kernel_rfl) hanc).elim
    | n + 23, ho => cases ho
  · intro i hi
    cases hi
  · intro o ho a wx hb hfr hv
    rw [← Array.getElem?_toList] at ho
    simp only [List.getElem?_cons_zero, List.getElem?_cons_succ, Option.some.injEq] at ho
    subst ho
    have e36 := (eval_tmp a 36).trans (hv 20 _ 36 (by kernel_rfl) rfl rfl)
    have HP := Bx.mk (below_trans HW.out hb)
    clear hfr hv hb
    refine astep_gen (fun K' hK => ?_)
    go_simp
    exact hK _ _ ⟨rfl, HP.out⟩
  · intro s o hs
    cases hs
  · intro fz wx hTf hP hF hG4 _
    obtain ⟨v, hv, rfl, hW⟩ := hP rfl
    have e7 : fz 7 = .nilIface := hv _ 7 rfl rfl
    obtain ⟨_, e6⟩ := hG4 21 _ 6 (by kernel_rfl) rfl rfl
    have e6' : fz 6 = .int .u8 p := e6
    have HBW := Bx.mk hW
    clear hTf hP hF hW hv hG4 e6
    dsimp only
    rw [e7, e6']
    have hwr : IntKind.i64.wrap (p : Int) = p := IntWalk.i64_in _ (by omega)
    go_wp2
    go_ret2
    exact ⟨HBW.out, rfl⟩
end Go.Proofs.YtimonhimfioohaaGreatDoor
