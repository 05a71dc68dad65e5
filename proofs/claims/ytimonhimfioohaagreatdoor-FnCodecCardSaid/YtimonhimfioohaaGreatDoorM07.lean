/- Lemmas on which the proof of Rows.FnCodecCardSaid rests: no statement of the seat is proved in this file. Conditions: each lemma's own hypotheses, no others. -/
import Derived.Test.YtimonhimfioohaaGreatDoorM06
import Derived.Maps.RangeWalk
import Derived.Maps.OwnSet
/-! sdp: mergeCodecs. -/
namespace Go.Proofs.YtimonhimfioohaaGreatDoor
open Go Go.RowKit Go.PlainAid Kn Go.Maps
/-- An element of the map, a codec, reads as itself. -/
def hR (v : Value) : Option (DataW Value × List MemPlace) := match v with
  | .agg cs => match cs.toList with
    | [.int .u8 _, .string _, .int .u32 _, .string _, .string _, .slice _ _ _] => some (.held v, [])
    | _ => Option.none
  | _ => Option.none
theorem hR_inv {v : Value} {y : DataW Value × List MemPlace} (h : hR v = some y) : y = (.held v, []) ∧ ∃ a b c d e A n k, v = .agg #[.int .u8 a, .string b, .int .u32 c, .string d, .string e, .slice A n k] := by
  unfold hR at h
  split at h
  · rename_i cs
    split at h
    · rename_i a b c d e A n k hcs
      simp only [Option.some.injEq] at h
      exact ⟨h.symm, a, b, c, d, e, A, n, k, by rw [← Array.toArray_toList (xs := cs), hcs]⟩
    · cases h
  · cases h
theorem law5 : Keyed Tryz.prog 5 := int_keyed Tryz.underlying5
theorem wf8 (p : Nat) (h : p ≤ 255) : (Lit.int .u8 p).wf = true := by
  have h1 : (0 : Int) ≤ p := by omega
  have h2 : (p : Int) ≤ 255 := by omega
  simp [Lit.wf, IntKind.min, IntKind.max, IntKind.signed, IntKind.bits, h2]
theorem key5 (p : Nat) (h : p ≤ 255) : keyOf Tryz.prog 5 (.int .u8 p) = some (.int .u8 p) := keyOf_int_mk Tryz.underlying5 (wf8 p h)
def codV (p : Nat) (name : ByteArray) (rate : Nat) (par fm : ByteArray) (v : Value) : Value := .agg #[.int .u8 p, .string name, .int .u32 rate, .string par, .string fm, v]
def zeroV : Value := codV 0 ⟨#[]⟩ 0 ⟨#[]⟩ ⟨#[]⟩ (.slice Option.none 0 0)
theorem zero101 (w : World) : (zeroValue 101).run Tryz.prog w = .ok zeroV w := by kernel_rfl
/-- A look-up whose answer is known. -/
theorem look5 {w : World} {m n : Nat} {D : DataW Value} (h : w.ownsMap Tryz.prog 5 hR m n D) {p : Nat} (hp : p ≤ 255) {v : Value} (hv : D.atKey (.int .u8 p) (.held zeroV) = .held v) : (Instr.lookup 112 (.map (some m)) (.int .u8 p) false).run Tryz.prog w = .ok v w := by
  obtain ⟨v', ps, hr, he⟩ := h.lookup law5 Tryz.underlying112 (zero101 w) (zd := .held zeroV) (zp := []) rfl (key5 p hp)
  rw [hv] at he
  have he2 := (hR_inv he).1
  simp only [Prod.mk.injEq, DataW.held.injEq] at he2
  rw [hr, ← he2.1]
theorem ba_empty {s : ByteArray} (h : s.toList.isEmpty = true) : s = ⟨#[]⟩ := by
  rw [toList_isEmpty, decide_eq_true_eq] at h
  exact empty_of_size h
theorem grown_set {w w' : World} {row : Option Nat} (h : w.grownBy w' row) {g i : Nat} (hg : w.heap.size ≤ g) (v : Value) : w.grownBy (w'.setCell ⟨g, i, Option.none⟩ v) row :=
  ⟨h.os, h.tape, h.output, by simpa [World.setCell] using h.size, fun k hk hne => (Below.heap_setCell _ _ _ _ (by simp only; omega)).trans (h.block k hk hne)⟩
/-- A row of the call's own is no codec's block. -/
theorem own_ne_blk {w : World} {B : Nat} {F : Nat → Prop} {v : Value} {xs : List ByteArray} {x : Nat} {c0 c1 c2 c3 c4 c5 : Value} (h : Kn.string.Own 9 w B F v xs) (hx : Cod w x c0 c1 c2 c3 c4 c5) : v.ownBlock ≠ some x := by
  intro e
  obtain ⟨_, inner, ho, _⟩ := h
  rcases ho.2 with ⟨rfl, _⟩ | ⟨g, cap, cur, rfl, hg, hh, _⟩
  · simp [Value.ownBlock] at e
  · simp [Value.ownBlock] at e
    subst e
    unfold Cod at hx
    rw [hx] at hh
    simp at hh
theorem own_set {w : World} {B : Nat} {v : Value} {xs : List ByteArray} {x : Nat} {c0 c1 c2 c3 c4 c5 : Value} (h : Kn.string.Own 9 w B (fun b => B ≤ b) v xs) (hx : Cod w x c0 c1 c2 c3 c4 c5) {i : Nat} (u : Value) : Kn.string.Own 9 (w.setCell ⟨x, i, Option.none⟩ u) B (fun b => B ≤ b) v xs := by
  have hne := own_ne_blk h hx
  obtain ⟨h0, inner, ho, hr⟩ := h
  exact ⟨h0, inner, own_move ho (fun b hb => Below.heap_setCell _ _ _ _ (by intro e; rw [hb, e] at hne; exact hne rfl)), hr⟩
set_option maxRecDepth 20000 in
set_option maxHeartbeats 3200000 in
theorem merge_new (p : Nat) (name : ByteArray) (rate : Nat) (par : ByteArray) (w0 W : World) (n : Nat) (D : DataW Value) (hp : p ≤ 255) (hm : W.ownsMap Tryz.prog 5 hR w0.heap.size n D) (hn : n ≤ 1000000) (hD : D.atKey (.int .u8 p) (.held zeroV) = .held zeroV) (hb : Below w0.heap.size w0 W) :
    Calls Tryz.prog 64 #[codV p name rate par ⟨#[]⟩ (.slice Option.none 0 0), .map (some w0.heap.size)] W fun e w' => e = .returned (.tuple #[]) ∧ Below w0.heap.size w0 w' ∧ ∃ A c, Kn.string.Own 9 w' (w0.heap.size + 1) (fun b => w0.heap.size + 1 ≤ b) (.slice A (0 + 0) c) ([] ++ []) ∧ w'.ownsMap Tryz.prog 5 hR w0.heap.size (n + 1) (D.put (.int .u8 p) (.held (codV p name rate par ⟨#[]⟩ (.slice A (0 + 0) c)))) := by
  unfold codV
  have hlk := look5 (hm.alloc (.cells #[.int .u8 p, .string name, .int .u32 rate, .string par, .string ⟨#[]⟩, .slice Option.none 0 0] 101)) hp hD
  unfold zeroV codV at hlk
  have HN1 : Bx (([] : List ByteArray).length = 0) := ⟨rfl⟩
  have HN2 := HN1
  obtain ⟨FY, hFY⟩ : ∃ FY : Nat → Prop, FY = fun _ => True := ⟨_, rfl⟩
  have HM2 := Bx.mk ((hm.alloc (.cells #[.int .u8 p, .string name, .int .u32 rate, .string par, .string ⟨#[]⟩, .slice Option.none 0 0] 101)).alloc (.cells #[.int .u8 p, .string name, .int .u32 rate, .string par, .string ⟨#[]⟩, .slice Option.none 0 0] 101))
  have HO2 : Bx (Kn.string.Own 9 ((W.alloc (.cells #[.int .u8 p, .string name, .int .u32 rate, .string par, .string ⟨#[]⟩, .slice Option.none 0 0] 101)).alloc (.cells #[.int .u8 p, .string name, .int .u32 rate, .string par, .string ⟨#[]⟩, .slice Option.none 0 0] 101)) (w0.heap.size + 1) (fun b => w0.heap.size + 1 ≤ b) (.slice Option.none 0 0) []) := ⟨Own.nil _ _ _ _ _⟩
  have HY2 : Bx (Kn.string.SV FY ((W.alloc (.cells #[.int .u8 p, .string name, .int .u32 rate, .string par, .string ⟨#[]⟩, .slice Option.none 0 0] 101)).alloc (.cells #[.int .u8 p, .string name, .int .u32 rate, .string par, .string ⟨#[]⟩, .slice Option.none 0 0] 101)) (.slice Option.none 0 0) []) := ⟨SV.nil _ _ _⟩
  have HB2 : Bx (Below w0.heap.size w0 ((W.alloc (.cells #[.int .u8 p, .string name, .int .u32 rate, .string par, .string ⟨#[]⟩, .slice Option.none 0 0] 101)).alloc (.cells #[.int .u8 p, .string name, .int .u32 rate, .string par, .string ⟨#[]⟩, .slice Option.none 0 0] 101))) := ⟨below_alloc2 hb _ _⟩
  have HC2 : Bx (Cod ((W.alloc (.cells #[.int .u8 p, .string name, .int .u32 rate, .string par, .string ⟨#[]⟩, .slice Option.none 0 0] 101)).alloc (.cells #[.int .u8 p, .string name, .int .u32 rate, .string par, .string ⟨#[]⟩, .slice Option.none 0 0] 101)) (W.heap.size + 1) (.int .u8 p) (.string name) (.int .u32 rate) (.string par) (.string ⟨#[]⟩) (.slice Option.none 0 0)) := ⟨Cod.new' _ (by simp) _ _ _ _ _ _⟩
  have hmW := hm.lt
  have HZ2 : Bx (w0.heap.size + 1 ≤ ((W.alloc (.cells #[.int .u8 p, .string name, .int .u32 rate, .string par, .string ⟨#[]⟩, .slice Option.none 0 0] 101)).alloc (.cells #[.int .u8 p, .string name, .int .u32 rate, .string par, .string ⟨#[]⟩, .slice Option.none 0 0] 101)).heap.size) := ⟨by simp; omega⟩
  have HL2 : Bx (0 + 0 ≤ 137438953472) := ⟨by omega⟩
  have HQ := Bx.mk hm
  clear hb hm hD
  go_enter Tryz.func64, Tryz.ntmps64
  go_upto_region 13 with (at_builtin; refine app_all Kn.string (w := w0) (B := w0.heap.size + 1) (fun b => w0.heap.size + 1 ≤ b) FY rfl _ _ 25 9 _ 16 rfl Tryz.underlying25 info9 rfl (by decide) (by decide) (by decide) (.slice Option.none 0 0) [] [] 0 HN1.out Option.none 0 0 HN2.out rfl rfl HY2 (fun _ _ h => h) HO2 HB2 (by omega) HZ2.out (fun _ h => h) HL2.out ?_; intro A1 d1 w1 HO3 HB3 HG3; have HC3 := blk_grown HC2.out HG3.out (fun b hb' e => by have h := (HO2.out.lt b hb'); have h2 := own_ne_blk HO2.out HC2.out; rw [hb', e] at h2; exact h2 rfl); obtain ⟨⟨k0, k1, k2, k3, k4, k5⟩, kf, kz⟩ := Cod.facts HC3; have f5 := kf 5; clear kf)
  obtain ⟨w2, hw2⟩ : ∃ w2, w2 = w1.setCell ⟨W.heap.size + 1, 5, Option.none⟩ (.slice A1 (0 + 0) d1) := ⟨_, rfl⟩
  rw [← hw2]
  have hC4 := Cod.set5 HC3 (.slice A1 (0 + 0) d1)
  rw [← hw2] at hC4
  have HM4 : Bx (w2.ownsMap Tryz.prog 5 hR w0.heap.size n D) := ⟨by rw [hw2]; exact (HM2.out.kept HG3.out (fun e => by have := (HO2.out.lt _ e.symm).1; omega)).setCell (by show w0.heap.size ≠ W.heap.size + 1; omega) _⟩
  have HO4 : Bx (Kn.string.Own 9 w2 (w0.heap.size + 1) (fun b => w0.heap.size + 1 ≤ b) (.slice A1 (0 + 0) d1) ([] ++ [])) := ⟨by rw [hw2]; exact own_set HO3.out HC3 _⟩
  have HB4 : Bx (Below w0.heap.size w0 w2) := ⟨by rw [hw2]; exact HB3.out.setCell (by show w0.heap.size ≤ W.heap.size + 1; omega) _⟩
  obtain ⟨⟨r0, r1, r2, r3, r4, r5⟩, -, -⟩ := hC4.facts
  clear k0 k1 k2 k3 k4 k5 f5 kz hw2 HC3 hC4
  go_wp2_with (at_mapUpdate; refine wpList_mapUpdate_own _ rfl _ _ _ 112 rfl 5 101 law5 Tryz.underlying112 hR w0.heap.size n D rfl HM4.out (by unfold maxLen; omega) _ _ (.int .u8 p) rfl rfl (key5 p hp) (.held _) [] rfl ?_; intro w3 hown3 hgrow3)
  have hO5 := HO4.out.step (w' := w3) (fun b hb' hlt => hgrow3.block b hlt (fun e => by cases e; have h2 : w0.heap.size + 1 ≤ w0.heap.size := hb'; omega))
  have hB5 := HB4.out.grown hgrow3 HB4.out.size (fun b hb' => by cases hb'; exact Nat.le_refl _)
  go_end0
  exact ⟨rfl, hB5, A1, d1, hO5, hown3⟩
set_option maxRecDepth 20000 in
set_option maxHeartbeats 6400000 in
theorem merge_old (p : Nat) (name : ByteArray) (rate : Nat) (par fm f : ByteArray) (A2 : Option Addr) (n2 c2 : Nat) (xs : List ByteArray) (A3 : Option Addr) (n3 c3 : Nat) (ys : List ByteArray) (FY : Nat → Prop) (w0 W : World) (n : Nat) (D : DataW Value) (hp0 : 0 < p) (hp : p ≤ 255) (hname : name.toList.isEmpty = false) (hrate : 0 < rate)
    (hm : W.ownsMap Tryz.prog 5 hR w0.heap.size n D) (hn : n ≤ 1000000) (hD : D.atKey (.int .u8 p) (.held zeroV) = .held (codV p name rate par fm (.slice A2 n2 c2))) (hb : Below w0.heap.size w0 W)
    (hO : Kn.string.Own 9 W (w0.heap.size + 1) (fun b => w0.heap.size + 1 ≤ b) (.slice A2 n2 c2) xs) (hx : xs.length = n2) (hy : Kn.string.SV FY W (.slice A3 n3 c3) ys) (hyl : ys.length = n3) (hl : n2 + n3 ≤ 1000000) :
    Calls Tryz.prog 64 #[codV p ⟨#[]⟩ 0 ⟨#[]⟩ f (.slice A3 n3 c3), .map (some w0.heap.size)] W fun e w' => e = .returned (.tuple #[]) ∧ Below w0.heap.size w0 w' ∧ ∃ A c, Kn.string.Own 9 w' (w0.heap.size + 1) (fun b => w0.heap.size + 1 ≤ b) (.slice A (n2 + n3) c) (xs ++ ys) ∧ w'.ownsMap Tryz.prog 5 hR w0.heap.size (n + 1) (D.put (.int .u8 p) (.held (codV p name rate par (if fm.size = 0 then f else fm) (.slice A (n2 + n3) c)))) := by
  unfold codV at hD ⊢
  have hlk := look5 (hm.alloc (.cells #[.int .u8 p, .string ⟨#[]⟩, .int .u32 0, .string ⟨#[]⟩, .string f, .slice A3 n3 c3] 101)) hp hD
  have hp1 : ((p : Int) == 0) = false := by simp; omega
  have hr1 : ((rate : Int) == 0) = false := by simp; omega
  have HN1 := Bx.mk hx
  have HN2 := Bx.mk hyl
  clear hx hyl
  cases hpe : par.toList.isEmpty <;> cases hfe : fm.toList.isEmpty
  · have hf0 : ¬ fm.size = 0 := by rw [toList_isEmpty, decide_eq_false_iff_not] at hfe; exact hfe
    rw [if_neg hf0]
    clear hf0
    have HM2 := Bx.mk ((hm.alloc (.cells #[.int .u8 p, .string ⟨#[]⟩, .int .u32 0, .string ⟨#[]⟩, .string f, .slice A3 n3 c3] 101)).alloc (.cells #[.int .u8 p, .string name, .int .u32 rate, .string par, .string fm, .slice A2 n2 c2] 101))
    have HO2 : Bx (Kn.string.Own 9 ((W.alloc (.cells #[.int .u8 p, .string ⟨#[]⟩, .int .u32 0, .string ⟨#[]⟩, .string f, .slice A3 n3 c3] 101)).alloc (.cells #[.int .u8 p, .string name, .int .u32 rate, .string par, .string fm, .slice A2 n2 c2] 101)) (w0.heap.size + 1) (fun b => w0.heap.size + 1 ≤ b) (.slice A2 n2 c2) xs) := ⟨own_alloc (own_alloc hO _) _⟩
    have HY2 : Bx (Kn.string.SV FY ((W.alloc (.cells #[.int .u8 p, .string ⟨#[]⟩, .int .u32 0, .string ⟨#[]⟩, .string f, .slice A3 n3 c3] 101)).alloc (.cells #[.int .u8 p, .string name, .int .u32 rate, .string par, .string fm, .slice A2 n2 c2] 101)) (.slice A3 n3 c3) ys) := ⟨(hy.step (by decide) (below_alloc2 (Below.refl _ _) _ _))⟩
    have HB2 : Bx (Below w0.heap.size w0 ((W.alloc (.cells #[.int .u8 p, .string ⟨#[]⟩, .int .u32 0, .string ⟨#[]⟩, .string f, .slice A3 n3 c3] 101)).alloc (.cells #[.int .u8 p, .string name, .int .u32 rate, .string par, .string fm, .slice A2 n2 c2] 101))) := ⟨below_alloc2 hb _ _⟩
    have HC2 : Bx (Cod ((W.alloc (.cells #[.int .u8 p, .string ⟨#[]⟩, .int .u32 0, .string ⟨#[]⟩, .string f, .slice A3 n3 c3] 101)).alloc (.cells #[.int .u8 p, .string name, .int .u32 rate, .string par, .string fm, .slice A2 n2 c2] 101)) (W.heap.size + 1) (.int .u8 p) (.string name) (.int .u32 rate) (.string par) (.string fm) (.slice A2 n2 c2)) := ⟨Cod.new' _ (by simp) _ _ _ _ _ _⟩
    have hmW := hm.lt
    have HZ2 : Bx (w0.heap.size + 1 ≤ ((W.alloc (.cells #[.int .u8 p, .string ⟨#[]⟩, .int .u32 0, .string ⟨#[]⟩, .string f, .slice A3 n3 c3] 101)).alloc (.cells #[.int .u8 p, .string name, .int .u32 rate, .string par, .string fm, .slice A2 n2 c2] 101)).heap.size) := ⟨by simp; omega⟩
    have HL2 : Bx (n2 + n3 ≤ 137438953472) := ⟨by omega⟩
    have HQ := Bx.mk hm
    clear hb hm hD
    go_enter Tryz.func64, Tryz.ntmps64
    go_upto_region 13 with (at_builtin; refine app_all Kn.string (w := w0) (B := w0.heap.size + 1) (fun b => w0.heap.size + 1 ≤ b) FY rfl _ _ 25 9 _ 16 rfl Tryz.underlying25 info9 rfl (by decide) (by decide) (by decide) (.slice A2 n2 c2) xs ys n2 HN1.out A3 n3 c3 HN2.out rfl rfl HY2 (fun _ _ h => h) HO2 HB2 (by omega) HZ2.out (fun _ h => h) HL2.out ?_; intro A1 d1 w1 HO3 HB3 HG3; have HC3 := blk_grown HC2.out HG3.out (fun b hb' e => by have h := (HO2.out.lt b hb'); have h2 := own_ne_blk HO2.out HC2.out; rw [hb', e] at h2; exact h2 rfl); obtain ⟨⟨k0, k1, k2, k3, k4, k5⟩, kf, kz⟩ := Cod.facts HC3; have f5 := kf 5; clear kf)
    obtain ⟨w2, hw2⟩ : ∃ w2, w2 = w1.setCell ⟨W.heap.size + 1, 5, Option.none⟩ (.slice A1 (n2 + n3) d1) := ⟨_, rfl⟩
    rw [← hw2]
    have hC4 := Cod.set5 HC3 (.slice A1 (n2 + n3) d1)
    rw [← hw2] at hC4
    have HM4 : Bx (w2.ownsMap Tryz.prog 5 hR w0.heap.size n D) := ⟨by rw [hw2]; exact (HM2.out.kept HG3.out (fun e => by have := (HO2.out.lt _ e.symm).1; omega)).setCell (by show w0.heap.size ≠ W.heap.size + 1; omega) _⟩
    have HO4 : Bx (Kn.string.Own 9 w2 (w0.heap.size + 1) (fun b => w0.heap.size + 1 ≤ b) (.slice A1 (n2 + n3) d1) (xs ++ ys)) := ⟨by rw [hw2]; exact own_set HO3.out HC3 _⟩
    have HB4 : Bx (Below w0.heap.size w0 w2) := ⟨by rw [hw2]; exact HB3.out.setCell (by show w0.heap.size ≤ W.heap.size + 1; omega) _⟩
    obtain ⟨⟨r0, r1, r2, r3, r4, r5⟩, -, -⟩ := hC4.facts
    clear k0 k1 k2 k3 k4 k5 f5 kz hw2 HC3 hC4
    go_wp2_with (at_mapUpdate; refine wpList_mapUpdate_own _ rfl _ _ _ 112 rfl 5 101 law5 Tryz.underlying112 hR w0.heap.size n D rfl HM4.out (by unfold maxLen; omega) _ _ (.int .u8 p) rfl rfl (key5 p hp) (.held _) [] rfl ?_; intro w3 hown3 hgrow3)
    have hO5 := HO4.out.step (w' := w3) (fun b hb' hlt => hgrow3.block b hlt (fun e => by cases e; have h2 : w0.heap.size + 1 ≤ w0.heap.size := hb'; omega))
    have hB5 := HB4.out.grown hgrow3 HB4.out.size (fun b hb' => by cases hb'; exact Nat.le_refl _)
    go_end0
    exact ⟨rfl, hB5, A1, d1, hO5, hown3⟩
  · obtain rfl := ba_empty hfe
    rw [if_pos (show (⟨#[]⟩ : ByteArray).size = 0 from rfl)]
    clear hfe
    have HM2 := Bx.mk ((hm.alloc (.cells #[.int .u8 p, .string ⟨#[]⟩, .int .u32 0, .string ⟨#[]⟩, .string f, .slice A3 n3 c3] 101)).alloc (.cells #[.int .u8 p, .string name, .int .u32 rate, .string par, .string f, .slice A2 n2 c2] 101))
    have HO2 : Bx (Kn.string.Own 9 ((W.alloc (.cells #[.int .u8 p, .string ⟨#[]⟩, .int .u32 0, .string ⟨#[]⟩, .string f, .slice A3 n3 c3] 101)).alloc (.cells #[.int .u8 p, .string name, .int .u32 rate, .string par, .string f, .slice A2 n2 c2] 101)) (w0.heap.size + 1) (fun b => w0.heap.size + 1 ≤ b) (.slice A2 n2 c2) xs) := ⟨own_alloc (own_alloc hO _) _⟩
    have HY2 : Bx (Kn.string.SV FY ((W.alloc (.cells #[.int .u8 p, .string ⟨#[]⟩, .int .u32 0, .string ⟨#[]⟩, .string f, .slice A3 n3 c3] 101)).alloc (.cells #[.int .u8 p, .string name, .int .u32 rate, .string par, .string f, .slice A2 n2 c2] 101)) (.slice A3 n3 c3) ys) := ⟨(hy.step (by decide) (below_alloc2 (Below.refl _ _) _ _))⟩
    have HB2 : Bx (Below w0.heap.size w0 ((W.alloc (.cells #[.int .u8 p, .string ⟨#[]⟩, .int .u32 0, .string ⟨#[]⟩, .string f, .slice A3 n3 c3] 101)).alloc (.cells #[.int .u8 p, .string name, .int .u32 rate, .string par, .string f, .slice A2 n2 c2] 101))) := ⟨below_alloc2 hb _ _⟩
    have HC2 : Bx (Cod ((W.alloc (.cells #[.int .u8 p, .string ⟨#[]⟩, .int .u32 0, .string ⟨#[]⟩, .string f, .slice A3 n3 c3] 101)).alloc (.cells #[.int .u8 p, .string name, .int .u32 rate, .string par, .string f, .slice A2 n2 c2] 101)) (W.heap.size + 1) (.int .u8 p) (.string name) (.int .u32 rate) (.string par) (.string f) (.slice A2 n2 c2)) := ⟨Cod.new' _ (by simp) _ _ _ _ _ _⟩
    have hmW := hm.lt
    have HZ2 : Bx (w0.heap.size + 1 ≤ ((W.alloc (.cells #[.int .u8 p, .string ⟨#[]⟩, .int .u32 0, .string ⟨#[]⟩, .string f, .slice A3 n3 c3] 101)).alloc (.cells #[.int .u8 p, .string name, .int .u32 rate, .string par, .string f, .slice A2 n2 c2] 101)).heap.size) := ⟨by simp; omega⟩
    have HL2 : Bx (n2 + n3 ≤ 137438953472) := ⟨by omega⟩
    have HQ := Bx.mk hm
    clear hb hm hD
    go_enter Tryz.func64, Tryz.ntmps64
    go_upto_region 13 with (at_builtin; refine app_all Kn.string (w := w0) (B := w0.heap.size + 1) (fun b => w0.heap.size + 1 ≤ b) FY rfl _ _ 25 9 _ 16 rfl Tryz.underlying25 info9 rfl (by decide) (by decide) (by decide) (.slice A2 n2 c2) xs ys n2 HN1.out A3 n3 c3 HN2.out rfl rfl HY2 (fun _ _ h => h) HO2 HB2 (by omega) HZ2.out (fun _ h => h) HL2.out ?_; intro A1 d1 w1 HO3 HB3 HG3; have HC3 := blk_grown HC2.out HG3.out (fun b hb' e => by have h := (HO2.out.lt b hb'); have h2 := own_ne_blk HO2.out HC2.out; rw [hb', e] at h2; exact h2 rfl); obtain ⟨⟨k0, k1, k2, k3, k4, k5⟩, kf, kz⟩ := Cod.facts HC3; have f5 := kf 5; clear kf)
    obtain ⟨w2, hw2⟩ : ∃ w2, w2 = w1.setCell ⟨W.heap.size + 1, 5, Option.none⟩ (.slice A1 (n2 + n3) d1) := ⟨_, rfl⟩
    rw [← hw2]
    have hC4 := Cod.set5 HC3 (.slice A1 (n2 + n3) d1)
    rw [← hw2] at hC4
    have HM4 : Bx (w2.ownsMap Tryz.prog 5 hR w0.heap.size n D) := ⟨by rw [hw2]; exact (HM2.out.kept HG3.out (fun e => by have := (HO2.out.lt _ e.symm).1; omega)).setCell (by show w0.heap.size ≠ W.heap.size + 1; omega) _⟩
    have HO4 : Bx (Kn.string.Own 9 w2 (w0.heap.size + 1) (fun b => w0.heap.size + 1 ≤ b) (.slice A1 (n2 + n3) d1) (xs ++ ys)) := ⟨by rw [hw2]; exact own_set HO3.out HC3 _⟩
    have HB4 : Bx (Below w0.heap.size w0 w2) := ⟨by rw [hw2]; exact HB3.out.setCell (by show w0.heap.size ≤ W.heap.size + 1; omega) _⟩
    obtain ⟨⟨r0, r1, r2, r3, r4, r5⟩, -, -⟩ := hC4.facts
    clear k0 k1 k2 k3 k4 k5 f5 kz hw2 HC3 hC4
    go_wp2_with (at_mapUpdate; refine wpList_mapUpdate_own _ rfl _ _ _ 112 rfl 5 101 law5 Tryz.underlying112 hR w0.heap.size n D rfl HM4.out (by unfold maxLen; omega) _ _ (.int .u8 p) rfl rfl (key5 p hp) (.held _) [] rfl ?_; intro w3 hown3 hgrow3)
    have hO5 := HO4.out.step (w' := w3) (fun b hb' hlt => hgrow3.block b hlt (fun e => by cases e; have h2 : w0.heap.size + 1 ≤ w0.heap.size := hb'; omega))
    have hB5 := HB4.out.grown hgrow3 HB4.out.size (fun b hb' => by cases hb'; exact Nat.le_refl _)
    go_end0
    exact ⟨rfl, hB5, A1, d1, hO5, hown3⟩
  · obtain rfl := ba_empty hpe
    have hf0 : ¬ fm.size = 0 := by rw [toList_isEmpty, decide_eq_false_iff_not] at hfe; exact hfe
    rw [if_neg hf0]
    clear hf0
    clear hpe
    have HM2 := Bx.mk ((hm.alloc (.cells #[.int .u8 p, .string ⟨#[]⟩, .int .u32 0, .string ⟨#[]⟩, .string f, .slice A3 n3 c3] 101)).alloc (.cells #[.int .u8 p, .string name, .int .u32 rate, .string ⟨#[]⟩, .string fm, .slice A2 n2 c2] 101))
    have HO2 : Bx (Kn.string.Own 9 ((W.alloc (.cells #[.int .u8 p, .string ⟨#[]⟩, .int .u32 0, .string ⟨#[]⟩, .string f, .slice A3 n3 c3] 101)).alloc (.cells #[.int .u8 p, .string name, .int .u32 rate, .string ⟨#[]⟩, .string fm, .slice A2 n2 c2] 101)) (w0.heap.size + 1) (fun b => w0.heap.size + 1 ≤ b) (.slice A2 n2 c2) xs) := ⟨own_alloc (own_alloc hO _) _⟩
    have HY2 : Bx (Kn.string.SV FY ((W.alloc (.cells #[.int .u8 p, .string ⟨#[]⟩, .int .u32 0, .string ⟨#[]⟩, .string f, .slice A3 n3 c3] 101)).alloc (.cells #[.int .u8 p, .string name, .int .u32 rate, .string ⟨#[]⟩, .string fm, .slice A2 n2 c2] 101)) (.slice A3 n3 c3) ys) := ⟨(hy.step (by decide) (below_alloc2 (Below.refl _ _) _ _))⟩
    have HB2 : Bx (Below w0.heap.size w0 ((W.alloc (.cells #[.int .u8 p, .string ⟨#[]⟩, .int .u32 0, .string ⟨#[]⟩, .string f, .slice A3 n3 c3] 101)).alloc (.cells #[.int .u8 p, .string name, .int .u32 rate, .string ⟨#[]⟩, .string fm, .slice A2 n2 c2] 101))) := ⟨below_alloc2 hb _ _⟩
    have HC2 : Bx (Cod ((W.alloc (.cells #[.int .u8 p, .string ⟨#[]⟩, .int .u32 0, .string ⟨#[]⟩, .string f, .slice A3 n3 c3] 101)).alloc (.cells #[.int .u8 p, .string name, .int .u32 rate, .string ⟨#[]⟩, .string fm, .slice A2 n2 c2] 101)) (W.heap.size + 1) (.int .u8 p) (.string name) (.int .u32 rate) (.string ⟨#[]⟩) (.string fm) (.slice A2 n2 c2)) := ⟨Cod.new' _ (by simp) _ _ _ _ _ _⟩
    have hmW := hm.lt
    have HZ2 : Bx (w0.heap.size + 1 ≤ ((W.alloc (.cells #[.int .u8 p, .string ⟨#[]⟩, .int .u32 0, .string ⟨#[]⟩, .string f, .slice A3 n3 c3] 101)).alloc (.cells #[.int .u8 p, .string name, .int .u32 rate, .string ⟨#[]⟩, .string fm, .slice A2 n2 c2] 101)).heap.size) := ⟨by simp; omega⟩
    have HL2 : Bx (n2 + n3 ≤ 137438953472) := ⟨by omega⟩
    have HQ := Bx.mk hm
    clear hb hm hD
    go_enter Tryz.func64, Tryz.ntmps64
    go_upto_region 13 with (at_builtin; refine app_all Kn.string (w := w0) (B := w0.heap.size + 1) (fun b => w0.heap.size + 1 ≤ b) FY rfl _ _ 25 9 _ 16 rfl Tryz.underlying25 info9 rfl (by decide) (by decide) (by decide) (.slice A2 n2 c2) xs ys n2 HN1.out A3 n3 c3 HN2.out rfl rfl HY2 (fun _ _ h => h) HO2 HB2 (by omega) HZ2.out (fun _ h => h) HL2.out ?_; intro A1 d1 w1 HO3 HB3 HG3; have HC3 := blk_grown HC2.out HG3.out (fun b hb' e => by have h := (HO2.out.lt b hb'); have h2 := own_ne_blk HO2.out HC2.out; rw [hb', e] at h2; exact h2 rfl); obtain ⟨⟨k0, k1, k2, k3, k4, k5⟩, kf, kz⟩ := Cod.facts HC3; have f5 := kf 5; clear kf)
    obtain ⟨w2, hw2⟩ : ∃ w2, w2 = w1.setCell ⟨W.heap.size + 1, 5, Option.none⟩ (.slice A1 (n2 + n3) d1) := ⟨_, rfl⟩
    rw [← hw2]
    have hC4 := Cod.set5 HC3 (.slice A1 (n2 + n3) d1)
    rw [← hw2] at hC4
    have HM4 : Bx (w2.ownsMap Tryz.prog 5 hR w0.heap.size n D) := ⟨by rw [hw2]; exact (HM2.out.kept HG3.out (fun e => by have := (HO2.out.lt _ e.symm).1; omega)).setCell (by show w0.heap.size ≠ W.heap.size + 1; omega) _⟩
    have HO4 : Bx (Kn.string.Own 9 w2 (w0.heap.size + 1) (fun b => w0.heap.size + 1 ≤ b) (.slice A1 (n2 + n3) d1) (xs ++ ys)) := ⟨by rw [hw2]; exact own_set HO3.out HC3 _⟩
    have HB4 : Bx (Below w0.heap.size w0 w2) := ⟨by rw [hw2]; exact HB3.out.setCell (by show w0.heap.size ≤ W.heap.size + 1; omega) _⟩
    obtain ⟨⟨r0, r1, r2, r3, r4, r5⟩, -, -⟩ := hC4.facts
    clear k0 k1 k2 k3 k4 k5 f5 kz hw2 HC3 hC4
    go_wp2_with (at_mapUpdate; refine wpList_mapUpdate_own _ rfl _ _ _ 112 rfl 5 101 law5 Tryz.underlying112 hR w0.heap.size n D rfl HM4.out (by unfold maxLen; omega) _ _ (.int .u8 p) rfl rfl (key5 p hp) (.held _) [] rfl ?_; intro w3 hown3 hgrow3)
    have hO5 := HO4.out.step (w' := w3) (fun b hb' hlt => hgrow3.block b hlt (fun e => by cases e; have h2 : w0.heap.size + 1 ≤ w0.heap.size := hb'; omega))
    have hB5 := HB4.out.grown hgrow3 HB4.out.size (fun b hb' => by cases hb'; exact Nat.le_refl _)
    go_end0
    exact ⟨rfl, hB5, A1, d1, hO5, hown3⟩
  · obtain rfl := ba_empty hpe
    obtain rfl := ba_empty hfe
    rw [if_pos (show (⟨#[]⟩ : ByteArray).size = 0 from rfl)]
    clear hpe
    clear hfe
    have HM2 := Bx.mk ((hm.alloc (.cells #[.int .u8 p, .string ⟨#[]⟩, .int .u32 0, .string ⟨#[]⟩, .string f, .slice A3 n3 c3] 101)).alloc (.cells #[.int .u8 p, .string name, .int .u32 rate, .string ⟨#[]⟩, .string f, .slice A2 n2 c2] 101))
    have HO2 : Bx (Kn.string.Own 9 ((W.alloc (.cells #[.int .u8 p, .string ⟨#[]⟩, .int .u32 0, .string ⟨#[]⟩, .string f, .slice A3 n3 c3] 101)).alloc (.cells #[.int .u8 p, .string name, .int .u32 rate, .string ⟨#[]⟩, .string f, .slice A2 n2 c2] 101)) (w0.heap.size + 1) (fun b => w0.heap.size + 1 ≤ b) (.slice A2 n2 c2) xs) := ⟨own_alloc (own_alloc hO _) _⟩
    have HY2 : Bx (Kn.string.SV FY ((W.alloc (.cells #[.int .u8 p, .string ⟨#[]⟩, .int .u32 0, .string ⟨#[]⟩, .string f, .slice A3 n3 c3] 101)).alloc (.cells #[.int .u8 p, .string name, .int .u32 rate, .string ⟨#[]⟩, .string f, .slice A2 n2 c2] 101)) (.slice A3 n3 c3) ys) := ⟨(hy.step (by decide) (below_alloc2 (Below.refl _ _) _ _))⟩
    have HB2 : Bx (Below w0.heap.size w0 ((W.alloc (.cells #[.int .u8 p, .string ⟨#[]⟩, .int .u32 0, .string ⟨#[]⟩, .string f, .slice A3 n3 c3] 101)).alloc (.cells #[.int .u8 p, .string name, .int .u32 rate, .string ⟨#[]⟩, .string f, .slice A2 n2 c2] 101))) := ⟨below_alloc2 hb _ _⟩
    have HC2 : Bx (Cod ((W.alloc (.cells #[.int .u8 p, .string ⟨#[]⟩, .int .u32 0, .string ⟨#[]⟩, .string f, .slice A3 n3 c3] 101)).alloc (.cells #[.int .u8 p, .string name, .int .u32 rate, .string ⟨#[]⟩, .string f, .slice A2 n2 c2] 101)) (W.heap.size + 1) (.int .u8 p) (.string name) (.int .u32 rate) (.string ⟨#[]⟩) (.string f) (.slice A2 n2 c2)) := ⟨Cod.new' _ (by simp) _ _ _ _ _ _⟩
    have hmW := hm.lt
    have HZ2 : Bx (w0.heap.size + 1 ≤ ((W.alloc (.cells #[.int .u8 p, .string ⟨#[]⟩, .int .u32 0, .string ⟨#[]⟩, .string f, .slice A3 n3 c3] 101)).alloc (.cells #[.int .u8 p, .string name, .int .u32 rate, .string ⟨#[]⟩, .string f, .slice A2 n2 c2] 101)).heap.size) := ⟨by simp; omega⟩
    have HL2 : Bx (n2 + n3 ≤ 137438953472) := ⟨by omega⟩
    have HQ := Bx.mk hm
    clear hb hm hD
    go_enter Tryz.func64, Tryz.ntmps64
    go_upto_region 13 with (at_builtin; refine app_all Kn.string (w := w0) (B := w0.heap.size + 1) (fun b => w0.heap.size + 1 ≤ b) FY rfl _ _ 25 9 _ 16 rfl Tryz.underlying25 info9 rfl (by decide) (by decide) (by decide) (.slice A2 n2 c2) xs ys n2 HN1.out A3 n3 c3 HN2.out rfl rfl HY2 (fun _ _ h => h) HO2 HB2 (by omega) HZ2.out (fun _ h => h) HL2.out ?_; intro A1 d1 w1 HO3 HB3 HG3; have HC3 := blk_grown HC2.out HG3.out (fun b hb' e => by have h := (HO2.out.lt b hb'); have h2 := own_ne_blk HO2.out HC2.out; rw [hb', e] at h2; exact h2 rfl); obtain ⟨⟨k0, k1, k2, k3, k4, k5⟩, kf, kz⟩ := Cod.facts HC3; have f5 := kf 5; clear kf)
    obtain ⟨w2, hw2⟩ : ∃ w2, w2 = w1.setCell ⟨W.heap.size + 1, 5, Option.none⟩ (.slice A1 (n2 + n3) d1) := ⟨_, rfl⟩
    rw [← hw2]
    have hC4 := Cod.set5 HC3 (.slice A1 (n2 + n3) d1)
    rw [← hw2] at hC4
    have HM4 : Bx (w2.ownsMap Tryz.prog 5 hR w0.heap.size n D) := ⟨by rw [hw2]; exact (HM2.out.kept HG3.out (fun e => by have := (HO2.out.lt _ e.symm).1; omega)).setCell (by show w0.heap.size ≠ W.heap.size + 1; omega) _⟩
    have HO4 : Bx (Kn.string.Own 9 w2 (w0.heap.size + 1) (fun b => w0.heap.size + 1 ≤ b) (.slice A1 (n2 + n3) d1) (xs ++ ys)) := ⟨by rw [hw2]; exact own_set HO3.out HC3 _⟩
    have HB4 : Bx (Below w0.heap.size w0 w2) := ⟨by rw [hw2]; exact HB3.out.setCell (by show w0.heap.size ≤ W.heap.size + 1; omega) _⟩
    obtain ⟨⟨r0, r1, r2, r3, r4, r5⟩, -, -⟩ := hC4.facts
    clear k0 k1 k2 k3 k4 k5 f5 kz hw2 HC3 hC4
    go_wp2_with (at_mapUpdate; refine wpList_mapUpdate_own _ rfl _ _ _ 112 rfl 5 101 law5 Tryz.underlying112 hR w0.heap.size n D rfl HM4.out (by unfold maxLen; omega) _ _ (.int .u8 p) rfl rfl (key5 p hp) (.held _) [] rfl ?_; intro w3 hown3 hgrow3)
    have hO5 := HO4.out.step (w' := w3) (fun b hb' hlt => hgrow3.block b hlt (fun e => by cases e; have h2 : w0.heap.size + 1 ≤ w0.heap.size := hb'; omega))
    have hB5 := HB4.out.grown hgrow3 HB4.out.size (fun b hb' => by cases hb'; exact Nat.le_refl _)
    go_end0
    exact ⟨rfl, hB5, A1, d1, hO5, hown3⟩
end Go.Proofs.YtimonhimfioohaaGreatDoor
/-! sdp.GetCodecMap: its map, what each attribute does to it. -/
namespace Go.Proofs.YtimonhimfioohaaGreatDoor
open Go Go.RowKit Go.PlainAid Kn Go.Maps
/-- A codec as a session's attributes tell it. -/
structure Cd where
  name : ByteArray
  rate : Nat
  par : ByteArray
  fm : ByteArray
  fb : List ByteArray
def c0V : Value := codV 0 ⟨#[80, 67, 77, 85]⟩ 8000 ⟨#[]⟩ ⟨#[]⟩ (.slice Option.none 0 0)
def c8V : Value := codV 8 ⟨#[80, 67, 77, 65]⟩ 8000 ⟨#[]⟩ ⟨#[]⟩ (.slice Option.none 0 0)
def c9V : Value := codV 9 ⟨#[71, 55, 50, 50]⟩ 8000 ⟨#[]⟩ ⟨#[]⟩ (.slice Option.none 0 0)
/-- The map: three static codecs, and the one of payload type p, if there is one. -/
structure TabD (p : Nat) (ev : Option Value) (D : DataW Value) : Prop where
  isMap : IsMap D
  hs : ∀ x : Int, Maps.has D (.int .u8 x) = (decide (x = 0) || decide (x = 8) || decide (x = 9) || (ev.isSome && decide (x = p)))
  a0 : ∀ zd, D.atKey (.int .u8 0) zd = .held c0V
  a8 : ∀ zd, D.atKey (.int .u8 8) zd = .held c8V
  a9 : ∀ zd, D.atKey (.int .u8 9) zd = .held c9V
  ap : ∀ v, ev = some v → ∀ zd, D.atKey (.int .u8 p) zd = .held v
theorem ne8 {a b : Int} (h : a ≠ b) : (Lit.int .u8 a) ≠ Lit.int .u8 b := fun e => h (by cases e; rfl)
def D3 : DataW Value := (((DataW.map []).put (.int .u8 0) (.held c0V)).put (.int .u8 8) (.held c8V)).put (.int .u8 9) (.held c9V)
theorem kl8 (x : Int) : WideAt.IsKeyLit (.int .u8 x) := trivial
theorem tab_start (p : Nat) : TabD p Option.none D3 := by
  have i0 : IsMap (DataW.map [] : DataW Value) := isMap_empty
  have i1 := i0.put (.int .u8 0) (.held c0V)
  have i2 := i1.put (.int .u8 8) (.held c8V)
  refine ⟨i2.put _ _, fun x => ?_, fun zd => ?_, fun zd => ?_, fun zd => ?_, fun v h => by cases h⟩
  · unfold D3
    by_cases h9 : x = 9
    · subst h9; rw [has_put_same i2 (kl8 _)]; simp
    · rw [has_put_other (ne8 h9)]
      by_cases h8 : x = 8
      · subst h8; rw [has_put_same i1 (kl8 _)]; simp
      · rw [has_put_other (ne8 h8)]
        by_cases h0 : x = 0
        · subst h0; rw [has_put_same i0 (kl8 _)]; simp
        · rw [has_put_other (ne8 h0)]
          simp [h0, h8, h9, Maps.has]
  · unfold D3
    rw [atKey_put_other (ne8 (by decide)), atKey_put_other (ne8 (by decide)), atKey_put_same i0 (kl8 _)]
  · unfold D3
    rw [atKey_put_other (ne8 (by decide)), atKey_put_same i1 (kl8 _)]
  · unfold D3
    rw [atKey_put_same i2 (kl8 _)]
theorem TabD.put {p : Nat} {ev : Option Value} {D : DataW Value} (h : TabD p ev D) (hp : 9 < p) (v : Value) : TabD p (some v) (D.put (.int .u8 p) (.held v)) := by
  refine ⟨h.isMap.put _ _, fun x => ?_, fun zd => ?_, fun zd => ?_, fun zd => ?_, fun v' e zd => ?_⟩
  · by_cases hx : x = p
    · subst hx; rw [has_put_same h.isMap (kl8 _)]; simp
    · rw [has_put_other (ne8 hx), h.hs x]
      simp [hx]
  · rw [atKey_put_other (ne8 (by omega))]; exact h.a0 zd
  · rw [atKey_put_other (ne8 (by omega))]; exact h.a8 zd
  · rw [atKey_put_other (ne8 (by omega))]; exact h.a9 zd
  · cases e; rw [atKey_put_same h.isMap (kl8 _)]
theorem TabD.none_at {p : Nat} {D : DataW Value} (h : TabD p Option.none D) (hp : 9 < p) (zd : DataW Value) : D.atKey (.int .u8 p) zd = zd :=
  atKey_of_not_has (by rw [h.hs]; simp; omega) zd
/-- A store of what is there changes nothing. -/
theorem store_same' {H : Type} {P : Program} {w : World} {k e t : TypeId} {R : Value → Option (DataW H × List MemPlace)} {m n : Nat} {D : DataW H} (h : w.ownsMap P k R m n D) (K : Keyed P k) (ht : P.underlying t = some (.map k e)) {z : Value} (hz : (zeroValue e).run P w = .ok z w) {key v : Value} {kl : Lit} (hkey : keyOf P k key = some kl)
    (hlk : (Instr.lookup t (.map (some m)) key false).run P w = .ok v w) (hat0 : ∃ zd, D.atKey kl zd ≠ zd) : (Instr.mapUpdate t (.map (some m)) key v).run P w = .ok () w := by
  obtain ⟨es, clock, hb, F, hs, hD⟩ := h
  rcases K.find w hkey es.toList F.keys with ⟨h1, h2⟩ | ⟨j, e0, h1, h2, h3⟩
  · exfalso
    rcases Maps.fit_look (w := w) false K ht hz hb F hkey with ⟨_, _, hat⟩ | ⟨e0, y, he, hk, _⟩
    · obtain ⟨zd, hzd⟩ := hat0
      rw [hD] at hzd
      exact hzd (hat zd)
    · exact h2 e0 he hk
  · have hj : es[j]? = some e0 := by simpa using h2
    have hval : e0.val = v := by
      simp [Instr.lookup, run_underlying ht, MapKept.run_getObj_map hb, K.check w es.isEmpty hkey, h1, Result.andThen] at hlk
      exact hlk
    have hmod : es.modify j (fun e' => { e' with key := key, val := v }) = es := by
      apply Array.ext_getElem?
      intro i
      rw [Array.getElem?_modify]
      split
      · rename_i hi
        subst hi
        rw [hj, Option.map_some]
        cases e0
        simp only at h3 hval
        rw [h3, hval]
      · rfl
    have hrun : (Instr.mapUpdate t (.map (some m)) key v).run P w = .ok () (ChangeMaps.setBlock w m (.map (es.modify j (fun e' => { e' with key := key, val := v })) clock)) := by
      simp [Instr.mapUpdate, run_underlying ht, MapKept.run_getObj_map hb, K.check w false hkey, h1, hj, h3, K.stays w hkey, MapKept.run_setObj_map _ hb, Result.andThen, ChangeMaps.setBlock]
    rw [hrun, hmod]
    congr 1
    have e : w.heap.setIfInBounds m (.map es clock) = w.heap := by
      apply Array.ext_getElem?
      intro i
      by_cases hi : i = m
      · subst hi
        exact (ChangeMaps.heap_setBlock_same hb _).trans hb.symm
      · exact ChangeMaps.heap_setBlock_other hb _ hi
    unfold ChangeMaps.setBlock
    rw [e]
theorem store_same {w : World} {m n : Nat} {D : DataW Value} (h : w.ownsMap Tryz.prog 5 hR m n D) {p : Nat} (hp : p ≤ 255) {v : Value} (hv : ∀ zd, D.atKey (.int .u8 p) zd = .held v) : (Instr.mapUpdate 112 (.map (some m)) (.int .u8 p) v).run Tryz.prog w = .ok () w :=
  store_same' h law5 Tryz.underlying112 (zero101 w) (key5 p hp) (look5 h hp (hv _)) ⟨.map [], by rw [hv]; simp⟩
/-- A literal's entry. -/
theorem wpList_insert_own {H : Type} {P : Program} (w : World) {ops : Array Oper} {rest : List Oper} {o : Oper} {a : Act} {Q : Exit → Act → World → Prop}
    (hg : o.guard = Option.none) (m x v : Operand) (t : TypeId) (hop : o.op = Op.insert t m x v)
    (k e : TypeId) (K : Keyed P k) (ht : P.underlying t = some (.map k e)) (R : Value → Option (DataW H × List MemPlace)) (b n : Nat) (D : DataW H)
    (hm : a.eval m = .map (some b)) (hown : w.ownsMap P k R b n D) (hn : n < maxLen) (key val : Value) (kl : Lit) (hx : a.eval x = key) (hv : a.eval v = val) (hkey : keyOf P k key = some kl)
    (d : DataW H) (ps : List MemPlace) (hval : R val = some (d, ps))
    (hK : ∀ w', w'.ownsMap P k R b (n + 1) (D.put kl d) → w.grownBy w' (some b) → wpList P ops Q rest (a.put o.dst undef) w') :
    wpList P ops Q (o :: rest) a w := by
  refine wpList_plain hg fun K' hK' => ?_
  obtain ⟨w', hrun, r1, r2⟩ := hown.update K ht hn hkey hval
  unfold Oper.wp
  simp [execOp, hop, hm, hx, hv, hrun, Result.andThen]
  exact hK' _ _ (hK w' r1 r2)
/-- Does the text begin so? -/
theorem pre_calls (a : Att) (l : List UInt8) (w : World) : Calls Tryz.prog 62 #[.string (attStr a), .string ⟨l.toArray⟩] w fun e w' => w = w' ∧ e = .returned (.bool (Lib.hasPrefix (attBytes a) l)) := by
  refine (Tryz.strings_HasPrefix (attStr a) ⟨l.toArray⟩ w).mono ?_
  rintro e w' ⟨h1, h2⟩
  exact ⟨h2.symm, h1.trans (by simp [attStr])⟩
def pMap : List UInt8 := [114, 116, 112, 109, 97, 112, 58]
def pFmtp : List UInt8 := [102, 109, 116, 112, 58]
def pFb : List UInt8 := [114, 116, 99, 112, 45, 102, 98, 58]
/-- The part that an attribute of payload type p plays. -/
inductive Acts (p : Nat) : Att → Option Cd → Option Cd → Prop
  | plain (a : Att) (st : Option Cd) (h1 : Lib.hasPrefix (attBytes a) pMap = false) (h2 : Lib.hasPrefix (attBytes a) pFmtp = false) (h3 : Lib.hasPrefix (attBytes a) pFb = false) : Acts p a st st
  | map (a : Att) (name : List UInt8) (rate : Nat) (par : List UInt8) (h : attBytes a = mapText p name rate par) (hr0 : 0 < rate) (hr : rate ≤ 4294967295) (hn : name ≠ [] ∧ ∀ b ∈ name, b ≠ 32 ∧ b ≠ 47) (hp : ∀ b ∈ par, b ≠ 32 ∧ b ≠ 47) (hl : (mapText p name rate par).length ≤ 9000000000) : Acts p a Option.none (some ⟨B name, rate, B par, ⟨#[]⟩, []⟩)
  | fmtp (a : Att) (f : List UInt8) (h : attBytes a = fmtpText p f) (hl : (fmtpText p f).length ≤ 9000000000) (c : Cd) : Acts p a (some c) (some { c with fm := if c.fm.size = 0 then B f else c.fm })
  | fb (a : Att) (f : List UInt8) (h : attBytes a = fbText p f) (hl : (fbText p f).length ≤ 9000000000) (c : Cd) : Acts p a (some c) (some { c with fm := if c.fm.size = 0 then ⟨#[]⟩ else c.fm, fb := c.fb ++ [B f] })
inductive ActsL (p : Nat) : List Att → Option Cd → Option Cd → Prop
  | nil (st : Option Cd) : ActsL p [] st st
  | cons {a : Att} {l : List Att} {s t u : Option Cd} (h : Acts p a s t) (hl : ActsL p l t u) : ActsL p (a :: l) s u
/-- What is known of a codec under way. -/
def CdOK (r : Nat) : Option Cd → Prop
  | Option.none => True
  | some c => c.name.toList.isEmpty = false ∧ 0 < c.rate ∧ c.fb.length + r ≤ 500000
/-- The codec's value in the map. -/
def EvOK (w0 W : World) (p : Nat) : Option Cd → Option Value → Prop
  | Option.none, ev => ev = Option.none
  | some c, ev => ∃ A n k, ev = some (codV p c.name c.rate c.par c.fm (.slice A n k)) ∧ c.fb.length = n ∧ Kn.string.Own 9 W (w0.heap.size + 1) (fun b => w0.heap.size + 1 ≤ b) (.slice A n k) c.fb
/-- The map within GetCodecMap, r attributes still to come. -/
def MapSt (w0 W : World) (p r : Nat) (st : Option Cd) : Prop := CdOK r st ∧ ∃ n D ev, W.ownsMap Tryz.prog 5 hR w0.heap.size n D ∧ TabD p ev D ∧ EvOK w0 W p st ev ∧ n + r ≤ 500000
theorem MapSt.step {w0 W W' : World} {p r : Nat} {st : Option Cd} (h : MapSt w0 W p r st) (hb : Below W.heap.size W W') : MapSt w0 W' p r st := by
  obtain ⟨h0, n, D, ev, h1, h2, h3, h4⟩ := h
  refine ⟨h0, n, D, ev, ?_, h2, ?_, h4⟩
  · have hlt := h1.lt
    obtain ⟨es, clock, hm, F, hs, hD⟩ := h1
    exact ⟨es, clock, (hb.block _ hlt).trans hm, F, hs, hD⟩
  · cases st with
    | none => exact h3
    | some c =>
      obtain ⟨A, n', k, e, hl, hO⟩ := h3
      exact ⟨A, n', k, e, hl, hO.step fun b _ hlt => hb.block b hlt⟩
theorem MapSt.plain {w0 W : World} {p r : Nat} {st : Option Cd} (h : MapSt w0 W p (r + 1) st) : MapSt w0 W p r st := by
  obtain ⟨h0, n, D, ev, h1, h2, h3, h4⟩ := h
  refine ⟨?_, n, D, ev, h1, h2, h3, by omega⟩
  cases st with
  | none => trivial
  | some c => exact ⟨h0.1, h0.2.1, by have := h0.2.2; omega⟩
end Go.Proofs.YtimonhimfioohaaGreatDoor
