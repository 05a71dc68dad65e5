/- Lemmas on which the proof of Rows.FnCodecCardSaid rests: no statement of the seat is proved in this file. Conditions: each lemma's own hypotheses, no others. -/
import Derived.Test.YtimonhimfioohaaGreatDoorM16
import Derived.Test.YtimonhimfioohaaGreatDoorM02
import Derived.Test.YtimonhimfioohaaGreatDoorM17
/-! What works()'s reader does with the timing's line. -/
namespace Go.Proofs.YtimonhimfioohaaGreatDoor
open Go Go.RowKit Go.PlainAid Kn
/-- One time description: both times 0, no repeats. -/
def kTd : Kn Unit where
  sz := 3
  K := fun _ _ _ cs => cs = [.int .u64 0, .int .u64 0, .slice Option.none 0 0]
  len := fun h => by rw [h]; rfl
  one := by
    intro F w x cs h u hu
    rw [h] at hu
    simp only [List.mem_cons, List.not_mem_nil, or_false] at hu
    rcases hu with rfl | rfl | rfl <;> rfl
  mono := fun _ h => h
  bound := fun h => h
  move := fun _ h => h
theorem szTd : 0 < kTd.sz := by decide
theorem info168 : (Tryz.prog.info? 168).map (fun i => (i.zero, i.size, i.bytes)) = some (some (.agg #[.int .u64 0, .int .u64 0, .slice Option.none 0 0]), 3, 40) := by kernel_rfl
theorem size168 : (Tryz.prog.info? 168).map (·.size) = some 3 := by kernel_rfl
theorem RdT.keep {B lx ds cc g : Nat} {t : ByteArray} {p : Nat} {S : Array Value} {a : Addr} {w w1 w2 : World} (h : RdT B lx ds cc t p S a w w1) (_hc : RdC B lx ds cc) (k : Keep g w1 w2) (hg : w.heap.size ≤ g) (h5 : g ≠ 5) (hl : lx ≠ g) (hd : ds ≠ g) (hcc : cc ≠ g) : RdT B lx ds cc t p S a w w2 :=
  ⟨h.1.new k hg, (k.block lx (blk_lt h.2.l) hl).trans h.2.l, (k.block ds (blk_lt h.2.d) hd).trans h.2.d, (k.block cc (blk_lt h.2.c) hcc).trans h.2.c, h.2.e.keep k h5, h.2.n⟩
/-- The description's blocks lie below a later one. -/
theorem RdT.lt {B lx ds cc : Nat} {t : ByteArray} {p : Nat} {S : Array Value} {a : Addr} {w w1 : World} (h : RdT B lx ds cc t p S a w w1) : lx < w1.heap.size ∧ ds < w1.heap.size ∧ cc < w1.heap.size := ⟨blk_lt h.2.l, blk_lt h.2.d, blk_lt h.2.c⟩
theorem RdT.ofBelow {B lx ds cc : Nat} {t : ByteArray} {p : Nat} {S : Array Value} {a : Addr} {w w1 w2 : World} (h : RdT B lx ds cc t p S a w w1) (_hc : RdC B lx ds cc) (k : Below w1.heap.size w1 w2) : RdT B lx ds cc t p S a w w2 :=
  ⟨h.1.trans (.ofBelow k), heap_below k h.2.l, heap_below k h.2.d, heap_below k h.2.c, cell_below k h.2.e, h.2.n⟩
theorem td_box (w : World) : kTd.SV (fun _ => True) (w.alloc (.cells #[.int .u64 0, .int .u64 0, .slice Option.none 0 0] 168)) (.slice (some ⟨w.heap.size, 0, Option.none⟩) 1 1) [()] := by
  refine ⟨_, _, rfl, Nat.le_refl _, by simp, fun _ => ⟨_, rfl, trivial, fun j x hj => ⟨_, rfl, fun i u hu => ?_⟩⟩⟩
  have hj0 : j = 0 := by
    have := (List.getElem?_eq_some_iff.1 hj).1
    simp at this
    omega
  subst hj0
  have h1 : (w.alloc (.cells #[.int .u64 0, .int .u64 0, .slice Option.none 0 0] 168)).cell? ⟨w.heap.size, i, Option.none⟩ = some u := (blk_cell (heap_alloc_new w _) i).trans (by simpa using hu)
  show World.cell? _ (Addr.add _ (0 * 3 + i)) = _
  rw [Nat.zero_mul, Nat.zero_add]
  unfold Addr.add
  by_cases hi : i = 0
  · subst hi
    simpa using h1
  · simpa [hi] using h1
set_option maxRecDepth 20000 in
set_option maxHeartbeats 3200000 in
theorem timing_calls (B lx ds cc : Nat) (t : ByteArray) (S : Array Value) (a : Addr) (w : World) (hc : RdC B lx ds cc) (hB : B ≤ w.heap.size) (ht : t = leastT) (h : RdS lx ds cc t 30 S a w) (h14 : w.cell? ⟨ds, 14, Option.none⟩ = some (.slice Option.none 0 0)) :
    Calls Tryz.prog 193 #[.pointer (some ⟨lx, 0, Option.none⟩)] w fun e w' => (∃ A c, RdT B lx ds cc t 35 (S.setIfInBounds 14 (.slice A 1 c)) a w w' ∧ kTd.SV (fun b => w.heap.size ≤ b) w' (.slice A 1 c) [()]) ∧ e = .returned (.tuple #[.func (.func 206) #[] #[], .nilIface]) := by
  have hs : t.size = 35 := by rw [ht]; exact least_size
  have HT := Bx.mk ht
  have H0 : Bx (RdT B lx ds cc t 30 S a w w) := ⟨KeepL.refl _ _ _ _, h⟩
  have HC := Bx.mk hc
  clear ht h hc
  have H14 := Bx.mk h14
  clear h14
  go_enter Tryz.func193, Tryz.ntmps193
  obtain ⟨td, htd⟩ : ∃ n, n = w.heap.size := ⟨_, rfl⟩
  have hlt := H0.out.lt
  rw [← htd] at hlt
  have hld : lx ≠ td := by omega
  have hdd : ds ≠ td := by omega
  have hcd : cc ≠ td := by omega
  have hBd : w.heap.size ≤ td := by omega
  have h5d : td ≠ 5 := by have := HC.out.b5; omega
  clear hlt
  go_upto_region 3 with (fail)
  have H1 := Bx.mk (H0.out.alloc HC.out (.cells #[.int .u64 0, .int .u64 0, .slice Option.none 0 0] 168))
  have HD1 : Bx ((w.alloc (.cells #[.int .u64 0, .int .u64 0, .slice Option.none 0 0] 168)).heap[td]? = some (.cells #[.int .u64 0, .int .u64 0, .slice Option.none 0 0] 168)) := ⟨by rw [htd]; exact heap_alloc_new w _⟩
  obtain ⟨W1, hW1⟩ : ∃ W, W = w.alloc (.cells #[.int .u64 0, .int .u64 0, .slice Option.none 0 0] 168) := ⟨_, rfl⟩
  rw [← hW1] at H1 HD1 ⊢
  rw [← htd]
  clear hW1
  have HTD := Bx.mk htd
  clear htd
  go_wp2_with (fail)
  refine (readUint_calls lx _ _ t 30 32 0 a _ H1.out.2.l (by omega) HC.out.l5 H1.out.2.e (.inl ⟨by rw [HT.out]; decide, rfl⟩) ⟨by omega, .inr ⟨by rw [HT.out]; decide, by rw [HT.out]; decide, by omega, by omega, fun j h1 h2 => by omega, by rw [HT.out]; decide⟩⟩).mono ?_
  rintro e w2 ⟨hL, rfl⟩
  have hd2 := (hL.1.block td (blk_lt HD1.out) hld.symm).trans HD1.out
  have H2 := Bx.mk (H1.out.step HC.out hL)
  have c2 := (blk_cell hd2 0).trans rfl
  have f2 := blk_frozen hd2 0
  clear hL
  have HD3 : Bx ((w2.setCell ⟨td, 0, Option.none⟩ (.int .u64 0)).heap[td]? = some (.cells #[.int .u64 0, .int .u64 0, .slice Option.none 0 0] 168)) := ⟨blk_set hd2 0 _⟩
  have H3 := Bx.mk (H2.out.keep HC.out (Keep.set (g := td) (i := 0) (.int .u64 0)) hBd h5d hld hdd hcd)
  clear hd2
  go_wp2_with (fail)
  refine (readUint_calls lx _ _ t 32 33 0 a _ H3.out.2.l (by omega) HC.out.l5 H3.out.2.e (.inl ⟨by rw [HT.out]; decide, rfl⟩) ⟨by omega, .inl ⟨by rw [HT.out]; decide, rfl⟩⟩).mono ?_
  rintro e w4 ⟨hL, rfl⟩
  have hd4 := (hL.1.block td (blk_lt HD3.out) hld.symm).trans HD3.out
  have H4 := Bx.mk (H3.out.step HC.out hL)
  have c4 := (blk_cell hd4 1).trans rfl
  have f4 := blk_frozen hd4 1
  clear hL
  have HD5 : Bx ((w4.setCell ⟨td, 1, Option.none⟩ (.int .u64 0)).heap[td]? = some (.cells #[.int .u64 0, .int .u64 0, .slice Option.none 0 0] 168)) := ⟨blk_set hd4 1 _⟩
  have H5 := Bx.mk (H4.out.keep HC.out (Keep.set (g := td) (i := 1) (.int .u64 0)) hBd h5d hld hdd hcd)
  clear hd4
  go_wp2_with (fail)
  refine (nextLine_end lx _ _ t 33 a _ H5.out.2.l (by omega) (by omega) HC.out.l5 H5.out.2.e (fun j h1 h2 => by
    have : j = 33 ∨ j = 34 := by omega
    rcases this with rfl | rfl <;> rw [HT.out] <;> decide)).mono ?_
  rintro e w6 ⟨hL, rfl⟩
  have hd6 := (hL.1.block td (blk_lt HD5.out) hld.symm).trans HD5.out
  have H6 := Bx.mk (H5.out.step HC.out hL)
  have HD6 := Bx.mk hd6
  clear hL hd6 c2 f2 c4 f4
  go_upto_region 12 with (fail)
  have c14 : w6.cell? ⟨ds, 14, Option.none⟩ = some (.slice Option.none 0 0) := (H6.out.2.cell 14).trans ((H0.out.2.cell 14).symm.trans H14.out)
  have C14 := Bx.mk c14
  have C0 := Bx.mk H6.out.2.l.c0
  have CT : Bx (∀ i u, #[Value.int .u64 0, .int .u64 0, .slice Option.none 0 0][i]? = some u → w6.cell? ⟨td, i, Option.none⟩ = some u) := ⟨fun i u h => (blk_cell HD6.out i).trans h⟩
  clear c14
  refine region_rule2 (by kernel_rfl) (by kernel_rfl) (by kernel_rfl) (fun f => #[.pointer (some ⟨lx, 0, Option.none⟩), undef, .nilFunc, .nilIface, .nilIface, .pointer (some ⟨td, 0, Option.none⟩), .nilIface, .tuple #[.int .u64 0, .nilIface], .pointer (some ⟨lx, 0, Option.none⟩), .pointer (some ⟨lx, 0, Option.none⟩), .pointer (some ⟨lx, 2, Option.none⟩), .tuple #[.int .u64 0, .nilIface], .int .u64 0, .nilIface, .pointer (some ⟨td, 0, Option.none⟩), .pointer (some ⟨td, 0, Option.none⟩), .nilIface, .bool false, undef, .tuple #[.int .u64 0, .nilIface], .pointer (some ⟨lx, 0, Option.none⟩), .pointer (some ⟨lx, 0, Option.none⟩), .pointer (some ⟨lx, 2, Option.none⟩), .tuple #[.int .u64 0, .nilIface], .int .u64 0, .nilIface, .pointer (some ⟨td, 0, Option.none⟩), .pointer (some ⟨td, 1, Option.none⟩), .nilIface, .bool false, undef, .pointer (some ⟨lx, 0, Option.none⟩), .pointer (some ⟨lx, 0, Option.none⟩), .pointer (some ⟨lx, 2, Option.none⟩), .nilIface, .nilIface, .bool false, undef, f 38, f 39, f 40, f 41, f 42, f 43, f 44, f 45, f 46, f 47, f 48, f 49, f 50, f 51, f 52, f 53]) (fun f => by kernel_rfl) (fun i => match i with | 3 => some (.pointer (some ⟨ds, 0, Option.none⟩)) | 7 => some (.pointer (some ⟨ds, 0, Option.none⟩)) | 0 => some (.pointer (some ⟨lx, 0, Option.none⟩)) | 1 => some (.pointer (some ⟨lx, 0, Option.none⟩)) | 2 => some (.pointer (some ⟨lx, 0, Option.none⟩)) | 4 => some (.pointer (some ⟨lx, 0, Option.none⟩)) | 5 => some (.pointer (some ⟨lx, 0, Option.none⟩)) | 6 => some (.pointer (some ⟨lx, 0, Option.none⟩)) | 8 => some (.pointer (some ⟨ds, 0, Option.none⟩)) | 9 => some (.pointer (some ⟨ds, 14, Option.none⟩)) | 10 => some (.slice Option.none 0 0) | 11 => some (.agg #[.int .u64 0, .int .u64 0, .slice Option.none 0 0]) | 14 => some (.pointer (some ⟨ds, 0, Option.none⟩)) | 15 => some (.pointer (some ⟨ds, 14, Option.none⟩)) | _ => Option.none) (fun d f w' => (d 16 = false → Below w6.heap.size w6 w') ∧ (d 12 = true → d 13 = false → ∃ n, f 50 = .slice (some ⟨n, 0, Option.none⟩) 1 1 ∧ kTd.SV (fun _ => True) w' (.slice (some ⟨n, 0, Option.none⟩) 1 1) [()]) ∧ (d 13 = true → d 16 = false → ∃ A c, f 51 = .slice A 1 c ∧ kTd.Own 168 w' w6.heap.size (fun b => w6.heap.size ≤ b) (.slice A 1 c) [()]) ∧ (d 16 = true → ∃ A c W, Below w6.heap.size w6 W ∧ w' = W.setCell ⟨ds, 14, Option.none⟩ (.slice A 1 c) ∧ kTd.Own 168 W w6.heap.size (fun b => w6.heap.size ≤ b) (.slice A 1 c) [()])) ?_ ?_ ?_
  · exact ⟨fun _ => Below.drew (Below.refl _ _), fun h => (by cases h), fun h => (by cases h), fun h => (by cases h)⟩
  · intro i o ho d a wx hdi hdep hcl hfr hT hSp
    match i, ho with
    | 0, ho =>
      rw [← Array.getElem?_toList] at ho
      simp only [List.getElem?_cons_zero, Option.some.injEq] at ho
      subst ho
      have e0 : a.tmps[0]?.getD undef = .pointer (some ⟨lx, 0, Option.none⟩) := (eval_tmp a 0).trans (hfr 0 (by decide +kernel))
      clear hdi hdep hfr hT hcl
      refine op_val rfl rfl (.pointer (some ⟨lx, 0, Option.none⟩)) (fun K' hK => ?_) ⟨_, rfl, fun u hu => by cases hu; rfl, hSp⟩
      clear hSp
      go_simp
      exact hK
    | 1, ho =>
      rw [← Array.getElem?_toList] at ho
      simp only [List.getElem?_cons_zero, List.getElem?_cons_succ, Option.some.injEq] at ho
      subst ho
      have e38 := (eval_tmp a 38).trans (hT 0 _ 38 _ rfl rfl rfl (hdep _ (Array.mem_of_getElem? (i := 0) rfl) rfl))
      clear hdi hdep hfr hT hcl
      refine op_val rfl rfl (.pointer (some ⟨lx, 0, Option.none⟩)) (fun K' hK => ?_) ⟨_, rfl, fun u hu => by cases hu; rfl, hSp⟩
      clear hSp
      go_simp
      exact hK
    | 2, ho =>
      rw [← Array.getElem?_toList] at ho
      simp only [List.getElem?_cons_zero, List.getElem?_cons_succ, Option.some.injEq] at ho
      subst ho
      have e39 := (eval_tmp a 39).trans (hT 1 _ 39 _ rfl rfl rfl (hdep _ (Array.mem_of_getElem? (i := 0) rfl) rfl))
      clear hdi hdep hfr hT hcl
      refine op_val rfl rfl (.pointer (some ⟨lx, 0, Option.none⟩)) (fun K' hK => ?_) ⟨_, rfl, fun u hu => by cases hu; rfl, hSp⟩
      clear hSp
      go_simp
      exact hK
    | 3, ho =>
      rw [← Array.getElem?_toList] at ho
      simp only [List.getElem?_cons_zero, List.getElem?_cons_succ, Option.some.injEq] at ho
      subst ho
      have e40 := (eval_tmp a 40).trans (hT 2 _ 40 _ rfl rfl rfl (hdep _ (Array.mem_of_getElem? (i := 0) rfl) rfl))
      have h16 : d 16 = false := not_yet hcl hdi (j := 16) (p := 6) rfl rfl rfl rfl
      have c0 := cell_below (hSp.1 h16) C0.out
      clear h16
      clear hdi hdep hfr hT hcl
      refine op_val rfl rfl (.pointer (some ⟨ds, 0, Option.none⟩)) (fun K' hK => ?_) ⟨_, rfl, fun u hu => by cases hu; rfl, hSp⟩
      clear hSp
      go_simp
      exact hK
    | 4, ho =>
      rw [← Array.getElem?_toList] at ho
      simp only [List.getElem?_cons_zero, List.getElem?_cons_succ, Option.some.injEq] at ho
      subst ho
      have e0 : a.tmps[0]?.getD undef = .pointer (some ⟨lx, 0, Option.none⟩) := (eval_tmp a 0).trans (hfr 0 (by decide +kernel))
      clear hdi hdep hfr hT hcl
      refine op_val rfl rfl (.pointer (some ⟨lx, 0, Option.none⟩)) (fun K' hK => ?_) ⟨_, rfl, fun u hu => by cases hu; rfl, hSp⟩
      clear hSp
      go_simp
      exact hK
    | 5, ho =>
      rw [← Array.getElem?_toList] at ho
      simp only [List.getElem?_cons_zero, List.getElem?_cons_succ, Option.some.injEq] at ho
      subst ho
      have e42 := (eval_tmp a 42).trans (hT 4 _ 42 _ rfl rfl rfl (hdep _ (Array.mem_of_getElem? (i := 0) rfl) rfl))
      clear hdi hdep hfr hT hcl
      refine op_val rfl rfl (.pointer (some ⟨lx, 0, Option.none⟩)) (fun K' hK => ?_) ⟨_, rfl, fun u hu => by cases hu; rfl, hSp⟩
      clear hSp
      go_simp
      exact hK
    | 6, ho =>
      rw [← Array.getElem?_toList] at ho
      simp only [List.getElem?_cons_zero, List.getElem?_cons_succ, Option.some.injEq] at ho
      subst ho
      have e43 := (eval_tmp a 43).trans (hT 5 _ 43 _ rfl rfl rfl (hdep _ (Array.mem_of_getElem? (i := 0) rfl) rfl))
      clear hdi hdep hfr hT hcl
      refine op_val rfl rfl (.pointer (some ⟨lx, 0, Option.none⟩)) (fun K' hK => ?_) ⟨_, rfl, fun u hu => by cases hu; rfl, hSp⟩
      clear hSp
      go_simp
      exact hK
    | 7, ho =>
      rw [← Array.getElem?_toList] at ho
      simp only [List.getElem?_cons_zero, List.getElem?_cons_succ, Option.some.injEq] at ho
      subst ho
      have e44 := (eval_tmp a 44).trans (hT 6 _ 44 _ rfl rfl rfl (hdep _ (Array.mem_of_getElem? (i := 0) rfl) rfl))
      have h16 : d 16 = false := not_yet hcl hdi (j := 16) (p := 10) rfl rfl rfl rfl
      have c0 := cell_below (hSp.1 h16) C0.out
      clear h16
      clear hdi hdep hfr hT hcl
      refine op_val rfl rfl (.pointer (some ⟨ds, 0, Option.none⟩)) (fun K' hK => ?_) ⟨_, rfl, fun u hu => by cases hu; rfl, hSp⟩
      clear hSp
      go_simp
      exact hK
    | 8, ho =>
      rw [← Array.getElem?_toList] at ho
      simp only [List.getElem?_cons_zero, List.getElem?_cons_succ, Option.some.injEq] at ho
      subst ho
      have e45 := (eval_tmp a 45).trans (hT 7 _ 45 _ rfl rfl rfl (hdep _ (Array.mem_of_getElem? (i := 0) rfl) rfl))
      clear hdi hdep hfr hT hcl
      refine op_val rfl rfl (.pointer (some ⟨ds, 0, Option.none⟩)) (fun K' hK => ?_) ⟨_, rfl, fun u hu => by cases hu; rfl, hSp⟩
      clear hSp
      go_simp
      exact hK
    | 9, ho =>
      rw [← Array.getElem?_toList] at ho
      simp only [List.getElem?_cons_zero, List.getElem?_cons_succ, Option.some.injEq] at ho
      subst ho
      have e46 := (eval_tmp a 46).trans (hT 8 _ 46 _ rfl rfl rfl (hdep _ (Array.mem_of_getElem? (i := 0) rfl) rfl))
      clear hdi hdep hfr hT hcl
      refine op_val rfl rfl (.pointer (some ⟨ds, 14, Option.none⟩)) (fun K' hK => ?_) ⟨_, rfl, fun u hu => by cases hu; rfl, hSp⟩
      clear hSp
      go_simp
      exact hK
    | 10, ho =>
      rw [← Array.getElem?_toList] at ho
      simp only [List.getElem?_cons_zero, List.getElem?_cons_succ, Option.some.injEq] at ho
      subst ho
      have e47 := (eval_tmp a 47).trans (hT 9 _ 47 _ rfl rfl rfl (hdep _ (Array.mem_of_getElem? (i := 0) rfl) rfl))
      have h16 : d 16 = false := not_yet hcl hdi (j := 16) (p := 13) rfl rfl rfl rfl
      have c0 := cell_below (hSp.1 h16) C14.out
      clear h16
      clear hdi hdep hfr hT hcl
      refine op_val rfl rfl (.slice Option.none 0 0) (fun K' hK => ?_) ⟨_, rfl, fun u hu => by cases hu; rfl, hSp⟩
      clear hSp
      go_simp
      exact hK
    | 11, ho =>
      rw [← Array.getElem?_toList] at ho
      simp only [List.getElem?_cons_zero, List.getElem?_cons_succ, Option.some.injEq] at ho
      subst ho
      have e5 : a.tmps[5]?.getD undef = .pointer (some ⟨td, 0, Option.none⟩) := (eval_tmp a 5).trans (hfr 5 (by decide +kernel))
      have h16 : d 16 = false := not_yet hcl hdi (j := 16) (p := 14) rfl rfl rfl rfl
      have hd := heap_below (hSp.1 h16) HD6.out
      clear h16
      clear hdi hdep hfr hT hcl
      refine op_val rfl rfl (.agg #[.int .u64 0, .int .u64 0, .slice Option.none 0 0]) (fun K' hK => ?_) ⟨_, rfl, fun u hu => by cases hu; rfl, hSp⟩
      clear hSp
      refine oper_of_list (ops := #[]) rfl (fun Q' hQ' => wpList_load_row rfl 168 _ rfl td ((eval_tmp a 5).symm.trans e5) 168 _ (0, 0) _ hd Tryz.underlying168 rfl size168 (wpList_nil (hQ' _ _ hK)))
    | 12, ho =>
      rw [← Array.getElem?_toList] at ho
      simp only [List.getElem?_cons_zero, List.getElem?_cons_succ, Option.some.injEq] at ho
      subst ho
      have e49 := (eval_tmp a 49).trans (hT 11 _ 49 _ rfl rfl rfl (hdep _ (Array.mem_of_getElem? (i := 0) rfl) rfl))
      have h13 : d 13 = false := not_yet hcl hdi (j := 13) (p := 1) rfl rfl rfl rfl
      have h16 : d 16 = false := not_yet hcl h13 (j := 16) (p := 1) rfl rfl rfl rfl
      clear hdep hfr hT hcl
      refine op_gen rfl rfl (fun v w' => v = .slice (some ⟨wx.heap.size, 0, Option.none⟩) 1 1 ∧ w' = wx.alloc (.cells #[.int .u64 0, .int .u64 0, .slice Option.none 0 0] 168)) (fun K' hK => ?_) (fun v w' hG => ⟨_, rfl, fun u hu => (by cases hu), ?_⟩)
      · clear hSp h13 h16
        go_simp
        exact hK _ _ ⟨rfl, rfl⟩
      · obtain ⟨rfl, rfl⟩ := hG
        refine ⟨fun _ => below_alloc1 (hSp.1 h16) _, fun _ _ => ⟨_, rfl, td_box wx⟩, fun h => ?_, fun h => ?_⟩
        · simp [h13] at h
        · simp [h16] at h
    | 13, ho =>
      rw [← Array.getElem?_toList] at ho
      simp only [List.getElem?_cons_zero, List.getElem?_cons_succ, Option.some.injEq] at ho
      subst ho
      have e48 := (eval_tmp a 48).trans (hT 10 _ 48 _ rfl rfl rfl (hdep _ (Array.mem_of_getElem? (i := 0) rfl) rfl))
      have h16 : d 16 = false := not_yet hcl hdi (j := 16) (p := 1) rfl rfl rfl rfl
      have hp : d 12 = true := (hdep _ (Array.mem_of_getElem? (i := 1) rfl) rfl)
      obtain ⟨n, e50, hv⟩ := hSp.2.1 hp hdi
      have HY := Bx.mk hv
      have HBx := Bx.mk (hSp.1 h16)
      clear hdep hfr hT hcl
      refine op_gen rfl rfl (fun v w' => ∃ A c, v = .slice A 1 c ∧ Below w6.heap.size w6 w' ∧ kTd.Own 168 w' w6.heap.size (fun b => w6.heap.size ≤ b) (.slice A 1 c) [()]) (fun K' hK => ?_) (fun v w' hG => ⟨_, rfl, fun u hu => (by cases hu), ?_⟩)
      · exact oper_of_list (ops := #[]) rfl (fun Q' hQ' => app_all kTd (w := w6) (fun b => w6.heap.size ≤ b) (fun _ => True) rfl _ _ 142 168 _ 40 rfl Tryz.underlying142 info168 rfl (by decide) (by decide) (by decide) (.slice Option.none 0 0) [] [()] 0 rfl (some ⟨n, 0, Option.none⟩) 1 1 rfl ((eval_tmp a 48).symm.trans e48) e50 HY (fun _ _ h => h) ⟨Own.nil _ _ _ _ _⟩ HBx (Nat.le_refl _) HBx.out.size (fun _ h => h) (by decide) (fun A5 c5 w5 HO5 HB5 HG5 => wpList_nil (hQ' _ _ (hK _ _ ⟨A5, c5, rfl, HB5.out, HO5.out⟩))))
      · obtain ⟨A, c, rfl, hb, ho⟩ := hG
        refine ⟨fun _ => hb, fun _ h => ?_, fun _ _ => ⟨A, c, rfl, ho⟩, fun h => ?_⟩
        · simp at h
        · simp [h16] at h
    | 14, ho =>
      rw [← Array.getElem?_toList] at ho
      simp only [List.getElem?_cons_zero, List.getElem?_cons_succ, Option.some.injEq] at ho
      subst ho
      have e41 := (eval_tmp a 41).trans (hT 3 _ 41 _ rfl rfl rfl (hdep _ (Array.mem_of_getElem? (i := 0) rfl) rfl))
      clear hdi hdep hfr hT hcl
      refine op_val rfl rfl (.pointer (some ⟨ds, 0, Option.none⟩)) (fun K' hK => ?_) ⟨_, rfl, fun u hu => by cases hu; rfl, hSp⟩
      clear hSp
      go_simp
      exact hK
    | 15, ho =>
      rw [← Array.getElem?_toList] at ho
      simp only [List.getElem?_cons_zero, List.getElem?_cons_succ, Option.some.injEq] at ho
      subst ho
      have e52 := (eval_tmp a 52).trans (hT 14 _ 52 _ rfl rfl rfl (hdep _ (Array.mem_of_getElem? (i := 0) rfl) rfl))
      clear hdi hdep hfr hT hcl
      refine op_val rfl rfl (.pointer (some ⟨ds, 14, Option.none⟩)) (fun K' hK => ?_) ⟨_, rfl, fun u hu => by cases hu; rfl, hSp⟩
      clear hSp
      go_simp
      exact hK
    | 16, ho =>
      rw [← Array.getElem?_toList] at ho
      simp only [List.getElem?_cons_zero, List.getElem?_cons_succ, Option.some.injEq] at ho
      subst ho
      have e53 := (eval_tmp a 53).trans (hT 15 _ 53 _ rfl rfl rfl (hdep _ (Array.mem_of_getElem? (i := 0) rfl) rfl))
      have hp : d 13 = true := (hdep _ (Array.mem_of_getElem? (i := 1) rfl) rfl)
      obtain ⟨A, c, e51, ho⟩ := hSp.2.2.1 hp hdi
      have hb := hSp.1 hdi
      have hd := heap_below hb H6.out.2.d
      have fd := blk_frozen hd 14
      have cd := cell_below hb C14.out
      have e51' := (eval_tmp a 51).trans e51
      clear hdep hfr hT hcl
      refine op_gen rfl rfl (fun v w' => w' = wx.setCell ⟨ds, 14, Option.none⟩ (.slice A 1 c)) (fun K' hK => ?_) (fun v w' hG => ⟨v, rfl, fun u hu => (by cases hu), ?_⟩)
      · clear hSp hdi hp ho hb hd e51
        go_simp
        exact hK undef _ rfl
      · subst hG
        exact ⟨fun h => absurd h (by simp), fun _ h => absurd h (by simp [hp]), fun _ h => absurd h (by simp), fun _ => ⟨A, c, wx, hb, rfl, ho⟩⟩
    | n + 17, ho => cases ho
  · intro d f wx hall hTf hSp
    obtain ⟨A, c, W, hb, rfl, ho⟩ := hSp.2.2.2 (hall 16 (by decide))
    have hR := H6.out.ofBelow HC.out hb
    have HR := Bx.mk (hR.put HC.out 14 (.slice A 1 c))
    have HO := Bx.mk (ho.step (w' := W.setCell ⟨ds, 14, Option.none⟩ (.slice A 1 c)) (fun b h1 h2 => (Keep.set (g := ds) (.slice A 1 c)).block b h2 (by have := H6.out.lt; omega))).reads
    clear hSp hall hTf hb ho hR
    go_wp2
    go_ret2
    exact ⟨⟨A, c, by have h := HR.out; rw [hs] at h; exact h, HO.out.mono (fun b h => Nat.le_trans H6.out.1.size h)⟩, rfl⟩
end Go.Proofs.YtimonhimfioohaaGreatDoor
/-! impl.plain of the least description: its parts are empty. -/
namespace Go.Proofs.YtimonhimfioohaaGreatDoor
open Go Go.RowKit Go.PlainAid Kn
/-- A fresh description. -/
abbrev zDesc : Array Value := #[.int .i64 0, .string ⟨#[]⟩, .int .u64 0, .int .u64 0, .string ⟨#[]⟩, .string ⟨#[]⟩, .string ⟨#[]⟩, .string ⟨#[]⟩, .pointer Option.none, .pointer Option.none, .pointer Option.none, .pointer Option.none, .pointer Option.none, .slice Option.none 0 0, .slice Option.none 0 0, .slice Option.none 0 0, .pointer Option.none, .slice Option.none 0 0, .slice Option.none 0 0]
/-- The least description, as it is read. -/
abbrev lDesc (A : Option Addr) (c : Nat) : Array Value := #[.int .i64 0, .string ⟨#[45]⟩, .int .u64 1, .int .u64 1, .string ⟨#[73, 78]⟩, .string ⟨#[73, 80, 52]⟩, .string ⟨#[97]⟩, .string ⟨#[120]⟩, .pointer Option.none, .pointer Option.none, .pointer Option.none, .pointer Option.none, .pointer Option.none, .slice Option.none 0 0, .slice A 1 c, .slice Option.none 0 0, .pointer Option.none, .slice Option.none 0 0, .slice Option.none 0 0]
set_option maxHeartbeats 400000 in
theorem nil75_calls (w : World) : Calls Tryz.prog 75 #[.pointer Option.none] w fun e w' => w' = w ∧ e = .returned (.slice Option.none 0 0) := by
  go_enter Tryz.func75, Tryz.ntmps75
  go_wp2
  go_ret
  exact ⟨rfl, rfl⟩
set_option maxHeartbeats 400000 in
theorem nil76_calls (w : World) : Calls Tryz.prog 76 #[.pointer Option.none] w fun e w' => w' = w ∧ e = .returned (.slice Option.none 0 0) := by
  go_enter Tryz.func76, Tryz.ntmps76
  go_wp2
  go_ret
  exact ⟨rfl, rfl⟩
set_option maxHeartbeats 400000 in
theorem nil77_calls (w : World) : Calls Tryz.prog 77 #[.pointer Option.none] w fun e w' => w' = w ∧ e = .returned (.slice Option.none 0 0) := by
  go_enter Tryz.func77, Tryz.ntmps77
  go_wp2
  go_ret
  exact ⟨rfl, rfl⟩
set_option maxHeartbeats 400000 in
theorem nil78_calls (w : World) : Calls Tryz.prog 78 #[.pointer Option.none] w fun e w' => w' = w ∧ e = .returned (.slice Option.none 0 0) := by
  go_enter Tryz.func78, Tryz.ntmps78
  go_wp2
  go_ret
  exact ⟨rfl, rfl⟩
set_option maxHeartbeats 400000 in
theorem nil79_calls (w : World) : Calls Tryz.prog 79 #[.pointer Option.none] w fun e w' => w' = w ∧ e = .returned (.slice Option.none 0 0) := by
  go_enter Tryz.func79, Tryz.ntmps79
  go_wp2
  go_ret
  exact ⟨rfl, rfl⟩
set_option maxHeartbeats 400000 in
theorem nil81_calls (w : World) : Calls Tryz.prog 81 #[.pointer Option.none] w fun e w' => w' = w ∧ e = .returned (.slice Option.none 0 0) := by
  go_enter Tryz.func81, Tryz.ntmps81
  go_wp2
  go_ret
  exact ⟨rfl, rfl⟩
set_option maxRecDepth 20000 in
set_option maxHeartbeats 400000 in
theorem nil80_calls (w : World) : Calls Tryz.prog 80 #[.slice Option.none 0 0] w fun e w' => w' = w ∧ e = .returned (.slice Option.none 0 0) := by
  go_enter Tryz.func80, Tryz.ntmps80
  go_wp2
  refine wp_loop_rounds 1 ?_
  rw [rounds_succ]
  go_wp2
  go_ret
  exact ⟨rfl, rfl⟩
set_option maxRecDepth 20000 in
set_option maxHeartbeats 400000 in
theorem nil82_calls (w : World) : Calls Tryz.prog 82 #[.slice Option.none 0 0] w fun e w' => w' = w ∧ e = .returned (.slice Option.none 0 0) := by
  go_enter Tryz.func82, Tryz.ntmps82
  go_wp2
  refine wp_loop_rounds 1 ?_
  rw [rounds_succ]
  go_wp2
  go_ret
  exact ⟨rfl, rfl⟩
end Go.Proofs.YtimonhimfioohaaGreatDoor
/-! UnmarshalString of the least description. -/
namespace Go.Proofs.YtimonhimfioohaaGreatDoor
open Go Go.RowKit Go.PlainAid Kn
set_option maxHeartbeats 400000 in
theorem reset_calls (cc : Nat) (w : World) (h : w.heap[cc]? = some (.cells #[.slice Option.none 0 0, .slice Option.none 0 0] 200)) :
    Calls Tryz.prog 71 #[.pointer (some ⟨cc, 0, Option.none⟩)] w fun e w' => (Keep cc w w' ∧ w'.heap[cc]? = some (.cells #[.slice Option.none 0 0, .slice Option.none 0 0] 200)) ∧ e = .returned (.tuple #[]) := by
  have c0 : w.cell? ⟨cc, 0, Option.none⟩ = some (.slice Option.none 0 0) := (blk_cell h 0).trans rfl
  have c1 : w.cell? ⟨cc, 1, Option.none⟩ = some (.slice Option.none 0 0) := (blk_cell h 1).trans rfl
  have f0 := blk_frozen h 0
  have f1 := blk_frozen h 1
  have H := Bx.mk h
  clear h
  go_enter Tryz.func71, Tryz.ntmps71
  go_wp2
  first | go_end0 | refine bodyPost_ret (results_none rfl _ _ _) rfl ?_
  refine ⟨⟨(Keep.set _).trans (Keep.set _), ?_⟩, rfl⟩
  exact blk_set (blk_set H.out 0 _) 1 _
set_option maxHeartbeats 400000 in
theorem cloneS_calls (cc : Nat) (w : World) (h : w.heap[cc]? = some (.cells #[.slice Option.none 0 0, .slice Option.none 0 0] 200)) :
    Calls Tryz.prog 73 #[.pointer (some ⟨cc, 0, Option.none⟩)] w fun e w' => w' = w ∧ e = .returned (.slice Option.none 0 0) := by
  have c0 : w.cell? ⟨cc, 0, Option.none⟩ = some (.slice Option.none 0 0) := (blk_cell h 0).trans rfl
  clear h
  go_enter Tryz.func73, Tryz.ntmps73
  go_wp2
  go_ret
  exact ⟨rfl, rfl⟩
set_option maxHeartbeats 400000 in
theorem populate_calls (v : Value) (ds : Nat) (w : World) (h : w.cell? ⟨ds, 18, Option.none⟩ = some (.slice Option.none 0 0)) :
    Calls Tryz.prog 74 #[v, .pointer (some ⟨ds, 0, Option.none⟩)] w fun e w' => e = .returned (.tuple #[]) ∧ w' = w := by
  go_enter Tryz.func74, Tryz.ntmps74
  go_wp2
  first | go_end0 | refine bodyPost_ret (results_none rfl _ _ _) rfl ?_
  exact ⟨rfl, rfl⟩
/-! the whole -/
theorem dset1 (a0 a1 a2 a3 a4 a5 a6 a7 a8 a9 a10 a11 a12 a13 a14 a15 a16 a17 a18 v : Value) : (#[a0, a1, a2, a3, a4, a5, a6, a7, a8, a9, a10, a11, a12, a13, a14, a15, a16, a17, a18] : Array Value).setIfInBounds 1 v = #[a0, v, a2, a3, a4, a5, a6, a7, a8, a9, a10, a11, a12, a13, a14, a15, a16, a17, a18] := rfl
theorem dset2 (a0 a1 a2 a3 a4 a5 a6 a7 a8 a9 a10 a11 a12 a13 a14 a15 a16 a17 a18 v : Value) : (#[a0, a1, a2, a3, a4, a5, a6, a7, a8, a9, a10, a11, a12, a13, a14, a15, a16, a17, a18] : Array Value).setIfInBounds 2 v = #[a0, a1, v, a3, a4, a5, a6, a7, a8, a9, a10, a11, a12, a13, a14, a15, a16, a17, a18] := rfl
theorem dset3 (a0 a1 a2 a3 a4 a5 a6 a7 a8 a9 a10 a11 a12 a13 a14 a15 a16 a17 a18 v : Value) : (#[a0, a1, a2, a3, a4, a5, a6, a7, a8, a9, a10, a11, a12, a13, a14, a15, a16, a17, a18] : Array Value).setIfInBounds 3 v = #[a0, a1, a2, v, a4, a5, a6, a7, a8, a9, a10, a11, a12, a13, a14, a15, a16, a17, a18] := rfl
theorem dset4 (a0 a1 a2 a3 a4 a5 a6 a7 a8 a9 a10 a11 a12 a13 a14 a15 a16 a17 a18 v : Value) : (#[a0, a1, a2, a3, a4, a5, a6, a7, a8, a9, a10, a11, a12, a13, a14, a15, a16, a17, a18] : Array Value).setIfInBounds 4 v = #[a0, a1, a2, a3, v, a5, a6, a7, a8, a9, a10, a11, a12, a13, a14, a15, a16, a17, a18] := rfl
theorem dset5 (a0 a1 a2 a3 a4 a5 a6 a7 a8 a9 a10 a11 a12 a13 a14 a15 a16 a17 a18 v : Value) : (#[a0, a1, a2, a3, a4, a5, a6, a7, a8, a9, a10, a11, a12, a13, a14, a15, a16, a17, a18] : Array Value).setIfInBounds 5 v = #[a0, a1, a2, a3, a4, v, a6, a7, a8, a9, a10, a11, a12, a13, a14, a15, a16, a17, a18] := rfl
theorem dset6 (a0 a1 a2 a3 a4 a5 a6 a7 a8 a9 a10 a11 a12 a13 a14 a15 a16 a17 a18 v : Value) : (#[a0, a1, a2, a3, a4, a5, a6, a7, a8, a9, a10, a11, a12, a13, a14, a15, a16, a17, a18] : Array Value).setIfInBounds 6 v = #[a0, a1, a2, a3, a4, a5, v, a7, a8, a9, a10, a11, a12, a13, a14, a15, a16, a17, a18] := rfl
theorem dset7 (a0 a1 a2 a3 a4 a5 a6 a7 a8 a9 a10 a11 a12 a13 a14 a15 a16 a17 a18 v : Value) : (#[a0, a1, a2, a3, a4, a5, a6, a7, a8, a9, a10, a11, a12, a13, a14, a15, a16, a17, a18] : Array Value).setIfInBounds 7 v = #[a0, a1, a2, a3, a4, a5, a6, v, a8, a9, a10, a11, a12, a13, a14, a15, a16, a17, a18] := rfl
theorem dset14 (a0 a1 a2 a3 a4 a5 a6 a7 a8 a9 a10 a11 a12 a13 a14 a15 a16 a17 a18 v : Value) : (#[a0, a1, a2, a3, a4, a5, a6, a7, a8, a9, a10, a11, a12, a13, a14, a15, a16, a17, a18] : Array Value).setIfInBounds 14 v = #[a0, a1, a2, a3, a4, a5, a6, a7, a8, a9, a10, a11, a12, a13, v, a15, a16, a17, a18] := rfl
theorem dset17 (a0 a1 a2 a3 a4 a5 a6 a7 a8 a9 a10 a11 a12 a13 a14 a15 a16 a17 a18 v : Value) : (#[a0, a1, a2, a3, a4, a5, a6, a7, a8, a9, a10, a11, a12, a13, a14, a15, a16, a17, a18] : Array Value).setIfInBounds 17 v = #[a0, a1, a2, a3, a4, a5, a6, a7, a8, a9, a10, a11, a12, a13, a14, a15, a16, v, a18] := rfl
theorem RdT.pos {B lx ds cc : Nat} {t : ByteArray} {p q : Nat} {S : Array Value} {a : Addr} {w w1 : World} (h : RdT B lx ds cc t p S a w w1) (e : p = q) : RdT B lx ds cc t q S a w w1 := e ▸ h
theorem neqNil (w : World) : (binOp .neq 201 .nilFunc .nilFunc).run Tryz.prog w = .ok (.bool false) w := by kernel_rfl
set_option maxRecDepth 20000 in
set_option maxHeartbeats 25600000 in
theorem ustring_calls (B ds : Nat) (t : ByteArray) (av : Addr) (w : World) (ht : t = leastT) (h5 : 5 < B) (hB : B ≤ ds) (hd : w.heap[ds]? = some (.cells zDesc 148)) (he : EofC av w) :
    Calls Tryz.prog 48 #[.pointer (some ⟨ds, 0, Option.none⟩), .string t] w fun e w' => (∃ A c, Keep ds w w' ∧ w'.heap[ds]? = some (.cells (lDesc A c) 148) ∧ kTd.SV (fun b => w.heap.size ≤ b) w' (.slice A 1 c) [()]) ∧ e = .returned .nilIface := by
  have hs : t.size = 35 := by rw [ht]; exact least_size
  have HT := Bx.mk ht
  have HD := Bx.mk hd
  have HE := Bx.mk he
  clear ht hd he
  obtain ⟨lx, hlx⟩ : ∃ n, n = w.heap.size := ⟨_, rfl⟩
  have hdl : ds < lx := by rw [hlx]; exact blk_lt HD.out
  obtain ⟨cc, hcc⟩ : ∃ n, n = w.heap.size + 1 := ⟨_, rfl⟩
  have hO := Bx.mk (And.intro hlx hcc)
  go_enter Tryz.func48, Tryz.ntmps48
  go_wp2_with (fail)
  rw [← hcc, ← hlx]
  obtain ⟨W1, hW1⟩ : ∃ W, W = (w.alloc (.cells #[.pointer Option.none, .pointer (some ⟨cc, 0, Option.none⟩), .string ⟨#[]⟩, .int .i64 0] 198)).alloc (.cells #[.slice Option.none 0 0, .slice Option.none 0 0] 200) := ⟨_, rfl⟩
  have hb1 : Below w.heap.size w W1 := by rw [hW1]; exact below_alloc2 (Below.refl _ _) _ _
  have hl1 : W1.heap[lx]? = some (.cells #[.pointer Option.none, .pointer (some ⟨cc, 0, Option.none⟩), .string ⟨#[]⟩, .int .i64 0] 198) := by rw [hW1, hlx]; exact blk_alloc (heap_alloc_new w _) _
  have hc1 : W1.heap[cc]? = some (.cells #[.slice Option.none 0 0, .slice Option.none 0 0] 200) := by
    have := heap_alloc_new (w.alloc (.cells #[.pointer Option.none, .pointer (some ⟨cc, 0, Option.none⟩), .string ⟨#[]⟩, .int .i64 0] 198)) (.cells #[.slice Option.none 0 0, .slice Option.none 0 0] 200)
    rw [World.size_alloc, ← hcc] at this
    rw [hW1]
    exact this
  rw [← hW1]
  have hlc : lx ≠ cc := by omega
  have hdc : ds ≠ cc := by omega
  have HC : Bx (RdC B lx ds cc) := ⟨⟨h5, by omega, hB, by omega, by omega, hlc, hdc⟩⟩
  have hd1 := heap_below hb1 HD.out
  have he1 := cell_below hb1 HE.out
  have HB1 := Bx.mk hb1
  have hwl : w.heap.size ≤ lx := by omega
  have hwc : w.heap.size ≤ cc := by omega
  have hl5 : lx ≠ 5 := by omega
  have hc5 : cc ≠ 5 := by omega
  have hBw : B ≤ w.heap.size := by omega
  clear hW1 hb1 hlx hcc
  refine (reset_calls cc _ hc1).mono ?_
  rintro e w2 ⟨⟨hk, hc2⟩, rfl⟩
  have hl2 := (hk.block lx (blk_lt hl1) hlc).trans hl1
  have hd2 := (hk.block ds (blk_lt hd1) hdc).trans hd1
  have he2 : EofC av w2 := (show EofC av W1 from he1).keep hk (by omega)
  have hb2 : Below w.heap.size w w2 := HB1.out.trans (hk.below HB1.out.size (by omega))
  have c0 : w2.cell? ⟨lx, 0, Option.none⟩ = some (.pointer Option.none) := (blk_cell hl2 0).trans rfl
  have c2 : w2.cell? ⟨lx, 2, Option.none⟩ = some (.string ⟨#[]⟩) := (blk_cell hl2 2).trans rfl
  have f0 := blk_frozen hl2 0
  have f2 := blk_frozen hl2 2
  have HB2 := Bx.mk hb2
  have HL2 := Bx.mk hl2
  have HC2 := Bx.mk hc2
  have HD2 := Bx.mk hd2
  have HE2 := Bx.mk he2
  clear hl1 hc1 hd1 he1 HB1 hk hl2 hd2 he2 hb2 hc2 HD HE
  have hne := fun (g : Nat) (w : World) => neqFn g 201 (.inr rfl) w
  have hnn := neqNil
  go_wp2_with (fail)
  clear c0 c2 f0 f2
  have hH : RdT B lx ds cc t 0 zDesc av w ((w2.setCell ⟨lx, 0, Option.none⟩ (.pointer (some ⟨ds, 0, Option.none⟩))).setCell ⟨lx, 2, Option.none⟩ (.string t)) := by
    have hk : Keep lx w2 ((w2.setCell ⟨lx, 0, Option.none⟩ (.pointer (some ⟨ds, 0, Option.none⟩))).setCell ⟨lx, 2, Option.none⟩ (.string t)) := (Keep.set _).trans (Keep.set _)
    refine ⟨(KeepL.ofBelow HB2.out).trans (.ofKeep hk (.inl rfl)), ?_, (hk.block ds (blk_lt HD2.out) (by omega)).trans HD2.out, (hk.block cc (blk_lt HC2.out) (by omega)).trans HC2.out, HE2.out.keep hk (by omega), rfl⟩
    exact blk_set (blk_set HL2.out 0 _) 2 _
  have H0 := Bx.mk hH
  obtain ⟨W0, hW0⟩ : ∃ W, W = (w2.setCell ⟨lx, 0, Option.none⟩ (.pointer (some ⟨ds, 0, Option.none⟩))).setCell ⟨lx, 2, Option.none⟩ (.string t) := ⟨_, rfl⟩
  rw [← hW0] at H0 ⊢
  clear hW0 hH HB2 HL2 HC2 HD2 HE2 hO
  refine wp_loop_rounds 11 ?_
  rw [rounds_succ]
  go_wp2_with (fail)
  refine (s1_calls lx _ _ t 0 av _ H0.out.2.l (by omega) HC.out.l5 H0.out.2.e (by omega) (by rw [HT.out]; decide) (by rw [HT.out]; decide)).mono ?_
  rintro e w3 ⟨hL, rfl⟩
  have H1 := Bx.mk (H0.out.step HC.out hL)
  clear hL H0
  go_wp2_with (fail)
  rw [rounds_succ]
  go_wp2_with (fail)
  refine (proto_calls B lx ds cc t _ av _ HC.out HT.out H1.out.2).mono ?_
  rintro e w4 ⟨hR, rfl⟩
  have H2 := Bx.mk (show RdT B lx ds cc t _ _ av w w4 from ⟨H1.out.1.trans hR.1, hR.2⟩)
  clear hR H1
  go_wp2_with (fail)
  rw [rounds_succ]
  go_wp2_with (fail)
  refine (s2_calls lx _ _ t 5 av _ H2.out.2.l (by omega) HC.out.l5 H2.out.2.e (by omega) (by rw [HT.out]; decide) (by rw [HT.out]; decide)).mono ?_
  rintro e w5 ⟨hL, rfl⟩
  have H3 := Bx.mk (H2.out.step HC.out hL)
  clear hL H2
  go_wp2_with (fail)
  rw [rounds_succ]
  go_wp2_with (fail)
  refine (origin_calls B lx ds cc t _ av _ HC.out HT.out H3.out.2).mono ?_
  rintro e w6 ⟨hR, rfl⟩
  have H4 := Bx.mk (show RdT B lx ds cc t _ _ av w w6 from ⟨H3.out.1.trans hR.1, hR.2⟩)
  clear hR H3
  go_wp2_with (fail)
  have e1 : t.extract 7 8 = ⟨#[45]⟩ := by rw [HT.out]; decide
  have e2 : t.extract 13 15 = ⟨#[73, 78]⟩ := by rw [HT.out]; decide
  have e3 : t.extract 16 19 = ⟨#[73, 80, 52]⟩ := by rw [HT.out]; decide
  have e4 : t.extract 20 21 = ⟨#[97]⟩ := by rw [HT.out]; decide
  rw [e1, e2, e3, e4, dset1, dset2, dset3, dset4, dset5, dset6] at H4
  clear e1 e2 e3 e4
  rw [rounds_succ]
  go_wp2_with (fail)
  refine (s3_calls lx _ _ t 23 av _ H4.out.2.l (by omega) HC.out.l5 H4.out.2.e (by omega) (by rw [HT.out]; decide) (by rw [HT.out]; decide)).mono ?_
  rintro e w7 ⟨hL, rfl⟩
  have H5 := Bx.mk (H4.out.step HC.out hL)
  clear hL H4
  go_wp2_with (fail)
  rw [rounds_succ]
  go_wp2_with (fail)
  refine (name_calls B lx ds cc t _ av _ HC.out HT.out H5.out.2).mono ?_
  rintro e w8 ⟨hR, rfl⟩
  have H6 := Bx.mk (show RdT B lx ds cc t _ _ av w w8 from ⟨H5.out.1.trans hR.1, hR.2⟩)
  clear hR H5
  go_wp2_with (fail)
  have e5 : t.extract 25 26 = ⟨#[120]⟩ := by rw [HT.out]; decide
  rw [e5, dset7] at H6
  clear e5
  rw [rounds_succ]
  go_wp2_with (fail)
  refine (s4_calls lx _ _ t 28 av _ H6.out.2.l (by omega) HC.out.l5 H6.out.2.e (by omega) (by rw [HT.out]; decide) (by rw [HT.out]; decide)).mono ?_
  rintro e w9 ⟨hL, rfl⟩
  have H7 := Bx.mk (H6.out.step HC.out hL)
  clear hL H6
  go_wp2_with (fail)
  rw [rounds_succ]
  go_wp2_with (fail)
  refine (timing_calls B lx ds cc t _ av _ HC.out (Nat.le_trans hBw H7.out.1.size) HT.out H7.out.2 ((H7.out.2.cell 14).trans rfl)).mono ?_
  rintro e w10 ⟨⟨A, c, hR, hv⟩, rfl⟩
  have H8 := Bx.mk (show RdT B lx ds cc t _ _ av w w10 from ⟨H7.out.1.trans hR.1, hR.2⟩)
  rw [dset14] at H8
  have HV8 := Bx.mk (hv.mono (F' := fun b => w.heap.size ≤ b ∧ b ≠ ds ∧ b ≠ lx) (fun b hb => by have hlt := H7.out.lt; have hsz := H7.out.1.size; exact ⟨Nat.le_trans hsz hb, fun e => by have h0 : _ ≤ b := hb; omega, fun e => by have h0 : _ ≤ b := hb; omega⟩))
  clear hR H7 hv
  go_wp2_with (fail)
  rw [rounds_succ]
  go_wp2_with (fail)
  have hp := H8.out.pos hs.symm
  refine (s9_end lx _ _ t av _ hp.2.l (by omega) HC.out.l5 hp.2.e).mono ?_
  rintro e w11 ⟨hL, rfl⟩
  have H9 := Bx.mk (hp.step HC.out hL)
  have HV9 := Bx.mk (HV8.out.keep (by decide) (fun b hb => hb.2.2) hL.1)
  clear hL hp H8 HV8
  go_wp2_with (fail)
  rw [rounds_succ]
  have c1 := H9.out.2.l.c1
  go_wp2_with (fail)
  refine (cloneS_calls cc _ H9.out.2.c).mono ?_
  rintro e w' ⟨rfl, rfl⟩
  obtain ⟨v17, c17⟩ := H9.out.2.get 17 (by decide)
  have f17 := blk_frozen H9.out.2.d 17
  have H10 := Bx.mk (H9.out.put HC.out 17 (.slice Option.none 0 0))
  rw [dset17] at H10
  have HV10 := Bx.mk (HV9.out.keep (w' := w'.setCell ⟨ds, 17, Option.none⟩ (.slice Option.none 0 0)) (by decide) (fun b hb => hb.2.1) (Keep.set _))
  clear c1
  go_wp2_with (fail)
  clear c17 f17
  obtain ⟨W, hW⟩ : ∃ W, W = w'.setCell ⟨ds, 17, Option.none⟩ (.slice Option.none 0 0) := ⟨_, rfl⟩
  rw [← hW] at H10 HV10 ⊢
  clear hW
  have c0 := H10.out.2.l.c0
  have c1 := H10.out.2.l.c1
  have c18 : Bx (W.cell? ⟨ds, 18, Option.none⟩ = some (.slice Option.none 0 0)) := ⟨(H10.out.2.cell 18).trans rfl⟩
  have hp : ∀ n, Calls Tryz.prog 74 #[.pointer (some ⟨cc, 0, Option.none⟩), .pointer (some ⟨ds, 0, Option.none⟩)] (W.drewN n) fun e w' => e = .returned (.tuple #[]) ∧ w' = W.drewN n := fun n => populate_calls _ ds _ (show (W.drewN n).cell? _ = _ from c18.out)
  have HP := Bx.mk hp
  clear hp hne hnn
  go_quiet ((go_at_call 74; exact Calls.quiet_of_same (HP.out _)))
  go_wp2
  go_ret
  have hd := (H10.out.drewN nq).2.d
  exact ⟨⟨A, c, (H10.out.drewN nq).1.keep hwl hwc, hd, (HV10.out.mono (fun b hb => hb.1)).step (by decide) (below_drewN (Below.refl _ _) nq)⟩, rfl⟩
end Go.Proofs.YtimonhimfioohaaGreatDoor
