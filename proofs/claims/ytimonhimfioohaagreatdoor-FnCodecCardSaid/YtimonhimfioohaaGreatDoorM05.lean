/- Lemmas on which the proof of Rows.FnCodecCardSaid rests: no statement of the seat is proved in this file. Conditions: each lemma's own hypotheses, no others. -/
import Derived.Test.YtimonhimfioohaaGreatDoorM04
import Derived.Laws.BytesString
import Derived.Lib.AppendStr
import Derived.Test.YtimonhimfioohaaGreatDoorM03
import Derived.Test.YtimonhimfioohaaGreatDoorM02
import Derived.BigQuiet
import Derived.Lib.ParseIntB
import Derived.Shelf.Pu.ParseUintPublic10
import Derived.Shelf.Sort.Plain
import Derived.Shelf.Strings.Prefix
import Derived.Shelf.Strings.Fold
import Derived.Test.YtimonhimfioohaaGreatDoorProg
/-! sdp: Attribute.String. -/
namespace Go.Proofs.YtimonhimfioohaaGreatDoor
open Go Go.RowKit Go.PlainAid Kn
/-- Attributes whose texts are not too long. -/
def fAttW (a : Att) : Prop := a.key.size ≤ 4294967295 ∧ a.val.size ≤ 8589934591
def fAttsW (l : List Att) : Prop := l.length ≤ 2147483647 ∧ ∀ a ∈ l, fAttW a
/-- The length of an attribute's text. -/
def attLen (a : Att) : Nat := if a.val.size = 0 then a.key.size else a.key.size + 1 + a.val.size
/-- An attribute's text. -/
def attBytes (a : Att) : List UInt8 := if a.val.size = 0 then a.key.data.toList else a.key.data.toList ++ 58 :: a.val.data.toList
def attStr (a : Att) : ByteArray := ⟨(attBytes a).toArray⟩
theorem attLen_le (a : Att) (h : fAttW a) : attLen a ≤ 17179869183 := by
  obtain ⟨h1, h2⟩ := h
  unfold attLen
  split <;> omega
/-- A row of bytes of the call's own. -/
def OwnB (w : World) (B : Nat) (v : Value) (l : List UInt8) : Prop := w.ownsRow B 5 1 v l.length (l.map fun b => Value.int .u8 b.toNat)
theorem own_b_alloc {w : World} {B : Nat} {v : Value} {l : List UInt8} (h : OwnB w B v l) (o : Obj) : OwnB (w.alloc o) B v l := h.alloc o
theorem own_b_lo {w : World} {B : Nat} {v : Value} {l : List UInt8} (h : OwnB w B v l) : ∀ b, v.ownBlock = some b → B ≤ b := fun b hb => (h.lt b hb).1
theorem own_b_hi {w : World} {B : Nat} {v : Value} {l : List UInt8} (h : OwnB w B v l) : ∀ b, v.ownBlock = some b → b < w.heap.size := fun b hb => (h.lt b hb).2
theorem own_b_ne {w : World} {B : Nat} {v : Value} {l : List UInt8} {x : Nat} {cs : Array Value} {fr : Nat × Nat} (h : OwnB w B v l) (hx : w.heap[x]? = some (.cells cs 183 fr)) : v.ownBlock ≠ some x := by
  intro e
  rcases h.2 with ⟨rfl, _⟩ | ⟨g, cap, cur, rfl, hg, hh, _⟩
  · simp [Value.ownBlock] at e
  · simp [Value.ownBlock] at e
    subst e
    rw [hx] at hh
    simp at hh
theorem info5 : (Tryz.prog.info? 5).map (fun i => (i.zero, i.size, i.bytes)) = some (some (.int .u8 0), 1, 1) := by kernel_rfl
theorem own_slice {w : World} {B : Nat} {v : Value} {n : Nat} {xs : List Value} (h : w.ownsRow B 5 1 v n xs) : ∃ A c, v = .slice A n c := by
  rcases h.2 with ⟨rfl, rfl⟩ | ⟨g, cap, cur, rfl, _⟩
  · exact ⟨_, _, rfl⟩
  · exact ⟨_, _, rfl⟩
section
variable {ops : Array Oper} {rest : List Oper} {o : Oper} {a : Act} {Q : Exit → Act → World → Prop} {w : World} {B : Nat}
theorem own_b_string (hgd : o.guard = Option.none) (sl x : Operand) (ho : o.op = .call { callee := .builtin .append, args := #[sl, x], argTypes := #[97, 9] })
    (v : Value) (l : List UInt8) (hown : OwnB w B v l) (s : ByteArray) (hs : a.eval sl = v) (hx : a.eval x = .string s) (hbase : B ≤ w.heap.size) (hbytes : l.length + s.size ≤ 140737488355328)
    (h : ∀ A n c w', OwnB w' B (.slice A n c) (l ++ s.data.toList) → w.grownBy w' v.ownBlock → wpList Tryz.prog ops Q rest (a.put o.dst (.slice A n c)) w') : wpList Tryz.prog ops Q (o :: rest) a w := by
  obtain ⟨i0, hi, hzz⟩ := Option.map_eq_some_iff.1 info5
  simp only [Prod.mk.injEq] at hzz
  obtain ⟨hz0, hz1, hz2⟩ := hzz
  refine Lib.wpList_append_own_string (P := Tryz.prog) w hgd sl x 97 9 ho B 5 i0 Tryz.underlying97 Tryz.underlying9 hi hz0 hz1 hz2 v l.length _ hs hown s hx (by simp only [maxLen]; omega) hbytes hbase ?_
  intro v' w' h1 h2 _
  obtain ⟨A, c, rfl⟩ := own_slice h1
  refine h A _ c w' ?_ h2
  have e : (l ++ s.data.toList).length = l.length + s.size := by rw [List.length_append, Array.length_toList]; rfl
  unfold OwnB
  rw [e, List.map_append]
  exact h1
theorem own_b_byte (hgd : o.guard = Option.none) (sl x : Operand) (ho : o.op = .call { callee := .builtin .append, args := #[sl, x], argTypes := #[97, 97] })
    (v : Value) (l : List UInt8) (hown : OwnB w B v l) (n : Nat) (hs : a.eval sl = v) (hx : a.eval x = .slice (some ⟨n, 0, Option.none⟩) 1 1) (hn : w.heap[n]? = some (.cells #[.int .u8 58] 5 (0, 0))) (hbase : B ≤ w.heap.size) (hbytes : l.length + 1 ≤ 140737488355328)
    (h : ∀ A n c w', OwnB w' B (.slice A n c) (l ++ [58]) → w.grownBy w' v.ownBlock → wpList Tryz.prog ops Q rest (a.put o.dst (.slice A n c)) w') : wpList Tryz.prog ops Q (o :: rest) a w := by
  obtain ⟨i0, hi, hzz⟩ := Option.map_eq_some_iff.1 info5
  simp only [Prod.mk.injEq] at hzz
  obtain ⟨hz0, hz1, hz2⟩ := hzz
  refine wpList_append_own_at w hgd sl x 97 ho B 5 i0 (.int .u8 0) 1 1 Tryz.underlying97 hi hz0 hz1 hz2 rfl (by decide) v l.length _ hs hown ⟨n, 0, Option.none⟩ 1 1 [.int .u8 58] hx rfl
    (by simpa using World.news_of_block (cs := #[Value.int .u8 58]) (t := 5) (fr := (0, 0)) hn) (by intro u hu; rw [List.mem_singleton.1 hu]; rfl) (by simp only [maxLen]; omega) (by omega) (by omega) ?_
  intro v' w' h1 h2 _ _
  obtain ⟨A, c, rfl⟩ := own_slice h1
  refine h A _ c w' ?_ h2
  unfold OwnB
  rw [List.length_append, List.map_append]
  exact h1
end
/-- make([]byte, 0, n). -/
theorem make_bytes (w : World) (n : Nat) (hn : n ≤ 17179869183) : ∃ w', (Instr.makeSlice 97 (.int .i64 0) (.int .i64 n)).run Tryz.prog w = .ok (.slice (some ⟨w.heap.size, 0, Option.none⟩) 0 n) w' ∧ OwnB w' w.heap.size (.slice (some ⟨w.heap.size, 0, Option.none⟩) 0 n) [] ∧ w.grownBy w' Option.none := by
  obtain ⟨i0, hi, hzz⟩ := Option.map_eq_some_iff.1 info5
  simp only [Prod.mk.injEq] at hzz
  obtain ⟨hz0, hz1, hz2⟩ := hzz
  exact run_make_own (P := Tryz.prog) w w.heap.size 97 5 i0 (.int .u8 0) 1 Tryz.underlying97 hi hz0 hz1 .i64 .i64 n (by rw [hz2]; omega) (by simp only [maxLen]; omega) (Nat.le_refl _)
theorem push_fold : ∀ (l : List UInt8) (s : ByteArray), (l.map fun b => (b.toNat : Int)).foldl (fun r n => r.push (UInt8.ofNat n.toNat)) s = ⟨s.data ++ l.toArray⟩
  | [], s => by cases s; simp
  | b :: l, s => by
    simp only [List.map_cons, List.foldl_cons]
    rw [push_fold l]
    cases s
    simp [ByteArray.push]
/-- string(b). -/
theorem conv_bytes {w : World} {B : Nat} {A : Option Addr} {n c : Nat} {l : List UInt8} (h : OwnB w B (.slice A n c) l) : (convert 97 9 (.slice A n c)).run Tryz.prog w = .ok (.string ⟨l.toArray⟩) w := by
  rw [run_convert_bytes_string (P := Tryz.prog) w 97 9 5 A n c Tryz.underlying97 Tryz.underlying5 Tryz.underlying9]
  rcases h.2 with ⟨he, hz⟩ | ⟨g, cap, cur, he, hg, hh, hlc, hm, hcs, ht⟩
  · obtain rfl : l = [] := List.length_eq_zero_iff.1 (by simpa using hz)
    cases he
    simp [Conv.bytesToString, Sem.run_pure]
    rfl
  · cases he
    have := run_bytesToString (P := Tryz.prog) w ⟨g, 0, Option.none⟩ l.length c (l.map fun b => (b.toNat : Int)) (by
      have hc := run_loadCells_list (P := Tryz.prog) (w := w) ⟨g, 0, Option.none⟩ (l.map fun b => Value.int .u8 b.toNat) (fun j v hv => h.cells (g := g) rfl j v hv)
      rw [List.length_map] at hc
      rw [hc, List.map_map]
      rfl)
    rw [this, push_fold]
    simp
set_option maxHeartbeats 400000 in
theorem msize_calls (a : Att) (w : World) (h : fAttW a) : Calls Tryz.prog 89 #[.agg #[.string a.key, .string a.val]] w fun e w' => Below w.heap.size w w' ∧ e = .returned (.int .i64 (attLen a)) := by
  obtain ⟨h1, h2⟩ := h
  by_cases hv : a.val.size = 0
  · have e : attLen a = a.key.size := by unfold attLen; rw [if_pos hv]
    rw [e]
    have HV := Bx.mk hv
    have hd' : decide (0 < a.val.size) = false := by simp [hv]
    clear hv e
    go_enter Tryz.func89, Tryz.ntmps89
    go_wp2
    go_ret
    exact ⟨below_alloc1 (Below.refl _ _) _, rfl⟩
  · have e : (attLen a : Int) = (a.key.size : Int) + (1 + a.val.size) := by unfold attLen; rw [if_neg hv]; omega
    rw [e]
    have hd : decide (0 < a.val.size) = true := by simp; omega
    clear hv e
    go_enter Tryz.func89, Tryz.ntmps89
    go_wp2
    go_ret
    exact ⟨below_alloc1 (Below.refl _ _) _, rfl⟩
set_option maxRecDepth 20000 in
set_option maxHeartbeats 3200000 in
theorem minto_calls (a : Att) (B g c : Nat) (w : World) (h : fAttW a) (hO : OwnB w B (.slice (some ⟨g, 0, Option.none⟩) 0 c) []) (hB : B ≤ w.heap.size) :
    Calls Tryz.prog 88 #[.agg #[.string a.key, .string a.val], .slice (some ⟨g, 0, Option.none⟩) 0 c] w fun e w' => Below B w w' ∧ ∃ A n c, e = .returned (.slice A n c) ∧ OwnB w' B (.slice A n c) (attBytes a) := by
  obtain ⟨h1, h2⟩ := h
  have HO := Bx.mk (own_b_alloc hO (.cells #[.string a.key, .string a.val] 183))
  have hgb : Bx (g < w.heap.size) := ⟨own_b_hi hO g rfl⟩
  have hgl : Bx (B ≤ g) := ⟨own_b_lo hO g rfl⟩
  have hL1 : Bx (a.key.size ≤ 140737488355328) := ⟨by omega⟩
  have HB1 : Bx (B ≤ (w.alloc (.cells #[.string a.key, .string a.val] 183)).heap.size) := ⟨by simp; omega⟩
  have HW1 : Bx (Below B w (w.alloc (.cells #[.string a.key, .string a.val] 183))) := ⟨below_alloc (Below.refl _ _) hB _⟩
  have HX1 : Bx ((w.alloc (.cells #[.string a.key, .string a.val] 183)).heap[w.heap.size]? = some (.cells #[.string a.key, .string a.val] 183 (0, 0))) := ⟨heap_alloc_new _ _⟩
  clear hO
  by_cases hv : a.val.size = 0
  · have hd : decide (0 < a.val.size) = false := by simp [hv]
    have HV := Bx.mk hv
    clear hv
    go_enter Tryz.func88, Tryz.ntmps88
    go_upto_region 2 with (at_builtin; refine own_b_string rfl _ _ rfl (.slice (some ⟨g, 0, Option.none⟩) 0 c) [] HO.out a.key rfl rfl HB1.out (by simpa using hL1.out) ?_; intro A1 n1 c1 w1 HO1 hg1)
    have HO2 := Bx.mk HO1
    have HG1 := Bx.mk hg1
    have HX2 : w1.cell? ⟨w.heap.size, 1, Option.none⟩ = some (.string a.val) := by rw [blk_cell (blk_grown HX1.out hg1 (fun b hb e => by simp [Value.ownBlock] at hb; have := hgb.out; omega))]; rfl
    clear HO1 hg1
    go_wp2
    go_ret
    exact ⟨HW1.out.grown HG1.out HB1.out (fun b hb => by simp [Value.ownBlock] at hb; have := hgl.out; omega), A1, n1, c1, rfl, by unfold attBytes; rw [if_pos HV.out]; simpa using HO2.out⟩
  · have hd : decide (0 < a.val.size) = true := by simp; omega
    have HV := Bx.mk hv
    have hL2 : Bx (a.key.size + 1 ≤ 140737488355328) := ⟨by omega⟩
    have hL3 : Bx (a.key.size + 1 + a.val.size ≤ 140737488355328) := ⟨by omega⟩
    clear hv
    go_enter Tryz.func88, Tryz.ntmps88
    go_upto_region 2 with (at_builtin; refine own_b_string rfl _ _ rfl (.slice (some ⟨g, 0, Option.none⟩) 0 c) [] HO.out a.key rfl rfl HB1.out (by simpa using hL1.out) ?_; intro A1 n1 c1 w1 HO1 hg1)
    have HO2 := Bx.mk HO1
    have HX3 := blk_grown HX1.out hg1 (fun b hb e => by simp [Value.ownBlock] at hb; have := hgb.out; omega)
    have HX2 : w1.cell? ⟨w.heap.size, 1, Option.none⟩ = some (.string a.val) := by rw [blk_cell HX3]; rfl
    have HB2 : Bx (B ≤ w1.heap.size) := ⟨Nat.le_trans HB1.out hg1.size⟩
    have HW2 := Bx.mk (HW1.out.grown hg1 HB1.out (fun b hb => by simp [Value.ownBlock] at hb; have := hgl.out; omega))
    have HX4 := Bx.mk HX3
    clear HO1 hg1 HX3
    go_upto_region 3 with fail
    refine region_rule2 (by kernel_rfl) (by kernel_rfl) (by kernel_rfl) (fun f => #[.agg #[.string a.key, .string a.val], f 1, .pointer (some ⟨w.heap.size, 0, Option.none⟩), undef, .slice Option.none 0 0, .slice (some ⟨g, 0, Option.none⟩) 0 c, .pointer (some ⟨w.heap.size, 0, Option.none⟩), .string a.key, .slice A1 n1 c1, .pointer (some ⟨w.heap.size, 1, Option.none⟩), .string a.val, .int .i64 a.val.size, .bool true, f 13, f 14, f 15, f 16, f 17, f 18, undef]) (fun f => by kernel_rfl) (fun i => match i with | 3 => some (.pointer (some ⟨w.heap.size, 1, Option.none⟩)) | 4 => some (.string a.val) | _ => Option.none) (fun d f wx => wx.heap[w.heap.size]? = some (.cells #[.string a.key, .string a.val] 183 (0, 0)) ∧ Below B w wx ∧ B ≤ wx.heap.size ∧ (d 6 = false → f 1 = .slice A1 n1 c1) ∧ (d 0 = true → f 13 = .slice A1 n1 c1) ∧
        (d 2 = false → OwnB wx B (.slice A1 n1 c1) a.key.data.toList ∧ (d 1 = true → ∃ n, f 14 = .slice (some ⟨n, 0, Option.none⟩) 1 1 ∧ wx.heap[n]? = some (.cells #[.int .u8 58] 5 (0, 0)))) ∧
        (d 2 = true → d 5 = false → ∃ A n c, f 15 = .slice A n c ∧ OwnB wx B (.slice A n c) (a.key.data.toList ++ [58])) ∧
        (d 5 = true → ∃ A n c, f 18 = .slice A n c ∧ OwnB wx B (.slice A n c) (a.key.data.toList ++ 58 :: a.val.data.toList)) ∧ (d 6 = true → f 1 = f 18)) ?_ ?_ ?_
    · exact ⟨HX4.out, HW2.out.drew, HB2.out, fun _ => rfl, fun h => (by cases h), fun _ => ⟨HO2.out, fun h => (by cases h)⟩, fun h => (by cases h), fun h => (by cases h), fun h => (by cases h)⟩
    · intro i o ho d a_ wx hdi hdep hcl hfr hT hSp
      match i, ho with
        | 0, ho =>
          rw [← Array.getElem?_toList] at ho
          simp only [List.getElem?_cons_zero, Option.some.injEq] at ho
          subst ho
          have h2 : d 2 = false := not_yet hcl hdi (j := 2) (p := 0) rfl rfl rfl rfl
          have h5 : d 5 = false := not_yet hcl h2 (j := 5) (p := 0) rfl rfl rfl rfl
          have h6 : d 6 = false := not_yet hcl h5 (j := 6) (p := 0) rfl rfl rfl rfl
          obtain ⟨s1, s2, s3, s4, s5, s6, s7, s8, s9⟩ := hSp
          have e1 := (eval_tmp a_ 1).trans (s4 h6)
          clear hdep hfr hT hcl
          refine op_val rfl rfl (.slice A1 n1 c1) (fun K' hK => ?_) ⟨_, rfl, fun u hu => (by cases hu), s1, s2, s3, fun _ => ?_, fun _ => rfl, fun _ => ⟨(s6 h2).1, fun h => ?_⟩, fun h => absurd (h.symm.trans h2) (by decide), fun h => absurd (h.symm.trans h5) (by decide), fun h => absurd (h.symm.trans h6) (by decide)⟩
          · clear s1 s2 s3 s4 s5 s6 s7 s8 s9
            go_simp
            exact hK
          · simpa [upd_if] using s4 h6
          · simpa [upd_if] using (s6 h2).2 h
        | 1, ho =>
          rw [← Array.getElem?_toList] at ho
          simp only [List.getElem?_cons_zero, List.getElem?_cons_succ, Option.some.injEq] at ho
          subst ho
          have h2 : d 2 = false := not_yet hcl hdi (j := 2) (p := 1) rfl rfl rfl rfl
          have h5 : d 5 = false := not_yet hcl h2 (j := 5) (p := 0) rfl rfl rfl rfl
          have h6 : d 6 = false := not_yet hcl h5 (j := 6) (p := 0) rfl rfl rfl rfl
          obtain ⟨s1, s2, s3, s4, s5, s6, s7, s8, s9⟩ := hSp
          clear hdep hfr hT hcl
          refine op_gen rfl rfl (fun v w' => v = .slice (some ⟨wx.heap.size, 0, Option.none⟩) 1 1 ∧ w' = wx.alloc (.cells #[.int .u8 58] 5)) (fun K' hK => ?_) (fun v w' hG => ⟨_, rfl, fun u hu => (by cases hu), ?_⟩)
          · clear s1 s2 s3 s4 s5 s6 s7 s8 s9
            go_simp
            exact hK _ _ ⟨rfl, rfl⟩
          · obtain ⟨rfl, rfl⟩ := hG
            refine ⟨blk_alloc s1 _, below_alloc s2 s3 _, by simp; omega, fun _ => by simpa [upd_if] using s4 h6, fun h => by simpa [upd_if] using s5 h, fun _ => ⟨own_b_alloc (s6 h2).1 _, fun _ => ⟨wx.heap.size, by simp [upd_if], heap_alloc_new _ _⟩⟩, fun h => absurd (h.symm.trans h2) (by decide), fun h => absurd (h.symm.trans h5) (by decide), fun h => absurd (h.symm.trans h6) (by decide)⟩
        | 2, ho =>
          rw [← Array.getElem?_toList] at ho
          simp only [List.getElem?_cons_zero, List.getElem?_cons_succ, Option.some.injEq] at ho
          subst ho
          have h5 : d 5 = false := not_yet hcl hdi (j := 5) (p := 0) rfl rfl rfl rfl
          have h6 : d 6 = false := not_yet hcl hdi (j := 6) (p := 4) rfl rfl rfl rfl
          have h0 : d 0 = true := (hdep _ (Array.mem_of_getElem? (i := 0) rfl) rfl)
          have h1 : d 1 = true := (hdep _ (Array.mem_of_getElem? (i := 1) rfl) rfl)
          obtain ⟨s1, s2, s3, s4, s5, s6, s7, s8, s9⟩ := hSp
          obtain ⟨s6a, s6b⟩ := s6 hdi
          obtain ⟨n, q14, hn⟩ := s6b h1
          have q13 := s5 h0
          clear hdep hfr hT hcl
          refine op_gen rfl rfl (fun v w' => (∃ A n c, v = .slice A n c ∧ OwnB w' B (.slice A n c) (a.key.data.toList ++ [58])) ∧ wx.grownBy w' (Value.slice A1 n1 c1).ownBlock) (fun K' hK => ?_) (fun v w' hG => ⟨_, rfl, fun u hu => (by cases hu), ?_⟩)
          · refine oper_of_list (ops := #[]) rfl (fun Q' hQ' => own_b_byte rfl _ _ rfl (.slice A1 n1 c1) _ s6a n q13 q14 hn s3 (by simpa using hL2.out) (fun A n c w' h1 h2 => wpList_nil (hQ' _ _ (hK _ _ ⟨⟨A, n, c, rfl, h1⟩, h2⟩))))
          · obtain ⟨⟨A, n', c, rfl, hO⟩, hg⟩ := hG
            refine ⟨blk_grown s1 hg (fun b hb e => own_b_ne s6a s1 (by rw [hb, e])), s2.grown hg s3 (fun b hb => own_b_lo s6a b hb), Nat.le_trans s3 hg.size, fun _ => by simpa [upd_if] using s4 h6, fun h => by simpa [upd_if] using s5 h0, fun h => absurd h (by simp), fun _ _ => ⟨A, n', c, by simp [upd_if], hO⟩, fun h => absurd (h.symm.trans h5) (by decide), fun h => absurd (h.symm.trans h6) (by decide)⟩
        | 3, ho =>
          rw [← Array.getElem?_toList] at ho
          simp only [List.getElem?_cons_zero, List.getElem?_cons_succ, Option.some.injEq] at ho
          subst ho
          have e2 : a_.tmps[2]?.getD undef = .pointer (some ⟨w.heap.size, 0, Option.none⟩) := (eval_tmp a_ 2).trans (hfr 2 (by decide +kernel))
          have h4 : d 4 = false := not_yet hcl hdi (j := 4) (p := 0) rfl rfl rfl rfl
          have h5 : d 5 = false := not_yet hcl h4 (j := 5) (p := 1) rfl rfl rfl rfl
          have h6 : d 6 = false := not_yet hcl h5 (j := 6) (p := 0) rfl rfl rfl rfl
          obtain ⟨s1, s2, s3, s4, s5, s6, s7, s8, s9⟩ := hSp
          clear hdep hfr hT hcl
          refine op_val rfl rfl (.pointer (some ⟨w.heap.size, 1, Option.none⟩)) (fun K' hK => ?_) ⟨_, rfl, fun u hu => (by cases hu; rfl), s1, s2, s3, fun _ => by simpa [upd_if] using s4 h6, fun h => by simpa [upd_if] using s5 h, fun h => ⟨(s6 h).1, fun h1 => by simpa [upd_if] using (s6 h).2 h1⟩, fun h h' => by simpa [upd_if] using s7 h h5, fun h => absurd (h.symm.trans h5) (by decide), fun h => absurd (h.symm.trans h6) (by decide)⟩
          clear s1 s2 s3 s4 s5 s6 s7 s8 s9
          go_simp
          exact hK
        | 4, ho =>
          rw [← Array.getElem?_toList] at ho
          simp only [List.getElem?_cons_zero, List.getElem?_cons_succ, Option.some.injEq] at ho
          subst ho
          have h5 : d 5 = false := not_yet hcl hdi (j := 5) (p := 1) rfl rfl rfl rfl
          have h6 : d 6 = false := not_yet hcl h5 (j := 6) (p := 0) rfl rfl rfl rfl
          have e16 := (eval_tmp a_ 16).trans (hT 3 _ 16 _ rfl rfl rfl (hdep _ (Array.mem_of_getElem? (i := 0) rfl) rfl))
          obtain ⟨s1, s2, s3, s4, s5, s6, s7, s8, s9⟩ := hSp
          have c0 : wx.cell? ⟨w.heap.size, 1, Option.none⟩ = some (.string a.val) := by rw [blk_cell s1]; rfl
          clear hdep hfr hT hcl
          refine op_val rfl rfl (.string a.val) (fun K' hK => ?_) ⟨_, rfl, fun u hu => (by cases hu; rfl), s1, s2, s3, fun _ => by simpa [upd_if] using s4 h6, fun h => by simpa [upd_if] using s5 h, fun h => ⟨(s6 h).1, fun h1 => by simpa [upd_if] using (s6 h).2 h1⟩, fun h h' => by simpa [upd_if] using s7 h h5, fun h => absurd (h.symm.trans h5) (by decide), fun h => absurd (h.symm.trans h6) (by decide)⟩
          clear s1 s2 s3 s4 s5 s6 s7 s8 s9
          go_simp
          exact hK
        | 5, ho =>
          rw [← Array.getElem?_toList] at ho
          simp only [List.getElem?_cons_zero, List.getElem?_cons_succ, Option.some.injEq] at ho
          subst ho
          have h6 : d 6 = false := not_yet hcl hdi (j := 6) (p := 0) rfl rfl rfl rfl
          have h2 : d 2 = true := (hdep _ (Array.mem_of_getElem? (i := 0) rfl) rfl)
          have e17 := (hT 4 _ 17 _ rfl rfl rfl (hdep _ (Array.mem_of_getElem? (i := 1) rfl) rfl))
          obtain ⟨s1, s2, s3, s4, s5, s6, s7, s8, s9⟩ := hSp
          obtain ⟨A, n, c, q15, hO⟩ := s7 h2 hdi
          clear hdep hfr hT hcl
          refine op_gen rfl rfl (fun v w' => (∃ A n c, v = .slice A n c ∧ OwnB w' B (.slice A n c) (a.key.data.toList ++ 58 :: a.val.data.toList)) ∧ wx.grownBy w' (Value.slice A n c).ownBlock) (fun K' hK => ?_) (fun v w' hG => ⟨_, rfl, fun u hu => (by cases hu), ?_⟩)
          · refine oper_of_list (ops := #[]) rfl (fun Q' hQ' => own_b_string rfl _ _ rfl (.slice A n c) _ hO a.val q15 e17 s3 (by simpa using hL3.out) (fun A n c w' h1 h2 => wpList_nil (hQ' _ _ (hK _ _ ⟨⟨A, n, c, rfl, by simpa using h1⟩, h2⟩))))
          · obtain ⟨⟨A', n', c', rfl, hO'⟩, hg⟩ := hG
            refine ⟨blk_grown s1 hg (fun b hb e => own_b_ne hO s1 (by rw [hb, e])), s2.grown hg s3 (fun b hb => own_b_lo hO b hb), Nat.le_trans s3 hg.size, fun _ => by simpa [upd_if] using s4 h6, fun h => by simpa [upd_if] using s5 h, fun h => absurd (h.symm.trans h2) (by decide), fun _ h => absurd h (by simp), fun _ => ⟨A', n', c', by simp [upd_if], hO'⟩, fun h => absurd (h.symm.trans h6) (by decide)⟩
        | 6, ho =>
          rw [← Array.getElem?_toList] at ho
          simp only [List.getElem?_cons_zero, List.getElem?_cons_succ, Option.some.injEq] at ho
          subst ho
          have h5 : d 5 = true := (hdep _ (Array.mem_of_getElem? (i := 0) rfl) rfl)
          have h2 : d 2 = true := (hdep _ (Array.mem_of_getElem? (i := 4) rfl) rfl)
          obtain ⟨s1, s2, s3, s4, s5, s6, s7, s8, s9⟩ := hSp
          obtain ⟨A, n, c, q18, hO⟩ := s8 h5
          have e18 := (eval_tmp a_ 18).trans q18
          clear hdep hfr hT hcl
          refine op_val rfl rfl (.slice A n c) (fun K' hK => ?_) ⟨_, rfl, fun u hu => (by cases hu), s1, s2, s3, fun h => absurd h (by simp), fun h => by simpa [upd_if] using s5 h, fun h => absurd (h.symm.trans h2) (by decide), fun _ h => absurd (h.symm.trans h5) (by decide), fun _ => ⟨A, n, c, by simpa [upd_if] using q18, hO⟩, fun _ => by simpa [upd_if] using q18.symm⟩
          clear s1 s2 s3 s4 s5 s6 s7 s8 s9
          go_simp
          exact hK
        | n + 7, ho => cases ho
    · intro d f wx hall hT hSp
      obtain ⟨s1, s2, s3, s4, s5, s6, s7, s8, s9⟩ := hSp
      obtain ⟨A, n, c', q18, hO⟩ := s8 (hall 5 (by decide))
      have q1 := s9 (hall 6 (by decide))
      rw [q18] at q1
      have HBW := Bx.mk s2
      have HOF := Bx.mk hO
      clear hT hall s1 s2 s3 s4 s5 s6 s7 s8 s9 q18 hO
      dsimp only
      rw [q1]
      go_wp2
      go_ret
      exact ⟨HBW.out, A, n, c', rfl, by unfold attBytes; rw [if_neg HV.out]; exact HOF.out⟩
set_option maxRecDepth 20000 in
set_option maxHeartbeats 1600000 in
theorem sfm_calls (a : Att) (w : World) (h : fAttW a) : Calls Tryz.prog 87 #[.func (.func 88) #[.agg #[.string a.key, .string a.val]] #[], .func (.func 89) #[.agg #[.string a.key, .string a.val]] #[]] w fun e w' => Below w.heap.size w w' ∧ e = .returned (.string (attStr a)) := by
  have hl := attLen_le a h
  go_enter Tryz.func87, Tryz.ntmps87
  go_wp2_with (fail)
  refine (msize_calls a _ h).mono ?_
  rintro e w1 ⟨hb, rfl⟩
  obtain ⟨w2, hr, ho, hg⟩ := make_bytes w1 (attLen a) hl
  have HB := Bx.mk hb
  have HO := Bx.mk ho
  have HG := Bx.mk hg
  have HL := Bx.mk hl
  clear hb ho hg hl
  go_wp2_with (fail)
  refine (minto_calls a w1.heap.size w1.heap.size _ w2 h HO.out HG.out.size).mono ?_
  rintro e w3 ⟨hb3, A, n, c, rfl, hO3⟩
  have hcv := conv_bytes hO3
  have HB3 := Bx.mk (HB.out.trans ((Below.grown (Below.refl _ _) HG.out (Nat.le_refl _) (fun b hb => by cases hb)).trans hb3 |>.mono HB.out.size))
  clear hb3 hO3
  go_wp2
  go_ret
  exact ⟨HB3.out, rfl⟩
set_option maxHeartbeats 400000 in
theorem attstr_calls (a : Att) (w : World) (h : fAttW a) : Calls Tryz.prog 61 #[.agg #[.string a.key, .string a.val]] w fun e w' => Below w.heap.size w w' ∧ e = .returned (.string (attStr a)) := by
  go_enter Tryz.func61, Tryz.ntmps61
  go_wp2_with (fail)
  refine (sfm_calls a _ h).mono ?_
  rintro e w' ⟨hb, rfl⟩
  have HB := Bx.mk (below_trans (below_alloc1 (Below.refl w.heap.size w) (.cells #[.string a.key, .string a.val] 183)) hb)
  clear hb
  go_wp2
  go_ret
  exact ⟨HB.out, rfl⟩
end Go.Proofs.YtimonhimfioohaaGreatDoor
/-! laws.lines, spec.Decimal, spec.Static. -/
namespace Go.Proofs.YtimonhimfioohaaGreatDoor
open Go Go.RowKit Go.PlainAid Kn
theorem below_drewN {B : Nat} {a w : World} (h : Below B a w) (n : Nat) : Below B a (w.drewN n) := ⟨h.os, h.tape, h.output, h.size, h.block⟩
set_option maxHeartbeats 800000 in
theorem lines_true (va vb : Value) (l : List ByteArray) (F : Nat → Prop) (w : World) (ha : Kn.string.SV F w va l) (hb : Kn.string.SV F w vb l) : Calls Tryz.prog 15 #[va, vb] w (fun e w' => Below w.heap.size w w' ∧ e = .returned (.bool true)) := by
  obtain ⟨A, c, rfl, hl, hr⟩ := ha
  obtain ⟨B, d, rfl, hl2, hr2⟩ := hb
  have hm := hr.1
  have HR := Bx.mk hr
  have HR2 := Bx.mk hr2
  clear hr hr2
  go_enter Tryz.func15, Tryz.ntmps15
  go_wp2
  go_loopw [13] (fun i wr => ∃ k : Nat, k ≤ l.length ∧ i = .int .i64 k ∧ Bx (Below w.heap.size w wr)) (fun i _ => l.length - (intOf i).toNat)
  case atStart => exact ⟨0, Nat.zero_le _, rfl, ⟨Below.refl _ _⟩⟩
  case round =>
    obtain ⟨k, hk, rfl, hB⟩ := hrel
    by_cases hlt : k < l.length
    · obtain ⟨ad, rfl, hc⟩ := str_get HR.out k hlt
      obtain ⟨ad2, rfl, hc2⟩ := str_get HR2.out k hlt
      replace hc := cell_below hB.out hc
      replace hc2 := cell_below hB.out hc2
      go_wp2
      go_quiet (fail)
      go_wp2
      go_roundw
      case rel => exact ⟨k + 1, by omega, by go_num, ⟨below_drewN hB.out _⟩⟩
      case measure => simp [intOf]; omega
    · go_wp2
      go_ret
      exact ⟨hB.out, rfl⟩
def dec (n : Nat) : List UInt8 := if n < 10 then [UInt8.ofNat (48 + n)] else dec (n / 10) ++ [UInt8.ofNat (48 + n % 10)]
  termination_by n
theorem dec_lt {n : Nat} (h : n < 10) : dec n = [UInt8.ofNat (48 + n)] := by rw [dec, if_pos h]
theorem dec_ge {n : Nat} (h : ¬ n < 10) : dec n = dec (n / 10) ++ dec (n % 10) := by rw [dec, if_neg h, dec_lt (Nat.mod_lt _ (by decide))]
theorem dec_len (n : Nat) : (dec n).length ≤ n + 1 := by
  induction n using Nat.strongRecOn with
  | _ n ih =>
    by_cases h : n < 10
    · rw [dec_lt h]; simp
    · rw [dec_ge h, List.length_append, dec_lt (Nat.mod_lt n (by decide))]
      have := ih (n / 10) (by omega)
      simp only [List.length_singleton]
      omega
theorem und97 : Tryz.prog.underlying 97 = some (.slice 5) := by kernel_rfl
theorem und5 : Tryz.prog.underlying 5 = some (.int .u8) := by kernel_rfl
theorem und9 : Tryz.prog.underlying 9 = some .string := by kernel_rfl
theorem conv_one (w : World) (z : Int) : (convert 97 9 (.slice (some ⟨w.heap.size, 0, Option.none⟩) 1 1)).run Tryz.prog (w.alloc (.cells #[.int .u8 z] 5)) = .ok (.string ⟨#[UInt8.ofNat z.toNat]⟩) (w.alloc (.cells #[.int .u8 z] 5)) := by
  rw [run_convert_bytes_string _ 97 9 5 _ 1 1 und97 und5 und9]
  rw [run_bytesToString _ _ 1 1 [z]]
  · rfl
  · have := run_loadCells_list (P := Tryz.prog) (w.alloc (.cells #[.int .u8 z] 5)) ⟨w.heap.size, 0, Option.none⟩ [.int .u8 z] (cell_one_new _ _ _)
    simpa using this
set_option maxRecDepth 20000 in
set_option maxHeartbeats 800000 in
theorem decimal_calls (n : Nat) (hn : n < 18446744073709551616) : ∀ w, Calls Tryz.prog 13 #[.int .u64 n] w (fun e w' => Below w.heap.size w w' ∧ e = .returned (.string ⟨(dec n).toArray⟩)) := by
  induction n using Nat.strongRecOn with
  | _ n ih =>
    intro w
    by_cases h : n < 10
    · have h10 : n = 0 ∨ n = 1 ∨ n = 2 ∨ n = 3 ∨ n = 4 ∨ n = 5 ∨ n = 6 ∨ n = 7 ∨ n = 8 ∨ n = 9 := by omega
      rw [dec_lt h]
      clear ih hn
      rcases h10 with rfl | rfl | rfl | rfl | rfl | rfl | rfl | rfl | rfl | rfl
      all_goals
        clear h
        have hcv := conv_one w
        go_enter Tryz.func13, Tryz.ntmps13
        go_wp2
        go_ret
        exact ⟨below_alloc1 (Below.refl _ _) _, rfl⟩
    · have e1 : ((n : Int) / 10) = ((n / 10 : Nat) : Int) := by omega
      have e2 : ((n : Int) % 10) = ((n % 10 : Nat) : Int) := by omega
      have IH := Bx.mk ih
      have E1 := Bx.mk e1
      have E2 := Bx.mk e2
      have D := Bx.mk (dec_ge h)
      clear ih e1 e2
      go_enter Tryz.func13, Tryz.ntmps13
      have hl1 := dec_len (n / 10)
      have hl2 := dec_len (n % 10)
      go_wp2_with (fail)
      rw [E1.out]
      refine (IH.out (n / 10) (by omega) (by omega) w).mono ?_
      rintro e w1 ⟨hb1, rfl⟩
      have HB1 := Bx.mk hb1
      clear hb1
      go_wp2_with (fail)
      rw [E2.out]
      refine (IH.out (n % 10) (by omega) (by omega) w1).mono ?_
      rintro e w2 ⟨hb2, rfl⟩
      have HB2 := Bx.mk hb2
      clear hb2
      have hsz : ¬ 9223372036854775807 < (dec (n / 10)).length + (dec (n % 10)).length := by omega
      go_wp2
      go_ret
      refine ⟨below_trans HB1.out HB2.out, ?_⟩
      rw [D.out]
      congr 2
end Go.Proofs.YtimonhimfioohaaGreatDoor
/-! Plain laws: texts as lists of bytes, splits of them, decimals read back. -/
namespace Go.Proofs.YtimonhimfioohaaGreatDoor
open Go Go.RowKit Go.PlainAid Kn
/-- The text of some bytes. -/
def B (l : List UInt8) : ByteArray := ⟨l.toArray⟩
theorem B_size (l : List UInt8) : (B l).size = l.length := by simp [B, ByteArray.size]
theorem B_get (l : List UInt8) (j : Nat) (h : j < (B l).size) : (B l)[j] = l[j]'(by rw [B_size] at h; exact h) := by
  simp [B, ByteArray.getElem_eq_getElem_data]
theorem B_data (s : ByteArray) : B s.data.toList = s := rfl
theorem B_eq {a b : List UInt8} (h : B a = B b) : a = b := by
  have := congrArg (fun s : ByteArray => s.data.toList) h
  simpa [B] using this
theorem B_take (a b : List UInt8) : (B (a ++ b)).extract 0 a.length = B a := by
  have : ((B (a ++ b)).extract 0 a.length).data = (B a).data := by
    rw [ByteArray.data_extract]
    simp [B]
  cases h : (B (a ++ b)).extract 0 a.length with
  | mk d => rw [h] at this; cases h2 : B a with | mk d2 => rw [h2] at this; simp only at this; rw [this]
theorem B_drop (a b : List UInt8) : (B (a ++ b)).extract a.length (B (a ++ b)).size = B b := by
  have : ((B (a ++ b)).extract a.length (B (a ++ b)).size).data = (B b).data := by
    rw [ByteArray.data_extract, B_size]
    simp [B]
  cases h : (B (a ++ b)).extract a.length (B (a ++ b)).size with
  | mk d => rw [h] at this; cases h2 : B b with | mk d2 => rw [h2] at this; simp only at this; rw [this]
theorem spl_last {c : UInt8} {l : List UInt8} (h : ∀ b ∈ l, b ≠ c) : Spl c (B l) [B l] := .last _ fun j hj => by
  rw [B_get]
  exact h _ (List.getElem_mem _)
theorem at_sep {c : UInt8} {a b : List UInt8} : ∃ h : a.length < (B (a ++ c :: b)).size, (B (a ++ c :: b))[a.length] = c := by
  have h : a.length < (B (a ++ c :: b)).size := by rw [B_size]; simp
  exact ⟨h, by rw [B_get]; simp⟩
theorem before_sep {c : UInt8} {a b : List UInt8} (h : ∀ x ∈ a, x ≠ c) : ∀ j, (hj : j < a.length) → (B (a ++ c :: b))[j]'(by rw [B_size]; simp; omega) ≠ c := fun j hj => by
  rw [B_get, List.getElem_append_left hj]
  exact h _ (List.getElem_mem _)
theorem tail_sep {c : UInt8} (a b : List UInt8) : (B (a ++ c :: b)).extract (a.length + 1) (B (a ++ c :: b)).size = B b := by
  have h := B_drop (a ++ [c]) b
  simpa using h
theorem spl_more {c : UInt8} {a b : List UInt8} {ps : List ByteArray} (h : ∀ x ∈ a, x ≠ c) (hb : Spl c (B b) ps) : Spl c (B (a ++ c :: b)) (B a :: ps) := by
  obtain ⟨h1, h2⟩ := @at_sep c a b
  have := Spl.more (c := c) (B (a ++ c :: b)) a.length h1 h2 (before_sep h) (ps := ps) (by rw [tail_sep]; exact hb)
  rwa [B_take] at this
theorem dec_digits (n : Nat) : ∀ b ∈ dec n, 48 ≤ b.toNat ∧ b.toNat ≤ 57 := by
  induction n using Nat.strongRecOn with
  | _ n ih =>
    have one : ∀ m, m < 10 → ∀ b ∈ dec m, 48 ≤ b.toNat ∧ b.toNat ≤ 57 := fun m hm b hb => by
      rw [dec_lt hm, List.mem_singleton] at hb
      subst hb
      simp
      omega
    by_cases h : n < 10
    · exact one n h
    · rw [dec_ge h]
      intro b hb
      rcases List.mem_append.1 hb with hb | hb
      · exact ih (n / 10) (by omega) b hb
      · exact one _ (Nat.mod_lt _ (by decide)) b hb
theorem dec_ne (n : Nat) : dec n ≠ [] := by
  by_cases h : n < 10
  · rw [dec_lt h]; simp
  · rw [dec_ge h, dec_lt (Nat.mod_lt _ (by decide))]; simp
theorem dec_no {c : UInt8} (hc : c.toNat < 48 ∨ 57 < c.toNat) (n : Nat) : ∀ b ∈ dec n, b ≠ c := fun b hb e => by
  have := dec_digits n b hb
  subst e
  omega
theorem parse_digit (M acc d : Nat) (hd : d < 10) (hM : M ≤ 1844674407370955161) (h : acc * 10 + d ≤ M) (r : List UInt8) : Lib.parseUintM M acc (dec d ++ r) = Lib.parseUintM M (acc * 10 + d) r := by
  rw [dec_lt hd, List.singleton_append, Lib.parseUintM]
  have e : (UInt8.ofNat (48 + d)).toNat = 48 + d := by simp; omega
  rw [e, if_pos (by omega), if_neg (by omega), if_neg (by omega)]
  congr 1
  omega
theorem parse_dec (M n : Nat) (hM : M ≤ 1844674407370955161) (h : n ≤ M) : ∀ r, Lib.parseUintM M 0 (dec n ++ r) = Lib.parseUintM M n r := by
  induction n using Nat.strongRecOn with
  | _ n ih =>
    intro r
    by_cases hn : n < 10
    · have := parse_digit M 0 n hn hM (by omega) r
      simpa using this
    · rw [dec_ge hn, List.append_assoc, ih (n / 10) (by omega) (by omega), parse_digit M (n / 10) (n % 10) (Nat.mod_lt _ (by decide)) hM (by omega)]
      congr 1
      omega
theorem parse8 (n : Nat) (h : n ≤ 255) : Lib.parseUintB 8 (dec n) = .ok n := by
  unfold Lib.parseUintB
  rw [if_neg (dec_ne n)]
  have := parse_dec (2 ^ 8 - 1) n (by decide) (by omega) []
  rw [List.append_nil] at this
  rw [this]
  rfl
theorem parse32 (n : Nat) (h : n ≤ 4294967295) : Lib.parseUintB 32 (dec n) = .ok n := by
  unfold Lib.parseUintB
  rw [if_neg (dec_ne n)]
  have := parse_dec (2 ^ 32 - 1) n (by decide) (by omega) []
  rw [List.append_nil] at this
  rw [this]
  rfl
end Go.Proofs.YtimonhimfioohaaGreatDoor
/-! Contracts of library functions at this program's numbers: ParseUint, Strings (sort), HasPrefix, EqualFold. Printed by the kit's lay-shelf.mjs and lay-plain.mjs; what is not used is left out. -/
namespace Go.Proofs
open Go.Shelf
def Tryz.laysPu14_ren : Go.Shelf.Ren := ⟨fun | 14 => 92 | 16 => 107 | 17 => 108 | 19 => 123 | 20 => 124 | 21 => 125 | 22 => 126 | 23 => 127 | 24 => 128 | 25 => 143 | 27 => 145 | 26 => 144 | 28 => 166 | 29 => 178 | 30 => 182 | 31 => 183 | 32 => 184 | 33 => 185 | 35 => 161 | 34 => 194 | 36 => 195 | 37 => 196 | 38 => 197 | 39 => 207 | 40 => 208 | n => n, fun | 9 => 9 | 3 => 3 | 22 => 22 | 24 => 103 | 25 => 229 | 4 => 4 | 34 => 264 | 5 => 5 | 36 => 254 | 37 => 97 | 0 => 0 | 39 => 266 | 21 => 21 | 44 => 290 | 47 => 324 | 50 => 327 | 48 => 325 | 2 => 2 | 52 => 339 | 55 => 341 | 59 => 345 | 60 => 55 | 20 => 20 | 61 => 346 | 65 => 356 | 66 => 357 | 67 => 184 | n => n, fun | 0 => 14 | 1 => 15 | 2 => 18 | 3 => 20 | 4 => 21 | n => n⟩
theorem Tryz.laysPu14 : Go.Proofs.LaysPu.n14 Tryz.prog Tryz.laysPu14_ren := {
  mixed := by kernel_rfl
  f14 := Tryz.func92.trans (congrArg some (by kernel_rfl))
  f16 := Tryz.func107.trans (congrArg some (by kernel_rfl))
  f17 := Tryz.func108.trans (congrArg some (by kernel_rfl))
  f19 := Tryz.func123.trans (congrArg some (by kernel_rfl))
  f20 := Tryz.func124.trans (congrArg some (by kernel_rfl))
  f21 := Tryz.func125.trans (congrArg some (by kernel_rfl))
  f22 := Tryz.func126.trans (congrArg some (by kernel_rfl))
  f23 := Tryz.func127.trans (congrArg some (by kernel_rfl))
  f24 := Tryz.func128.trans (congrArg some (by kernel_rfl))
  f25 := Tryz.func143.trans (congrArg some (by kernel_rfl))
  f26 := Tryz.func144.trans (congrArg some (by kernel_rfl))
  f27 := Tryz.func145.trans (congrArg some (by kernel_rfl))
  f28 := Tryz.func166.trans (congrArg some (by kernel_rfl))
  f29 := Tryz.func178.trans (congrArg some (by kernel_rfl))
  f30 := Tryz.func182.trans (congrArg some (by kernel_rfl))
  f31 := Tryz.func183.trans (congrArg some (by kernel_rfl))
  f32 := Tryz.func184.trans (congrArg some (by kernel_rfl))
  f33 := Tryz.func185.trans (congrArg some (by kernel_rfl))
  f34 := Tryz.func194.trans (congrArg some (by kernel_rfl))
  f35 := Tryz.func161.trans (congrArg some (by kernel_rfl))
  f36 := Tryz.func195.trans (congrArg some (by kernel_rfl))
  f37 := Tryz.func196.trans (congrArg some (by kernel_rfl))
  f38 := Tryz.func197.trans (congrArg some (by kernel_rfl))
  f39 := Tryz.func207.trans (congrArg some (by kernel_rfl))
  f40 := Tryz.func208.trans (congrArg some (by kernel_rfl))
  t0 := Tryz.underlying0
  a0 := Tryz.isAgg0
  z0 := Tryz.sizeOf0
  v0 := Tryz.zeroValue0
  i0 := by kernel_rfl
  t2 := Tryz.underlying2
  a2 := Tryz.isAgg2
  z2 := Tryz.sizeOf2
  v2 := Tryz.zeroValue2
  i2 := by kernel_rfl
  t3 := Tryz.underlying3
  a3 := Tryz.isAgg3
  z3 := Tryz.sizeOf3
  v3 := Tryz.zeroValue3
  i3 := by kernel_rfl
  t4 := Tryz.underlying4
  a4 := Tryz.isAgg4
  z4 := Tryz.sizeOf4
  v4 := Tryz.zeroValue4
  i4 := by kernel_rfl
  t5 := Tryz.underlying5
  a5 := Tryz.isAgg5
  z5 := Tryz.sizeOf5
  v5 := Tryz.zeroValue5
  i5 := by kernel_rfl
  t9 := Tryz.underlying9
  a9 := Tryz.isAgg9
  z9 := Tryz.sizeOf9
  v9 := Tryz.zeroValue9
  i9 := by kernel_rfl
  t20 := Tryz.underlying20
  a20 := Tryz.isAgg20
  z20 := Tryz.sizeOf20
  v20 := Tryz.zeroValue20
  i20 := by kernel_rfl
  t21 := Tryz.underlying21
  a21 := Tryz.isAgg21
  z21 := Tryz.sizeOf21
  v21 := Tryz.zeroValue21
  i21 := by kernel_rfl
  t22 := Tryz.underlying22
  a22 := Tryz.isAgg22
  z22 := Tryz.sizeOf22
  v22 := Tryz.zeroValue22
  i22 := by kernel_rfl
  t24 := Tryz.underlying103
  a24 := Tryz.isAgg103
  z24 := Tryz.sizeOf103
  v24 := Tryz.zeroValue103
  i24 := by kernel_rfl
  t25 := Tryz.underlying229
  a25 := Tryz.isAgg229
  z25 := Tryz.sizeOf229
  v25 := Tryz.zeroValue229
  i25 := by kernel_rfl
  t34 := Tryz.underlying264
  a34 := Tryz.isAgg264
  z34 := Tryz.sizeOf264
  v34 := Tryz.zeroValue264
  i34 := by kernel_rfl
  c34 := by kernel_rfl
  t36 := Tryz.underlying254
  a36 := Tryz.isAgg254
  z36 := Tryz.sizeOf254
  v36 := Tryz.zeroValue254
  i36 := by kernel_rfl
  t37 := Tryz.underlying97
  a37 := Tryz.isAgg97
  z37 := Tryz.sizeOf97
  v37 := Tryz.zeroValue97
  i37 := by kernel_rfl
  t39 := Tryz.underlying266
  a39 := Tryz.isAgg266
  z39 := Tryz.sizeOf266
  v39 := Tryz.zeroValue266
  i39 := by kernel_rfl
  t44 := Tryz.underlying290
  a44 := Tryz.isAgg290
  z44 := Tryz.sizeOf290
  v44 := Tryz.zeroValue290
  i44 := by kernel_rfl
  t47 := Tryz.underlying324
  a47 := Tryz.isAgg324
  z47 := Tryz.sizeOf324
  v47 := Tryz.zeroValue324
  i47 := by kernel_rfl
  t48 := Tryz.underlying325
  a48 := Tryz.isAgg325
  z48 := Tryz.sizeOf325
  v48 := Tryz.zeroValue325
  i48 := by kernel_rfl
  t50 := Tryz.underlying327
  a50 := Tryz.isAgg327
  z50 := Tryz.sizeOf327
  v50 := Tryz.zeroValue327
  i50 := by kernel_rfl
  t52 := Tryz.underlying339
  a52 := Tryz.isAgg339
  z52 := Tryz.sizeOf339
  v52 := Tryz.zeroValue339
  i52 := by kernel_rfl
  t55 := Tryz.underlying341
  a55 := Tryz.isAgg341
  z55 := Tryz.sizeOf341
  v55 := Tryz.zeroValue341
  i55 := by kernel_rfl
  t59 := Tryz.underlying345
  a59 := Tryz.isAgg345
  z59 := Tryz.sizeOf345
  v59 := Tryz.zeroValue345
  i59 := by kernel_rfl
  t60 := Tryz.underlying55
  a60 := Tryz.isAgg55
  z60 := Tryz.sizeOf55
  v60 := Tryz.zeroValue55
  i60 := by kernel_rfl
  t61 := Tryz.underlying346
  a61 := Tryz.isAgg346
  z61 := Tryz.sizeOf346
  t65 := Tryz.underlying356
  a65 := Tryz.isAgg356
  z65 := Tryz.sizeOf356
  v65 := Tryz.zeroValue356
  i65 := by kernel_rfl
  t66 := Tryz.underlying357
  a66 := Tryz.isAgg357
  z66 := Tryz.sizeOf357
  v66 := Tryz.zeroValue357
  i66 := by kernel_rfl
  t67 := Tryz.underlying184
  a67 := Tryz.isAgg184
  z67 := Tryz.sizeOf184
  v67 := Tryz.zeroValue184
  i67 := by kernel_rfl
  g0 := by kernel_rfl
  m0 := by kernel_rfl
  g1 := by kernel_rfl
  m1 := by kernel_rfl
  g2 := by kernel_rfl
  m2 := by kernel_rfl
  g3 := by kernel_rfl
  m3 := by kernel_rfl
  g4 := by kernel_rfl
  m4 := by kernel_rfl }
open Go.RowKit in
/-- strconv.ParseUint at a text of that size, laid at these numbers. -/
theorem Tryz.strconv_ParseUint_10_at32_ok (s : ByteArray) (hmax : s.size ≤ 9223372036854775806) (u : Nat) (h : Lib.parseUintB 32 s.data.toList = .ok u) (w : World) :
    Calls Tryz.prog 92 #[.string s, .int .i64 10, .int .i64 32] w fun e w' => e = .returned (.tuple #[.int .u64 u, .nilIface]) ∧ (w' = w ∨ w' = Lib.bytesWorld w 5 s) := Any.strconv_ParseUint_10_at32_ok Tryz.laysPu14 s hmax u h w
open Go.RowKit in
/-- strconv.ParseUint at a text of that size, laid at these numbers. -/
theorem Tryz.strconv_ParseUint_10_at8_ok (s : ByteArray) (hmax : s.size ≤ 9223372036854775806) (u : Nat) (h : Lib.parseUintB 8 s.data.toList = .ok u) (w : World) :
    Calls Tryz.prog 92 #[.string s, .int .i64 10, .int .i64 8] w fun e w' => e = .returned (.tuple #[.int .u64 u, .nilIface]) ∧ (w' = w ∨ w' = Lib.bytesWorld w 5 s) := Any.strconv_ParseUint_10_at8_ok Tryz.laysPu14 s hmax u h w
def Tryz.lays192_ren : Go.Shelf.Ren := ⟨fun | 192 => 104 | 190 => 119 | 125 => 139 | 258 => 138 | 128 => 160 | 129 => 161 | 302 => 151 | 303 => 152 | 304 => 153 | 305 => 154 | 306 => 155 | 307 => 156 | 308 => 157 | 309 => 158 | 310 => 159 | 333 => 171 | 329 => 172 | 330 => 173 | 334 => 174 | 335 => 175 | 336 => 176 | 344 => 181 | n => n, fun | 31 => 25 | 0 => 0 | 9 => 9 | 3 => 3 | 46 => 254 | 51 => 55 | 53 => 22 | 4 => 4 | 183 => 307 | 182 => 306 | 131 => 61 | 5 => 5 | 218 => 328 | 222 => 176 | 228 => 336 | 229 => 337 | n => n, fun | n => n⟩
theorem Tryz.lays192 : Go.Proofs.Lays.n192 Tryz.prog Tryz.lays192_ren := {
  mixed := by kernel_rfl
  f125 := Tryz.func139.trans (congrArg some (by kernel_rfl))
  f128 := Tryz.func160.trans (congrArg some (by kernel_rfl))
  f129 := Tryz.func161.trans (congrArg some (by kernel_rfl))
  f190 := Tryz.func119.trans (congrArg some (by kernel_rfl))
  f192 := Tryz.func104.trans (congrArg some (by kernel_rfl))
  f258 := Tryz.func138.trans (congrArg some (by kernel_rfl))
  f302 := Tryz.func151.trans (congrArg some (by kernel_rfl))
  f303 := Tryz.func152.trans (congrArg some (by kernel_rfl))
  f304 := Tryz.func153.trans (congrArg some (by kernel_rfl))
  f305 := Tryz.func154.trans (congrArg some (by kernel_rfl))
  f306 := Tryz.func155.trans (congrArg some (by kernel_rfl))
  f307 := Tryz.func156.trans (congrArg some (by kernel_rfl))
  f308 := Tryz.func157.trans (congrArg some (by kernel_rfl))
  f309 := Tryz.func158.trans (congrArg some (by kernel_rfl))
  f310 := Tryz.func159.trans (congrArg some (by kernel_rfl))
  f329 := Tryz.func172.trans (congrArg some (by kernel_rfl))
  f330 := Tryz.func173.trans (congrArg some (by kernel_rfl))
  f333 := Tryz.func171.trans (congrArg some (by kernel_rfl))
  f334 := Tryz.func174.trans (congrArg some (by kernel_rfl))
  f335 := Tryz.func175.trans (congrArg some (by kernel_rfl))
  f336 := Tryz.func176.trans (congrArg some (by kernel_rfl))
  f344 := Tryz.func181.trans (congrArg some (by kernel_rfl))
  t0 := Tryz.underlying0
  a0 := Tryz.isAgg0
  z0 := Tryz.sizeOf0
  v0 := Tryz.zeroValue0
  t3 := Tryz.underlying3
  a3 := Tryz.isAgg3
  z3 := Tryz.sizeOf3
  v3 := Tryz.zeroValue3
  t4 := Tryz.underlying4
  a4 := Tryz.isAgg4
  z4 := Tryz.sizeOf4
  v4 := Tryz.zeroValue4
  t5 := Tryz.underlying5
  a5 := Tryz.isAgg5
  z5 := Tryz.sizeOf5
  v5 := Tryz.zeroValue5
  t9 := Tryz.underlying9
  a9 := Tryz.isAgg9
  z9 := Tryz.sizeOf9
  v9 := Tryz.zeroValue9
  t31 := Tryz.underlying25
  a31 := Tryz.isAgg25
  z31 := Tryz.sizeOf25
  v31 := Tryz.zeroValue25
  t46 := Tryz.underlying254
  a46 := Tryz.isAgg254
  z46 := Tryz.sizeOf254
  v46 := Tryz.zeroValue254
  t51 := Tryz.underlying55
  a51 := Tryz.isAgg55
  z51 := Tryz.sizeOf55
  v51 := Tryz.zeroValue55
  t53 := Tryz.underlying22
  a53 := Tryz.isAgg22
  z53 := Tryz.sizeOf22
  v53 := Tryz.zeroValue22
  t131 := Tryz.underlying61
  a131 := Tryz.isAgg61
  z131 := Tryz.sizeOf61
  v131 := Tryz.zeroValue61
  t182 := Tryz.underlying306
  a182 := Tryz.isAgg306
  z182 := Tryz.sizeOf306
  v182 := Tryz.zeroValue306
  t183 := Tryz.underlying307
  a183 := Tryz.isAgg307
  z183 := Tryz.sizeOf307
  v183 := Tryz.zeroValue307
  t218 := Tryz.underlying328
  a218 := Tryz.isAgg328
  z218 := Tryz.sizeOf328
  v218 := Tryz.zeroValue328
  t222 := Tryz.underlying176
  a222 := Tryz.isAgg176
  z222 := Tryz.sizeOf176
  v222 := Tryz.zeroValue176
  t228 := Tryz.underlying336
  a228 := Tryz.isAgg336
  z228 := Tryz.sizeOf336
  v228 := Tryz.zeroValue336
  t229 := Tryz.underlying337
  a229 := Tryz.isAgg337
  z229 := Tryz.sizeOf337
  v229 := Tryz.zeroValue337 }
open Go.Sort Go.RowKit in
theorem Tryz.sort_Strings (blk off cap : Nat) (ss : List (List UInt8)) (w : World) (hH : Holds encStr w blk off ss.toArray) (hblk : blk < w.heap.size) (hsz : ss.length < 4611686018427387904) :
    Calls Tryz.prog 104 #[.slice (some ⟨blk, off, none⟩) ss.length cap] w fun e w' =>
      e = .returned (.tuple #[]) ∧ ∃ n os, w' = grow (putRow encStr (Sort.ahead w n) blk off (ss.mergeSort fun x y => decide (x ≤ y)).toArray) os := Any.sort_Strings Tryz.lays192 blk off cap ss w hH hblk hsz
def Tryz.lays99_ren : Go.Shelf.Ren := ⟨fun | 99 => 62 | 206 => 90 | n => n, fun | 9 => 9 | 4 => 4 | 3 => 3 | n => n, fun | n => n⟩
theorem Tryz.lays99 : Go.Proofs.Lays.n99 Tryz.prog Tryz.lays99_ren := {
  mixed := by kernel_rfl
  f99 := Tryz.func62.trans (congrArg some (by kernel_rfl))
  f206 := Tryz.func90.trans (congrArg some (by kernel_rfl))
  t3 := Tryz.underlying3
  a3 := Tryz.isAgg3
  z3 := Tryz.sizeOf3
  v3 := Tryz.zeroValue3
  t4 := Tryz.underlying4
  a4 := Tryz.isAgg4
  z4 := Tryz.sizeOf4
  v4 := Tryz.zeroValue4
  t9 := Tryz.underlying9
  a9 := Tryz.isAgg9
  z9 := Tryz.sizeOf9
  v9 := Tryz.zeroValue9 }
open Go.RowKit Go.Lib in
/-- strings.HasPrefix, laid at these numbers. -/
theorem Tryz.strings_HasPrefix (s p : ByteArray) (w : World) :
    Calls Tryz.prog 62 #[.string s, .string p] w fun e w' => e = .returned (.bool (Lib.hasPrefix s.data.toList p.data.toList)) ∧ w' = w := Any.strings_HasPrefix Tryz.lays99 s p w
def Tryz.lays164_ren : Go.Shelf.Ren := ⟨fun | 164 => 85 | 197 => 102 | 239 => 103 | 260 => 116 | 274 => 117 | 275 => 118 | n => n, fun | 9 => 9 | 4 => 4 | 3 => 3 | 5 => 5 | 0 => 0 | 21 => 21 | 105 => 238 | 156 => 252 | 49 => 251 | 157 => 253 | 46 => 254 | 159 => 256 | 162 => 259 | 160 => 257 | 119 => 263 | 139 => 279 | 138 => 278 | 208 => 283 | 51 => 55 | 206 => 281 | n => n, fun | 11 => 7 | 12 => 8 | 13 => 9 | 3 => 11 | 4 => 12 | n => n⟩
theorem Tryz.lays164 : Go.Proofs.Lays.n164 Tryz.prog Tryz.lays164_ren := {
  mixed := by kernel_rfl
  f164 := Tryz.func85.trans (congrArg some (by kernel_rfl))
  f197 := Tryz.func102.trans (congrArg some (by kernel_rfl))
  f239 := Tryz.func103.trans (congrArg some (by kernel_rfl))
  f260 := Tryz.func116.trans (congrArg some (by kernel_rfl))
  f274 := Tryz.func117.trans (congrArg some (by kernel_rfl))
  f275 := Tryz.func118.trans (congrArg some (by kernel_rfl))
  t0 := Tryz.underlying0
  a0 := Tryz.isAgg0
  z0 := Tryz.sizeOf0
  v0 := Tryz.zeroValue0
  t3 := Tryz.underlying3
  a3 := Tryz.isAgg3
  z3 := Tryz.sizeOf3
  v3 := Tryz.zeroValue3
  t4 := Tryz.underlying4
  a4 := Tryz.isAgg4
  z4 := Tryz.sizeOf4
  v4 := Tryz.zeroValue4
  t5 := Tryz.underlying5
  a5 := Tryz.isAgg5
  z5 := Tryz.sizeOf5
  v5 := Tryz.zeroValue5
  t9 := Tryz.underlying9
  a9 := Tryz.isAgg9
  z9 := Tryz.sizeOf9
  v9 := Tryz.zeroValue9
  t21 := Tryz.underlying21
  a21 := Tryz.isAgg21
  z21 := Tryz.sizeOf21
  v21 := Tryz.zeroValue21
  t46 := Tryz.underlying254
  a46 := Tryz.isAgg254
  z46 := Tryz.sizeOf254
  v46 := Tryz.zeroValue254
  t49 := Tryz.underlying251
  a49 := Tryz.isAgg251
  z49 := Tryz.sizeOf251
  v49 := Tryz.zeroValue251
  t51 := Tryz.underlying55
  a51 := Tryz.isAgg55
  z51 := Tryz.sizeOf55
  v51 := Tryz.zeroValue55
  t105 := Tryz.underlying238
  a105 := Tryz.isAgg238
  z105 := Tryz.sizeOf238
  v105 := Tryz.zeroValue238
  t119 := Tryz.underlying263
  a119 := Tryz.isAgg263
  z119 := Tryz.sizeOf263
  t138 := Tryz.underlying278
  a138 := Tryz.isAgg278
  z138 := Tryz.sizeOf278
  v138 := Tryz.zeroValue278
  t139 := Tryz.underlying279
  a139 := Tryz.isAgg279
  z139 := Tryz.sizeOf279
  v139 := Tryz.zeroValue279
  t156 := Tryz.underlying252
  a156 := Tryz.isAgg252
  z156 := Tryz.sizeOf252
  t157 := Tryz.underlying253
  a157 := Tryz.isAgg253
  z157 := Tryz.sizeOf253
  v157 := Tryz.zeroValue253
  t159 := Tryz.underlying256
  a159 := Tryz.isAgg256
  z159 := Tryz.sizeOf256
  v159 := Tryz.zeroValue256
  t160 := Tryz.underlying257
  a160 := Tryz.isAgg257
  z160 := Tryz.sizeOf257
  v160 := Tryz.zeroValue257
  t162 := Tryz.underlying259
  a162 := Tryz.isAgg259
  z162 := Tryz.sizeOf259
  v162 := Tryz.zeroValue259
  t206 := Tryz.underlying281
  a206 := Tryz.isAgg281
  z206 := Tryz.sizeOf281
  v206 := Tryz.zeroValue281
  t208 := Tryz.underlying283
  a208 := Tryz.isAgg283
  z208 := Tryz.sizeOf283
  v208 := Tryz.zeroValue283
  g3 := by kernel_rfl
  g4 := by kernel_rfl
  g11 := by kernel_rfl
  g12 := by kernel_rfl
  g13 := by kernel_rfl }
open Go.RowKit Go.Lib in
theorem Tryz.strings_EqualFold (s t : ByteArray) (w : World) (hs : s.size < 4294967281) (has : ∀ (j : Nat) b, s.data.toList[j]? = some b → b.toNat < 128) (hat : ∀ (j : Nat) b, t.data.toList[j]? = some b → b.toNat < 128) :
    Calls Tryz.prog 85 #[.string s, .string t] w fun e w' => e = .returned (.bool (Lib.equalFold s.data.toList t.data.toList)) ∧ w' = w := Any.strings_EqualFold Tryz.lays164 s t w hs has hat
end Go.Proofs
