/- Lemmas on which the proof of Rows.FnCodecCardSaid rests: no statement of the seat is proved in this file. Conditions: each lemma's own hypotheses, no others. -/
import Derived.Test.YtimonhimfioohaaGreatDoorM00
import Derived.Test.YtimonhimfioohaaGreatDoorM01
/-! A region that draws its order, by an invariant: each operation is shown once, whatever has been done before it, the frame left closed. -/
namespace Go.Proofs.YtimonhimfioohaaGreatDoor
open Go Go.RowKit
section
variable {P : Program} {ops : Array Oper} {Q : Exit → Act → World → Prop}
/-- Every edge leads back. -/
def topo (ops : Array Oper) : Bool := (List.range ops.size).all fun i => match ops[i]? with
  | some o => o.after.all fun e => !Region.binds .any e || decide (e.on < i)
  | none => true
theorem topo_spec (h : topo ops = true) {i : Nat} {o : Oper} (ho : ops[i]? = some o) : ∀ e ∈ o.after, Region.binds .any e = true → e.on < i := fun e he hb => by
  have hi := (Array.getElem?_eq_some_iff.1 ho).1
  have := List.all_eq_true.1 h i (List.mem_range.2 hi)
  rw [ho] at this
  have := Array.all_eq_true_iff_forall_mem.1 this e he
  simpa [hb] using this
/-- What has been done. -/
def doneOf (l : Array Bool) : Nat → Bool := fun i => l.getD i false
theorem doneOf_set {l : Array Bool} {i : Nat} (h : i < l.size) : doneOf (l.setIfInBounds i true) = fun j => j == i || doneOf l j := by
  funext j
  unfold doneOf
  by_cases hj : j = i
  · subst hj
    simp [h]
  · have : (j == i) = false := by simp [hj]
    rw [this, Bool.false_or]
    exact getD_set_ne false (Ne.symm hj)
theorem all_listed (ht : topo ops = true) {l : Array Bool} (hs : l.size = ops.size) (hr : Region.ready .any ops l = []) : ∀ i, i < ops.size → doneOf l i = true := by
  intro i
  induction i using Nat.strongRecOn with
  | _ i ih =>
    intro hi
    cases hd : doneOf l i with
    | true => rfl
    | false =>
      exfalso
      have : i ∈ Region.ready .any ops l := by
        rw [mem_ready]
        refine ⟨?_, ops[i], Array.getElem?_eq_getElem hi, fun e he hb => ?_⟩
        · have hl : i < l.size := by omega
          unfold doneOf at hd
          simp [hl] at hd ⊢
          exact hd
        · have := topo_spec ht (Array.getElem?_eq_getElem hi) e he hb
          exact ih e.on this (by omega)
      rw [hr] at this
      cases this
theorem wpAny_inv (St : (Nat → Bool) → Act → World → Prop) (ht : topo ops = true)
    (hstep : ∀ i o, ops[i]? = some o → ∀ d a w, d i = false → (∀ e ∈ o.after, Region.binds .any e = true → d e.on = true) → St d a w → wpOp P ops Q i (fun a' w' => St (fun j => j == i || d j) a' w') a w)
    (hend : ∀ d a w, (∀ i, i < ops.size → d i = true) → St d a w → Q .normal a w) :
    ∀ (fuel : Nat) (l : Array Bool) (rest : List Nat) (a : Act) (w : World), l.size = ops.size → rest.length ≤ fuel → (∀ i, i < ops.size → doneOf l i = false → i ∈ rest) → St (doneOf l) a w → wpAny P .any ops Q fuel l a w := by
  intro fuel
  induction fuel with
  | zero =>
    intro l rest a w hs hl hm hSt
    have hall : ∀ i, i < ops.size → doneOf l i = true := fun i hi => by
      cases hd : doneOf l i with
      | true => rfl
      | false =>
        have := hm i hi hd
        obtain rfl : rest = [] := List.length_eq_zero_iff.1 (by omega)
        cases this
    refine ⟨?_, hend _ a w hall hSt⟩
    cases hr : Region.ready .any ops l with
    | nil => rfl
    | cons j js =>
      have hj : j ∈ Region.ready .any ops l := by rw [hr]; exact List.mem_cons_self
      obtain ⟨h0, o, ho, _⟩ := mem_ready.1 hj
      have hlt := (Array.getElem?_eq_some_iff.1 ho).1
      have := hall j hlt
      unfold doneOf at this
      have hl : j < l.size := by omega
      simp [hl] at this h0
      rw [h0] at this
      cases this
  | succ fuel ih =>
    intro l rest a w hs hl hm hSt
    refine ⟨fun hr => hend _ a w (all_listed ht hs hr) hSt, fun i hi => ?_⟩
    obtain ⟨h0, o, ho, hdep⟩ := mem_ready.1 hi
    have hlt := (Array.getElem?_eq_some_iff.1 ho).1
    have hll : i < l.size := by omega
    have hdi : doneOf l i = false := by
      unfold doneOf
      simp [hll] at h0 ⊢
      exact h0
    refine wpOp_mono (fun a' w' h => ?_) (hstep i o ho (doneOf l) a w hdi hdep hSt)
    have hir := hm i hlt hdi
    refine ih (l.setIfInBounds i true) (rest.erase i) a' w' (by simpa using hs) ?_ ?_ (by rw [doneOf_set hll]; exact h)
    · rw [List.length_erase_of_mem hir]; omega
    · intro j hj hd
      rw [doneOf_set hll] at hd
      simp only [Bool.or_eq_false_iff, beq_eq_false_iff_ne, ne_eq] at hd
      exact (List.mem_erase_of_ne hd.1).2 (hm j hj hd.2)
theorem wp_region_inv {id : Nat} {a0 : Act} {w0 : World} (hm : P.follows .mixedOrders = true) (St : (Nat → Bool) → Act → World → Prop) (ht : topo ops = true)
    (h0 : St (fun _ => false) a0 w0.drew)
    (hstep : ∀ i o, ops[i]? = some o → ∀ d a w, d i = false → (∀ e ∈ o.after, Region.binds .any e = true → d e.on = true) → St d a w → wpOp P ops Q i (fun a' w' => St (fun j => j == i || d j) a' w') a w)
    (hend : ∀ d a w, (∀ i, i < ops.size → d i = true) → St d a w → Q .normal a w) : (Code.region id ops true).wp P Q a0 w0 := by
  refine wp_region_any hm (wpAny_inv St ht hstep hend ops.size _ (List.range ops.size) a0 _ (by simp) (by simp) (fun i hi _ => List.mem_range.2 hi) ?_)
  have : doneOf (Array.replicate ops.size false) = fun _ => false := by
    funext i
    unfold doneOf
    by_cases h : i < ops.size <;> simp [h]
  rw [this]
  exact h0
theorem eval_put {a : Act} {t : Tmp} (ht : t < a.tmps.size) (v : Value) (s : Nat) : (a.put (some t) v).eval (.tmp s) = if s = t then v else a.eval (.tmp s) := by
  simp only [Act.put, Act.eval]
  by_cases h : s = t
  · subst h
    simp [ht]
  · rw [if_neg h]
    simp [Array.getElem?_setIfInBounds_ne (Ne.symm h)]
theorem eval_tmp (a : Act) (t : Nat) : a.tmps[t]?.getD undef = a.eval (.tmp t) := by simp [Act.eval]
/-- Is t written by an operation? -/
def writes (ops : Array Oper) (t : Nat) : Bool := ops.any fun o => o.dst == some t
/-- No two operations write one slot, and each writes one below N. -/
def dstOk (ops : Array Oper) (N : Nat) : Bool := (List.range ops.size).all fun i => match ops[i]? with
  | some o => match o.dst with
    | some t => decide (t < N) && (List.range ops.size).all fun j => j == i || (match ops[j]? with | some o' => o'.dst != some t | none => true)
    | none => true
  | none => true
theorem dstOk_spec {N : Nat} (h : dstOk ops N = true) {i : Nat} {o : Oper} (ho : ops[i]? = some o) {t : Tmp} (hd : o.dst = some t) : t < N ∧ ∀ j o', ops[j]? = some o' → j ≠ i → o'.dst ≠ some t := by
  have hi := (Array.getElem?_eq_some_iff.1 ho).1
  have := List.all_eq_true.1 h i (List.mem_range.2 hi)
  rw [ho] at this
  simp only [hd, Bool.and_eq_true, decide_eq_true_eq] at this
  refine ⟨this.1, fun j o' hj hne => ?_⟩
  have h2 := List.all_eq_true.1 this.2 j (List.mem_range.2 (Array.getElem?_eq_some_iff.1 hj).1)
  rw [hj] at h2
  simp [hne] at h2
  exact h2
def upd (dst : Option Tmp) (v : Value) (f : Nat → Value) : Nat → Value := fun t => match dst with | some s => cond (Nat.beq s t) v (f t) | Option.none => f t
/-- A drawn region: T: the operations whose value is told ahead; Sp: what else is known, of the slots' values and the world. -/
theorem region_rule {id : Nat} {a0 : Act} {w0 : World} (hm : P.follows .mixedOrders = true) (ht : topo ops = true) (hd : dstOk ops a0.tmps.size = true)
    (T : Nat → Option Value) (Sp : (Nat → Bool) → (Nat → Value) → World → Prop) (start : Sp (fun _ => false) (fun t => a0.eval (.tmp t)) w0.drew)
    (step : ∀ i o, ops[i]? = some o → ∀ d a w, d i = false → (∀ e ∈ o.after, Region.binds .any e = true → d e.on = true) → (∀ j o', ops[j]? = some o' → d j = true → ∀ e ∈ o'.after, Region.binds .any e = true → d e.on = true) → (∀ t, writes ops t = false → a.eval (.tmp t) = a0.eval (.tmp t)) →
      (∀ j o' t v, ops[j]? = some o' → o'.dst = some t → T j = some v → d j = true → a.eval (.tmp t) = v) → Sp d (fun t => a.eval (.tmp t)) w →
      wpOp P ops Q i (fun a' w' => ∃ v, a' = a.put o.dst v ∧ (∀ u, T i = some u → v = u) ∧ Sp (fun j => j == i || d j) (upd o.dst v fun t => a.eval (.tmp t)) w') a w)
    (fin : ∀ d (f : Nat → Value) w, (∀ i, i < ops.size → d i = true) → (∀ t, writes ops t = false → f t = a0.eval (.tmp t)) → (∀ j o' t v, ops[j]? = some o' → o'.dst = some t → T j = some v → f t = v) → Sp d f w →
      Q .normal { tmps := ((List.range a0.tmps.size).map f).toArray, defers := a0.defers } w) : (Code.region id ops true).wp P Q a0 w0 := by
  refine wp_region_inv hm (fun d a w => (∀ j o', ops[j]? = some o' → d j = true → ∀ e ∈ o'.after, Region.binds .any e = true → d e.on = true) ∧ (a.tmps.size = a0.tmps.size ∧ a.defers = a0.defers ∧ ∀ t, writes ops t = false → a.eval (.tmp t) = a0.eval (.tmp t)) ∧ (∀ j o' t v, ops[j]? = some o' → o'.dst = some t → T j = some v → d j = true → a.eval (.tmp t) = v) ∧ Sp d (fun t => a.eval (.tmp t)) w) ht
    ⟨fun _ _ _ h => absurd h (by simp), ⟨rfl, rfl, fun _ _ => rfl⟩, ⟨fun _ _ _ _ _ _ _ h => absurd h (by simp), start⟩⟩ ?_ ?_
  · rintro i o ho d a w hdi hdep ⟨hcl, ⟨hs, hdf, hfr⟩, hTa, hSp⟩
    have hcl' : ∀ j o', ops[j]? = some o' → (fun j => j == i || d j) j = true → ∀ e ∈ o'.after, Region.binds .any e = true → (fun j => j == i || d j) e.on = true := by
      intro j o' hj hdj e he hb
      simp only [Bool.or_eq_true, beq_iff_eq] at hdj ⊢
      rcases hdj with rfl | hdj
      · rw [ho] at hj
        cases hj
        exact .inr (hdep e he hb)
      · exact .inr (hcl j o' hj hdj e he hb)
    refine wpOp_mono ?_ (step i o ho d a w hdi hdep hcl hfr hTa hSp)
    rintro a' w' ⟨v, rfl, hv, hSp'⟩
    cases hdst : o.dst with
    | none =>
      refine ⟨hcl', ⟨hs, hdf, hfr⟩, fun j o' t u ho' hd' hj hdj => ?_, ?_⟩
      · simp only [Bool.or_eq_true, beq_iff_eq] at hdj
        rcases hdj with rfl | hdj
        · rw [ho] at ho'
          cases ho'
          rw [hdst] at hd'
          cases hd'
        · exact hTa j o' t u ho' hd' hj hdj
      · rw [hdst] at hSp'
        exact hSp'
    | some t0 =>
      obtain ⟨hlt, huniq⟩ := dstOk_spec hd ho hdst
      have hlt' : t0 < a.tmps.size := by rw [hs]; exact hlt
      have hev := eval_put (a := a) hlt' v
      refine ⟨hcl', ⟨by simp [Act.put, hs], by simp [Act.put, hdf], fun t htw => ?_⟩, fun j o' t u ho' hd' hj hdj => ?_, ?_⟩
      · rw [hev, if_neg, hfr t htw]
        rintro rfl
        have : writes ops t = true := Array.any_eq_true'.2 ⟨o, Array.mem_of_getElem? ho, by simp [hdst]⟩
        rw [htw] at this
        cases this
      · rw [hev]
        simp only [Bool.or_eq_true, beq_iff_eq] at hdj
        rcases hdj with rfl | hdj
        · rw [ho] at ho'
          cases ho'
          rw [hdst] at hd'
          cases hd'
          rw [if_pos rfl]
          exact hv u hj
        · rw [if_neg]
          · exact hTa j o' t u ho' hd' hj hdj
          · rintro rfl
            by_cases hji : j = i
            · subst hji; rw [hdi] at hdj; cases hdj
            · exact huniq j o' ho' hji hd'
      · have : (fun t => (a.put (some t0) v).eval (.tmp t)) = upd (some t0) v (fun t => a.eval (.tmp t)) := by
          funext t
          rw [hev]
          unfold upd
          by_cases h : t = t0
          · subst h; simp
          · rw [if_neg h]
            have : Nat.beq t0 t = false := by
              cases hb : Nat.beq t0 t
              · rfl
              · exact absurd (Nat.eq_of_beq_eq_true hb).symm h
            simp [this]
        rw [this]
        rw [hdst] at hSp'
        exact hSp'
  · rintro d a w hall ⟨_, ⟨hs, hdf, hfr⟩, hTa, hSp⟩
    have := fin d (fun t => a.eval (.tmp t)) w hall hfr (fun j o' t v ho' hd' hj => hTa j o' t v ho' hd' hj (hall j (Array.getElem?_eq_some_iff.1 ho').1)) hSp
    have ha : a = { tmps := ((List.range a0.tmps.size).map fun t => a.eval (.tmp t)).toArray, defers := a0.defers } := by
      cases a with
      | mk tm df =>
        simp only at hs hdf
        subst hdf
        congr 1
        apply Array.ext
        · simp [hs]
        · intro i h1 h2
          simp [Act.eval, h1]
    rw [ha]
    exact this
theorem frame_of {f g : Nat → Value} {wr : Nat → Bool} (n : Nat) (h : ∀ t, wr t = false → f t = g t) : ((List.range n).map f).toArray = ((List.range n).map fun t => cond (wr t) (f t) (g t)).toArray := by
  congr 2
  funext t
  cases hw : wr t
  · exact h t hw
  · rfl
/-- The same, the frame told ahead. -/
theorem region_rule2 {id : Nat} {a0 : Act} {w0 : World} (hm : P.follows .mixedOrders = true) (ht : topo ops = true) (hd : dstOk ops a0.tmps.size = true) (lit : (Nat → Value) → Array Value)
    (hlit : ∀ f : Nat → Value, ((List.range a0.tmps.size).map fun t => cond (writes ops t) (f t) (a0.eval (.tmp t))).toArray = lit f)
    (T : Nat → Option Value) (Sp : (Nat → Bool) → (Nat → Value) → World → Prop) (start : Sp (fun _ => false) (fun t => a0.eval (.tmp t)) w0.drew)
    (step : ∀ i o, ops[i]? = some o → ∀ d a w, d i = false → (∀ e ∈ o.after, Region.binds .any e = true → d e.on = true) → (∀ j o', ops[j]? = some o' → d j = true → ∀ e ∈ o'.after, Region.binds .any e = true → d e.on = true) → (∀ t, writes ops t = false → a.eval (.tmp t) = a0.eval (.tmp t)) →
      (∀ j o' t v, ops[j]? = some o' → o'.dst = some t → T j = some v → d j = true → a.eval (.tmp t) = v) → Sp d (fun t => a.eval (.tmp t)) w →
      wpOp P ops Q i (fun a' w' => ∃ v, a' = a.put o.dst v ∧ (∀ u, T i = some u → v = u) ∧ Sp (fun j => j == i || d j) (upd o.dst v fun t => a.eval (.tmp t)) w') a w)
    (fin : ∀ d (f : Nat → Value) w, (∀ i, i < ops.size → d i = true) → (∀ j o' t v, ops[j]? = some o' → o'.dst = some t → T j = some v → f t = v) → Sp d f w →
      Q .normal { tmps := lit f, defers := a0.defers } w) : (Code.region id ops true).wp P Q a0 w0 := by
  refine region_rule hm ht hd T Sp start step fun d f w h1 h2 h3 h4 => ?_
  rw [frame_of _ h2, hlit f]
  exact fin d f w h1 h3 h4
/-- One operation: what it leaves is G. -/
theorem op_gen {i : Nat} {o : Oper} (ho : ops[i]? = some o) (hg : o.guard = Option.none) {K : Act → World → Prop} {a : Act} {w : World} (G : Value → World → Prop)
    (h1 : ∀ K' : Act → World → Prop, (∀ v w', G v w' → K' (a.put o.dst v) w') → o.wp P a w K' Q) (h2 : ∀ v w', G v w' → K (a.put o.dst v) w') : wpOp P ops Q i K a w := by
  unfold wpOp
  rw [ho]
  simp only [Region.wanted, hg, if_true]
  exact .inl (h1 K h2)
theorem op_val {i : Nat} {o : Oper} (ho : ops[i]? = some o) (hg : o.guard = Option.none) {K : Act → World → Prop} {a : Act} {w : World} (v : Value)
    (h1 : ∀ K' : Act → World → Prop, K' (a.put o.dst v) w → o.wp P a w K' Q) (h2 : K (a.put o.dst v) w) : wpOp P ops Q i K a w :=
  op_gen ho hg (fun v' w' => v' = v ∧ w' = w) (fun K' hK => h1 K' (hK v w ⟨rfl, rfl⟩)) (fun v' w' ⟨hv, hw⟩ => by rw [hv, hw]; exact h2)
end
end Go.Proofs.YtimonhimfioohaaGreatDoor
/-! laws.session: the reference's session reads as the one that came in. -/
namespace Go.Proofs.YtimonhimfioohaaGreatDoor
open Go Go.RowKit Go.PlainAid Kn
theorem below_alloc' {w W : World} (h : Below w.heap.size w W) (o : Obj) : Below w.heap.size w (W.alloc o) := below_alloc h h.size o
theorem below_set' {B : Nat} {w W : World} {g : Nat} (h : Below B w W) (hg : B ≤ g) (j : Nat) (u : Value) : Below B w (W.setCell ⟨g, j, Option.none⟩ u) := h.setCell hg u
/-- What is held back by an operation that has not been done is not done. -/
theorem not_yet {ops : Array Oper} {d : Nat → Bool} {i : Nat} (hcl : ∀ j o', ops[j]? = some o' → d j = true → ∀ e ∈ o'.after, Region.binds .any e = true → d e.on = true) (hdi : d i = false)
    {j p : Nat} {o' : Oper} {e : _} (h1 : ops[j]? = some o') (h2 : o'.after[p]? = some e) (h3 : e.on = i) (h4 : Region.binds .any e = true) : d j = false := by
  cases hd : d j
  · rfl
  · have := hcl j o' h1 hd e (Array.mem_of_getElem? h2) h4
    rw [h3, hdi] at this
    cases this
theorem size44 : (Tryz.prog.info? 44).map (·.size) = some 19 := by kernel_rfl
theorem keep_setRow (w : World) (g : Nat) (cs : Array Value) : Keep g w (w.setRow g cs) := by
  refine ⟨rfl, rfl, rfl, by simp [World.setRow], fun k _ hk => ?_⟩
  unfold World.setRow
  simp [Array.getElem?_modify, Ne.symm hk]
theorem info84 : (Tryz.prog.info? 84).map (fun i => (i.zero, i.size, i.bytes)) = some (some (.agg #[.int .i64 0, .int .i64 0, .slice Option.none 0 0]), 3, 40) := by kernel_rfl
theorem info80 : (Tryz.prog.info? 80).map (fun i => (i.zero, i.size, i.bytes)) = some (some (.agg #[.int .u64 0, .int .u64 0, .slice Option.none 0 0]), 3, 40) := by kernel_rfl
theorem info87 : (Tryz.prog.info? 87).map (fun i => (i.zero, i.size, i.bytes)) = some (some (.agg #[.int .u64 0, .int .i64 0]), 2, 16) := by kernel_rfl
theorem info89 : (Tryz.prog.info? 89).map (fun i => (i.zero, i.size, i.bytes)) = some (some (.agg #[.string ⟨#[]⟩, .int .i64 0, .slice Option.none 0 0, .slice Option.none 0 0, .slice Option.none 0 0, .slice Option.none 0 0, .slice Option.none 0 0, .slice Option.none 0 0, .slice Option.none 0 0, .slice Option.none 0 0]), 10, 216) := by kernel_rfl
theorem keep_grown {g : Nat} {w W w1 : World} {row : Option Nat} (h : Keep g w W) (hg : W.grownBy w1 row) (hr : ∀ k, row = some k → w.heap.size ≤ k) : Keep g w w1 :=
  ⟨hg.os.trans h.os, hg.tape.trans h.tape, hg.output.trans h.output, Nat.le_trans h.size hg.size, fun k hk hne => (hg.block k (Nat.lt_of_lt_of_le hk h.size) (fun e => by have := hr k e.symm; omega)).trans (h.block k hk hne)⟩
theorem zon_get {F : Nat → Prop} {w : World} {A : Option Addr} {l : List Zon} (h : kZon.Row F w A l) (i : Nat) (hi : i < l.length) : ∃ ad, A = some ad ∧ w.cell? (ad.add (i * 2)) = some (.int .u64 l[i].t) ∧ w.cell? ⟨(ad.add (i * 2)).block, (ad.add (i * 2)).off + 1, Option.none⟩ = some (.int .i64 l[i].o) := by
  obtain ⟨ad, cs, e, _, hk, hc⟩ := h.get i hi
  obtain rfl := kZon_open hk
  exact ⟨ad, e, hc 0 _ rfl, by rw [← add_field ad (i * 2) 1 (by omega)]; exact hc 1 _ rfl⟩
theorem upd_if (s t : Nat) (v : Value) (f : Nat → Value) : upd (some s) v f t = if s = t then v else f t := by
  unfold upd
  by_cases h : s = t
  · subst h; simp
  · have : Nat.beq s t = false := by
      cases hb : Nat.beq s t
      · rfl
      · exact absurd (Nat.eq_of_beq_eq_true hb) h
    simp [this, h]
theorem upd_none (t : Nat) (v : Value) (f : Nat → Value) : upd Option.none v f t = f t := rfl
/-- Where what a session under way leads to lies: in what came in, or in what the call has made, but for block g. -/
def FG (D : Nat → Prop) (B : Nat) (g : Nat) : Nat → Prop := fun b => (D b ∨ B ≤ b) ∧ b ≠ g
/-- The same, g being the block that v points to, once it is there. -/
def FV (D : Nat → Prop) (B : Nat) (d : Bool) (v : Value) : Nat → Prop := fun b => (D b ∨ B ≤ b) ∧ (d = true → ∀ g, v = .pointer (some ⟨g, 0, Option.none⟩) → b ≠ g)
theorem fv_of {D : Nat → Prop} {B : Nat} {d : Bool} {v : Value} {b n : Nat} (hB : B ≤ n) (hb : D b ∨ n ≤ b) (hD : ∀ b, D b → b < B) (hv : d = true → ∃ g, v = .pointer (some ⟨g, 0, Option.none⟩) ∧ B ≤ g ∧ g < n) : FV D B d v b := by
  refine ⟨by rcases hb with hb | hb; exact .inl hb; exact .inr (by omega), fun hd g hg => ?_⟩
  obtain ⟨g', hg', h1, h2⟩ := hv hd
  rw [hg] at hg'
  cases hg'
  rcases hb with hb | hb
  · have := hD b hb; omega
  · omega
/-- What is known within the region that lays the new session. -/
structure SpS (D : Nat → Prop) (x : Ses) (W1 : World) (agg : Value → Value → Value → Array Value) (zero : Array Value) (d1 d2 d3 d4 d5 d6 : Bool) (v4 v1 v2 v3 vb : Value) (w : World) : Prop where
  below : Below W1.heap.size W1 w
  blk : d5 = true → ∃ g, v4 = .pointer (some ⟨g, 0, Option.none⟩) ∧ W1.heap.size ≤ g ∧ w.heap[g]? = some (.cells (if d6 then agg v1 v2 v3 else zero) 44 (0, 0))
  con : d1 = true → (∃ B c, v1 = .slice B x.con.length c) ∧ kCon.SV (FV D W1.heap.size d5 v4) w v1 x.con
  bw : d2 = true → (∃ B c, v2 = .slice B x.bw.length c) ∧ kBw.SV (FV D W1.heap.size d5 v4) w v2 x.bw
  att : d3 = true → (∃ B c, v3 = .slice B x.atts.length c) ∧ kAtt.SV (FV D W1.heap.size d5 v4) w v3 x.atts
  build : d4 = true → vb = .agg (agg v1 v2 v3)
section
variable {D : Nat → Prop} {x : Ses} {W1 w w' : World} {agg : Value → Value → Value → Array Value} {zero : Array Value} {d1 d2 d3 d4 d5 d6 : Bool} {v4 v1 v2 v3 vb : Value}
theorem SpS.lt (h : SpS D x W1 agg zero d1 d2 d3 d4 d5 d6 v4 v1 v2 v3 vb w) : d5 = true → ∃ g, v4 = .pointer (some ⟨g, 0, Option.none⟩) ∧ W1.heap.size ≤ g ∧ g < w.heap.size := fun hd => by
  obtain ⟨g, e, h1, h2⟩ := h.blk hd
  exact ⟨g, e, h1, blk_lt h2⟩
theorem SpS.conStep (h : SpS D x W1 agg zero d1 d2 d3 false d5 false v4 v1 v2 v3 vb w) (hD : ∀ b, D b → b < W1.heap.size) (hb : Below w.heap.size w w') {v : Value} (hv : (∃ B c, v = .slice B x.con.length c) ∧ kCon.SV (fun b => D b ∨ w.heap.size ≤ b) w' v x.con) : SpS D x W1 agg zero true d2 d3 false d5 false v4 v v2 v3 vb w' :=
  ⟨below_trans h.below hb, fun hd => by obtain ⟨g, e, h1, h2⟩ := h.blk hd; exact ⟨g, e, h1, heap_below hb h2⟩, fun _ => ⟨hv.1, hv.2.mono fun _ hx => fv_of h.below.size hx hD h.lt⟩,
    fun hd => ⟨(h.bw hd).1, (h.bw hd).2.step (by decide) hb⟩, fun hd => ⟨(h.att hd).1, (h.att hd).2.step (by decide) hb⟩, fun hd => (by cases hd)⟩
theorem SpS.bwStep (h : SpS D x W1 agg zero d1 d2 d3 false d5 false v4 v1 v2 v3 vb w) (hD : ∀ b, D b → b < W1.heap.size) (hb : Below w.heap.size w w') {v : Value} (hv : (∃ B c, v = .slice B x.bw.length c) ∧ kBw.SV (fun b => D b ∨ w.heap.size ≤ b) w' v x.bw) : SpS D x W1 agg zero d1 true d3 false d5 false v4 v1 v v3 vb w' :=
  ⟨below_trans h.below hb, fun hd => by obtain ⟨g, e, h1, h2⟩ := h.blk hd; exact ⟨g, e, h1, heap_below hb h2⟩, fun hd => ⟨(h.con hd).1, (h.con hd).2.step (by decide) hb⟩,
    fun _ => ⟨hv.1, hv.2.mono fun _ hx => fv_of h.below.size hx hD h.lt⟩, fun hd => ⟨(h.att hd).1, (h.att hd).2.step (by decide) hb⟩, fun hd => (by cases hd)⟩
theorem SpS.attStep (h : SpS D x W1 agg zero d1 d2 d3 false d5 false v4 v1 v2 v3 vb w) (hD : ∀ b, D b → b < W1.heap.size) (hb : Below w.heap.size w w') {v : Value} (hv : (∃ B c, v = .slice B x.atts.length c) ∧ kAtt.SV (fun b => D b ∨ w.heap.size ≤ b) w' v x.atts) : SpS D x W1 agg zero d1 d2 true false d5 false v4 v1 v2 v vb w' :=
  ⟨below_trans h.below hb, fun hd => by obtain ⟨g, e, h1, h2⟩ := h.blk hd; exact ⟨g, e, h1, heap_below hb h2⟩, fun hd => ⟨(h.con hd).1, (h.con hd).2.step (by decide) hb⟩,
    fun hd => ⟨(h.bw hd).1, (h.bw hd).2.step (by decide) hb⟩, fun _ => ⟨hv.1, hv.2.mono fun _ hx => fv_of h.below.size hx hD h.lt⟩, fun hd => (by cases hd)⟩
theorem SpS.buildStep (h : SpS D x W1 agg zero true true true d4 d5 false v4 v1 v2 v3 vb w) : SpS D x W1 agg zero true true true true d5 false v4 v1 v2 v3 (.agg (agg v1 v2 v3)) w :=
  ⟨h.below, h.blk, h.con, h.bw, h.att, fun _ => rfl⟩
theorem SpS.allocStep (h : SpS D x W1 agg zero d1 d2 d3 d4 false false v4 v1 v2 v3 vb w) : SpS D x W1 agg zero d1 d2 d3 d4 true false (.pointer (some ⟨w.heap.size, 0, Option.none⟩)) v1 v2 v3 vb (w.alloc (.cells zero 44)) := by
  have hb : Below w.heap.size w (w.alloc (.cells zero 44)) := below_alloc' (Below.refl _ _) _
  have hF : ∀ b, FV D W1.heap.size false v4 b ∧ b < w.heap.size → FV D W1.heap.size true (.pointer (some ⟨w.heap.size, 0, Option.none⟩)) b := fun b hx => ⟨hx.1.1, fun _ g hg => by cases hg; exact Nat.ne_of_lt hx.2⟩
  have key : ∀ {α : Type} {k : Kn α} {v : Value} {l : List α}, 0 < k.sz → k.SV (FV D W1.heap.size false v4) w v l → k.SV (FV D W1.heap.size true (.pointer (some ⟨w.heap.size, 0, Option.none⟩))) (w.alloc (.cells zero 44)) v l := fun hs hv =>
    ((hv.bound hs).move fun b hx => hb.block b hx.2).mono hF
  exact ⟨below_trans h.below hb, fun _ => ⟨w.heap.size, rfl, h.below.size, heap_alloc_new w _⟩, fun hd => ⟨(h.con hd).1, key (by decide) (h.con hd).2⟩, fun hd => ⟨(h.bw hd).1, key (by decide) (h.bw hd).2⟩, fun hd => ⟨(h.att hd).1, key (by decide) (h.att hd).2⟩, h.build⟩
theorem SpS.storeStep (h : SpS D x W1 agg zero true true true true true false v4 v1 v2 v3 vb w) {g : Nat} (hg : v4 = .pointer (some ⟨g, 0, Option.none⟩)) (hk : Keep g w w') (hh : w'.heap[g]? = some (.cells (agg v1 v2 v3) 44 (0, 0))) : SpS D x W1 agg zero true true true true true true v4 v1 v2 v3 vb w' := by
  obtain ⟨g', e, h1, h2⟩ := h.blk rfl
  rw [hg] at e
  cases e
  have key : ∀ {α : Type} {k : Kn α} {v : Value} {l : List α}, 0 < k.sz → k.SV (FV D W1.heap.size true v4) w v l → k.SV (FV D W1.heap.size true v4) w' v l := fun hs hv =>
    hv.keep hs (fun b hx => hx.2 rfl g hg) hk
  exact ⟨h.below.trans (hk.below h.below.size h1), fun _ => ⟨g, hg, h1, hh⟩, fun hd => ⟨(h.con hd).1, key (by decide) (h.con hd).2⟩, fun hd => ⟨(h.bw hd).1, key (by decide) (h.bw hd).2⟩, fun hd => ⟨(h.att hd).1, key (by decide) (h.att hd).2⟩, h.build⟩
end
/-- A law for an operation in a list serves for the operation alone. -/
theorem oper_of_list {P : Program} {ops : Array Oper} {o : Oper} {a : Act} {w : World} {K : Act → World → Prop} {Q : Exit → Act → World → Prop} (hg : o.guard = Option.none)
    (h : ∀ Q' : Exit → Act → World → Prop, (∀ a w, K a w → Q' .normal a w) → wpList P ops Q' [o] a w) : o.wp P a w K Q := by
  have := h (fun ex a w => ex = .normal ∧ K a w) (fun _ _ hK => ⟨rfl, hK⟩)
  unfold wpList at this
  simp only [Region.wanted, hg, if_true] at this
  rcases this with this | ⟨_, a', w', h1, _⟩
  · unfold Oper.wp at *
    generalize (execOp a.eval o).run P w = r at *
    cases r with
    | ok n w' =>
      cases n <;> simp only [Oper.upon] at this ⊢ <;>
        first
          | exact this.2
          | (refine Calls.mono this ?_
             rintro e w2 h2
             cases e with
             | returned v => exact h2.2
             | panicked c => exact absurd h2.1 (by simp)
             | outgrown => obtain ⟨_, _, h1, _⟩ := h2; cases h1)
          | exact Rows.mono this fun _ _ h2 => h2.2
          | exact this
    | halt s w' =>
      cases s <;> simp only [Oper.upon] at this ⊢ <;> first | exact absurd this.1 (by simp) | exact this
  · cases h1
/-- What is known within the region that adds a medium. -/
structure SpM (D : Nat → Prop) (x : Med) (W : World) (cs : Value → Value → Value → List Value) (Post : Value → World → Prop) (Fin : World → Prop) (d1 d2 d3 d4 d5 d6 d7 : Bool) (v1 v2 v3 v4 v5 v6 : Value) (w : World) : Prop where
  below : d6 = false → Below W.heap.size W w
  con : d5 = false → d1 = true → (∃ B c, v1 = .slice B x.con.length c) ∧ kCon.SV (fun b => D b ∨ W.heap.size ≤ b) w v1 x.con
  bw : d5 = false → d2 = true → (∃ B c, v2 = .slice B x.bw.length c) ∧ kBw.SV (fun b => D b ∨ W.heap.size ≤ b) w v2 x.bw
  att : d5 = false → d3 = true → (∃ B c, v3 = .slice B x.atts.length c) ∧ kAtt.SV (fun b => D b ∨ W.heap.size ≤ b) w v3 x.atts
  build : d4 = true → v4 = .agg (cs v1 v2 v3).toArray
  row : d5 = true → d6 = false → ∃ Wp, w = Wp.alloc (.cells (cs v1 v2 v3).toArray 89) ∧ v5 = .slice (some ⟨Wp.heap.size, 0, Option.none⟩) 1 1 ∧ Below W.heap.size W Wp ∧ kMed.K (fun b => D b ∨ W.heap.size ≤ b) Wp x (cs v1 v2 v3)
  app : d6 = true → d7 = false → Post v6 w
  fin : d7 = true → Fin w
section
variable {D : Nat → Prop} {x : Med} {W w w' : World} {cs : Value → Value → Value → List Value} {Post : Value → World → Prop} {Fin : World → Prop} {d1 d2 d3 d4 : Bool} {v1 v2 v3 v4 v5 v6 : Value}
theorem SpM.conStep (h : SpM D x W cs Post Fin d1 d2 d3 false false false false v1 v2 v3 v4 v5 v6 w) (hb : Below w.heap.size w w') {v : Value} (hv : (∃ B c, v = .slice B x.con.length c) ∧ kCon.SV (fun b => D b ∨ w.heap.size ≤ b) w' v x.con) : SpM D x W cs Post Fin true d2 d3 false false false false v v2 v3 v4 v5 v6 w' :=
  ⟨fun _ => below_trans (h.below rfl) hb, fun _ _ => ⟨hv.1, hv.2.mono fun b hx => hx.imp id fun hx => Nat.le_trans (h.below rfl).size hx⟩,
    fun _ hd => ⟨(h.bw rfl hd).1, (h.bw rfl hd).2.step (by decide) hb⟩, fun _ hd => ⟨(h.att rfl hd).1, (h.att rfl hd).2.step (by decide) hb⟩, fun hd => (by cases hd), fun hd => (by cases hd), fun hd => (by cases hd), fun hd => (by cases hd)⟩
theorem SpM.bwStep (h : SpM D x W cs Post Fin d1 d2 d3 false false false false v1 v2 v3 v4 v5 v6 w) (hb : Below w.heap.size w w') {v : Value} (hv : (∃ B c, v = .slice B x.bw.length c) ∧ kBw.SV (fun b => D b ∨ w.heap.size ≤ b) w' v x.bw) : SpM D x W cs Post Fin d1 true d3 false false false false v1 v v3 v4 v5 v6 w' :=
  ⟨fun _ => below_trans (h.below rfl) hb, fun _ hd => ⟨(h.con rfl hd).1, (h.con rfl hd).2.step (by decide) hb⟩, fun _ _ => ⟨hv.1, hv.2.mono fun b hx => hx.imp id fun hx => Nat.le_trans (h.below rfl).size hx⟩,
    fun _ hd => ⟨(h.att rfl hd).1, (h.att rfl hd).2.step (by decide) hb⟩, fun hd => (by cases hd), fun hd => (by cases hd), fun hd => (by cases hd), fun hd => (by cases hd)⟩
theorem SpM.attStep (h : SpM D x W cs Post Fin d1 d2 d3 false false false false v1 v2 v3 v4 v5 v6 w) (hb : Below w.heap.size w w') {v : Value} (hv : (∃ B c, v = .slice B x.atts.length c) ∧ kAtt.SV (fun b => D b ∨ w.heap.size ≤ b) w' v x.atts) : SpM D x W cs Post Fin d1 d2 true false false false false v1 v2 v v4 v5 v6 w' :=
  ⟨fun _ => below_trans (h.below rfl) hb, fun _ hd => ⟨(h.con rfl hd).1, (h.con rfl hd).2.step (by decide) hb⟩, fun _ hd => ⟨(h.bw rfl hd).1, (h.bw rfl hd).2.step (by decide) hb⟩,
    fun _ _ => ⟨hv.1, hv.2.mono fun b hx => hx.imp id fun hx => Nat.le_trans (h.below rfl).size hx⟩, fun hd => (by cases hd), fun hd => (by cases hd), fun hd => (by cases hd), fun hd => (by cases hd)⟩
theorem SpM.buildStep (h : SpM D x W cs Post Fin d1 d2 d3 d4 false false false v1 v2 v3 v4 v5 v6 w) : SpM D x W cs Post Fin d1 d2 d3 true false false false v1 v2 v3 (.agg (cs v1 v2 v3).toArray) v5 v6 w :=
  ⟨h.below, h.con, h.bw, h.att, fun _ => rfl, fun hd => (by cases hd), fun hd => (by cases hd), fun hd => (by cases hd)⟩
theorem SpM.rowStep (h : SpM D x W cs Post Fin d1 d2 d3 d4 false false false v1 v2 v3 v4 v5 v6 w) (hk : kMed.K (fun b => D b ∨ W.heap.size ≤ b) w x (cs v1 v2 v3)) :
    SpM D x W cs Post Fin d1 d2 d3 d4 true false false v1 v2 v3 v4 (.slice (some ⟨w.heap.size, 0, Option.none⟩) 1 1) v6 (w.alloc (.cells (cs v1 v2 v3).toArray 89)) :=
  ⟨fun _ => below_alloc (h.below rfl) (h.below rfl).size _, fun hd => (by cases hd), fun hd => (by cases hd), fun hd => (by cases hd), h.build, fun _ _ => ⟨w, rfl, rfl, h.below rfl, hk⟩, fun hd => (by cases hd), fun hd => (by cases hd)⟩
theorem SpM.appStep (h : SpM D x W cs Post Fin d1 d2 d3 d4 true false false v1 v2 v3 v4 v5 v6 w) {v : Value} (hp : Post v w') : SpM D x W cs Post Fin d1 d2 d3 d4 true true false v1 v2 v3 v4 v5 v w' :=
  ⟨fun hd => (by cases hd), fun hd => (by cases hd), fun hd => (by cases hd), fun hd => (by cases hd), h.build, fun _ hd => (by cases hd), fun _ _ => hp, fun hd => (by cases hd)⟩
theorem SpM.storeStep (h : SpM D x W cs Post Fin d1 d2 d3 d4 true true false v1 v2 v3 v4 v5 v6 w) (hp : Fin w') : SpM D x W cs Post Fin d1 d2 d3 d4 true true true v1 v2 v3 v4 v5 v6 w' :=
  ⟨fun hd => (by cases hd), fun hd => (by cases hd), fun hd => (by cases hd), fun hd => (by cases hd), h.build, fun _ hd => (by cases hd), fun _ hd => (by cases hd), fun _ => hp⟩
end
end Go.Proofs.YtimonhimfioohaaGreatDoor
/-! spec's guards: attributes, bandwidths, times, zones. -/
namespace Go.Proofs.YtimonhimfioohaaGreatDoor
open Go Go.RowKit Go.PlainAid Kn
def AttOK (a : Att) : Prop := IsWord a.key ∧ (a.val.size = 0 ∨ IsLine a.val)
def AttsOK (l : List Att) : Prop := (∀ a ∈ l, AttOK a) ∧ l.length ≤ 20
/-- A row of texts written out. -/
theorem lit_sv (W : World) (l : List ByteArray) (t : TypeId) (hl : l.length ≤ 9223372036854775807) : Kn.string.SV (fun b => b = W.heap.size) (W.alloc (.cells (l.map Value.string).toArray t)) (.slice (some ⟨W.heap.size, 0, Option.none⟩) l.length l.length) l := by
  refine ⟨_, _, rfl, Nat.le_refl _, hl, fun _ => ⟨_, rfl, rfl, fun j x hj => ⟨[.string x], rfl, fun i u hu => ?_⟩⟩⟩
  obtain ⟨rfl, rfl⟩ : i = 0 ∧ Value.string x = u := by
    cases i with
    | zero => exact ⟨rfl, by simpa using hu⟩
    | succ n => simp at hu
  have : (⟨W.heap.size, 0, Option.none⟩ : Addr).add (j * Kn.string.sz + 0) = ⟨W.heap.size, j, Option.none⟩ := by
    unfold Addr.add
    split <;> simp_all [Kn.string, Kn.scalar]
  rw [this, World.cell?_alloc_new]
  simp [hj]
theorem lit_sv' (W : World) (l : List ByteArray) (t : TypeId) (n m : Nat) (cs : Array Value) (hn : n = W.heap.size) (hm : m = l.length) (hcs : cs = (l.map Value.string).toArray) (hl : m ≤ 9223372036854775807) : Kn.string.SV (fun b => b = n) (W.alloc (.cells cs t)) (.slice (some ⟨n, 0, Option.none⟩) m m) l := by
  subst hn hm hcs
  exact lit_sv W l t hl
theorem below_alloc1 {w W : World} (h : Below w.heap.size w W) (o1 : Obj) : Below w.heap.size w (W.alloc o1) := below_alloc h h.size o1
theorem below_alloc2 {w W : World} (h : Below w.heap.size w W) (o1 o2 : Obj) : Below w.heap.size w ((W.alloc o1).alloc o2) := below_alloc1 (below_alloc1 h o1) o2
/-- 'is' over texts written out: of no consequence what it answers. -/
theorem is_any (s : ByteArray) (W : World) (l : List ByteArray) (t : TypeId) (n m : Nat) (cs : Array Value) (hn : n = W.heap.size) (hm : m = l.length) (hcs : cs = (l.map Value.string).toArray) (hl : m ≤ 9223372036854775807) :
    Calls Tryz.prog 27 #[.string s, .slice (some ⟨n, 0, Option.none⟩) m m] (W.alloc (.cells cs t)) (RB (s ∈ l) (W.alloc (.cells cs t))) :=
  is_calls s _ l _ _ (lit_sv' W l t n m cs hn hm hcs hl)
set_option maxHeartbeats 800000 in
theorem satts (v : Value) (l : List Att) (F : Nat → Prop) (w : World) (hv : kAtt.SV F w v l) (hf : fAtts l) : Calls Tryz.prog 33 #[v] w (RG (AttsOK l) w) := by
  obtain ⟨A, c, rfl, hl, hr⟩ := hv
  have hm := hr.1
  have HR := Bx.mk hr
  have HF := Bx.mk hf
  clear hr hf
  go_enter Tryz.func33, Tryz.ntmps33
  go_wp2
  go_loopw [7] (fun i wr => ∃ k : Nat, k ≤ l.length ∧ i = .int .i64 k ∧ Bx (UpTo AttOK l k) ∧ Bx (Below w.heap.size w wr)) (fun i _ => l.length - (intOf i).toNat)
  case atStart => exact ⟨0, Nat.zero_le _, rfl, ⟨upTo_zero _ _⟩, ⟨Below.refl _ _⟩⟩
  case round =>
    obtain ⟨k, hk, rfl, hU, hB⟩ := hrel
    by_cases hlt : k < l.length
    · obtain ⟨ad, rfl, hc0, hc1⟩ := att_get HR.out k hlt
      replace hc0 := cell_below hB.out hc0
      replace hc1 := cell_below hB.out hc1
      have HZ := Bx.mk (HF.out.2 _ (List.getElem_mem hlt))
      have HB := Bx.mk (below_alloc hB.out hB.out.size (.cells #[.string l[k].key, .string l[k].val] 96))
      go_wp2_with (fail)
      refine (word_calls l[k].key _ HZ.out.1).mono ?_
      rintro e w' ⟨rfl, b, rfl, hf⟩
      have HW := Bx.mk hf
      clear hf
      cases b
      · go_wp2
        go_ret
        exact ⟨HB.out, false, rfl, fun h => absurd h (by simp)⟩
      · cases hem : l[k].val.toList.isEmpty
        · go_wp2_with (fail)
          refine (line_calls l[k].val _ HZ.out.2).mono ?_
          rintro e w' ⟨rfl, b, rfl, hf⟩
          have HL := Bx.mk hf
          clear hf
          cases b
          · go_wp2
            go_ret
            exact ⟨HB.out, false, rfl, fun h => absurd h (by simp)⟩
          · go_wp2
            go_roundw
            case rel => exact ⟨k + 1, by omega, by go_num, ⟨upTo_succ hU.out hlt ⟨HW.out (by simp), .inr (HL.out (by simp))⟩⟩, HB⟩
            case measure => simp [intOf]; omega
        · go_wp2
          go_roundw
          case rel => exact ⟨k + 1, by omega, by go_num, ⟨upTo_succ hU.out hlt ⟨HW.out (by simp), .inl (by rw [toList_isEmpty] at hem; exact of_decide_eq_true hem)⟩⟩, HB⟩
          case measure => simp [intOf]; omega
    · go_wp2
      go_ret
      obtain rfl : k = l.length := by omega
      exact ⟨hB.out, _, rfl, fun h => ⟨upTo_all hU.out, by simp at h; omega⟩⟩
set_option maxHeartbeats 800000 in
theorem sbws (v : Value) (l : List Bw) (F : Nat → Prop) (w : World) (hv : kBw.SV F w v l) (hf : fBws l) : Calls Tryz.prog 32 #[v] w (RG True w) := by
  obtain ⟨A, c, rfl, hl, hr⟩ := hv
  have hm := hr.1
  have HR := Bx.mk hr
  have HF := Bx.mk hf
  clear hr hf
  go_enter Tryz.func32, Tryz.ntmps32
  go_wp2
  go_loopw [7] (fun i wr => ∃ k : Nat, k ≤ l.length ∧ i = .int .i64 k ∧ Bx (Below w.heap.size w wr)) (fun i _ => l.length - (intOf i).toNat)
  case atStart => exact ⟨0, Nat.zero_le _, rfl, ⟨Below.refl _ _⟩⟩
  case round =>
    obtain ⟨k, hk, rfl, hB⟩ := hrel
    by_cases hlt : k < l.length
    · obtain ⟨ad, rfl, hc0, hc1, hc2⟩ := bw_get HR.out k hlt
      replace hc0 := cell_below hB.out hc0
      replace hc1 := cell_below hB.out hc1
      replace hc2 := cell_below hB.out hc2
      have HZ := Bx.mk (HF.out.2 _ (List.getElem_mem hlt))
      have HB := Bx.mk (below_alloc hB.out hB.out.size (.cells #[.bool l[k].exp, .string l[k].typ, .int .u64 l[k].n] 131))
      go_wp2_with (fail)
      refine (is_any l[k].typ _ [⟨#[67, 84]⟩, ⟨#[65, 83]⟩, ⟨#[84, 73, 65, 83]⟩, ⟨#[82, 83]⟩, ⟨#[82, 82]⟩] _ _ _ _ (by simp) rfl rfl (by decide)).mono ?_
      rintro e w' ⟨rfl, b, rfl, hf⟩
      clear hf
      cases b
      · cases hx : l[k].exp
        · go_wp2
          all_goals (go_ret; exact ⟨below_alloc2 hB.out _ _, _, rfl, fun _ => trivial⟩)
        · go_wp2_with (fail)
          refine (word_calls l[k].typ _ HZ.out).mono ?_
          rintro e w' ⟨rfl, b, rfl, hf⟩
          clear hf
          cases b
          · go_wp2
            go_ret
            exact ⟨below_alloc2 hB.out _ _, _, rfl, fun _ => trivial⟩
          · go_wp2
            all_goals first
              | (go_ret; exact ⟨below_alloc2 hB.out _ _, _, rfl, fun _ => trivial⟩)
              | (go_roundw
                 case rel => exact ⟨k + 1, by omega, by go_num, ⟨below_alloc2 hB.out _ _⟩⟩
                 case measure => simp [intOf]; omega)
      · go_wp2
        all_goals first
          | (go_ret; exact ⟨below_alloc2 hB.out _ _, _, rfl, fun _ => trivial⟩)
          | (go_roundw
             case rel => exact ⟨k + 1, by omega, by go_num, ⟨below_alloc2 hB.out _ _⟩⟩
             case measure => simp [intOf]; omega)
    · go_wp2
      go_ret
      exact ⟨hB.out, _, rfl, fun _ => trivial⟩
theorem int_get {F : Nat → Prop} {w : World} {A : Option Addr} {l : List Int} (h : kI.Row F w A l) (i : Nat) (hi : i < l.length) : ∃ ad, A = some ad ∧ w.cell? (ad.add i) = some (.int .i64 l[i]) := by
  obtain ⟨ad, cs, e, _, hk, hc⟩ := h.get i hi
  obtain rfl : cs = [.int .i64 l[i]] := hk
  exact ⟨ad, e, by have := hc 0 _ rfl; simpa [kI, Kn.int, Kn.scalar] using this⟩
set_option maxRecDepth 10000 in
set_option maxHeartbeats 1600000 in
theorem stimes (v : Value) (l : List Tim) (F : Nat → Prop) (w : World) (hv : kTim.SV F w v l) (hf : fTims l) : Calls Tryz.prog 28 #[v] w (RG True w) := by
  obtain ⟨A, c, rfl, hl, hr⟩ := hv
  have hm := hr.1
  have HR := Bx.mk hr
  have HF := Bx.mk hf
  clear hr hf
  go_enter Tryz.func28, Tryz.ntmps28
  go_wp2
  go_loopw [11] (fun i wr => ∃ k : Nat, k ≤ l.length ∧ i = .int .i64 k ∧ Bx (Below w.heap.size w wr)) (fun i _ => l.length - (intOf i).toNat)
  case atStart => exact ⟨0, Nat.zero_le _, rfl, ⟨Below.refl _ _⟩⟩
  case round =>
    obtain ⟨k, hk, rfl, hB⟩ := hrel
    by_cases hlt : k < l.length
    · obtain ⟨ad, Av, cv, rfl, hc0, hc1, hc2, hx⟩ := tim_get HR.out k hlt
      replace hc0 := cell_below hB.out hc0
      replace hc1 := cell_below hB.out hc1
      replace hc2 := cell_below hB.out hc2
      have HX := Bx.mk (hx.step (by decide) hB.out)
      clear hx
      have hmx : l[k].reps.length ≤ 2147483647 := (HF.out.2 _ (List.getElem_mem hlt)).1
      obtain ⟨wo, rfl⟩ : ∃ wo : World, wo = wr := ⟨_, rfl⟩
      go_wp2
      all_goals try (go_ret; exact ⟨below_alloc1 hB.out _, _, rfl, fun _ => trivial⟩)
      go_loopw [32] (fun i wr => ∃ m : Nat, m ≤ l[k].reps.length ∧ i = .int .i64 m ∧ Bx (Below wo.heap.size wo wr)) (fun i _ => l[k].reps.length - (intOf i).toNat)
      case atStart => exact ⟨0, Nat.zero_le _, rfl, ⟨below_alloc1 (Below.refl _ _) _⟩⟩
      case round =>
        obtain ⟨m, hm2, rfl, hB2⟩ := hrel
        by_cases hlt2 : m < l[k].reps.length
        · obtain ⟨A2, c2, he, hl2, hr2⟩ := HX.out
          simp only [Value.slice.injEq, true_and] at he
          obtain ⟨rfl, rfl⟩ := he
          obtain ⟨ad2, A3, c3, rfl, hd0, hd1, hd2, hs1⟩ := rep_get hr2 m hlt2
          replace hd0 := cell_below hB2.out hd0
          replace hd1 := cell_below hB2.out hd1
          replace hd2 := cell_below hB2.out hd2
          have HY := Bx.mk (hs1.step (by decide) hB2.out)
          have hmy : l[k].reps[m].offs.length ≤ 2147483647 := (HF.out.2 _ (List.getElem_mem hlt)).2 _ (List.getElem_mem hlt2)
          clear hs1 hr2
          obtain ⟨wp, rfl⟩ : ∃ wp : World, wp = wr := ⟨_, rfl⟩
          rcases Nat.eq_zero_or_pos l[k].reps[m].offs.length with h0 | h0
          · go_wp2
            all_goals (go_ret; exact ⟨below_alloc1 (below_trans hB.out hB2.out) _, _, rfl, fun _ => trivial⟩)
          · have hq : ((l[k].reps[m].offs.length : Int) == 0) = false := by simp; intro e; rw [e] at h0; exact absurd h0 (by simp)
            go_wp2
            all_goals try (go_ret; exact ⟨below_alloc1 (below_trans hB.out hB2.out) _, _, rfl, fun _ => trivial⟩)
            go_loopw [69] (fun i wr => ∃ n : Nat, n ≤ l[k].reps[m].offs.length ∧ i = .int .i64 n ∧ Bx (Below wp.heap.size wp wr)) (fun i _ => l[k].reps[m].offs.length - (intOf i).toNat)
            case atStart => exact ⟨0, Nat.zero_le _, rfl, ⟨below_alloc1 (Below.refl _ _) _⟩⟩
            case round =>
              obtain ⟨n, hn, rfl, hB4⟩ := hrel
              by_cases hlt3 : n < l[k].reps[m].offs.length
              · obtain ⟨A5, c5, he, hl5, hr5⟩ := HY.out
                simp only [Value.slice.injEq, true_and] at he
                obtain ⟨rfl, rfl⟩ := he
                obtain ⟨ad3, rfl, he0⟩ := int_get hr5 n hlt3
                replace he0 := cell_below hB4.out he0
                clear hr5
                go_wp2
                all_goals first
                  | (go_ret; exact ⟨below_trans (below_trans hB.out hB2.out) hB4.out, _, rfl, fun _ => trivial⟩)
                  | (go_roundw
                     case rel => exact ⟨n + 1, by omega, by go_num, hB4⟩
                     case measure => simp [intOf]; omega)
              · go_wp2
                go_roundw
                case rel => exact ⟨m + 1, by omega, by go_num, ⟨below_trans hB2.out hB4.out⟩⟩
                case measure => simp [intOf]; omega
        · go_wp2
          go_roundw
          case rel => exact ⟨k + 1, by omega, by go_num, ⟨below_trans hB.out hB2.out⟩⟩
          case measure => simp [intOf]; omega
    · go_wp2
      all_goals (go_ret; exact ⟨hB.out, _, rfl, fun _ => trivial⟩)
end Go.Proofs.YtimonhimfioohaaGreatDoor
/-! append of a whole slice onto a row of the call's own. -/
namespace Go.Proofs.YtimonhimfioohaaGreatDoor
open Go Go.RowKit Go.PlainAid Kn
theorem Reps.append {α : Type} {R : α → List Value → Prop} {size : Nat} {ps qs : List α} {cs ds : List Value} (h : Reps R size ps cs) (h' : Reps R size qs ds) : Reps R size (ps ++ qs) (cs ++ ds) := by
  refine ⟨by rw [List.length_append, h.1, h'.1, List.length_append, Nat.add_mul], fun j q hq => ?_⟩
  rcases Nat.lt_or_ge j ps.length with hj | hj
  · rw [List.getElem?_append_left hj] at hq
    have h1 : j * size + size ≤ cs.length := by rw [h.1, ← Nat.succ_mul]; exact Nat.mul_le_mul_right _ hj
    have h2 := h.2 j q hq
    rw [List.drop_append_of_le_length (by omega), List.take_append_of_le_length (by rw [List.length_drop]; omega)]
    exact h2
  · rw [List.getElem?_append_right hj] at hq
    have h2 := h'.2 _ q hq
    have e : j * size = cs.length + (j - ps.length) * size := by rw [h.1, ← Nat.add_mul]; congr 1; omega
    rw [e, ← List.drop_drop, List.drop_left]
    exact h2
section
variable {α : Type} {k : Kn α} {F F' : Nat → Prop} {w w' W w1 : World} {v v1 : Value} {xs : List α} {e : TypeId} {base : Nat}
/-- The cells of a row, one behind the other. -/
theorem Row.cellsOf {ad : Addr} {ys : List α} (h : k.Row F w (some ad) ys) : ∃ news, Reps (k.K F w) k.sz ys news ∧ (∀ j u, news[j]? = some u → w.cell? (ad.add j) = some u) ∧ ∀ u ∈ news, u.oneCell' = true := by
  have key : ∀ n, n ≤ ys.length → ∃ news, Reps (k.K F w) k.sz (ys.take n) news ∧ (∀ j u, news[j]? = some u → w.cell? (ad.add j) = some u) ∧ ∀ u ∈ news, u.oneCell' = true := by
    intro n
    induction n with
    | zero => exact fun _ => ⟨[], by simpa using Reps.none _ _, fun j u hu => by simp at hu, fun u hu => by simp at hu⟩
    | succ n ih =>
      intro hn
      obtain ⟨news, hr, hc, h1⟩ := ih (by omega)
      obtain ⟨ad', cs, he, _, hk, hcell⟩ := h.get n (by omega)
      cases he
      refine ⟨news ++ cs, ?_, fun j u hu => ?_, fun u hu => ?_⟩
      · have := hr.snoc hk (k.len hk)
        rwa [take_snoc] at this
      · rcases Nat.lt_or_ge j news.length with hj | hj
        · rw [List.getElem?_append_left hj] at hu
          exact hc j u hu
        · rw [List.getElem?_append_right hj] at hu
          have := hcell _ u hu
          have hl : news.length = n * k.sz := by rw [hr.1, List.length_take_of_le (by omega)]
          rwa [← hl, Nat.add_sub_cancel' hj] at this
      · rcases List.mem_append.1 hu with hu | hu
        · exact h1 u hu
        · exact k.one hk u hu
  have := key ys.length (Nat.le_refl _)
  rwa [List.take_length] at this
theorem Own.appendedAll {qs : List α} {news inner : List Value} (h0 : ∀ b, v.ownBlock = some b → F b) (hr : Reps (fun x cs => k.K (fun b => F b ∧ some b ≠ v.ownBlock) W x cs) k.sz xs inner)
    (hq : Reps (fun x cs => k.K (fun b => F b ∧ some b ≠ v.ownBlock) W x cs) k.sz qs news) (hfresh : ∀ b, W.heap.size ≤ b → F b)
    (hown : w1.ownsRow base e k.sz v1 (xs.length + qs.length) (inner ++ news)) (hg : W.grownBy w1 v.ownBlock) (hat : v1.ownBlock = v.ownBlock ∨ ∃ b, v1.ownBlock = some b ∧ W.heap.size ≤ b) : k.Own e w1 base F v1 (xs ++ qs) := by
  have step : ∀ {q : α} {c : List Value}, k.K (fun b => F b ∧ some b ≠ v.ownBlock) W q c → k.K (fun b => F b ∧ some b ≠ v1.ownBlock) w1 q c := by
    intro q c hq
    refine k.mono ?_ (k.move (w' := w1) (fun b hb => hg.block b hb.2 hb.1.2) (k.bound hq))
    rintro b ⟨⟨hF, hne⟩, hlt⟩
    refine ⟨hF, ?_⟩
    rcases hat with hat | ⟨b', hb', hle⟩
    · rw [hat]; exact hne
    · rw [hb']
      intro he
      injection he with he
      omega
  refine ⟨fun b hb => ?_, inner ++ news, by rw [List.length_append]; exact hown, ?_⟩
  · rcases hat with hat | ⟨b', hb', hle⟩
    · exact h0 b (hat ▸ hb)
    · rw [hb'] at hb
      injection hb with hb
      exact hfresh b (by omega)
  · exact (hr.imp (fun _ _ hq => step hq)).append (hq.imp (fun _ _ hq => step hq))
end
theorem Own.empty {α : Type} (k : Kn α) (e : TypeId) (W : World) (base : Nat) (F : Nat → Prop) (hb : base ≤ W.heap.size) (hF : F W.heap.size) : k.Own e (W.alloc (.cells #[] e)) base F (.slice (some ⟨W.heap.size, 0, Option.none⟩) 0 0) [] := by
  refine ⟨fun b h => by simp [Value.ownBlock] at h; exact h ▸ hF, [], ⟨by simp, .inr ⟨W.heap.size, 0, #[], rfl, hb, heap_alloc_new _ _, Nat.le_refl _, by simp [maxLen], by simp, by simp⟩⟩, Reps.none _ _⟩
section
variable {P : Program} {ops : Array Oper} {rest : List Oper} {o : Oper} {a : Act} {Q : Exit → Act → World → Prop} {α : Type}
/-- append(s, nothing...). -/
theorem run_append_nothing {w : World} (t ty e : TypeId) (i : TypeInfo) (ht : P.underlying t = some (.slice e)) (hi : P.info? e = some i) (b : Option Addr) (n cap : Nat) (hn : n ≤ cap) (c : Nat) :
    (Builtin.append_ #[t, t] ty #[.slice b n cap, .slice Option.none 0 c]).run P w = .ok (.slice b n cap) w := by
  cases b <;> simp [Builtin.append_, underlying, ht, sizeOf, typeInfo, hi, Builtin.lenOf, Builtin.firstCells, hn, storeCells]
/-- append of a slice's elements onto a row of the call's own. -/
theorem app_all (k : Kn α) {w W : World} {B : Nat} (F F' : Nat → Prop) (hgd : o.guard = Option.none) (s x : Operand) (t e : TypeId) (z : Value) (bytes : Nat)
    (ho : o.op = .call { callee := .builtin .append, args := #[s, x], argTypes := #[t, t] })
    (ht : P.underlying t = some (.slice e)) (hinfo : (P.info? e).map (fun i => (i.zero, i.size, i.bytes)) = some (some z, k.sz, bytes)) (hz : z.cells.size = k.sz) (hs0 : 0 < k.sz) (_hb0 : 0 < bytes) (hb1 : bytes ≤ 1000)
    (v : Value) (xs ys : List α) (m : Nat) (hm : xs.length = m) (A : Option Addr) (n c : Nat) (hn : ys.length = n) (hs : a.eval s = v) (hx : a.eval x = .slice A n c)
    (hy : Bx (k.SV F' W (.slice A n c) ys)) (hF' : ∀ x cs, k.K F' W x cs → k.K (fun b => F b ∧ some b ≠ v.ownBlock) W x cs) (HO : Bx (k.Own e W B F v xs)) (HB : Bx (Below w.heap.size w W)) (hB : w.heap.size ≤ B) (hB2 : B ≤ W.heap.size) (hF : ∀ b, B ≤ b → F b) (hl : m + n ≤ 137438953472)
    (h : ∀ A1 c1 w1, Bx (k.Own e w1 B F (.slice A1 (m + n) c1) (xs ++ ys)) → Bx (Below w.heap.size w w1) → Bx (W.grownBy w1 v.ownBlock) → wpList P ops Q rest (a.put o.dst (.slice A1 (m + n) c1)) w1) :
    wpList P ops Q (o :: rest) a W := by
  subst hm hn
  obtain ⟨i0, hi, hzz⟩ := Option.map_eq_some_iff.1 hinfo
  simp only [Prod.mk.injEq] at hzz
  obtain ⟨hz0, hz1, hz2⟩ := hzz
  obtain ⟨h0, inner, hown, hr⟩ := HO.out
  obtain ⟨A', c', he, hlc, hrow⟩ := hy.out
  simp only [Value.slice.injEq, true_and] at he
  obtain ⟨rfl, rfl⟩ := he
  rcases Nat.eq_zero_or_pos ys.length with hzero | hpos
  · -- nothing is appended
    have hys : ys = [] := List.length_eq_zero_iff.1 hzero
    subst hys
    cases A with
    | none =>
      refine wpList_plain hgd fun K hK => ?_
      obtain ⟨A1, c1, hv, hl1, hr1⟩ := HO.out.reads
      subst hv
      have hrun := run_append_nothing (P := P) (w := W) t o.type e i0 ht hi A1 xs.length c1 hl1 c
      unfold Oper.wp execOp
      simp only [ho, resolve, invoke, builtin, Sem.run_bind, Sem.run_pure, Result.andThen_ok, List.map_toArray, List.map_cons, List.map_nil, hs, hx, List.length_nil, hrun]
      refine hK _ _ ?_
      have := h A1 c1 W (by simpa using HO) HB ⟨⟨rfl, rfl, rfl, Nat.le_refl _, fun _ _ _ => rfl⟩⟩
      simpa using this
    | some ad =>
      refine wpList_append_own_at W hgd s x t ho B e i0 z k.sz bytes ht hi hz0 hz1 hz2 hz hs0 v xs.length inner hs hown ad 0 c [] hx (by simp) (by simp) (by simp) (by simp only [maxLen]; simp at hl; omega) ?_ hB2 ?_
      · exact Nat.le_trans (Nat.mul_le_mul hl hb1) (by decide)
      · intro v1 w1 hown1 hg _ hat
        have HO1 : k.Own e w1 B F v1 (xs ++ []) := Own.appendedAll (W := W) h0 hr (Reps.none _ _) (fun b hb => hF b (by omega)) hown1 hg (by
          rcases hat with hat | hat
          · exact .inl hat
          · exact .inr ⟨_, hat, Nat.le_refl _⟩)
        obtain ⟨A1, c1, rfl, hr1⟩ := HO1.reads
        have := h A1 c1 w1 (by simpa using Bx.mk HO1) ⟨below_grown HB.out HB.out.size HO.out hB hg⟩ ⟨hg⟩
        simpa using this
  · obtain ⟨ad, rfl, hfb, _⟩ := hrow.2 hpos
    obtain ⟨news, hrn, hcn, h1n⟩ := Row.cellsOf hrow
    refine wpList_append_own_at W hgd s x t ho B e i0 z k.sz bytes ht hi hz0 hz1 hz2 hz hs0 v xs.length inner hs hown ad ys.length c news hx hrn.1 hcn h1n (by simp only [maxLen]; omega) ?_ hB2 ?_
    · exact Nat.le_trans (Nat.mul_le_mul hl hb1) (by decide)
    · intro v1 w1 hown1 hg _ hat
      have HO1 : k.Own e w1 B F v1 (xs ++ ys) := Own.appendedAll (W := W) h0 hr (hrn.imp hF') (fun b hb => hF b (by omega)) hown1 hg (by
        rcases hat with hat | hat
        · exact .inl hat
        · exact .inr ⟨_, hat, Nat.le_refl _⟩)
      obtain ⟨A1, c1, rfl, hr1⟩ := HO1.reads
      rw [List.length_append] at HO1 ⊢
      exact h A1 c1 w1 ⟨HO1⟩ ⟨below_grown HB.out HB.out.size HO.out hB hg⟩ ⟨hg⟩
end
end Go.Proofs.YtimonhimfioohaaGreatDoor
