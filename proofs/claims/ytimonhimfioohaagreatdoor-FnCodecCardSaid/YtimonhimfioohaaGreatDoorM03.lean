/- Lemmas on which the proof of Rows.FnCodecCardSaid rests: no statement of the seat is proved in this file. Conditions: each lemma's own hypotheses, no others. -/
import Derived.Test.YtimonhimfioohaaGreatDoorM02
import Derived.Laws.Cover3
import Derived.BigQuiet
import Derived.StillTailTactics
/-! impl: number, maybe, attributes; slices.Clone. -/
namespace Go.Proofs.YtimonhimfioohaaGreatDoor
open Go Go.RowKit Go.PlainAid Kn
/-- A pointer is handed back. -/
def RO (w : World) (e : Ending) (w' : World) : Prop := Below w.heap.size w w' ∧ ∃ p, e = .returned (.pointer p)
set_option maxHeartbeats 400000 in
theorem inumber (v : Value) (l : List Int) (F : Nat → Prop) (w : World) (hv : kI.SV F w v l) : Calls Tryz.prog 84 #[v] w (RO w) := by
  obtain ⟨A, c, rfl, hl, hr⟩ := hv
  have hm := hr.1
  cases l with
  | nil =>
    clear hr
    go_enter Tryz.func84, Tryz.ntmps84
    go_wp2
    go_ret
    exact ⟨Below.refl _ _, _, rfl⟩
  | cons x l =>
    obtain ⟨ad, rfl, hc⟩ := int_get hr 0 (by simp)
    have h0 : ad.add 0 = ad := rfl
    rw [h0] at hc
    have hlen : ((((x :: l).length : Nat) : Int) == 0) = false := by simp; omega
    clear hr
    go_enter Tryz.func84, Tryz.ntmps84
    go_wp2
    go_ret
    exact ⟨below_alloc1 (Below.refl _ _) _, _, rfl⟩
set_option maxHeartbeats 400000 in
theorem imaybe50 (v : Value) (l : List ByteArray) (F : Nat → Prop) (w : World) (hv : Kn.string.SV F w v l) : Calls Tryz.prog 50 #[v] w (RO w) := by
  obtain ⟨A, c, rfl, hl, hr⟩ := hv
  have hm := hr.1
  cases l with
  | nil =>
    clear hr
    go_enter Tryz.func50, Tryz.ntmps50
    go_wp2
    go_ret
    exact ⟨Below.refl _ _, _, rfl⟩
  | cons x l =>
    obtain ⟨ad, rfl, hc⟩ := str_get hr 0 (by simp)
    have h0 : ad.add 0 = ad := rfl
    rw [h0] at hc
    have hlen : ((((x :: l).length : Nat) : Int) == 0) = false := by simp; omega
    clear hr
    go_enter Tryz.func50, Tryz.ntmps50
    go_wp2
    go_ret
    exact ⟨below_alloc1 (Below.refl _ _) _, _, rfl⟩
set_option maxHeartbeats 400000 in
theorem imaybe52 (v : Value) (l : List ByteArray) (F : Nat → Prop) (w : World) (hv : Kn.string.SV F w v l) : Calls Tryz.prog 52 #[v] w (RO w) := by
  obtain ⟨A, c, rfl, hl, hr⟩ := hv
  have hm := hr.1
  cases l with
  | nil =>
    clear hr
    go_enter Tryz.func52, Tryz.ntmps52
    go_wp2
    go_ret
    exact ⟨Below.refl _ _, _, rfl⟩
  | cons x l =>
    obtain ⟨ad, rfl, hc⟩ := str_get hr 0 (by simp)
    have h0 : ad.add 0 = ad := rfl
    rw [h0] at hc
    have hlen : ((((x :: l).length : Nat) : Int) == 0) = false := by simp; omega
    clear hr
    go_enter Tryz.func52, Tryz.ntmps52
    go_wp2
    go_ret
    exact ⟨below_alloc1 (Below.refl _ _) _, _, rfl⟩
set_option maxHeartbeats 400000 in
theorem imaybe53 (v : Value) (l : List ByteArray) (F : Nat → Prop) (w : World) (hv : Kn.string.SV F w v l) : Calls Tryz.prog 53 #[v] w (RO w) := by
  obtain ⟨A, c, rfl, hl, hr⟩ := hv
  have hm := hr.1
  cases l with
  | nil =>
    clear hr
    go_enter Tryz.func53, Tryz.ntmps53
    go_wp2
    go_ret
    exact ⟨Below.refl _ _, _, rfl⟩
  | cons x l =>
    obtain ⟨ad, rfl, hc⟩ := str_get hr 0 (by simp)
    have h0 : ad.add 0 = ad := rfl
    rw [h0] at hc
    have hlen : ((((x :: l).length : Nat) : Int) == 0) = false := by simp; omega
    clear hr
    go_enter Tryz.func53, Tryz.ntmps53
    go_wp2
    go_ret
    exact ⟨below_alloc1 (Below.refl _ _) _, _, rfl⟩
set_option maxHeartbeats 400000 in
theorem imaybe56 (v : Value) (l : List ByteArray) (F : Nat → Prop) (w : World) (hv : Kn.string.SV F w v l) : Calls Tryz.prog 56 #[v] w (RO w) := by
  obtain ⟨A, c, rfl, hl, hr⟩ := hv
  have hm := hr.1
  cases l with
  | nil =>
    clear hr
    go_enter Tryz.func56, Tryz.ntmps56
    go_wp2
    go_ret
    exact ⟨Below.refl _ _, _, rfl⟩
  | cons x l =>
    obtain ⟨ad, rfl, hc⟩ := str_get hr 0 (by simp)
    have h0 : ad.add 0 = ad := rfl
    rw [h0] at hc
    have hlen : ((((x :: l).length : Nat) : Int) == 0) = false := by simp; omega
    clear hr
    go_enter Tryz.func56, Tryz.ntmps56
    go_wp2
    go_ret
    exact ⟨below_alloc1 (Below.refl _ _) _, _, rfl⟩
theorem info183 : (Tryz.prog.info? 183).map (fun i => (i.zero, i.size, i.bytes)) = some (some (.agg #[.string ⟨#[]⟩, .string ⟨#[]⟩]), 2, 32) := by kernel_rfl
set_option maxHeartbeats 400000 in
theorem iatts (v : Value) (l : List Att) (D : Nat → Prop) (w : World) (hv : kAtt.SV D w v l) (hlen : l.length ≤ 2147483647) : Calls Tryz.prog 57 #[v] w (RS kAtt l (fun b => w.heap.size ≤ b) w) := by
  obtain ⟨A, c, rfl, hl, hr⟩ := hv
  have HR := Bx.mk hr
  clear hr
  go_enter Tryz.func57, Tryz.ntmps57
  go_wp2
  go_loopw [3, 8] (fun out i wr => ∃ k : Nat, k ≤ l.length ∧ i = .int .i64 k ∧ Bx (kAtt.Own 183 wr w.heap.size (fun b => w.heap.size ≤ b) out (l.take k)) ∧ Bx (Below w.heap.size w wr)) (fun _ i _ => l.length - (intOf i).toNat)
  case atStart => exact ⟨0, Nat.zero_le _, rfl, ⟨Own.nil _ _ _ _ _⟩, ⟨Below.refl _ _⟩⟩
  case round =>
    obtain ⟨k, hk, rfl, hO, hB⟩ := hrel
    by_cases hlt : k < l.length
    · obtain ⟨ad, rfl, hc0, hc1⟩ := att_get HR.out k hlt
      replace hc0 := cell_below hB.out hc0
      replace hc1 := cell_below hB.out hc1
      have HO1 := Bx.mk (own_alloc hO.out (.cells #[.string l[k].key, .string l[k].val] 51))
      have HB1 := Bx.mk (below_alloc hB.out hB.out.size (.cells #[.string l[k].key, .string l[k].val] 51))
      have HL : k + 1 ≤ 2147483648 := by omega
      have HM := Bx.mk (List.length_take_of_le hk)
      clear hO hB
      go_wp2_with (at_builtin; refine app_row kAtt _ rfl _ _ 145 183 _ 32 rfl Tryz.underlying145 info183 rfl (by decide) (by decide) (by decide) u3 (l.take k) l[k] [.string l[k].key, .string l[k].val] k HM.out _ rfl rfl (by simp) ⟨kAtt_mk _ _ _⟩ HO1 HB1 (Nat.le_refl _) HB1.out.size (fun _ h => h) HL ?_; intro A1 c1 w1 HO2 HB2 _)
      go_roundw
      case rel => exact ⟨k + 1, by omega, by go_num, by rw [← take_snoc l k hlt]; exact HO2, HB2⟩
      case measure => simp [intOf]; omega
    · go_wp2
      go_ret
      obtain rfl : k = l.length := by omega
      have := hO.out
      rw [List.take_length] at this
      exact out_of_own hB.out this
set_option maxHeartbeats 400000 in
theorem iurl (v : Value) (l : List ByteArray) (F : Nat → Prop) (w : World) (hv : Kn.string.SV F w v l) : Calls Tryz.prog 51 #[v] w (RO w) := by
  obtain ⟨A, c, rfl, hl, hr⟩ := hv
  have hm := hr.1
  cases l with
  | nil =>
    clear hr
    go_enter Tryz.func51, Tryz.ntmps51
    go_wp2
    go_ret
    exact ⟨Below.refl _ _, _, rfl⟩
  | cons x l =>
    obtain ⟨ad, rfl, hc⟩ := str_get hr 0 (by simp)
    have h0 : ad.add 0 = ad := rfl
    rw [h0] at hc
    have hlen : ((((x :: l).length : Nat) : Int) == 0) = false := by simp; omega
    clear hr
    go_enter Tryz.func51, Tryz.ntmps51
    go_wp2
    go_ret
    exact ⟨below_alloc1 (Below.refl _ _) _, _, rfl⟩
theorem info9 : (Tryz.prog.info? 9).map (fun i => (i.zero, i.size, i.bytes)) = some (some (.string ⟨#[]⟩), 1, 16) := by kernel_rfl
theorem eql_nil {P : Program} (w : World) (t e : TypeId) (a : Option Addr) (l c : Nat) (h : P.underlying t = some (.slice e)) : (binOp .eql t (.slice a l c) (.slice Option.none 0 0)).run P w = .ok (.bool a.isNone) w := by
  simp only [binOp]
  simp [run_equal_slice_nil w t e a l c h]
set_option maxRecDepth 20000 in
set_option maxHeartbeats 1600000 in
theorem iclone (v : Value) (l : List ByteArray) (F : Nat → Prop) (w : World) (hv : Kn.string.SV F w v l) (hlen : l.length ≤ 137438953472) : Calls Tryz.prog 39 #[v] w (RS Kn.string l (fun b => w.heap.size ≤ b) w) := by
  obtain ⟨A, c, rfl, hl, hr⟩ := hv
  cases A with
  | none =>
    obtain rfl : l = [] := by
      rcases Nat.eq_zero_or_pos l.length with h | h
      · exact List.length_eq_zero_iff.1 h
      · obtain ⟨ad, e, _⟩ := hr.2 h
        cases e
    clear hr
    have hq := eql_nil w 25 9 Option.none 0 c Tryz.underlying25
    go_enter Tryz.func39, Tryz.ntmps39
    go_wp2
    go_ret
    exact ⟨Below.refl _ _, _, _, rfl, SV.nil _ _ _⟩
  | some ad =>
    have HY := Bx.mk (SV.step (⟨_, _, rfl, hl, hr⟩ : Kn.string.SV F w (.slice (some ad) l.length c) l) (by decide) (below_alloc1 (Below.refl _ _) (.cells #[] 9)))
    have HO := Bx.mk (Own.empty Kn.string 9 w w.heap.size (fun b => w.heap.size ≤ b) (Nat.le_refl _) (Nat.le_refl _))
    have HB := Bx.mk (below_alloc1 (Below.refl w.heap.size w) (.cells #[] 9))
    clear hr
    have hq := eql_nil w 25 9 (some ad) l.length c Tryz.underlying25
    go_enter Tryz.func39, Tryz.ntmps39
    go_wp2_with (at_builtin; refine app_all Kn.string (w := w) _ _ rfl _ _ 25 9 _ 16 rfl Tryz.underlying25 info9 rfl (by decide) (by decide) (by decide) _ [] l 0 rfl (some ad) l.length c rfl rfl rfl HY (fun _ _ h => h) HO HB (Nat.le_refl _) HB.out.size (fun _ h => h) (by omega) ?_; intro A5 c5 w5 HO5 HB5 HG5)
    go_ret
    have := HO5.out
    exact out_of_own HB5.out (by simpa using this)
theorem info2 : (Tryz.prog.info? 2).map (fun i => (i.zero, i.size, i.bytes)) = some (some (.int .i64 0), 1, 8) := by kernel_rfl
set_option maxRecDepth 20000 in
set_option maxHeartbeats 1600000 in
theorem iclone64 (v : Value) (l : List Int) (F : Nat → Prop) (w : World) (hv : kI.SV F w v l) (hlen : l.length ≤ 137438953472) : Calls Tryz.prog 58 #[v] w (RS kI l (fun b => w.heap.size ≤ b) w) := by
  obtain ⟨A, c, rfl, hl, hr⟩ := hv
  cases A with
  | none =>
    obtain rfl : l = [] := by
      rcases Nat.eq_zero_or_pos l.length with h | h
      · exact List.length_eq_zero_iff.1 h
      · obtain ⟨ad, e, _⟩ := hr.2 h
        cases e
    clear hr
    have hq := eql_nil w 81 2 Option.none 0 c Tryz.underlying81
    go_enter Tryz.func58, Tryz.ntmps58
    go_wp2
    go_ret
    exact ⟨Below.refl _ _, _, _, rfl, SV.nil _ _ _⟩
  | some ad =>
    have HY := Bx.mk (SV.step (⟨_, _, rfl, hl, hr⟩ : kI.SV F w (.slice (some ad) l.length c) l) (by decide) (below_alloc1 (Below.refl _ _) (.cells #[] 2)))
    have HO := Bx.mk (Own.empty kI 2 w w.heap.size (fun b => w.heap.size ≤ b) (Nat.le_refl _) (Nat.le_refl _))
    have HB := Bx.mk (below_alloc1 (Below.refl w.heap.size w) (.cells #[] 2))
    clear hr
    have hq := eql_nil w 81 2 (some ad) l.length c Tryz.underlying81
    go_enter Tryz.func58, Tryz.ntmps58
    go_wp2_with (at_builtin; refine app_all kI (w := w) _ _ rfl _ _ 81 2 _ 8 rfl Tryz.underlying81 info2 rfl (by decide) (by decide) (by decide) _ [] l 0 rfl (some ad) l.length c rfl rfl rfl HY (fun _ _ h => h) HO HB (Nat.le_refl _) HB.out.size (fun _ h => h) (by omega) ?_; intro A5 c5 w5 HO5 HB5 HG5)
    go_ret
    have := HO5.out
    exact out_of_own HB5.out (by simpa using this)
theorem info224 : (Tryz.prog.info? 224).map (fun i => (i.zero, i.size, i.bytes)) = some (some (.agg #[.bool false, .string ⟨#[]⟩, .int .u64 0]), 3, 32) := by kernel_rfl
set_option maxHeartbeats 400000 in
theorem ibws (v : Value) (l : List Bw) (D : Nat → Prop) (w : World) (hv : kBw.SV D w v l) (hlen : l.length ≤ 2147483647) : Calls Tryz.prog 55 #[v] w (RS kBw l (fun b => w.heap.size ≤ b) w) := by
  obtain ⟨A, c, rfl, hl, hr⟩ := hv
  have HR := Bx.mk hr
  clear hr
  go_enter Tryz.func55, Tryz.ntmps55
  go_wp2
  go_loopw [3, 8] (fun out i wr => ∃ k : Nat, k ≤ l.length ∧ i = .int .i64 k ∧ Bx (kBw.Own 224 wr w.heap.size (fun b => w.heap.size ≤ b) out (l.take k)) ∧ Bx (Below w.heap.size w wr)) (fun _ i _ => l.length - (intOf i).toNat)
  case atStart => exact ⟨0, Nat.zero_le _, rfl, ⟨Own.nil _ _ _ _ _⟩, ⟨Below.refl _ _⟩⟩
  case round =>
    obtain ⟨k, hk, rfl, hO, hB⟩ := hrel
    by_cases hlt : k < l.length
    · obtain ⟨ad, rfl, hc0, hc1, hc2⟩ := bw_get HR.out k hlt
      replace hc0 := cell_below hB.out hc0
      replace hc1 := cell_below hB.out hc1
      replace hc2 := cell_below hB.out hc2
      have HO1 := Bx.mk (own_alloc hO.out (.cells #[.bool l[k].exp, .string l[k].typ, .int .u64 l[k].n] 120))
      have HB1 := Bx.mk (below_alloc hB.out hB.out.size (.cells #[.bool l[k].exp, .string l[k].typ, .int .u64 l[k].n] 120))
      have HL : k + 1 ≤ 2147483648 := by omega
      have HM := Bx.mk (List.length_take_of_le hk)
      clear hO hB
      go_wp2_with (at_builtin; refine app_row kBw _ rfl _ _ 141 224 _ 32 rfl Tryz.underlying141 info224 rfl (by decide) (by decide) (by decide) u3 (l.take k) l[k] [.bool l[k].exp, .string l[k].typ, .int .u64 l[k].n] k HM.out _ rfl rfl (by simp) ⟨kBw_mk _ _ _⟩ HO1 HB1 (Nat.le_refl _) HB1.out.size (fun _ h => h) HL ?_; intro A1 c1 w1 HO2 HB2 _)
      go_roundw
      case rel => exact ⟨k + 1, by omega, by go_num, by rw [← take_snoc l k hlt]; exact HO2, HB2⟩
      case measure => simp [intOf]; omega
    · go_wp2
      go_ret
      obtain rfl : k = l.length := by omega
      have := hO.out
      rw [List.take_length] at this
      exact out_of_own hB.out this
end Go.Proofs.YtimonhimfioohaaGreatDoor
/-! A drawn region whose operations each leave a fact that stays true while memory grows; then one operation that may write (an append, a store, or the last one), then pure ones and a store. -/
namespace Go.Proofs.YtimonhimfioohaaGreatDoor
open Go Go.RowKit
/-- A fact on a value that stays true while memory grows. -/
structure Mono where
  p : Value → World → Prop
  up : ∀ {v w w'}, p v w → Below w.heap.size w w' → p v w'
def Mono.is (c : Value) : Mono := ⟨fun v _ => v = c, fun h _ => h⟩
def Mono.sat (q : Value → Prop) : Mono := ⟨fun v _ => q v, fun h _ => h⟩
section
variable {P : Program} {ops : Array Oper} {Q : Exit → Act → World → Prop}
/-- Does operation i wait for j, at some steps? -/
def anc (ops : Array Oper) : Nat → Nat → Nat → Bool
  | 0, _, _ => false
  | n + 1, i, j => match ops[i]? with
    | some o => (o.after.any fun e => Region.binds .any e && e.on == j) || (o.after.any fun e => Region.binds .any e && anc ops n e.on j)
    | none => false
theorem anc_spec {d : Nat → Bool} (hcl : ∀ j o', ops[j]? = some o' → d j = true → ∀ e ∈ o'.after, Region.binds .any e = true → d e.on = true) : ∀ n i j, anc ops n i j = true → d i = true → d j = true
  | 0, _, _, h, _ => by simp [anc] at h
  | n + 1, i, j, h, hd => by
    unfold anc at h
    cases ho : ops[i]? with
    | none => simp [ho] at h
    | some o =>
      simp only [ho, Bool.or_eq_true] at h
      rcases h with h | h
      · obtain ⟨e, he, hb⟩ := Array.any_eq_true'.1 h
        simp only [Bool.and_eq_true, beq_iff_eq] at hb
        exact hb.2 ▸ hcl i o ho hd e he hb.1
      · obtain ⟨e, he, hb⟩ := Array.any_eq_true'.1 h
        simp only [Bool.and_eq_true] at hb
        exact anc_spec hcl n e.on j hb.2 (hcl i o ho hd e he hb.1)
/-- Every direct need of what A needs, is needed by A. -/
def ancOk (ops : Array Oper) (m A : Nat) : Bool := (List.range ops.size).all fun i => !(anc ops m A i) || (match ops[i]? with | some o => o.after.all fun e => !Region.binds .any e || anc ops m A e.on | none => true)
theorem ancOk_spec {m A : Nat} (h : ancOk ops m A = true) {i : Nat} {o : Oper} (ho : ops[i]? = some o) (hi : anc ops m A i = true) : ∀ e ∈ o.after, Region.binds .any e = true → anc ops m A e.on = true := fun e he hb => by
  have hlt := (Array.getElem?_eq_some_iff.1 ho).1
  have := List.all_eq_true.1 h i (List.mem_range.2 hlt)
  simp only [hi, Bool.not_true, Bool.false_or, ho] at this
  have := Array.all_eq_true_iff_forall_mem.1 this e he
  simpa [hb] using this
theorem upd_at {t : Nat} {v : Value} {f : Nat → Value} {dst : Option Tmp} (h : dst = some t) : upd dst v f t = v := by
  subst h; rw [upd_if, if_pos rfl]
theorem upd_off {t : Nat} {v : Value} {f : Nat → Value} {dst : Option Tmp} (h : dst ≠ some t) : upd dst v f t = f t := by
  cases dst with
  | none => rfl
  | some s => rw [upd_if, if_neg]; intro e; exact h (by rw [e])
/-- The values told ahead: those of Fr. -/
def Tof (Fr : List Nat) (T : Nat → Option Value) (i : Nat) : Option Value := cond (Fr.contains i) (T i) Option.none
theorem not_both {b : Bool} (h : b = false) (h' : b = true) : False := by rw [h] at h'; cases h'
theorem region_app {id : Nat} {a0 : Act} {w0 : World} (hm : P.follows .mixedOrders = true) (ht : topo ops = true) (hd : dstOk ops a0.tmps.size = true) (hg : ops.all (fun o => o.guard.isNone) = true) (lit : (Nat → Value) → Array Value)
    (hlit : ∀ f : Nat → Value, ((List.range a0.tmps.size).map fun t => cond (writes ops t) (f t) (a0.eval (.tmp t))).toArray = lit f)
    (A : Nat) (S : Option Nat) (hanc : ancOk ops 30 A = true) (hSA : anc ops 30 A A = false ∧ S ≠ some A ∧ (∀ s, S = some s → anc ops 30 A s = false ∧ anc ops 30 s A = true)) (G : Nat → Mono) (Fr : List Nat) (T0 : Nat → Option Value)
    (hFr : ((List.range ops.size).all fun i => anc ops 30 A i || i == A || S == some i || Fr.contains i) = true) (hFr2 : (Fr.all fun i => !anc ops 30 A i && i != A && S != some i) = true) (Post : Value → World → Prop) (Fin : World → Prop)
    (pre : ∀ i o, ops[i]? = some o → anc ops 30 A i = true → ∀ a w, Below w0.drew.heap.size w0.drew w → (∀ t, writes ops t = false → a.eval (.tmp t) = a0.eval (.tmp t)) →
      (∀ (q : Nat) e, o.after[q]? = some e → Region.binds .any e = true → ∀ o' t, ops[e.on]? = some o' → o'.dst = some t → (G e.on).p (a.eval (.tmp t)) w) →
      o.wp P a w (fun a' w' => ∃ v, a' = a.put o.dst v ∧ (G i).p v w' ∧ Below w.heap.size w w') Q)
    (free : ∀ i, i ∈ Fr → ∀ o, ops[i]? = some o → ∀ a w, (∀ t, writes ops t = false → a.eval (.tmp t) = a0.eval (.tmp t)) →
      (∀ (q : Nat) e, o.after[q]? = some e → Region.binds .any e = true → ∀ o' t c, ops[e.on]? = some o' → o'.dst = some t → Tof Fr T0 e.on = some c → a.eval (.tmp t) = c) →
      ∃ c, Tof Fr T0 i = some c ∧ o.wp P a w (fun a' w' => a' = a.put o.dst c ∧ w' = w) Q)
    (app : ∀ o, ops[A]? = some o → ∀ a w, Below w0.drew.heap.size w0.drew w → (∀ t, writes ops t = false → a.eval (.tmp t) = a0.eval (.tmp t)) →
      (∀ j o' t, anc ops 30 A j = true → ops[j]? = some o' → o'.dst = some t → (G j).p (a.eval (.tmp t)) w) →
      o.wp P a w (fun a' w' => ∃ v, a' = a.put o.dst v ∧ Post v w') Q)
    (sto : ∀ s o, S = some s → ops[s]? = some o → ∀ a w, (∀ t, writes ops t = false → a.eval (.tmp t) = a0.eval (.tmp t)) →
      (∀ (q : Nat) e, o.after[q]? = some e → Region.binds .any e = true → ∀ o' t c, ops[e.on]? = some o' → o'.dst = some t → Tof Fr T0 e.on = some c → a.eval (.tmp t) = c) →
      (∃ v, (∀ o' t, ops[A]? = some o' → o'.dst = some t → a.eval (.tmp t) = v) ∧ Post v w) →
      o.wp P a w (fun a' w' => ∃ v, a' = a.put o.dst v ∧ Fin w') Q)
    (fin : ∀ (f : Nat → Value) w, (∀ j o' t v, ops[j]? = some o' → o'.dst = some t → Tof Fr T0 j = some v → f t = v) → (S = Option.none → ∃ v, (∀ o' t, ops[A]? = some o' → o'.dst = some t → f t = v) ∧ Post v w) → ((∃ s, S = some s ∧ s < ops.size) → Fin w) →
      A < ops.size → Q .normal { tmps := lit f, defers := a0.defers } w) (hA : A < ops.size) : (Code.region id ops true).wp P Q a0 w0 := by
  have hgd : ∀ (i : Nat) (o : Oper), ops[i]? = some o → o.guard = Option.none := fun i o ho => by
    have := Array.all_eq_true_iff_forall_mem.1 hg o (Array.mem_of_getElem? ho)
    simpa using this
  have hT : ∀ i, (anc ops 30 A i = true ∨ i = A ∨ S = some i) → Tof Fr T0 i = Option.none := by
    intro i hi
    unfold Tof
    cases hc : Fr.contains i
    · rfl
    · have := List.all_eq_true.1 hFr2 i (by simpa using hc)
      simp only [Bool.and_eq_true, Bool.not_eq_true', bne_iff_ne, ne_eq] at this
      rcases hi with hi | hi | hi
      · rw [this.1.1] at hi; cases hi
      · exact absurd hi this.1.2
      · exact absurd hi this.2
  refine region_rule2 hm ht hd lit hlit (Tof Fr T0) (fun d f w =>
    (d A = false → Below w0.drew.heap.size w0.drew w ∧ ∀ j o' t, anc ops 30 A j = true → d j = true → ops[j]? = some o' → o'.dst = some t → (G j).p (f t) w) ∧
    (d A = true → (∀ s, S = some s → d s = false) → ∃ v, (∀ o' t, ops[A]? = some o' → o'.dst = some t → f t = v) ∧ Post v w) ∧ (∀ s, S = some s → d s = true → Fin w)) ?_ ?_ ?_
  · exact ⟨fun _ => ⟨Below.refl _ _, fun _ _ _ _ h => absurd h (by simp)⟩, fun h => absurd h (by simp), fun _ _ h => absurd h (by simp)⟩
  · rintro i o ho d a w hdi hdep hcl hfr hTv ⟨h1, h2, h3⟩
    have huniq : ∀ {t}, o.dst = some t → ∀ j o', ops[j]? = some o' → j ≠ i → o'.dst ≠ some t := fun hdt => (dstOk_spec hd ho hdt).2
    have other : ∀ {v : Value} {j o' t}, ops[j]? = some o' → o'.dst = some t → j ≠ i → upd o.dst v (fun t => a.eval (.tmp t)) t = a.eval (.tmp t) := fun hj hjt hne => upd_off (fun e => huniq e _ _ hj hne hjt)
    have hdepT : ∀ (q : Nat) e, o.after[q]? = some e → Region.binds .any e = true → ∀ o' t c, ops[e.on]? = some o' → o'.dst = some t → Tof Fr T0 e.on = some c → a.eval (.tmp t) = c := fun q e he hb o' t c ho' ht hc => hTv _ o' t c ho' ht hc (hdep e (Array.mem_of_getElem? he) hb)
    by_cases hiA : i = A
    · subst hiA
      obtain ⟨hb, hgs⟩ := h1 hdi
      have key := app o ho a w hb hfr (fun j o' t hj ho' ht => hgs j o' t hj (by
        -- all that A waits for is done
        have : ∀ n k, (∀ e ∈ o.after, Region.binds .any e = true → d e.on = true) → anc ops n i k = true → d k = true := by
          intro n k hdd hk
          cases n with
          | zero => simp [anc] at hk
          | succ n =>
            unfold anc at hk
            simp only [ho, Bool.or_eq_true] at hk
            rcases hk with hk | hk
            · obtain ⟨e, he, hb⟩ := Array.any_eq_true'.1 hk
              simp only [Bool.and_eq_true, beq_iff_eq] at hb
              exact hb.2 ▸ hdd e he hb.1
            · obtain ⟨e, he, hb⟩ := Array.any_eq_true'.1 hk
              simp only [Bool.and_eq_true] at hb
              exact anc_spec hcl n e.on k hb.2 (hdd e he hb.1)
        exact this 30 j hdep hj) ho' ht)
      refine op_gen ho (hgd _ _ ho) (fun v w' => Post v w') (fun K' hK => ?_) (fun v w' hP => ⟨v, rfl, fun u hu => (by rw [hT i (.inr (.inl rfl))] at hu; cases hu), fun h => ?_, fun _ _ => ⟨v, fun o' t ho' ht => ?_, hP⟩, fun s hs hds => ?_⟩)
      · exact Oper.wp_mono (fun a' w' ⟨v, hv, hP⟩ => by rw [hv]; exact hK v w' hP) key
      · simp at h
      · rw [ho] at ho'; cases ho'; exact upd_at ht
      · -- S cannot be done before A
        simp only [Bool.or_eq_true, beq_iff_eq] at hds
        rcases hds with rfl | hds
        · exact absurd hs hSA.2.1
        · have := anc_spec hcl 30 s i (hSA.2.2 s hs).2 hds
          rw [hdi] at this; cases this
    · by_cases hiS : S = some i
      · have hdA : d A = true := by
          have : ∀ n, anc ops n i A = true → d A = true := by
            intro n hk
            cases n with
            | zero => simp [anc] at hk
            | succ n =>
              unfold anc at hk
              simp only [ho, Bool.or_eq_true] at hk
              rcases hk with hk | hk
              · obtain ⟨e, he, hb⟩ := Array.any_eq_true'.1 hk
                simp only [Bool.and_eq_true, beq_iff_eq] at hb
                exact hb.2 ▸ hdep e he hb.1
              · obtain ⟨e, he, hb⟩ := Array.any_eq_true'.1 hk
                simp only [Bool.and_eq_true] at hb
                exact anc_spec hcl n e.on A hb.2 (hdep e he hb.1)
          exact this 30 (hSA.2.2 i hiS).2
        have hp := h2 hdA (fun s hs => by rw [hiS] at hs; cases hs; exact hdi)
        have key := sto i o hiS ho a w hfr hdepT hp
        refine op_gen ho (hgd _ _ ho) (fun v w' => Fin w') (fun K' hK => ?_) (fun v w' hF => ⟨v, rfl, fun u hu => (by rw [hT i (.inr (.inr hiS))] at hu; cases hu), fun h => ?_, fun _ hs => ?_, fun _ _ _ => hF⟩)
        · exact Oper.wp_mono (fun a' w' ⟨v, hv, hP⟩ => by rw [hv]; exact hK v w' hP) key
        · simp [hdA] at h
        · have := hs i hiS; simp at this
      · by_cases hpre : anc ops 30 A i = true
        · have hdA : d A = false := by
            cases hda : d A
            · rfl
            · have := anc_spec hcl 30 A i hpre hda
              rw [hdi] at this; cases this
          obtain ⟨hb, hgs⟩ := h1 hdA
          have key := pre i o ho hpre a w hb hfr (fun q e he hbd o' t ho' ht => hgs e.on o' t (ancOk_spec hanc ho hpre e (Array.mem_of_getElem? he) hbd) (hdep e (Array.mem_of_getElem? he) hbd) ho' ht)
          refine op_gen ho (hgd _ _ ho) (fun v w' => (G i).p v w' ∧ Below w.heap.size w w') (fun K' hK => ?_) (fun v w' hP => ⟨v, rfl, fun u hu => (by rw [hT i (.inl hpre)] at hu; cases hu), fun _ => ⟨below_trans hb hP.2, fun j o' t hj hdj ho' ht => ?_⟩, fun h => ?_, fun s hs hds => ?_⟩)
          · exact Oper.wp_mono (fun a' w' ⟨v, hv, hP⟩ => by rw [hv]; exact hK v w' hP) key
          · by_cases hji : j = i
            · subst hji
              rw [ho] at ho'; cases ho'
              rw [upd_at ht]
              exact hP.1
            · rw [other ho' ht hji]
              simp only [Bool.or_eq_true, beq_iff_eq, hji, false_or] at hdj
              exact (G j).up (hgs j o' t hj hdj ho' ht) hP.2
          · simp [Ne.symm hiA, hdA] at h
          · simp only [Bool.or_eq_true, beq_iff_eq] at hds
            rcases hds with rfl | hds
            · exact absurd hs hiS
            · have := anc_spec hcl 30 s A (hSA.2.2 s hs).2 hds
              rw [hdA] at this; cases this
        · have hpf : anc ops 30 A i = false := by simpa using hpre
          obtain ⟨c, hc, key⟩ := free i (by
            have := List.all_eq_true.1 hFr i (List.mem_range.2 (Array.getElem?_eq_some_iff.1 ho).1)
            simp only [hpf, Bool.false_or, Bool.or_eq_true, beq_iff_eq, List.contains_iff_mem] at this
            rcases this with (h | h) | h
            · exact absurd h hiA
            · exact absurd h hiS
            · exact h) o ho a w hfr hdepT
          refine op_gen ho (hgd _ _ ho) (fun v w' => v = c ∧ w' = w) (fun K' hK => ?_) (fun v w' hP => ?_)
          · exact Oper.wp_mono (fun a' w' ⟨hv, hw⟩ => by rw [hv]; exact hK c w' ⟨rfl, hw⟩) key
          · obtain ⟨rfl, rfl⟩ := hP
            refine ⟨v, rfl, fun u hu => (by rw [hc] at hu; exact Option.some.inj hu), fun h => ?_, fun h hs => ?_, fun s hs hds => ?_⟩
            · have hdA : d A = false := by simpa [Ne.symm hiA] using h
              obtain ⟨hb, hgs⟩ := h1 hdA
              refine ⟨hb, fun j o' t hj hdj ho' ht => ?_⟩
              have hji : j ≠ i := by rintro rfl; rw [hpf] at hj; cases hj
              rw [other ho' ht hji]
              exact hgs j o' t hj (by simpa [hji] using hdj) ho' ht
            · have hdA : d A = true := by simpa [Ne.symm hiA] using h
              obtain ⟨v', hv', hP'⟩ := h2 hdA (fun s hs' => by have := hs s hs'; simp at this; exact this.2)
              exact ⟨v', fun o' t ho' ht => by rw [other ho' ht (Ne.symm hiA)]; exact hv' o' t ho' ht, hP'⟩
            · simp only [Bool.or_eq_true, beq_iff_eq] at hds
              rcases hds with rfl | hds
              · exact absurd hs hiS
              · exact h3 s hs hds
  · rintro d f w hall hTv ⟨h1, h2, h3⟩
    refine fin f w hTv (fun hS => h2 (hall A hA) (fun s hs => by rw [hS] at hs; cases hs)) (fun ⟨s, hs, hlt⟩ => h3 s hs (hall s hlt)) hA
/-- One operation among those that only grow memory: its value is told. -/
theorem mstep_val {M : Mono} {o : Oper} {a : Act} {w : World} (v : Value) (h1 : ∀ K' : Act → World → Prop, K' (a.put o.dst v) w → o.wp P a w K' Q) (h2 : M.p v w) :
    o.wp P a w (fun a' w' => ∃ v, a' = a.put o.dst v ∧ M.p v w' ∧ Below w.heap.size w w') Q := h1 _ ⟨v, rfl, h2, Below.refl _ _⟩
theorem mstep_gen {M : Mono} {o : Oper} {a : Act} {w : World} (Gv : Value → World → Prop) (h1 : ∀ K' : Act → World → Prop, (∀ v w', Gv v w' → K' (a.put o.dst v) w') → o.wp P a w K' Q) (h2 : ∀ v w', Gv v w' → M.p v w' ∧ Below w.heap.size w w') :
    o.wp P a w (fun a' w' => ∃ v, a' = a.put o.dst v ∧ M.p v w' ∧ Below w.heap.size w w') Q := h1 _ fun v w' h => ⟨v, rfl, h2 v w' h⟩
theorem fstep_val {T : Option Value} {o : Oper} {a : Act} {w : World} (v : Value) (h1 : ∀ K' : Act → World → Prop, K' (a.put o.dst v) w → o.wp P a w K' Q) (h2 : T = some v) :
    ∃ c, T = some c ∧ o.wp P a w (fun a' w' => a' = a.put o.dst c ∧ w' = w) Q := ⟨v, h2, h1 _ ⟨rfl, rfl⟩⟩
theorem astep_gen {o : Oper} {a : Act} {w : World} {Post : Value → World → Prop} (h1 : ∀ K' : Act → World → Prop, (∀ v w', Post v w' → K' (a.put o.dst v) w') → o.wp P a w K' Q) :
    o.wp P a w (fun a' w' => ∃ v, a' = a.put o.dst v ∧ Post v w') Q := h1 _ fun v _w' h => ⟨v, rfl, h⟩
theorem sstep_gen {o : Oper} {a : Act} {w : World} {Fin : World → Prop} (h1 : ∀ K' : Act → World → Prop, (∀ v w', Fin w' → K' (a.put o.dst v) w') → o.wp P a w K' Q) :
    o.wp P a w (fun a' w' => ∃ v, a' = a.put o.dst v ∧ Fin w') Q := h1 _ fun v _w' h => ⟨v, rfl, h⟩
end
end Go.Proofs.YtimonhimfioohaaGreatDoor
/-! impl.connection. -/
namespace Go.Proofs.YtimonhimfioohaaGreatDoor
open Go Go.RowKit Go.PlainAid Kn
set_option maxRecDepth 10000 in
set_option maxHeartbeats 3200000 in
theorem icon (v : Value) (l : List Con) (F : Nat → Prop) (w : World) (hv : kCon.SV F w v l) : Calls Tryz.prog 54 #[v] w (RO w) := by
  obtain ⟨A, c, rfl, hl, hr⟩ := hv
  have hm := hr.1
  cases l with
  | nil =>
    clear hr
    go_enter Tryz.func54, Tryz.ntmps54
    go_wp2
    go_ret
    exact ⟨Below.refl _ _, _, rfl⟩
  | cons x l =>
    obtain ⟨ad, Av, cv, rfl, hc0, hc1, hc2, hx⟩ := con_get hr 0 (by simp)
    have h0 : ad.add (0 * 3) = ad := by simp [Addr.add]
    rw [h0] at hc0 hc1 hc2
    simp only [List.getElem_cons_zero] at hc0 hc1 hc2 hx
    have hlen : ((((x :: l).length : Nat) : Int) == 0) = false := by simp; omega
    have HX := Bx.mk hx
    have hB1 : Below w.heap.size w ((w.alloc (.cells #[.string x.net, .string x.addr, .pointer Option.none] 219)).drew) := Below.drew (below_alloc1 (Below.refl _ _) _)
    have hc2' := cell_below hB1 hc2
    have HB1 := Bx.mk hB1
    clear hr hx hB1
    by_cases hp : 0 < x.adr.length
    case neg =>
      go_enter Tryz.func54, Tryz.ntmps54
      go_wp2
      go_still_tail 9, (by kernel_rfl)
      go_wp2
      go_ret
      exact ⟨HB1.out, _, rfl⟩
    obtain ⟨A2, c2, he, hl2, hr2⟩ := HX.out
    simp only [Value.slice.injEq, true_and] at he
    obtain ⟨rfl, rfl⟩ := he
    obtain ⟨ad2, A3, c3, A4, c4, rfl, hd0, hd1, hd2, hs1, hs2⟩ := adr_get hr2 0 hp
    have h02 : ad2.add (0 * 3) = ad2 := by simp [Addr.add]
    rw [h02] at hd0 hd1 hd2
    obtain ⟨wA, hwA⟩ : ∃ wA, wA = (w.alloc (.cells #[.string x.net, .string x.addr, .pointer Option.none] 219)).drew := ⟨_, rfl⟩
    have HB2 : Below w.heap.size w wA.drew := hwA ▸ Below.drew HB1.out
    have HD0 := Bx.mk (cell_below HB2 hd0)
    have HD1 := Bx.mk (cell_below HB2 hd1)
    have HD2 := Bx.mk (cell_below HB2 hd2)
    have HS1 := Bx.mk (hs1.step (by decide) HB2)
    have HS2 := Bx.mk (hs2.step (by decide) HB2)
    have hg : wA.drew.heap[w.heap.size]? = some (.cells #[.string x.net, .string x.addr, .pointer Option.none] 219) := by rw [hwA]; exact heap_alloc_new w _
    have HG := Bx.mk hg
    replace HB1 := Bx.mk HB2
    have HE := Bx.mk hwA
    clear hs1 hs2 hr2 hd0 hd1 hd2 hg hwA HB2
    go_enter Tryz.func54, Tryz.ntmps54
    go_wp2
    go_still_tail 9, (by kernel_rfl)
    go_upto_region 6 with fail
    rw [← HE.out]
    clear HE
    refine region_app (by kernel_rfl) (by kernel_rfl) (by kernel_rfl) (by kernel_rfl) (fun f => #[.slice (some ad) (l.length + 1) c, undef, .pointer Option.none, .pointer (some ⟨w.heap.size, 0, Option.none⟩), .slice (some ad2) x.adr.length cv, .slice (some ad) (l.length + 1) c, .int .i64 (l.length + 1), .bool false, .slice (some ad) (l.length + 1) c, .pointer (some ad), .pointer (some ad), .string x.net, .slice (some ad) (l.length + 1) c, .pointer (some ad), .pointer (some ⟨ad.block, ad.off + 1, Option.none⟩), .string x.addr, .agg #[.string x.net, .string x.addr, .pointer Option.none], .pointer (some ⟨w.heap.size, 0, Option.none⟩), .slice (some ad) (l.length + 1) c, .pointer (some ad), .pointer (some ⟨ad.block, ad.off + 2, Option.none⟩), .slice (some ad2) x.adr.length cv, .slice (some ad2) x.adr.length cv, .int .i64 x.adr.length, .bool true, f 25, f 26, f 27, f 28, f 29, f 30, f 31, f 32, f 33, f 34, f 35, f 36, f 37, f 38, f 39, f 40, f 41, f 42, f 43, undef]) (fun f => by kernel_rfl) 19 (Option.none) (by kernel_rfl) ⟨by kernel_rfl, by simp, fun s hs => by cases hs⟩ (fun i => match i with | 0 => Mono.is (.pointer (some ⟨w.heap.size, 0, Option.none⟩)) | 1 => Mono.is (.slice (some ad2) x.adr.length cv) | 2 => Mono.is (.pointer (some ad2)) | 3 => Mono.is (.pointer (some ad2)) | 4 => Mono.is (.string x.adr[0].a) | 5 => Mono.is (.slice (some ad2) x.adr.length cv) | 6 => Mono.is (.pointer (some ad2)) | 7 => Mono.is (.pointer (some ⟨ad2.block, ad2.off + 1, Option.none⟩)) | 8 => Mono.is (.slice A3 x.adr[0].ttl.length c3) | 9 => Mono.sat (fun v => ∃ p, v = .pointer p) | 10 => Mono.is (.slice (some ad2) x.adr.length cv) | 11 => Mono.is (.pointer (some ad2)) | 12 => Mono.is (.pointer (some ⟨ad2.block, ad2.off + 2, Option.none⟩)) | 13 => Mono.is (.slice A4 x.adr[0].rng.length c4) | 14 => Mono.sat (fun v => ∃ p, v = .pointer p) | 15 => Mono.sat (fun v => ∃ p q, v = .agg #[.string x.adr[0].a, .pointer p, .pointer q]) | 16 => Mono.sat (fun v => ∃ p, v = .pointer p) | 17 => Mono.is (.pointer (some ⟨w.heap.size, 0, Option.none⟩)) | 18 => Mono.is (.pointer (some ⟨w.heap.size, 2, Option.none⟩)) | _ => Mono.is undef) [] (fun i => match i with  | _ => Option.none) (by kernel_rfl) (by kernel_rfl) (fun _ w' => Below w.heap.size w w') (fun _ => True) ?_ ?_ ?_ ?_ ?_ (by decide)
    · intro i o ho hanc a wx hb hfr hv
      match i, ho with
      | 0, ho =>
        rw [← Array.getElem?_toList] at ho
        simp only [List.getElem?_cons_zero, Option.some.injEq] at ho
        subst ho
        have e3 : a.tmps[3]?.getD undef = .pointer (some ⟨w.heap.size, 0, Option.none⟩) := (eval_tmp a 3).trans (hfr 3 (by decide +kernel))
        clear hfr hv hanc hb
        refine mstep_val (.pointer (some ⟨w.heap.size, 0, Option.none⟩)) (fun K' hK => ?_) (by exact rfl)
        go_simp
        exact hK
      | 1, ho =>
        rw [← Array.getElem?_toList] at ho
        simp only [List.getElem?_cons_zero, List.getElem?_cons_succ, Option.some.injEq] at ho
        subst ho
        have e4 : a.tmps[4]?.getD undef = .slice (some ad2) x.adr.length cv := (eval_tmp a 4).trans (hfr 4 (by decide +kernel))
        clear hfr hv hanc hb
        refine mstep_val (.slice (some ad2) x.adr.length cv) (fun K' hK => ?_) (by exact rfl)
        go_simp
        exact hK
      | 2, ho =>
        rw [← Array.getElem?_toList] at ho
        simp only [List.getElem?_cons_zero, List.getElem?_cons_succ, Option.some.injEq] at ho
        subst ho
        have e26 := (eval_tmp a 26).trans (hv 0 _ rfl rfl _ 26 rfl rfl)
        clear hfr hv hanc hb
        refine mstep_val (.pointer (some ad2)) (fun K' hK => ?_) (by exact rfl)
        go_simp
        exact hK
      | 3, ho =>
        rw [← Array.getElem?_toList] at ho
        simp only [List.getElem?_cons_zero, List.getElem?_cons_succ, Option.some.injEq] at ho
        subst ho
        have e27 := (eval_tmp a 27).trans (hv 0 _ rfl rfl _ 27 rfl rfl)
        clear hfr hv hanc hb
        refine mstep_val (.pointer (some ad2)) (fun K' hK => ?_) (by exact rfl)
        go_simp
        exact hK
      | 4, ho =>
        rw [← Array.getElem?_toList] at ho
        simp only [List.getElem?_cons_zero, List.getElem?_cons_succ, Option.some.injEq] at ho
        subst ho
        have e28 := (eval_tmp a 28).trans (hv 0 _ rfl rfl _ 28 rfl rfl)
        have c0 := cell_below hb HD0.out
        clear hfr hv hanc hb
        refine mstep_val (.string x.adr[0].a) (fun K' hK => ?_) (by exact rfl)
        go_simp
        exact hK
      | 5, ho =>
        rw [← Array.getElem?_toList] at ho
        simp only [List.getElem?_cons_zero, List.getElem?_cons_succ, Option.some.injEq] at ho
        subst ho
        have e4 : a.tmps[4]?.getD undef = .slice (some ad2) x.adr.length cv := (eval_tmp a 4).trans (hfr 4 (by decide +kernel))
        clear hfr hv hanc hb
        refine mstep_val (.slice (some ad2) x.adr.length cv) (fun K' hK => ?_) (by exact rfl)
        go_simp
        exact hK
      | 6, ho =>
        rw [← Array.getElem?_toList] at ho
        simp only [List.getElem?_cons_zero, List.getElem?_cons_succ, Option.some.injEq] at ho
        subst ho
        have e30 := (eval_tmp a 30).trans (hv 0 _ rfl rfl _ 30 rfl rfl)
        clear hfr hv hanc hb
        refine mstep_val (.pointer (some ad2)) (fun K' hK => ?_) (by exact rfl)
        go_simp
        exact hK
      | 7, ho =>
        rw [← Array.getElem?_toList] at ho
        simp only [List.getElem?_cons_zero, List.getElem?_cons_succ, Option.some.injEq] at ho
        subst ho
        have e31 := (eval_tmp a 31).trans (hv 0 _ rfl rfl _ 31 rfl rfl)
        clear hfr hv hanc hb
        refine mstep_val (.pointer (some ⟨ad2.block, ad2.off + 1, Option.none⟩)) (fun K' hK => ?_) (by exact rfl)
        go_simp
        exact hK
      | 8, ho =>
        rw [← Array.getElem?_toList] at ho
        simp only [List.getElem?_cons_zero, List.getElem?_cons_succ, Option.some.injEq] at ho
        subst ho
        have e32 := (eval_tmp a 32).trans (hv 0 _ rfl rfl _ 32 rfl rfl)
        have c0 := cell_below hb HD1.out
        clear hfr hv hanc hb
        refine mstep_val (.slice A3 x.adr[0].ttl.length c3) (fun K' hK => ?_) (by exact rfl)
        go_simp
        exact hK
      | 9, ho =>
        rw [← Array.getElem?_toList] at ho
        simp only [List.getElem?_cons_zero, List.getElem?_cons_succ, Option.some.injEq] at ho
        subst ho
        have e33 := (eval_tmp a 33).trans (hv 0 _ rfl rfl _ 33 rfl rfl)
        refine mstep_gen (fun v w' => Below wx.heap.size wx w' ∧ ∃ p, v = .pointer p) (fun K' hK => ?_) (fun v w' hG => ?_)
        · clear hfr hv hanc
          have hK' := Bx.mk hK
          have HY := Bx.mk (HS1.out.step (by decide) hb)
          clear hK hb
          go_simp
          refine (inumber _ _ F _ HY.out).mono ?_
          rintro e w2 ⟨hb, p, rfl⟩
          exact hK'.out _ _ ⟨hb, p, rfl⟩
        · exact ⟨hG.2, hG.1⟩
      | 10, ho =>
        rw [← Array.getElem?_toList] at ho
        simp only [List.getElem?_cons_zero, List.getElem?_cons_succ, Option.some.injEq] at ho
        subst ho
        have e4 : a.tmps[4]?.getD undef = .slice (some ad2) x.adr.length cv := (eval_tmp a 4).trans (hfr 4 (by decide +kernel))
        clear hfr hv hanc hb
        refine mstep_val (.slice (some ad2) x.adr.length cv) (fun K' hK => ?_) (by exact rfl)
        go_simp
        exact hK
      | 11, ho =>
        rw [← Array.getElem?_toList] at ho
        simp only [List.getElem?_cons_zero, List.getElem?_cons_succ, Option.some.injEq] at ho
        subst ho
        have e35 := (eval_tmp a 35).trans (hv 0 _ rfl rfl _ 35 rfl rfl)
        clear hfr hv hanc hb
        refine mstep_val (.pointer (some ad2)) (fun K' hK => ?_) (by exact rfl)
        go_simp
        exact hK
      | 12, ho =>
        rw [← Array.getElem?_toList] at ho
        simp only [List.getElem?_cons_zero, List.getElem?_cons_succ, Option.some.injEq] at ho
        subst ho
        have e36 := (eval_tmp a 36).trans (hv 0 _ rfl rfl _ 36 rfl rfl)
        clear hfr hv hanc hb
        refine mstep_val (.pointer (some ⟨ad2.block, ad2.off + 2, Option.none⟩)) (fun K' hK => ?_) (by exact rfl)
        go_simp
        exact hK
      | 13, ho =>
        rw [← Array.getElem?_toList] at ho
        simp only [List.getElem?_cons_zero, List.getElem?_cons_succ, Option.some.injEq] at ho
        subst ho
        have e37 := (eval_tmp a 37).trans (hv 0 _ rfl rfl _ 37 rfl rfl)
        have c0 := cell_below hb HD2.out
        clear hfr hv hanc hb
        refine mstep_val (.slice A4 x.adr[0].rng.length c4) (fun K' hK => ?_) (by exact rfl)
        go_simp
        exact hK
      | 14, ho =>
        rw [← Array.getElem?_toList] at ho
        simp only [List.getElem?_cons_zero, List.getElem?_cons_succ, Option.some.injEq] at ho
        subst ho
        have e38 := (eval_tmp a 38).trans (hv 0 _ rfl rfl _ 38 rfl rfl)
        refine mstep_gen (fun v w' => Below wx.heap.size wx w' ∧ ∃ p, v = .pointer p) (fun K' hK => ?_) (fun v w' hG => ?_)
        · clear hfr hv hanc
          have hK' := Bx.mk hK
          have HY := Bx.mk (HS2.out.step (by decide) hb)
          clear hK hb
          go_simp
          refine (inumber _ _ F _ HY.out).mono ?_
          rintro e w2 ⟨hb, p, rfl⟩
          exact hK'.out _ _ ⟨hb, p, rfl⟩
        · exact ⟨hG.2, hG.1⟩
      | 15, ho =>
        rw [← Array.getElem?_toList] at ho
        simp only [List.getElem?_cons_zero, List.getElem?_cons_succ, Option.some.injEq] at ho
        subst ho
        have e29 := (eval_tmp a 29).trans (hv 0 _ rfl rfl _ 29 rfl rfl)
        obtain ⟨p, e34⟩ := (hv 1 _ rfl rfl _ 34 rfl rfl)
        obtain ⟨q, e39⟩ := (hv 2 _ rfl rfl _ 39 rfl rfl)
        replace e34 := (eval_tmp a 34).trans e34
        replace e39 := (eval_tmp a 39).trans e39
        refine mstep_gen (fun v w' => w' = wx ∧ v = .agg #[.string x.adr[0].a, .pointer p, .pointer q]) (fun K' hK => ?_) (fun v w' hG => ?_)
        · clear hfr hv hanc
          clear hb
          go_simp
          exact hK _ _ ⟨rfl, rfl⟩
        · obtain ⟨rfl, rfl⟩ := hG
          exact ⟨⟨_, _, rfl⟩, Below.refl _ _⟩
      | 16, ho =>
        rw [← Array.getElem?_toList] at ho
        simp only [List.getElem?_cons_zero, List.getElem?_cons_succ, Option.some.injEq] at ho
        subst ho
        obtain ⟨p, q, e40⟩ := (hv 0 _ rfl rfl _ 40 rfl rfl)
        replace e40 := (eval_tmp a 40).trans e40
        refine mstep_gen (fun v w' => Below wx.heap.size wx w' ∧ ∃ p, v = .pointer p) (fun K' hK => ?_) (fun v w' hG => ?_)
        · clear hfr hv hanc
          clear hb
          go_simp
          exact hK _ _ ⟨below_alloc1 (Below.refl _ _) _, _, rfl⟩
        · exact ⟨hG.2, hG.1⟩
      | 17, ho =>
        rw [← Array.getElem?_toList] at ho
        simp only [List.getElem?_cons_zero, List.getElem?_cons_succ, Option.some.injEq] at ho
        subst ho
        have e25 := (eval_tmp a 25).trans (hv 0 _ rfl rfl _ 25 rfl rfl)
        clear hfr hv hanc hb
        refine mstep_val (.pointer (some ⟨w.heap.size, 0, Option.none⟩)) (fun K' hK => ?_) (by exact rfl)
        go_simp
        exact hK
      | 18, ho =>
        rw [← Array.getElem?_toList] at ho
        simp only [List.getElem?_cons_zero, List.getElem?_cons_succ, Option.some.injEq] at ho
        subst ho
        have e42 := (eval_tmp a 42).trans (hv 0 _ rfl rfl _ 42 rfl rfl)
        clear hfr hv hanc hb
        refine mstep_val (.pointer (some ⟨w.heap.size, 2, Option.none⟩)) (fun K' hK => ?_) (by exact rfl)
        go_simp
        exact hK
      | 19, ho => exact (not_both (by kernel_rfl) hanc).elim
      | n + 20, ho => cases ho
    · intro i hi
      cases hi
    · intro o ho a wx hb hfr hv
      rw [← Array.getElem?_toList] at ho
      simp only [List.getElem?_cons_zero, List.getElem?_cons_succ, Option.some.injEq] at ho
      subst ho
      obtain ⟨p, e41⟩ := (hv 16 _ 41 (by kernel_rfl) rfl rfl)
      replace e41 := (eval_tmp a 41).trans e41
      have e43 := (eval_tmp a 43).trans (hv 18 _ 43 (by kernel_rfl) rfl rfl)
      have hG := heap_below hb HG.out
      have hg5 : wx.cell? ⟨w.heap.size, 2, Option.none⟩ = some (.pointer Option.none) := by rw [blk_cell hG]; rfl
      have hf5 := blk_frozen hG 2
      have HW := Bx.mk ((below_trans HB1.out hb).setCell (p := ⟨w.heap.size, 2, Option.none⟩) (Nat.le_refl _) (.pointer p))
      clear hfr hv hb hG
      refine astep_gen (fun K' hK => ?_)
      go_simp
      exact hK undef _ HW.out
    · intro s o hs
      cases hs
    · intro f wx hTf hP hF _
      obtain ⟨_, _, hW⟩ := hP rfl
      have HBW := Bx.mk hW
      clear hTf hP hF hW
      dsimp only
      go_wp2
      go_ret
      exact ⟨HBW.out, _, rfl⟩
end Go.Proofs.YtimonhimfioohaaGreatDoor
