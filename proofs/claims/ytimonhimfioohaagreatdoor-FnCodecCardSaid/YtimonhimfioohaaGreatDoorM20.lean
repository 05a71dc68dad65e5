/- Lemmas on which the proof of Rows.FnCodecCardSaid rests: no statement of the seat is proved in this file. Conditions: each lemma's own hypotheses, no others. -/
import Derived.Test.YtimonhimfioohaaGreatDoorM18
import Derived.Test.YtimonhimfioohaaGreatDoorM19
import Derived.Defers
import Derived.Recover
import Derived.Test.YtimonhimfioohaaGreatDoorM00
import Derived.ProofKit
import Derived.ReadAgain
import Derived.OpenShut
import Derived.Test.YtimonhimfioohaaGreatDoorM10
import Derived.Test.YtimonhimfioohaaGreatDoorM16
import Derived.LaidLaws
import Derived.MakeChecks
import Derived.Shelf.Vars
import Derived.Test.YtimonhimfioohaaGreatDoorRows
import Derived.JoinedOf
/-! works(). -/
namespace Go.Proofs.YtimonhimfioohaaGreatDoor
open Go Go.RowKit Go.PlainAid Kn
theorem results_cell_row2 {P : Program} {fn : Func} {p s : Tmp} {ty : TypeId} (h : fn.results = #[.cell p ty, .tmp s]) (tmps : Array Value) (w : World) (g : Nat) (t : TypeId) (cs : Array Value) (fr : Nat × Nat) (d : TypeDesc)
    (hp : tmps.getD p undef = .pointer (some ⟨g, 0, Option.none⟩)) (hg : w.heap[g]? = some (.cells cs t fr))
    (hu : P.underlying ty = some d) (hd : (match d with | .struct _ | .array _ _ => true | _ => false) = true) (hi : (P.info? ty).map (·.size) = some cs.size) :
    (results fn tmps).run P w = .ok (.tuple #[.agg cs, tmps.getD s undef]) w := by
  have hp' : tmps[p]?.getD undef = .pointer (some ⟨g, 0, Option.none⟩) := by simpa using hp
  simp [results, h, hp', asAddr, run_loadVar_row w g t ty cs fr d hg hu hd hi]
theorem catch_idle (p : Addr) (w : World) :
    CallsD Tryz.prog 70 #[.pointer (some p)] .returning w fun e u' w' => e = .returned (.tuple #[]) ∧ u' = .returning ∧ w' = w := by
  refine callsD_of_wpS Tryz.func70 rfl fun c₀ cs hu => ?_
  apply wpS_seq
  apply wpS_region
  simp [wpOpsS, go_sem, recoverD, hu, Tryz.ntmps70, Exit.thenS]
  refine wpS_cond (t := false) (by simp [Act.eval, Array.replicate]) ?_
  simp only [Bool.false_eq_true, if_false]
  refine wpS_of_wp (wp_skip ?_)
  cases c₀
  simp_all [bodyPostS, results, Tryz.results70]
set_option maxHeartbeats 800000 in
theorem um1_calls (B ds tx : Nat) (t : ByteArray) (av : Addr) (w : World) (ht : t = leastT) (h5 : 5 < B) (hB : B ≤ ds) (hd : w.heap[ds]? = some (.cells zDesc 148)) (he : EofC av w) (hx : w.cell? ⟨tx, 0, Option.none⟩ = some (.string t)) :
    Calls Tryz.prog 47 #[.pointer (some ⟨ds, 0, Option.none⟩), .pointer (some ⟨tx, 0, Option.none⟩)] w fun e w' => (∃ A c, Keep ds w w' ∧ w'.heap[ds]? = some (.cells (lDesc A c) 148) ∧ kTd.SV (fun b => w.heap.size ≤ b) w' (.slice A 1 c) [()]) ∧ e = .returned (.bool true) := by
  have HU := Bx.mk (ustring_calls B ds t av w ht h5 hB hd he)
  clear ht hd he
  go_enter Tryz.func47, Tryz.ntmps47
  go_wp2_with (fail)
  refine HU.out.mono ?_
  rintro e w1 ⟨hr, rfl⟩
  have HR := Bx.mk hr
  clear hr
  go_wp2
  go_ret
  exact ⟨HR.out, rfl⟩
set_option maxRecDepth 20000 in
set_option maxHeartbeats 800000 in
theorem try_calls (B ds tx : Nat) (t : ByteArray) (av : Addr) (w : World) (ht : t = leastT) (h5 : 5 < B) (hB : B ≤ ds) (hd : w.heap[ds]? = some (.cells zDesc 148)) (he : EofC av w) (hx : w.cell? ⟨tx, 0, Option.none⟩ = some (.string t)) :
    Calls Tryz.prog 46 #[.func (.func 47) #[] #[.pointer (some ⟨ds, 0, Option.none⟩), .pointer (some ⟨tx, 0, Option.none⟩)]] w fun e w' => (∃ A c, Keep ds w w' ∧ w'.heap[ds]? = some (.cells (lDesc A c) 148) ∧ kTd.SV (fun b => w.heap.size ≤ b) w' (.slice A 1 c) [()]) ∧ e = .returned (.bool true) := by
  have hmf : ∀ (fn : Fn) (first cap : Array Value) (w : World), (Instr.makeFunc fn first cap).run Tryz.prog w = .ok (.func fn first cap) w := fun _ _ _ _ => rfl
  have hb := below_alloc1 (Below.refl w.heap.size w) (.cells #[.bool false] 4)
  have hlt := blk_lt hd
  have HU := Bx.mk (um1_calls B ds tx t av (w.alloc (.cells #[.bool false] 4)) ht h5 hB (heap_below hb hd) (cell_below hb he) (cell_below hb hx))
  have HN := Bx.mk (heap_alloc_new w (.cells #[.bool false] 4))
  clear ht hd he hx hb
  go_enter_defers Tryz.func46, Tryz.ntmps46
  go_wp2_with (fail)
  refine HU.out.mono ?_
  rintro e w1 ⟨⟨A, c, hk, hd1, hv⟩, rfl⟩
  have hr := (hk.block w.heap.size (blk_lt HN.out) (by omega)).trans HN.out
  have c0 := (blk_cell hr 0).trans rfl
  have f0 := blk_frozen hr 0
  have hk2 : Keep ds w w1 := (Keep.alloc w _).trans hk
  have HK := Bx.mk hk2
  have HD := Bx.mk hd1
  have HV := Bx.mk hv
  have HR := Bx.mk hr
  clear hk hd1 hv hr hk2 HU HN
  go_wp2
  have hr2 := blk_set HR.out 0 (.bool true)
  have hks : Keep w.heap.size w1 (w1.setCell ⟨w.heap.size, 0, Option.none⟩ (.bool true)) := Keep.set _
  have hd2 := (hks.block ds (blk_lt HD.out) (by omega)).trans HD.out
  obtain ⟨W, hW⟩ : ∃ W, W = w1.setCell ⟨w.heap.size, 0, Option.none⟩ (.bool true) := ⟨_, rfl⟩
  rw [← hW] at hr2 hks hd2 ⊢
  refine leaves_cons (f := 70) (args := #[.pointer (some ⟨w.heap.size, 0, Option.none⟩)]) (by simp) (by simp [go_sem]) ?_
  refine (catch_idle ⟨w.heap.size, 0, Option.none⟩ _).mono ?_
  rintro e u' w'' ⟨rfl, rfl, rfl⟩
  have cW : w''.cell? ⟨w.heap.size, 0, Option.none⟩ = some (.bool true) := (blk_cell hr2 0).trans rfl
  have hfk : Keep ds w w'' := ⟨hks.os.trans HK.out.os, hks.tape.trans HK.out.tape, hks.output.trans HK.out.output, Nat.le_trans HK.out.size hks.size, fun k h1 h2 => (hks.block k (Nat.lt_of_lt_of_le h1 HK.out.size) (by omega)).trans (HK.out.block k h1 h2)⟩
  have hfv : kTd.SV (fun b => w.heap.size ≤ b) w'' (.slice A 1 c) [()] := (HV.out.keep (by decide) (fun b hb => by have h0 : _ ≤ b := hb; rw [World.size_alloc] at h0; omega) hks).mono (fun b hb => by have h0 : _ ≤ b := hb; rw [World.size_alloc] at h0; show _ ≤ b; omega)
  simp [Leaves, settle, results, Tryz.results46, go_sem, cW]
  exact ⟨hfk, A, c, hd2, hfv⟩
/-! Unmarshal, works -/
set_option maxRecDepth 20000 in
set_option maxHeartbeats 1600000 in
theorem unmarshal_calls (t : ByteArray) (av : Addr) (w : World) (ht : t = leastT) (he : EofC av w) :
    Calls Tryz.prog 34 #[.string t] w fun e w' => Below w.heap.size w w' ∧ ∃ cs : Array Value, e = .returned (.tuple #[.agg cs, .bool true]) ∧ cs.size = 19 ∧ cs[7]? = some (.string ⟨#[120]⟩) ∧ cs.all (·.oneCell') = true := by
  have hmf : ∀ (fn : Fn) (first cap : Array Value) (w : World), (Instr.makeFunc fn first cap).run Tryz.prog w = .ok (.func fn first cap) w := fun _ _ _ _ => rfl
  have h5 : 5 < w.heap.size := World.block_lt_of_cell? w _ he
  obtain ⟨W, hW⟩ : ∃ W, W = ((w.alloc (.cells #[.string t] 9)).alloc (.cells #[.int .i64 0, .string ⟨#[]⟩, .int .u64 0, .int .u64 0, .string ⟨#[]⟩, .string ⟨#[]⟩, .string ⟨#[]⟩, .string ⟨#[]⟩, .slice Option.none 0 0, .slice Option.none 0 0, .slice Option.none 0 0, .slice Option.none 0 0, .slice Option.none 0 0, .slice Option.none 0 0, .slice Option.none 0 0, .slice Option.none 0 0, .slice Option.none 0 0, .slice Option.none 0 0, .slice Option.none 0 0] 33)).alloc (.cells zDesc 148) := ⟨_, rfl⟩
  obtain ⟨r, hr⟩ : ∃ n, n = w.heap.size + 1 := ⟨_, rfl⟩
  obtain ⟨ds, hds⟩ : ∃ n, n = w.heap.size + 1 + 1 := ⟨_, rfl⟩
  have hb : Below w.heap.size w W := by rw [hW]; exact below_alloc1 (below_alloc2 (Below.refl _ _) _ _) _
  have hx : W.heap[w.heap.size]? = some (.cells #[.string t] 9) := by rw [hW]; exact blk_alloc (blk_alloc (heap_alloc_new w _) _) _
  have hR : W.heap[r]? = some (.cells #[.int .i64 0, .string ⟨#[]⟩, .int .u64 0, .int .u64 0, .string ⟨#[]⟩, .string ⟨#[]⟩, .string ⟨#[]⟩, .string ⟨#[]⟩, .slice Option.none 0 0, .slice Option.none 0 0, .slice Option.none 0 0, .slice Option.none 0 0, .slice Option.none 0 0, .slice Option.none 0 0, .slice Option.none 0 0, .slice Option.none 0 0, .slice Option.none 0 0, .slice Option.none 0 0, .slice Option.none 0 0] 33) := by
    have := heap_alloc_new (w.alloc (.cells #[.string t] 9)) (.cells #[.int .i64 0, .string ⟨#[]⟩, .int .u64 0, .int .u64 0, .string ⟨#[]⟩, .string ⟨#[]⟩, .string ⟨#[]⟩, .string ⟨#[]⟩, .slice Option.none 0 0, .slice Option.none 0 0, .slice Option.none 0 0, .slice Option.none 0 0, .slice Option.none 0 0, .slice Option.none 0 0, .slice Option.none 0 0, .slice Option.none 0 0, .slice Option.none 0 0, .slice Option.none 0 0, .slice Option.none 0 0] 33)
    rw [World.size_alloc, ← hr] at this
    rw [hW]
    exact blk_alloc this _
  have hD : W.heap[ds]? = some (.cells zDesc 148) := by
    have := heap_alloc_new ((w.alloc (.cells #[.string t] 9)).alloc (.cells #[.int .i64 0, .string ⟨#[]⟩, .int .u64 0, .int .u64 0, .string ⟨#[]⟩, .string ⟨#[]⟩, .string ⟨#[]⟩, .string ⟨#[]⟩, .slice Option.none 0 0, .slice Option.none 0 0, .slice Option.none 0 0, .slice Option.none 0 0, .slice Option.none 0 0, .slice Option.none 0 0, .slice Option.none 0 0, .slice Option.none 0 0, .slice Option.none 0 0, .slice Option.none 0 0, .slice Option.none 0 0] 33)) (.cells zDesc 148)
    rw [World.size_alloc, World.size_alloc, ← hds] at this
    rw [hW]
    exact this
  have HT := Bx.mk (try_calls 6 ds w.heap.size t av W ht (by decide) (by omega) hD (cell_below hb he) ((blk_cell hx 0).trans rfl))
  have HR := Bx.mk hR
  have HB := Bx.mk hb
  have HW := Bx.mk hW
  have HN := Bx.mk (And.intro hr hds)
  have hwd : w.heap.size ≤ ds := by omega
  have hwr : w.heap.size ≤ r := by omega
  have hdr : r ≠ ds := by omega
  have hdW := blk_lt hD
  clear ht he hW hr hds hb hx hR hD
  go_enter Tryz.func34, Tryz.ntmps34
  go_wp2_with (fail)
  rw [← HW.out, ← HN.out.2, ← HN.out.1]
  refine HT.out.mono ?_
  rintro e w1 ⟨⟨A, c, hk, hd1, hv⟩, rfl⟩
  have HR1 := Bx.mk ((hk.block r (blk_lt HR.out) hdr).trans HR.out)
  have HB1 := Bx.mk (HB.out.trans (hk.below HB.out.size hwd))
  have HP := Bx.mk (plain_calls W.heap.size ds c A w1 hd1 hv)
  clear hk hd1 hv HT HR HB HW HN
  go_wp2_with (fail)
  refine HP.out.mono ?_
  rintro e w2 ⟨hb2, cs, rfl, hsz, h7, hone⟩
  have hi : (Tryz.prog.info? 33).map (·.size) = some cs.size := by rw [hsz]; exact sz33
  have HR2 := Bx.mk (heap_below hb2 HR1.out)
  have HB2 := Bx.mk (below_trans HB1.out hb2)
  have HS := Bx.mk hsz
  have H7 := Bx.mk h7
  have HO := Bx.mk hone
  have HI := Bx.mk hi
  clear hb2 hsz h7 hone hi HP HR1 HB1
  go_wp2_with (refine wpList_store_row rfl 33 _ _ rfl r cs rfl rfl 33 _ HR2.out HI.out (by rw [HS.out]; rfl) HO.out ?_)
  refine bodyPost_ret (results_cell_row2 rfl _ _ r 33 cs (0, 0) _ rfl (setRow_heap _ _ _ _ _ _ HR2.out) Tryz.underlying33 rfl HI.out) rfl ?_
  exact ⟨HB2.out.trans ((keep_setRow w2 r cs).below HB2.out.size hwr), cs, rfl, HS.out, H7.out, HO.out⟩
set_option maxRecDepth 20000 in
set_option maxHeartbeats 1600000 in
/-- works() answers true. -/
theorem works_calls (av : Addr) (w : World) (he : EofC av w) : Calls Tryz.prog 12 #[] w fun e w' => Below w.heap.size w w' ∧ e = .returned (.bool true) := by
  have HU := Bx.mk (unmarshal_calls leastT av w rfl he)
  clear he
  go_enter Tryz.func12, Tryz.ntmps12
  go_wp2_with (fail)
  refine HU.out.mono ?_
  rintro e w1 ⟨hb1, cs, rfl, hsz, h7, hone⟩
  have hi : (Tryz.prog.info? 33).map (·.size) = some cs.size := by rw [hsz]; exact sz33
  have hN := heap_alloc_new w1 (.cells #[.int .i64 0, .string ⟨#[]⟩, .int .u64 0, .int .u64 0, .string ⟨#[]⟩, .string ⟨#[]⟩, .string ⟨#[]⟩, .string ⟨#[]⟩, .slice Option.none 0 0, .slice Option.none 0 0, .slice Option.none 0 0, .slice Option.none 0 0, .slice Option.none 0 0, .slice Option.none 0 0, .slice Option.none 0 0, .slice Option.none 0 0, .slice Option.none 0 0, .slice Option.none 0 0, .slice Option.none 0 0] 33)
  have hG := setRow_heap (w1.alloc (.cells #[.int .i64 0, .string ⟨#[]⟩, .int .u64 0, .int .u64 0, .string ⟨#[]⟩, .string ⟨#[]⟩, .string ⟨#[]⟩, .string ⟨#[]⟩, .slice Option.none 0 0, .slice Option.none 0 0, .slice Option.none 0 0, .slice Option.none 0 0, .slice Option.none 0 0, .slice Option.none 0 0, .slice Option.none 0 0, .slice Option.none 0 0, .slice Option.none 0 0, .slice Option.none 0 0, .slice Option.none 0 0] 33)) w1.heap.size #[.int .i64 0, .string ⟨#[]⟩, .int .u64 0, .int .u64 0, .string ⟨#[]⟩, .string ⟨#[]⟩, .string ⟨#[]⟩, .string ⟨#[]⟩, .slice Option.none 0 0, .slice Option.none 0 0, .slice Option.none 0 0, .slice Option.none 0 0, .slice Option.none 0 0, .slice Option.none 0 0, .slice Option.none 0 0, .slice Option.none 0 0, .slice Option.none 0 0, .slice Option.none 0 0, .slice Option.none 0 0] cs 33 (0, 0) hN
  have c7 := (blk_cell hG 7).trans h7
  have HB1 := Bx.mk hb1
  have HS := Bx.mk hsz
  have HO := Bx.mk hone
  have HI := Bx.mk hi
  have HN := Bx.mk hN
  clear hb1 hsz h7 hone hi HU hN hG
  go_wp2_with (refine wpList_store_row rfl 33 _ _ rfl w1.heap.size cs rfl rfl 33 _ HN.out HI.out (by rw [HS.out]; rfl) HO.out ?_)
  go_ret
  exact ⟨(below_alloc1 HB1.out _).trans ((keep_setRow _ _ _).below (by rw [World.size_alloc]; exact Nat.le_succ_of_le HB1.out.size) HB1.out.size), rfl⟩
end Go.Proofs.YtimonhimfioohaaGreatDoor
/-! The arguments, read: what can be read as data at a type has the form of that type's kind. -/
namespace Go.Proofs.YtimonhimfioohaaGreatDoor
open Go Go.RowKit Go.PlainAid Kn
/-- What can be read at type t has the kind's form. -/
structure Rd {α : Type} (P : Program) (t : TypeId) (k : Kn α) : Prop where mk ::
  out : P.cellsOf t = k.sz ∧ ∀ {H : Type} (enc : TypeId × Value → H) (w : World) (sp : Nat → Bool) (fuel : Nat) (cs : List Value) (x : DataW H × List MemPlace), DataW.trod enc P w 0 sp true fuel t cs = some x → ∃ y, k.K (fun b => b < w.heap.size) w y cs
structure RdF {α : Type} (P : Program) (fs : List Field) (off : Nat) (k : Kn α) : Prop where mk ::
  out : ∀ {H : Type} (enc : TypeId × Value → H) (w : World) (sp : Nat → Bool) (n : Nat) (cs : List Value), cs.length = off + k.sz → (∀ f ∈ fs, ∃ x, DataW.trod enc P w 0 sp true n f.type ((cs.drop f.offset).take (P.cellsOf f.type)) = some x) → ∃ y, k.K (fun b => b < w.heap.size) w y (cs.drop off)
section
variable {P : Program} {t e : TypeId} {α β : Type}
theorem rd_int {kd : IntKind} (ht : P.underlying t = some (.int kd)) (hc : P.cellsOf t = 1) : Rd P t (Kn.int kd) :=
  .mk ⟨hc, fun enc w sp fuel cs x h => by obtain ⟨n, rfl, _, _⟩ := DataW.trod_int ht h; exact ⟨n, rfl⟩⟩
theorem rd_bool (ht : P.underlying t = some .bool) (hc : P.cellsOf t = 1) : Rd P t Kn.bool :=
  .mk ⟨hc, fun enc w sp fuel cs x h => by obtain ⟨n, rfl, _⟩ := DataW.trod_bool ht h; exact ⟨n, rfl⟩⟩
theorem rd_string (ht : P.underlying t = some .string) (hc : P.cellsOf t = 1) : Rd P t Kn.string :=
  .mk ⟨hc, fun enc w sp fuel cs x h => by obtain ⟨n, rfl, _, _⟩ := DataW.trod_string ht h; exact ⟨n, rfl⟩⟩
theorem add_add2 (a : Addr) (m j : Nat) : (a.add m).add j = a.add (m + j) := by
  rcases Nat.eq_zero_or_pos j with rfl | hj
  · rfl
  · rw [add_field a m j hj]
    generalize a.add m = b
    unfold Addr.add
    simp [Nat.ne_of_gt hj]
theorem rd_slice {d : Kn α} (hd : 0 < d.sz) (ht : P.underlying t = some (.slice e)) (hc : P.cellsOf t = 1) (h : Rd P e d) : Rd P t (slice d hd) := by
  refine .mk ⟨hc, fun enc w sp fuel cs x hx => ?_⟩
  rcases DataW.trod_slice ht hx with ⟨rfl, _⟩ | ⟨a, len, cap, elems, rest, n, _, rfl, _, _, hl, hm, hlen, hel, _, _⟩
  · exact ⟨[], _, rfl, SV.nil _ _ _⟩
  · have each : ∀ i, i < len → ∃ y, ∃ cs, d.K (fun b => b < w.heap.size) w y cs ∧ ∀ j u, cs[j]? = some u → w.cell? (a.add (i * d.sz + j)) = some u := by
      intro i hi
      have h1 := hel i hi
      rw [List.getElem?_eq_getElem (by omega), Option.bind_eq_some_iff] at h1
      obtain ⟨cs, hcs, hy⟩ := h1
      obtain ⟨y, hk⟩ := h.1.2 enc w sp n cs _ hy
      rw [h.1.1] at hcs
      obtain ⟨_, hl2, hc2⟩ := World.cells?_some hcs
      refine ⟨y, cs, hk, fun j u hj => ?_⟩
      have hj2 := (List.getElem?_eq_some_iff.1 hj).1
      have h3 := hc2 j (by omega)
      rw [add_add2] at h3
      rw [h3, hj]
    obtain ⟨xs, hxl, hxs⟩ : ∃ xs : List α, xs.length = len ∧ ∀ i y, xs[i]? = some y → ∃ cs, d.K (fun b => b < w.heap.size) w y cs ∧ ∀ j u, cs[j]? = some u → w.cell? (a.add (i * d.sz + j)) = some u := by
      refine ⟨List.ofFn fun i : Fin len => Classical.choose (each i i.2), List.length_ofFn, fun i y hi => ?_⟩
      rw [List.getElem?_ofFn] at hi
      split at hi
      · rename_i hlt
        cases hi
        exact Classical.choose_spec (each i hlt)
      · cases hi
    have hcap : cap ≤ 9223372036854775807 := by unfold maxLen at hm; omega
    refine ⟨xs, _, rfl, some a, cap, by rw [hxl], by omega, by omega, fun hp => ⟨a, rfl, ?_, hxs⟩⟩
    obtain ⟨cs, hk, hcell⟩ := hxs 0 _ (List.getElem?_eq_getElem hp)
    have hlc := d.len hk
    have h5 := World.block_lt_of_cell? w _ (hcell 0 _ (List.getElem?_eq_getElem (by omega)))
    rwa [add_block] at h5
theorem rdF_one {k : Kn α} {f : Field} {off : Nat} (hf : f.offset = off) (h : Rd P f.type k) : RdF P [f] off k := by
  refine .mk ?_
  intro H enc w sp n cs hl hall
  obtain ⟨x, hx⟩ := hall f (List.mem_singleton.2 rfl)
  rw [hf, h.1.1, List.take_of_length_le (by rw [List.length_drop]; omega)] at hx
  exact h.1.2 _ _ _ _ _ _ hx
theorem rdF_cons {a : Kn α} {b : Kn β} {f : Field} {fs : List Field} {off : Nat} (hf : f.offset = off) (h : Rd P f.type a) (hr : RdF P fs (off + a.sz) b) : RdF P (f :: fs) off (pair a b) := by
  refine .mk ?_
  intro H enc w sp n cs hl hall
  obtain ⟨x, hx⟩ := hall f (List.mem_cons_self ..)
  rw [hf, h.1.1] at hx
  obtain ⟨y, hy⟩ := h.1.2 _ _ _ _ _ _ hx
  have hl' : cs.length = off + (a.sz + b.sz) := hl
  obtain ⟨z, hz⟩ := hr.1 enc w sp n cs (by omega) (fun g hg => hall g (List.mem_cons_of_mem _ hg))
  exact ⟨(y, z), _, _, (List.take_append_drop a.sz (cs.drop off)).symm, hy, by rw [List.drop_drop]; exact hz⟩
theorem rd_struct {k : Kn α} {fs : Array Field} (ht : P.underlying t = some (.struct fs)) (hc : P.cellsOf t = k.sz) (hr : RdF P fs.toList 0 k) : Rd P t k := by
  refine .mk ⟨hc, fun enc w sp fuel cs x hx => ?_⟩
  obtain ⟨xs, n, rfl, _, hl, hn, hall⟩ := DataW.trod_struct ht hx
  obtain ⟨y, hy⟩ := hr.1 enc w sp n cs (by omega) (fun f hf => by
    obtain ⟨i, hi⟩ := List.getElem?_of_mem hf
    have hi' : fs[i]? = some f := by simpa using hi
    have h2 := hall i f hi'
    have hlt : i < fs.size := (Array.getElem?_eq_some_iff.1 hi').1
    exact ⟨_, h2.trans (List.getElem?_eq_getElem (by omega))⟩)
  exact ⟨y, by simpa using hy⟩
theorem rd_iso {d : Kn α} (f : β → α) (g : α → β) (hg : ∀ a, f (g a) = a) (h : Rd P t d) : Rd P t (iso d f) :=
  .mk ⟨h.1.1, fun enc w sp fuel cs x hx => by
    obtain ⟨y, hy⟩ := h.1.2 enc w sp fuel cs x hx
    exact ⟨g y, by show d.K _ _ (f (g y)) cs; rw [hg]; exact hy⟩⟩
theorem rd_imp {d : Kn α} {d' : Kn β} (hs : d'.sz = d.sz) (h : ∀ {w : World} {y : α} {cs : List Value}, d.K (fun b => b < w.heap.size) w y cs → ∃ z, d'.K (fun b => b < w.heap.size) w z cs) (hd : Rd P t d) : Rd P t d' :=
  .mk ⟨hd.1.1.trans hs.symm, fun enc w sp fuel cs x hx => by
    obtain ⟨y, hy⟩ := hd.1.2 enc w sp fuel cs x hx
    exact h hy⟩
end

/-! ### this program's types -/
section
theorem rInt : Rd Tryz.prog 3 kI := rd_int Tryz.underlying3 (by kernel_rfl)
theorem rI64 : Rd Tryz.prog 2 kI := rd_int Tryz.underlying2 (by kernel_rfl)
theorem rU64 : Rd Tryz.prog 22 (Kn.int .u64) := rd_int Tryz.underlying22 (by kernel_rfl)
theorem rBool : Rd Tryz.prog 4 Kn.bool := rd_bool Tryz.underlying4 (by kernel_rfl)
theorem rStr : Rd Tryz.prog 9 Kn.string := rd_string Tryz.underlying9 (by kernel_rfl)
theorem rStrs : Rd Tryz.prog 25 kStrs := rd_slice szS Tryz.underlying25 (by kernel_rfl) rStr
theorem rInts : Rd Tryz.prog 52 kInts := rd_slice (szI _) Tryz.underlying52 (by kernel_rfl) rInt
theorem rI64s : Rd Tryz.prog 81 kInts := rd_slice (szI _) Tryz.underlying81 (by kernel_rfl) rI64
theorem rAtt : Rd Tryz.prog 51 kAtt := rd_iso _ (fun a => ⟨a.1, a.2⟩) (fun _ => rfl) (rd_struct Tryz.underlying51 (by kernel_rfl) (rdF_cons rfl rStr (rdF_one rfl rStr)))
theorem rAtts : Rd Tryz.prog 30 (slice kAtt szAtt) := rd_slice _ Tryz.underlying30 (by kernel_rfl) rAtt
theorem rBw : Rd Tryz.prog 120 kBw := rd_iso _ (fun a => ⟨a.1, a.2.1, a.2.2⟩) (fun _ => rfl) (rd_struct Tryz.underlying120 (by kernel_rfl) (rdF_cons rfl rBool (rdF_cons rfl rStr (rdF_one rfl rU64))))
theorem rBws : Rd Tryz.prog 27 (slice kBw szBw) := rd_slice _ Tryz.underlying27 (by kernel_rfl) rBw
theorem rAdr : Rd Tryz.prog 129 kAdr := rd_iso _ (fun a => ⟨a.1, a.2.1, a.2.2⟩) (fun _ => rfl) (rd_struct Tryz.underlying129 (by kernel_rfl) (rdF_cons rfl rStr (rdF_cons rfl rInts (rdF_one rfl rInts))))
theorem rAdrs : Rd Tryz.prog 115 (slice kAdr szAdr) := rd_slice _ Tryz.underlying115 (by kernel_rfl) rAdr
theorem rCon : Rd Tryz.prog 117 kCon := rd_iso _ (fun a => ⟨a.1, a.2.1, a.2.2⟩) (fun _ => rfl) (rd_struct Tryz.underlying117 (by kernel_rfl) (rdF_cons rfl rStr (rdF_cons rfl rStr (rdF_one rfl rAdrs))))
theorem rCons : Rd Tryz.prog 26 (slice kCon szCon) := rd_slice _ Tryz.underlying26 (by kernel_rfl) rCon
theorem rRep : Rd Tryz.prog 83 kRep := rd_iso _ (fun a => ⟨a.1, a.2.1, a.2.2⟩) (fun _ => rfl) (rd_struct Tryz.underlying83 (by kernel_rfl) (rdF_cons rfl rI64 (rdF_cons rfl rI64 (rdF_one rfl rI64s))))
theorem rReps : Rd Tryz.prog 75 (slice kRep szRep) := rd_slice _ Tryz.underlying75 (by kernel_rfl) rRep
theorem rTim : Rd Tryz.prog 77 kTim := rd_iso _ (fun a => ⟨a.1, a.2.1, a.2.2⟩) (fun _ => rfl) (rd_struct Tryz.underlying77 (by kernel_rfl) (rdF_cons rfl rU64 (rdF_cons rfl rU64 (rdF_one rfl rReps))))
theorem rTims : Rd Tryz.prog 28 (slice kTim szTim) := rd_slice _ Tryz.underlying28 (by kernel_rfl) rTim
theorem rZon : Rd Tryz.prog 86 kZon := rd_iso _ (fun a => ⟨a.1, a.2⟩) (fun _ => rfl) (rd_struct Tryz.underlying86 (by kernel_rfl) (rdF_cons rfl rU64 (rdF_one rfl rI64)))
theorem rZons : Rd Tryz.prog 29 (slice kZon szZon) := rd_slice _ Tryz.underlying29 (by kernel_rfl) rZon
theorem rMed : Rd Tryz.prog 54 kMed := rd_iso _ (fun a => ⟨a.1, a.2.1, a.2.2.1, a.2.2.2.1, a.2.2.2.2.1, a.2.2.2.2.2.1, a.2.2.2.2.2.2.1, a.2.2.2.2.2.2.2.1, a.2.2.2.2.2.2.2.2.1, a.2.2.2.2.2.2.2.2.2⟩) (fun _ => rfl)
  (rd_struct Tryz.underlying54 (by kernel_rfl) (rdF_cons rfl rStr (rdF_cons rfl rInt (rdF_cons rfl rInts (rdF_cons rfl rStrs (rdF_cons rfl rStrs (rdF_cons rfl rStrs (rdF_cons rfl rCons (rdF_cons rfl rBws (rdF_cons rfl rStrs (rdF_one rfl rAtts)))))))))))
theorem rMeds : Rd Tryz.prog 31 (slice kMed szMed) := rd_slice _ Tryz.underlying31 (by kernel_rfl) rMed
abbrev kOrg := pair Kn.string (pair (Kn.int .u64) (pair (Kn.int .u64) (pair Kn.string (pair Kn.string Kn.string))))
theorem rOrg : Rd Tryz.prog 24 kOrg := rd_struct Tryz.underlying24 (by kernel_rfl) (rdF_cons rfl rStr (rdF_cons rfl rU64 (rdF_cons rfl rU64 (rdF_cons rfl rStr (rdF_cons rfl rStr (rdF_one rfl rStr))))))
abbrev kSes2 := pair kI (pair kOrg (pair Kn.string (pair kStrs (pair kStrs (pair kStrs (pair kStrs (pair (slice kCon szCon) (pair (slice kBw szBw) (pair (slice kTim szTim) (pair (slice kZon szZon) (pair kStrs (pair (slice kAtt szAtt) (slice kMed szMed)))))))))))))
theorem rSes2 : Rd Tryz.prog 33 kSes2 := rd_struct Tryz.underlying33 (by kernel_rfl)
  (rdF_cons rfl rInt (rdF_cons rfl rOrg (rdF_cons rfl rStr (rdF_cons rfl rStrs (rdF_cons rfl rStrs (rdF_cons rfl rStrs (rdF_cons rfl rStrs (rdF_cons rfl rCons (rdF_cons rfl rBws (rdF_cons rfl rTims (rdF_cons rfl rZons (rdF_cons rfl rStrs (rdF_cons rfl rAtts (rdF_one rfl rMeds))))))))))))))
theorem rSes : Rd Tryz.prog 33 kSes := rd_imp (by rfl) (fun {w y cs} h => by
  obtain ⟨_, _, rfl, rfl, _, _, rfl, ⟨_, _, rfl, rfl, _, _, rfl, rfl, _, _, rfl, rfl, _, _, rfl, rfl, _, _, rfl, rfl, rfl⟩, _, _, rfl, rfl, ⟨_, _, rfl, ⟨u1, rfl, h1⟩, ⟨_, _, rfl, ⟨u2, rfl, h2⟩, ⟨_, _, rfl, ⟨u3, rfl, h3⟩, ⟨_, _, rfl, ⟨u4, rfl, h4⟩, ⟨_, _, rfl, ⟨u5, rfl, h5⟩, ⟨_, _, rfl, ⟨u6, rfl, h6⟩,
    ⟨_, _, rfl, ⟨u7, rfl, h7⟩, ⟨_, _, rfl, ⟨u8, rfl, h8⟩, ⟨_, _, rfl, ⟨u9, rfl, h9⟩, ⟨_, _, rfl, ⟨u10, rfl, h10⟩, ⟨u11, rfl, h11⟩⟩⟩⟩⟩⟩⟩⟩⟩⟩⟩⟩ := h
  exact ⟨{ ver := _, user := _, id := _, ver2 := _, net := _, addr := _, address := _, name := _, info := _, uri := _, email := _, phone := _, con := _, bw := _, tim := _, zon := _, key := _, atts := _, med := _ }, kSes_mk _ h1 h2 h3 h4 h5 h6 h7 h8 h9 h10 h11⟩) rSes2
end
end Go.Proofs.YtimonhimfioohaaGreatDoor
/-! What the row's premises give the walk: io.EOF's cell, the three open errors' cells, the table of spaces; and a world that is below: the arguments read as they did. -/
namespace Go.Proofs.YtimonhimfioohaaGreatDoor
open Go Go.RowKit Go.PlainAid Kn
theorem gEof : Tryz.prog.globalNamed "io.EOF" = some 5 := by kernel_rfl
theorem tEof : (Tryz.prog.globals[5]?).map (·.type) = some 103 := by kernel_rfl
theorem starErr : "*" ++ "errors.errorString" = "*errors.errorString" := by decide
theorem row325 (u : TypeId) (h : Tryz.prog.typeName? 3 u = some "*errors.errorString") : u = 325 :=
  typeName_ptr_named (nm := "errors.errorString") (by rw [starErr]; kernel_rfl) (by kernel_rfl) (by decide) u (by rw [starErr]; exact h)
theorem cells327 : Tryz.prog.cellsOf 327 = 1 := by kernel_rfl
theorem cells9 : Tryz.prog.cellsOf 9 = 1 := by kernel_rfl
set_option maxRecDepth 100000 in
/-- io.EOF reads as listed: its cell holds a pointer to an errorString. -/
theorem eof_of_laid {W : World} {d1 d2 : DataW Unit} {n1 n2 : String} (h : laidMet Tryz.prog [(n1, d1), (n2, d2), ("io.EOF", .iface "*errors.errorString" (.ptr (.agg [.lit (.string [69, 79, 70])])))] W) : ∃ av, EofC av W := by
  obtain ⟨ps, ⟨g0, t0, cs0, f0, p0, q0, hg0, ht0, hv0, hd0, ⟨g1, t1, cs1, f1, p1, q1, hg1, ht1, hv1, hd1, ⟨g2, t2, cs2, f2, p2, q2, hg2, ht2, hv2, hd2, hq2, e2⟩, e1⟩, e0⟩, hnd, hrows⟩ := h
  obtain rfl := Option.some.inj (gEof.symm.trans hg2)
  obtain rfl := Option.some.inj (tEof.symm.trans ht2)
  subst e2
  subst e1
  subst e0
  obtain ⟨l0⟩ := cs2
  have ok0 : ∀ u v, l0 = [.iface u v] → Value.okWide Tryz.prog W .any 0 u v := fun u v e => by
    subst e
    exact (hrows 5 0 (by simp [MemPlace.row])).2 u v (by simpa using World.var?_cell hg2 hv2 0)
  obtain ⟨a0, s0, rfl, hc0, hs0, hz0, rfl⟩ := errorString_of_trod Tryz.underlying103 row325 Tryz.underlying325 Tryz.underlying327 rfl rfl Tryz.underlying9 cells327 cells9 hd2 ok0
  exact ⟨a0, by unfold EofC; simpa using World.var?_cell hg2 hv2 0⟩
/-- A variable of one cell holds something. -/
theorem glob_of_shape {w : World} {g : Nat} {t : TypeId} {zero : Array Value} (h : w.ShapedOpen Tryz.prog) (hg : g < Tryz.prog.globals.size)
    (h0 : ((begin Tryz.prog (fun _ _ => 0) default).world.heap[g]?).bind Obj.row? = some (zero, t)) (hz : zero.size = 1) : Glob g w := by
  obtain ⟨cs, hh, hs, _⟩ := h.1 g zero t hg h0
  have h1 : 0 < cs.size := by omega
  exact ⟨cs[0], by simp [World.cell?, hh, h1]⟩
set_option maxRecDepth 100000 in
/-- The table of spaces holds bytes. -/
theorem spTab_of_shape {w : World} {t : TypeId} {zero : Array Value} (h : w.ShapedOpen Tryz.prog) (hg : 10 < Tryz.prog.globals.size)
    (h0 : ((begin Tryz.prog (fun _ _ => 0) default).world.heap[10]?).bind Obj.row? = some (zero, t)) (hz : zero.size = 256)
    (hb : Tryz.prog.buildable t = true) (hc : (Tryz.prog.cellTypes Tryz.prog.depth t) = some (List.replicate 256 5)) (hu : Tryz.prog.underlying 5 = some (.int .u8)) : ∃ tb, SpTab tb w := by
  obtain ⟨cs, hh, hs, hr⟩ := h.1 10 zero t hg h0
  obtain ⟨ts, hts, _, hall⟩ := hr hb
  rw [hc] at hts
  cases hts
  have each : ∀ c, c < 256 → ∃ n : Int, w.cell? ⟨10, c, Option.none⟩ = some (.int .u8 n) := by
    intro c hlt
    have h1 : c < cs.size := by omega
    obtain ⟨u, hu', hok⟩ := hall c cs[c] (by simp [h1])
    have : u = 5 := by
      rw [List.getElem?_replicate] at hu'
      split at hu' <;> simp_all
    subst this
    have hcell : w.cell? ⟨10, c, Option.none⟩ = some cs[c] := by simp [World.cell?, hh, h1]
    rw [hcell]
    unfold Cell.ok at hok
    rw [hu] at hok
    cases hv : cs[c] <;> rw [hv] at hok <;> simp at hok
    case int k' n => exact ⟨n, by rw [hok.1]⟩
  refine ⟨fun c => if h : c < 256 then Classical.choose (each c h) else 0, fun c hlt => ?_⟩
  show w.cell? ⟨10, c, Option.none⟩ = some (.int .u8 (if h : c < 256 then Classical.choose (each c h) else 0))
  rw [dif_pos hlt]
  exact Classical.choose_spec (each c hlt)
section
variable {H : Type} {enc : TypeId × Value → H} {P : Program} {w w' : World} {sp : Nat → Bool} {held : Bool}
theorem trodAll_carry : ∀ {ts : List TypeId} {vs : List Value} {ds : List (DataW H)} {ps : List MemPlace}, DataW.TrodAll enc P w 0 sp held ts vs ds ps → (∀ p ∈ ps, w.sameAt w' p) → DataW.TrodAll enc P w' 0 sp held ts vs ds ps
  | [], [], [], _, h, _ => h
  | _ :: _, _ :: _, _ :: _, _, ⟨p, q, ⟨n, h1⟩, h2, e⟩, hs => ⟨p, q, ⟨n, DataW.trod_carry n _ _ _ h1 (fun x hx => hs x (by rw [e]; exact List.mem_append_left _ hx))⟩, trodAll_carry h2 (fun x hx => hs x (by rw [e]; exact List.mem_append_right _ hx)), e⟩
end
end Go.Proofs.YtimonhimfioohaaGreatDoor
/-! The closed facts of the row, each by the kernel, one declaration a fact (all in one pass the kernel's memory). -/
namespace Go.Proofs.YtimonhimfioohaaGreatDoor
open Go
theorem and_mk {a b : Bool} (ha : a = true) (hb : b = true) : (a && b) = true := by rw [ha, hb]; rfl
theorem jf0 : (Rows.fnCodecRow.wf (OpenSpec.ofChange Rows.fnCodecSpec)) = true := by kernel_rfl
theorem jf1 : (laidOutB Tryz.prog) = true := by kernel_rfl
theorem jf2 : (mapsRowed Tryz.prog) = true := by kernel_rfl
theorem jf3 : (Tryz.f3.params.all (Tryz.prog.readableRec ·)) = true := by kernel_rfl
theorem jf4 : (namedTie Tryz.prog Rows.fnCodecRow.named Rows.fnCodecSpec.vars) = true := by kernel_rfl
theorem jf5 : (Rows.fnCodecRow.stops == []) = true := by kernel_rfl
theorem jf6 : (Tryz.prog.stops == []) = true := by kernel_rfl
theorem jf7 : (Rows.fnCodecRow.knobs == []) = true := by kernel_rfl
theorem jf8 : (Tryz.prog.stopKnobs == []) = true := by kernel_rfl
theorem jf9 : (Rows.fnCodecRow.inPlace == Tryz.prog.inPlace 3) = true := by kernel_rfl
theorem jf10 : (Rows.fnCodecRow.unfollowed == Tryz.prog.unfollowed 3) = true := by kernel_rfl
theorem jf11 : (Rows.fnCodecRow.recurses == Tryz.prog.recurses 3) = true := by kernel_rfl
theorem jf12 : (Rows.fnCodecRow.named == Tryz.prog.varsNamed 3) = true := by kernel_rfl
theorem jf13 : (Rows.fnCodecRow.maps == (Tryz.f3.params.toList ++ Rows.fnCodecSpec.plain.varTypes Tryz.prog).any (Tryz.prog.mapsRec ·)) = true := by kernel_rfl
theorem jf14 : (Rows.fnCodecRow.ifaces == (Tryz.f3.params.toList ++ Rows.fnCodecSpec.plain.varTypes Tryz.prog).any (Tryz.prog.ifacesRec ·)) = true := by kernel_rfl
theorem jf15 : (Rows.fnCodecRow.mapsOut == Tryz.prog.mapsAmong Tryz.f3.resultTypes.toList) = true := by kernel_rfl
theorem jf16 : (Rows.fnCodecRow.loops == (Tryz.f3.params.toList ++ Rows.fnCodecSpec.plain.varTypes Tryz.prog).any (Tryz.prog.loopsFrom ·)) = true := by kernel_rfl
theorem jf17 : (Rows.fnCodecRow.wideKeys == (Tryz.f3.params.toList ++ Rows.fnCodecSpec.plain.varTypes Tryz.prog ++ Tryz.f3.resultTypes.toList).any (Tryz.prog.wideKeysFrom ·)) = true := by kernel_rfl
theorem jf18 : (Rows.fnCodecSpec.vars.all (Tryz.prog.varReadable ·)) = true := by kernel_rfl
theorem jf19 : (Tryz.f3.resultTypes.all (fun t => Tryz.prog.readableRec t && decide (t < Tryz.prog.types.size))) = true := by kernel_rfl
theorem jf20 : (Rows.fnCodecRow.ifacesOut == Tryz.f3.resultTypes.toList.any (Tryz.prog.ifacesRec ·)) = true := by kernel_rfl
theorem jf21 : (Rows.fnCodecRow.loopsOut == Tryz.f3.resultTypes.toList.any (Tryz.prog.loopsFrom ·)) = true := by kernel_rfl
theorem jf22 : (Rows.fnCodecRow.plainKeys == Tryz.prog.plainKeys) = true := by kernel_rfl
theorem jf23 : (Rows.fnCodecRow.shortTexts.isNone) = true := by kernel_rfl
theorem jf24 : (Tryz.prog.stopsHeard) = true := by kernel_rfl
theorem jf25 : (Tryz.prog.mayEnter) = true := by kernel_rfl
theorem jf26 : (Rows.fnCodecRow.lifted == Tryz.prog.liftsFinal) = true := by kernel_rfl
theorem jf27 : (Tryz.prog.make == some Rows.fnCodecRow.make) = true := by kernel_rfl
theorem jf28 : (Rows.fnCodecRow.kinds == (if Rows.fnCodecRow.domain.isEmpty then [] else Tryz.f3.params.toList.map fun t => match Tryz.prog.underlying t with | some (.int k) => some k | _ => none)) = true := by kernel_rfl
theorem jf29 : (Rows.fnCodecRow.pinned == Rows.fnCodecRow.pinnedBy) = true := by kernel_rfl
theorem jf30 : (Rows.fnCodecRow.veiled == (Tryz.f3.params.toList ++ Rows.fnCodecSpec.plain.varTypes Tryz.prog ++ Tryz.f3.resultTypes.toList).any (Tryz.prog.veiledRec ·)) = true := by kernel_rfl
theorem jf31 : (Rows.fnCodecRow.veiledFits Tryz.prog Tryz.f3.params.toList (Tryz.f3.params.toList ++ Rows.fnCodecSpec.plain.varTypes Tryz.prog ++ Tryz.f3.resultTypes.toList)) = true := by kernel_rfl
end Go.Proofs.YtimonhimfioohaaGreatDoor
