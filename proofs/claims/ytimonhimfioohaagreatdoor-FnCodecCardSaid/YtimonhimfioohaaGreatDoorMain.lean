/-
  WHAT IS PROVED: pionsdp/laws.FnCodec returns true for every input, and its arguments read afterwards as they read before: Rows.FnCodecCardSaid (the tied card, not the Upto form).
  CONDITIONS: those of the given row alone: the three listed variables (math/bits.deBruijn32tab, math/bits.deBruijn64tab, io.EOF) start as the program's text lays them, which the card ties; the other package-level variables may hold whatever their types allow.
-/
import Derived.Test.YtimonhimfioohaaGreatDoorRows
import Derived.Test.YtimonhimfioohaaGreatDoorCards
import Derived.Test.YtimonhimfioohaaGreatDoorTie
import Derived.Test.YtimonhimfioohaaGreatDoorM15
import Derived.Test.YtimonhimfioohaaGreatDoorM20
import Derived.ChangeMaps5
import Derived.LaidMore
import Derived.SevenTiedAt
import Derived.ChangeVars
import Derived.JoinedOf
import Derived.RowKitTokens
namespace Go.Proofs.YtimonhimfioohaaGreatDoor
open Go Go.RowKit Go.ChangeShapes Go.WideShapes Go.ChangeAt Kn
theorem ownN : ownKnob Tryz.prog.godebug = none := by kernel_rfl
theorem gsz : Tryz.prog.globals.size = 25 := by kernel_rfl
theorem tKids : Kids Tryz.prog (· < Tryz.prog.types.size) := kids_rows (by kernel_rfl) (by kernel_rfl)
theorem tFull : ∀ t e, t < Tryz.prog.types.size → Tryz.prog.underlying t = some (.slice e) → 0 < Tryz.prog.cellsOf e := slices_full_of Tryz.prog (by kernel_rfl)
theorem door_met (os : Os) (args : Array Value) : laidMetH Tryz.prog Rows.fnCodecRow.laid ((World.doorLaid Tryz.prog 428 os).forCall (fun _ _ => 0) ⟨#[], args, []⟩).memory :=
  laidMetH_of_parts3 (fuel := 8) (laidMet_of_run' 8 (by kernel_rfl) (by kernel_rfl)) (by kernel_rfl) (by kernel_rfl)
def zSes : Array Value := #[.int .i64 0, .string ⟨#[]⟩, .int .u64 0, .int .u64 0, .string ⟨#[]⟩, .string ⟨#[]⟩, .string ⟨#[]⟩, .string ⟨#[]⟩, .slice none 0 0, .slice none 0 0, .slice none 0 0, .slice none 0 0, .slice none 0 0, .slice none 0 0, .slice none 0 0, .slice none 0 0, .slice none 0 0, .slice none 0 0, .slice none 0 0]
/-- The kit's wrap with the row's list and the world's shape both handed on. -/
theorem returns_listed_shaped {H : Type} {enc : TypeId × Value → H} {a : Assume} {C : Checked} {os : Os} {f : FuncId} {fn : Func} {s : ChangeSpec} {conds : List PathCond} {apart fresh handsOn again : Bool} {X : World → Array Value → Prop}
    (hX : ∀ (w w' : World) (args : Array Value), w.heap = w'.heap → X w args → X w' args)
    (own : ownKnob C.prog.godebug = none) (started : os.Started) (noInit : C.prog.inits.idxOf? f = none) (hfn : C.prog.funcs[f]? = some fn)
    (witness : ∃ (w : World) (tape : Tape) (i : Input), w.os = os ∧ (w.forCall tape i).Shaped C.prog ∧ i.vars = [] ∧ Input.okWide C.prog (w.forCall tape i) .any w.heap.size f i ∧
      ((s.pre enc C.prog fn conds apart (w.forCall tape i).memory i.args ∧ X (w.forCall tape i).memory i.args) ∧ sizedMet enc C.prog fn (OpenSpec.ofChange s) apart (w.forCall tape i).memory i.args) ∧ a.holds C.prog (lone (Frame.enter C.prog f i.args .normal) [] (w.forCall tape i)))
    (contract : ∀ (W : World) (base : Nat) (args : Array Value) (ds gs : List (DataW H)) (before : List MemPlace),
      (∀ (j : Nat) t v, fn.params[j]? = some t → args[j]? = some v → Value.okWide C.prog W .any base t v) →
      DataW.Whole enc C.prog fn.params.toList s.vars apart W args.toList ds gs before → X W args → W.ShapedOpen C.prog →
      Calls C.prog f args W fun e W' => ∃ v, e = .returned v ∧ s.post enc C.prog fn apart fresh handsOn again W args v W') :
    ReturnsInHanded a C os f .any (fun w args => (s.pre enc C.prog fn conds apart w args ∧ X w args) ∧ sizedMet enc C.prog fn (OpenSpec.ofChange s) apart w args) (s.post enc C.prog fn apart fresh handsOn again) := by
  refine returnsInHanded_of_calls own started noInit witness ?_
  intro w tape i _ hsh _ hok hpre _
  obtain ⟨_, _, _, fn', hfn', _, _, _, _, hval⟩ := hok
  have e : fn' = fn := Option.some.inj (hfn'.symm.trans hfn)
  subst e
  obtain ⟨⟨⟨ds, gs, before, hw, _⟩, hx⟩, _⟩ := hpre
  have hw' := DataW.Whole.of_heap (w' := w.forCall tape i) (by rfl) hw
  refine (contract (w.forCall tape i) w.heap.size i.args ds gs before hval hw' (hX _ _ _ (by rfl) hx) hsh).mono fun e W' ⟨v, he, hp⟩ => ?_
  subst he
  exact ChangeSpec.post_blind hp

set_option maxRecDepth 100000 in
theorem fnCodec_lifted (os : Os) (started : os.Started) (H : Type) (enc : TypeId × Value → H) :
    ReturnsInHanded {} Tryz.checked os 3 .any (fun w args => (Rows.fnCodecSpec.pre enc Tryz.prog Tryz.f3 [] false w args ∧ laidMetH Tryz.prog Rows.fnCodecRow.laid w) ∧ sizedMet enc Tryz.prog Tryz.f3 (OpenSpec.ofChange Rows.fnCodecSpec) false w args)
      (Rows.fnCodecSpec.post enc Tryz.prog Tryz.f3 false true false false) := by
  refine returns_listed_shaped (C := Tryz.checked) (X := fun w _ => laidMetH Tryz.prog Rows.fnCodecRow.laid w) (fun _ _ _ hh h => h.of_heap hh) ownN started (by kernel_rfl) Tryz.func3
    (ChangeSpec.witness_shaped (enc := enc) (C := Tryz.checked) (os := os) (X := fun w _ => laidMetH Tryz.prog Rows.fnCodecRow.laid w) false (World.doorLaid Tryz.prog 428 os) #[.agg zSes, .int .i64 0, .string ⟨#[]⟩, .int .i64 0, .string ⟨#[]⟩, .string ⟨#[]⟩, .slice none 0 0] 8 rfl (World.shaped_of_RefB (by kernel_rfl) (by kernel_rfl)) (by kernel_rfl) (by kernel_rfl) (by kernel_rfl) (door_met os _)) ?_
  intro W base args ds gs before hval0 hW hL hsh
  have hval : ∀ (j : Nat) t v, Tryz.f3.params[j]? = some t → args[j]? = some v → Value.okWide Tryz.prog W .any base t v := hval0
  have hW' := hW
  obtain ⟨p, q, hA0, hV, rfl, hfz, hnd⟩ := hW
  have hA : DataW.TrodAll enc Tryz.prog W 0 (fun _ => true) true Tryz.f3.params.toList args.toList ds p := hA0
  have hAk := hA
  rw [Tryz.params3] at hA hval
  obtain ⟨v0, r0, d0, ds0, p0, q0, e0, rfl, rfl, h0, hA1⟩ := trodAll_cons hA
  obtain ⟨v1, r1, d1, ds1, p1, q1, rfl, rfl, rfl, h1, hA2⟩ := trodAll_cons hA1
  obtain ⟨v2, r2, d2, ds2, p2, q2, rfl, rfl, rfl, h2, hA3⟩ := trodAll_cons hA2
  obtain ⟨v3, r3, d3, ds3, p3, q3, rfl, rfl, rfl, h3, hA4⟩ := trodAll_cons hA3
  obtain ⟨v4, r4, d4, ds4, p4, q4, rfl, rfl, rfl, h4, hA5⟩ := trodAll_cons hA4
  obtain ⟨v5, r5, d5, ds5, p5, q5, rfl, rfl, rfl, h5, hA6⟩ := trodAll_cons hA5
  obtain ⟨v6, r6, d6, ds6, p6, q6, rfl, rfl, rfl, h6, hA7⟩ := trodAll_cons hA6
  obtain ⟨rfl, rfl, rfl⟩ := trodAll_nil hA7
  obtain ⟨rfl, rfl⟩ := trodVars_none hV
  have ea : args = #[v0, v1, v2, v3, v4, v5, v6] := by cases args; simp_all
  subst ea
  obtain ⟨cs, rfl, hcs⟩ := okWide_struct Tryz.underlying33 (hval 0 33 v0 rfl rfl)
  obtain ⟨pl, rfl, _, _⟩ := open_int Tryz.underlying3 (hval 1 3 v1 rfl rfl) h1
  obtain ⟨name, rfl, _, _⟩ := ChangeMaps.open_string Tryz.underlying9 (hval 2 9 v2 rfl rfl) h2
  obtain ⟨rate, rfl, _, _⟩ := open_int Tryz.underlying3 (hval 3 3 v3 rfl rfl) h3
  obtain ⟨par, rfl, _, _⟩ := ChangeMaps.open_string Tryz.underlying9 (hval 4 9 v4 rfl rfl) h4
  obtain ⟨fm, rfl, _, _⟩ := ChangeMaps.open_string Tryz.underlying9 (hval 5 9 v5 rfl rfl) h5
  obtain ⟨a6, len6, cap6, rfl⟩ := okWide_slice Tryz.underlying25 (hval 6 25 v6 rfl rfl)
  obtain ⟨n0, hn0⟩ := h0
  obtain ⟨n6, hn6⟩ := h6
  obtain ⟨x, hk⟩ := rSes.1.2 enc W _ n0 _ _ hn0
  obtain ⟨fb, v, hv, hsv⟩ := rStrs.1.2 enc W _ n6 _ _ hn6
  obtain rfl : v = .slice a6 len6 cap6 := by simpa [Value.cells] using hv.symm
  have hlaid : laidMet Tryz.prog Rows.fnCodecRow.laid W := by rw [← MakeChecks.laidMetH_plain _ _ _ (by kernel_rfl)]; exact hL
  obtain ⟨av, he⟩ := eof_of_laid (d1 := Rows.laid_math_bits_deBruijn32tab) (d2 := Rows.laid_math_bits_deBruijn64tab) (n1 := "math/bits.deBruijn32tab") (n2 := "math/bits.deBruijn64tab") hlaid
  obtain ⟨tb, htb⟩ := spTab_of_shape (t := 263) (zero := Array.replicate 256 (.int .u8 0)) hsh (by rw [gsz]; decide) (by kernel_rfl) (by kernel_rfl) (by kernel_rfl) (by kernel_rfl) Tryz.underlying5
  have hk' : kSes.K (fun b => b < W.heap.size) W x cs.toList := hk
  refine (fncodec_calls tb x cs.toList (fun b => b < W.heap.size) W pl rate name par fm _ fb hk' hsv (fun _ h => h) (glob_of_shape (t := 103) (zero := #[.nilIface]) hsh (by rw [gsz]; decide) (by kernel_rfl) (by kernel_rfl)) (glob_of_shape (t := 103) (zero := #[.nilIface]) hsh (by rw [gsz]; decide) (by kernel_rfl) (by kernel_rfl)) (glob_of_shape (t := 103) (zero := #[.nilIface]) hsh (by rw [gsz]; decide) (by kernel_rfl) (by kernel_rfl)) htb (fun w' hb => works_calls av w' (cell_below hb he))).mono fun e W' ⟨hB, hE⟩ => ?_
  subst hE
  have eold : ∀ p ∈ p0 ++ (p1 ++ (p2 ++ (p3 ++ (p4 ++ (p5 ++ (p6 ++ [])))))) ++ [], p.block < W.heap.size := hW'.lt
  refine ⟨_, rfl, _, _, _, [], _, [], hW', ?_, trodAll_carry (DataW.TrodAll.respare tKids tFull (by rw [Tryz.params3]; decide +kernel) hAk (fun p hp => by simpa using eold p (by simpa using hp))) (fun p hp => hB.same (eold p (by simpa using hp))), ?_, hB.frame _, fun h => by cases h⟩
  · exact trodAll_mk1 (shut_bool Tryz.underlying4 true)
  · rfl

set_option maxRecDepth 100000 in
theorem joined : joinedFacts Tryz.prog 3 Tryz.f3 Rows.fnCodecSpec Rows.fnCodecRow = true := by
  delta joinedFacts
  refine and_mk ?_ jf31
  refine and_mk ?_ jf30
  refine and_mk ?_ jf29
  refine and_mk ?_ jf28
  refine and_mk ?_ jf27
  refine and_mk ?_ jf26
  refine and_mk ?_ jf25
  refine and_mk ?_ jf24
  refine and_mk ?_ jf23
  refine and_mk ?_ jf22
  refine and_mk ?_ jf21
  refine and_mk ?_ jf20
  refine and_mk ?_ jf19
  refine and_mk ?_ jf18
  refine and_mk ?_ jf17
  refine and_mk ?_ jf16
  refine and_mk ?_ jf15
  refine and_mk ?_ jf14
  refine and_mk ?_ jf13
  refine and_mk ?_ jf12
  refine and_mk ?_ jf11
  refine and_mk ?_ jf10
  refine and_mk ?_ jf9
  refine and_mk ?_ jf8
  refine and_mk ?_ jf7
  refine and_mk ?_ jf6
  refine and_mk ?_ jf5
  refine and_mk ?_ jf4
  refine and_mk ?_ jf3
  refine and_mk ?_ jf2
  refine and_mk ?_ jf1
  exact jf0

theorem fnCodec_holds : Rows.FnCodecSaid :=
  OpenClaim.holds_of_wide 3 Tryz.f3 rfl rfl rfl rfl rfl rfl rfl ⟨rfl, rfl, rfl, rfl, rfl⟩ rfl rfl rfl rfl rfl (by kernel_rfl) Tryz.func3 joined
    (of_decide_eq_true (by kernel_rfl)) (by unfold Func.isWrapper; first | (rw [if_pos (by decide +kernel)]; kernel_rfl) | (rw [if_neg (by decide +kernel)]; exact ⟨rfl, rfl⟩))
    (fun os started H enc _ => fnCodec_lifted os started H enc)

/-- The tied card. -/
theorem fnCodecCard_holds : Rows.FnCodecCardSaid :=
  Claim7.holds_tied_plain_at .later [] [.data, .data, .sentinel] true (true, "3b233244750d011a96d83e01236ce27c43d3781d75ab4c59596e36de247c1ae0") true
    fnCodec_holds (fun _ h => by cases h) (by kernel_rfl) (fun _ h => by cases h) fnCodec_row_tie rfl ⟨rfl, rfl⟩ (by kernel_rfl) rfl
    (fun f fn hf hfn => by
      obtain rfl : f = 3 := Option.some.inj ((show Tryz.prog.funcNamed "pionsdp/laws.FnCodec" = some 3 by kernel_rfl).symm.trans hf) |>.symm
      obtain rfl : fn = Tryz.f3 := (Option.some.inj (Tryz.func3.symm.trans hfn)).symm
      exact ⟨by kernel_rfl, fun j t ht => by
        rw [Tryz.params3] at ht
        have hm : t ∈ [33, 3, 9, 3, 9, 9, 25] := by simpa using Array.mem_of_getElem? ht
        have hall : ([33, 3, 9, 3, 9, 9, 25].all fun u => !Tryz.prog.wantsStandIn u) = true := by kernel_rfl
        exact (show Tryz.prog.wantsStandIn t = false by simpa using List.all_eq_true.1 hall t hm)⟩)
    (by kernel_rfl)
#print axioms fnCodecCard_holds
end Go.Proofs.YtimonhimfioohaaGreatDoor
