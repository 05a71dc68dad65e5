/- Lemmas on which the proof of Rows.FnCodecCardSaid rests: no statement of the seat is proved in this file. Conditions: each lemma's own hypotheses, no others. -/
import Derived.Test.YtimonhimfioohaaGreatDoorM08
import Derived.Test.YtimonhimfioohaaGreatDoorM09
import Derived.Lib.Space
import Derived.Lib.Walk
import Derived.Lib.Slices
import Derived.Sort.OwnSorted
import Derived.Test.YtimonhimfioohaaGreatDoorM02
import Derived.Test.YtimonhimfioohaaGreatDoorM05
/-! impl.CodecFor. -/
namespace Go.Proofs.YtimonhimfioohaaGreatDoor
open Go Go.RowKit Go.PlainAid Kn
theorem size33 : (Tryz.prog.info? 33).map (·.size) = some 19 := by kernel_rfl
/-- What the calls on a session ask of it. -/
structure SesArg (w : World) (x : Ses) (p : Nat) (c : Cd) : Prop where
  fit : fSesI x
  atts : ∀ m ∈ x.med, fAttsW m.atts
  p9 : 9 < p
  p8 : p ≤ 255
  acts : ActsL p (x.med.flatMap Med.atts) Option.none (some c)
  tot : (x.med.flatMap Med.atts).length ≤ 400000
  fb : c.fb.length ≤ 1000
  g2 : Glob 2 w
  g3 : Glob 3 w
  g4 : Glob 4 w
theorem SesArg.step {w w' : World} {x : Ses} {p : Nat} {c : Cd} (h : SesArg w x p c) (hb : Below w.heap.size w w') : SesArg w' x p c :=
  ⟨h.fit, h.atts, h.p9, h.p8, h.acts, h.tot, h.fb, h.g2.step hb, h.g3.step hb, h.g4.step hb⟩
theorem SesArg.inn {w : World} {x : Ses} {p : Nat} {c : Cd} (h : SesArg w x p c) {g : Nat} {F : Nat → Prop} (hb : SesBlk F w g x.med) : SesIn w g x.med F p (some c) :=
  ⟨hb, h.fit.2.2.2.2.1, h.atts, h.p9, h.p8, h.acts, h.tot, h.g2, h.g3, h.g4⟩
set_option maxRecDepth 20000 in
set_option maxHeartbeats 3200000 in
theorem codecfor_calls (x : Ses) (cs : List Value) (F : Nat → Prop) (w : World) (p : Nat) (c : Cd) (hk : kSes.K F w x cs) (ha : SesArg w x p c) :
    Calls Tryz.prog 14 #[.agg cs.toArray, .int .i64 p] w fun e w' => Below w.heap.size w w' ∧ ∃ A k, e = .returned (.tuple #[.agg #[.int .i64 p, .string c.name, .int .u32 c.rate, .string c.par, .string c.fm, .slice A c.fb.length k], .bool true]) ∧ Kn.string.SV (fun b => w.heap.size ≤ b) w' (.slice A c.fb.length k) c.fb := by
  have hp := ha.p8
  obtain ⟨ca, hca⟩ : ∃ ca, ca = cs.toArray := ⟨_, rfl⟩
  have hsz : ca.size = 19 := by rw [hca]; exact kSes.len hk
  have hsz2 : (Tryz.prog.info? 33).map (·.size) = some ca.size := by rw [hsz]; exact size33
  have HE := Bx.mk hca
  rw [← hca]
  have HZ := Bx.mk hsz2
  have hB := below_alloc2 (Below.refl w.heap.size w) (.cells ca 33) (.cells #[.int .i64 0, .string ⟨#[]⟩, .int .u32 0, .string ⟨#[]⟩, .string ⟨#[]⟩, .slice Option.none 0 0] 57)
  have HK := Bx.mk (K_step hk hB)
  have HA := Bx.mk (ha.step hB)
  have HB := Bx.mk hB
  have HG := Bx.mk (blk_alloc (heap_alloc_new w (.cells ca 33)) (.cells #[.int .i64 0, .string ⟨#[]⟩, .int .u32 0, .string ⟨#[]⟩, .string ⟨#[]⟩, .slice Option.none 0 0] 57))
  have hD0 := heap_alloc_new (w.alloc (.cells ca 33)) (.cells #[.int .i64 0, .string ⟨#[]⟩, .int .u32 0, .string ⟨#[]⟩, .string ⟨#[]⟩, .slice Option.none 0 0] 57)
  rw [World.size_alloc] at hD0
  have HD := Bx.mk hD0
  clear hk ha hca hsz hsz2 hB hD0
  go_enter Tryz.func14, Tryz.ntmps14
  go_wp2_with (refine wpList_load_row rfl 33 _ rfl w.heap.size rfl 33 _ (0, 0) _ HG.out Tryz.underlying33 rfl HZ.out ?_)
  have hI := isession x cs F _ HK.out HA.out.fit
  rw [← HE.out] at hI
  refine hI.mono ?_
  clear hI
  rintro e w1 ⟨hb1, g, rfl, -, hs1⟩
  have HS1 := Bx.mk ((HA.out.step hb1).inn hs1)
  have HB1 := Bx.mk (below_trans HB.out hb1)
  have HD1 := Bx.mk (heap_below hb1 HD.out)
  have HFB := Bx.mk HA.out.fb
  clear hb1 hs1 HK HA HB HG HD
  go_wp2_with (fail)
  refine (forpt_calls w1 g x.med _ p c HS1.out).mono ?_
  rintro e w2 ⟨hb2, A, k, rfl, hv2⟩
  have HB2 := below_trans (below_trans HB1.out hb2) (below_alloc1 (Below.refl w2.heap.size w2) (.cells #[.int .u8 p, .string c.name, .int .u32 c.rate, .string c.par, .string c.fm, .slice A c.fb.length k] 101))
  have HD2 := heap_below (below_alloc1 (Below.refl w2.heap.size w2) (.cells #[.int .u8 p, .string c.name, .int .u32 c.rate, .string c.par, .string c.fm, .slice A c.fb.length k] 101)) (heap_below hb2 HD1.out)
  have HV2 := Bx.mk (hv2.step (by decide) (below_alloc1 (Below.refl w2.heap.size w2) (.cells #[.int .u8 p, .string c.name, .int .u32 c.rate, .string c.par, .string c.fm, .slice A c.fb.length k] 101)))
  replace HB2 := Bx.mk HB2
  replace HD2 := Bx.mk HD2
  clear hb2 hv2 HB1 HD1 HS1
  go_wp2_with (fail)
  refine (codec_calls p c.name c.rate c.par c.fm A c.fb.length k c.fb _ _ hp HV2.out (by have := HFB.out; omega)).mono ?_
  rintro e w3 ⟨hb3, A2, k2, rfl, hv3⟩
  have HB3 := Bx.mk (below_trans HB2.out hb3)
  have HD3 := Bx.mk (heap_below hb3 HD2.out)
  have HV3 := Bx.mk hv3
  have HX := Bx.mk (blk_lt HD2.out)
  clear hb3 hv3 HB2 HD2 HV2
  have hG := HD3.out
  have c0 := (blk_cell (setRow_heap w3 (w.heap.size + 1) _ #[.int .i64 p, .string c.name, .int .u32 c.rate, .string c.par, .string c.fm, .slice A2 c.fb.length k2] _ _ hG) 0).trans rfl
  have c1 := (blk_cell (setRow_heap w3 (w.heap.size + 1) _ #[.int .i64 p, .string c.name, .int .u32 c.rate, .string c.par, .string c.fm, .slice A2 c.fb.length k2] _ _ hG) 1).trans rfl
  have c2 := (blk_cell (setRow_heap w3 (w.heap.size + 1) _ #[.int .i64 p, .string c.name, .int .u32 c.rate, .string c.par, .string c.fm, .slice A2 c.fb.length k2] _ _ hG) 2).trans rfl
  have c3 := (blk_cell (setRow_heap w3 (w.heap.size + 1) _ #[.int .i64 p, .string c.name, .int .u32 c.rate, .string c.par, .string c.fm, .slice A2 c.fb.length k2] _ _ hG) 3).trans rfl
  have c4 := (blk_cell (setRow_heap w3 (w.heap.size + 1) _ #[.int .i64 p, .string c.name, .int .u32 c.rate, .string c.par, .string c.fm, .slice A2 c.fb.length k2] _ _ hG) 4).trans rfl
  have c5 := (blk_cell (setRow_heap w3 (w.heap.size + 1) _ #[.int .i64 p, .string c.name, .int .u32 c.rate, .string c.par, .string c.fm, .slice A2 c.fb.length k2] _ _ hG) 5).trans rfl
  go_wp2_with (refine wpList_store_row rfl 57 _ _ rfl (w.heap.size + 1) #[.int .i64 p, .string c.name, .int .u32 c.rate, .string c.par, .string c.fm, .slice A2 c.fb.length k2] rfl rfl 57 _ HD3.out size57 rfl (by simp [Value.oneCell']) ?_)
  refine bodyPost_ret (v := .tuple #[.agg #[.int .i64 p, .string c.name, .int .u32 c.rate, .string c.par, .string c.fm, .slice A2 c.fb.length k2], .bool true]) (by simp [results, Tryz.results14, go_sem, *]) rfl ⟨HB3.out.trans ((keep_setRow _ _ _).below HB3.out.size (Nat.le_succ _)), A2, k2, rfl, ?_⟩
  have hz := HB3.out.size
  refine (HV3.out.keep (by decide) (fun b hb => ?_) (keep_setRow _ _ _)).mono fun b hb => ?_
  · have h1 := HX.out; have h2 : _ ≤ b := hb; omega
  · have h1 := HX.out; have h2 : _ ≤ b := hb; omega
end Go.Proofs.YtimonhimfioohaaGreatDoor
/-! impl.Codecs. -/
namespace Go.Proofs.YtimonhimfioohaaGreatDoor
open Go Go.RowKit Go.PlainAid Kn Go.Maps
/-- Codecs, of which the payload type and the name are told. -/
def kCx : Kn (Nat × ByteArray) where
  sz := 6
  K := fun _ _ x cs => ∃ c2 c3 c4 c5, cs = [.int .i64 x.1, .string x.2, c2, c3, c4, c5] ∧ c2.oneCell' = true ∧ c3.oneCell' = true ∧ c4.oneCell' = true ∧ c5.oneCell' = true
  len := by rintro F w x cs ⟨_, _, _, _, rfl, _⟩; rfl
  one := by
    rintro F w x cs ⟨c2, c3, c4, c5, rfl, h2, h3, h4, h5⟩ u hu
    simp only [List.mem_cons, List.not_mem_nil, or_false] at hu
    rcases hu with rfl | rfl | rfl | rfl | rfl | rfl
    · rfl
    · rfl
    · exact h2
    · exact h3
    · exact h4
    · exact h5
  mono := fun _ h => h
  bound := fun h => h
  move := fun _ h => h
theorem info57 : (Tryz.prog.info? 57).map (fun i => (i.zero, i.size, i.bytes)) = some (some (.agg #[.int .i64 0, .string ⟨#[]⟩, .int .u32 0, .string ⟨#[]⟩, .string ⟨#[]⟩, .slice Option.none 0 0]), 6, 88) := by kernel_rfl
/-- What a look-up in the map tells. -/
theorem tab_look {w0 W : World} {p : Nat} {c : Cd} {r : Nat} (h : MapSt w0 W p r (some c)) (hp9 : 9 < p) (k : Nat) (hk : k ≤ 255) :
    (k ≠ p ∧ (Instr.lookup 112 (.map (some w0.heap.size)) (.int .u8 k) true).run Tryz.prog W = .ok (.tuple #[.agg #[.int .u8 0, .string ⟨#[]⟩, .int .u32 0, .string ⟨#[]⟩, .string ⟨#[]⟩, .slice Option.none 0 0], .bool false]) W) ∨
    ∃ (name : ByteArray) (rate : Nat) (par fm : ByteArray) (A : Option Addr) (n kk : Nat) (l : List ByteArray), (Instr.lookup 112 (.map (some w0.heap.size)) (.int .u8 k) true).run Tryz.prog W = .ok (.tuple #[.agg #[.int .u8 k, .string name, .int .u32 rate, .string par, .string fm, .slice A n kk], .bool true]) W ∧
      Kn.string.SV (fun _ => True) W (.slice A n kk) l ∧ l.length ≤ 500000 ∧ (k = p → name = c.name) := by
  obtain ⟨hok, n, D, ev, q1, q2, ⟨A, n', kk, rfl, rfl, hO⟩, q4⟩ := h
  have st : ∀ (j : Nat) (nm : ByteArray), j ≤ 255 → j ≠ p → (∀ zd, D.atKey (.int .u8 j) zd = .held (codV j nm 8000 ⟨#[]⟩ ⟨#[]⟩ (.slice Option.none 0 0))) → Maps.has D (.int .u8 j) = true → ∃ (name : ByteArray) (rate : Nat) (par fm : ByteArray) (A : Option Addr) (n kk : Nat) (l : List ByteArray), (Instr.lookup 112 (.map (some w0.heap.size)) (.int .u8 j) true).run Tryz.prog W = .ok (.tuple #[.agg #[.int .u8 j, .string name, .int .u32 rate, .string par, .string fm, .slice A n kk], .bool true]) W ∧
      Kn.string.SV (fun _ => True) W (.slice A n kk) l ∧ l.length ≤ 500000 ∧ (j = p → name = c.name) := fun j nm hj hne ha hh =>
    ⟨nm, 8000, ⟨#[]⟩, ⟨#[]⟩, Option.none, 0, 0, [], look5_ok q1 hj (ha _) hh, SV.nil _ _ _, by simp, fun e => absurd e hne⟩
  by_cases h0 : k = 0
  · subst h0; exact .inr (st 0 _ (by omega) (by omega) q2.a0 (by rw [q2.hs]; simp))
  · by_cases h8 : k = 8
    · subst h8; exact .inr (st 8 _ (by omega) (by omega) q2.a8 (by rw [q2.hs]; simp))
    · by_cases h9 : k = 9
      · subst h9; exact .inr (st 9 _ (by omega) (by omega) q2.a9 (by rw [q2.hs]; simp))
      · by_cases hp : k = p
        · subst hp
          exact .inr ⟨c.name, c.rate, c.par, c.fm, A, _, kk, c.fb, look5_ok q1 hk (q2.ap _ rfl _) (by rw [q2.hs]; simp), hO.reads.mono fun _ _ => trivial, by have := hok.2.2; omega, fun _ => rfl⟩
        · refine .inl ⟨hp, ?_⟩
          have hh : Maps.has D (.int .u8 k) = false := by rw [q2.hs]; simp; omega
          exact look5_ok q1 hk (atKey_of_not_has hh _) hh
set_option maxRecDepth 20000 in
set_option maxHeartbeats 3200000 in
theorem codecs_calls (x : Ses) (cs : List Value) (F : Nat → Prop) (w : World) (p : Nat) (c : Cd) (hk : kSes.K F w x cs) (ha : SesArg w x p c) :
    Calls Tryz.prog 17 #[.agg cs.toArray] w fun e w' => Below w.heap.size w w' ∧ ∃ (l : List (Nat × ByteArray)) (A : Option Addr) (n k : Nat), e = .returned (.slice A n k) ∧ kCx.SV (fun b => w.heap.size ≤ b) w' (.slice A n k) l ∧ l.length ≤ 256 ∧ (p, c.name) ∈ l := by
  have hp := ha.p8
  have hp9 := ha.p9
  obtain ⟨ca, hca⟩ : ∃ ca, ca = cs.toArray := ⟨_, rfl⟩
  have hsz : ca.size = 19 := by rw [hca]; exact kSes.len hk
  have hsz2 : (Tryz.prog.info? 33).map (·.size) = some ca.size := by rw [hsz]; exact size33
  have HE := Bx.mk hca
  rw [← hca]
  have HZ := Bx.mk hsz2
  have hB := below_alloc1 (Below.refl w.heap.size w) (.cells ca 33)
  have HK := Bx.mk (K_step hk hB)
  have HA := Bx.mk (ha.step hB)
  have HB := Bx.mk hB
  have HG := Bx.mk (heap_alloc_new w (.cells ca 33))
  clear hk ha hca hsz hsz2 hB
  go_enter Tryz.func17, Tryz.ntmps17
  go_wp2_with (refine wpList_load_row rfl 33 _ rfl w.heap.size rfl 33 _ (0, 0) _ HG.out Tryz.underlying33 rfl HZ.out ?_)
  have hI := isession x cs F _ HK.out HA.out.fit
  rw [← HE.out] at hI
  refine hI.mono ?_
  clear hI
  rintro e w1 ⟨hb1, g, rfl, -, hs1⟩
  have HS1 := Bx.mk ((HA.out.step hb1).inn hs1)
  have HB1 := Bx.mk (below_trans HB.out hb1)
  clear hb1 hs1 HK HA HB HG
  go_wp2_with (fail)
  refine HS1.out.map.mono ?_
  rintro e wB ⟨hb2, rfl, hM⟩
  have HM := Bx.mk hM
  have HB2 := Bx.mk (below_trans HB1.out hb2)
  clear hb2 hM HS1 HB1
  go_wp2
  go_loopw [4, 11] (fun out i wr => ∃ (k : Nat) (l : List (Nat × ByteArray)) (A : Option Addr) (n k2 : Nat), k ≤ 256 ∧ i = .int .i64 k ∧ out = .slice A n k2 ∧ l.length = n ∧ n ≤ k ∧ Bx (kCx.Own 57 wr wB.heap.size (fun b => wB.heap.size ≤ b) (.slice A n k2) l) ∧ Bx (p < k → (p, c.name) ∈ l) ∧ Bx (Below wB.heap.size wB wr)) (fun _ i _ => 256 - (intOf i).toNat)
  case atStart => exact ⟨0, [], Option.none, 0, 0, by omega, rfl, rfl, rfl, by omega, ⟨Own.nil _ _ _ _ _⟩, ⟨fun h => absurd h (by omega)⟩, ⟨Below.refl _ _⟩⟩
  case round =>
    obtain ⟨k, l, A, n, k2, hk, rfl, rfl, hln, hnk, hO, hin, hB⟩ := hrel
    by_cases hlt : k < 256
    · have hlk := tab_look (HM.out.step hB.out) hp9 k (by omega)
      rcases hlk with ⟨hne, hlk⟩ | ⟨name, rate, par, fm, A3, n3, kk3, l3, hlk, hv3, hl3, hnm⟩
      · have HO1 := Bx.mk (own_alloc hO.out (.cells #[.int .u8 0, .string ⟨#[]⟩, .int .u32 0, .string ⟨#[]⟩, .string ⟨#[]⟩, .slice Option.none 0 0] 101))
        have HB1 := Bx.mk (below_trans hB.out (below_alloc1 (Below.refl wr.heap.size wr) (.cells #[.int .u8 0, .string ⟨#[]⟩, .int .u32 0, .string ⟨#[]⟩, .string ⟨#[]⟩, .slice Option.none 0 0] 101)))
        clear hO hB
        go_wp2
        go_roundw
        case rel => first | exact ⟨k + 1, l, A, n, k2, by omega, by go_num, rfl, hln, by omega, HO1, ⟨fun h => hin.out (by omega)⟩, HB1⟩ | ((repeat apply Exists.intro); exact ⟨⟨k + 1, l, A, n, k2, by omega, by go_num, rfl, hln, by omega, HO1, ⟨fun h => hin.out (by omega)⟩, HB1⟩, rfl⟩)
        case measure => simp [intOf]; omega
      · have hb2 := below_alloc1 (Below.refl wr.heap.size wr) (.cells #[.int .u8 k, .string name, .int .u32 rate, .string par, .string fm, .slice A3 n3 kk3] 101)
        have HV3 := Bx.mk (hv3.step (by decide) hb2)
        have HO1 := Bx.mk (own_alloc hO.out (.cells #[.int .u8 k, .string name, .int .u32 rate, .string par, .string fm, .slice A3 n3 kk3] 101))
        have HB1 := Bx.mk (below_trans hB.out hb2)
        have HLN := Bx.mk hln
        have HL3 := Bx.mk hl3
        have HNM := Bx.mk hnm
        clear hO hB hb2 hv3 hln hl3 hnm
        go_wp2_with (fail)
        refine (codec_calls k name rate par fm A3 n3 kk3 l3 _ _ (by omega) HV3.out (by have := HL3.out; omega)).mono ?_
        rintro e w3 ⟨hb3, A4, k4, rfl, hv4⟩
        have HO3 := Bx.mk (HO1.out.step (w' := w3) (fun b _ hlt => hb3.block b hlt))
        have HB3 := Bx.mk (below_trans HB1.out hb3)
        have HL : n + 1 ≤ 2147483648 := by omega
        clear hb3 hv4 HO1 HB1 HV3 hlk
        go_wp2_with (at_builtin; refine app_row kCx (w := wB) (B := wB.heap.size) _ rfl _ _ 63 57 _ 88 rfl Tryz.underlying63 info57 rfl (by decide) (by decide) (by decide) (.slice A n k2) l (k, name) [.int .i64 k, .string name, .int .u32 rate, .string par, .string fm, .slice A4 l3.length k4] n HLN.out _ rfl rfl (by simp) ⟨⟨_, _, _, _, rfl, rfl, rfl, rfl, rfl⟩⟩ HO3 HB3 (Nat.le_refl _) HB3.out.size (fun _ h => h) HL ?_; intro A5 c5 w5 HO5 HB5 _)
        go_roundw
        case rel => first | exact ⟨k + 1, l ++ [(k, name)], A5, n + 1, c5, by omega, by go_num, rfl, by simp [HLN.out], by omega, HO5, ⟨fun h => by by_cases h2 : p < k; exact List.mem_append.2 (.inl (hin.out h2)); exact List.mem_append.2 (.inr (by have h3 : k = p := (by omega); rw [HNM.out h3, h3]; simp))⟩, HB5⟩ | ((repeat apply Exists.intro); exact ⟨⟨k + 1, l ++ [(k, name)], A5, n + 1, c5, by omega, by go_num, rfl, by simp [HLN.out], by omega, HO5, ⟨fun h => by by_cases h2 : p < k; exact List.mem_append.2 (.inl (hin.out h2)); exact List.mem_append.2 (.inr (by have h3 : k = p := (by omega); rw [HNM.out h3, h3]; simp))⟩, HB5⟩, rfl⟩)
        case measure => simp [intOf]; omega
    · obtain rfl : k = 256 := by omega
      go_wp2
      go_ret
      exact ⟨below_trans HB2.out hB.out, l, A, n, k2, rfl, SV.mono hO.out.reads fun b hb => Nat.le_trans HB2.out.size hb, by omega, hin.out (by omega)⟩
end Go.Proofs.YtimonhimfioohaaGreatDoor
/-! strings.TrimSpace on ASCII, whatever the library's table of spaces holds. (After the kit's contract for the table that its initialiser lays.) -/
namespace Go.Proofs.YtimonhimfioohaaGreatDoor
open Go Go.RowKit Go.Shelf
def trimF (f : UInt8 → Bool) (l : List UInt8) : List UInt8 := ((l.dropWhile f).reverse.dropWhile f).reverse
theorem trimF_all (f : UInt8 → Bool) (l : List UInt8) (h : ∀ (j : Nat) b, l[j]? = some b → f b = true) : trimF f l = [] := by
  have : l.dropWhile f = l.drop l.length := Lib.dropWhile_drop f l l.length (fun j b _ hb => h j b hb) (fun b hb => by simp at hb) (Nat.le_refl _)
  simp [trimF, this]

theorem trimF_cut (f : UInt8 → Bool) (l : List UInt8) (lo hi : Nat) (hlo : lo ≤ hi) (hhi : hi < l.length) (h1 : ∀ j b, j < lo → l[j]? = some b → f b = true) (h2 : ∀ b, l[lo]? = some b → f b = false)
    (h3 : ∀ b, l[hi]? = some b → f b = false) (h4 : ∀ j b, hi < j → l[j]? = some b → f b = true) : trimF f l = (l.drop lo).take (hi + 1 - lo) := by
  have e1 : l.dropWhile f = l.drop lo := Lib.dropWhile_drop f l lo h1 h2 (by omega)
  have hlen : (l.drop lo).reverse.length = l.length - lo := by simp
  have at' : ∀ j, j < l.length - lo → (l.drop lo).reverse[j]? = l[l.length - 1 - j]? := by
    intro j hj
    rw [List.getElem?_reverse (by simpa using hj), List.getElem?_drop]
    congr 1
    simp
    omega
  have e2 : (l.drop lo).reverse.dropWhile f = (l.drop lo).reverse.drop (l.length - 1 - hi) := by
    refine Lib.dropWhile_drop f _ _ (fun j b hj hb => ?_) (fun b hb => ?_) (by rw [hlen]; omega)
    · rw [at' j (by omega)] at hb
      exact h4 _ b (by omega) hb
    · rw [at' _ (by omega)] at hb
      have : l.length - 1 - (l.length - 1 - hi) = hi := by omega
      rw [this] at hb
      exact h3 b hb
  unfold trimF
  rw [e1, e2, List.drop_reverse, List.reverse_reverse]
  congr 1
  simp
  omega

theorem hidS {p : Prop} (h : p) : Hid p := h
theorem ba_eq' (x : ByteArray) (l : List UInt8) (h : x.data.toList = l) : x = ⟨l.toArray⟩ := by
  subst h
  cases x
  simp
/-- The table of spaces holds the numbers tb. -/
def SpTab (tb : Nat → Int) (w : World) : Prop := ∀ c : Nat, c < 256 → w.cell? ⟨10, c, none⟩ = some (.int .u8 (tb c))
theorem SpTab.step {tb : Nat → Int} {w w' : World} (h : SpTab tb w) (hb : Below w.heap.size w w') : SpTab tb w' := fun c hc => cell_below hb (h c hc)
set_option maxHeartbeats 4000000 in
set_option maxRecDepth 100000 in
theorem trim_calls (tb : Nat → Int) (s : ByteArray) (w : World) (hs : s.size ≤ 9223372036854775807) (hascii : ∀ (j : Nat) b, s.data.toList[j]? = some b → b.toNat < 128) (htab : SpTab tb w) :
    Calls Tryz.prog 105 #[.string s] w fun e w' => e = .returned (.string ⟨(trimF (fun x => tb x.toNat != 0) s.data.toList).toArray⟩) ∧ w' = Lib.bytesWorld w 5 s := by
  obtain ⟨f, hf⟩ : ∃ f : UInt8 → Bool, f = fun x => tb x.toNat != 0 := ⟨_, rfl⟩
  rw [← hf]
  have HF := hidS hf
  have hT : SpTab tb (Lib.bytesWorld w 5 s) := htab.step (below_or (.inr rfl))
  unfold SpTab at hT
  have hB : ∀ t, t < s.size → (Lib.bytesWorld w 5 s).cell? ⟨w.heap.size, t, none⟩ = some (.int .u8 (s.data.toList.getD t 0).toNat) := fun t ht => Lib.bytesWorld_cell w 5 s t ht
  have HA := hidS hascii
  clear hascii htab hf
  go_enter Tryz.func105, Tryz.ntmps105
  go_wp2
  rw [Lib.run_convert_string_bytes w 9 97 5 s (u := .string) Tryz.underlying9 Tryz.underlying97 Tryz.underlying5]
  simp only [Result.andThen]
  rw [Oper.upon_value]
  -- THE WORLD BEHIND '[]byte(s)' UNDER A NAME
  obtain ⟨W1, hW1⟩ : ∃ W1, W1 = Lib.bytesWorld w 5 s := ⟨_, rfl⟩
  rw [← hW1] at hT hB ⊢
  have HW := hidS hW1
  have HT := hidS hT
  have HB := hidS hB
  clear hW1 hT hB
  go_wp2
  go_loop [10, 0] (fun i s0 => s0 = .string s ∧ ∃ k : Nat, k ≤ s.size ∧ i = .int .i64 k ∧ Hid (∀ (j : Nat) b, j < k → s.data.toList[j]? = some b → f b = true)) (fun i _ => s.size - (intOf i).toNat)
  case atStart => exact ⟨rfl, 0, Nat.zero_le _, rfl, fun j b hj => absurd hj (Nat.not_lt_zero _)⟩
  case round =>
    obtain ⟨rfl, k, hk, rfl, hsp⟩ := hrel
    by_cases hkn : k < s.size
    · obtain ⟨x, hx⟩ : ∃ x, x = s.data.toList.getD k 0 := ⟨_, rfl⟩
      have hxk : s.data.toList[k]? = some x := by
        rw [hx, List.getD, List.getElem?_eq_getElem (by rw [← Lib.size_eq]; exact hkn)]
        rfl
      have hc1 : W1.cell? ⟨w.heap.size, k, none⟩ = some (.int .u8 x.toNat) := by rw [hx]; exact HB.out k hkn
      have h128 : ¬ (128 : Int) ≤ (x.toNat : Int) := by have := HA.out k x hxk; omega
      have hTx : W1.cell? ⟨10, x.toNat, none⟩ = some (.int .u8 (tb x.toNat)) := HT.out x.toNat (UInt8.toNat_lt x)
      have Hxk := hidS hxk
      clear hx hxk
      cases hsx : f x with
      | true =>
        have hz1 : (tb x.toNat == 0) = false := by simpa [HF.out] using hsx
        go_wp2
        go_round
        case rel =>
          refine ⟨rfl, k + 1, by omega, by go_num, fun j b hj hb => ?_⟩
          by_cases e : j = k
          · subst e
            rw [Hxk.out] at hb
            cases hb
            exact hsx
          · exact hsp.out j b (by omega) hb
        case measure => simp [intOf]; omega
      | false =>
        have hz1 : tb x.toNat = 0 := by simpa [HF.out] using hsx
        rw [hz1] at hTx
        clear hz1
        -- 's = s[lo:]'
        have hsl1 : ∀ w, (Instr.slice 9 (.string s) (some (.int .i64 (k : Int))) none none).run Tryz.prog w = .ok (.string (s.extract k s.size)) w := fun w => by
          rw [run_slice_string_from_if w 9 s .i64 _ Tryz.underlying9, if_pos ⟨by omega, by omega⟩]
          rfl
        have hts : (s.extract k s.size).size = s.size - k := by
          rw [Lib.size_eq, Lib.extract_data, List.length_take, List.length_drop, ← Lib.size_eq]
          omega
        have htd : ∀ j : Nat, (s.extract k s.size).data.toList[j]? = if j < s.size - k then s.data.toList[k + j]? else none := by
          intro j
          rw [Lib.extract_data, List.getElem?_take]
          split
          · rw [List.getElem?_drop]
          · rfl
        have hte : (s.extract k s.size).data.toList = (s.data.toList.drop k).take (s.size - k) := Lib.extract_data s k s.size
        generalize s.extract k s.size = t at hts htd hte hsl1
        have Htd := hidS htd
        have Hte := hidS hte
        clear htd hte
        go_wp2
        go_loop [5] (fun h => ∃ m : Nat, m < s.size - k ∧ h = .int .i64 m ∧ Hid (∀ (j : Nat) b, k + m < j → s.data.toList[j]? = some b → f b = true)) (fun h => (intOf h).toNat)
        case atStart =>
          refine ⟨s.size - k - 1, by omega, by go_num, fun j b hj hb => ?_⟩
          have : s.data.toList.length ≤ j := by rw [← Lib.size_eq]; omega
          simp [List.getElem?_eq_none this] at hb
        case round =>
          obtain ⟨m, hm, rfl, hsp2⟩ := hrel
          have hmt : m < t.size := by omega
          have hty : t.data.toList[m]? = some (t[m]'hmt) := by
            rw [Array.getElem?_toList]
            exact Array.getElem?_eq_getElem hmt
          have hsm : s.data.toList[k + m]? = some (t[m]'hmt) := by rw [← hty, Htd.out m, if_pos hm]
          have hy128 : ¬ (128 : Int) ≤ ((t[m]'hmt).toNat : Int) := by have := HA.out (k + m) _ hsm; omega
          have hTy : W1.cell? ⟨10, (t[m]'hmt).toNat, none⟩ = some (.int .u8 (tb (t[m]'hmt).toNat)) := HT.out (t[m]'hmt).toNat (UInt8.toNat_lt _)
          have Hsm := hidS hsm
          clear hty hsm
          cases hsy : f (t[m]'hmt) with
          | true =>
            have hz2 : (tb (t[m]'hmt).toNat == 0) = false := by simpa [HF.out] using hsy
            -- place 0 holds x, which is no space: so m is not 0
            have hm0 : 0 < m := by
              rcases Nat.eq_zero_or_pos m with e | e
              · subst e
                have h1 := Hsm.out
                rw [Nat.add_zero, Hxk.out] at h1
                cases h1
                rw [hsx] at hsy
                cases hsy
              · exact e
            go_wp2
            go_round
            case rel =>
              refine ⟨m - 1, by omega, by go_num, fun j b hj hb => ?_⟩
              by_cases e : j = k + m
              · subst e
                rw [Hsm.out] at hb
                cases hb
                exact hsy
              · exact hsp2.out j b (by omega) hb
            case measure => simp [intOf]; omega
          | false =>
            have hz2 : tb (t[m]'hmt).toNat = 0 := by simpa [HF.out] using hsy
            rw [hz2] at hTy
            clear hz2
            -- 'return s[:hi+1]'
            have hsl2 : ∀ w, (Instr.slice 9 (.string t) none (some (.int .i64 ((m : Int) + 1))) none).run Tryz.prog w = .ok (.string (t.extract 0 (m + 1))) w := fun w => by
              rw [run_slice_string_to_if w 9 t .i64 _ Tryz.underlying9, if_pos ⟨by omega, by omega⟩, show ((m : Int) + 1).toNat = m + 1 by omega]
            go_wp2
            go_ret
            refine ⟨?_, HW.out⟩
            have hcut := trimF_cut f s.data.toList k (k + m) (by omega) (by rw [← Lib.size_eq]; omega) hsp.out (fun b hb => by rw [Hxk.out] at hb; cases hb; exact hsx) (fun b hb => by rw [Hsm.out] at hb; cases hb; exact hsy) hsp2.out
            rw [hcut]
            show Ending.returned (Value.string (t.extract 0 (m + 1))) = _
            rw [ba_eq' (t.extract 0 (m + 1)) ((s.data.toList.drop k).take (k + m + 1 - k)) (by
              rw [Lib.extract_data, Hte.out, List.drop_zero, List.take_take]
              congr 1
              omega)]
    · have hke : k = s.size := by omega
      subst hke
      go_wp2
      go_ret
      refine ⟨?_, HW.out⟩
      rw [trimF_all f s.data.toList (fun j b hb => hsp.out j b (by
        have : j < s.data.toList.length := by
          rcases Nat.lt_or_ge j s.data.toList.length with h | h
          · exact h
          · simp [List.getElem?_eq_none h] at hb
        rw [Lib.size_eq]; exact this) hb)]
      rfl
end Go.Proofs.YtimonhimfioohaaGreatDoor
/-! sdp.equivalentFmtp: a format fits itself. -/
namespace Go.Proofs.YtimonhimfioohaaGreatDoor
open Go Go.RowKit Go.PlainAid Kn
theorem inner_of {ps : List ByteArray} {inner : List Value} {F : Nat → Prop} {w : World} (h : Reps (fun x cs => Kn.string.K F w x cs) Kn.string.sz ps inner) : inner = ps.map Value.string := by
  apply List.ext_getElem?
  intro j
  rcases Nat.lt_or_ge j ps.length with hj | hj
  · have h1 := h.2 j ps[j] (List.getElem?_eq_getElem hj)
    have h2 : (inner.drop (j * 1)).take 1 = [.string ps[j]] := h1
    rw [Nat.mul_one] at h2
    have h3 : ((inner.drop j).take 1)[0]? = some (.string ps[j]) := by rw [h2]; rfl
    rw [List.getElem?_take_of_lt (by decide), List.getElem?_drop, Nat.add_zero] at h3
    rw [h3, List.getElem?_map, List.getElem?_eq_getElem hj]
    rfl
  · have hl : inner.length = ps.length * 1 := h.1
    rw [List.getElem?_eq_none (by omega), List.getElem?_eq_none (by simpa using hj)]
theorem reps_strs (F : Nat → Prop) (w : World) (ps : List ByteArray) : Reps (fun x cs => Kn.string.K F w x cs) Kn.string.sz ps (ps.map Value.string) := by
  refine ⟨by simp [Kn.string, Kn.scalar], fun j p hj => ?_⟩
  show (((ps.map Value.string).drop (j * 1)).take 1) = [Value.string p]
  rw [Nat.mul_one, ← List.map_drop, ← List.map_take]
  obtain ⟨hlt, rfl⟩ := List.getElem?_eq_some_iff.1 hj
  rw [List.drop_eq_getElem_cons hlt]
  rfl
/-- The texts in order. -/
def sortB (ps : List ByteArray) : List ByteArray := ((ps.map fun s => s.data.toList).mergeSort fun x y => decide (x ≤ y)).map B
theorem sortB_length (ps : List ByteArray) : (sortB ps).length = ps.length := by simp [sortB, List.length_mergeSort]
theorem sortB_mem {ps : List ByteArray} {s : ByteArray} (h : s ∈ sortB ps) : s ∈ ps := by
  unfold sortB at h
  obtain ⟨l, hl, rfl⟩ := List.mem_map.1 h
  rw [List.mem_mergeSort] at hl
  obtain ⟨s', hs', rfl⟩ := List.mem_map.1 hl
  rw [B_data]
  exact hs'
theorem sort_calls {A : Option Addr} {n c Bs : Nat} {F : Nat → Prop} {ps : List ByteArray} {w : World} (h : Kn.string.Own 9 w Bs F (.slice A n c) ps) (hn : ps.length = n) (h0 : ps ≠ []) (hb : n ≤ 4000000000) :
    Calls Tryz.prog 104 #[.slice A n c] w fun e w' => e = .returned (.tuple #[]) ∧ w.grownBy w' (Value.slice A n c).ownBlock ∧ Kn.string.Own 9 w' Bs F (.slice A n c) (sortB ps) := by
  subst hn
  obtain ⟨hF, inner, ho, hr⟩ := h
  have hi := inner_of hr
  subst hi
  rcases ho.2 with ⟨he, hz⟩ | ⟨g, cap, cur, he, hg, hh, hlc, hm, hcs, ht⟩
  · exact absurd (List.length_eq_zero_iff.1 hz) h0
  · cases he
    have hm2 : ps.map Value.string = (ps.map fun s => s.data.toList).map encStr := by
      rw [List.map_map]; rfl
    have hH : «Sort».Holds encStr w g 0 (ps.map fun s => s.data.toList).toArray := holds_of_block hh (by
      have : (ps.map fun s => s.data.toList).length = ps.length * Kn.string.sz := by simp [Kn.string, Kn.scalar]
      rw [this, ht, hm2])
    have hlt := (Array.getElem?_eq_some_iff.1 hh).1
    have hlen : (ps.map fun s => s.data.toList).length = ps.length := by simp
    have key := Tryz.sort_Strings g 0 c (ps.map fun s => s.data.toList) w hH hlt (by rw [hlen]; omega)
    rw [hlen] at key
    refine key.mono ?_
    rintro e w' ⟨he, k, os, rfl⟩
    refine ⟨he, grownBy_sorted _, hF, (sortB ps).map Value.string, ?_, reps_strs _ _ _⟩
    have hl2 : ((ps.map fun s => s.data.toList).mergeSort fun x y => decide (x ≤ y)).length = (ps.map fun s => s.data.toList).length := List.length_mergeSort _
    have := ownsRow_sorted (n := k) (os := os) (cap := c) hl2 hg hh (by rw [hlen]; exact hlc) hm (by rw [hcs]; rfl)
    rw [hlen] at this
    rw [sortB_length]
    have e2 : (sortB ps).map Value.string = ((ps.map fun s => s.data.toList).mergeSort fun x y => decide (x ≤ y)).map encStr := by
      unfold sortB; rw [List.map_map]; rfl
    rw [e2]
    exact this
theorem spl_exists (c : UInt8) : ∀ (n : Nat) (s : ByteArray), s.size ≤ n → ∃ ps, Spl c s ps ∧ ps ≠ [] ∧ ps.length ≤ n + 1 ∧ ∀ q ∈ ps, q.size ≤ s.size ∧ ∀ b ∈ q.data.toList, b ∈ s.data.toList := by
  intro n
  induction n with
  | zero =>
    intro s hs
    exact ⟨[s], .last s (fun j hj => absurd hj (by omega)), by simp, by simp, by simp⟩
  | succ n ih =>
    intro s hs
    by_cases h : ∃ i, ∃ hi : i < s.size, s[i] = c
    · -- the first one
      have hfirst : ∃ i, ∃ hi : i < s.size, s[i] = c ∧ ∀ j, (hj : j < i) → s[j] ≠ c := by
        obtain ⟨i, hi, hc⟩ := h
        have key : ∀ m, (hm : m ≤ i) → (∃ k, ∃ hk : k < s.size, s[k] = c ∧ ∀ j, (hj : j < k) → s[j] ≠ c) ∨ ∀ j, (hj : j < m) → s[j]'(by omega) ≠ c := by
          intro m
          induction m with
          | zero => exact fun _ => .inr fun j hj => absurd hj (by omega)
          | succ m ihm =>
            intro hm
            rcases ihm (by omega) with h1 | h1
            · exact .inl h1
            · by_cases h2 : s[m] = c
              · exact .inl ⟨m, by omega, h2, h1⟩
              · refine .inr fun j hj => ?_
                rcases Nat.lt_or_ge j m with h3 | h3
                · exact h1 j h3
                · obtain rfl : j = m := by omega
                  exact h2
        rcases key i (Nat.le_refl _) with h1 | h1
        · exact h1
        · exact ⟨i, hi, hc, h1⟩
      obtain ⟨i, hi, hc, hn⟩ := hfirst
      have hsz : (s.extract (i + 1) s.size).size ≤ n := by rw [size_ext]; omega
      obtain ⟨ps, h1, h2, h3, h4⟩ := ih _ hsz
      refine ⟨s.extract 0 i :: ps, .more s i hi hc hn h1, by simp, by simp; omega, ?_⟩
      have hsub : ∀ (a b : Nat) (x : UInt8), x ∈ (s.extract a b).data.toList → x ∈ s.data.toList := fun a b x hx => by
        rw [ByteArray.data_extract] at hx
        simp only [Array.toList_extract, List.extract_eq_take_drop] at hx
        exact List.mem_of_mem_drop (List.mem_of_mem_take hx)
      intro q hq
      rcases List.mem_cons.1 hq with rfl | hq
      · exact ⟨by rw [size_ext]; omega, fun b hb => hsub _ _ b hb⟩
      · have := h4 q hq
        rw [size_ext] at this
        exact ⟨by omega, fun b hb => hsub _ _ b (this.2 b hb)⟩
    · exact ⟨[s], .last s (fun j hj e => h ⟨j, hj, e⟩), by simp, by simp, by simp⟩
theorem own_str_move {w w' : World} {Bs : Nat} {F : Nat → Prop} {v : Value} {ps : List ByteArray} (h : Kn.string.Own 9 w Bs F v ps) (hm : ∀ b, v.ownBlock = some b → w'.heap[b]? = w.heap[b]?) : Kn.string.Own 9 w' Bs F v ps := by
  obtain ⟨h0, inner, ho, hr⟩ := h
  exact ⟨h0, inner, own_move ho hm, hr⟩
theorem calls_step2 {w w' : World} {tb : Nat → Int} (h : SpTab tb w) (hb : Below w.heap.size w w') : SpTab tb w' := h.step hb
set_option maxRecDepth 20000 in
set_option maxHeartbeats 3200000 in
theorem equiv_calls (tb : Nat → Int) (s : ByteArray) (w : World) (hs : s.size ≤ 2147483647) (hascii : ∀ b ∈ s.data.toList, b.toNat < 128) (htab : SpTab tb w) :
    Calls Tryz.prog 86 #[.string s, .string s] w fun e w' => Below w.heap.size w w' ∧ e = .returned (.bool true) := by
  obtain ⟨ps, hp1, hp2, hp3, hp4⟩ := spl_exists 59 s.size s (Nat.le_refl _)
  have HP1 := Bx.mk hp1
  have HP2 := Bx.mk hp2
  have HP3 := Bx.mk hp3
  have HP4 := Bx.mk hp4
  have HA := Bx.mk hascii
  have HT := Bx.mk htab
  obtain ⟨n, hn⟩ : ∃ n, n = ps.length := ⟨_, rfl⟩
  have HN := Bx.mk hn
  clear hp1 hp2 hp3 hp4 hascii htab hn
  go_enter Tryz.func86, Tryz.ntmps86
  go_wp2_with (fail)
  refine (split_own s 59 ps HP1.out w (by omega) (by have := HP3.out; omega)).mono ?_
  rintro e w1 ⟨hb1, A1, c1, rfl, hO1⟩
  rw [← HN.out] at hO1 ⊢
  have HB1 := Bx.mk hb1
  have HO1 := Bx.mk hO1
  clear hb1 hO1
  go_wp2_with (fail)
  refine (split_own s 59 ps HP1.out w1 (by omega) (by have := HP3.out; omega)).mono ?_
  rintro e w2 ⟨hb2, A2, c2, rfl, hO2⟩
  rw [← HN.out] at hO2 ⊢
  have HO12 := Bx.mk (HO1.out.step (w' := w2) (fun b _ hlt => hb2.block b hlt))
  have HO2 := Bx.mk hO2
  have HL1 := Bx.mk (HO1.out.lt)
  have HB2 := Bx.mk (below_trans HB1.out hb2)
  clear hb2 hO2 HO1
  go_wp2_with (fail)
  refine (sort_calls HO12.out HN.out.symm HP2.out (by have := HP3.out; have := HN.out; omega)).mono ?_
  rintro e w3 ⟨rfl, hg3, hO3⟩
  have HO3 := Bx.mk hO3
  have HO23 := Bx.mk (HO2.out.step (w' := w3) (fun b hF hlt => hg3.block b hlt (fun e => by have := (HL1.out b e.symm).2; have h2 : w1.heap.size ≤ b := hF; omega)))
  have HB3 := Bx.mk (HB2.out.grown hg3 HB2.out.size (fun b hb => (HO12.out.lt b hb).1))
  have HL2 := Bx.mk (HO2.out.lt)
  clear hg3 hO3 HO12 HO2
  go_wp2_with (fail)
  refine (sort_calls HO23.out HN.out.symm HP2.out (by have := HP3.out; have := HN.out; omega)).mono ?_
  rintro e w4 ⟨rfl, hg4, hO4⟩
  have HV4 := Bx.mk hO4.reads
  have HV3 := Bx.mk (own_str_move HO3.out (w' := w4) (fun b hb => hg4.block b (HO3.out.lt b hb).2 (fun e => by have h1 := (HL1.out b hb).2; have h2 := (HL2.out b e.symm).1; omega))).reads
  have HB4 := Bx.mk (HB3.out.grown hg4 HB3.out.size (fun b hb => by have h1 := (HO23.out.lt b hb).1; have h2 := HB1.out.size; omega))
  have hmx : n ≤ 9223372036854775807 := by have := HP3.out; have := HN.out; omega
  clear hg4 hO4 HO3 HO23 HB3 HB2
  go_wp2
  go_loopw [25] (fun i wr => ∃ k : Nat, k ≤ n ∧ i = .int .i64 k ∧ Bx (Below w4.heap.size w4 wr)) (fun i _ => n - (intOf i).toNat)
  case atStart => exact ⟨0, Nat.zero_le _, rfl, ⟨Below.refl _ _⟩⟩
  case round =>
    obtain ⟨k, hk, rfl, hB⟩ := hrel
    by_cases hlt : k < n
    · have hlen : k < (sortB ps).length := by rw [sortB_length, ← HN.out]; exact hlt
      obtain ⟨ad1, rfl, q1⟩ := str_cell (HV3.out.step (by decide) hB.out) k hlen
      obtain ⟨ad2, rfl, q2⟩ := str_cell (HV4.out.step (by decide) hB.out) k hlen
      obtain ⟨q, hq⟩ : ∃ q, q = (sortB ps)[k] := ⟨_, rfl⟩
      rw [← hq] at q1 q2
      have hmem : q ∈ ps := sortB_mem (by rw [hq]; exact List.getElem_mem hlen)
      have hqs := (HP4.out q hmem).1
      have hqa : ∀ (j : Nat) b, q.data.toList[j]? = some b → b.toNat < 128 := fun j b hb => HA.out b ((HP4.out q hmem).2 b (List.mem_of_getElem? hb))
      have HQ := Bx.mk hqa
      have HTr := Bx.mk (HT.out.step (below_trans HB4.out hB.out))
      clear hq hmem hqa hlen
      go_wp2_with (fail)
      refine (trim_calls tb q _ (by omega) HQ.out HTr.out).mono ?_
      rintro e w5 ⟨rfl, hw5⟩
      have hb5 : Below wr.heap.size wr w5 := below_or (.inr hw5)
      have q2' := cell_below hb5 q2
      have HB5 := Bx.mk (below_trans hB.out hb5)
      have HT5 := Bx.mk (HTr.out.step hb5)
      clear hw5 hb5 q1 q2 hB
      go_wp2_with (fail)
      refine (trim_calls tb q _ (by omega) HQ.out HT5.out).mono ?_
      rintro e w6 ⟨rfl, hw6⟩
      have HB6 := Bx.mk (below_trans HB5.out (below_or (.inr hw6)))
      clear hw6 q2'
      go_wp2
      go_roundw
      case rel => first | exact ⟨k + 1, by omega, by go_num, HB6⟩ | ((repeat apply Exists.intro); exact ⟨⟨k + 1, by omega, by go_num, HB6⟩, rfl⟩)
      case measure => simp [intOf]; omega
    · go_wp2
      go_ret
      exact ⟨below_trans HB4.out hB.out, rfl⟩
end Go.Proofs.YtimonhimfioohaaGreatDoor
/-! spec.is to the letter; spec.Codecs. -/
namespace Go.Proofs.YtimonhimfioohaaGreatDoor
open Go Go.RowKit Go.PlainAid Kn
/-- A bool is handed back that says p; the world is as it was. -/
def RI (p : Prop) (w : World) (e : Ending) (w' : World) : Prop := w = w' ∧ ∃ b : Bool, e = .returned (.bool b) ∧ (b = true ↔ p)
set_option maxHeartbeats 400000 in
theorem is_iff (s : ByteArray) (v : Value) (l : List ByteArray) (F : Nat → Prop) (w : World) (hv : Kn.string.SV F w v l) : Calls Tryz.prog 27 #[.string s, v] w (RI (s ∈ l) w) := by
  obtain ⟨A, c, rfl, hl, hr⟩ := hv
  have hm := hr.1
  have HR := Bx.mk hr
  clear hr
  go_enter Tryz.func27, Tryz.ntmps27
  go_wp2
  go_loop [9] (fun i => ∃ k : Nat, k ≤ l.length ∧ i = .int .i64 k ∧ Bx (UpTo (fun x => x ≠ s) l k)) (fun i => l.length - (intOf i).toNat)
  case atStart => exact ⟨0, Nat.zero_le _, rfl, ⟨upTo_zero _ _⟩⟩
  case round =>
    obtain ⟨k, hk, rfl, hU⟩ := hrel
    by_cases hlt : k < l.length
    · obtain ⟨ad, rfl, hcell⟩ := str_get HR.out k hlt
      cases heq : (l[k].toList == s.toList)
      · go_wp2
        exact ⟨⟨k + 1, by omega, by go_num, ⟨upTo_succ hU.out hlt (fun e => by rw [e] at heq; simp at heq)⟩⟩, by simp [intOf]; omega⟩
      · go_wp2
        go_ret
        exact ⟨rfl, _, rfl, fun _ => by have := List.getElem_mem hlt; rwa [toList_inj (eq_of_beq heq)] at this, fun _ => rfl⟩
    · go_wp2
      go_ret
      obtain rfl : k = l.length := by omega
      exact ⟨rfl, false, rfl, fun h => absurd h (by simp), fun h => absurd rfl (upTo_all hU.out s h)⟩
theorem is_lit (s : ByteArray) (W : World) (l : List ByteArray) (t : TypeId) (n m : Nat) (cs : Array Value) (hn : n = W.heap.size) (hm : m = l.length) (hcs : cs = (l.map Value.string).toArray) (hl : m ≤ 9223372036854775807) :
    Calls Tryz.prog 27 #[.string s, .slice (some ⟨n, 0, Option.none⟩) m m] (W.alloc (.cells cs t)) (RI (s ∈ l) (W.alloc (.cells cs t))) :=
  is_iff s _ l _ _ (lit_sv' W l t n m cs hn hm hcs hl)
def codecKeys : List ByteArray := [⟨#[114, 116, 112, 109, 97, 112]⟩, ⟨#[102, 109, 116, 112]⟩, ⟨#[114, 116, 99, 112, 45, 102, 98]⟩]
def attsOf (x : Ses) (k : Nat) : List Att := x.atts ++ ((x.med.take k).map Med.atts).flatten
theorem attsOf_succ (x : Ses) (k : Nat) (h : k < x.med.length) : attsOf x k ++ x.med[k].atts = attsOf x (k + 1) := by
  unfold attsOf
  rw [← take_snoc x.med k h, List.map_append, List.flatten_append]
  simp only [List.map_cons, List.map_nil, List.flatten_cons, List.flatten_nil, List.append_nil, List.append_assoc]
theorem attsOf_len (x : Ses) (hf : fSes x) (_h5 : x.med.length ≤ 5) (k : Nat) (hk : k ≤ x.med.length) : (attsOf x k).length ≤ (k + 1) * 2147483647 := by
  induction k with
  | zero => simp [attsOf]; exact hf.2.2.2.2.2.2.2.2.2.2.2.1.1
  | succ k ih =>
    rw [← attsOf_succ x k (by omega), List.length_append]
    have := ih (by omega)
    have h2 : x.med[k].atts.length ≤ 2147483647 := (hf.2.2.2.2.2.2.2.2.2.2.2.2.2 _ (List.getElem_mem (by omega))).2.2.2.2.2.2.2.2.1
    omega
set_option maxRecDepth 20000 in
set_option maxHeartbeats 3200000 in
theorem scodecs (x : Ses) (cs : List Value) (F : Nat → Prop) (w : World) (hx : kSes.K F w x cs) (hf : fSes x) (h5 : x.med.length ≤ 5) :
    Calls Tryz.prog 10 #[.agg cs.toArray] w (fun e w' => Below w.heap.size w w' ∧ ∃ b : Bool, e = .returned (.bool b) ∧ (b = false → ∀ m ∈ x.med, ∀ a ∈ m.atts, a.key ∉ codecKeys)) := by
  have hal := fun k hk => attsOf_len x hf h5 k hk
  obtain ⟨u1, u2, u3, u4, u5, u6, u7, u8, u9, u10, u11, rfl, h1, h2, h3, h4, h5', h6, h7, h8, h9, h10, h11⟩ := kSes_open hx
  have HF := Bx.mk hf
  have HAL := Bx.mk hal
  clear hx hf hal
  obtain ⟨A10, c10, rfl, l10, r10⟩ := h10
  obtain ⟨A11, c11, rfl, l11, r11⟩ := h11
  have R11 := Bx.mk r11
  have hm11 := r11.1
  have hm10 := r10.1
  have V10 : Bx (kAtt.SV F w (.slice A10 x.atts.length c10) x.atts) := ⟨⟨A10, c10, rfl, l10, r10⟩⟩
  clear r10 r11
  obtain ⟨B1, d1, rfl, _, _⟩ := h1
  obtain ⟨B2, d2, rfl, _, _⟩ := h2
  obtain ⟨B3, d3, rfl, _, _⟩ := h3
  obtain ⟨B4, d4, rfl, _, _⟩ := h4
  obtain ⟨B5, d5, rfl, _, _⟩ := h5'
  obtain ⟨B6, d6, rfl, _, _⟩ := h6
  obtain ⟨B7, d7, rfl, _, _⟩ := h7
  obtain ⟨B8, d8, rfl, _, _⟩ := h8
  obtain ⟨B9, d9, rfl, _, _⟩ := h9
  have HA0 : x.atts.length ≤ 2147483647 := HF.out.2.2.2.2.2.2.2.2.2.2.2.1.1
  obtain ⟨W1, hW1⟩ : ∃ W1, W1 = w.alloc (.cells #[.int .i64 x.ver, .string x.user, .int .u64 x.id, .int .u64 x.ver2, .string x.net, .string x.addr, .string x.address, .string x.name, .slice B1 x.info.length d1, .slice B2 x.uri.length d2, .slice B3 x.email.length d3, .slice B4 x.phone.length d4, .slice B5 x.con.length d5, .slice B6 x.bw.length d6, .slice B7 x.tim.length d7, .slice B8 x.zon.length d8, .slice B9 x.key.length d9, .slice A10 x.atts.length c10, .slice A11 x.med.length c11] 44) := ⟨_, rfl⟩
  have hB1 : Below w.heap.size w W1 := by rw [hW1]; exact below_alloc1 (Below.refl _ _) _
  have hq17 : W1.cell? ⟨w.heap.size, 17, Option.none⟩ = some (.slice A10 x.atts.length c10) := by rw [hW1]; exact box_cells w _ _ 17 _ rfl
  have hq18 : W1.cell? ⟨w.heap.size, 18, Option.none⟩ = some (.slice A11 x.med.length c11) := by rw [hW1]; exact box_cells w _ _ 18 _ rfl
  have HE := Bx.mk hW1
  have HB1 := Bx.mk hB1
  have HQ18 := Bx.mk hq18
  have HO := Bx.mk (Own.empty kAtt 96 W1 W1.heap.size (fun b => W1.heap.size ≤ b) (Nat.le_refl _) (Nat.le_refl _))
  have HBE := Bx.mk (below_alloc1 (Below.refl W1.heap.size W1) (.cells #[] 96))
  have HY := Bx.mk (V10.out.step (by decide) (hB1.trans (HBE.out.mono hB1.size)))
  have HZ : Bx (W1.heap.size ≤ (W1.alloc (.cells #[] 96)).heap.size) := ⟨by simp⟩
  have hq17' := cell_below HBE.out hq17
  clear hW1 hB1 hq18
  go_enter Tryz.func10, Tryz.ntmps10
  go_upto_region 1 with fail
  rw [← HE.out]
  clear HE
  go_wp2_with (at_builtin; refine app_all kAtt (w := W1) _ _ rfl _ _ 41 96 _ 32 rfl Tryz.underlying41 info96 rfl (by decide) (by decide) (by decide) _ [] x.atts 0 rfl A10 x.atts.length c10 rfl rfl rfl HY (fun _ _ h => h) HO HBE (Nat.le_refl _) HZ.out (fun _ h => h) (by omega) ?_; intro A5 c5 w5 HO5 HB5 HG5; have hq5 := cell_below HB5.out HQ18.out)
  obtain ⟨wa, rfl⟩ : ∃ wa : World, wa = w5 := ⟨_, rfl⟩
  have HBA := HB5
  clear hq17 hq17' HB5 HG5 HO HBE HY
  go_loopw [3, 15] (fun v i wr => ∃ (k : Nat) (A : Option Addr) (n c : Nat), k ≤ x.med.length ∧ i = .int .i64 k ∧ v = .slice A n c ∧ (attsOf x k).length = n ∧ Bx (kAtt.Own 96 wr W1.heap.size (fun b => W1.heap.size ≤ b) (.slice A n c) (attsOf x k)) ∧ Bx (Below W1.heap.size W1 wr)) (fun _ i _ => x.med.length - (intOf i).toNat)
  case atStart => exact ⟨0, A5, _, c5, Nat.zero_le _, rfl, rfl, by simp [attsOf], ⟨by simpa [attsOf] using HO5.out⟩, HBA⟩
  case round =>
    obtain ⟨k, A, n, c, hk, rfl, rfl, hn, hO, hB⟩ := hrel
    have hBw := HB1.out.trans (hB.out.mono HB1.out.size)
    by_cases hlt : k < x.med.length
    · obtain ⟨ad, Av2, cv2, Av3, cv3, Av4, cv4, Av5, cv5, Av6, cv6, Av7, cv7, Av8, cv8, Av9, cv9, rfl, hc0, hc1, hc2, hc3, hc4, hc5, hc6, hc7, hc8, hc9, hv2, hv3, hv4, hv5, hv6, hv7, hv8, hv9⟩ := med_get R11.out k hlt
      replace hc0 := cell_below hBw hc0
      replace hc1 := cell_below hBw hc1
      replace hc2 := cell_below hBw hc2
      replace hc3 := cell_below hBw hc3
      replace hc4 := cell_below hBw hc4
      replace hc5 := cell_below hBw hc5
      replace hc6 := cell_below hBw hc6
      replace hc7 := cell_below hBw hc7
      replace hc8 := cell_below hBw hc8
      replace hc9 := cell_below hBw hc9
      have HV9 := Bx.mk (hv9.step (by decide) (below_alloc1 hBw (.cells #[.string x.med[k].name, .int .i64 x.med[k].port, .slice Av2 x.med[k].ports.length cv2, .slice Av3 x.med[k].protos.length cv3, .slice Av4 x.med[k].formats.length cv4, .slice Av5 x.med[k].title.length cv5, .slice Av6 x.med[k].con.length cv6, .slice Av7 x.med[k].bw.length cv7, .slice Av8 x.med[k].key.length cv8, .slice Av9 x.med[k].atts.length cv9] 89)))
      have HO3 := Bx.mk (own_alloc hO.out (.cells #[.string x.med[k].name, .int .i64 x.med[k].port, .slice Av2 x.med[k].ports.length cv2, .slice Av3 x.med[k].protos.length cv3, .slice Av4 x.med[k].formats.length cv4, .slice Av5 x.med[k].title.length cv5, .slice Av6 x.med[k].con.length cv6, .slice Av7 x.med[k].bw.length cv7, .slice Av8 x.med[k].key.length cv8, .slice Av9 x.med[k].atts.length cv9] 89))
      have HB3 := Bx.mk (below_alloc1 hB.out (.cells #[.string x.med[k].name, .int .i64 x.med[k].port, .slice Av2 x.med[k].ports.length cv2, .slice Av3 x.med[k].protos.length cv3, .slice Av4 x.med[k].formats.length cv4, .slice Av5 x.med[k].title.length cv5, .slice Av6 x.med[k].con.length cv6, .slice Av7 x.med[k].bw.length cv7, .slice Av8 x.med[k].key.length cv8, .slice Av9 x.med[k].atts.length cv9] 89))
      have hL : n + x.med[k].atts.length ≤ 137438953472 := by
        have h1 := HAL.out k (by omega)
        have h2 : x.med[k].atts.length ≤ 2147483647 := (HF.out.2.2.2.2.2.2.2.2.2.2.2.2.2 _ (List.getElem_mem hlt)).2.2.2.2.2.2.2.2.1
        omega
      have hn1 : (attsOf x (k + 1)).length = n + x.med[k].atts.length := by rw [← attsOf_succ x k hlt, List.length_append, hn]
      have HN := Bx.mk hn
      have HN1 := Bx.mk hn1
      clear hv2 hv3 hv4 hv5 hv6 hv7 hv8 hv9 hO hB hBw hn hn1
      go_wp2_with (at_builtin; refine app_all kAtt (w := W1) _ _ rfl _ _ 41 96 _ 32 rfl Tryz.underlying41 info96 rfl (by decide) (by decide) (by decide) _ (attsOf x k) x.med[k].atts n HN.out Av9 x.med[k].atts.length cv9 rfl rfl rfl HV9 (fun _ _ h => h) HO3 HB3 (Nat.le_refl _) HB3.out.size (fun _ h => h) hL ?_; intro A6 c6 w6 HO6 HB6 HG6)
      go_roundw
      case rel => exact ⟨k + 1, A6, _, c6, by omega, by go_num, rfl, HN1.out, ⟨by rw [← attsOf_succ x k hlt]; exact HO6.out⟩, HB6⟩
      case measure => simp [intOf]; omega
    · obtain rfl : k = x.med.length := by omega
      obtain ⟨L, hL⟩ : ∃ L, L = attsOf x x.med.length := ⟨_, rfl⟩
      rw [← hL] at hn hO
      have HLL := Bx.mk hL
      clear hL
      subst hn
      obtain ⟨A', c', he, hlc, hrow⟩ := hO.out.reads
      simp only [Value.slice.injEq, true_and] at he
      obtain ⟨rfl, rfl⟩ := he
      have HR := Bx.mk hrow
      have hm := hrow.1
      obtain ⟨wb, rfl⟩ : ∃ wb : World, wb = wr := ⟨_, rfl⟩
      have HBB := Bx.mk hBw
      clear hrow hO hB hBw
      go_wp2
      go_loopw [26] (fun i wr => ∃ k : Nat, k ≤ L.length ∧ i = .int .i64 k ∧ Bx (UpTo (fun a : Att => a.key ∉ codecKeys) L k) ∧ Bx (Below wb.heap.size wb wr)) (fun i _ => L.length - (intOf i).toNat)
      case atStart => exact ⟨0, Nat.zero_le _, rfl, ⟨upTo_zero _ _⟩, ⟨Below.refl _ _⟩⟩
      case round =>
        obtain ⟨k, hk, rfl, hU, hB⟩ := hrel
        by_cases hlt : k < L.length
        · obtain ⟨ad, rfl, hc0, hc1⟩ := att_get HR.out k hlt
          replace hc0 := cell_below hB.out hc0
          replace hc1 := cell_below hB.out hc1
          go_wp2_with (fail)
          refine (is_lit L[k].key _ codecKeys _ _ _ _ (by simp) rfl rfl (by decide)).mono ?_
          rintro e w' ⟨rfl, b, rfl, hf⟩
          have HI := Bx.mk hf
          clear hf
          cases b
          · go_wp2
            go_roundw
            case rel => exact ⟨k + 1, by omega, by go_num, ⟨upTo_succ hU.out hlt (fun h => absurd (HI.out.2 h) (by simp))⟩, ⟨below_alloc2 hB.out _ _⟩⟩
            case measure => simp [intOf]; omega
          · go_wp2
            go_ret
            exact ⟨below_trans HBB.out (below_alloc2 hB.out _ _), _, rfl, fun h => absurd h (by simp)⟩
        · go_wp2
          go_ret
          obtain rfl : k = L.length := by omega
          refine ⟨below_trans HBB.out hB.out, _, rfl, fun _ m hm a ha => upTo_all hU.out a ?_⟩
          rw [HLL.out]
          unfold attsOf
          rw [List.take_length]
          exact List.mem_append_right _ (List.mem_flatten.2 ⟨m.atts, List.mem_map.2 ⟨m, hm, rfl⟩, ha⟩)
end Go.Proofs.YtimonhimfioohaaGreatDoor
/-! spec.Static. -/
namespace Go.Proofs.YtimonhimfioohaaGreatDoor
open Go Go.RowKit Go.PlainAid Kn
theorem bt_lt (s : ByteArray) (k : Nat) : 0 ≤ bt s k ∧ bt s k < 256 := by
  unfold bt
  split
  · rename_i h
    have := (s[k]'h).toNat_lt
    omega
  · omega
/-- A letter, great. -/
def upb (n : Int) : Int := if 97 ≤ n ∧ n ≤ 122 then n - 32 else n
/-- A text, all letters great. -/
def up (s : ByteArray) : ByteArray := ⟨(s.data.toList.map fun c => UInt8.ofNat (upb c.toNat).toNat).toArray⟩
/-- The row of bytes, its first k turned. -/
def UpRow (s : ByteArray) (g k : Nat) (w : World) : Prop := ∀ j : Nat, j < s.size → w.cell? ⟨g, j, Option.none⟩ = some (.int .u8 (if j < k then upb (bt s j) else bt s j)) ∧ w.frozen? ⟨g, j, Option.none⟩ = false
def statics : List ByteArray := [⟨#[80, 67, 77, 85]⟩, ⟨#[80, 67, 77, 65]⟩, ⟨#[71, 55, 50, 50]⟩]
theorem upRow_zero (w : World) (s : ByteArray) : UpRow s w.heap.size 0 (Lib.bytesWorld w 5 s) := fun j hj => by
  refine ⟨?_, ?_⟩
  · rw [Lib.bytesWorld_cell w 5 s j hj]
    have h1 : s.data.toList.getD j 0 = s[j]'hj := by
      have : j < s.data.size := hj
      simp [List.getD, ByteArray.getElem_eq_getElem_data]
      rw [Array.getElem?_eq_getElem this]
      rfl
    rw [h1, if_neg (Nat.not_lt_zero _)]
    congr 2
    exact get_bt s j hj
  · simp [World.frozen?, Lib.bytesWorld_at_new, Lib.bytesCells]
    intro h
    have : s.data.size = s.size := rfl
    omega
theorem upRow_succ {w : World} {s : ByteArray} {g k : Nat} (h : UpRow s g k w) (hk : k < s.size) (hu : ¬ (97 ≤ bt s k ∧ bt s k ≤ 122)) : UpRow s g (k + 1) w := fun j hj => by
  have := h j hj
  rcases Nat.lt_trichotomy j k with h1 | h1 | h1
  · rw [if_pos h1] at this; rw [if_pos (by omega)]; exact this
  · subst h1
    rw [if_neg (Nat.lt_irrefl _)] at this
    rw [if_pos (by omega)]
    unfold upb
    rw [if_neg hu]
    exact this
  · rw [if_neg (by omega)] at this; rw [if_neg (by omega)]; exact this
theorem upRow_set {w : World} {s : ByteArray} {g k : Nat} (h : UpRow s g k w) (hk : k < s.size) (hu : 97 ≤ bt s k ∧ bt s k ≤ 122) : UpRow s g (k + 1) (w.setCell ⟨g, k, Option.none⟩ (.int .u8 (bt s k - 32))) := fun j hj => by
  have hj' := h j hj
  have hc := (h k hk).1
  refine ⟨?_, by rw [World.frozen?_setCell]; exact hj'.2⟩
  by_cases e : j = k
  · subst e
    rw [if_pos (by omega)]
    unfold upb
    rw [if_pos hu]
    exact World.cell?_setCell_same _ _ _ hc
  · have h2 : (w.setCell ⟨g, k, Option.none⟩ (.int .u8 (bt s k - 32))).cell? ⟨g, j, Option.none⟩ = w.cell? ⟨g, j, Option.none⟩ := World.cell?_setCell_other _ _ _ _ (by intro h; cases h; exact e rfl)
    rw [h2, hj'.1]
    by_cases hjk : j < k
    · rw [if_pos hjk, if_pos (by omega)]
    · rw [if_neg hjk, if_neg (by omega)]
theorem foldl_push (ns : List Int) : ∀ r : ByteArray, ns.foldl (fun r n => r.push (UInt8.ofNat n.toNat)) r = ⟨r.data ++ (ns.map fun n => UInt8.ofNat n.toNat).toArray⟩ := by
  induction ns with
  | nil => intro r; simp
  | cons n ns ih =>
    intro r
    rw [List.foldl_cons, ih]
    simp [ByteArray.push]
theorem up_range (s : ByteArray) : ((List.range s.size).map fun j => UInt8.ofNat (upb (bt s j)).toNat) = s.data.toList.map fun c => UInt8.ofNat (upb c.toNat).toNat := by
  apply List.ext_getElem
  · simp
  · intro i h1 h2
    have hi : i < s.size := by simpa using h1
    simp only [List.getElem_map, List.getElem_range]
    congr 3
    rw [← get_bt s i hi]
    simp [ByteArray.getElem_eq_getElem_data]
theorem upRow_string {w : World} {s : ByteArray} {g : Nat} (h : UpRow s g s.size w) (cap : Nat) : (convert 97 9 (.slice (some ⟨g, 0, Option.none⟩) s.size cap)).run Tryz.prog w = .ok (.string (up s)) w := by
  rw [run_convert_bytes_string _ 97 9 5 _ s.size cap und97 und5 und9]
  have hl := run_loadCells_list (P := Tryz.prog) w ⟨g, 0, Option.none⟩ (((List.range s.size).map fun j => upb (bt s j)).map (Value.int .u8)) (fun j v hj => by
    have hj' : j < s.size := by
      have := (List.getElem?_eq_some_iff.1 hj).1
      simpa using this
    have := (h j hj').1
    rw [if_pos hj'] at this
    simp [hj'] at hj
    rw [← hj]
    have ea : (⟨g, 0, Option.none⟩ : Addr).add j = ⟨g, j, Option.none⟩ := by unfold Addr.add; split <;> simp_all
    rw [ea]
    exact this)
  simp only [List.length_map, List.length_range] at hl
  rw [run_bytesToString _ _ s.size cap _ hl, foldl_push]
  congr 2
  unfold up
  rw [← up_range]
  simp [List.map_map, Function.comp_def]
set_option maxRecDepth 20000 in
set_option maxHeartbeats 1600000 in
theorem sstatic (s : ByteArray) (w : World) (hs : s.size ≤ 2147483647) : Calls Tryz.prog 11 #[.string s] w (fun e w' => Below w.heap.size w w' ∧ ∃ b : Bool, e = .returned (.bool b) ∧ (b = false → up s ∉ statics)) := by
  have hcv := Lib.run_convert_string_bytes (P := Tryz.prog) w 9 97 5 s und9 und97 und5
  have HR := Bx.mk (upRow_zero w s)
  have hB0 : Below w.heap.size w (Lib.bytesWorld w 5 s) := ⟨rfl, rfl, rfl, by rw [Lib.bytesWorld_size]; omega, fun k hk => Lib.bytesWorld_at_old w 5 s k hk⟩
  have HB0 := Bx.mk hB0
  clear hB0
  obtain ⟨W1, hW1⟩ : ∃ W1, W1 = Lib.bytesWorld w 5 s := ⟨_, rfl⟩
  rw [← hW1] at hcv HR HB0
  clear hW1
  obtain ⟨cap, hcap⟩ : ∃ c, c = grownCap w s.size 0 5 := ⟨_, rfl⟩
  rw [← hcap] at hcv
  clear hcap
  go_enter Tryz.func11, Tryz.ntmps11
  go_wp2
  go_loopw [10] (fun i wr => ∃ k : Nat, k ≤ s.size ∧ i = .int .i64 k ∧ Bx (UpRow s w.heap.size k wr) ∧ Bx (Below w.heap.size w wr)) (fun i _ => s.size - (intOf i).toNat)
  case atStart => exact ⟨0, Nat.zero_le _, rfl, HR, HB0⟩
  case round =>
    obtain ⟨k, hk, rfl, hR, hB⟩ := hrel
    by_cases hlt : k < s.size
    · obtain ⟨hc, hfz⟩ := hR.out k hlt
      rw [if_neg (Nat.lt_irrefl _)] at hc
      have hb := bt_lt s k
      obtain ⟨z, hz⟩ : ∃ z, z = bt s k := ⟨_, rfl⟩
      rw [← hz] at hc hb
      have HZ := Bx.mk hz
      clear hz
      go_wp2
      · go_roundw
        case rel =>
          have e1 : z - 97 + 65 = bt s k - 32 := by rw [← HZ.out]; omega
          exact ⟨k + 1, by omega, by go_num, ⟨by rw [e1]; exact upRow_set hR.out hlt (by rw [← HZ.out]; omega)⟩, ⟨hB.out.setCell (Nat.le_refl _) _⟩⟩
        case measure => simp [intOf]; omega
      all_goals
        go_roundw
        case rel => exact ⟨k + 1, by omega, by go_num, ⟨upRow_succ hR.out hlt (by rw [← HZ.out]; omega)⟩, hB⟩
        case measure => simp [intOf]; omega
    · obtain rfl : k = s.size := by omega
      have hcv2 := upRow_string hR.out cap
      clear hcv hlt
      go_wp2_with (fail)
      refine (is_lit (up s) _ statics _ _ _ _ (by simp) rfl rfl (by decide)).mono ?_
      rintro e w' ⟨rfl, b, rfl, hf⟩
      have HI := Bx.mk hf
      clear hf
      go_wp2
      go_ret
      exact ⟨below_alloc1 hB.out _, b, rfl, fun hb h => by rw [HI.out.2 h] at hb; cases hb⟩
end Go.Proofs.YtimonhimfioohaaGreatDoor
