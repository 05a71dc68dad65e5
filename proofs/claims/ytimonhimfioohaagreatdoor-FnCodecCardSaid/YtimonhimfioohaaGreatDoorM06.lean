/- Lemmas on which the proof of Rows.FnCodecCardSaid rests: no statement of the seat is proved in this file. Conditions: each lemma's own hypotheses, no others. -/
import Derived.Test.YtimonhimfioohaaGreatDoorM05
/-! sdp: parseRtpmap, parseFmtp, parseRtcpFb on the texts that the statement makes. -/
namespace Go.Proofs.YtimonhimfioohaaGreatDoor
open Go Go.RowKit Go.PlainAid Kn
/-- Package variable n holds a value. -/
def Glob (n : Nat) (w : World) : Prop := ∃ v, w.cell? ⟨n, 0, Option.none⟩ = some v
theorem Glob.step {n : Nat} {w w' : World} (h : Glob n w) (hb : Below w.heap.size w w') : Glob n w' := by
  obtain ⟨v, hv⟩ := h
  exact ⟨v, cell_below hb hv⟩
theorem below_or {w w' : World} {s : ByteArray} (h : w' = w ∨ w' = Lib.bytesWorld w 5 s) : Below w.heap.size w w' := by
  rcases h with rfl | rfl
  · exact Below.refl _ _
  · refine ⟨rfl, rfl, rfl, by rw [Lib.bytesWorld_size]; omega, fun k hk => Lib.bytesWorld_at_old _ _ _ _ hk⟩
/-- The cells of a slice of texts. -/
theorem str_cell {F : Nat → Prop} {w : World} {A : Option Addr} {l : List ByteArray} {n c : Nat} (h : Kn.string.SV F w (.slice A n c) l) (i : Nat) (hi : i < l.length) : ∃ ad, A = some ad ∧ w.cell? (ad.add i) = some (.string l[i]) := by
  obtain ⟨A', c', he, _, hr⟩ := h
  cases he
  exact str_get hr i hi
def sRtpmap : List UInt8 := [114, 116, 112, 109, 97, 112]
def sFmtp : List UInt8 := [102, 109, 116, 112]
def sRtcpFb : List UInt8 := [114, 116, 99, 112, 45, 102, 98]
def parL (par : List UInt8) : List UInt8 := if par = [] then [] else 47 :: par
/-- The map's text. -/
def mapText (p : Nat) (name : List UInt8) (rate : Nat) (par : List UInt8) : List UInt8 := sRtpmap ++ 58 :: (dec p ++ 32 :: (name ++ 47 :: (dec rate ++ parL par)))
theorem spl_map1 (p : Nat) (name : List UInt8) (rate : Nat) (par : List UInt8) (hn : ∀ b ∈ name, b ≠ 32) (hp : ∀ b ∈ par, b ≠ 32) : Spl 32 (B (mapText p name rate par)) [B (sRtpmap ++ 58 :: dec p), B (name ++ 47 :: (dec rate ++ parL par))] := by
  have e : mapText p name rate par = (sRtpmap ++ 58 :: dec p) ++ 32 :: (name ++ 47 :: (dec rate ++ parL par)) := by simp [mapText]
  rw [e]
  refine spl_more ?_ (spl_last ?_)
  · intro x hx
    rcases List.mem_append.1 hx with hx | hx
    · exact (show ∀ y ∈ sRtpmap, y ≠ 32 by decide) x hx
    · rcases List.mem_cons.1 hx with rfl | hx
      · decide
      · exact dec_no (by decide) p x hx
  · intro x hx
    rcases List.mem_append.1 hx with hx | hx
    · exact hn x hx
    · rcases List.mem_cons.1 hx with rfl | hx
      · decide
      · rcases List.mem_append.1 hx with hx | hx
        · exact dec_no (by decide) rate x hx
        · unfold parL at hx
          split at hx
          · cases hx
          · rcases List.mem_cons.1 hx with rfl | hx
            · decide
            · exact hp x hx
theorem spl_key (k : List UInt8) (p : Nat) (hk : ∀ b ∈ k, b ≠ 58) : Spl 58 (B (k ++ 58 :: dec p)) [B k, B (dec p)] := spl_more hk (spl_last (dec_no (by decide) p))
theorem spl_map3 (name : List UInt8) (rate : Nat) (par : List UInt8) (hn : ∀ b ∈ name, b ≠ 47) (hp : ∀ b ∈ par, b ≠ 47) : Spl 47 (B (name ++ 47 :: (dec rate ++ parL par))) (B name :: B (dec rate) :: if par = [] then [] else [B par]) := by
  refine spl_more hn ?_
  by_cases h : par = []
  · subst h
    have e : dec rate ++ parL [] = dec rate := by simp [parL]
    rw [e, if_pos rfl]
    exact spl_last (dec_no (by decide) rate)
  · rw [if_neg h]
    have e : dec rate ++ parL par = dec rate ++ 47 :: par := by simp [parL, h]
    rw [e]
    exact spl_more (dec_no (by decide) rate) (spl_last hp)
/-- Block g holds a codec's six cells. -/
def Cod (w : World) (g : Nat) (c0 c1 c2 c3 c4 c5 : Value) : Prop := w.heap[g]? = some (.cells #[c0, c1, c2, c3, c4, c5] 101 (0, 0))
section
variable {w w' : World} {g : Nat} {c0 c1 c2 c3 c4 c5 : Value}
theorem Cod.new (w : World) (c0 c1 c2 c3 c4 c5 : Value) : Cod (w.alloc (.cells #[c0, c1, c2, c3, c4, c5] 101)) w.heap.size c0 c1 c2 c3 c4 c5 := heap_alloc_new w _
theorem Cod.new' (w : World) (hg : g = w.heap.size) (c0 c1 c2 c3 c4 c5 : Value) : Cod (w.alloc (.cells #[c0, c1, c2, c3, c4, c5] 101)) g c0 c1 c2 c3 c4 c5 := by subst hg; exact Cod.new _ _ _ _ _ _ _
theorem Cod.step (h : Cod w g c0 c1 c2 c3 c4 c5) (hb : Below w.heap.size w w') : Cod w' g c0 c1 c2 c3 c4 c5 := heap_below hb h
theorem Cod.keep {x : Nat} (h : Cod w g c0 c1 c2 c3 c4 c5) (hb : Keep x w w') (hx : g ≠ x) : Cod w' g c0 c1 c2 c3 c4 c5 := (hb.block g (blk_lt h) hx).trans h
theorem Cod.facts (h : Cod w g c0 c1 c2 c3 c4 c5) : (w.cell? ⟨g, 0, Option.none⟩ = some c0 ∧ w.cell? ⟨g, 1, Option.none⟩ = some c1 ∧ w.cell? ⟨g, 2, Option.none⟩ = some c2 ∧ w.cell? ⟨g, 3, Option.none⟩ = some c3 ∧ w.cell? ⟨g, 4, Option.none⟩ = some c4 ∧ w.cell? ⟨g, 5, Option.none⟩ = some c5) ∧ (∀ i, w.frozen? ⟨g, i, Option.none⟩ = false) ∧ g < w.heap.size :=
  ⟨⟨(blk_cell h 0).trans rfl, (blk_cell h 1).trans rfl, (blk_cell h 2).trans rfl, (blk_cell h 3).trans rfl, (blk_cell h 4).trans rfl, (blk_cell h 5).trans rfl⟩, fun i => blk_frozen h i, blk_lt h⟩
theorem Cod.set0 (h : Cod w g c0 c1 c2 c3 c4 c5) (v : Value) : Cod (w.setCell ⟨g, 0, Option.none⟩ v) g v c1 c2 c3 c4 c5 := blk_set h 0 v
theorem Cod.set1 (h : Cod w g c0 c1 c2 c3 c4 c5) (v : Value) : Cod (w.setCell ⟨g, 1, Option.none⟩ v) g c0 v c2 c3 c4 c5 := blk_set h 1 v
theorem Cod.set2 (h : Cod w g c0 c1 c2 c3 c4 c5) (v : Value) : Cod (w.setCell ⟨g, 2, Option.none⟩ v) g c0 c1 v c3 c4 c5 := blk_set h 2 v
theorem Cod.set3 (h : Cod w g c0 c1 c2 c3 c4 c5) (v : Value) : Cod (w.setCell ⟨g, 3, Option.none⟩ v) g c0 c1 c2 v c4 c5 := blk_set h 3 v
theorem Cod.set4 (h : Cod w g c0 c1 c2 c3 c4 c5) (v : Value) : Cod (w.setCell ⟨g, 4, Option.none⟩ v) g c0 c1 c2 c3 v c5 := blk_set h 4 v
theorem Cod.set5 (h : Cod w g c0 c1 c2 c3 c4 c5) (v : Value) : Cod (w.setCell ⟨g, 5, Option.none⟩ v) g c0 c1 c2 c3 c4 v := blk_set h 5 v
end
abbrev E0 : Value := .string ⟨#[]⟩
abbrev N0 : Value := .slice Option.none 0 0
theorem add_lit (ad : Addr) (n : Nat) (hn : 0 < n) : ad.add n = ⟨ad.block, ad.off + n, Option.none⟩ := by
  unfold Addr.add
  simp [Nat.ne_of_gt hn]
theorem sv_cell {F : Nat → Prop} {w : World} {ad : Addr} {n c : Nat} {l : List ByteArray} (h : Kn.string.SV F w (.slice (some ad) n c) l) (i : Nat) (hi : i < l.length) (h0 : 0 < i) : w.cell? ⟨ad.block, ad.off + i, Option.none⟩ = some (.string l[i]) := by
  obtain ⟨ad', e', h1⟩ := str_cell h i hi
  cases e'
  rw [← add_lit _ _ h0]
  exact h1
theorem sv_two {F : Nat → Prop} {w : World} {A : Option Addr} {n c : Nat} {a b : ByteArray} {l : List ByteArray} (h : Kn.string.SV F w (.slice A n c) (a :: b :: l)) : ∃ ad, A = some ad ∧ w.cell? ad = some (.string a) ∧ w.cell? ⟨ad.block, ad.off + 1, Option.none⟩ = some (.string b) := by
  obtain ⟨ad, rfl, h0⟩ := str_cell h 0 (by simp)
  exact ⟨ad, rfl, h0, sv_cell h 1 (by simp) (by decide)⟩
set_option maxRecDepth 20000 in
set_option maxHeartbeats 3200000 in
theorem rtpmap_nil (p : Nat) (name : List UInt8) (rate : Nat) (w : World) (hp8 : p ≤ 255) (hr32 : rate ≤ 4294967295) (hn : ∀ b ∈ name, b ≠ 32 ∧ b ≠ 47) (hlen : (mapText p name rate []).length ≤ 9000000000)
    (hg : Glob 2 w) : Calls Tryz.prog 63 #[.string (B (mapText p name rate []))] w fun e w' => Below w.heap.size w w' ∧ e = .returned (.tuple #[.agg #[.int .u8 p, .string (B name), .int .u32 rate, .string (B []), .string ⟨#[]⟩, .slice Option.none 0 0], .nilIface]) := by
  obtain ⟨gv, hgv⟩ := hg
  have S1 := Bx.mk (spl_map1 p name rate [] (fun b hb => (hn b hb).1) (fun b hb => by cases hb))
  have S2 := Bx.mk (spl_key sRtpmap p (by decide))
  have S3 : Bx (Spl 47 (B (name ++ 47 :: (dec rate ++ parL []))) [B name, B (dec rate)]) := ⟨by have := (spl_map3 name rate [] (fun b hb => (hn b hb).2) (fun b hb => by cases hb)); simpa using this⟩
  have U1 := Bx.mk (parse8 p hp8)
  have U2 := Bx.mk (parse32 rate hr32)
  have HL : Bx ((B (mapText p name rate [])).size ≤ 9000000000) := ⟨by rw [B_size]; exact hlen⟩
  have HL2 : Bx ((B (sRtpmap ++ 58 :: dec p)).size ≤ 9000000000) := ⟨by rw [B_size, List.length_append, List.length_cons]; have := dec_len p; simp [sRtpmap]; omega⟩
  have HL3 : Bx ((B (dec p)).size ≤ 9223372036854775806) := ⟨by rw [B_size]; have := dec_len p; omega⟩
  have HL4 : Bx ((B (dec rate)).size ≤ 9223372036854775806) := ⟨by rw [B_size]; have := dec_len rate; omega⟩
  have HL5 : Bx ((B (name ++ 47 :: (dec rate ++ parL []))).size ≤ 9000000000) := ⟨by rw [B_size]; simp only [mapText, List.length_append, List.length_cons] at hlen ⊢; omega⟩
  clear hn hlen
  have hg1 : ∀ o1 o2, ((w.alloc o1).alloc o2).cell? ⟨2, 0, Option.none⟩ = some gv := fun o1 o2 => cell_below (below_alloc2 (Below.refl _ _) o1 o2) hgv
  go_enter Tryz.func63, Tryz.ntmps63
  go_wp2_with (fail)
  refine (split_calls _ 32 _ S1.out _ HL.out (by simp)).mono ?_
  rintro e w1 ⟨hb1, A1, c1, rfl, hs1⟩
  obtain ⟨ad1, rfl, q1, q2⟩ := sv_two hs1
  have HB1 := Bx.mk (below_trans (below_alloc2 (Below.refl w.heap.size w) (.cells #[.int .u8 0, .string ⟨#[]⟩, .int .u32 0, .string ⟨#[]⟩, .string ⟨#[]⟩, .slice Option.none 0 0] 101) (.cells #[.int .u8 0, .string ⟨#[]⟩, .int .u32 0, .string ⟨#[]⟩, .string ⟨#[]⟩, .slice Option.none 0 0] 101)) hb1)
  have HD1 : Bx (Cod w1 w.heap.size (.int .u8 0) (.string ⟨#[]⟩) (.int .u32 0) (.string ⟨#[]⟩) (.string ⟨#[]⟩) (.slice Option.none 0 0)) := ⟨Cod.step ((Cod.new w (.int .u8 0) (.string ⟨#[]⟩) (.int .u32 0) (.string ⟨#[]⟩) (.string ⟨#[]⟩) (.slice Option.none 0 0)).step (below_alloc1 (Below.refl _ _) (.cells #[.int .u8 0, .string ⟨#[]⟩, .int .u32 0, .string ⟨#[]⟩, .string ⟨#[]⟩, .slice Option.none 0 0] 101))) hb1⟩
  have HC1 : Bx (Cod w1 (w.heap.size + 1) (.int .u8 0) (.string ⟨#[]⟩) (.int .u32 0) (.string ⟨#[]⟩) (.string ⟨#[]⟩) (.slice Option.none 0 0)) := ⟨Cod.step (Cod.new' (w.alloc (.cells #[.int .u8 0, .string ⟨#[]⟩, .int .u32 0, .string ⟨#[]⟩, .string ⟨#[]⟩, .slice Option.none 0 0] 101)) (by simp) (.int .u8 0) (.string ⟨#[]⟩) (.int .u32 0) (.string ⟨#[]⟩) (.string ⟨#[]⟩) (.slice Option.none 0 0)) hb1⟩
  have HS1 := Bx.mk hs1
  clear hb1 hs1
  go_wp2_with (fail)
  refine (split_calls _ 58 _ S2.out _ HL2.out (by simp)).mono ?_
  rintro e w2 ⟨hb2, A2, c2, rfl, hs2⟩
  obtain ⟨ad2, rfl, q3, q4⟩ := sv_two hs2
  have HB2 := Bx.mk (below_trans HB1.out hb2)
  have HD2 := Bx.mk (HD1.out.step hb2)
  have HC2 := Bx.mk (HC1.out.step hb2)
  have HS2 := Bx.mk (HS1.out.step (by decide) hb2)
  clear hb2 hs2 q1 q2
  go_wp2_with (fail)
  refine (Tryz.strconv_ParseUint_10_at8_ok (B (dec p)) HL3.out p U1.out _).mono ?_
  rintro e w3 ⟨rfl, hw3⟩
  have hb3 := below_or hw3
  have HB3 := Bx.mk (below_trans HB2.out hb3)
  have HD3 := Bx.mk (HD2.out.step hb3)
  have HC3 := Bx.mk (HC2.out.step hb3)
  have HS3 := Bx.mk (HS2.out.step (by decide) hb3)
  clear hb3 hw3 q3 q4
  go_upto_region 12 with (fail)
  obtain ⟨⟨k0, k1, k2, k3, k4, k5⟩, kf, kz⟩ := HC3.out.facts
  have f0 := kf 0
  clear kf k1 k2 k3 k4 k5
  go_upto_region 13 with (fail)
  obtain ⟨w4, hw4⟩ : ∃ w4, w4 = w3.setCell ⟨w.heap.size + 1, 0, Option.none⟩ (.int .u8 p) := ⟨_, rfl⟩
  rw [← hw4]
  have HK4 : Keep (w.heap.size + 1) w3 w4 := hw4 ▸ Keep.set _
  have HC4 := Bx.mk (HC3.out.set0 (.int .u8 p))
  rw [← hw4] at HC4
  have HD4 := Bx.mk (HD3.out.keep HK4 (by omega))
  have HB4 := Bx.mk (HB3.out.trans (HK4.below HB3.out.size (by omega)))
  have HS4 := Bx.mk (HS3.out.keep (by decide) (fun b hb => by simp at hb; omega) HK4)
  clear kz k0 f0 HK4 hw4
  have q2 := sv_cell HS4.out 1 (by simp) (by decide)
  go_wp2_with (fail)
  refine (split_calls _ 47 _ S3.out _ HL5.out (by simp)).mono ?_
  rintro e w5 ⟨hb5, A5, c5, rfl, hs5⟩
  obtain ⟨ad5, rfl, q5, q6⟩ := sv_two hs5
  have HB5 := Bx.mk (below_trans HB4.out hb5)
  have HD5 := Bx.mk (HD4.out.step hb5)
  have HC5 := Bx.mk (HC4.out.step hb5)
  have HT5 := Bx.mk hs5
  have hleHT : Bx (w.heap.size + 1 < w4.heap.size) := ⟨HC4.out.facts.2.2⟩
  clear hb5 hs5 q2 q6
  go_upto_region 14 with (fail)
  obtain ⟨⟨k0, k1, k2, k3, k4, k5⟩, kf, kz⟩ := HC5.out.facts
  have f0 := kf 1
  clear kf k0 k2 k3 k4 k5
  go_upto_region 15 with (fail)
  obtain ⟨w6, hw6⟩ : ∃ w6, w6 = w5.setCell ⟨w.heap.size + 1, 1, Option.none⟩ (.string (B name)) := ⟨_, rfl⟩
  rw [← hw6]
  have HK6 : Keep (w.heap.size + 1) w5 w6 := hw6 ▸ Keep.set _
  have HC6 := Bx.mk (HC5.out.set1 (.string (B name)))
  rw [← hw6] at HC6
  have HD6 := Bx.mk (HD5.out.keep HK6 (by omega))
  have HB6 := Bx.mk (HB5.out.trans (HK6.below HB5.out.size (by omega)))
  have HT6 := Bx.mk (HT5.out.keep (by decide) (fun b hb => by have := hleHT.out; omega) HK6)
  clear kz k1 f0 HK6 hw6
  clear q5
  have q6 := sv_cell HT6.out 1 (by simp) (by decide)
  go_wp2_with (fail)
  refine (Tryz.strconv_ParseUint_10_at32_ok (B (dec rate)) HL4.out rate U2.out _).mono ?_
  rintro e w7 ⟨rfl, hw7⟩
  have hb7 := below_or hw7
  have HB7 := Bx.mk (below_trans HB6.out hb7)
  have HD7 := Bx.mk (HD6.out.step hb7)
  have HC7 := Bx.mk (HC6.out.step hb7)
  have HT7 := Bx.mk (HT6.out.step (by decide) hb7)
  clear hb7 hw7 q6
  go_upto_region 20 with (fail)
  obtain ⟨⟨k0, k1, k2, k3, k4, k5⟩, kf, kz⟩ := HC7.out.facts
  have f0 := kf 2
  clear kf k0 k1 k3 k4 k5
  go_upto_region 21 with (fail)
  obtain ⟨w8, hw8⟩ : ∃ w8, w8 = w7.setCell ⟨w.heap.size + 1, 2, Option.none⟩ (.int .u32 rate) := ⟨_, rfl⟩
  rw [← hw8]
  have HK8 : Keep (w.heap.size + 1) w7 w8 := hw8 ▸ Keep.set _
  have HC8 := Bx.mk (HC7.out.set2 (.int .u32 rate))
  rw [← hw8] at HC8
  have HD8 := Bx.mk (HD7.out.keep HK8 (by omega))
  have HB8 := Bx.mk (HB7.out.trans (HK8.below HB7.out.size (by omega)))
  have HT8 := Bx.mk (HT7.out.keep (by decide) (fun b hb => by have := hleHT.out; omega) HK8)
  clear kz k2 f0 HK8 hw8
  obtain ⟨⟨k0, k1, k2, k3, k4, k5⟩, kf, kz⟩ := HC8.out.facts
  obtain ⟨⟨d0, d1, d2, d3, d4, d5⟩, df, dz⟩ := HD8.out.facts
  have df0 := df 0
  have df1 := df 1
  have df2 := df 2
  have df3 := df 3
  have df4 := df 4
  have df5 := df 5
  clear kf df
  go_wp2
  exact bodyPost_ret (v := .tuple #[.agg #[.int .u8 p, .string (B name), .int .u32 rate, .string ⟨#[]⟩, .string ⟨#[]⟩, .slice Option.none 0 0], .nilIface]) (by simp [results, Tryz.results63, go_sem, *]) rfl ⟨by have := HB8.out; exact ((((((this.setCell (Nat.le_refl _) _).setCell (Nat.le_refl _) _).setCell (Nat.le_refl _) _).setCell (Nat.le_refl _) _).setCell (Nat.le_refl _) _).setCell (Nat.le_refl _) _), rfl⟩
set_option maxRecDepth 20000 in
set_option maxHeartbeats 3200000 in
theorem rtpmap_par (p : Nat) (name : List UInt8) (rate : Nat) (par : List UInt8) (hne : par ≠ []) (w : World) (hp8 : p ≤ 255) (hr32 : rate ≤ 4294967295) (hn : ∀ b ∈ name, b ≠ 32 ∧ b ≠ 47) (hpar : ∀ b ∈ par, b ≠ 32 ∧ b ≠ 47) (hlen : (mapText p name rate par).length ≤ 9000000000)
    (hg : Glob 2 w) : Calls Tryz.prog 63 #[.string (B (mapText p name rate par))] w fun e w' => Below w.heap.size w w' ∧ e = .returned (.tuple #[.agg #[.int .u8 p, .string (B name), .int .u32 rate, .string (B par), .string ⟨#[]⟩, .slice Option.none 0 0], .nilIface]) := by
  obtain ⟨gv, hgv⟩ := hg
  have S1 := Bx.mk (spl_map1 p name rate par (fun b hb => (hn b hb).1) (fun b hb => (hpar b hb).1))
  have S2 := Bx.mk (spl_key sRtpmap p (by decide))
  have S3 : Bx (Spl 47 (B (name ++ 47 :: (dec rate ++ parL par))) [B name, B (dec rate), B par]) := ⟨by have := (spl_map3 name rate par (fun b hb => (hn b hb).2) (fun b hb => (hpar b hb).2)); rwa [if_neg hne] at this⟩
  have U1 := Bx.mk (parse8 p hp8)
  have U2 := Bx.mk (parse32 rate hr32)
  have HL : Bx ((B (mapText p name rate par)).size ≤ 9000000000) := ⟨by rw [B_size]; exact hlen⟩
  have HL2 : Bx ((B (sRtpmap ++ 58 :: dec p)).size ≤ 9000000000) := ⟨by rw [B_size, List.length_append, List.length_cons]; have := dec_len p; simp [sRtpmap]; omega⟩
  have HL3 : Bx ((B (dec p)).size ≤ 9223372036854775806) := ⟨by rw [B_size]; have := dec_len p; omega⟩
  have HL4 : Bx ((B (dec rate)).size ≤ 9223372036854775806) := ⟨by rw [B_size]; have := dec_len rate; omega⟩
  have HL5 : Bx ((B (name ++ 47 :: (dec rate ++ parL par))).size ≤ 9000000000) := ⟨by rw [B_size]; simp only [mapText, List.length_append, List.length_cons] at hlen ⊢; omega⟩
  clear hn hlen hpar hne
  have hg1 : ∀ o1 o2, ((w.alloc o1).alloc o2).cell? ⟨2, 0, Option.none⟩ = some gv := fun o1 o2 => cell_below (below_alloc2 (Below.refl _ _) o1 o2) hgv
  go_enter Tryz.func63, Tryz.ntmps63
  go_wp2_with (fail)
  refine (split_calls _ 32 _ S1.out _ HL.out (by simp)).mono ?_
  rintro e w1 ⟨hb1, A1, c1, rfl, hs1⟩
  obtain ⟨ad1, rfl, q1, q2⟩ := sv_two hs1
  have HB1 := Bx.mk (below_trans (below_alloc2 (Below.refl w.heap.size w) (.cells #[.int .u8 0, .string ⟨#[]⟩, .int .u32 0, .string ⟨#[]⟩, .string ⟨#[]⟩, .slice Option.none 0 0] 101) (.cells #[.int .u8 0, .string ⟨#[]⟩, .int .u32 0, .string ⟨#[]⟩, .string ⟨#[]⟩, .slice Option.none 0 0] 101)) hb1)
  have HD1 : Bx (Cod w1 w.heap.size (.int .u8 0) (.string ⟨#[]⟩) (.int .u32 0) (.string ⟨#[]⟩) (.string ⟨#[]⟩) (.slice Option.none 0 0)) := ⟨Cod.step ((Cod.new w (.int .u8 0) (.string ⟨#[]⟩) (.int .u32 0) (.string ⟨#[]⟩) (.string ⟨#[]⟩) (.slice Option.none 0 0)).step (below_alloc1 (Below.refl _ _) (.cells #[.int .u8 0, .string ⟨#[]⟩, .int .u32 0, .string ⟨#[]⟩, .string ⟨#[]⟩, .slice Option.none 0 0] 101))) hb1⟩
  have HC1 : Bx (Cod w1 (w.heap.size + 1) (.int .u8 0) (.string ⟨#[]⟩) (.int .u32 0) (.string ⟨#[]⟩) (.string ⟨#[]⟩) (.slice Option.none 0 0)) := ⟨Cod.step (Cod.new' (w.alloc (.cells #[.int .u8 0, .string ⟨#[]⟩, .int .u32 0, .string ⟨#[]⟩, .string ⟨#[]⟩, .slice Option.none 0 0] 101)) (by simp) (.int .u8 0) (.string ⟨#[]⟩) (.int .u32 0) (.string ⟨#[]⟩) (.string ⟨#[]⟩) (.slice Option.none 0 0)) hb1⟩
  have HS1 := Bx.mk hs1
  clear hb1 hs1
  go_wp2_with (fail)
  refine (split_calls _ 58 _ S2.out _ HL2.out (by simp)).mono ?_
  rintro e w2 ⟨hb2, A2, c2, rfl, hs2⟩
  obtain ⟨ad2, rfl, q3, q4⟩ := sv_two hs2
  have HB2 := Bx.mk (below_trans HB1.out hb2)
  have HD2 := Bx.mk (HD1.out.step hb2)
  have HC2 := Bx.mk (HC1.out.step hb2)
  have HS2 := Bx.mk (HS1.out.step (by decide) hb2)
  clear hb2 hs2 q1 q2
  go_wp2_with (fail)
  refine (Tryz.strconv_ParseUint_10_at8_ok (B (dec p)) HL3.out p U1.out _).mono ?_
  rintro e w3 ⟨rfl, hw3⟩
  have hb3 := below_or hw3
  have HB3 := Bx.mk (below_trans HB2.out hb3)
  have HD3 := Bx.mk (HD2.out.step hb3)
  have HC3 := Bx.mk (HC2.out.step hb3)
  have HS3 := Bx.mk (HS2.out.step (by decide) hb3)
  clear hb3 hw3 q3 q4
  go_upto_region 12 with (fail)
  obtain ⟨⟨k0, k1, k2, k3, k4, k5⟩, kf, kz⟩ := HC3.out.facts
  have f0 := kf 0
  clear kf k1 k2 k3 k4 k5
  go_upto_region 13 with (fail)
  obtain ⟨w4, hw4⟩ : ∃ w4, w4 = w3.setCell ⟨w.heap.size + 1, 0, Option.none⟩ (.int .u8 p) := ⟨_, rfl⟩
  rw [← hw4]
  have HK4 : Keep (w.heap.size + 1) w3 w4 := hw4 ▸ Keep.set _
  have HC4 := Bx.mk (HC3.out.set0 (.int .u8 p))
  rw [← hw4] at HC4
  have HD4 := Bx.mk (HD3.out.keep HK4 (by omega))
  have HB4 := Bx.mk (HB3.out.trans (HK4.below HB3.out.size (by omega)))
  have HS4 := Bx.mk (HS3.out.keep (by decide) (fun b hb => by simp at hb; omega) HK4)
  clear kz k0 f0 HK4 hw4
  have q2 := sv_cell HS4.out 1 (by simp) (by decide)
  go_wp2_with (fail)
  refine (split_calls _ 47 _ S3.out _ HL5.out (by simp)).mono ?_
  rintro e w5 ⟨hb5, A5, c5, rfl, hs5⟩
  obtain ⟨ad5, rfl, q5, q6⟩ := sv_two hs5
  have HB5 := Bx.mk (below_trans HB4.out hb5)
  have HD5 := Bx.mk (HD4.out.step hb5)
  have HC5 := Bx.mk (HC4.out.step hb5)
  have HT5 := Bx.mk hs5
  have hleHT : Bx (w.heap.size + 1 < w4.heap.size) := ⟨HC4.out.facts.2.2⟩
  clear hb5 hs5 q2 q6
  go_upto_region 14 with (fail)
  obtain ⟨⟨k0, k1, k2, k3, k4, k5⟩, kf, kz⟩ := HC5.out.facts
  have f0 := kf 1
  clear kf k0 k2 k3 k4 k5
  go_upto_region 15 with (fail)
  obtain ⟨w6, hw6⟩ : ∃ w6, w6 = w5.setCell ⟨w.heap.size + 1, 1, Option.none⟩ (.string (B name)) := ⟨_, rfl⟩
  rw [← hw6]
  have HK6 : Keep (w.heap.size + 1) w5 w6 := hw6 ▸ Keep.set _
  have HC6 := Bx.mk (HC5.out.set1 (.string (B name)))
  rw [← hw6] at HC6
  have HD6 := Bx.mk (HD5.out.keep HK6 (by omega))
  have HB6 := Bx.mk (HB5.out.trans (HK6.below HB5.out.size (by omega)))
  have HT6 := Bx.mk (HT5.out.keep (by decide) (fun b hb => by have := hleHT.out; omega) HK6)
  clear kz k1 f0 HK6 hw6
  clear q5
  have q6 := sv_cell HT6.out 1 (by simp) (by decide)
  go_wp2_with (fail)
  refine (Tryz.strconv_ParseUint_10_at32_ok (B (dec rate)) HL4.out rate U2.out _).mono ?_
  rintro e w7 ⟨rfl, hw7⟩
  have hb7 := below_or hw7
  have HB7 := Bx.mk (below_trans HB6.out hb7)
  have HD7 := Bx.mk (HD6.out.step hb7)
  have HC7 := Bx.mk (HC6.out.step hb7)
  have HT7 := Bx.mk (HT6.out.step (by decide) hb7)
  clear hb7 hw7 q6
  go_upto_region 20 with (fail)
  obtain ⟨⟨k0, k1, k2, k3, k4, k5⟩, kf, kz⟩ := HC7.out.facts
  have f0 := kf 2
  clear kf k0 k1 k3 k4 k5
  go_upto_region 21 with (fail)
  obtain ⟨w8, hw8⟩ : ∃ w8, w8 = w7.setCell ⟨w.heap.size + 1, 2, Option.none⟩ (.int .u32 rate) := ⟨_, rfl⟩
  rw [← hw8]
  have HK8 : Keep (w.heap.size + 1) w7 w8 := hw8 ▸ Keep.set _
  have HC8 := Bx.mk (HC7.out.set2 (.int .u32 rate))
  rw [← hw8] at HC8
  have HD8 := Bx.mk (HD7.out.keep HK8 (by omega))
  have HB8 := Bx.mk (HB7.out.trans (HK8.below HB7.out.size (by omega)))
  have HT8 := Bx.mk (HT7.out.keep (by decide) (fun b hb => by have := hleHT.out; omega) HK8)
  clear kz k2 f0 HK8 hw8
  have q7 := sv_cell HT8.out 2 (by simp) (by decide)
  go_upto_region 22 with (fail)
  obtain ⟨⟨k0, k1, k2, k3, k4, k5⟩, kf, kz⟩ := HC8.out.facts
  have f0 := kf 3
  clear kf k0 k1 k2 k4 k5
  go_upto_region 23 with (fail)
  obtain ⟨w9, hw9⟩ : ∃ w9, w9 = w8.setCell ⟨w.heap.size + 1, 3, Option.none⟩ (.string (B par)) := ⟨_, rfl⟩
  rw [← hw9]
  have HK9 : Keep (w.heap.size + 1) w8 w9 := hw9 ▸ Keep.set _
  have HC9 := Bx.mk (HC8.out.set3 (.string (B par)))
  rw [← hw9] at HC9
  have HD9 := Bx.mk (HD8.out.keep HK9 (by omega))
  have HB9 := Bx.mk (HB8.out.trans (HK9.below HB8.out.size (by omega)))
  clear kz k3 f0 HK9 hw9
  obtain ⟨⟨k0, k1, k2, k3, k4, k5⟩, kf, kz⟩ := HC9.out.facts
  obtain ⟨⟨d0, d1, d2, d3, d4, d5⟩, df, dz⟩ := HD9.out.facts
  have df0 := df 0
  have df1 := df 1
  have df2 := df 2
  have df3 := df 3
  have df4 := df 4
  have df5 := df 5
  clear kf df
  go_wp2
  exact bodyPost_ret (v := .tuple #[.agg #[.int .u8 p, .string (B name), .int .u32 rate, .string (B par), .string ⟨#[]⟩, .slice Option.none 0 0], .nilIface]) (by simp [results, Tryz.results63, go_sem, *]) rfl ⟨by have := HB9.out; exact ((((((this.setCell (Nat.le_refl _) _).setCell (Nat.le_refl _) _).setCell (Nat.le_refl _) _).setCell (Nat.le_refl _) _).setCell (Nat.le_refl _) _).setCell (Nat.le_refl _) _), rfl⟩
/-- The format's text. -/
def fmtpText (p : Nat) (f : List UInt8) : List UInt8 := sFmtp ++ 58 :: (dec p ++ 32 :: f)
theorem key_no (k : List UInt8) (p : Nat) (hk : ∀ b ∈ k, b ≠ 32) : ∀ x ∈ k ++ 58 :: dec p, x ≠ 32 := by
  intro x hx
  rcases List.mem_append.1 hx with hx | hx
  · exact hk x hx
  · rcases List.mem_cons.1 hx with rfl | hx
    · decide
    · exact dec_no (by decide) p x hx
/-- splitTwo at the first blank. -/
theorem two_calls (a f : List UInt8) (ha : ∀ x ∈ a, x ≠ 32) (w : World) (hs : (B (a ++ 32 :: f)).size ≤ 9000000000) : Calls Tryz.prog 93 #[.string (B (a ++ 32 :: f)), .string ⟨#[32]⟩] w (RS Kn.string [B a, B f] (fun b => w.heap.size ≤ b) w) := by
  obtain ⟨h1, h2⟩ := @at_sep 32 a f
  have := split2_calls (B (a ++ 32 :: f)) 32 a.length h1 h2 (before_sep ha) w hs
  rwa [B_take, tail_sep] at this
set_option maxRecDepth 20000 in
set_option maxHeartbeats 3200000 in
theorem fmtp_calls (p : Nat) (f : List UInt8) (w : World) (hp8 : p ≤ 255) (hlen : (fmtpText p f).length ≤ 9000000000)
    (hg : Glob 3 w) : Calls Tryz.prog 65 #[.string (B (fmtpText p f))] w fun e w' => Below w.heap.size w w' ∧ e = .returned (.tuple #[.agg #[.int .u8 p, .string ⟨#[]⟩, .int .u32 0, .string ⟨#[]⟩, .string (B f), .slice Option.none 0 0], .nilIface]) := by
  obtain ⟨gv, hgv⟩ := hg
  have E1 : fmtpText p f = (sFmtp ++ 58 :: dec p) ++ 32 :: f := by simp [fmtpText]
  have S1 := Bx.mk (key_no sFmtp p (by decide))
  have S2 := Bx.mk (spl_key sFmtp p (by decide))
  have U1 := Bx.mk (parse8 p hp8)
  have HL : Bx ((B ((sFmtp ++ 58 :: dec p) ++ 32 :: f)).size ≤ 9000000000) := ⟨by rw [← E1, B_size]; exact hlen⟩
  have HL2 : Bx ((B (sFmtp ++ 58 :: dec p)).size ≤ 9000000000) := ⟨by rw [B_size, List.length_append, List.length_cons]; have := dec_len p; simp [sFmtp]; omega⟩
  have HL3 : Bx ((B (dec p)).size ≤ 9223372036854775806) := ⟨by rw [B_size]; have := dec_len p; omega⟩
  rw [E1]
  clear hlen E1
  have hg1 : ∀ o1 o2, ((w.alloc o1).alloc o2).cell? ⟨3, 0, Option.none⟩ = some gv := fun o1 o2 => cell_below (below_alloc2 (Below.refl _ _) o1 o2) hgv
  go_enter Tryz.func65, Tryz.ntmps65
  go_wp2_with (fail)
  refine (two_calls _ f S1.out _ HL.out).mono ?_
  rintro e w1 ⟨hb1, A1, c1, rfl, hs1⟩
  obtain ⟨ad1, rfl, q1, q2⟩ := sv_two hs1
  have HB1 := Bx.mk (below_trans (below_alloc2 (Below.refl w.heap.size w) (.cells #[.int .u8 0, .string ⟨#[]⟩, .int .u32 0, .string ⟨#[]⟩, .string ⟨#[]⟩, .slice Option.none 0 0] 101) (.cells #[.int .u8 0, .string ⟨#[]⟩, .int .u32 0, .string ⟨#[]⟩, .string ⟨#[]⟩, .slice Option.none 0 0] 101)) hb1)
  have HD1 : Bx (Cod w1 w.heap.size (.int .u8 0) (.string ⟨#[]⟩) (.int .u32 0) (.string ⟨#[]⟩) (.string ⟨#[]⟩) (.slice Option.none 0 0)) := ⟨Cod.step ((Cod.new w (.int .u8 0) (.string ⟨#[]⟩) (.int .u32 0) (.string ⟨#[]⟩) (.string ⟨#[]⟩) (.slice Option.none 0 0)).step (below_alloc1 (Below.refl _ _) (.cells #[.int .u8 0, .string ⟨#[]⟩, .int .u32 0, .string ⟨#[]⟩, .string ⟨#[]⟩, .slice Option.none 0 0] 101))) hb1⟩
  have HC1 : Bx (Cod w1 (w.heap.size + 1) (.int .u8 0) (.string ⟨#[]⟩) (.int .u32 0) (.string ⟨#[]⟩) (.string ⟨#[]⟩) (.slice Option.none 0 0)) := ⟨Cod.step (Cod.new' (w.alloc (.cells #[.int .u8 0, .string ⟨#[]⟩, .int .u32 0, .string ⟨#[]⟩, .string ⟨#[]⟩, .slice Option.none 0 0] 101)) (by simp) (.int .u8 0) (.string ⟨#[]⟩) (.int .u32 0) (.string ⟨#[]⟩) (.string ⟨#[]⟩) (.slice Option.none 0 0)) hb1⟩
  have HS1 := Bx.mk hs1
  clear hb1 hs1
  go_wp2_with (fail)
  refine (split_calls _ 58 _ S2.out _ HL2.out (by simp)).mono ?_
  rintro e w2 ⟨hb2, A2, c2, rfl, hs2⟩
  obtain ⟨ad2, rfl, q3, q4⟩ := sv_two hs2
  have HB2 := Bx.mk (below_trans HB1.out hb2)
  have HD2 := Bx.mk (HD1.out.step hb2)
  have HC2 := Bx.mk (HC1.out.step hb2)
  have HS2 := Bx.mk (HS1.out.step (by decide) hb2)
  clear hb2 hs2 q1 q2
  go_wp2_with (fail)
  refine (Tryz.strconv_ParseUint_10_at8_ok (B (dec p)) HL3.out p U1.out _).mono ?_
  rintro e w3 ⟨rfl, hw3⟩
  have hb3 := below_or hw3
  have HB3 := Bx.mk (below_trans HB2.out hb3)
  have HD3 := Bx.mk (HD2.out.step hb3)
  have HC3 := Bx.mk (HC2.out.step hb3)
  have HS3 := Bx.mk (HS2.out.step (by decide) hb3)
  clear hb3 hw3 q3 q4
  go_upto_region 13 with (fail)
  obtain ⟨⟨k0, k1, k2, k3, k4, k5⟩, kf, kz⟩ := HC3.out.facts
  have f0 := kf 0
  clear kf k1 k2 k3 k4 k5
  go_upto_region 14 with (fail)
  obtain ⟨w4, hw4⟩ : ∃ w4, w4 = w3.setCell ⟨w.heap.size + 1, 0, Option.none⟩ (.int .u8 p) := ⟨_, rfl⟩
  rw [← hw4]
  have HK4 : Keep (w.heap.size + 1) w3 w4 := hw4 ▸ Keep.set _
  have HC4 := Bx.mk (HC3.out.set0 (.int .u8 p))
  rw [← hw4] at HC4
  have HD4 := Bx.mk (HD3.out.keep HK4 (by omega))
  have HB4 := Bx.mk (HB3.out.trans (HK4.below HB3.out.size (by omega)))
  have HS4 := Bx.mk (HS3.out.keep (by decide) (fun b hb => by simp at hb; omega) HK4)
  clear kz k0 f0 HK4 hw4
  obtain ⟨⟨k0, k1, k2, k3, k4, k5⟩, kf, kz⟩ := HC4.out.facts
  have f0 := kf 4
  clear kf k0 k1 k2 k3 k5
  go_upto_region 15 with (fail)
  obtain ⟨w5, hw5⟩ : ∃ w5, w5 = w4.setCell ⟨w.heap.size + 1, 4, Option.none⟩ (.string (B f)) := ⟨_, rfl⟩
  rw [← hw5]
  have HK5 : Keep (w.heap.size + 1) w4 w5 := hw5 ▸ Keep.set _
  have HC5 := Bx.mk (HC4.out.set4 (.string (B f)))
  rw [← hw5] at HC5
  have HD5 := Bx.mk (HD4.out.keep HK5 (by omega))
  have HB5 := Bx.mk (HB4.out.trans (HK5.below HB4.out.size (by omega)))
  clear kz k4 f0 HK5 hw5
  obtain ⟨⟨k0, k1, k2, k3, k4, k5⟩, kf, kz⟩ := HC5.out.facts
  obtain ⟨⟨d0, d1, d2, d3, d4, d5⟩, df, dz⟩ := HD5.out.facts
  have df0 := df 0
  have df1 := df 1
  have df2 := df 2
  have df3 := df 3
  have df4 := df 4
  have df5 := df 5
  clear kf df
  go_wp2
  exact bodyPost_ret (v := .tuple #[.agg #[.int .u8 p, .string ⟨#[]⟩, .int .u32 0, .string ⟨#[]⟩, .string (B f), .slice Option.none 0 0], .nilIface]) (by simp [results, Tryz.results65, go_sem, *]) rfl ⟨by have := HB5.out; exact ((((((this.setCell (Nat.le_refl _) _).setCell (Nat.le_refl _) _).setCell (Nat.le_refl _) _).setCell (Nat.le_refl _) _).setCell (Nat.le_refl _) _).setCell (Nat.le_refl _) _), rfl⟩
end Go.Proofs.YtimonhimfioohaaGreatDoor
/-! sdp: parseRtcpFb. -/
namespace Go.Proofs.YtimonhimfioohaaGreatDoor
open Go Go.RowKit Go.PlainAid Kn
/-- The feedback's text. -/
def fbText (p : Nat) (f : List UInt8) : List UInt8 := sRtcpFb ++ 58 :: (dec p ++ 32 :: f)
set_option maxRecDepth 20000 in
set_option maxHeartbeats 3200000 in
theorem fb_calls (p : Nat) (f : List UInt8) (w : World) (hp8 : p ≤ 255) (hlen : (fbText p f).length ≤ 9000000000)
    (hg : Glob 4 w) : Calls Tryz.prog 66 #[.string (B (fbText p f))] w fun e w' => Below w.heap.size w w' ∧ ∃ A c, e = .returned (.tuple #[.agg #[.int .u8 p, .string ⟨#[]⟩, .int .u32 0, .string ⟨#[]⟩, .string ⟨#[]⟩, .slice A 1 c], .bool false, .nilIface]) ∧ Kn.string.SV (fun b => w.heap.size ≤ b) w' (.slice A 1 c) [B f] := by
  obtain ⟨gv, hgv⟩ := hg
  have E1 : fbText p f = (sRtcpFb ++ 58 :: dec p) ++ 32 :: f := by simp [fbText]
  have S1 := Bx.mk (key_no sRtcpFb p (by decide))
  have S2 := Bx.mk (spl_key sRtcpFb p (by decide))
  have U1 := Bx.mk (parse8 p hp8)
  have HL : Bx ((B ((sRtcpFb ++ 58 :: dec p) ++ 32 :: f)).size ≤ 9000000000) := ⟨by rw [← E1, B_size]; exact hlen⟩
  have HL2 : Bx ((B (sRtcpFb ++ 58 :: dec p)).size ≤ 9000000000) := ⟨by rw [B_size, List.length_append, List.length_cons]; have := dec_len p; simp [sRtcpFb]; omega⟩
  have HL3 : Bx ((B (dec p)).size ≤ 9223372036854775806) := ⟨by rw [B_size]; have := dec_len p; omega⟩
  have hstar : ((B (dec p)).toList == [42]) = false := by
    rw [ByteArray.toList_eq]
    show ((dec p) == [42]) = false
    rw [beq_eq_false_iff_ne]
    intro e
    have := dec_digits p 42 (by rw [e]; simp)
    revert this; decide
  rw [E1]
  clear hlen E1
  have hg1 : ∀ o1, (w.alloc o1).cell? ⟨4, 0, Option.none⟩ = some gv := fun o1 => cell_below (below_alloc1 (Below.refl _ _) o1) hgv
  go_enter Tryz.func66, Tryz.ntmps66
  go_wp2_with (fail)
  refine (two_calls _ f S1.out _ HL.out).mono ?_
  rintro e w1 ⟨hb1, A1, c1, rfl, hs1⟩
  obtain ⟨ad1, rfl, q1, q2⟩ := sv_two hs1
  have HB1 := Bx.mk (below_trans (below_alloc1 (Below.refl w.heap.size w) (.cells #[.int .u8 0, .string ⟨#[]⟩, .int .u32 0, .string ⟨#[]⟩, .string ⟨#[]⟩, .slice Option.none 0 0] 101)) hb1)
  have HC1 : Bx (Cod w1 w.heap.size (.int .u8 0) (.string ⟨#[]⟩) (.int .u32 0) (.string ⟨#[]⟩) (.string ⟨#[]⟩) (.slice Option.none 0 0)) := ⟨Cod.step (Cod.new w (.int .u8 0) (.string ⟨#[]⟩) (.int .u32 0) (.string ⟨#[]⟩) (.string ⟨#[]⟩) (.slice Option.none 0 0)) hb1⟩
  have HS1 := Bx.mk hs1
  clear hb1 hs1
  go_wp2_with (fail)
  refine (split_calls _ 58 _ S2.out _ HL2.out (by simp)).mono ?_
  rintro e w2 ⟨hb2, A2, c2, rfl, hs2⟩
  obtain ⟨ad2, rfl, q3, q4⟩ := sv_two hs2
  have HB2 := Bx.mk (below_trans HB1.out hb2)
  have HC2 := Bx.mk (HC1.out.step hb2)
  have HS2 := Bx.mk (HS1.out.step (by decide) hb2)
  clear hb2 hs2 q1 q2
  go_wp2_with (fail)
  refine (Tryz.strconv_ParseUint_10_at8_ok (B (dec p)) HL3.out p U1.out _).mono ?_
  rintro e w3 ⟨rfl, hw3⟩
  have hb3 := below_or hw3
  have HB3 := Bx.mk (below_trans HB2.out hb3)
  have HC3 := Bx.mk (HC2.out.step hb3)
  have HS3 := Bx.mk (HS2.out.step (by decide) hb3)
  clear hb3 hw3 q3 q4
  obtain ⟨⟨k0, -⟩, kf, kz⟩ := HC3.out.facts
  have f0 := kf 0
  clear kf
  go_upto_region 12 with (fail)
  obtain ⟨w4, hw4⟩ : ∃ w4, w4 = w3.setCell ⟨w.heap.size, 0, Option.none⟩ (.int .u8 p) := ⟨_, rfl⟩
  rw [← hw4]
  have HK4 : Keep w.heap.size w3 w4 := hw4 ▸ Keep.set _
  have HC4 := Bx.mk (HC3.out.set0 (.int .u8 p))
  rw [← hw4] at HC4
  have HS4 := Bx.mk (HS3.out.keep (by decide) (fun b hb => by simp at hb; omega) HK4)
  have HB4 := Bx.mk (HB3.out.trans (HK4.below HB3.out.size (Nat.le_refl _)))
  clear kz k0 f0 HK4 hw4
  have hBd : Below w4.heap.size w4 w4.drew := Below.drew (Below.refl _ _)
  have HCR := Bx.mk (HC4.out.step hBd)
  have HSR := Bx.mk (HS4.out.step (by decide) hBd)
  have HBR := Bx.mk (below_trans HB4.out hBd)
  have hq2 := sv_cell HSR.out 1 (by simp) (by decide)
  have HQ2 := Bx.mk hq2
  clear hBd hq2
  refine region_app (by kernel_rfl) (by kernel_rfl) (by kernel_rfl) (by kernel_rfl) (fun fz => #[Value.string (B (sRtcpFb ++ 58 :: (dec p ++ 32 :: f))), undef, Value.pointer (some { block := w.heap.size, off := 0 }), Value.bool false, Value.nilIface, Value.int IntKind.u64 ↑p, Value.slice (some ad1) 2 c1, Value.slice (some ad2) 2 c2, gv, Value.string (B (sRtcpFb ++ 58 :: (dec p ++ 32 :: f))), Value.slice (some ad1) 2 c1, Value.slice (some ad1) 2 c1, Value.int IntKind.i64 2, Value.bool false, Value.slice (some ad1) 2 c1, Value.pointer (some ad1), Value.string (B (sRtcpFb ++ 58 :: dec p)), Value.slice (some ad2) 2 c2, Value.slice (some ad2) 2 c2, Value.int IntKind.i64 2, Value.bool false, Value.slice (some ad2) 2 c2, Value.pointer (some { block := ad2.block, off := ad2.off + 1 }), Value.string (B (dec p)), Value.bool false, Value.bool false, Value.bool true, Value.tuple #[Value.int IntKind.u64 ↑p, Value.nilIface], Value.slice (some ad2) 2 c2, Value.pointer (some { block := ad2.block, off := ad2.off + 1 }), Value.string (B (dec p)), Value.tuple #[Value.int IntKind.u64 ↑p, Value.nilIface], Value.int IntKind.u64 ↑p, Value.nilIface, Value.nilIface, Value.bool false, Value.int IntKind.u64 ↑p, Value.int IntKind.u8 ↑p, Value.pointer (some { block := w.heap.size, off := 0 }), fz 39, fz 40, fz 41, fz 42, fz 43, fz 44, fz 45, fz 46, undef, undef]) (fun f => by kernel_rfl) 6 (some 8) (by kernel_rfl) ⟨by kernel_rfl, by simp, fun s hs => by cases hs; exact ⟨by kernel_rfl, by kernel_rfl⟩⟩ (fun i => match i with | 0 => Mono.is (.pointer (some ⟨w.heap.size, 5, Option.none⟩)) | 1 => Mono.is (.slice Option.none 0 0) | 2 => Mono.is (.slice (some ad1) 2 c1) | 3 => Mono.is (.pointer (some ⟨ad1.block, ad1.off + 1, Option.none⟩)) | 4 => Mono.is (.string (B f)) | 5 => Mono.box1 9 0 (fun cs _ => cs = [.string (B f)]) (fun h _ => h) | _ => Mono.is undef) [7] (fun i => match i with | 7 => some (.pointer (some ⟨w.heap.size, 5, Option.none⟩)) | _ => Option.none) (by kernel_rfl) (by kernel_rfl) (fun v w' => ∃ A c, v = .slice A 1 c ∧ Kn.string.Own 9 w' (w.heap.size + 1) (fun b => w.heap.size + 1 ≤ b) (.slice A 1 c) [B f] ∧ Cod w' w.heap.size (.int .u8 p) (.string ⟨#[]⟩) (.int .u32 0) (.string ⟨#[]⟩) (.string ⟨#[]⟩) (.slice Option.none 0 0) ∧ Below w.heap.size w w') (fun w' => ∃ A c, Kn.string.Own 9 w' (w.heap.size + 1) (fun b => w.heap.size + 1 ≤ b) (.slice A 1 c) [B f] ∧ Cod w' w.heap.size (.int .u8 p) (.string ⟨#[]⟩) (.int .u32 0) (.string ⟨#[]⟩) (.string ⟨#[]⟩) (.slice A 1 c) ∧ Below w.heap.size w w') ?_ ?_ ?_ ?_ ?_ (by decide)
  · intro i o ho hanc a wx hb hfr hv
    match i, ho with
    | 0, ho =>
      rw [← Array.getElem?_toList] at ho
      simp only [List.getElem?_cons_zero, Option.some.injEq] at ho
      subst ho
      have e2 : a.tmps[2]?.getD undef = .pointer (some ⟨w.heap.size, 0, Option.none⟩) := (eval_tmp a 2).trans (hfr 2 (by decide +kernel))
      clear hfr hv hanc hb
      refine mstep_val (.pointer (some ⟨w.heap.size, 5, Option.none⟩)) (fun K' hK => ?_) (by exact rfl)
      go_simp
      exact hK
    | 1, ho =>
      rw [← Array.getElem?_toList] at ho
      simp only [List.getElem?_cons_zero, List.getElem?_cons_succ, Option.some.injEq] at ho
      subst ho
      have e39 := (eval_tmp a 39).trans (hv 0 _ rfl rfl _ 39 rfl rfl)
      have c0 := (HCR.out.step hb).facts.1.2.2.2.2.2
      clear hfr hv hanc hb
      refine mstep_val (.slice Option.none 0 0) (fun K' hK => ?_) (by exact rfl)
      go_simp
      exact hK
    | 2, ho =>
      rw [← Array.getElem?_toList] at ho
      simp only [List.getElem?_cons_zero, List.getElem?_cons_succ, Option.some.injEq] at ho
      subst ho
      have e6 : a.tmps[6]?.getD undef = .slice (some ad1) 2 c1 := (eval_tmp a 6).trans (hfr 6 (by decide +kernel))
      clear hfr hv hanc hb
      refine mstep_val (.slice (some ad1) 2 c1) (fun K' hK => ?_) (by exact rfl)
      go_simp
      exact hK
    | 3, ho =>
      rw [← Array.getElem?_toList] at ho
      simp only [List.getElem?_cons_zero, List.getElem?_cons_succ, Option.some.injEq] at ho
      subst ho
      have e41 := (eval_tmp a 41).trans (hv 0 _ rfl rfl _ 41 rfl rfl)
      clear hfr hv hanc hb
      refine mstep_val (.pointer (some ⟨ad1.block, ad1.off + 1, Option.none⟩)) (fun K' hK => ?_) (by exact rfl)
      go_simp
      exact hK
    | 4, ho =>
      rw [← Array.getElem?_toList] at ho
      simp only [List.getElem?_cons_zero, List.getElem?_cons_succ, Option.some.injEq] at ho
      subst ho
      have e42 := (eval_tmp a 42).trans (hv 0 _ rfl rfl _ 42 rfl rfl)
      have c0 := cell_below hb HQ2.out
      clear hfr hv hanc hb
      refine mstep_val (.string (B f)) (fun K' hK => ?_) (by exact rfl)
      go_simp
      exact hK
    | 5, ho =>
      rw [← Array.getElem?_toList] at ho
      simp only [List.getElem?_cons_zero, List.getElem?_cons_succ, Option.some.injEq] at ho
      subst ho
      have e43 := (eval_tmp a 43).trans (hv 0 _ rfl rfl _ 43 rfl rfl)
      refine mstep_gen (fun v w' => v = .slice (some ⟨wx.heap.size, 0, Option.none⟩) 1 1 ∧ w' = wx.alloc (.cells #[.string (B f)] 9)) (fun K' hK => ?_) (fun v w' hG => ?_)
      · clear hfr hv hanc
        clear hb
        go_simp
        exact hK _ _ ⟨rfl, rfl⟩
      · obtain ⟨rfl, rfl⟩ := hG
        exact ⟨⟨_, [.string (B f)], rfl, Nat.zero_le _, heap_alloc_new _ _, rfl⟩, below_alloc1 (Below.refl _ _) _⟩
    | 6, ho => exact (not_both (by kernel_rfl) hanc).elim
    | 7, ho => exact (not_both (by kernel_rfl) hanc).elim
    | 8, ho => exact (not_both (by kernel_rfl) hanc).elim
    | n + 9, ho => cases ho
  · intro i hi o ho a wx hfr hv
    simp only [List.mem_cons, List.not_mem_nil, or_false] at hi
    obtain rfl := hi
    · rw [← Array.getElem?_toList] at ho
      simp only [List.getElem?_cons_zero, List.getElem?_cons_succ, Option.some.injEq] at ho
      subst ho
      have e2 : a.tmps[2]?.getD undef = .pointer (some ⟨w.heap.size, 0, Option.none⟩) := (eval_tmp a 2).trans (hfr 2 (by decide +kernel))
      clear hfr hv
      refine fstep_val (.pointer (some ⟨w.heap.size, 5, Option.none⟩)) (fun K' hK => ?_) (by exact rfl)
      go_simp
      exact hK
  · intro o ho a wx hb hfr hv
    rw [← Array.getElem?_toList] at ho
    simp only [List.getElem?_cons_zero, List.getElem?_cons_succ, Option.some.injEq] at ho
    subst ho
    have e40 := (eval_tmp a 40).symm.trans ((eval_tmp a 40).trans (hv 1 _ 40 (by kernel_rfl) rfl rfl))
    obtain ⟨n, cs, e44, _, hn, hcs⟩ := (hv 5 _ 44 (by kernel_rfl) rfl rfl)
    have hHC := HCR.out.step hb
    have HBx := below_trans HBR.out hb
    refine app_step Kn.string (B := w.heap.size + 1) (fun b => w.heap.size + 1 ≤ b) rfl _ _ 25 9 _ 16 rfl Tryz.underlying25 info9 rfl (by decide) (by decide) (by decide) (.slice Option.none 0 0) [] (B f) cs 0 rfl n e40 e44 hn hcs (Own.nil _ _ _ _ _) hHC.facts.2.2 (fun _ h => h) (by decide) (fun A1 c1 w1 h1 h2 => ⟨A1, c1, rfl, h1, (heap_below (Below.grown (Below.refl _ _) h2 (Nat.le_refl _) (fun b hb' => by cases hb')) hHC), below_trans HBx (Below.grown (Below.refl _ _) h2 (Nat.le_refl _) (fun b hb' => by cases hb'))⟩)
  · intro s o hs ho a wx hfr hv hP
    cases hs
    rw [← Array.getElem?_toList] at ho
    simp only [List.getElem?_cons_zero, List.getElem?_cons_succ, Option.some.injEq] at ho
    subst ho
    obtain ⟨v, hv1, A1, c1, rfl, h1, h2, h3⟩ := hP
    have e45 := (eval_tmp a 45).trans (hv1 _ 45 rfl rfl)
    have e46 := (eval_tmp a 46).trans (hv 0 _ rfl rfl _ 46 _ rfl rfl rfl)
    have hg5 := h2.facts.1.2.2.2.2.2
    have hf5 := h2.facts.2.1 5
    have H1 := Bx.mk h1
    have H2 := Bx.mk h2
    have H3 := Bx.mk h3
    clear hfr hv hv1 h1 h2 h3
    refine sstep_gen (fun K' hK => ?_)
    go_simp
    refine hK undef _ ⟨A1, c1, H1.out.step (fun b hb _ => Below.heap_setCell _ _ _ _ (by simp only; omega)), H2.out.set5 _, H3.out.setCell (Nat.le_refl _) _⟩
  · intro fz wx hTf hP hF _
    obtain ⟨A1, c1', h1, h2, h3⟩ := hF ⟨8, rfl, by decide⟩
    have H1 := Bx.mk h1
    have H3 := Bx.mk h3
    obtain ⟨⟨k0, k1, k2, k3, k4, k5⟩, kf, kz⟩ := h2.facts
    have df0 := kf 0
    have df1 := kf 1
    have df2 := kf 2
    have df3 := kf 3
    have df4 := kf 4
    have df5 := kf 5
    clear hTf hP hF h1 h2 h3 kf
    dsimp only
    go_wp2
    refine bodyPost_ret (v := .tuple #[.agg #[.int .u8 p, .string ⟨#[]⟩, .int .u32 0, .string ⟨#[]⟩, .string ⟨#[]⟩, .slice A1 1 c1'], .bool false, .nilIface]) (by simp [results, Tryz.results66, go_sem, *]) rfl ⟨?_, A1, c1', rfl, ?_⟩
    · have := H3.out; exact ((((((this.setCell (Nat.le_refl _) _).setCell (Nat.le_refl _) _).setCell (Nat.le_refl _) _).setCell (Nat.le_refl _) _).setCell (Nat.le_refl _) _).setCell (Nat.le_refl _) _)
    · have hK : Keep w.heap.size wx _ := ((((((Keep.set (g := w.heap.size) (i := 0) (w := wx) (.int .u8 p)).trans (Keep.set (i := 1) (.string ⟨#[]⟩))).trans (Keep.set (i := 2) (.int .u32 0))).trans (Keep.set (i := 3) (.string ⟨#[]⟩))).trans (Keep.set (i := 4) (.string ⟨#[]⟩))).trans (Keep.set (i := 5) (.slice A1 1 c1')))
      exact (H1.out.reads.keep (by decide) (fun b hb => by have h2 : w.heap.size + 1 ≤ b := hb; omega) hK).mono fun b hb => by have h2 : w.heap.size + 1 ≤ b := hb; omega
end Go.Proofs.YtimonhimfioohaaGreatDoor
