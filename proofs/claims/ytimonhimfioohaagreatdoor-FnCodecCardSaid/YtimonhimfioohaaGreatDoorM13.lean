/- Lemmas on which the proof of Rows.FnCodecCardSaid rests: no statement of the seat is proved in this file. Conditions: each lemma's own hypotheses, no others. -/
import Derived.Test.YtimonhimfioohaaGreatDoorM02
/-! laws.session: the reference's session reads as the one that came in. -/
namespace Go.Proofs.YtimonhimfioohaaGreatDoor
open Go Go.RowKit Go.PlainAid Kn
set_option maxHeartbeats 3200000 in
set_option maxRecDepth 100000 in
theorem lses (x : Ses) (cs : List Value) (D : Nat → Prop) (w : World) (hx : kSes.K D w x cs) (hD : ∀ b, D b → b < w.heap.size) (hf : fSes x) :
    Calls Tryz.prog 6 #[.agg cs.toArray] w fun e w' => Below w.heap.size w w' ∧ ∃ cs', e = .returned (.agg cs'.toArray) ∧ kSes.K (fun b => D b ∨ w.heap.size ≤ b) w' x cs' := by
  obtain ⟨u1, u2, u3, u4, u5, u6, u7, u8, u9, u10, u11, rfl, h1, h2, h3, h4, h5, h6, h7, h8, h9, h10, h11⟩ := kSes_open hx
  have HD := Bx.mk hD
  have HF := Bx.mk hf
  clear hx hD hf
  obtain ⟨A1, c1, rfl, l1, r1⟩ := h1
  obtain ⟨A2, c2, rfl, l2, r2⟩ := h2
  obtain ⟨A3, c3, rfl, l3, r3⟩ := h3
  obtain ⟨A4, c4, rfl, l4, r4⟩ := h4
  obtain ⟨A5, c5, rfl, l5, r5⟩ := h5
  obtain ⟨A6, c6, rfl, l6, r6⟩ := h6
  obtain ⟨A7, c7, rfl, l7, r7⟩ := h7
  obtain ⟨A8, c8, rfl, l8, r8⟩ := h8
  obtain ⟨A9, c9, rfl, l9, r9⟩ := h9
  obtain ⟨A10, c10, rfl, l10, r10⟩ := h10
  obtain ⟨A11, c11, rfl, l11, r11⟩ := h11
  have H5 : Bx (kCon.SV D w (.slice A5 x.con.length c5) x.con) := ⟨⟨A5, c5, rfl, l5, r5⟩⟩
  have H6 : Bx (kBw.SV D w (.slice A6 x.bw.length c6) x.bw) := ⟨⟨A6, c6, rfl, l6, r6⟩⟩
  have H10 : Bx (kAtt.SV D w (.slice A10 x.atts.length c10) x.atts) := ⟨⟨A10, c10, rfl, l10, r10⟩⟩
  have R1 := Bx.mk r1
  have R2 := Bx.mk r2
  have R3 := Bx.mk r3
  have R4 := Bx.mk r4
  have R7 := Bx.mk r7
  have R8 := Bx.mk r8
  have R9 := Bx.mk r9
  have R11 := Bx.mk r11
  clear r1 r2 r3 r4 r5 r6 r7 r8 r9 r10 r11
  have hw1 : Below w.heap.size w (((w.alloc (.cells #[.int .i64 x.ver, .string x.user, .int .u64 x.id, .int .u64 x.ver2, .string x.net, .string x.addr, .string x.address, .string x.name, .slice A1 x.info.length c1, .slice A2 x.uri.length c2, .slice A3 x.email.length c3, .slice A4 x.phone.length c4, .slice A5 x.con.length c5, .slice A6 x.bw.length c6, .slice A7 x.tim.length c7, .slice A8 x.zon.length c8, .slice A9 x.key.length c9, .slice A10 x.atts.length c10, .slice A11 x.med.length c11] 33)).alloc (.cells #[.int .i64 0, .string ⟨#[]⟩, .int .u64 0, .int .u64 0, .string ⟨#[]⟩, .string ⟨#[]⟩, .string ⟨#[]⟩, .string ⟨#[]⟩, .slice Option.none 0 0, .slice Option.none 0 0, .slice Option.none 0 0, .slice Option.none 0 0, .slice Option.none 0 0, .slice Option.none 0 0, .slice Option.none 0 0, .slice Option.none 0 0, .slice Option.none 0 0, .slice Option.none 0 0, .slice Option.none 0 0] 44)).alloc (.cells #[.string x.user, .int .u64 x.id, .int .u64 x.ver2, .string x.net, .string x.addr, .string x.address] 24)) := below_alloc' (below_alloc' (below_alloc' (Below.refl _ _) _) _) _
  have hb : ∀ j u, #[.int .i64 x.ver, .string x.user, .int .u64 x.id, .int .u64 x.ver2, .string x.net, .string x.addr, .string x.address, .string x.name, .slice A1 x.info.length c1, .slice A2 x.uri.length c2, .slice A3 x.email.length c3, .slice A4 x.phone.length c4, .slice A5 x.con.length c5, .slice A6 x.bw.length c6, .slice A7 x.tim.length c7, .slice A8 x.zon.length c8, .slice A9 x.key.length c9, .slice A10 x.atts.length c10, .slice A11 x.med.length c11][j]? = some u → (((w.alloc (.cells #[.int .i64 x.ver, .string x.user, .int .u64 x.id, .int .u64 x.ver2, .string x.net, .string x.addr, .string x.address, .string x.name, .slice A1 x.info.length c1, .slice A2 x.uri.length c2, .slice A3 x.email.length c3, .slice A4 x.phone.length c4, .slice A5 x.con.length c5, .slice A6 x.bw.length c6, .slice A7 x.tim.length c7, .slice A8 x.zon.length c8, .slice A9 x.key.length c9, .slice A10 x.atts.length c10, .slice A11 x.med.length c11] 33)).alloc (.cells #[.int .i64 0, .string ⟨#[]⟩, .int .u64 0, .int .u64 0, .string ⟨#[]⟩, .string ⟨#[]⟩, .string ⟨#[]⟩, .string ⟨#[]⟩, .slice Option.none 0 0, .slice Option.none 0 0, .slice Option.none 0 0, .slice Option.none 0 0, .slice Option.none 0 0, .slice Option.none 0 0, .slice Option.none 0 0, .slice Option.none 0 0, .slice Option.none 0 0, .slice Option.none 0 0, .slice Option.none 0 0] 44)).alloc (.cells #[.string x.user, .int .u64 x.id, .int .u64 x.ver2, .string x.net, .string x.addr, .string x.address] 24)).cell? ⟨w.heap.size, j, Option.none⟩ = some u := fun j u h =>
    cell_below (below_alloc' (below_alloc' (Below.refl _ _) (.cells #[.int .i64 0, .string ⟨#[]⟩, .int .u64 0, .int .u64 0, .string ⟨#[]⟩, .string ⟨#[]⟩, .string ⟨#[]⟩, .string ⟨#[]⟩, .slice Option.none 0 0, .slice Option.none 0 0, .slice Option.none 0 0, .slice Option.none 0 0, .slice Option.none 0 0, .slice Option.none 0 0, .slice Option.none 0 0, .slice Option.none 0 0, .slice Option.none 0 0, .slice Option.none 0 0, .slice Option.none 0 0] 44)) (.cells #[.string x.user, .int .u64 x.id, .int .u64 x.ver2, .string x.net, .string x.addr, .string x.address] 24)) (box_cells w _ _ j u h)
  have ho : ∀ j u, #[.string x.user, .int .u64 x.id, .int .u64 x.ver2, .string x.net, .string x.addr, .string x.address][j]? = some u → (((w.alloc (.cells #[.int .i64 x.ver, .string x.user, .int .u64 x.id, .int .u64 x.ver2, .string x.net, .string x.addr, .string x.address, .string x.name, .slice A1 x.info.length c1, .slice A2 x.uri.length c2, .slice A3 x.email.length c3, .slice A4 x.phone.length c4, .slice A5 x.con.length c5, .slice A6 x.bw.length c6, .slice A7 x.tim.length c7, .slice A8 x.zon.length c8, .slice A9 x.key.length c9, .slice A10 x.atts.length c10, .slice A11 x.med.length c11] 33)).alloc (.cells #[.int .i64 0, .string ⟨#[]⟩, .int .u64 0, .int .u64 0, .string ⟨#[]⟩, .string ⟨#[]⟩, .string ⟨#[]⟩, .string ⟨#[]⟩, .slice Option.none 0 0, .slice Option.none 0 0, .slice Option.none 0 0, .slice Option.none 0 0, .slice Option.none 0 0, .slice Option.none 0 0, .slice Option.none 0 0, .slice Option.none 0 0, .slice Option.none 0 0, .slice Option.none 0 0, .slice Option.none 0 0] 44)).alloc (.cells #[.string x.user, .int .u64 x.id, .int .u64 x.ver2, .string x.net, .string x.addr, .string x.address] 24)).cell? ⟨w.heap.size + 1 + 1, j, Option.none⟩ = some u := fun j u h => by
    have := box_cells ((w.alloc (.cells #[.int .i64 x.ver, .string x.user, .int .u64 x.id, .int .u64 x.ver2, .string x.net, .string x.addr, .string x.address, .string x.name, .slice A1 x.info.length c1, .slice A2 x.uri.length c2, .slice A3 x.email.length c3, .slice A4 x.phone.length c4, .slice A5 x.con.length c5, .slice A6 x.bw.length c6, .slice A7 x.tim.length c7, .slice A8 x.zon.length c8, .slice A9 x.key.length c9, .slice A10 x.atts.length c10, .slice A11 x.med.length c11] 33)).alloc (.cells #[.int .i64 0, .string ⟨#[]⟩, .int .u64 0, .int .u64 0, .string ⟨#[]⟩, .string ⟨#[]⟩, .string ⟨#[]⟩, .string ⟨#[]⟩, .slice Option.none 0 0, .slice Option.none 0 0, .slice Option.none 0 0, .slice Option.none 0 0, .slice Option.none 0 0, .slice Option.none 0 0, .slice Option.none 0 0, .slice Option.none 0 0, .slice Option.none 0 0, .slice Option.none 0 0, .slice Option.none 0 0] 44)) #[.string x.user, .int .u64 x.id, .int .u64 x.ver2, .string x.net, .string x.addr, .string x.address] 24 j u h
    simpa using this
  have hs1 : ((((w.alloc (.cells #[.int .i64 x.ver, .string x.user, .int .u64 x.id, .int .u64 x.ver2, .string x.net, .string x.addr, .string x.address, .string x.name, .slice A1 x.info.length c1, .slice A2 x.uri.length c2, .slice A3 x.email.length c3, .slice A4 x.phone.length c4, .slice A5 x.con.length c5, .slice A6 x.bw.length c6, .slice A7 x.tim.length c7, .slice A8 x.zon.length c8, .slice A9 x.key.length c9, .slice A10 x.atts.length c10, .slice A11 x.med.length c11] 33)).alloc (.cells #[.int .i64 0, .string ⟨#[]⟩, .int .u64 0, .int .u64 0, .string ⟨#[]⟩, .string ⟨#[]⟩, .string ⟨#[]⟩, .string ⟨#[]⟩, .slice Option.none 0 0, .slice Option.none 0 0, .slice Option.none 0 0, .slice Option.none 0 0, .slice Option.none 0 0, .slice Option.none 0 0, .slice Option.none 0 0, .slice Option.none 0 0, .slice Option.none 0 0, .slice Option.none 0 0, .slice Option.none 0 0] 44)).alloc (.cells #[.string x.user, .int .u64 x.id, .int .u64 x.ver2, .string x.net, .string x.addr, .string x.address] 24))).heap.size = w.heap.size + 1 + 1 + 1 := by simp
  have hzz : ((((w.alloc (.cells #[.int .i64 x.ver, .string x.user, .int .u64 x.id, .int .u64 x.ver2, .string x.net, .string x.addr, .string x.address, .string x.name, .slice A1 x.info.length c1, .slice A2 x.uri.length c2, .slice A3 x.email.length c3, .slice A4 x.phone.length c4, .slice A5 x.con.length c5, .slice A6 x.bw.length c6, .slice A7 x.tim.length c7, .slice A8 x.zon.length c8, .slice A9 x.key.length c9, .slice A10 x.atts.length c10, .slice A11 x.med.length c11] 33)).alloc (.cells #[.int .i64 0, .string ⟨#[]⟩, .int .u64 0, .int .u64 0, .string ⟨#[]⟩, .string ⟨#[]⟩, .string ⟨#[]⟩, .string ⟨#[]⟩, .slice Option.none 0 0, .slice Option.none 0 0, .slice Option.none 0 0, .slice Option.none 0 0, .slice Option.none 0 0, .slice Option.none 0 0, .slice Option.none 0 0, .slice Option.none 0 0, .slice Option.none 0 0, .slice Option.none 0 0, .slice Option.none 0 0] 44)).alloc (.cells #[.string x.user, .int .u64 x.id, .int .u64 x.ver2, .string x.net, .string x.addr, .string x.address] 24))).heap[w.heap.size + 1]? = some (.cells #[.int .i64 0, .string ⟨#[]⟩, .int .u64 0, .int .u64 0, .string ⟨#[]⟩, .string ⟨#[]⟩, .string ⟨#[]⟩, .string ⟨#[]⟩, .slice Option.none 0 0, .slice Option.none 0 0, .slice Option.none 0 0, .slice Option.none 0 0, .slice Option.none 0 0, .slice Option.none 0 0, .slice Option.none 0 0, .slice Option.none 0 0, .slice Option.none 0 0, .slice Option.none 0 0, .slice Option.none 0 0] 44 (0, 0)) := by
    have := blk_alloc (heap_alloc_new (w.alloc (.cells #[.int .i64 x.ver, .string x.user, .int .u64 x.id, .int .u64 x.ver2, .string x.net, .string x.addr, .string x.address, .string x.name, .slice A1 x.info.length c1, .slice A2 x.uri.length c2, .slice A3 x.email.length c3, .slice A4 x.phone.length c4, .slice A5 x.con.length c5, .slice A6 x.bw.length c6, .slice A7 x.tim.length c7, .slice A8 x.zon.length c8, .slice A9 x.key.length c9, .slice A10 x.atts.length c10, .slice A11 x.med.length c11] 33)) (.cells #[.int .i64 0, .string ⟨#[]⟩, .int .u64 0, .int .u64 0, .string ⟨#[]⟩, .string ⟨#[]⟩, .string ⟨#[]⟩, .string ⟨#[]⟩, .slice Option.none 0 0, .slice Option.none 0 0, .slice Option.none 0 0, .slice Option.none 0 0, .slice Option.none 0 0, .slice Option.none 0 0, .slice Option.none 0 0, .slice Option.none 0 0, .slice Option.none 0 0, .slice Option.none 0 0, .slice Option.none 0 0] 44)) (.cells #[.string x.user, .int .u64 x.id, .int .u64 x.ver2, .string x.net, .string x.addr, .string x.address] 24)
    simpa using this
  obtain ⟨W1, hW1⟩ : ∃ W1, W1 = (((w.alloc (.cells #[.int .i64 x.ver, .string x.user, .int .u64 x.id, .int .u64 x.ver2, .string x.net, .string x.addr, .string x.address, .string x.name, .slice A1 x.info.length c1, .slice A2 x.uri.length c2, .slice A3 x.email.length c3, .slice A4 x.phone.length c4, .slice A5 x.con.length c5, .slice A6 x.bw.length c6, .slice A7 x.tim.length c7, .slice A8 x.zon.length c8, .slice A9 x.key.length c9, .slice A10 x.atts.length c10, .slice A11 x.med.length c11] 33)).alloc (.cells #[.int .i64 0, .string ⟨#[]⟩, .int .u64 0, .int .u64 0, .string ⟨#[]⟩, .string ⟨#[]⟩, .string ⟨#[]⟩, .string ⟨#[]⟩, .slice Option.none 0 0, .slice Option.none 0 0, .slice Option.none 0 0, .slice Option.none 0 0, .slice Option.none 0 0, .slice Option.none 0 0, .slice Option.none 0 0, .slice Option.none 0 0, .slice Option.none 0 0, .slice Option.none 0 0, .slice Option.none 0 0] 44)).alloc (.cells #[.string x.user, .int .u64 x.id, .int .u64 x.ver2, .string x.net, .string x.addr, .string x.address] 24)) := ⟨_, rfl⟩
  rw [← hW1] at hw1 hb ho hs1 hzz
  have HZ := Bx.mk hzz
  clear hzz
  have HB := Bx.mk hb
  have HO := Bx.mk ho
  have HS1 := Bx.mk hs1
  have HWW := Bx.mk hw1
  have HE := Bx.mk hW1
  clear hb ho hw1 hW1 hs1
  go_enter Tryz.func6, Tryz.ntmps6
  go_upto_region 2 with fail
  rw [← HE.out]
  clear HE
  go_cut [4] (fun s4 wx => ∃ (g : Nat) (B5 : Option Addr) (d5 : Nat) (B6 : Option Addr) (d6 : Nat) (B10 : Option Addr) (d10 : Nat), s4 = .pointer (some ⟨g, 0, Option.none⟩) ∧ W1.heap.size ≤ g ∧ Bx (wx.heap[g]? = some (.cells #[.int .i64 x.ver, .string x.user, .int .u64 x.id, .int .u64 x.ver2, .string x.net, .string x.addr, .string x.address, .string x.name, .slice A1 x.info.length c1, .slice A2 x.uri.length c2, .slice A3 x.email.length c3, .slice A4 x.phone.length c4, .slice B5 x.con.length d5, .slice B6 x.bw.length d6, .slice Option.none 0 0, .slice Option.none 0 0, .slice A9 x.key.length c9, .slice B10 x.atts.length d10, .slice Option.none 0 0] 44 (0, 0))) ∧
    Bx (kCon.SV (FG D W1.heap.size g) wx (.slice B5 x.con.length d5) x.con) ∧ Bx (kBw.SV (FG D W1.heap.size g) wx (.slice B6 x.bw.length d6) x.bw) ∧ Bx (kAtt.SV (FG D W1.heap.size g) wx (.slice B10 x.atts.length d10) x.atts) ∧ Bx (Below W1.heap.size W1 wx))
  case first =>
    refine region_rule2 (by kernel_rfl) (by kernel_rfl) (by kernel_rfl) (fun f => #[.agg #[.int .i64 x.ver, .string x.user, .int .u64 x.id, .int .u64 x.ver2, .string x.net, .string x.addr, .string x.address, .string x.name, .slice A1 x.info.length c1, .slice A2 x.uri.length c2, .slice A3 x.email.length c3, .slice A4 x.phone.length c4, .slice A5 x.con.length c5, .slice A6 x.bw.length c6, .slice A7 x.tim.length c7, .slice A8 x.zon.length c8, .slice A9 x.key.length c9, .slice A10 x.atts.length c10, .slice A11 x.med.length c11], .pointer (some ⟨w.heap.size, 0, Option.none⟩), .pointer (some ⟨w.heap.size + 1, 0, Option.none⟩), .pointer (some ⟨w.heap.size + 1 + 1, 0, Option.none⟩), f 4, undef, undef, undef, undef, undef, undef, undef, undef, undef, .pointer (some ⟨w.heap.size, 1, Option.none⟩), .agg #[.string x.user, .int .u64 x.id, .int .u64 x.ver2, .string x.net, .string x.addr, .string x.address], f 16, f 17, f 18, f 19, f 20, f 21, f 22, f 23, f 24, f 25, f 26, f 27, f 28, f 29, f 30, f 31, f 32, f 33, f 34, f 35, f 36, f 37, f 38, f 39, f 40, f 41, f 42, f 43, f 44, f 45, f 46, f 47, f 48, f 49, f 50, f 51, f 52, undef, undef, undef, undef, undef, undef, undef, undef, undef, undef, undef, undef, undef, undef, undef, undef, undef, undef, undef, undef, undef, undef, undef, undef, undef, undef, undef, undef, undef, undef, undef, undef, undef, undef, undef, undef, undef, undef, undef, undef, undef, undef, undef, undef, undef, undef, undef, undef, undef, undef, undef, undef, undef, undef, undef, undef, undef, undef, undef, undef, undef, undef, undef, undef, undef, undef, undef, undef, undef, undef, undef, undef, undef, undef, undef, undef, undef, undef, undef, undef, undef, undef, undef, undef, undef, undef, undef, undef, undef, undef, undef, undef, undef, undef, undef]) (fun f => by kernel_rfl) (fun i => match i with | 0 => some (.pointer (some ⟨w.heap.size, 0, Option.none⟩)) | 1 => some (.int .i64 x.ver) | 2 => some (.pointer (some ⟨w.heap.size + 1 + 1, 0, Option.none⟩)) | 3 => some (.string x.user) | 4 => some (.pointer (some ⟨w.heap.size + 1 + 1, 1, Option.none⟩)) | 5 => some (.int .u64 x.id) | 6 => some (.pointer (some ⟨w.heap.size + 1 + 1, 2, Option.none⟩)) | 7 => some (.int .u64 x.ver2) | 8 => some (.pointer (some ⟨w.heap.size + 1 + 1, 3, Option.none⟩)) | 9 => some (.string x.net) | 10 => some (.pointer (some ⟨w.heap.size + 1 + 1, 4, Option.none⟩)) | 11 => some (.string x.addr) | 12 => some (.pointer (some ⟨w.heap.size + 1 + 1, 5, Option.none⟩)) | 13 => some (.string x.address) | 14 => some (.agg #[.string x.user, .int .u64 x.id, .int .u64 x.ver2, .string x.net, .string x.addr, .string x.address]) | 15 => some (.pointer (some ⟨w.heap.size, 7, Option.none⟩)) | 16 => some (.string x.name) | 17 => some (.pointer (some ⟨w.heap.size, 8, Option.none⟩)) | 18 => some (.slice A1 x.info.length c1) | 19 => some (.pointer (some ⟨w.heap.size, 9, Option.none⟩)) | 20 => some (.slice A2 x.uri.length c2) | 21 => some (.pointer (some ⟨w.heap.size, 10, Option.none⟩)) | 22 => some (.slice A3 x.email.length c3) | 23 => some (.pointer (some ⟨w.heap.size, 11, Option.none⟩)) | 24 => some (.slice A4 x.phone.length c4) | 25 => some (.pointer (some ⟨w.heap.size, 12, Option.none⟩)) | 26 => some (.slice A5 x.con.length c5) | 28 => some (.pointer (some ⟨w.heap.size, 13, Option.none⟩)) | 29 => some (.slice A6 x.bw.length c6) | 31 => some (.pointer (some ⟨w.heap.size, 16, Option.none⟩)) | 32 => some (.slice A9 x.key.length c9) | 33 => some (.pointer (some ⟨w.heap.size, 17, Option.none⟩)) | 34 => some (.slice A10 x.atts.length c10) | _ => Option.none) (fun d f w' => SpS D x W1 (fun v43 v46 v51 => #[.int .i64 x.ver, .string x.user, .int .u64 x.id, .int .u64 x.ver2, .string x.net, .string x.addr, .string x.address, .string x.name, .slice A1 x.info.length c1, .slice A2 x.uri.length c2, .slice A3 x.email.length c3, .slice A4 x.phone.length c4, v43, v46, .slice Option.none 0 0, .slice Option.none 0 0, .slice A9 x.key.length c9, v51, .slice Option.none 0 0]) #[.int .i64 0, .string ⟨#[]⟩, .int .u64 0, .int .u64 0, .string ⟨#[]⟩, .string ⟨#[]⟩, .string ⟨#[]⟩, .string ⟨#[]⟩, .slice Option.none 0 0, .slice Option.none 0 0, .slice Option.none 0 0, .slice Option.none 0 0, .slice Option.none 0 0, .slice Option.none 0 0, .slice Option.none 0 0, .slice Option.none 0 0, .slice Option.none 0 0, .slice Option.none 0 0, .slice Option.none 0 0] (d 27) (d 30) (d 35) (d 36) (d 37) (d 38) (f 4) (f 43) (f 46) (f 51) (f 52) w') ?_ ?_ ?_
    · exact ⟨Below.drew (Below.refl _ _), fun h => (by cases h), fun h => (by cases h), fun h => (by cases h), fun h => (by cases h), fun h => (by cases h)⟩
    · intro i o ho d a wx hdi hdep hcl hfr hT hSp
      match i, ho with
      | 0, ho =>
        rw [← Array.getElem?_toList] at ho
        simp only [List.getElem?_cons_zero, Option.some.injEq] at ho
        subst ho
        have e1 : a.tmps[1]?.getD undef = .pointer (some ⟨w.heap.size, 0, Option.none⟩) := (eval_tmp a 1).trans (hfr 1 (by decide +kernel))
        clear hdi hdep hfr hT hcl
        refine op_val rfl rfl (.pointer (some ⟨w.heap.size, 0, Option.none⟩)) (fun K' hK => ?_) ⟨_, rfl, fun u hu => by cases hu; rfl, hSp⟩
        clear hSp
        go_simp
        exact hK
      | 1, ho =>
        rw [← Array.getElem?_toList] at ho
        simp only [List.getElem?_cons_zero, List.getElem?_cons_succ, Option.some.injEq] at ho
        subst ho
        have e16 := (eval_tmp a 16).trans (hT 0 _ 16 _ rfl rfl rfl (hdep _ (Array.mem_of_getElem? (i := 0) rfl) rfl))
        have c0 := cell_below hSp.below (HB.out 0 _ rfl)
        clear hdi hdep hfr hT hcl
        refine op_val rfl rfl (.int .i64 x.ver) (fun K' hK => ?_) ⟨_, rfl, fun u hu => by cases hu; rfl, hSp⟩
        clear hSp
        go_simp
        exact hK
      | 2, ho =>
        rw [← Array.getElem?_toList] at ho
        simp only [List.getElem?_cons_zero, List.getElem?_cons_succ, Option.some.injEq] at ho
        subst ho
        have e3 : a.tmps[3]?.getD undef = .pointer (some ⟨w.heap.size + 1 + 1, 0, Option.none⟩) := (eval_tmp a 3).trans (hfr 3 (by decide +kernel))
        clear hdi hdep hfr hT hcl
        refine op_val rfl rfl (.pointer (some ⟨w.heap.size + 1 + 1, 0, Option.none⟩)) (fun K' hK => ?_) ⟨_, rfl, fun u hu => by cases hu; rfl, hSp⟩
        clear hSp
        go_simp
        exact hK
      | 3, ho =>
        rw [← Array.getElem?_toList] at ho
        simp only [List.getElem?_cons_zero, List.getElem?_cons_succ, Option.some.injEq] at ho
        subst ho
        have e18 := (eval_tmp a 18).trans (hT 2 _ 18 _ rfl rfl rfl (hdep _ (Array.mem_of_getElem? (i := 0) rfl) rfl))
        have c0 := cell_below hSp.below (HO.out 0 _ rfl)
        clear hdi hdep hfr hT hcl
        refine op_val rfl rfl (.string x.user) (fun K' hK => ?_) ⟨_, rfl, fun u hu => by cases hu; rfl, hSp⟩
        clear hSp
        go_simp
        exact hK
      | 4, ho =>
        rw [← Array.getElem?_toList] at ho
        simp only [List.getElem?_cons_zero, List.getElem?_cons_succ, Option.some.injEq] at ho
        subst ho
        have e3 : a.tmps[3]?.getD undef = .pointer (some ⟨w.heap.size + 1 + 1, 0, Option.none⟩) := (eval_tmp a 3).trans (hfr 3 (by decide +kernel))
        clear hdi hdep hfr hT hcl
        refine op_val rfl rfl (.pointer (some ⟨w.heap.size + 1 + 1, 1, Option.none⟩)) (fun K' hK => ?_) ⟨_, rfl, fun u hu => by cases hu; rfl, hSp⟩
        clear hSp
        go_simp
        exact hK
      | 5, ho =>
        rw [← Array.getElem?_toList] at ho
        simp only [List.getElem?_cons_zero, List.getElem?_cons_succ, Option.some.injEq] at ho
        subst ho
        have e20 := (eval_tmp a 20).trans (hT 4 _ 20 _ rfl rfl rfl (hdep _ (Array.mem_of_getElem? (i := 0) rfl) rfl))
        have c0 := cell_below hSp.below (HO.out 1 _ rfl)
        clear hdi hdep hfr hT hcl
        refine op_val rfl rfl (.int .u64 x.id) (fun K' hK => ?_) ⟨_, rfl, fun u hu => by cases hu; rfl, hSp⟩
        clear hSp
        go_simp
        exact hK
      | 6, ho =>
        rw [← Array.getElem?_toList] at ho
        simp only [List.getElem?_cons_zero, List.getElem?_cons_succ, Option.some.injEq] at ho
        subst ho
        have e3 : a.tmps[3]?.getD undef = .pointer (some ⟨w.heap.size + 1 + 1, 0, Option.none⟩) := (eval_tmp a 3).trans (hfr 3 (by decide +kernel))
        clear hdi hdep hfr hT hcl
        refine op_val rfl rfl (.pointer (some ⟨w.heap.size + 1 + 1, 2, Option.none⟩)) (fun K' hK => ?_) ⟨_, rfl, fun u hu => by cases hu; rfl, hSp⟩
        clear hSp
        go_simp
        exact hK
      | 7, ho =>
        rw [← Array.getElem?_toList] at ho
        simp only [List.getElem?_cons_zero, List.getElem?_cons_succ, Option.some.injEq] at ho
        subst ho
        have e22 := (eval_tmp a 22).trans (hT 6 _ 22 _ rfl rfl rfl (hdep _ (Array.mem_of_getElem? (i := 0) rfl) rfl))
        have c0 := cell_below hSp.below (HO.out 2 _ rfl)
        clear hdi hdep hfr hT hcl
        refine op_val rfl rfl (.int .u64 x.ver2) (fun K' hK => ?_) ⟨_, rfl, fun u hu => by cases hu; rfl, hSp⟩
        clear hSp
        go_simp
        exact hK
      | 8, ho =>
        rw [← Array.getElem?_toList] at ho
        simp only [List.getElem?_cons_zero, List.getElem?_cons_succ, Option.some.injEq] at ho
        subst ho
        have e3 : a.tmps[3]?.getD undef = .pointer (some ⟨w.heap.size + 1 + 1, 0, Option.none⟩) := (eval_tmp a 3).trans (hfr 3 (by decide +kernel))
        clear hdi hdep hfr hT hcl
        refine op_val rfl rfl (.pointer (some ⟨w.heap.size + 1 + 1, 3, Option.none⟩)) (fun K' hK => ?_) ⟨_, rfl, fun u hu => by cases hu; rfl, hSp⟩
        clear hSp
        go_simp
        exact hK
      | 9, ho =>
        rw [← Array.getElem?_toList] at ho
        simp only [List.getElem?_cons_zero, List.getElem?_cons_succ, Option.some.injEq] at ho
        subst ho
        have e24 := (eval_tmp a 24).trans (hT 8 _ 24 _ rfl rfl rfl (hdep _ (Array.mem_of_getElem? (i := 0) rfl) rfl))
        have c0 := cell_below hSp.below (HO.out 3 _ rfl)
        clear hdi hdep hfr hT hcl
        refine op_val rfl rfl (.string x.net) (fun K' hK => ?_) ⟨_, rfl, fun u hu => by cases hu; rfl, hSp⟩
        clear hSp
        go_simp
        exact hK
      | 10, ho =>
        rw [← Array.getElem?_toList] at ho
        simp only [List.getElem?_cons_zero, List.getElem?_cons_succ, Option.some.injEq] at ho
        subst ho
        have e3 : a.tmps[3]?.getD undef = .pointer (some ⟨w.heap.size + 1 + 1, 0, Option.none⟩) := (eval_tmp a 3).trans (hfr 3 (by decide +kernel))
        clear hdi hdep hfr hT hcl
        refine op_val rfl rfl (.pointer (some ⟨w.heap.size + 1 + 1, 4, Option.none⟩)) (fun K' hK => ?_) ⟨_, rfl, fun u hu => by cases hu; rfl, hSp⟩
        clear hSp
        go_simp
        exact hK
      | 11, ho =>
        rw [← Array.getElem?_toList] at ho
        simp only [List.getElem?_cons_zero, List.getElem?_cons_succ, Option.some.injEq] at ho
        subst ho
        have e26 := (eval_tmp a 26).trans (hT 10 _ 26 _ rfl rfl rfl (hdep _ (Array.mem_of_getElem? (i := 0) rfl) rfl))
        have c0 := cell_below hSp.below (HO.out 4 _ rfl)
        clear hdi hdep hfr hT hcl
        refine op_val rfl rfl (.string x.addr) (fun K' hK => ?_) ⟨_, rfl, fun u hu => by cases hu; rfl, hSp⟩
        clear hSp
        go_simp
        exact hK
      | 12, ho =>
        rw [← Array.getElem?_toList] at ho
        simp only [List.getElem?_cons_zero, List.getElem?_cons_succ, Option.some.injEq] at ho
        subst ho
        have e3 : a.tmps[3]?.getD undef = .pointer (some ⟨w.heap.size + 1 + 1, 0, Option.none⟩) := (eval_tmp a 3).trans (hfr 3 (by decide +kernel))
        clear hdi hdep hfr hT hcl
        refine op_val rfl rfl (.pointer (some ⟨w.heap.size + 1 + 1, 5, Option.none⟩)) (fun K' hK => ?_) ⟨_, rfl, fun u hu => by cases hu; rfl, hSp⟩
        clear hSp
        go_simp
        exact hK
      | 13, ho =>
        rw [← Array.getElem?_toList] at ho
        simp only [List.getElem?_cons_zero, List.getElem?_cons_succ, Option.some.injEq] at ho
        subst ho
        have e28 := (eval_tmp a 28).trans (hT 12 _ 28 _ rfl rfl rfl (hdep _ (Array.mem_of_getElem? (i := 0) rfl) rfl))
        have c0 := cell_below hSp.below (HO.out 5 _ rfl)
        clear hdi hdep hfr hT hcl
        refine op_val rfl rfl (.string x.address) (fun K' hK => ?_) ⟨_, rfl, fun u hu => by cases hu; rfl, hSp⟩
        clear hSp
        go_simp
        exact hK
      | 14, ho =>
        rw [← Array.getElem?_toList] at ho
        simp only [List.getElem?_cons_zero, List.getElem?_cons_succ, Option.some.injEq] at ho
        subst ho
        have e19 := (eval_tmp a 19).trans (hT 3 _ 19 _ rfl rfl rfl (hdep _ (Array.mem_of_getElem? (i := 0) rfl) rfl))
        have e21 := (eval_tmp a 21).trans (hT 5 _ 21 _ rfl rfl rfl (hdep _ (Array.mem_of_getElem? (i := 1) rfl) rfl))
        have e23 := (eval_tmp a 23).trans (hT 7 _ 23 _ rfl rfl rfl (hdep _ (Array.mem_of_getElem? (i := 2) rfl) rfl))
        have e25 := (eval_tmp a 25).trans (hT 9 _ 25 _ rfl rfl rfl (hdep _ (Array.mem_of_getElem? (i := 3) rfl) rfl))
        have e27 := (eval_tmp a 27).trans (hT 11 _ 27 _ rfl rfl rfl (hdep _ (Array.mem_of_getElem? (i := 4) rfl) rfl))
        have e29 := (eval_tmp a 29).trans (hT 13 _ 29 _ rfl rfl rfl (hdep _ (Array.mem_of_getElem? (i := 5) rfl) rfl))
        clear hdi hdep hfr hT hcl
        refine op_val rfl rfl (.agg #[.string x.user, .int .u64 x.id, .int .u64 x.ver2, .string x.net, .string x.addr, .string x.address]) (fun K' hK => ?_) ⟨_, rfl, fun u hu => by cases hu; rfl, hSp⟩
        clear hSp
        go_simp
        exact hK
      | 15, ho =>
        rw [← Array.getElem?_toList] at ho
        simp only [List.getElem?_cons_zero, List.getElem?_cons_succ, Option.some.injEq] at ho
        subst ho
        have e1 : a.tmps[1]?.getD undef = .pointer (some ⟨w.heap.size, 0, Option.none⟩) := (eval_tmp a 1).trans (hfr 1 (by decide +kernel))
        clear hdi hdep hfr hT hcl
        refine op_val rfl rfl (.pointer (some ⟨w.heap.size, 7, Option.none⟩)) (fun K' hK => ?_) ⟨_, rfl, fun u hu => by cases hu; rfl, hSp⟩
        clear hSp
        go_simp
        exact hK
      | 16, ho =>
        rw [← Array.getElem?_toList] at ho
        simp only [List.getElem?_cons_zero, List.getElem?_cons_succ, Option.some.injEq] at ho
        subst ho
        have e31 := (eval_tmp a 31).trans (hT 15 _ 31 _ rfl rfl rfl (hdep _ (Array.mem_of_getElem? (i := 0) rfl) rfl))
        have c0 := cell_below hSp.below (HB.out 7 _ rfl)
        clear hdi hdep hfr hT hcl
        refine op_val rfl rfl (.string x.name) (fun K' hK => ?_) ⟨_, rfl, fun u hu => by cases hu; rfl, hSp⟩
        clear hSp
        go_simp
        exact hK
      | 17, ho =>
        rw [← Array.getElem?_toList] at ho
        simp only [List.getElem?_cons_zero, List.getElem?_cons_succ, Option.some.injEq] at ho
        subst ho
        have e1 : a.tmps[1]?.getD undef = .pointer (some ⟨w.heap.size, 0, Option.none⟩) := (eval_tmp a 1).trans (hfr 1 (by decide +kernel))
        clear hdi hdep hfr hT hcl
        refine op_val rfl rfl (.pointer (some ⟨w.heap.size, 8, Option.none⟩)) (fun K' hK => ?_) ⟨_, rfl, fun u hu => by cases hu; rfl, hSp⟩
        clear hSp
        go_simp
        exact hK
      | 18, ho =>
        rw [← Array.getElem?_toList] at ho
        simp only [List.getElem?_cons_zero, List.getElem?_cons_succ, Option.some.injEq] at ho
        subst ho
        have e33 := (eval_tmp a 33).trans (hT 17 _ 33 _ rfl rfl rfl (hdep _ (Array.mem_of_getElem? (i := 0) rfl) rfl))
        have c0 := cell_below hSp.below (HB.out 8 _ rfl)
        clear hdi hdep hfr hT hcl
        refine op_val rfl rfl (.slice A1 x.info.length c1) (fun K' hK => ?_) ⟨_, rfl, fun u hu => by cases hu; rfl, hSp⟩
        clear hSp
        go_simp
        exact hK
      | 19, ho =>
        rw [← Array.getElem?_toList] at ho
        simp only [List.getElem?_cons_zero, List.getElem?_cons_succ, Option.some.injEq] at ho
        subst ho
        have e1 : a.tmps[1]?.getD undef = .pointer (some ⟨w.heap.size, 0, Option.none⟩) := (eval_tmp a 1).trans (hfr 1 (by decide +kernel))
        clear hdi hdep hfr hT hcl
        refine op_val rfl rfl (.pointer (some ⟨w.heap.size, 9, Option.none⟩)) (fun K' hK => ?_) ⟨_, rfl, fun u hu => by cases hu; rfl, hSp⟩
        clear hSp
        go_simp
        exact hK
      | 20, ho =>
        rw [← Array.getElem?_toList] at ho
        simp only [List.getElem?_cons_zero, List.getElem?_cons_succ, Option.some.injEq] at ho
        subst ho
        have e35 := (eval_tmp a 35).trans (hT 19 _ 35 _ rfl rfl rfl (hdep _ (Array.mem_of_getElem? (i := 0) rfl) rfl))
        have c0 := cell_below hSp.below (HB.out 9 _ rfl)
        clear hdi hdep hfr hT hcl
        refine op_val rfl rfl (.slice A2 x.uri.length c2) (fun K' hK => ?_) ⟨_, rfl, fun u hu => by cases hu; rfl, hSp⟩
        clear hSp
        go_simp
        exact hK
      | 21, ho =>
        rw [← Array.getElem?_toList] at ho
        simp only [List.getElem?_cons_zero, List.getElem?_cons_succ, Option.some.injEq] at ho
        subst ho
        have e1 : a.tmps[1]?.getD undef = .pointer (some ⟨w.heap.size, 0, Option.none⟩) := (eval_tmp a 1).trans (hfr 1 (by decide +kernel))
        clear hdi hdep hfr hT hcl
        refine op_val rfl rfl (.pointer (some ⟨w.heap.size, 10, Option.none⟩)) (fun K' hK => ?_) ⟨_, rfl, fun u hu => by cases hu; rfl, hSp⟩
        clear hSp
        go_simp
        exact hK
      | 22, ho =>
        rw [← Array.getElem?_toList] at ho
        simp only [List.getElem?_cons_zero, List.getElem?_cons_succ, Option.some.injEq] at ho
        subst ho
        have e37 := (eval_tmp a 37).trans (hT 21 _ 37 _ rfl rfl rfl (hdep _ (Array.mem_of_getElem? (i := 0) rfl) rfl))
        have c0 := cell_below hSp.below (HB.out 10 _ rfl)
        clear hdi hdep hfr hT hcl
        refine op_val rfl rfl (.slice A3 x.email.length c3) (fun K' hK => ?_) ⟨_, rfl, fun u hu => by cases hu; rfl, hSp⟩
        clear hSp
        go_simp
        exact hK
      | 23, ho =>
        rw [← Array.getElem?_toList] at ho
        simp only [List.getElem?_cons_zero, List.getElem?_cons_succ, Option.some.injEq] at ho
        subst ho
        have e1 : a.tmps[1]?.getD undef = .pointer (some ⟨w.heap.size, 0, Option.none⟩) := (eval_tmp a 1).trans (hfr 1 (by decide +kernel))
        clear hdi hdep hfr hT hcl
        refine op_val rfl rfl (.pointer (some ⟨w.heap.size, 11, Option.none⟩)) (fun K' hK => ?_) ⟨_, rfl, fun u hu => by cases hu; rfl, hSp⟩
        clear hSp
        go_simp
        exact hK
      | 24, ho =>
        rw [← Array.getElem?_toList] at ho
        simp only [List.getElem?_cons_zero, List.getElem?_cons_succ, Option.some.injEq] at ho
        subst ho
        have e39 := (eval_tmp a 39).trans (hT 23 _ 39 _ rfl rfl rfl (hdep _ (Array.mem_of_getElem? (i := 0) rfl) rfl))
        have c0 := cell_below hSp.below (HB.out 11 _ rfl)
        clear hdi hdep hfr hT hcl
        refine op_val rfl rfl (.slice A4 x.phone.length c4) (fun K' hK => ?_) ⟨_, rfl, fun u hu => by cases hu; rfl, hSp⟩
        clear hSp
        go_simp
        exact hK
      | 25, ho =>
        rw [← Array.getElem?_toList] at ho
        simp only [List.getElem?_cons_zero, List.getElem?_cons_succ, Option.some.injEq] at ho
        subst ho
        have e1 : a.tmps[1]?.getD undef = .pointer (some ⟨w.heap.size, 0, Option.none⟩) := (eval_tmp a 1).trans (hfr 1 (by decide +kernel))
        clear hdi hdep hfr hT hcl
        refine op_val rfl rfl (.pointer (some ⟨w.heap.size, 12, Option.none⟩)) (fun K' hK => ?_) ⟨_, rfl, fun u hu => by cases hu; rfl, hSp⟩
        clear hSp
        go_simp
        exact hK
      | 26, ho =>
        rw [← Array.getElem?_toList] at ho
        simp only [List.getElem?_cons_zero, List.getElem?_cons_succ, Option.some.injEq] at ho
        subst ho
        have e41 := (eval_tmp a 41).trans (hT 25 _ 41 _ rfl rfl rfl (hdep _ (Array.mem_of_getElem? (i := 0) rfl) rfl))
        have c0 := cell_below hSp.below (HB.out 12 _ rfl)
        clear hdi hdep hfr hT hcl
        refine op_val rfl rfl (.slice A5 x.con.length c5) (fun K' hK => ?_) ⟨_, rfl, fun u hu => by cases hu; rfl, hSp⟩
        clear hSp
        go_simp
        exact hK
      | 27, ho =>
        rw [← Array.getElem?_toList] at ho
        simp only [List.getElem?_cons_zero, List.getElem?_cons_succ, Option.some.injEq] at ho
        subst ho
        have e42 := (eval_tmp a 42).trans (hT 26 _ 42 _ rfl rfl rfl (hdep _ (Array.mem_of_getElem? (i := 0) rfl) rfl))
        have h36 : d 36 = false := not_yet hcl hdi (j := 36) (p := 7) rfl rfl rfl rfl
        have h38 : d 38 = false := not_yet hcl hdi (j := 38) (p := 30) rfl rfl rfl rfl
        clear hdi hdep hfr hT hcl
        simp only [h36, h38] at hSp
        refine op_gen rfl rfl (fun v w' => Below wx.heap.size wx w' ∧ (∃ B c, v = .slice B x.con.length c) ∧ kCon.SV (fun b => D b ∨ wx.heap.size ≤ b) w' v x.con) (fun K' hK => ?_) (fun v w' hG => ⟨_, rfl, fun u hu => (by cases hu), ?_⟩)
        · have hsv := Bx.mk (H5.out.step (by decide) (below_trans HWW.out hSp.below))
          have hlt := Bx.mk (below_trans HWW.out hSp.below).size
          have hK' := Bx.mk hK
          clear hSp h36 h38 hK
          go_simp
          refine (lcons _ _ D _ hsv.out (fun b hb => Nat.lt_of_lt_of_le (HD.out b hb) hlt.out) HF.out.2.2.2.2.2.2.1).mono ?_
          rintro e w2 ⟨hb, B, c, rfl, hv⟩
          exact hK'.out _ _ ⟨hb, ⟨B, c, rfl⟩, hv⟩
        · have := hSp.conStep (fun b hb => Nat.lt_of_lt_of_le (HD.out b hb) HWW.out.size) hG.1 hG.2
          simp only [← h36] at this
          simpa [upd_if, upd_none, h36, h38] using this
      | 28, ho =>
        rw [← Array.getElem?_toList] at ho
        simp only [List.getElem?_cons_zero, List.getElem?_cons_succ, Option.some.injEq] at ho
        subst ho
        have e1 : a.tmps[1]?.getD undef = .pointer (some ⟨w.heap.size, 0, Option.none⟩) := (eval_tmp a 1).trans (hfr 1 (by decide +kernel))
        clear hdi hdep hfr hT hcl
        refine op_val rfl rfl (.pointer (some ⟨w.heap.size, 13, Option.none⟩)) (fun K' hK => ?_) ⟨_, rfl, fun u hu => by cases hu; rfl, hSp⟩
        clear hSp
        go_simp
        exact hK
      | 29, ho =>
        rw [← Array.getElem?_toList] at ho
        simp only [List.getElem?_cons_zero, List.getElem?_cons_succ, Option.some.injEq] at ho
        subst ho
        have e44 := (eval_tmp a 44).trans (hT 28 _ 44 _ rfl rfl rfl (hdep _ (Array.mem_of_getElem? (i := 0) rfl) rfl))
        have c0 := cell_below hSp.below (HB.out 13 _ rfl)
        clear hdi hdep hfr hT hcl
        refine op_val rfl rfl (.slice A6 x.bw.length c6) (fun K' hK => ?_) ⟨_, rfl, fun u hu => by cases hu; rfl, hSp⟩
        clear hSp
        go_simp
        exact hK
      | 30, ho =>
        rw [← Array.getElem?_toList] at ho
        simp only [List.getElem?_cons_zero, List.getElem?_cons_succ, Option.some.injEq] at ho
        subst ho
        have e45 := (eval_tmp a 45).trans (hT 29 _ 45 _ rfl rfl rfl (hdep _ (Array.mem_of_getElem? (i := 0) rfl) rfl))
        have h36 : d 36 = false := not_yet hcl hdi (j := 36) (p := 8) rfl rfl rfl rfl
        have h38 : d 38 = false := not_yet hcl hdi (j := 38) (p := 33) rfl rfl rfl rfl
        clear hdi hdep hfr hT hcl
        simp only [h36, h38] at hSp
        refine op_gen rfl rfl (fun v w' => Below wx.heap.size wx w' ∧ (∃ B c, v = .slice B x.bw.length c) ∧ kBw.SV (fun b => D b ∨ wx.heap.size ≤ b) w' v x.bw) (fun K' hK => ?_) (fun v w' hG => ⟨_, rfl, fun u hu => (by cases hu), ?_⟩)
        · have hsv := Bx.mk (H6.out.step (by decide) (below_trans HWW.out hSp.below))
          have hlt := Bx.mk (below_trans HWW.out hSp.below).size
          have hK' := Bx.mk hK
          clear hSp h36 h38 hK
          go_simp
          refine (lbws _ _ D _ hsv.out HF.out.2.2.2.2.2.2.2.1.1).mono ?_
          rintro e w2 ⟨hb, B, c, rfl, hv⟩
          exact hK'.out _ _ ⟨hb, ⟨B, c, rfl⟩, hv.mono fun _ h => .inr h⟩
        · have := hSp.bwStep (fun b hb => Nat.lt_of_lt_of_le (HD.out b hb) HWW.out.size) hG.1 hG.2
          simp only [← h36] at this
          simpa [upd_if, upd_none, h36, h38] using this
      | 31, ho =>
        rw [← Array.getElem?_toList] at ho
        simp only [List.getElem?_cons_zero, List.getElem?_cons_succ, Option.some.injEq] at ho
        subst ho
        have e1 : a.tmps[1]?.getD undef = .pointer (some ⟨w.heap.size, 0, Option.none⟩) := (eval_tmp a 1).trans (hfr 1 (by decide +kernel))
        clear hdi hdep hfr hT hcl
        refine op_val rfl rfl (.pointer (some ⟨w.heap.size, 16, Option.none⟩)) (fun K' hK => ?_) ⟨_, rfl, fun u hu => by cases hu; rfl, hSp⟩
        clear hSp
        go_simp
        exact hK
      | 32, ho =>
        rw [← Array.getElem?_toList] at ho
        simp only [List.getElem?_cons_zero, List.getElem?_cons_succ, Option.some.injEq] at ho
        subst ho
        have e47 := (eval_tmp a 47).trans (hT 31 _ 47 _ rfl rfl rfl (hdep _ (Array.mem_of_getElem? (i := 0) rfl) rfl))
        have c0 := cell_below hSp.below (HB.out 16 _ rfl)
        clear hdi hdep hfr hT hcl
        refine op_val rfl rfl (.slice A9 x.key.length c9) (fun K' hK => ?_) ⟨_, rfl, fun u hu => by cases hu; rfl, hSp⟩
        clear hSp
        go_simp
        exact hK
      | 33, ho =>
        rw [← Array.getElem?_toList] at ho
        simp only [List.getElem?_cons_zero, List.getElem?_cons_succ, Option.some.injEq] at ho
        subst ho
        have e1 : a.tmps[1]?.getD undef = .pointer (some ⟨w.heap.size, 0, Option.none⟩) := (eval_tmp a 1).trans (hfr 1 (by decide +kernel))
        clear hdi hdep hfr hT hcl
        refine op_val rfl rfl (.pointer (some ⟨w.heap.size, 17, Option.none⟩)) (fun K' hK => ?_) ⟨_, rfl, fun u hu => by cases hu; rfl, hSp⟩
        clear hSp
        go_simp
        exact hK
      | 34, ho =>
        rw [← Array.getElem?_toList] at ho
        simp only [List.getElem?_cons_zero, List.getElem?_cons_succ, Option.some.injEq] at ho
        subst ho
        have e49 := (eval_tmp a 49).trans (hT 33 _ 49 _ rfl rfl rfl (hdep _ (Array.mem_of_getElem? (i := 0) rfl) rfl))
        have c0 := cell_below hSp.below (HB.out 17 _ rfl)
        clear hdi hdep hfr hT hcl
        refine op_val rfl rfl (.slice A10 x.atts.length c10) (fun K' hK => ?_) ⟨_, rfl, fun u hu => by cases hu; rfl, hSp⟩
        clear hSp
        go_simp
        exact hK
      | 35, ho =>
        rw [← Array.getElem?_toList] at ho
        simp only [List.getElem?_cons_zero, List.getElem?_cons_succ, Option.some.injEq] at ho
        subst ho
        have e50 := (eval_tmp a 50).trans (hT 34 _ 50 _ rfl rfl rfl (hdep _ (Array.mem_of_getElem? (i := 0) rfl) rfl))
        have h36 : d 36 = false := not_yet hcl hdi (j := 36) (p := 10) rfl rfl rfl rfl
        have h38 : d 38 = false := not_yet hcl hdi (j := 38) (p := 2) rfl rfl rfl rfl
        clear hdi hdep hfr hT hcl
        simp only [h36, h38] at hSp
        refine op_gen rfl rfl (fun v w' => Below wx.heap.size wx w' ∧ (∃ B c, v = .slice B x.atts.length c) ∧ kAtt.SV (fun b => D b ∨ wx.heap.size ≤ b) w' v x.atts) (fun K' hK => ?_) (fun v w' hG => ⟨_, rfl, fun u hu => (by cases hu), ?_⟩)
        · have hsv := Bx.mk (H10.out.step (by decide) (below_trans HWW.out hSp.below))
          have hlt := Bx.mk (below_trans HWW.out hSp.below).size
          have hK' := Bx.mk hK
          clear hSp h36 h38 hK
          go_simp
          refine (latts _ _ D _ hsv.out HF.out.2.2.2.2.2.2.2.2.2.2.2.1.1).mono ?_
          rintro e w2 ⟨hb, B, c, rfl, hv⟩
          exact hK'.out _ _ ⟨hb, ⟨B, c, rfl⟩, hv.mono fun _ h => .inr h⟩
        · have := hSp.attStep (fun b hb => Nat.lt_of_lt_of_le (HD.out b hb) HWW.out.size) hG.1 hG.2
          simp only [← h36] at this
          simpa [upd_if, upd_none, h36, h38] using this
      | 36, ho =>
        rw [← Array.getElem?_toList] at ho
        simp only [List.getElem?_cons_zero, List.getElem?_cons_succ, Option.some.injEq] at ho
        subst ho
        have e17 := (eval_tmp a 17).trans (hT 1 _ 17 _ rfl rfl rfl (hdep _ (Array.mem_of_getElem? (i := 0) rfl) rfl))
        have e30 := (eval_tmp a 30).trans (hT 14 _ 30 _ rfl rfl rfl (hdep _ (Array.mem_of_getElem? (i := 1) rfl) rfl))
        have e32 := (eval_tmp a 32).trans (hT 16 _ 32 _ rfl rfl rfl (hdep _ (Array.mem_of_getElem? (i := 2) rfl) rfl))
        have e34 := (eval_tmp a 34).trans (hT 18 _ 34 _ rfl rfl rfl (hdep _ (Array.mem_of_getElem? (i := 3) rfl) rfl))
        have e36 := (eval_tmp a 36).trans (hT 20 _ 36 _ rfl rfl rfl (hdep _ (Array.mem_of_getElem? (i := 4) rfl) rfl))
        have e38 := (eval_tmp a 38).trans (hT 22 _ 38 _ rfl rfl rfl (hdep _ (Array.mem_of_getElem? (i := 5) rfl) rfl))
        have e40 := (eval_tmp a 40).trans (hT 24 _ 40 _ rfl rfl rfl (hdep _ (Array.mem_of_getElem? (i := 6) rfl) rfl))
        have e48 := (eval_tmp a 48).trans (hT 32 _ 48 _ rfl rfl rfl (hdep _ (Array.mem_of_getElem? (i := 9) rfl) rfl))
        have h27 : d 27 = true := (hdep _ (Array.mem_of_getElem? (i := 7) rfl) rfl)
        have h30 : d 30 = true := (hdep _ (Array.mem_of_getElem? (i := 8) rfl) rfl)
        have h35 : d 35 = true := (hdep _ (Array.mem_of_getElem? (i := 10) rfl) rfl)
        have h38 : d 38 = false := not_yet hcl hdi (j := 38) (p := 1) rfl rfl rfl rfl
        clear hdep hfr hT hcl
        obtain ⟨B5, d5, q5⟩ := (hSp.con h27).1
        obtain ⟨B6, d6, q6⟩ := (hSp.bw h30).1
        obtain ⟨B10, d10, q10⟩ := (hSp.att h35).1
        have q5' := (eval_tmp a 43).trans q5
        have q6' := (eval_tmp a 46).trans q6
        have q10' := (eval_tmp a 51).trans q10
        refine op_val rfl rfl (.agg #[.int .i64 x.ver, .string x.user, .int .u64 x.id, .int .u64 x.ver2, .string x.net, .string x.addr, .string x.address, .string x.name, .slice A1 x.info.length c1, .slice A2 x.uri.length c2, .slice A3 x.email.length c3, .slice A4 x.phone.length c4, .slice B5 x.con.length d5, .slice B6 x.bw.length d6, .slice Option.none 0 0, .slice Option.none 0 0, .slice A9 x.key.length c9, .slice B10 x.atts.length d10, .slice Option.none 0 0]) (fun K' hK => ?_) ⟨_, rfl, fun u hu => (by cases hu), ?_⟩
        · clear hSp h27 h30 h35 h38
          go_simp
          exact hK
        · simp only [h27, h30, h35, h38] at hSp
          have := hSp.buildStep
          simp only [q5, q6, q10] at this
          simpa [upd_if, upd_none, h27, h30, h35, h38, q5, q6, q10] using this
      | 37, ho =>
        rw [← Array.getElem?_toList] at ho
        simp only [List.getElem?_cons_zero, List.getElem?_cons_succ, Option.some.injEq] at ho
        subst ho
        have h38 : d 38 = false := not_yet hcl hdi (j := 38) (p := 0) rfl rfl rfl rfl
        clear hdep hfr hT hcl
        refine op_gen rfl rfl (fun v w' => v = .pointer (some ⟨wx.heap.size, 0, Option.none⟩) ∧ w' = wx.alloc (.cells #[.int .i64 0, .string ⟨#[]⟩, .int .u64 0, .int .u64 0, .string ⟨#[]⟩, .string ⟨#[]⟩, .string ⟨#[]⟩, .string ⟨#[]⟩, .slice Option.none 0 0, .slice Option.none 0 0, .slice Option.none 0 0, .slice Option.none 0 0, .slice Option.none 0 0, .slice Option.none 0 0, .slice Option.none 0 0, .slice Option.none 0 0, .slice Option.none 0 0, .slice Option.none 0 0, .slice Option.none 0 0] 44)) (fun K' hK => ?_) (fun v w' hG => ⟨_, rfl, fun u hu => (by cases hu), ?_⟩)
        · clear hSp h38
          go_simp
          exact hK _ _ ⟨rfl, rfl⟩
        · obtain ⟨rfl, rfl⟩ := hG
          simp only [hdi, h38] at hSp
          have := hSp.allocStep
          simpa [upd_if, upd_none, hdi, h38] using this
      | 38, ho =>
        rw [← Array.getElem?_toList] at ho
        simp only [List.getElem?_cons_zero, List.getElem?_cons_succ, Option.some.injEq] at ho
        subst ho
        have h27 : d 27 = true := (hdep _ (Array.mem_of_getElem? (i := 30) rfl) rfl)
        have h30 : d 30 = true := (hdep _ (Array.mem_of_getElem? (i := 33) rfl) rfl)
        have h35 : d 35 = true := (hdep _ (Array.mem_of_getElem? (i := 2) rfl) rfl)
        have h36 : d 36 = true := (hdep _ (Array.mem_of_getElem? (i := 1) rfl) rfl)
        have h37 : d 37 = true := (hdep _ (Array.mem_of_getElem? (i := 0) rfl) rfl)
        clear hdep hfr hT hcl
        simp only [h27, h30, h35, h36, h37, hdi] at hSp
        obtain ⟨B5, d5, q5⟩ := (hSp.con rfl).1
        obtain ⟨B6, d6, q6⟩ := (hSp.bw rfl).1
        obtain ⟨B10, d10, q10⟩ := (hSp.att rfl).1
        obtain ⟨g, qg, hg1, hg2⟩ := hSp.blk rfl
        have q52 := hSp.build rfl
        simp only [q5, q6, q10] at q52
        have qg' := (eval_tmp a 4).trans qg
        have q52' := (eval_tmp a 52).trans q52
        replace hg2 : wx.heap[g]? = some (.cells #[.int .i64 0, .string ⟨#[]⟩, .int .u64 0, .int .u64 0, .string ⟨#[]⟩, .string ⟨#[]⟩, .string ⟨#[]⟩, .string ⟨#[]⟩, .slice Option.none 0 0, .slice Option.none 0 0, .slice Option.none 0 0, .slice Option.none 0 0, .slice Option.none 0 0, .slice Option.none 0 0, .slice Option.none 0 0, .slice Option.none 0 0, .slice Option.none 0 0, .slice Option.none 0 0, .slice Option.none 0 0] 44 (0, 0)) := hg2
        refine op_gen rfl rfl (fun v w' => Keep g wx w' ∧ w'.heap[g]? = some (.cells #[.int .i64 x.ver, .string x.user, .int .u64 x.id, .int .u64 x.ver2, .string x.net, .string x.addr, .string x.address, .string x.name, .slice A1 x.info.length c1, .slice A2 x.uri.length c2, .slice A3 x.email.length c3, .slice A4 x.phone.length c4, .slice B5 x.con.length d5, .slice B6 x.bw.length d6, .slice Option.none 0 0, .slice Option.none 0 0, .slice A9 x.key.length c9, .slice B10 x.atts.length d10, .slice Option.none 0 0] 44 (0, 0))) (fun K' hK => ?_) (fun v w' hG => ⟨_, rfl, fun u hu => (by cases hu), ?_⟩)
        · have HG := Bx.mk hg2
          clear hSp h27 h30 h35 h36 h37 hg2
          refine wp_store_row 44 _ _ rfl g _ qg q52 44 _ HG.out size44 rfl (by simp [Value.oneCell']) (hK _ _ ⟨keep_setRow _ _ _, setRow_heap _ _ _ _ _ _ HG.out⟩)
        · obtain ⟨hk, hh⟩ := hG
          have := hSp.storeStep qg hk (by rw [q5, q6, q10]; exact hh)
          simpa [upd_if, upd_none, h27, h30, h35, h36, h37] using this
      | n + 39, ho => cases ho
    · intro d f wx hall hT hSp
      have h27 := hall 27 (by decide)
      have h30 := hall 30 (by decide)
      have h35 := hall 35 (by decide)
      have h37 := hall 37 (by decide)
      have h38 := hall 38 (by decide)
      obtain ⟨⟨B5, d5, q5⟩, r5⟩ := hSp.con h27
      obtain ⟨⟨B6, d6, q6⟩, r6⟩ := hSp.bw h30
      obtain ⟨⟨B10, d10, q10⟩, r10⟩ := hSp.att h35
      obtain ⟨g, qg, hg1, hg2⟩ := hSp.blk h37
      have HBL := Bx.mk hSp.below
      simp only [h37, h38, q5, q6, q10, if_true] at hg2 r5 r6 r10
      have hFV : ∀ b, FV D W1.heap.size true (f 4) b → FG D W1.heap.size g b := fun b hb => ⟨hb.1, hb.2 rfl g qg⟩
      have HG := Bx.mk hg2
      have HR5 := Bx.mk (r5.mono hFV)
      have HR6 := Bx.mk (r6.mono hFV)
      have HR10 := Bx.mk (r10.mono hFV)
      clear r5 r6 r10 hg2 hFV hSp hT hall
      dsimp only
      go_wp2_with (fail)
      go_meet
      case rel => exact ⟨g, B5, d5, B6, d6, B10, d10, qg, hg1, HG, HR5, HR6, HR10, HBL⟩
  case rest =>
    obtain ⟨g, B5, d5, B6, d6, B10, d10, rfl, hg1, HG0, HR5, HR6, HR10, HBL⟩ := hcut
    have hgz := blk_lt HG0.out
    have hx14 := cell_below HBL.out (HB.out 14 _ rfl)
    have hwW := HWW.out.size
    have hDg : ∀ b, D b → b < W1.heap.size := fun b hb => Nat.lt_of_lt_of_le (HD.out b hb) hwW
    obtain ⟨wi, rfl⟩ : ∃ wi : World, wi = wc := ⟨_, rfl⟩
    have hW1i := HBL.out.size
    go_wp2
    go_loopw [56] (fun i wr => ∃ (k : Nat) (A : Option Addr) (c : Nat), k ≤ x.tim.length ∧ i = .int .i64 k ∧ Bx (wr.heap[g]? = some (.cells #[.int .i64 x.ver, .string x.user, .int .u64 x.id, .int .u64 x.ver2, .string x.net, .string x.addr, .string x.address, .string x.name, .slice A1 x.info.length c1, .slice A2 x.uri.length c2, .slice A3 x.email.length c3, .slice A4 x.phone.length c4, .slice B5 x.con.length d5, .slice B6 x.bw.length d6, .slice A k c, .slice Option.none 0 0, .slice A9 x.key.length c9, .slice B10 x.atts.length d10, .slice Option.none 0 0] 44 (0, 0))) ∧
      Bx (kTim.Own 80 wr wi.heap.size (fun b => D b ∨ wi.heap.size ≤ b) (.slice A k c) (x.tim.take k)) ∧ Bx (Keep g wi wr)) (fun i _ => x.tim.length - (intOf i).toNat)
    case atStart => exact ⟨0, Option.none, 0, Nat.zero_le _, rfl, HG0, ⟨Own.nil _ _ _ _ _⟩, ⟨Keep.refl _ _⟩⟩
    case round =>
      obtain ⟨k, A, c, hk, rfl, hG, hO, hK⟩ := hrel
      by_cases hlt : k < x.tim.length
      · obtain ⟨ad, Av, cv, rfl, hc0, hc1, hc2, hx⟩ := tim_get R7.out k hlt
        have hBW := HBL.out.trans (hK.out.below HBL.out.size hg1)
        have hBw := HWW.out.trans (hBW.mono HWW.out.size)
        have HBW := Bx.mk hBW
        replace hc0 := cell_below hBw hc0
        replace hc1 := cell_below hBw hc1
        replace hc2 := cell_below hBw hc2
        obtain ⟨wo, rfl⟩ : ∃ wo : World, wo = wr := ⟨_, rfl⟩
        have HX := Bx.mk (hx.below hBw HD.out)
        have hz := hBw.size
        have hzi := hK.out.size
        have hgo := blk_lt hG.out
        clear hx hBw hBW
        obtain ⟨Ax, cx, he, hlx, hrx⟩ := HX.out
        have HRX := Bx.mk hrx
        simp only [Value.slice.injEq, true_and] at he
        obtain ⟨rfl, rfl⟩ := he
        clear hrx HX
        have hmx := HRX.out.1
        have hlr : x.tim[k].reps.length ≤ 2147483647 := (HF.out.2.2.2.2.2.2.2.2.1.2 _ (List.getElem_mem hlt)).1
        go_wp2
        go_loopw [68] (fun j wr => ∃ (m : Nat) (A2 : Option Addr) (c2 : Nat), m ≤ x.tim[k].reps.length ∧ j = .int .i64 m ∧ Bx (wr.heap[wo.heap.size + 1]? = some (.cells #[.int .u64 x.tim[k].st, .int .u64 x.tim[k].sp, .slice A2 m c2] 80 (0, 0))) ∧
          Bx (kRep.Own 84 wr (wo.heap.size + 2) (fun b => D b ∨ wo.heap.size + 2 ≤ b) (.slice A2 m c2) (x.tim[k].reps.take m)) ∧ Bx (Below wo.heap.size wo wr) ∧ wo.heap.size + 2 ≤ wr.heap.size) (fun j _ => x.tim[k].reps.length - (intOf j).toNat)
        case atStart => exact ⟨0, Option.none, 0, Nat.zero_le _, rfl, ⟨by have := heap_alloc_new (wo.alloc (.cells #[.int .u64 x.tim[k].st, .int .u64 x.tim[k].sp, .slice Av x.tim[k].reps.length cv] 77)) (.cells #[.int .u64 x.tim[k].st, .int .u64 x.tim[k].sp, .slice Option.none 0 0] 80); simpa using this⟩, ⟨Own.nil _ _ _ _ _⟩, ⟨below_alloc (below_alloc (Below.refl _ _) (Nat.le_refl _) _) (by simp) _⟩, by simp⟩
        case round =>
          obtain ⟨m, A2, c2, hm, rfl, hG2, hO2, hB2, hz2⟩ := hrel
          by_cases hlt2 : m < x.tim[k].reps.length
          · obtain ⟨ad2, A3, c3, rfl, hd0, hd1, hd2, hs1⟩ := rep_get HRX.out m hlt2
            replace hd0 := cell_below hB2.out hd0
            replace hd1 := cell_below hB2.out hd1
            replace hd2 := cell_below hB2.out hd2
            have hz3 : wo.heap.size + 1 < wr.heap.size := by omega
            have hg2 : wr.cell? ⟨wo.heap.size + 1, 2, Option.none⟩ = some (.slice A2 m c2) := by rw [blk_cell hG2.out]; rfl
            have hz4 := hz2
            have HO3 := Bx.mk (own_alloc hO2.out (.cells #[.int .i64 x.tim[k].reps[m].iv, .int .i64 x.tim[k].reps[m].du, .slice A3 x.tim[k].reps[m].offs.length c3] 83))
            have HG3 := Bx.mk (blk_alloc hG2.out (.cells #[.int .i64 x.tim[k].reps[m].iv, .int .i64 x.tim[k].reps[m].du, .slice A3 x.tim[k].reps[m].offs.length c3] 83))
            have HB3 := Bx.mk (below_alloc hB2.out hB2.out.size (.cells #[.int .i64 x.tim[k].reps[m].iv, .int .i64 x.tim[k].reps[m].du, .slice A3 x.tim[k].reps[m].offs.length c3] 83))
            have HK3 : Bx (kRep.K (fun b => (D b ∨ wo.heap.size + 2 ≤ b) ∧ some b ≠ (Value.slice A2 m c2).ownBlock) (wr.alloc (.cells #[.int .i64 x.tim[k].reps[m].iv, .int .i64 x.tim[k].reps[m].du, .slice A3 x.tim[k].reps[m].offs.length c3] 83)) x.tim[k].reps[m] [.int .i64 x.tim[k].reps[m].iv, .int .i64 x.tim[k].reps[m].du, .slice A3 x.tim[k].reps[m].offs.length c3]) := by
              have hF : ∀ b, D b → (D b ∨ wo.heap.size + 2 ≤ b) ∧ some b ≠ (Value.slice A2 m c2).ownBlock := fun b hb => ⟨.inl hb, fun e => by have := (hO2.out.lt b e.symm).1; have := HD.out b hb; omega⟩
              exact ⟨kRep_mk _ ((hs1.below HB3.out (fun b hb => Nat.lt_of_lt_of_le (HD.out b hb) hz)).mono hF)⟩
            have HL : m + 1 ≤ 2147483648 := by omega
            have HM := Bx.mk (List.length_take_of_le hm)
            have HSZ : Bx (wo.heap.size + 2 ≤ (wr.alloc (.cells #[.int .i64 x.tim[k].reps[m].iv, .int .i64 x.tim[k].reps[m].du, .slice A3 x.tim[k].reps[m].offs.length c3] 83)).heap.size) := ⟨by simp; omega⟩
            clear hO2 hG2 hB2 hs1 hz2 hG hO hK
            go_wp2_with (at_builtin; refine app_row kRep (w := wo) _ rfl _ _ 78 84 _ 40 rfl Tryz.underlying78 info84 rfl (by decide) (by decide) (by decide) (.slice A2 m c2) (x.tim[k].reps.take m) x.tim[k].reps[m] _ m HM.out _ rfl rfl (by simp) HK3 HO3 HB3 (Nat.le_add_right _ _) HSZ.out (fun _ h => .inr h) HL ?_; intro A5 c5 w5 HO5 HB5 HG5; have HG6 := Bx.mk (blk_grown HG3.out HG5.out (fun b hb => by have := (HO3.out.lt b hb).1; omega)); have hg5 : w5.cell? ⟨wo.heap.size + 1, 2, Option.none⟩ = some (.slice A2 m c2) := (by rw [blk_cell HG6.out]; rfl); have hf5 := blk_frozen HG6.out 2)
            go_roundw
            case rel =>
              have hO6 : kRep.Own 84 (w5.setCell ⟨wo.heap.size + 1, 2, Option.none⟩ (.slice A5 (m + 1) c5)) (wo.heap.size + 2) (fun b => D b ∨ wo.heap.size + 2 ≤ b) (.slice A5 (m + 1) c5) (x.tim[k].reps.take m ++ [x.tim[k].reps[m]]) :=
                HO5.out.step fun b hF _ => Below.heap_setCell _ _ _ _ (by rcases hF with hF | hF; (have := HD.out b hF; show b ≠ wo.heap.size + 1; omega); (show b ≠ wo.heap.size + 1; omega))
              rw [take_snoc] at hO6
              have hs := HB5.out.size
              exact ⟨m + 1, A5, c5, by omega, by go_num, ⟨blk_set HG6.out 2 _⟩, ⟨hO6⟩, ⟨HB5.out.setCell (by simp) _⟩, by simp [World.setCell]; have := HG5.out.size; simp at this; omega⟩
            case measure => simp [intOf]; omega
          · have hz3 : wo.heap.size + 1 < wr.heap.size := by omega
            have hg0 : wr.cell? ⟨wo.heap.size + 1, 0, Option.none⟩ = some (.int .u64 x.tim[k].st) := by rw [blk_cell hG2.out]; rfl
            have hg1' : wr.cell? ⟨wo.heap.size + 1, 1, Option.none⟩ = some (.int .u64 x.tim[k].sp) := by rw [blk_cell hG2.out]; rfl
            have hg2 : wr.cell? ⟨wo.heap.size + 1, 2, Option.none⟩ = some (.slice A2 m c2) := by rw [blk_cell hG2.out]; rfl
            obtain rfl : m = x.tim[k].reps.length := by omega
            have hR := hO2.out.reads
            rw [List.take_length] at hR
            have HGo := Bx.mk (heap_below hB2.out hG.out)
            have hgc : wr.cell? ⟨g, 14, Option.none⟩ = some (.slice A k c) := by rw [blk_cell HGo.out]; rfl
            have HO3 := Bx.mk (hO.out.step (w' := wr) (fun b _ hb => hB2.out.block b hb))
            have HB3 := Bx.mk (HBW.out.trans (hB2.out.mono HBW.out.size))
            have HKW := Bx.mk (hK.out.trans (Keep.ofBelow hB2.out))
            have HK3 : Bx (kTim.K (fun b => (D b ∨ wi.heap.size ≤ b) ∧ some b ≠ (Value.slice A k c).ownBlock) wr x.tim[k] [.int .u64 x.tim[k].st, .int .u64 x.tim[k].sp, .slice A2 x.tim[k].reps.length c2]) :=
              ⟨kTim_mk _ (hR.mono fun b hb => ⟨by rcases hb with hb | hb; exact .inl hb; exact .inr (by omega), fun e => by have := hO.out.lt b e.symm; rcases hb with hb | hb; (have := HD.out b hb; omega); omega⟩)⟩
            have HL : k + 1 ≤ 2147483648 := by have : x.tim.length ≤ 2147483647 := HF.out.2.2.2.2.2.2.2.2.1.1; omega
            have HM := Bx.mk (List.length_take_of_le hk)
            have HSZ : Bx (wi.heap.size ≤ wr.heap.size) := ⟨by omega⟩
            have hgr : g < wr.heap.size := by omega
            clear hO hO2 hG hG2 hB2 hR hK HBW
            go_wp2_with (at_builtin; refine app_row kTim (w := W1) _ rfl _ _ 39 80 _ 40 rfl Tryz.underlying39 info80 rfl (by decide) (by decide) (by decide) (.slice A k c) (x.tim.take k) x.tim[k] _ k HM.out _ rfl rfl (by simp) HK3 HO3 HB3 hW1i HSZ.out (fun _ h => .inr h) HL ?_; intro A5 c5 w5 HO5 HB5 HG5; have HG6 := Bx.mk (blk_grown HGo.out HG5.out (fun b hb => by have := (HO3.out.lt b hb).1; omega)); have hg5 : w5.cell? ⟨g, 14, Option.none⟩ = some (.slice A k c) := (by rw [blk_cell HG6.out]; rfl); have hf5 := blk_frozen HG6.out 14)
            go_roundw
            case rel =>
              have hO6 : kTim.Own 80 (w5.setCell ⟨g, 14, Option.none⟩ (.slice A5 (k + 1) c5)) wi.heap.size (fun b => D b ∨ wi.heap.size ≤ b) (.slice A5 (k + 1) c5) (x.tim.take k ++ [x.tim[k]]) :=
                HO5.out.step fun b hF _ => Below.heap_setCell _ _ _ _ (by rcases hF with hF | hF; (have := hDg b hF; show b ≠ g; omega); (show b ≠ g; omega))
              rw [take_snoc] at hO6
              exact ⟨k + 1, A5, c5, by omega, by go_num, ⟨blk_set HG6.out 14 _⟩, ⟨hO6⟩, ⟨(keep_grown HKW.out HG5.out (fun b hb => (HO3.out.lt b hb).1)).trans (Keep.set _)⟩⟩
            case measure => simp [intOf]; omega
      · obtain rfl : k = x.tim.length := by omega
        have hR := hO.out.reads
        rw [List.take_length] at hR
        have hBW := HBL.out.trans (hK.out.below HBL.out.size hg1)
        have hzi := hK.out.size
        have HR7 : Bx (kTim.SV (FG D W1.heap.size g) wr (.slice A x.tim.length c) x.tim) := ⟨hR.mono fun b hb => ⟨by rcases hb with hb | hb; exact .inl hb; exact .inr (by omega), by rcases hb with hb | hb; (have := hDg b hb; omega); omega⟩⟩
        replace HR5 := Bx.mk (HR5.out.keep (by decide) (fun b hb => hb.2) hK.out)
        replace HR6 := Bx.mk (HR6.out.keep (by decide) (fun b hb => hb.2) hK.out)
        replace HR10 := Bx.mk (HR10.out.keep (by decide) (fun b hb => hb.2) hK.out)
        replace HBL := Bx.mk hBW
        clear hO hR hK hBW
        obtain ⟨At, ct, rfl, rfl⟩ : ∃ At ct, At = A ∧ ct = c := ⟨_, _, rfl, rfl⟩
        replace HG0 := hG
        replace hgz := blk_lt HG0.out
        replace hx14 := cell_below HBL.out (HB.out 15 _ rfl)
        obtain ⟨wj, rfl⟩ : ∃ wj : World, wj = wr := ⟨_, rfl⟩
        replace hW1i := HBL.out.size
        clear hG hzi
        go_wp2
        go_loopw [95] (fun i wr => ∃ (k : Nat) (A : Option Addr) (c : Nat), k ≤ x.zon.length ∧ i = .int .i64 k ∧ Bx (wr.heap[g]? = some (.cells #[.int .i64 x.ver, .string x.user, .int .u64 x.id, .int .u64 x.ver2, .string x.net, .string x.addr, .string x.address, .string x.name, .slice A1 x.info.length c1, .slice A2 x.uri.length c2, .slice A3 x.email.length c3, .slice A4 x.phone.length c4, .slice B5 x.con.length d5, .slice B6 x.bw.length d6, .slice At x.tim.length ct, .slice A k c, .slice A9 x.key.length c9, .slice B10 x.atts.length d10, .slice Option.none 0 0] 44 (0, 0))) ∧
          Bx (kZon.Own 87 wr wj.heap.size (fun b => D b ∨ wj.heap.size ≤ b) (.slice A k c) (x.zon.take k)) ∧ Bx (Keep g wj wr)) (fun i _ => x.zon.length - (intOf i).toNat)
        case atStart => exact ⟨0, Option.none, 0, Nat.zero_le _, rfl, HG0, ⟨Own.nil _ _ _ _ _⟩, ⟨Keep.refl _ _⟩⟩
        case round =>
          obtain ⟨k, A, c, hk, rfl, hG, hO, hK⟩ := hrel
          by_cases hlt : k < x.zon.length
          · obtain ⟨ad, rfl, hc0, hc1⟩ := zon_get R8.out k hlt
            have hBW := HBL.out.trans (hK.out.below HBL.out.size hg1)
            have hBw := HWW.out.trans (hBW.mono HWW.out.size)
            replace hc0 := cell_below hBw hc0
            replace hc1 := cell_below hBw hc1
            have hzi := hK.out.size
            have hgo := blk_lt hG.out
            have hgc : wr.cell? ⟨g, 15, Option.none⟩ = some (.slice A k c) := by rw [blk_cell hG.out]; rfl
            have HGo := Bx.mk (blk_alloc hG.out (.cells #[.int .u64 x.zon[k].t, .int .i64 x.zon[k].o] 86))
            have HO3 := Bx.mk (own_alloc hO.out (.cells #[.int .u64 x.zon[k].t, .int .i64 x.zon[k].o] 86))
            have HB3 := Bx.mk (below_alloc hBW hBW.size (.cells #[.int .u64 x.zon[k].t, .int .i64 x.zon[k].o] 86))
            have HKW := Bx.mk (hK.out.trans (Keep.alloc wr (.cells #[.int .u64 x.zon[k].t, .int .i64 x.zon[k].o] 86)))
            have HK3 : Bx (kZon.K (fun b => (D b ∨ wj.heap.size ≤ b) ∧ some b ≠ (Value.slice A k c).ownBlock) (wr.alloc (.cells #[.int .u64 x.zon[k].t, .int .i64 x.zon[k].o] 86)) x.zon[k] [.int .u64 x.zon[k].t, .int .i64 x.zon[k].o]) := ⟨kZon_mk _ _ _⟩
            have HL : k + 1 ≤ 2147483648 := by have : x.zon.length ≤ 2147483647 := HF.out.2.2.2.2.2.2.2.2.2.1; omega
            have HM := Bx.mk (List.length_take_of_le hk)
            have HSZ : Bx (wj.heap.size ≤ (wr.alloc (.cells #[.int .u64 x.zon[k].t, .int .i64 x.zon[k].o] 86)).heap.size) := ⟨by simp; omega⟩
            clear hO hG hK hBW hBw
            go_wp2_with (at_builtin; refine app_row kZon (w := W1) _ rfl _ _ 40 87 _ 16 rfl Tryz.underlying40 info87 rfl (by decide) (by decide) (by decide) (.slice A k c) (x.zon.take k) x.zon[k] _ k HM.out _ rfl rfl (by simp) HK3 HO3 HB3 hW1i HSZ.out (fun _ h => .inr h) HL ?_; intro A5 c5 w5 HO5 HB5 HG5; have HG6 := Bx.mk (blk_grown HGo.out HG5.out (fun b hb => by have := (HO3.out.lt b hb).1; omega)); have hg5 : w5.cell? ⟨g, 15, Option.none⟩ = some (.slice A k c) := (by rw [blk_cell HG6.out]; rfl); have hf5 := blk_frozen HG6.out 15)
            go_roundw
            case rel =>
              have hO6 : kZon.Own 87 (w5.setCell ⟨g, 15, Option.none⟩ (.slice A5 (k + 1) c5)) wj.heap.size (fun b => D b ∨ wj.heap.size ≤ b) (.slice A5 (k + 1) c5) (x.zon.take k ++ [x.zon[k]]) :=
                HO5.out.step fun b hF _ => Below.heap_setCell _ _ _ _ (by rcases hF with hF | hF; (have := hDg b hF; show b ≠ g; omega); (show b ≠ g; omega))
              rw [take_snoc] at hO6
              exact ⟨k + 1, A5, c5, by omega, by go_num, ⟨blk_set HG6.out 15 _⟩, ⟨hO6⟩, ⟨(keep_grown HKW.out HG5.out (fun b hb => (HO3.out.lt b hb).1)).trans (Keep.set _)⟩⟩
            case measure => simp [intOf]; omega
          · obtain rfl : k = x.zon.length := by omega
            have hR := hO.out.reads
            rw [List.take_length] at hR
            have hBW := HBL.out.trans (hK.out.below HBL.out.size hg1)
            have hzi := hK.out.size
            have HR8 : Bx (kZon.SV (FG D W1.heap.size g) wr (.slice A x.zon.length c) x.zon) := ⟨hR.mono fun b hb => ⟨by rcases hb with hb | hb; exact .inl hb; exact .inr (by omega), by rcases hb with hb | hb; (have := hDg b hb; omega); omega⟩⟩
            replace HR5 := Bx.mk (HR5.out.keep (by decide) (fun b hb => hb.2) hK.out)
            replace HR6 := Bx.mk (HR6.out.keep (by decide) (fun b hb => hb.2) hK.out)
            replace HR10 := Bx.mk (HR10.out.keep (by decide) (fun b hb => hb.2) hK.out)
            replace HR7 := Bx.mk (HR7.out.keep (by decide) (fun b hb => hb.2) hK.out)
            replace HBL := Bx.mk hBW
            clear hO hR hK hBW
            obtain ⟨Az, cz, rfl, rfl⟩ : ∃ Az cz, Az = A ∧ cz = c := ⟨_, _, rfl, rfl⟩
            replace HG0 := hG
            replace hgz := blk_lt HG0.out
            replace hx14 := cell_below HBL.out (HB.out 18 _ rfl)
            obtain ⟨wl, rfl⟩ : ∃ wl : World, wl = wr := ⟨_, rfl⟩
            replace hW1i := HBL.out.size
            clear hG hzi
            go_wp2
            go_loopw [113] (fun i wr => ∃ (k : Nat) (A : Option Addr) (c : Nat), k ≤ x.med.length ∧ i = .int .i64 k ∧ Bx (wr.heap[g]? = some (.cells #[.int .i64 x.ver, .string x.user, .int .u64 x.id, .int .u64 x.ver2, .string x.net, .string x.addr, .string x.address, .string x.name, .slice A1 x.info.length c1, .slice A2 x.uri.length c2, .slice A3 x.email.length c3, .slice A4 x.phone.length c4, .slice B5 x.con.length d5, .slice B6 x.bw.length d6, .slice At x.tim.length ct, .slice Az x.zon.length cz, .slice A9 x.key.length c9, .slice B10 x.atts.length d10, .slice A k c] 44 (0, 0))) ∧
              Bx (kMed.Own 89 wr wl.heap.size (fun b => D b ∨ wl.heap.size ≤ b) (.slice A k c) (x.med.take k)) ∧ Bx (Keep g wl wr)) (fun i _ => x.med.length - (intOf i).toNat)
            case atStart => exact ⟨0, Option.none, 0, Nat.zero_le _, rfl, HG0, ⟨Own.nil _ _ _ _ _⟩, ⟨Keep.refl _ _⟩⟩
            case round =>
              obtain ⟨k, A, c, hk, rfl, hG, hO, hK⟩ := hrel
              by_cases hlt : k < x.med.length
              · obtain ⟨ad, Av2, cv2, Av3, cv3, Av4, cv4, Av5, cv5, Av6, cv6, Av7, cv7, Av8, cv8, Av9, cv9, rfl, hc0, hc1, hc2, hc3, hc4, hc5, hc6, hc7, hc8, hc9, hv2, hv3, hv4, hv5, hv6, hv7, hv8, hv9⟩ := med_get R11.out k hlt
                have hBW := HBL.out.trans (hK.out.below HBL.out.size hg1)
                have hBw := HWW.out.trans (hBW.mono HWW.out.size)
                replace hc0 := cell_below hBw hc0
                replace hc1 := cell_below hBw hc1
                replace hc2 := cell_below hBw hc2
                replace hc3 := cell_below hBw hc3
                replace hc4 := cell_below hBw hc4
                replace hc5 := cell_below hBw hc5
                replace hc6 := cell_below hBw hc6
                replace hc7 := cell_below hBw hc7
                replace hc8 := cell_below hBw hc8
                replace hc9 := cell_below hBw hc9
                have HV2 := Bx.mk (hv2.below (hBw.trans (below_alloc (Below.refl _ _) hBw.size (.cells #[.string x.med[k].name, .int .i64 x.med[k].port, .slice Av2 x.med[k].ports.length cv2, .slice Av3 x.med[k].protos.length cv3, .slice Av4 x.med[k].formats.length cv4, .slice Av5 x.med[k].title.length cv5, .slice Av6 x.med[k].con.length cv6, .slice Av7 x.med[k].bw.length cv7, .slice Av8 x.med[k].key.length cv8, .slice Av9 x.med[k].atts.length cv9] 54))) HD.out)
                have HV3 := Bx.mk (hv3.below (hBw.trans (below_alloc (Below.refl _ _) hBw.size (.cells #[.string x.med[k].name, .int .i64 x.med[k].port, .slice Av2 x.med[k].ports.length cv2, .slice Av3 x.med[k].protos.length cv3, .slice Av4 x.med[k].formats.length cv4, .slice Av5 x.med[k].title.length cv5, .slice Av6 x.med[k].con.length cv6, .slice Av7 x.med[k].bw.length cv7, .slice Av8 x.med[k].key.length cv8, .slice Av9 x.med[k].atts.length cv9] 54))) HD.out)
                have HV4 := Bx.mk (hv4.below (hBw.trans (below_alloc (Below.refl _ _) hBw.size (.cells #[.string x.med[k].name, .int .i64 x.med[k].port, .slice Av2 x.med[k].ports.length cv2, .slice Av3 x.med[k].protos.length cv3, .slice Av4 x.med[k].formats.length cv4, .slice Av5 x.med[k].title.length cv5, .slice Av6 x.med[k].con.length cv6, .slice Av7 x.med[k].bw.length cv7, .slice Av8 x.med[k].key.length cv8, .slice Av9 x.med[k].atts.length cv9] 54))) HD.out)
                have HV5 := Bx.mk (hv5.below (hBw.trans (below_alloc (Below.refl _ _) hBw.size (.cells #[.string x.med[k].name, .int .i64 x.med[k].port, .slice Av2 x.med[k].ports.length cv2, .slice Av3 x.med[k].protos.length cv3, .slice Av4 x.med[k].formats.length cv4, .slice Av5 x.med[k].title.length cv5, .slice Av6 x.med[k].con.length cv6, .slice Av7 x.med[k].bw.length cv7, .slice Av8 x.med[k].key.length cv8, .slice Av9 x.med[k].atts.length cv9] 54))) HD.out)
                have HV6 := Bx.mk (hv6.below (hBw.trans (below_alloc (Below.refl _ _) hBw.size (.cells #[.string x.med[k].name, .int .i64 x.med[k].port, .slice Av2 x.med[k].ports.length cv2, .slice Av3 x.med[k].protos.length cv3, .slice Av4 x.med[k].formats.length cv4, .slice Av5 x.med[k].title.length cv5, .slice Av6 x.med[k].con.length cv6, .slice Av7 x.med[k].bw.length cv7, .slice Av8 x.med[k].key.length cv8, .slice Av9 x.med[k].atts.length cv9] 54))) HD.out)
                have HV7 := Bx.mk (hv7.below (hBw.trans (below_alloc (Below.refl _ _) hBw.size (.cells #[.string x.med[k].name, .int .i64 x.med[k].port, .slice Av2 x.med[k].ports.length cv2, .slice Av3 x.med[k].protos.length cv3, .slice Av4 x.med[k].formats.length cv4, .slice Av5 x.med[k].title.length cv5, .slice Av6 x.med[k].con.length cv6, .slice Av7 x.med[k].bw.length cv7, .slice Av8 x.med[k].key.length cv8, .slice Av9 x.med[k].atts.length cv9] 54))) HD.out)
                have HV8 := Bx.mk (hv8.below (hBw.trans (below_alloc (Below.refl _ _) hBw.size (.cells #[.string x.med[k].name, .int .i64 x.med[k].port, .slice Av2 x.med[k].ports.length cv2, .slice Av3 x.med[k].protos.length cv3, .slice Av4 x.med[k].formats.length cv4, .slice Av5 x.med[k].title.length cv5, .slice Av6 x.med[k].con.length cv6, .slice Av7 x.med[k].bw.length cv7, .slice Av8 x.med[k].key.length cv8, .slice Av9 x.med[k].atts.length cv9] 54))) HD.out)
                have HV9 := Bx.mk (hv9.below (hBw.trans (below_alloc (Below.refl _ _) hBw.size (.cells #[.string x.med[k].name, .int .i64 x.med[k].port, .slice Av2 x.med[k].ports.length cv2, .slice Av3 x.med[k].protos.length cv3, .slice Av4 x.med[k].formats.length cv4, .slice Av5 x.med[k].title.length cv5, .slice Av6 x.med[k].con.length cv6, .slice Av7 x.med[k].bw.length cv7, .slice Av8 x.med[k].key.length cv8, .slice Av9 x.med[k].atts.length cv9] 54))) HD.out)
                have hmx := R11.out.1
                clear hv2 hv3 hv4 hv5 hv6 hv7 hv8 hv9
                have HM : Bx (∀ j u, #[.string x.med[k].name, .int .i64 x.med[k].port, .slice Av2 x.med[k].ports.length cv2, .slice Av3 x.med[k].protos.length cv3, .slice Av4 x.med[k].formats.length cv4, .slice Av5 x.med[k].title.length cv5, .slice Av6 x.med[k].con.length cv6, .slice Av7 x.med[k].bw.length cv7, .slice Av8 x.med[k].key.length cv8, .slice Av9 x.med[k].atts.length cv9][j]? = some u → (wr.alloc (.cells #[.string x.med[k].name, .int .i64 x.med[k].port, .slice Av2 x.med[k].ports.length cv2, .slice Av3 x.med[k].protos.length cv3, .slice Av4 x.med[k].formats.length cv4, .slice Av5 x.med[k].title.length cv5, .slice Av6 x.med[k].con.length cv6, .slice Av7 x.med[k].bw.length cv7, .slice Av8 x.med[k].key.length cv8, .slice Av9 x.med[k].atts.length cv9] 54)).cell? ⟨wr.heap.size, j, Option.none⟩ = some u) := ⟨fun j u h => box_cells wr _ _ j u h⟩
                have HG := Bx.mk (blk_alloc hG.out (.cells #[.string x.med[k].name, .int .i64 x.med[k].port, .slice Av2 x.med[k].ports.length cv2, .slice Av3 x.med[k].protos.length cv3, .slice Av4 x.med[k].formats.length cv4, .slice Av5 x.med[k].title.length cv5, .slice Av6 x.med[k].con.length cv6, .slice Av7 x.med[k].bw.length cv7, .slice Av8 x.med[k].key.length cv8, .slice Av9 x.med[k].atts.length cv9] 54))
                have HO3 := Bx.mk (own_alloc hO.out (.cells #[.string x.med[k].name, .int .i64 x.med[k].port, .slice Av2 x.med[k].ports.length cv2, .slice Av3 x.med[k].protos.length cv3, .slice Av4 x.med[k].formats.length cv4, .slice Av5 x.med[k].title.length cv5, .slice Av6 x.med[k].con.length cv6, .slice Av7 x.med[k].bw.length cv7, .slice Av8 x.med[k].key.length cv8, .slice Av9 x.med[k].atts.length cv9] 54))
                have HKW := Bx.mk (hK.out.trans (Keep.alloc wr (.cells #[.string x.med[k].name, .int .i64 x.med[k].port, .slice Av2 x.med[k].ports.length cv2, .slice Av3 x.med[k].protos.length cv3, .slice Av4 x.med[k].formats.length cv4, .slice Av5 x.med[k].title.length cv5, .slice Av6 x.med[k].con.length cv6, .slice Av7 x.med[k].bw.length cv7, .slice Av8 x.med[k].key.length cv8, .slice Av9 x.med[k].atts.length cv9] 54)))
                have HB3 := Bx.mk (below_alloc hBW hBW.size (.cells #[.string x.med[k].name, .int .i64 x.med[k].port, .slice Av2 x.med[k].ports.length cv2, .slice Av3 x.med[k].protos.length cv3, .slice Av4 x.med[k].formats.length cv4, .slice Av5 x.med[k].title.length cv5, .slice Av6 x.med[k].con.length cv6, .slice Av7 x.med[k].bw.length cv7, .slice Av8 x.med[k].key.length cv8, .slice Av9 x.med[k].atts.length cv9] 54))
                clear hO hG hK hBW hBw
                have HL : Bx (k + 1 ≤ 2147483648) := ⟨by have : x.med.length ≤ 2147483647 := HF.out.2.2.2.2.2.2.2.2.2.2.2.2.1; omega⟩
                obtain ⟨W2, hW2⟩ : ∃ W2, W2 = wr.alloc (.cells #[.string x.med[k].name, .int .i64 x.med[k].port, .slice Av2 x.med[k].ports.length cv2, .slice Av3 x.med[k].protos.length cv3, .slice Av4 x.med[k].formats.length cv4, .slice Av5 x.med[k].title.length cv5, .slice Av6 x.med[k].con.length cv6, .slice Av7 x.med[k].bw.length cv7, .slice Av8 x.med[k].key.length cv8, .slice Av9 x.med[k].atts.length cv9] 54) := ⟨_, rfl⟩
                rw [← hW2] at HV2 HV3 HV4 HV5 HV6 HV7 HV8 HV9 HM HG HO3 HKW HB3
                have HWZ : Bx (w.heap.size ≤ W2.heap.size) := ⟨Nat.le_trans hwW HB3.out.size⟩
                have HE := Bx.mk hW2
                clear hW2
                go_upto_region 22 with fail
                rw [← HE.out]
                clear HE
                refine region_rule2 (by kernel_rfl) (by kernel_rfl) (by kernel_rfl) (fun f => #[.agg #[.int .i64 x.ver, .string x.user, .int .u64 x.id, .int .u64 x.ver2, .string x.net, .string x.addr, .string x.address, .string x.name, .slice A1 x.info.length c1, .slice A2 x.uri.length c2, .slice A3 x.email.length c3, .slice A4 x.phone.length c4, .slice A5 x.con.length c5, .slice A6 x.bw.length c6, .slice A7 x.tim.length c7, .slice A8 x.zon.length c8, .slice A9 x.key.length c9, .slice A10 x.atts.length c10, .slice (some ad) x.med.length c11], .pointer (some ⟨w.heap.size, 0, Option.none⟩), .pointer (some ⟨w.heap.size + 1, 0, Option.none⟩), .pointer (some ⟨w.heap.size + 1 + 1, 0, Option.none⟩), .pointer (some ⟨g, 0, Option.none⟩), undef, u6, u7, undef, u9, undef, u11, undef, .pointer (some ⟨wr.heap.size, 0, Option.none⟩), u14, u15, u16, u17, u18, u19, u20, u21, u22, u23, u24, u25, u26, u27, u28, u29, u30, u31, u32, u33, u34, u35, u36, u37, u38, u39, u40, u41, u42, u43, u44, u45, u46, u47, u48, u49, u50, u51, u52, .pointer (some ⟨w.heap.size, 14, Option.none⟩), .slice A7 x.tim.length c7, .int .i64 x.tim.length, .int .i64 x.tim.length, .bool false, u58, u59, u60, u61, u62, u63, u64, u65, u66, u67, u68, u69, u70, u71, u72, u73, u74, u75, u76, u77, u78, u79, u80, u81, u82, u83, u84, u85, u86, u87, u88, u89, u90, u91, .pointer (some ⟨w.heap.size, 15, Option.none⟩), .slice A8 x.zon.length c8, .int .i64 x.zon.length, .int .i64 x.zon.length, .bool false, u97, u98, u99, u100, u101, u102, u103, u104, u105, u106, u107, u108, u109, .pointer (some ⟨w.heap.size, 18, Option.none⟩), .slice (some ad) x.med.length c11, .int .i64 x.med.length, .int .i64 k, .bool true, .pointer (some (ad.add (k * 10))), .agg #[.string x.med[k].name, .int .i64 x.med[k].port, .slice Av2 x.med[k].ports.length cv2, .slice Av3 x.med[k].protos.length cv3, .slice Av4 x.med[k].formats.length cv4, .slice Av5 x.med[k].title.length cv5, .slice Av6 x.med[k].con.length cv6, .slice Av7 x.med[k].bw.length cv7, .slice Av8 x.med[k].key.length cv8, .slice Av9 x.med[k].atts.length cv9], f 117, f 118, f 119, f 120, f 121, f 122, f 123, f 124, f 125, f 126, f 127, f 128, f 129, f 130, f 131, f 132, f 133, f 134, f 135, f 136, f 137, f 138, f 139, f 140, f 141, f 142, f 143, f 144, f 145, u146, u147]) (fun f => by kernel_rfl) (fun i => match i with | 0 => some (.pointer (some ⟨g, 18, Option.none⟩)) | 1 => some (.slice A k c) | 2 => some (.pointer (some ⟨wr.heap.size, 0, Option.none⟩)) | 3 => some (.string x.med[k].name) | 4 => some (.pointer (some ⟨wr.heap.size, 1, Option.none⟩)) | 5 => some (.int .i64 x.med[k].port) | 6 => some (.pointer (some ⟨wr.heap.size, 2, Option.none⟩)) | 7 => some (.slice Av2 x.med[k].ports.length cv2) | 8 => some (.pointer (some ⟨wr.heap.size, 3, Option.none⟩)) | 9 => some (.slice Av3 x.med[k].protos.length cv3) | 10 => some (.pointer (some ⟨wr.heap.size, 4, Option.none⟩)) | 11 => some (.slice Av4 x.med[k].formats.length cv4) | 12 => some (.pointer (some ⟨wr.heap.size, 5, Option.none⟩)) | 13 => some (.slice Av5 x.med[k].title.length cv5) | 14 => some (.pointer (some ⟨wr.heap.size, 6, Option.none⟩)) | 15 => some (.slice Av6 x.med[k].con.length cv6) | 17 => some (.pointer (some ⟨wr.heap.size, 7, Option.none⟩)) | 18 => some (.slice Av7 x.med[k].bw.length cv7) | 20 => some (.pointer (some ⟨wr.heap.size, 8, Option.none⟩)) | 21 => some (.slice Av8 x.med[k].key.length cv8) | 22 => some (.pointer (some ⟨wr.heap.size, 9, Option.none⟩)) | 23 => some (.slice Av9 x.med[k].atts.length cv9) | 28 => some (.pointer (some ⟨g, 18, Option.none⟩)) | _ => Option.none) (fun d f w' => SpM D x.med[k] W2 (fun v133 v136 v141 => [.string x.med[k].name, .int .i64 x.med[k].port, .slice Av2 x.med[k].ports.length cv2, .slice Av3 x.med[k].protos.length cv3, .slice Av4 x.med[k].formats.length cv4, .slice Av5 x.med[k].title.length cv5, v133, v136, .slice Av8 x.med[k].key.length cv8, v141]) (fun v w' => ∃ A5 c5, v = .slice A5 (k + 1) c5 ∧ kMed.Own 89 w' wl.heap.size (fun b => D b ∨ wl.heap.size ≤ b) (.slice A5 (k + 1) c5) (x.med.take k ++ [x.med[k]]) ∧ Below W1.heap.size W1 w' ∧ Keep g wl w' ∧ w'.heap[g]? = some (.cells #[.int .i64 x.ver, .string x.user, .int .u64 x.id, .int .u64 x.ver2, .string x.net, .string x.addr, .string x.address, .string x.name, .slice A1 x.info.length c1, .slice A2 x.uri.length c2, .slice A3 x.email.length c3, .slice A4 x.phone.length c4, .slice B5 x.con.length d5, .slice B6 x.bw.length d6, .slice At x.tim.length ct, .slice Az x.zon.length cz, .slice A9 x.key.length c9, .slice B10 x.atts.length d10, .slice A k c] 44 (0, 0))) (fun w' => ∃ A5 c5, w'.heap[g]? = some (.cells #[.int .i64 x.ver, .string x.user, .int .u64 x.id, .int .u64 x.ver2, .string x.net, .string x.addr, .string x.address, .string x.name, .slice A1 x.info.length c1, .slice A2 x.uri.length c2, .slice A3 x.email.length c3, .slice A4 x.phone.length c4, .slice B5 x.con.length d5, .slice B6 x.bw.length d6, .slice At x.tim.length ct, .slice Az x.zon.length cz, .slice A9 x.key.length c9, .slice B10 x.atts.length d10, .slice A5 (k + 1) c5] 44 (0, 0)) ∧ kMed.Own 89 w' wl.heap.size (fun b => D b ∨ wl.heap.size ≤ b) (.slice A5 (k + 1) c5) (x.med.take (k + 1)) ∧ Keep g wl w') (d 16) (d 19) (d 24) (d 25) (d 26) (d 27) (d 29) (f 133) (f 136) (f 141) (f 142) (f 143) (f 144) w') ?_ ?_ ?_
                · exact ⟨fun _ => Below.drew (Below.refl _ _), fun _ h => (by cases h), fun _ h => (by cases h), fun _ h => (by cases h), fun h => (by cases h), fun h => (by cases h), fun h => (by cases h), fun h => (by cases h)⟩
                · intro i o ho d a wx hdi hdep hcl hfr hT hSp
                  match i, ho with
                  | 0, ho =>
                    rw [← Array.getElem?_toList] at ho
                    simp only [List.getElem?_cons_zero, Option.some.injEq] at ho
                    subst ho
                    have e4 : a.tmps[4]?.getD undef = .pointer (some ⟨g, 0, Option.none⟩) := (eval_tmp a 4).trans (hfr 4 (by decide +kernel))
                    clear hdi hdep hfr hT hcl
                    refine op_val rfl rfl (.pointer (some ⟨g, 18, Option.none⟩)) (fun K' hK => ?_) ⟨_, rfl, fun u hu => by cases hu; rfl, hSp⟩
                    clear hSp
                    go_simp
                    exact hK
                  | 1, ho =>
                    rw [← Array.getElem?_toList] at ho
                    simp only [List.getElem?_cons_zero, List.getElem?_cons_succ, Option.some.injEq] at ho
                    subst ho
                    have e117 := (eval_tmp a 117).trans (hT 0 _ 117 _ rfl rfl rfl (hdep _ (Array.mem_of_getElem? (i := 0) rfl) rfl))
                    have h27 : d 27 = false := not_yet hcl hdi (j := 27) (p := 0) rfl rfl rfl rfl
                    have c0 := cell_below (hSp.below h27) ((blk_cell HG.out 18).trans rfl)
                    clear hdi hdep hfr hT hcl
                    refine op_val rfl rfl (.slice A k c) (fun K' hK => ?_) ⟨_, rfl, fun u hu => by cases hu; rfl, hSp⟩
                    clear hSp
                    go_simp
                    exact hK
                  | 2, ho =>
                    rw [← Array.getElem?_toList] at ho
                    simp only [List.getElem?_cons_zero, List.getElem?_cons_succ, Option.some.injEq] at ho
                    subst ho
                    have e13 : a.tmps[13]?.getD undef = .pointer (some ⟨wr.heap.size, 0, Option.none⟩) := (eval_tmp a 13).trans (hfr 13 (by decide +kernel))
                    clear hdi hdep hfr hT hcl
                    refine op_val rfl rfl (.pointer (some ⟨wr.heap.size, 0, Option.none⟩)) (fun K' hK => ?_) ⟨_, rfl, fun u hu => by cases hu; rfl, hSp⟩
                    clear hSp
                    go_simp
                    exact hK
                  | 3, ho =>
                    rw [← Array.getElem?_toList] at ho
                    simp only [List.getElem?_cons_zero, List.getElem?_cons_succ, Option.some.injEq] at ho
                    subst ho
                    have e119 := (eval_tmp a 119).trans (hT 2 _ 119 _ rfl rfl rfl (hdep _ (Array.mem_of_getElem? (i := 0) rfl) rfl))
                    have h25 : d 25 = false := not_yet hcl hdi (j := 25) (p := 0) rfl rfl rfl rfl
                    have h26 : d 26 = false := not_yet hcl h25 (j := 26) (p := 0) rfl rfl rfl rfl
                    have h27 : d 27 = false := not_yet hcl h26 (j := 27) (p := 1) rfl rfl rfl rfl
                    have c0 := cell_below (hSp.below h27) (HM.out 0 _ rfl)
                    clear hdi hdep hfr hT hcl
                    refine op_val rfl rfl (.string x.med[k].name) (fun K' hK => ?_) ⟨_, rfl, fun u hu => by cases hu; rfl, hSp⟩
                    clear hSp
                    go_simp
                    exact hK
                  | 4, ho =>
                    rw [← Array.getElem?_toList] at ho
                    simp only [List.getElem?_cons_zero, List.getElem?_cons_succ, Option.some.injEq] at ho
                    subst ho
                    have e13 : a.tmps[13]?.getD undef = .pointer (some ⟨wr.heap.size, 0, Option.none⟩) := (eval_tmp a 13).trans (hfr 13 (by decide +kernel))
                    clear hdi hdep hfr hT hcl
                    refine op_val rfl rfl (.pointer (some ⟨wr.heap.size, 1, Option.none⟩)) (fun K' hK => ?_) ⟨_, rfl, fun u hu => by cases hu; rfl, hSp⟩
                    clear hSp
                    go_simp
                    exact hK
                  | 5, ho =>
                    rw [← Array.getElem?_toList] at ho
                    simp only [List.getElem?_cons_zero, List.getElem?_cons_succ, Option.some.injEq] at ho
                    subst ho
                    have e121 := (eval_tmp a 121).trans (hT 4 _ 121 _ rfl rfl rfl (hdep _ (Array.mem_of_getElem? (i := 0) rfl) rfl))
                    have h25 : d 25 = false := not_yet hcl hdi (j := 25) (p := 1) rfl rfl rfl rfl
                    have h26 : d 26 = false := not_yet hcl h25 (j := 26) (p := 0) rfl rfl rfl rfl
                    have h27 : d 27 = false := not_yet hcl h26 (j := 27) (p := 1) rfl rfl rfl rfl
                    have c0 := cell_below (hSp.below h27) (HM.out 1 _ rfl)
                    clear hdi hdep hfr hT hcl
                    refine op_val rfl rfl (.int .i64 x.med[k].port) (fun K' hK => ?_) ⟨_, rfl, fun u hu => by cases hu; rfl, hSp⟩
                    clear hSp
                    go_simp
                    exact hK
                  | 6, ho =>
                    rw [← Array.getElem?_toList] at ho
                    simp only [List.getElem?_cons_zero, List.getElem?_cons_succ, Option.some.injEq] at ho
                    subst ho
                    have e13 : a.tmps[13]?.getD undef = .pointer (some ⟨wr.heap.size, 0, Option.none⟩) := (eval_tmp a 13).trans (hfr 13 (by decide +kernel))
                    clear hdi hdep hfr hT hcl
                    refine op_val rfl rfl (.pointer (some ⟨wr.heap.size, 2, Option.none⟩)) (fun K' hK => ?_) ⟨_, rfl, fun u hu => by cases hu; rfl, hSp⟩
                    clear hSp
                    go_simp
                    exact hK
                  | 7, ho =>
                    rw [← Array.getElem?_toList] at ho
                    simp only [List.getElem?_cons_zero, List.getElem?_cons_succ, Option.some.injEq] at ho
                    subst ho
                    have e123 := (eval_tmp a 123).trans (hT 6 _ 123 _ rfl rfl rfl (hdep _ (Array.mem_of_getElem? (i := 0) rfl) rfl))
                    have h25 : d 25 = false := not_yet hcl hdi (j := 25) (p := 2) rfl rfl rfl rfl
                    have h26 : d 26 = false := not_yet hcl h25 (j := 26) (p := 0) rfl rfl rfl rfl
                    have h27 : d 27 = false := not_yet hcl h26 (j := 27) (p := 1) rfl rfl rfl rfl
                    have c0 := cell_below (hSp.below h27) (HM.out 2 _ rfl)
                    clear hdi hdep hfr hT hcl
                    refine op_val rfl rfl (.slice Av2 x.med[k].ports.length cv2) (fun K' hK => ?_) ⟨_, rfl, fun u hu => by cases hu; rfl, hSp⟩
                    clear hSp
                    go_simp
                    exact hK
                  | 8, ho =>
                    rw [← Array.getElem?_toList] at ho
                    simp only [List.getElem?_cons_zero, List.getElem?_cons_succ, Option.some.injEq] at ho
                    subst ho
                    have e13 : a.tmps[13]?.getD undef = .pointer (some ⟨wr.heap.size, 0, Option.none⟩) := (eval_tmp a 13).trans (hfr 13 (by decide +kernel))
                    clear hdi hdep hfr hT hcl
                    refine op_val rfl rfl (.pointer (some ⟨wr.heap.size, 3, Option.none⟩)) (fun K' hK => ?_) ⟨_, rfl, fun u hu => by cases hu; rfl, hSp⟩
                    clear hSp
                    go_simp
                    exact hK
                  | 9, ho =>
                    rw [← Array.getElem?_toList] at ho
                    simp only [List.getElem?_cons_zero, List.getElem?_cons_succ, Option.some.injEq] at ho
                    subst ho
                    have e125 := (eval_tmp a 125).trans (hT 8 _ 125 _ rfl rfl rfl (hdep _ (Array.mem_of_getElem? (i := 0) rfl) rfl))
                    have h25 : d 25 = false := not_yet hcl hdi (j := 25) (p := 3) rfl rfl rfl rfl
                    have h26 : d 26 = false := not_yet hcl h25 (j := 26) (p := 0) rfl rfl rfl rfl
                    have h27 : d 27 = false := not_yet hcl h26 (j := 27) (p := 1) rfl rfl rfl rfl
                    have c0 := cell_below (hSp.below h27) (HM.out 3 _ rfl)
                    clear hdi hdep hfr hT hcl
                    refine op_val rfl rfl (.slice Av3 x.med[k].protos.length cv3) (fun K' hK => ?_) ⟨_, rfl, fun u hu => by cases hu; rfl, hSp⟩
                    clear hSp
                    go_simp
                    exact hK
                  | 10, ho =>
                    rw [← Array.getElem?_toList] at ho
                    simp only [List.getElem?_cons_zero, List.getElem?_cons_succ, Option.some.injEq] at ho
                    subst ho
                    have e13 : a.tmps[13]?.getD undef = .pointer (some ⟨wr.heap.size, 0, Option.none⟩) := (eval_tmp a 13).trans (hfr 13 (by decide +kernel))
                    clear hdi hdep hfr hT hcl
                    refine op_val rfl rfl (.pointer (some ⟨wr.heap.size, 4, Option.none⟩)) (fun K' hK => ?_) ⟨_, rfl, fun u hu => by cases hu; rfl, hSp⟩
                    clear hSp
                    go_simp
                    exact hK
                  | 11, ho =>
                    rw [← Array.getElem?_toList] at ho
                    simp only [List.getElem?_cons_zero, List.getElem?_cons_succ, Option.some.injEq] at ho
                    subst ho
                    have e127 := (eval_tmp a 127).trans (hT 10 _ 127 _ rfl rfl rfl (hdep _ (Array.mem_of_getElem? (i := 0) rfl) rfl))
                    have h25 : d 25 = false := not_yet hcl hdi (j := 25) (p := 4) rfl rfl rfl rfl
                    have h26 : d 26 = false := not_yet hcl h25 (j := 26) (p := 0) rfl rfl rfl rfl
                    have h27 : d 27 = false := not_yet hcl h26 (j := 27) (p := 1) rfl rfl rfl rfl
                    have c0 := cell_below (hSp.below h27) (HM.out 4 _ rfl)
                    clear hdi hdep hfr hT hcl
                    refine op_val rfl rfl (.slice Av4 x.med[k].formats.length cv4) (fun K' hK => ?_) ⟨_, rfl, fun u hu => by cases hu; rfl, hSp⟩
                    clear hSp
                    go_simp
                    exact hK
                  | 12, ho =>
                    rw [← Array.getElem?_toList] at ho
                    simp only [List.getElem?_cons_zero, List.getElem?_cons_succ, Option.some.injEq] at ho
                    subst ho
                    have e13 : a.tmps[13]?.getD undef = .pointer (some ⟨wr.heap.size, 0, Option.none⟩) := (eval_tmp a 13).trans (hfr 13 (by decide +kernel))
                    clear hdi hdep hfr hT hcl
                    refine op_val rfl rfl (.pointer (some ⟨wr.heap.size, 5, Option.none⟩)) (fun K' hK => ?_) ⟨_, rfl, fun u hu => by cases hu; rfl, hSp⟩
                    clear hSp
                    go_simp
                    exact hK
                  | 13, ho =>
                    rw [← Array.getElem?_toList] at ho
                    simp only [List.getElem?_cons_zero, List.getElem?_cons_succ, Option.some.injEq] at ho
                    subst ho
                    have e129 := (eval_tmp a 129).trans (hT 12 _ 129 _ rfl rfl rfl (hdep _ (Array.mem_of_getElem? (i := 0) rfl) rfl))
                    have h25 : d 25 = false := not_yet hcl hdi (j := 25) (p := 5) rfl rfl rfl rfl
                    have h26 : d 26 = false := not_yet hcl h25 (j := 26) (p := 0) rfl rfl rfl rfl
                    have h27 : d 27 = false := not_yet hcl h26 (j := 27) (p := 1) rfl rfl rfl rfl
                    have c0 := cell_below (hSp.below h27) (HM.out 5 _ rfl)
                    clear hdi hdep hfr hT hcl
                    refine op_val rfl rfl (.slice Av5 x.med[k].title.length cv5) (fun K' hK => ?_) ⟨_, rfl, fun u hu => by cases hu; rfl, hSp⟩
                    clear hSp
                    go_simp
                    exact hK
                  | 14, ho =>
                    rw [← Array.getElem?_toList] at ho
                    simp only [List.getElem?_cons_zero, List.getElem?_cons_succ, Option.some.injEq] at ho
                    subst ho
                    have e13 : a.tmps[13]?.getD undef = .pointer (some ⟨wr.heap.size, 0, Option.none⟩) := (eval_tmp a 13).trans (hfr 13 (by decide +kernel))
                    clear hdi hdep hfr hT hcl
                    refine op_val rfl rfl (.pointer (some ⟨wr.heap.size, 6, Option.none⟩)) (fun K' hK => ?_) ⟨_, rfl, fun u hu => by cases hu; rfl, hSp⟩
                    clear hSp
                    go_simp
                    exact hK
                  | 15, ho =>
                    rw [← Array.getElem?_toList] at ho
                    simp only [List.getElem?_cons_zero, List.getElem?_cons_succ, Option.some.injEq] at ho
                    subst ho
                    have e131 := (eval_tmp a 131).trans (hT 14 _ 131 _ rfl rfl rfl (hdep _ (Array.mem_of_getElem? (i := 0) rfl) rfl))
                    have h16 : d 16 = false := not_yet hcl hdi (j := 16) (p := 0) rfl rfl rfl rfl
                    have h25 : d 25 = false := not_yet hcl h16 (j := 25) (p := 6) rfl rfl rfl rfl
                    have h26 : d 26 = false := not_yet hcl h25 (j := 26) (p := 0) rfl rfl rfl rfl
                    have h27 : d 27 = false := not_yet hcl h26 (j := 27) (p := 1) rfl rfl rfl rfl
                    have c0 := cell_below (hSp.below h27) (HM.out 6 _ rfl)
                    clear hdi hdep hfr hT hcl
                    refine op_val rfl rfl (.slice Av6 x.med[k].con.length cv6) (fun K' hK => ?_) ⟨_, rfl, fun u hu => by cases hu; rfl, hSp⟩
                    clear hSp
                    go_simp
                    exact hK
                  | 16, ho =>
                    rw [← Array.getElem?_toList] at ho
                    simp only [List.getElem?_cons_zero, List.getElem?_cons_succ, Option.some.injEq] at ho
                    subst ho
                    have e132 := (eval_tmp a 132).trans (hT 15 _ 132 _ rfl rfl rfl (hdep _ (Array.mem_of_getElem? (i := 0) rfl) rfl))
                    have h25 : d 25 = false := not_yet hcl hdi (j := 25) (p := 6) rfl rfl rfl rfl
                    have h26 : d 26 = false := not_yet hcl h25 (j := 26) (p := 0) rfl rfl rfl rfl
                    have h27 : d 27 = false := not_yet hcl h26 (j := 27) (p := 1) rfl rfl rfl rfl
                    have h29 : d 29 = false := not_yet hcl h27 (j := 29) (p := 1) rfl rfl rfl rfl
                    clear hdi hdep hfr hT hcl
                    simp only [h25, h26, h27, h29] at hSp
                    refine op_gen rfl rfl (fun v w' => Below wx.heap.size wx w' ∧ (∃ B c, v = .slice B x.med[k].con.length c) ∧ kCon.SV (fun b => D b ∨ wx.heap.size ≤ b) w' v x.med[k].con) (fun K' hK => ?_) (fun v w' hG => ⟨_, rfl, fun u hu => (by cases hu), ?_⟩)
                    · have hsv := Bx.mk (HV6.out.step (by decide) (hSp.below rfl))
                      have hlt2 := Bx.mk (Nat.le_trans HWZ.out (hSp.below rfl).size)
                      have hK' := Bx.mk hK
                      clear hSp h25 h26 h27 h29 hK
                      go_simp
                      refine (lcons _ _ D _ hsv.out (fun b hb => Nat.lt_of_lt_of_le (HD.out b hb) hlt2.out) (HF.out.2.2.2.2.2.2.2.2.2.2.2.2.2 _ (List.getElem_mem hlt)).2.2.2.2.2.1).mono ?_
                      rintro e w2 ⟨hb, B, c, rfl, hv⟩
                      exact hK'.out _ _ ⟨hb, ⟨B, c, rfl⟩, hv⟩
                    · have := hSp.conStep hG.1 hG.2
                      simp only [← h25] at this
                      simpa [upd_if, upd_none, h25, h26, h27, h29] using this
                  | 17, ho =>
                    rw [← Array.getElem?_toList] at ho
                    simp only [List.getElem?_cons_zero, List.getElem?_cons_succ, Option.some.injEq] at ho
                    subst ho
                    have e13 : a.tmps[13]?.getD undef = .pointer (some ⟨wr.heap.size, 0, Option.none⟩) := (eval_tmp a 13).trans (hfr 13 (by decide +kernel))
                    clear hdi hdep hfr hT hcl
                    refine op_val rfl rfl (.pointer (some ⟨wr.heap.size, 7, Option.none⟩)) (fun K' hK => ?_) ⟨_, rfl, fun u hu => by cases hu; rfl, hSp⟩
                    clear hSp
                    go_simp
                    exact hK
                  | 18, ho =>
                    rw [← Array.getElem?_toList] at ho
                    simp only [List.getElem?_cons_zero, List.getElem?_cons_succ, Option.some.injEq] at ho
                    subst ho
                    have e134 := (eval_tmp a 134).trans (hT 17 _ 134 _ rfl rfl rfl (hdep _ (Array.mem_of_getElem? (i := 0) rfl) rfl))
                    have h19 : d 19 = false := not_yet hcl hdi (j := 19) (p := 0) rfl rfl rfl rfl
                    have h25 : d 25 = false := not_yet hcl h19 (j := 25) (p := 7) rfl rfl rfl rfl
                    have h26 : d 26 = false := not_yet hcl h25 (j := 26) (p := 0) rfl rfl rfl rfl
                    have h27 : d 27 = false := not_yet hcl h26 (j := 27) (p := 1) rfl rfl rfl rfl
                    have c0 := cell_below (hSp.below h27) (HM.out 7 _ rfl)
                    clear hdi hdep hfr hT hcl
                    refine op_val rfl rfl (.slice Av7 x.med[k].bw.length cv7) (fun K' hK => ?_) ⟨_, rfl, fun u hu => by cases hu; rfl, hSp⟩
                    clear hSp
                    go_simp
                    exact hK
                  | 19, ho =>
                    rw [← Array.getElem?_toList] at ho
                    simp only [List.getElem?_cons_zero, List.getElem?_cons_succ, Option.some.injEq] at ho
                    subst ho
                    have e135 := (eval_tmp a 135).trans (hT 18 _ 135 _ rfl rfl rfl (hdep _ (Array.mem_of_getElem? (i := 0) rfl) rfl))
                    have h25 : d 25 = false := not_yet hcl hdi (j := 25) (p := 7) rfl rfl rfl rfl
                    have h26 : d 26 = false := not_yet hcl h25 (j := 26) (p := 0) rfl rfl rfl rfl
                    have h27 : d 27 = false := not_yet hcl h26 (j := 27) (p := 1) rfl rfl rfl rfl
                    have h29 : d 29 = false := not_yet hcl h27 (j := 29) (p := 1) rfl rfl rfl rfl
                    clear hdi hdep hfr hT hcl
                    simp only [h25, h26, h27, h29] at hSp
                    refine op_gen rfl rfl (fun v w' => Below wx.heap.size wx w' ∧ (∃ B c, v = .slice B x.med[k].bw.length c) ∧ kBw.SV (fun b => D b ∨ wx.heap.size ≤ b) w' v x.med[k].bw) (fun K' hK => ?_) (fun v w' hG => ⟨_, rfl, fun u hu => (by cases hu), ?_⟩)
                    · have hsv := Bx.mk (HV7.out.step (by decide) (hSp.below rfl))
                      have hlt2 := Bx.mk (Nat.le_trans HWZ.out (hSp.below rfl).size)
                      have hK' := Bx.mk hK
                      clear hSp h25 h26 h27 h29 hK
                      go_simp
                      refine (lbws _ _ D _ hsv.out (HF.out.2.2.2.2.2.2.2.2.2.2.2.2.2 _ (List.getElem_mem hlt)).2.2.2.2.2.2.1.1).mono ?_
                      rintro e w2 ⟨hb, B, c, rfl, hv⟩
                      exact hK'.out _ _ ⟨hb, ⟨B, c, rfl⟩, hv.mono fun _ h => .inr h⟩
                    · have := hSp.bwStep hG.1 hG.2
                      simp only [← h25] at this
                      simpa [upd_if, upd_none, h25, h26, h27, h29] using this
                  | 20, ho =>
                    rw [← Array.getElem?_toList] at ho
                    simp only [List.getElem?_cons_zero, List.getElem?_cons_succ, Option.some.injEq] at ho
                    subst ho
                    have e13 : a.tmps[13]?.getD undef = .pointer (some ⟨wr.heap.size, 0, Option.none⟩) := (eval_tmp a 13).trans (hfr 13 (by decide +kernel))
                    clear hdi hdep hfr hT hcl
                    refine op_val rfl rfl (.pointer (some ⟨wr.heap.size, 8, Option.none⟩)) (fun K' hK => ?_) ⟨_, rfl, fun u hu => by cases hu; rfl, hSp⟩
                    clear hSp
                    go_simp
                    exact hK
                  | 21, ho =>
                    rw [← Array.getElem?_toList] at ho
                    simp only [List.getElem?_cons_zero, List.getElem?_cons_succ, Option.some.injEq] at ho
                    subst ho
                    have e137 := (eval_tmp a 137).trans (hT 20 _ 137 _ rfl rfl rfl (hdep _ (Array.mem_of_getElem? (i := 0) rfl) rfl))
                    have h25 : d 25 = false := not_yet hcl hdi (j := 25) (p := 8) rfl rfl rfl rfl
                    have h26 : d 26 = false := not_yet hcl h25 (j := 26) (p := 0) rfl rfl rfl rfl
                    have h27 : d 27 = false := not_yet hcl h26 (j := 27) (p := 1) rfl rfl rfl rfl
                    have c0 := cell_below (hSp.below h27) (HM.out 8 _ rfl)
                    clear hdi hdep hfr hT hcl
                    refine op_val rfl rfl (.slice Av8 x.med[k].key.length cv8) (fun K' hK => ?_) ⟨_, rfl, fun u hu => by cases hu; rfl, hSp⟩
                    clear hSp
                    go_simp
                    exact hK
                  | 22, ho =>
                    rw [← Array.getElem?_toList] at ho
                    simp only [List.getElem?_cons_zero, List.getElem?_cons_succ, Option.some.injEq] at ho
                    subst ho
                    have e13 : a.tmps[13]?.getD undef = .pointer (some ⟨wr.heap.size, 0, Option.none⟩) := (eval_tmp a 13).trans (hfr 13 (by decide +kernel))
                    clear hdi hdep hfr hT hcl
                    refine op_val rfl rfl (.pointer (some ⟨wr.heap.size, 9, Option.none⟩)) (fun K' hK => ?_) ⟨_, rfl, fun u hu => by cases hu; rfl, hSp⟩
                    clear hSp
                    go_simp
                    exact hK
                  | 23, ho =>
                    rw [← Array.getElem?_toList] at ho
                    simp only [List.getElem?_cons_zero, List.getElem?_cons_succ, Option.some.injEq] at ho
                    subst ho
                    have e139 := (eval_tmp a 139).trans (hT 22 _ 139 _ rfl rfl rfl (hdep _ (Array.mem_of_getElem? (i := 0) rfl) rfl))
                    have h24 : d 24 = false := not_yet hcl hdi (j := 24) (p := 0) rfl rfl rfl rfl
                    have h25 : d 25 = false := not_yet hcl h24 (j := 25) (p := 9) rfl rfl rfl rfl
                    have h26 : d 26 = false := not_yet hcl h25 (j := 26) (p := 0) rfl rfl rfl rfl
                    have h27 : d 27 = false := not_yet hcl h26 (j := 27) (p := 1) rfl rfl rfl rfl
                    have c0 := cell_below (hSp.below h27) (HM.out 9 _ rfl)
                    clear hdi hdep hfr hT hcl
                    refine op_val rfl rfl (.slice Av9 x.med[k].atts.length cv9) (fun K' hK => ?_) ⟨_, rfl, fun u hu => by cases hu; rfl, hSp⟩
                    clear hSp
                    go_simp
                    exact hK
                  | 24, ho =>
                    rw [← Array.getElem?_toList] at ho
                    simp only [List.getElem?_cons_zero, List.getElem?_cons_succ, Option.some.injEq] at ho
                    subst ho
                    have e140 := (eval_tmp a 140).trans (hT 23 _ 140 _ rfl rfl rfl (hdep _ (Array.mem_of_getElem? (i := 0) rfl) rfl))
                    have h25 : d 25 = false := not_yet hcl hdi (j := 25) (p := 9) rfl rfl rfl rfl
                    have h26 : d 26 = false := not_yet hcl h25 (j := 26) (p := 0) rfl rfl rfl rfl
                    have h27 : d 27 = false := not_yet hcl h26 (j := 27) (p := 1) rfl rfl rfl rfl
                    have h29 : d 29 = false := not_yet hcl h27 (j := 29) (p := 1) rfl rfl rfl rfl
                    clear hdi hdep hfr hT hcl
                    simp only [h25, h26, h27, h29] at hSp
                    refine op_gen rfl rfl (fun v w' => Below wx.heap.size wx w' ∧ (∃ B c, v = .slice B x.med[k].atts.length c) ∧ kAtt.SV (fun b => D b ∨ wx.heap.size ≤ b) w' v x.med[k].atts) (fun K' hK => ?_) (fun v w' hG => ⟨_, rfl, fun u hu => (by cases hu), ?_⟩)
                    · have hsv := Bx.mk (HV9.out.step (by decide) (hSp.below rfl))
                      have hlt2 := Bx.mk (Nat.le_trans HWZ.out (hSp.below rfl).size)
                      have hK' := Bx.mk hK
                      clear hSp h25 h26 h27 h29 hK
                      go_simp
                      refine (latts _ _ D _ hsv.out (HF.out.2.2.2.2.2.2.2.2.2.2.2.2.2 _ (List.getElem_mem hlt)).2.2.2.2.2.2.2.2.1).mono ?_
                      rintro e w2 ⟨hb, B, c, rfl, hv⟩
                      exact hK'.out _ _ ⟨hb, ⟨B, c, rfl⟩, hv.mono fun _ h => .inr h⟩
                    · have := hSp.attStep hG.1 hG.2
                      simp only [← h25] at this
                      simpa [upd_if, upd_none, h25, h26, h27, h29] using this
                  | 25, ho =>
                    rw [← Array.getElem?_toList] at ho
                    simp only [List.getElem?_cons_zero, List.getElem?_cons_succ, Option.some.injEq] at ho
                    subst ho
                    have e120 := (eval_tmp a 120).trans (hT 3 _ 120 _ rfl rfl rfl (hdep _ (Array.mem_of_getElem? (i := 0) rfl) rfl))
                    have e122 := (eval_tmp a 122).trans (hT 5 _ 122 _ rfl rfl rfl (hdep _ (Array.mem_of_getElem? (i := 1) rfl) rfl))
                    have e124 := (eval_tmp a 124).trans (hT 7 _ 124 _ rfl rfl rfl (hdep _ (Array.mem_of_getElem? (i := 2) rfl) rfl))
                    have e126 := (eval_tmp a 126).trans (hT 9 _ 126 _ rfl rfl rfl (hdep _ (Array.mem_of_getElem? (i := 3) rfl) rfl))
                    have e128 := (eval_tmp a 128).trans (hT 11 _ 128 _ rfl rfl rfl (hdep _ (Array.mem_of_getElem? (i := 4) rfl) rfl))
                    have e130 := (eval_tmp a 130).trans (hT 13 _ 130 _ rfl rfl rfl (hdep _ (Array.mem_of_getElem? (i := 5) rfl) rfl))
                    have e138 := (eval_tmp a 138).trans (hT 21 _ 138 _ rfl rfl rfl (hdep _ (Array.mem_of_getElem? (i := 8) rfl) rfl))
                    have h26 : d 26 = false := not_yet hcl hdi (j := 26) (p := 0) rfl rfl rfl rfl
                    have h27 : d 27 = false := not_yet hcl h26 (j := 27) (p := 1) rfl rfl rfl rfl
                    have h29 : d 29 = false := not_yet hcl h27 (j := 29) (p := 1) rfl rfl rfl rfl
                    have h16 : d 16 = true := (hdep _ (Array.mem_of_getElem? (i := 6) rfl) rfl)
                    have h19 : d 19 = true := (hdep _ (Array.mem_of_getElem? (i := 7) rfl) rfl)
                    have h24 : d 24 = true := (hdep _ (Array.mem_of_getElem? (i := 9) rfl) rfl)
                    clear hdep hfr hT hcl
                    obtain ⟨B6', d6', q6⟩ := (hSp.con h26 h16).1
                    obtain ⟨B7', d7', q7⟩ := (hSp.bw h26 h19).1
                    obtain ⟨B9', d9', q9⟩ := (hSp.att h26 h24).1
                    have q6' := (eval_tmp a 133).trans q6
                    have q7' := (eval_tmp a 136).trans q7
                    have q9' := (eval_tmp a 141).trans q9
                    refine op_val rfl rfl (.agg #[.string x.med[k].name, .int .i64 x.med[k].port, .slice Av2 x.med[k].ports.length cv2, .slice Av3 x.med[k].protos.length cv3, .slice Av4 x.med[k].formats.length cv4, .slice Av5 x.med[k].title.length cv5, .slice B6' x.med[k].con.length d6', .slice B7' x.med[k].bw.length d7', .slice Av8 x.med[k].key.length cv8, .slice B9' x.med[k].atts.length d9']) (fun K' hK => ?_) ⟨_, rfl, fun u hu => (by cases hu), ?_⟩
                    · clear hSp h16 h19 h24 h26 h27 h29
                      go_simp
                      exact hK
                    · simp only [h26, h27, h29] at hSp
                      have := hSp.buildStep
                      simp only [q6, q7, q9] at this
                      simpa [upd_if, upd_none, h26, h27, h29, q6, q7, q9] using this
                  | 26, ho =>
                    rw [← Array.getElem?_toList] at ho
                    simp only [List.getElem?_cons_zero, List.getElem?_cons_succ, Option.some.injEq] at ho
                    subst ho
                    have h27 : d 27 = false := not_yet hcl hdi (j := 27) (p := 1) rfl rfl rfl rfl
                    have h29 : d 29 = false := not_yet hcl h27 (j := 29) (p := 1) rfl rfl rfl rfl
                    have h25 : d 25 = true := (hdep _ (Array.mem_of_getElem? (i := 0) rfl) rfl)
                    have h16 : d 16 = true := hcl 25 _ rfl h25 _ (Array.mem_of_getElem? (i := 6) rfl) rfl
                    have h19 : d 19 = true := hcl 25 _ rfl h25 _ (Array.mem_of_getElem? (i := 7) rfl) rfl
                    have h24 : d 24 = true := hcl 25 _ rfl h25 _ (Array.mem_of_getElem? (i := 9) rfl) rfl
                    clear hdep hfr hT hcl
                    obtain ⟨⟨B6', d6', q6⟩, s6⟩ := hSp.con hdi h16
                    obtain ⟨⟨B7', d7', q7⟩, s7⟩ := hSp.bw hdi h19
                    obtain ⟨⟨B9', d9', q9⟩, s9⟩ := hSp.att hdi h24
                    have hbx := hSp.below h27
                    have q142 := hSp.build h25
                    have hst := hSp
                    simp only [hdi, h27, h29] at hst
                    have hst := hst.rowStep (kMed_mk x.med[k] ((HV2.out.step (by decide) hbx).mono fun _ h => .inl h) ((HV3.out.step (by decide) hbx).mono fun _ h => .inl h) ((HV4.out.step (by decide) hbx).mono fun _ h => .inl h) ((HV5.out.step (by decide) hbx).mono fun _ h => .inl h) s6 s7 ((HV8.out.step (by decide) hbx).mono fun _ h => .inl h) s9)
                    have q142' := (eval_tmp a 142).trans q142
                    simp only [q6, q7, q9] at q142'
                    refine op_gen rfl rfl (fun v w' => v = .slice (some ⟨wx.heap.size, 0, Option.none⟩) 1 1 ∧ w' = wx.alloc (.cells ([.string x.med[k].name, .int .i64 x.med[k].port, .slice Av2 x.med[k].ports.length cv2, .slice Av3 x.med[k].protos.length cv3, .slice Av4 x.med[k].formats.length cv4, .slice Av5 x.med[k].title.length cv5, .slice B6' x.med[k].con.length d6', .slice B7' x.med[k].bw.length d7', .slice Av8 x.med[k].key.length cv8, .slice B9' x.med[k].atts.length d9'] : List Value).toArray 89)) (fun K' hK => ?_) (fun v w' hG => ⟨_, rfl, fun u hu => (by cases hu), ?_⟩)
                    · clear hSp h16 h19 h24 h25 h27 h29 hst hbx s6 s7 s9
                      go_simp
                      exact hK _ _ ⟨rfl, rfl⟩
                    · obtain ⟨rfl, rfl⟩ := hG
                      simp only [q6, q7, q9] at hst
                      simpa [upd_if, upd_none, hdi, h27, h29, q6, q7, q9] using hst
                  | 27, ho =>
                    rw [← Array.getElem?_toList] at ho
                    simp only [List.getElem?_cons_zero, List.getElem?_cons_succ, Option.some.injEq] at ho
                    subst ho
                    have e118 := (eval_tmp a 118).trans (hT 1 _ 118 _ rfl rfl rfl (hdep _ (Array.mem_of_getElem? (i := 0) rfl) rfl))
                    have h29 : d 29 = false := not_yet hcl hdi (j := 29) (p := 1) rfl rfl rfl rfl
                    have h26 : d 26 = true := (hdep _ (Array.mem_of_getElem? (i := 1) rfl) rfl)
                    clear hdep hfr hT hcl
                    obtain ⟨Wp, hWp, q143, hbp, hkp⟩ := hSp.row h26 hdi
                    refine op_gen rfl rfl (fun v w' => ∃ A5 c5, v = .slice A5 (k + 1) c5 ∧ kMed.Own 89 w' wl.heap.size (fun b => D b ∨ wl.heap.size ≤ b) (.slice A5 (k + 1) c5) (x.med.take k ++ [x.med[k]]) ∧ Below W1.heap.size W1 w' ∧ Keep g wl w' ∧ w'.heap[g]? = some (.cells #[.int .i64 x.ver, .string x.user, .int .u64 x.id, .int .u64 x.ver2, .string x.net, .string x.addr, .string x.address, .string x.name, .slice A1 x.info.length c1, .slice A2 x.uri.length c2, .slice A3 x.email.length c3, .slice A4 x.phone.length c4, .slice B5 x.con.length d5, .slice B6 x.bw.length d6, .slice At x.tim.length ct, .slice Az x.zon.length cz, .slice A9 x.key.length c9, .slice B10 x.atts.length d10, .slice A k c] 44 (0, 0))) (fun K' hK => ?_) (fun v w' hG => ⟨_, rfl, fun u hu => (by cases hu), ?_⟩)
                    · subst hWp
                      have hkG := HKW.out.trans (Keep.ofBelow hbp)
                      have hgp := heap_below hbp HG.out
                      have HO4 := Bx.mk (HO3.out.step (w' := Wp) fun b _ hb => hbp.block b hb)
                      have HB4 := Bx.mk (HB3.out.trans (hbp.mono HB3.out.size))
                      have HK4 : Bx (kMed.K (fun b => (D b ∨ wl.heap.size ≤ b) ∧ some b ≠ (Value.slice A k c).ownBlock) Wp x.med[k] _) := ⟨kMed.mono (fun b hb => ⟨by rcases hb with hb | hb; exact .inl hb; exact .inr (Nat.le_trans HKW.out.size hb), fun e => by have h1 := HO3.out.lt b e.symm; rcases hb with hb | hb; (have := HD.out b hb; omega); omega⟩) hkp⟩
                      refine oper_of_list (ops := #[]) rfl (fun Q' hQ' => app_row kMed (w := W1) _ rfl _ _ 42 89 _ 216 rfl Tryz.underlying42 info89 rfl (by decide) (by decide) (by decide) (.slice A k c) (x.med.take k) x.med[k] _ k (List.length_take_of_le hk) _ ((eval_tmp a 118).symm.trans e118) q143 rfl HK4 HO4 HB4 hW1i (Nat.le_trans HKW.out.size hbp.size) (fun _ h => .inr h) HL.out (fun A5 c5 w5 HO5 HB5 HG5 => wpList_nil (hQ' _ _ (hK _ _ ⟨A5, c5, rfl, HO5.out, HB5.out, keep_grown hkG HG5.out (fun b hb => (HO4.out.lt b hb).1), blk_grown hgp HG5.out (fun b hb => by have := (HO4.out.lt b hb).1; omega)⟩))))
                    · simp only [h26, hdi, h29] at hSp
                      have := hSp.appStep hG
                      simpa [upd_if, upd_none, h26, hdi, h29] using this
                  | 28, ho =>
                    rw [← Array.getElem?_toList] at ho
                    simp only [List.getElem?_cons_zero, List.getElem?_cons_succ, Option.some.injEq] at ho
                    subst ho
                    have e4 : a.tmps[4]?.getD undef = .pointer (some ⟨g, 0, Option.none⟩) := (eval_tmp a 4).trans (hfr 4 (by decide +kernel))
                    clear hdi hdep hfr hT hcl
                    refine op_val rfl rfl (.pointer (some ⟨g, 18, Option.none⟩)) (fun K' hK => ?_) ⟨_, rfl, fun u hu => by cases hu; rfl, hSp⟩
                    clear hSp
                    go_simp
                    exact hK
                  | 29, ho =>
                    rw [← Array.getElem?_toList] at ho
                    simp only [List.getElem?_cons_zero, List.getElem?_cons_succ, Option.some.injEq] at ho
                    subst ho
                    have e145 := (eval_tmp a 145).trans (hT 28 _ 145 _ rfl rfl rfl (hdep _ (Array.mem_of_getElem? (i := 0) rfl) rfl))
                    have h26 : d 26 = true := hcl 27 _ rfl (hdep _ (Array.mem_of_getElem? (i := 1) rfl) rfl) _ (Array.mem_of_getElem? (i := 1) rfl) rfl
                    have h27 : d 27 = true := (hdep _ (Array.mem_of_getElem? (i := 1) rfl) rfl)
                    clear hdep hfr hT hcl
                    obtain ⟨A5, c5, q144, hO5, hB5, hK5, hG5⟩ := hSp.app h27 hdi
                    have q144' := (eval_tmp a 144).trans q144
                    have hg5 : wx.cell? ⟨g, 18, Option.none⟩ = some (.slice A k c) := by rw [blk_cell hG5]; rfl
                    have hf5 := blk_frozen hG5 18
                    refine op_gen rfl rfl (fun v w' => v = undef ∧ w' = wx.setCell ⟨g, 18, Option.none⟩ (.slice A5 (k + 1) c5)) (fun K' hK => ?_) (fun v w' hG => ⟨_, rfl, fun u hu => (by cases hu), ?_⟩)
                    · have hO' := Bx.mk hO5
                      have hG' := Bx.mk hG5
                      have hB' := Bx.mk hB5
                      have hK'' := Bx.mk hK5
                      clear hSp h26 h27 hO5 hG5 hB5 hK5
                      go_simp
                      exact hK _ _ ⟨rfl, rfl⟩
                    · obtain ⟨rfl, rfl⟩ := hG
                      simp only [h26, h27, hdi] at hSp
                      have hO6 : kMed.Own 89 (wx.setCell ⟨g, 18, Option.none⟩ (.slice A5 (k + 1) c5)) wl.heap.size (fun b => D b ∨ wl.heap.size ≤ b) (.slice A5 (k + 1) c5) (x.med.take k ++ [x.med[k]]) := hO5.step fun b hF _ => Below.heap_setCell _ _ _ _ (by rcases hF with hF | hF; (have := hDg b hF; show b ≠ g; omega); (show b ≠ g; omega))
                      rw [take_snoc] at hO6
                      have := hSp.storeStep (w' := wx.setCell ⟨g, 18, Option.none⟩ (.slice A5 (k + 1) c5)) ⟨A5, c5, blk_set hG5 18 _, hO6, hK5.trans (Keep.set _)⟩
                      simpa [upd_if, upd_none, h26, h27, hdi] using this
                  | n + 30, ho => cases ho
                · intro d f wx hall hT hSp
                  obtain ⟨A5, c5, hG5, hO5, hK5⟩ := hSp.fin (hall 29 (by decide))
                  have HG5 := Bx.mk hG5
                  have HO5 := Bx.mk hO5
                  have HK5 := Bx.mk hK5
                  clear hT hSp hall hG5 hO5 hK5
                  dsimp only
                  go_wp2
                  go_roundw
                  case rel => exact ⟨k + 1, A5, c5, by omega, by go_num, HG5, HO5, HK5⟩
                  case measure => simp [intOf]; omega
              · obtain rfl : k = x.med.length := by omega
                have hR := hO.out.reads
                rw [List.take_length] at hR
                have hBW := HBL.out.trans (hK.out.below HBL.out.size hg1)
                have hzi := hK.out.size
                replace HR5 := Bx.mk (HR5.out.keep (by decide) (fun b hb => hb.2) hK.out)
                replace HR6 := Bx.mk (HR6.out.keep (by decide) (fun b hb => hb.2) hK.out)
                replace HR10 := Bx.mk (HR10.out.keep (by decide) (fun b hb => hb.2) hK.out)
                replace HR7 := Bx.mk (HR7.out.keep (by decide) (fun b hb => hb.2) hK.out)
                replace HR8 := Bx.mk (HR8.out.keep (by decide) (fun b hb => hb.2) hK.out)
                have HR11 := Bx.mk hR
                have HBL2 := Bx.mk hBW
                have HZ2 := heap_below hBW HZ.out
                have HG := hG
                clear hO hR hK hBW hG hzi
                go_wp2_with (first | refine wpList_load_row rfl 44 _ rfl g rfl 44 _ (0, 0) _ HG.out Tryz.underlying44 rfl size44 ?_ | refine wpList_store_row rfl 44 _ _ rfl (w.heap.size + 1) #[.int .i64 x.ver, .string x.user, .int .u64 x.id, .int .u64 x.ver2, .string x.net, .string x.addr, .string x.address, .string x.name, .slice A1 x.info.length c1, .slice A2 x.uri.length c2, .slice A3 x.email.length c3, .slice A4 x.phone.length c4, .slice B5 x.con.length d5, .slice B6 x.bw.length d6, .slice At x.tim.length ct, .slice Az x.zon.length cz, .slice A9 x.key.length c9, .slice B10 x.atts.length d10, .slice A x.med.length c] rfl rfl 44 _ HZ2 size44 rfl (by simp [Value.oneCell']) ?_)
                refine bodyPost_ret (results_cell_row rfl _ _ (w.heap.size + 1) 44 #[.int .i64 x.ver, .string x.user, .int .u64 x.id, .int .u64 x.ver2, .string x.net, .string x.addr, .string x.address, .string x.name, .slice A1 x.info.length c1, .slice A2 x.uri.length c2, .slice A3 x.email.length c3, .slice A4 x.phone.length c4, .slice B5 x.con.length d5, .slice B6 x.bw.length d6, .slice At x.tim.length ct, .slice Az x.zon.length cz, .slice A9 x.key.length c9, .slice B10 x.atts.length d10, .slice A x.med.length c] (0, 0) _ rfl (setRow_heap _ _ _ _ _ _ HZ2) Tryz.underlying44 rfl size44) rfl ?_
                have hkz : Keep (w.heap.size + 1) wr (wr.setRow (w.heap.size + 1) #[.int .i64 x.ver, .string x.user, .int .u64 x.id, .int .u64 x.ver2, .string x.net, .string x.addr, .string x.address, .string x.name, .slice A1 x.info.length c1, .slice A2 x.uri.length c2, .slice A3 x.email.length c3, .slice A4 x.phone.length c4, .slice B5 x.con.length d5, .slice B6 x.bw.length d6, .slice At x.tim.length ct, .slice Az x.zon.length cz, .slice A9 x.key.length c9, .slice B10 x.atts.length d10, .slice A x.med.length c]) := keep_setRow _ _ _
                have hF : ∀ b, FG D W1.heap.size g b → b ≠ w.heap.size + 1 := fun b hb => by rcases hb.1 with hb | hb; (have := HD.out b hb; omega); (have := HS1.out; omega)
                have hF2 : ∀ b, FG D W1.heap.size g b → D b ∨ w.heap.size ≤ b := fun b hb => hb.1.imp id fun h => Nat.le_trans hwW h
                have hF3 : ∀ b, D b ∨ wl.heap.size ≤ b → b ≠ w.heap.size + 1 := fun b hb => by rcases hb with hb | hb; (have := HD.out b hb; omega); (have := HS1.out; omega)
                have hF4 : ∀ b, D b ∨ wl.heap.size ≤ b → D b ∨ w.heap.size ≤ b := fun b hb => hb.imp id fun h => by omega
                have hBz : Below w.heap.size w (wr.setRow (w.heap.size + 1) #[.int .i64 x.ver, .string x.user, .int .u64 x.id, .int .u64 x.ver2, .string x.net, .string x.addr, .string x.address, .string x.name, .slice A1 x.info.length c1, .slice A2 x.uri.length c2, .slice A3 x.email.length c3, .slice A4 x.phone.length c4, .slice B5 x.con.length d5, .slice B6 x.bw.length d6, .slice At x.tim.length ct, .slice Az x.zon.length cz, .slice A9 x.key.length c9, .slice B10 x.atts.length d10, .slice A x.med.length c]) := (HWW.out.trans (HBL2.out.mono hwW)).trans (hkz.below (Nat.le_trans hwW HBL2.out.size) (Nat.le_succ _))
                have hD2 : ∀ b, D b → D b ∨ w.heap.size ≤ b := fun _ h => .inl h
                refine ⟨hBz, [.int .i64 x.ver, .string x.user, .int .u64 x.id, .int .u64 x.ver2, .string x.net, .string x.addr, .string x.address, .string x.name, .slice A1 x.info.length c1, .slice A2 x.uri.length c2, .slice A3 x.email.length c3, .slice A4 x.phone.length c4, .slice B5 x.con.length d5, .slice B6 x.bw.length d6, .slice At x.tim.length ct, .slice Az x.zon.length cz, .slice A9 x.key.length c9, .slice B10 x.atts.length d10, .slice A x.med.length c], rfl, kSes_mk x ((SV.below (⟨A1, c1, rfl, l1, R1.out⟩ : Kn.string.SV D w (.slice A1 x.info.length c1) x.info) hBz HD.out).mono hD2) ((SV.below (⟨A2, c2, rfl, l2, R2.out⟩ : Kn.string.SV D w (.slice A2 x.uri.length c2) x.uri) hBz HD.out).mono hD2) ((SV.below (⟨A3, c3, rfl, l3, R3.out⟩ : Kn.string.SV D w (.slice A3 x.email.length c3) x.email) hBz HD.out).mono hD2) ((SV.below (⟨A4, c4, rfl, l4, R4.out⟩ : Kn.string.SV D w (.slice A4 x.phone.length c4) x.phone) hBz HD.out).mono hD2) ((HR5.out.keep (by decide) hF hkz).mono hF2) ((HR6.out.keep (by decide) hF hkz).mono hF2) ((HR7.out.keep (by decide) hF hkz).mono hF2) ((HR8.out.keep (by decide) hF hkz).mono hF2) ((SV.below (⟨A9, c9, rfl, l9, R9.out⟩ : Kn.string.SV D w (.slice A9 x.key.length c9) x.key) hBz HD.out).mono hD2) ((HR10.out.keep (by decide) hF hkz).mono hF2) ((HR11.out.keep (by decide) hF3 hkz).mono hF4)⟩
end Go.Proofs.YtimonhimfioohaaGreatDoor
