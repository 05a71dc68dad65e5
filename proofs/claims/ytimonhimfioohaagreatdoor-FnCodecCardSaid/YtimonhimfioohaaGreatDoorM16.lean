/- Lemmas on which the proof of Rows.FnCodecCardSaid rests: no statement of the seat is proved in this file. Conditions: each lemma's own hypotheses, no others. -/
import Derived.Test.YtimonhimfioohaaGreatDoorM01
import Derived.StillTailTactics
import Derived.WalkSmall
import Derived.LaidEql
/-! The reader of works(): bytes, lines, fields. -/
namespace Go.Proofs.YtimonhimfioohaaGreatDoor
open Go Go.RowKit Go.PlainAid Kn
/-- The reader at block lx stands at place p of text t. -/
def Lx (lx : Nat) (d c : Value) (t : ByteArray) (p : Nat) (w : World) : Prop := w.heap[lx]? = some (.cells #[d, c, .string t, .int .i64 p] 198)
/-- It has gone on to q; all else that was is as it was. -/
def LStp (lx : Nat) (d c : Value) (t : ByteArray) (q : Nat) (w w' : World) : Prop := Keep lx w w' ∧ Lx lx d c t q w'
theorem LStp.trans {lx : Nat} {d c : Value} {t : ByteArray} {q r : Nat} {w w1 w2 : World} (h : LStp lx d c t q w w1) (k : LStp lx d c t r w1 w2) : LStp lx d c t r w w2 := ⟨h.1.trans k.1, k.2⟩
theorem LStp.refl {lx : Nat} {d c : Value} {t : ByteArray} {p : Nat} {w : World} (h : Lx lx d c t p w) : LStp lx d c t p w w := ⟨Keep.refl _ _, h⟩
theorem LStp.drewN {lx : Nat} {d c : Value} {t : ByteArray} {q : Nat} {w w1 : World} (h : LStp lx d c t q w w1) (n : Nat) : LStp lx d c t q w (w1.drewN n) := ⟨h.1.trans (Keep.ofBelow (below_drewN (Below.refl _ _) n)), h.2⟩
theorem LStp.put {lx : Nat} {d c : Value} {t : ByteArray} {p : Nat} {w w1 : World} (h : LStp lx d c t p w w1) (q : Nat) : LStp lx d c t q w (w1.setCell ⟨lx, 3, Option.none⟩ (.int .i64 q)) :=
  ⟨h.1.trans (Keep.set _), (blk_set h.2 3 _).trans rfl⟩
theorem Lx.c2 {lx : Nat} {d c : Value} {t : ByteArray} {p : Nat} {w : World} (h : Lx lx d c t p w) : w.cell? ⟨lx, 2, Option.none⟩ = some (.string t) := (blk_cell h 2).trans rfl
theorem Lx.c3 {lx : Nat} {d c : Value} {t : ByteArray} {p : Nat} {w : World} (h : Lx lx d c t p w) : w.cell? ⟨lx, 3, Option.none⟩ = some (.int .i64 p) := (blk_cell h 3).trans rfl
theorem Lx.f3 {lx : Nat} {d c : Value} {t : ByteArray} {p : Nat} {w : World} (h : Lx lx d c t p w) : w.frozen? ⟨lx, 3, Option.none⟩ = false := blk_frozen h 3
set_option maxHeartbeats 400000 in
theorem readByte_calls (lx : Nat) (d c : Value) (t : ByteArray) (p : Nat) (w : World) (h : Lx lx d c t p w) (hp : p < t.size) (hs : t.size ≤ 1000) :
    Calls Tryz.prog 129 #[.pointer (some ⟨lx, 2, Option.none⟩)] w fun e w' => LStp lx d c t (p + 1) w w' ∧ e = .returned (.tuple #[.int .u8 (bt t p), .nilIface]) := by
  have c2 := h.c2
  have c3 := h.c3
  have f3 := h.f3
  have hb := get_bt t
  have H := Bx.mk h
  clear h
  go_enter Tryz.func129, Tryz.ntmps129
  go_wp2
  go_quiet (fail)
  go_wp2
  go_quiet (fail)
  go_wp2
  go_ret2
  exact ⟨((LStp.refl H.out).drewN _).put (p + 1), rfl⟩
/-- io.EOF holds v. -/
def EofAt (v : Value) (w : World) : Prop := ∃ a : Addr, v = .iface 325 (.pointer (some a)) ∧ w.cell? ⟨5, 0, Option.none⟩ = some v ∧ ∃ cs t, w.heap[a.block]? = some (.cells cs t (0, 0))
set_option maxHeartbeats 400000 in
theorem readByte_end (lx : Nat) (d c : Value) (t : ByteArray) (w : World) (v : Value) (h : Lx lx d c t t.size w) (_hs : t.size ≤ 1000) (he : w.cell? ⟨5, 0, Option.none⟩ = some v) :
    Calls Tryz.prog 129 #[.pointer (some ⟨lx, 2, Option.none⟩)] w fun e w' => LStp lx d c t t.size w w' ∧ e = .returned (.tuple #[.int .u8 0, v]) := by
  have c2 := h.c2
  have c3 := h.c3
  have H := Bx.mk h
  clear h
  go_enter Tryz.func129, Tryz.ntmps129
  go_wp2
  go_quiet (fail)
  go_wp2
  go_quiet (fail)
  go_wp2
  go_ret2
  exact ⟨((LStp.refl H.out).drewN _).drewN _, rfl⟩
set_option maxHeartbeats 400000 in
theorem unread_calls (lx : Nat) (d c : Value) (t : ByteArray) (p : Nat) (w : World) (h : Lx lx d c t (p + 1) w) (hp : p < t.size) (hs : t.size ≤ 1000) :
    Calls Tryz.prog 133 #[.pointer (some ⟨lx, 2, Option.none⟩)] w fun e w' => LStp lx d c t p w w' ∧ e = .returned .nilIface := by
  have c3 := h.c3
  have f3 := h.f3
  have H := Bx.mk h
  clear h
  go_enter Tryz.func133, Tryz.ntmps133
  go_wp2
  go_ret
  exact ⟨(LStp.refl H.out).put p, rfl⟩
set_option maxHeartbeats 400000 in
theorem nl_calls (b : Int) (w : World) (r : Bool) (hr : r = (b == 10 || b == 13)) : Calls Tryz.prog 130 #[.int .u8 b] w fun e w' => w = w' ∧ e = .returned (.bool r) := by
  have HR := Bx.mk hr
  clear hr
  go_enter Tryz.func130, Tryz.ntmps130
  cases h : (b == 10)
  · go_wp2
    go_ret
    exact ⟨rfl, by rw [HR.out, h]; rfl⟩
  · go_wp2
    go_ret
    exact ⟨rfl, by rw [HR.out, h]; rfl⟩
set_option maxHeartbeats 400000 in
theorem ws_calls (b : Int) (w : World) (r : Bool) (hr : r = (b == 32 || b == 9)) : Calls Tryz.prog 134 #[.int .u8 b] w fun e w' => w = w' ∧ e = .returned (.bool r) := by
  have HR := Bx.mk hr
  clear hr
  go_enter Tryz.func134, Tryz.ntmps134
  cases h : (b == 32)
  · go_wp2
    go_ret
    exact ⟨rfl, by rw [HR.out, h]; rfl⟩
  · go_wp2
    go_ret
    exact ⟨rfl, by rw [HR.out, h]; rfl⟩
theorem eofTypeOf (v : Value) (w : World) : (Extern.ReflectliteType.typeOf #[.iface 325 v]).run Tryz.prog w = .ok (.iface 293 (.agg #[.pointer (some ⟨25, 325, Option.none⟩)])) w := by kernel_rfl
theorem eofComparable (w : World) : ((Extern.ReflectliteType.method fun t => do Extern.Rtype.noPackHeld "Comparable" t; (fun a => Value.bool a.comparable) <$> typeInfo t) #[.agg #[.pointer (some ⟨25, 325, Option.none⟩)]]).run Tryz.prog w = .ok (.bool true) w := by kernel_rfl
theorem eofMethod (v : Value) (w : World) : (Go.method 272 293 v "Comparable").run Tryz.prog w = .ok (292, v) w := by kernel_rfl
theorem eofComp : (Tryz.prog.info? 325).map (·.comparable) = some true := by kernel_rfl
theorem eofSize : (Tryz.prog.info? 327).map (·.size) = some 1 := by kernel_rfl
/-- errors.Is(nil, x). -/
theorem isnil_calls (ty : TypeId) (u : Value) (w : World) : Calls Tryz.prog 111 #[.nilIface, .iface ty u] w fun e w' => w = w' ∧ e = .returned (.bool false) := by
  have hn := run_eql_iface_nil_left (P := Tryz.prog) (w := w) ty u Tryz.underlying103
  go_enter Tryz.func111, Tryz.ntmps111
  go_wp2
  go_ret
  exact ⟨rfl, rfl⟩
set_option maxRecDepth 20000 in
/-- errors.Is(x, x), x a pointer to an errors.errorString. -/
theorem issame_calls (a : Addr) (w : World) : Calls Tryz.prog 111 #[.iface 325 (.pointer (some a)), .iface 325 (.pointer (some a))] w fun e w' => w = w' ∧ e = .returned (.bool true) := by
  obtain ⟨i, hi, hcmp⟩ := Option.map_eq_some_iff.1 eofComp
  obtain ⟨j, hj, hjs⟩ := Option.map_eq_some_iff.1 eofSize
  have h8 := @run_callFunc_extern Tryz.prog 131 _ Extern.ReflectliteType.typeOf Tryz.func131 (by kernel_rfl) (by kernel_rfl) (by kernel_rfl) (by kernel_rfl)
  have h32 := @run_callFunc_extern Tryz.prog 292 _ (Extern.ReflectliteType.method fun t => do Extern.Rtype.noPackHeld "Comparable" t; pure (.bool (← typeInfo t).comparable)) Tryz.func292 (by kernel_rfl) (by kernel_rfl) (by kernel_rfl) (by kernel_rfl)
  have tT := eofTypeOf
  have cT := eofComparable
  have mR := eofMethod
  have heq := run_eql_iface_ptr_same (P := Tryz.prog) w a Tryz.underlying103 Tryz.underlying325 hi hcmp hj
  go_enter Tryz.func111, Tryz.ntmps111
  go_wp2
  refine wp_loop_rounds 1 ?_
  rw [rounds_succ]
  go_wp2
  go_ret
  exact ⟨rfl, rfl⟩
end Go.Proofs.YtimonhimfioohaaGreatDoor
/-! The reader of works(): lines, blanks, numbers, fields. -/
namespace Go.Proofs.YtimonhimfioohaaGreatDoor
open Go Go.RowKit Go.PlainAid Kn
/-- Where a reader stands. -/
def posOf (lx : Nat) (w : World) : Nat := match w.cell? ⟨lx, 3, Option.none⟩ with | some (.int _ n) => n.toNat | _ => 0
theorem posOf_lx {lx : Nat} {d c : Value} {t : ByteArray} {p : Nat} {w : World} (h : Lx lx d c t p w) : posOf lx w = p := by unfold posOf; rw [h.c3]; simp
def IsNl (b : Int) : Bool := b == 10 || b == 13
def IsWs (b : Int) : Bool := b == 32 || b == 9
/-- io.EOF's cell. -/
def EofC (a : Addr) (w : World) : Prop := w.cell? ⟨5, 0, Option.none⟩ = some (.iface 325 (.pointer (some a)))
theorem EofC.keep {a : Addr} {lx : Nat} {w w' : World} (h : EofC a w) (hb : Keep lx w w') (h5 : lx ≠ 5) : EofC a w' := by
  unfold EofC at h ⊢
  rw [← h]
  exact World.cell?_of_block (hb.block 5 (World.block_lt_of_cell? w _ h) (Ne.symm h5))
set_option maxHeartbeats 400000 in
theorem nextLine_calls (lx : Nat) (d c : Value) (t : ByteArray) (p q : Nat) (a : Addr) (w : World) (h : Lx lx d c t p w) (hpq : p ≤ q) (hq : q < t.size) (hs : t.size ≤ 1000) (h5 : lx ≠ 5) (he : EofC a w)
    (hn : ∀ j, p ≤ j → j < q → IsNl (bt t j) = true) (hqn : IsNl (bt t q) = false) :
    Calls Tryz.prog 114 #[.pointer (some ⟨lx, 2, Option.none⟩)] w fun e w' => LStp lx d c t q w w' ∧ e = .returned .nilIface := by
  have H := Bx.mk h
  have HN := Bx.mk hn
  have HQ := Bx.mk hqn
  have HE := Bx.mk he
  clear h hn hqn he
  go_enter Tryz.func114, Tryz.ntmps114
  go_wp2
  go_loopw [] (fun wr => ∃ k : Nat, p ≤ k ∧ k ≤ q ∧ Bx (LStp lx d c t k w wr)) (fun wr => t.size - posOf lx wr)
  case atStart => exact ⟨p, Nat.le_refl _, hpq, ⟨LStp.refl H.out⟩⟩
  case round =>
    obtain ⟨k, hk1, hk2, hL⟩ := hrel
    have HP := Bx.mk (posOf_lx hL.out.2)
    go_wp2_with (fail)
    refine (readByte_calls lx d c t k _ hL.out.2 (by omega) hs).mono ?_
    rintro e w1 ⟨hL1, rfl⟩
    have HL1 := Bx.mk (LStp.trans hL.out hL1)
    have he2 : w1.cell? ⟨5, 0, Option.none⟩ = some (.iface 325 (.pointer (some a))) := HE.out.keep HL1.out.1 h5
    clear hL1
    go_wp2_with (fail)
    refine (isnil_calls _ _ _).mono ?_
    rintro e w' ⟨rfl, rfl⟩
    go_wp2_with (fail)
    refine (nl_calls (bt t k) _ (IsNl (bt t k)) rfl).mono ?_
    rintro e w' ⟨rfl, rfl⟩
    rcases Nat.lt_or_ge k q with hlt | hge
    · rw [HN.out k hk1 hlt]
      go_wp2
      go_roundw
      case rel => exact ⟨k + 1, by omega, by omega, HL1⟩
      case measure => rw [posOf_lx HL1.out.2, HP.out]; omega
    · obtain rfl : k = q := by omega
      rw [HQ.out]
      go_wp2_with (fail)
      refine (unread_calls lx d c t k _ HL1.out.2 hq hs).mono ?_
      rintro e w2 ⟨hL2, rfl⟩
      have HL2 := Bx.mk (HL1.out.trans hL2)
      clear hL2
      go_wp2
      go_ret
      exact ⟨HL2.out, rfl⟩
set_option maxHeartbeats 400000 in
theorem readWs_calls (lx : Nat) (d c : Value) (t : ByteArray) (p q : Nat) (a : Addr) (w : World) (h : Lx lx d c t p w) (hpq : p ≤ q) (hq : q < t.size) (hs : t.size ≤ 1000) (h5 : lx ≠ 5) (he : EofC a w)
    (hn : ∀ j, p ≤ j → j < q → IsWs (bt t j) = true) (hqn : IsWs (bt t q) = false) :
    Calls Tryz.prog 135 #[.pointer (some ⟨lx, 2, Option.none⟩)] w fun e w' => LStp lx d c t q w w' ∧ e = .returned .nilIface := by
  have H := Bx.mk h
  have HN := Bx.mk hn
  have HQ := Bx.mk hqn
  have HE := Bx.mk he
  clear h hn hqn he
  go_enter Tryz.func135, Tryz.ntmps135
  go_wp2
  go_loopw [] (fun wr => ∃ k : Nat, p ≤ k ∧ k ≤ q ∧ Bx (LStp lx d c t k w wr)) (fun wr => t.size - posOf lx wr)
  case atStart => exact ⟨p, Nat.le_refl _, hpq, ⟨LStp.refl H.out⟩⟩
  case round =>
    obtain ⟨k, hk1, hk2, hL⟩ := hrel
    have HP := Bx.mk (posOf_lx hL.out.2)
    go_wp2_with (fail)
    refine (readByte_calls lx d c t k _ hL.out.2 (by omega) hs).mono ?_
    rintro e w1 ⟨hL1, rfl⟩
    have HL1 := Bx.mk (LStp.trans hL.out hL1)
    have he2 : w1.cell? ⟨5, 0, Option.none⟩ = some (.iface 325 (.pointer (some a))) := HE.out.keep HL1.out.1 h5
    clear hL1
    go_wp2_with (fail)
    refine (isnil_calls _ _ _).mono ?_
    rintro e w' ⟨rfl, rfl⟩
    go_wp2_with (fail)
    refine (ws_calls (bt t k) _ (IsWs (bt t k)) rfl).mono ?_
    rintro e w' ⟨rfl, rfl⟩
    rcases Nat.lt_or_ge k q with hlt | hge
    · rw [HN.out k hk1 hlt]
      go_wp2
      go_roundw
      case rel => exact ⟨k + 1, by omega, by omega, HL1⟩
      case measure => rw [posOf_lx HL1.out.2, HP.out]; omega
    · obtain rfl : k = q := by omega
      rw [HQ.out]
      go_wp2_with (fail)
      refine (unread_calls lx d c t k _ HL1.out.2 hq hs).mono ?_
      rintro e w2 ⟨hL2, rfl⟩
      have HL2 := Bx.mk (HL1.out.trans hL2)
      clear hL2
      go_wp2
      go_ret
      exact ⟨HL2.out, rfl⟩
end Go.Proofs.YtimonhimfioohaaGreatDoor
/-! The reader of works(): numbers, fields, lines, types. -/
namespace Go.Proofs.YtimonhimfioohaaGreatDoor
open Go Go.RowKit Go.PlainAid Kn
set_option maxRecDepth 20000 in
set_option maxHeartbeats 400000 in
theorem nextLine_end (lx : Nat) (d c : Value) (t : ByteArray) (p : Nat) (a : Addr) (w : World) (h : Lx lx d c t p w) (hpq : p ≤ t.size) (hs : t.size ≤ 1000) (h5 : lx ≠ 5) (he : EofC a w) (hn : ∀ j, p ≤ j → j < t.size → IsNl (bt t j) = true) :
    Calls Tryz.prog 114 #[.pointer (some ⟨lx, 2, Option.none⟩)] w fun e w' => LStp lx d c t t.size w w' ∧ e = .returned .nilIface := by
  have H := Bx.mk h
  have HN := Bx.mk hn
  have HE := Bx.mk he
  clear h hn he
  go_enter Tryz.func114, Tryz.ntmps114
  go_wp2
  go_loopw [] (fun wr => ∃ k : Nat, p ≤ k ∧ k ≤ t.size ∧ Bx (LStp lx d c t k w wr)) (fun wr => t.size - posOf lx wr)
  case atStart => exact ⟨p, Nat.le_refl _, hpq, ⟨LStp.refl H.out⟩⟩
  case round =>
    obtain ⟨k, hk1, hk2, hL⟩ := hrel
    have HP := Bx.mk (posOf_lx hL.out.2)
    rcases Nat.lt_or_ge k t.size with hlt | hge
    ·
      go_wp2_with (fail)
      refine (readByte_calls lx d c t (k) _ hL.out.2 (by omega) hs).mono ?_
      rintro e w1 ⟨hL1, rfl⟩
      have HL1 := Bx.mk (LStp.trans hL.out hL1)
      have he2 : w1.cell? ⟨5, 0, Option.none⟩ = some (.iface 325 (.pointer (some a))) := HE.out.keep HL1.out.1 h5
      clear hL1
      go_wp2_with (fail)
      refine (isnil_calls _ _ _).mono ?_
      rintro e w' ⟨rfl, rfl⟩
      go_wp2_with (fail)
      refine (nl_calls (bt t k) _ (IsNl (bt t k)) rfl).mono ?_
      rintro e w' ⟨rfl, rfl⟩
      rw [HN.out k hk1 hlt]
      go_wp2
      go_roundw
      case rel => exact ⟨k + 1, by omega, by omega, HL1⟩
      case measure => rw [posOf_lx HL1.out.2, HP.out]; omega
    · obtain rfl : k = t.size := by omega
      have he1 : wr.cell? ⟨5, 0, Option.none⟩ = some (.iface 325 (.pointer (some a))) := HE.out.keep hL.out.1 h5
      go_wp2_with (fail)
      refine (readByte_end lx d c t _ _ hL.out.2 hs he1).mono ?_
      rintro e w1 ⟨hL1, rfl⟩
      have HL1 := Bx.mk (LStp.trans hL.out hL1)
      have he2 : w1.cell? ⟨5, 0, Option.none⟩ = some (.iface 325 (.pointer (some a))) := HE.out.keep HL1.out.1 h5
      clear hL1 he1
      go_wp2_with (fail)
      refine (issame_calls _ _).mono ?_
      rintro e w' ⟨rfl, rfl⟩
      go_wp2
      go_ret
      exact ⟨HL1.out, rfl⟩
set_option maxHeartbeats 400000 in
theorem copyString_calls (v : Value) (s : ByteArray) (w : World) : Calls Tryz.prog 167 #[v, .string s] w fun e w' => e = .returned (.string s) ∧ w' = w := by
  go_enter Tryz.func167, Tryz.ntmps167
  go_wp2
  go_ret
  exact ⟨rfl, rfl⟩
/-- Where a field that goes from p to q ends, and where the reader stands behind it. -/
def FEnd (t : ByteArray) (q r : Nat) : Prop := q < t.size ∧ ((IsNl (bt t q) = true ∧ r = q) ∨ (IsNl (bt t q) = false ∧ IsWs (bt t q) = true ∧ q < r ∧ r < t.size ∧ (∀ j, q + 1 ≤ j → j < r → IsWs (bt t j) = true) ∧ IsWs (bt t r) = false))
set_option maxRecDepth 20000 in
set_option maxHeartbeats 1600000 in
theorem readField_calls (lx : Nat) (d c : Value) (t : ByteArray) (p q r : Nat) (a : Addr) (w : World) (h : Lx lx d c t p w) (hpq : p ≤ q) (hs : t.size ≤ 1000) (h5 : lx ≠ 5) (he : EofC a w)
    (hn : ∀ j, p ≤ j → j < q → IsNl (bt t j) = false ∧ IsWs (bt t j) = false) (hq : FEnd t q r) :
    Calls Tryz.prog 146 #[.pointer (some ⟨lx, 2, Option.none⟩)] w fun e w' => LStp lx d c t r w w' ∧ e = .returned (.tuple #[.string (t.extract p q), .nilIface]) := by
  have hq1 := hq.1
  have H := Bx.mk h
  have HN := Bx.mk hn
  have HE := Bx.mk he
  have HQ := Bx.mk hq.2
  have c3 := h.c3
  clear h hn he hq
  go_enter Tryz.func146, Tryz.ntmps146
  go_wp2
  clear c3
  go_loopw [] (fun wr => ∃ k : Nat, p ≤ k ∧ k ≤ q ∧ Bx (LStp lx d c t k w wr)) (fun wr => t.size - posOf lx wr)
  case atStart => exact ⟨p, Nat.le_refl _, hpq, ⟨LStp.refl H.out⟩⟩
  case round =>
    obtain ⟨k, hk1, hk2, hL⟩ := hrel
    have HP := Bx.mk (posOf_lx hL.out.2)
    have c3 := hL.out.2.c3
    go_wp2_with (fail)
    refine (readByte_calls lx d c t (k) _ hL.out.2 (by omega) hs).mono ?_
    rintro e w1 ⟨hL1, rfl⟩
    have HL1 := Bx.mk (LStp.trans hL.out hL1)
    have he2 : w1.cell? ⟨5, 0, Option.none⟩ = some (.iface 325 (.pointer (some a))) := HE.out.keep HL1.out.1 h5
    clear hL1
    clear c3
    go_wp2_with (fail)
    refine (isnil_calls _ _ _).mono ?_
    rintro e w' ⟨rfl, rfl⟩
    rcases Nat.lt_or_ge k q with hlt | hge
    · have hb := HN.out k hk1 hlt
      have HB := Bx.mk hb
      clear hb
      go_wp2_with (fail)
      refine (nl_calls (bt t k) _ (IsNl (bt t k)) rfl).mono ?_
      rintro e w' ⟨rfl, rfl⟩
      rw [HB.out.1]
      go_wp2_with (fail)
      refine (ws_calls (bt t k) _ (IsWs (bt t k)) rfl).mono ?_
      rintro e w' ⟨rfl, rfl⟩
      rw [HB.out.2]
      go_wp2
      go_roundw
      case rel => exact ⟨k + 1, by omega, by omega, HL1⟩
      case measure => rw [posOf_lx HL1.out.2, HP.out]; omega
    · obtain rfl : k = q := by omega
      have hks : k ≤ t.size := by omega
      go_wp2_with (fail)
      refine (nl_calls (bt t k) _ (IsNl (bt t k)) rfl).mono ?_
      rintro e w' ⟨rfl, rfl⟩
      rcases HQ.out with hq2 | hq2
      · have HQ2 := Bx.mk hq2
        rw [HQ2.out.1]
        clear hq2
        go_wp2_with (fail)
        refine (unread_calls lx d c t k _ HL1.out.2 hq1 hs).mono ?_
        rintro e w2 ⟨hL2, rfl⟩
        have HL2 := Bx.mk (HL1.out.trans hL2)
        have c2 := hL2.2.c2
        clear hL2
        go_wp2_with (fail)
        refine (copyString_calls _ _ _).mono ?_
        rintro e w' ⟨rfl, rfl⟩
        go_wp2
        go_ret2
        rw [HQ2.out.2]
        exact ⟨HL2.out, rfl⟩
      · have HQ2 := Bx.mk hq2
        rw [HQ2.out.1]
        clear hq2
        go_wp2_with (fail)
        refine (ws_calls (bt t k) _ (IsWs (bt t k)) rfl).mono ?_
        rintro e w' ⟨rfl, rfl⟩
        rw [HQ2.out.2.1]
        go_wp2_with (fail)
        refine (readWs_calls lx d c t (k + 1) r a _ HL1.out.2 HQ2.out.2.2.1 HQ2.out.2.2.2.1 hs h5 he2 HQ2.out.2.2.2.2.1 HQ2.out.2.2.2.2.2).mono ?_
        rintro e w2 ⟨hL2, rfl⟩
        have HL2 := Bx.mk (HL1.out.trans hL2)
        have c2 := hL2.2.c2
        clear hL2
        go_wp2_with (fail)
        refine (copyString_calls _ _ _).mono ?_
        rintro e w' ⟨rfl, rfl⟩
        go_wp2
        go_ret2
        exact ⟨HL2.out, rfl⟩
set_option maxRecDepth 20000 in
set_option maxHeartbeats 1600000 in
theorem readUint_calls (lx : Nat) (d c : Value) (t : ByteArray) (p r v : Nat) (a : Addr) (w : World) (h : Lx lx d c t p w) (hs : t.size ≤ 1000) (h5 : lx ≠ 5) (he : EofC a w)
    (hb : (bt t p = 48 ∧ v = 0) ∨ (bt t p = 49 ∧ v = 1)) (hq : FEnd t (p + 1) r) :
    Calls Tryz.prog 113 #[.pointer (some ⟨lx, 2, Option.none⟩)] w fun e w' => LStp lx d c t r w w' ∧ e = .returned (.tuple #[.int .u64 v, .nilIface]) := by
  have hq1 := hq.1
  have H := Bx.mk (LStp.refl h)
  have HE := Bx.mk he
  have HQ := Bx.mk hq.2
  clear h he hq
  have hcase : ∃ x : Int, x = bt t p ∧ ((x = 48 ∧ v = 0) ∨ (x = 49 ∧ v = 1)) := ⟨_, rfl, hb⟩
  clear hb
  obtain ⟨x, hx, hb⟩ := hcase
  have HX := Bx.mk hx
  clear hx
  go_enter Tryz.func113, Tryz.ntmps113
  go_wp2
  refine wp_loop_rounds 2 ?_
  rw [rounds_succ]
  go_wp2_with (fail)
  refine (readByte_calls lx d c t (p) _ H.out.2 (by omega) hs).mono ?_
  rintro e w1 ⟨hL1, rfl⟩
  have HL1 := Bx.mk (LStp.trans H.out hL1)
  have he2 : w1.cell? ⟨5, 0, Option.none⟩ = some (.iface 325 (.pointer (some a))) := HE.out.keep HL1.out.1 h5
  clear hL1
  rw [← HX.out]
  go_wp2_with (fail)
  refine (isnil_calls _ _ _).mono ?_
  rintro e w' ⟨rfl, rfl⟩
  go_wp2_with (fail)
  rcases hb with ⟨rfl, rfl⟩ | ⟨rfl, rfl⟩
  all_goals
    refine (nl_calls _ _ false rfl).mono ?_
    rintro e w' ⟨rfl, rfl⟩
    go_wp2_with (fail)
    refine (ws_calls _ _ false rfl).mono ?_
    rintro e w' ⟨rfl, rfl⟩
    go_wp2_with (fail)
    rw [rounds_succ]
    clear he2
    go_wp2_with (fail)
    refine (readByte_calls lx d c t (p + 1) _ HL1.out.2 (by omega) hs).mono ?_
    rintro e w2 ⟨hL2, rfl⟩
    have HL2 := Bx.mk (LStp.trans HL1.out hL2)
    have he2 : w2.cell? ⟨5, 0, Option.none⟩ = some (.iface 325 (.pointer (some a))) := HE.out.keep HL2.out.1 h5
    clear hL2
    go_wp2_with (fail)
    refine (isnil_calls _ _ _).mono ?_
    rintro e w' ⟨rfl, rfl⟩
    go_wp2_with (fail)
    refine (nl_calls (bt t (p + 1)) _ (IsNl (bt t (p + 1))) rfl).mono ?_
    rintro e w' ⟨rfl, rfl⟩
    rcases HQ.out with hq2 | hq2
    · have HQ2 := Bx.mk hq2
      rw [HQ2.out.1]
      clear hq2
      go_wp2_with (fail)
      refine (unread_calls lx d c t (p + 1) _ HL2.out.2 hq1 hs).mono ?_
      rintro e w3 ⟨hL3, rfl⟩
      have HL3 := Bx.mk (HL2.out.trans hL3)
      clear hL3
      go_wp2
      go_ret2
      rw [HQ2.out.2]
      exact ⟨HL3.out, rfl⟩
    · have HQ2 := Bx.mk hq2
      rw [HQ2.out.1]
      clear hq2
      go_wp2_with (fail)
      refine (ws_calls (bt t (p + 1)) _ (IsWs (bt t (p + 1))) rfl).mono ?_
      rintro e w' ⟨rfl, rfl⟩
      rw [HQ2.out.2.1]
      go_wp2_with (fail)
      refine (readWs_calls lx d c t (p + 1 + 1) r a _ HL2.out.2 HQ2.out.2.2.1 HQ2.out.2.2.2.1 hs h5 he2 HQ2.out.2.2.2.2.1 HQ2.out.2.2.2.2.2).mono ?_
      rintro e w3 ⟨hL3, rfl⟩
      have HL3 := Bx.mk (HL2.out.trans hL3)
      clear hL3
      go_wp2
      go_ret2
      exact ⟨HL3.out, rfl⟩
set_option maxRecDepth 20000 in
set_option maxHeartbeats 800000 in
theorem readLine_calls (lx : Nat) (d c : Value) (t : ByteArray) (p : Nat) (w : World) (h : Lx lx d c t p w) (hs : t.size ≤ 1000) (hp : p + 2 < t.size)
    (h1 : bt t p = 120) (h2 : bt t (p + 1) = 13) (h3 : bt t (p + 1 + 1) = 10) :
    Calls Tryz.prog 179 #[.pointer (some ⟨lx, 2, Option.none⟩)] w fun e w' => LStp lx d c t (p + 1 + 1 + 1) w w' ∧ e = .returned (.tuple #[.string (t.extract p (p + 1)), .nilIface]) := by
  have H := Bx.mk (LStp.refl h)
  have H1 := Bx.mk h1
  have H2 := Bx.mk h2
  have H3 := Bx.mk h3
  have c3 := h.c3
  clear h h1 h2 h3
  go_enter Tryz.func179, Tryz.ntmps179
  go_wp2
  clear c3
  refine wp_loop_rounds 3 ?_
  rw [rounds_succ]
  go_wp2_with (fail)
  refine (readByte_calls lx d c t (p) _ H.out.2 (by omega) hs).mono ?_
  rintro e w1 ⟨hL1, rfl⟩
  have HL1 := Bx.mk (LStp.trans H.out hL1)
  clear hL1
  rw [H1.out]
  go_wp2_with (fail)
  rw [rounds_succ]
  go_wp2_with (fail)
  refine (readByte_calls lx d c t (p + 1) _ HL1.out.2 (by omega) hs).mono ?_
  rintro e w2 ⟨hL2, rfl⟩
  have HL2 := Bx.mk (LStp.trans HL1.out hL2)
  clear hL2
  rw [H2.out]
  go_wp2_with (fail)
  rw [rounds_succ]
  go_wp2_with (fail)
  refine (readByte_calls lx d c t (p + 1 + 1) _ HL2.out.2 (by omega) hs).mono ?_
  rintro e w3 ⟨hL3, rfl⟩
  have HL3 := Bx.mk (LStp.trans HL2.out hL3)
  clear hL3
  rw [H3.out]
  have c2 := HL3.out.2.c2
  obtain ⟨r, hr⟩ : ∃ r, r = p + 1 + 1 + 1 := ⟨_, rfl⟩
  obtain ⟨m, hm⟩ : ∃ m, m = p + 1 := ⟨_, rfl⟩
  have hw : IntKind.i64.wrap ((r : Int) - 2) = m := by rw [IntWalk.i64_in _ (by omega)]; omega
  rw [← hr] at HL3
  have HR := Bx.mk hr
  have HM := Bx.mk hm
  have c3 := HL3.out.2.c3
  have hpm : p ≤ m := by omega
  have hms : m ≤ t.size := by omega
  clear hr hm
  go_wp2_with (fail)
  go_quiet ((go_at_call 167; exact Calls.quiet_of_same (copyString_calls _ _ _)))
  clear hw
  go_wp2
  go_ret2
  rw [← HR.out, ← HM.out]
  exact ⟨HL3.out.drewN _, rfl⟩
set_option maxRecDepth 20000 in
set_option maxHeartbeats 400000 in
theorem readType_calls (lx : Nat) (d c : Value) (t : ByteArray) (p : Nat) (w : World) (h : Lx lx d c t p w) (hs : t.size ≤ 1000) (hp : p + 1 < t.size)
    (h1 : IsNl (bt t p) = false) (h2 : bt t (p + 1) = 61) :
    Calls Tryz.prog 110 #[.pointer (some ⟨lx, 2, Option.none⟩)] w fun e w' => LStp lx d c t (p + 1 + 1) w w' ∧ e = .returned (.tuple #[.int .u8 (bt t p), .nilIface]) := by
  have H := Bx.mk (LStp.refl h)
  have H1 := Bx.mk h1
  have H2 := Bx.mk h2
  clear h h1 h2
  go_enter Tryz.func110, Tryz.ntmps110
  go_wp2
  refine wp_loop_rounds 1 ?_
  rw [rounds_succ]
  go_wp2_with (fail)
  refine (readByte_calls lx d c t (p) _ H.out.2 (by omega) hs).mono ?_
  rintro e w1 ⟨hL1, rfl⟩
  have HL1 := Bx.mk (LStp.trans H.out hL1)
  clear hL1
  go_wp2_with (fail)
  refine (nl_calls (bt t p) _ (IsNl (bt t p)) rfl).mono ?_
  rintro e w' ⟨rfl, rfl⟩
  rw [H1.out]
  go_wp2_with (fail)
  refine (readByte_calls lx d c t (p + 1) _ HL1.out.2 (by omega) hs).mono ?_
  rintro e w2 ⟨hL2, rfl⟩
  have HL2 := Bx.mk (LStp.trans HL1.out hL2)
  clear hL2
  rw [H2.out]
  go_wp2
  go_ret2
  exact ⟨HL2.out, rfl⟩
set_option maxRecDepth 20000 in
set_option maxHeartbeats 400000 in
theorem readType_end (lx : Nat) (d c : Value) (t : ByteArray) (w : World) (h : Lx lx d c t t.size w) (hs : t.size ≤ 1000) (a : Addr) (he : EofC a w) :
    Calls Tryz.prog 110 #[.pointer (some ⟨lx, 2, Option.none⟩)] w fun e w' => LStp lx d c t t.size w w' ∧ e = .returned (.tuple #[.int .u8 0, .iface 325 (.pointer (some a))]) := by
  have H := Bx.mk (LStp.refl h)
  have HE := Bx.mk he
  clear h he
  go_enter Tryz.func110, Tryz.ntmps110
  go_wp2
  refine wp_loop_rounds 1 ?_
  rw [rounds_succ]
  go_wp2_with (fail)
  refine (readByte_end lx d c t _ _ H.out.2 hs HE.out).mono ?_
  rintro e w1 ⟨hL1, rfl⟩
  have HL1 := Bx.mk hL1
  clear hL1
  go_wp2
  go_ret2
  exact ⟨HL1.out, rfl⟩
end Go.Proofs.YtimonhimfioohaaGreatDoor
/-! The states of works()'s reader. -/
namespace Go.Proofs.YtimonhimfioohaaGreatDoor
open Go Go.RowKit Go.PlainAid Kn
theorem neqFn (g : Nat) (ty : Nat) (hty : ty = 202 ∨ ty = 201) (w : World) : (binOp .neq ty (.func (.func g) #[] #[]) .nilFunc).run Tryz.prog w = .ok (.bool true) w := by rcases hty with rfl | rfl <;> kernel_rfl
set_option maxRecDepth 20000 in
set_option maxHeartbeats 400000 in
theorem handle_calls (lx : Nat) (d c : Value) (t : ByteArray) (p f g : Nat) (a : Addr) (w : World) (h : Lx lx d c t p w) (hs : t.size ≤ 1000) (h5 : lx ≠ 5) (he : EofC a w) (hp : p + 1 < t.size)
    (h1 : IsNl (bt t p) = false) (h2 : bt t (p + 1) = 61) (hcf : ∀ (args : Array Value) (w : World), (callFunc f args).run Tryz.prog w = .ok (.enter f args) w) (hf : ∀ w, Calls Tryz.prog f #[.int .u8 (bt t p)] w fun e w' => w = w' ∧ e = .returned ((.func (.func g) #[] #[]))) :
    Calls Tryz.prog 97 #[.pointer (some ⟨lx, 0, Option.none⟩), (.func (.func f) #[] #[])] w fun e w' => LStp lx d c t (p + 1 + 1) w w' ∧ e = .returned (.tuple #[(.func (.func g) #[] #[]), .nilIface]) := by
  have H := Bx.mk h
  have H1 := Bx.mk h1
  have H2 := Bx.mk h2
  have HE := Bx.mk he
  have HF := Bx.mk hf
  clear h h1 h2 he hf
  have hne := fun w => neqFn g 202 (.inl rfl) w
  go_enter Tryz.func97, Tryz.ntmps97
  go_wp2_with (fail)
  refine (readType_calls lx d c t p _ H.out hs hp H1.out H2.out).mono ?_
  rintro e w1 ⟨hL1, rfl⟩
  have HL1 := Bx.mk hL1
  have he2 : w1.cell? ⟨5, 0, Option.none⟩ = some (.iface 325 (.pointer (some a))) := HE.out.keep HL1.out.1 h5
  clear hL1
  go_wp2_with (fail)
  refine (isnil_calls _ _ _).mono ?_
  rintro e w' ⟨rfl, rfl⟩
  go_wp2_with (fail)
  refine (HF.out _).mono ?_
  rintro e w' ⟨rfl, rfl⟩
  go_wp2
  go_ret2
  exact ⟨HL1.out, rfl⟩
/-! the states -/
set_option maxRecDepth 20000 in
set_option maxHeartbeats 400000 in
theorem handle_end (lx : Nat) (d c : Value) (t : ByteArray) (f : Nat) (a : Addr) (w : World) (h : Lx lx d c t t.size w) (hs : t.size ≤ 1000) (h5 : lx ≠ 5) (he : EofC a w) :
    Calls Tryz.prog 97 #[.pointer (some ⟨lx, 0, Option.none⟩), (.func (.func f) #[] #[])] w fun e w' => LStp lx d c t t.size w w' ∧ e = .returned (.tuple #[.nilFunc, .nilIface]) := by
  have H := Bx.mk h
  have HE := Bx.mk he
  clear h he
  go_enter Tryz.func97, Tryz.ntmps97
  go_wp2_with (fail)
  refine (readType_end lx d c t _ H.out hs a HE.out).mono ?_
  rintro e w1 ⟨hL1, rfl⟩
  have HL1 := Bx.mk hL1
  have he2 : w1.cell? ⟨5, 0, Option.none⟩ = some (.iface 325 (.pointer (some a))) := HE.out.keep HL1.out.1 h5
  clear hL1
  go_wp2_with (fail)
  refine (issame_calls _ _).mono ?_
  rintro e w' ⟨rfl, rfl⟩
  go_wp2
  go_ret2
  exact ⟨HL1.out, rfl⟩
set_option maxRecDepth 20000 in
set_option maxHeartbeats 400000 in
theorem s1_key (w : World) : Calls Tryz.prog 98 #[.int .u8 118] w fun e w' => w = w' ∧ e = .returned (.func (.func 99) #[] #[]) := by
  go_enter Tryz.func98, Tryz.ntmps98
  go_wp2
  go_ret
  exact ⟨rfl, rfl⟩
theorem s1_callFunc (args : Array Value) (w : World) : (callFunc 98 args).run Tryz.prog w = .ok (.enter 98 args) w := by kernel_rfl
set_option maxRecDepth 20000 in
set_option maxHeartbeats 400000 in
theorem s1_calls (lx : Nat) (d c : Value) (t : ByteArray) (p : Nat) (a : Addr) (w : World) (h : Lx lx d c t p w) (hs : t.size ≤ 1000) (h5 : lx ≠ 5) (he : EofC a w) (hp : p + 1 < t.size) (h1 : bt t p = 118) (h2 : bt t (p + 1) = 61) :
    Calls Tryz.prog 72 #[.pointer (some ⟨lx, 0, Option.none⟩)] w fun e w' => LStp lx d c t (p + 1 + 1) w w' ∧ e = .returned (.tuple #[(.func (.func 99) #[] #[]), .nilIface]) := by
  have H := Bx.mk h
  have H1 := Bx.mk h1
  have H2 := Bx.mk h2
  have HE := Bx.mk he
  clear h h1 h2 he
  go_enter Tryz.func72, Tryz.ntmps72
  go_wp2_with (fail)
  refine (handle_calls lx d c t p 98 99 a _ H.out hs h5 HE.out hp (by rw [H1.out]; rfl) H2.out s1_callFunc (fun w => by rw [H1.out]; exact s1_key w)).mono ?_
  rintro e w1 ⟨hL1, rfl⟩
  have HL1 := Bx.mk hL1
  clear hL1
  go_wp2
  go_ret2
  exact ⟨HL1.out, rfl⟩
set_option maxRecDepth 20000 in
set_option maxHeartbeats 400000 in
theorem s2_key (w : World) : Calls Tryz.prog 136 #[.int .u8 111] w fun e w' => w = w' ∧ e = .returned (.func (.func 137) #[] #[]) := by
  go_enter Tryz.func136, Tryz.ntmps136
  go_wp2
  go_ret
  exact ⟨rfl, rfl⟩
theorem s2_callFunc (args : Array Value) (w : World) : (callFunc 136 args).run Tryz.prog w = .ok (.enter 136 args) w := by kernel_rfl
set_option maxRecDepth 20000 in
set_option maxHeartbeats 400000 in
theorem s2_calls (lx : Nat) (d c : Value) (t : ByteArray) (p : Nat) (a : Addr) (w : World) (h : Lx lx d c t p w) (hs : t.size ≤ 1000) (h5 : lx ≠ 5) (he : EofC a w) (hp : p + 1 < t.size) (h1 : bt t p = 111) (h2 : bt t (p + 1) = 61) :
    Calls Tryz.prog 115 #[.pointer (some ⟨lx, 0, Option.none⟩)] w fun e w' => LStp lx d c t (p + 1 + 1) w w' ∧ e = .returned (.tuple #[(.func (.func 137) #[] #[]), .nilIface]) := by
  have H := Bx.mk h
  have H1 := Bx.mk h1
  have H2 := Bx.mk h2
  have HE := Bx.mk he
  clear h h1 h2 he
  go_enter Tryz.func115, Tryz.ntmps115
  go_wp2_with (fail)
  refine (handle_calls lx d c t p 136 137 a _ H.out hs h5 HE.out hp (by rw [H1.out]; rfl) H2.out s2_callFunc (fun w => by rw [H1.out]; exact s2_key w)).mono ?_
  rintro e w1 ⟨hL1, rfl⟩
  have HL1 := Bx.mk hL1
  clear hL1
  go_wp2
  go_ret2
  exact ⟨HL1.out, rfl⟩
set_option maxRecDepth 20000 in
set_option maxHeartbeats 400000 in
theorem s3_key (w : World) : Calls Tryz.prog 169 #[.int .u8 115] w fun e w' => w = w' ∧ e = .returned (.func (.func 170) #[] #[]) := by
  go_enter Tryz.func169, Tryz.ntmps169
  go_wp2
  go_ret
  exact ⟨rfl, rfl⟩
theorem s3_callFunc (args : Array Value) (w : World) : (callFunc 169 args).run Tryz.prog w = .ok (.enter 169 args) w := by kernel_rfl
set_option maxRecDepth 20000 in
set_option maxHeartbeats 400000 in
theorem s3_calls (lx : Nat) (d c : Value) (t : ByteArray) (p : Nat) (a : Addr) (w : World) (h : Lx lx d c t p w) (hs : t.size ≤ 1000) (h5 : lx ≠ 5) (he : EofC a w) (hp : p + 1 < t.size) (h1 : bt t p = 115) (h2 : bt t (p + 1) = 61) :
    Calls Tryz.prog 150 #[.pointer (some ⟨lx, 0, Option.none⟩)] w fun e w' => LStp lx d c t (p + 1 + 1) w w' ∧ e = .returned (.tuple #[(.func (.func 170) #[] #[]), .nilIface]) := by
  have H := Bx.mk h
  have H1 := Bx.mk h1
  have H2 := Bx.mk h2
  have HE := Bx.mk he
  clear h h1 h2 he
  go_enter Tryz.func150, Tryz.ntmps150
  go_wp2_with (fail)
  refine (handle_calls lx d c t p 169 170 a _ H.out hs h5 HE.out hp (by rw [H1.out]; rfl) H2.out s3_callFunc (fun w => by rw [H1.out]; exact s3_key w)).mono ?_
  rintro e w1 ⟨hL1, rfl⟩
  have HL1 := Bx.mk hL1
  clear hL1
  go_wp2
  go_ret2
  exact ⟨HL1.out, rfl⟩
set_option maxRecDepth 20000 in
set_option maxHeartbeats 400000 in
theorem s4_key (w : World) : Calls Tryz.prog 186 #[.int .u8 116] w fun e w' => w = w' ∧ e = .returned (.func (.func 193) #[] #[]) := by
  go_enter Tryz.func186, Tryz.ntmps186
  go_wp2
  go_ret
  exact ⟨rfl, rfl⟩
theorem s4_callFunc (args : Array Value) (w : World) : (callFunc 186 args).run Tryz.prog w = .ok (.enter 186 args) w := by kernel_rfl
set_option maxRecDepth 20000 in
set_option maxHeartbeats 400000 in
theorem s4_calls (lx : Nat) (d c : Value) (t : ByteArray) (p : Nat) (a : Addr) (w : World) (h : Lx lx d c t p w) (hs : t.size ≤ 1000) (h5 : lx ≠ 5) (he : EofC a w) (hp : p + 1 < t.size) (h1 : bt t p = 116) (h2 : bt t (p + 1) = 61) :
    Calls Tryz.prog 180 #[.pointer (some ⟨lx, 0, Option.none⟩)] w fun e w' => LStp lx d c t (p + 1 + 1) w w' ∧ e = .returned (.tuple #[(.func (.func 193) #[] #[]), .nilIface]) := by
  have H := Bx.mk h
  have H1 := Bx.mk h1
  have H2 := Bx.mk h2
  have HE := Bx.mk he
  clear h h1 h2 he
  go_enter Tryz.func180, Tryz.ntmps180
  go_wp2_with (fail)
  refine (handle_calls lx d c t p 186 193 a _ H.out hs h5 HE.out hp (by rw [H1.out]; rfl) H2.out s4_callFunc (fun w => by rw [H1.out]; exact s4_key w)).mono ?_
  rintro e w1 ⟨hL1, rfl⟩
  have HL1 := Bx.mk hL1
  clear hL1
  go_wp2
  go_ret2
  exact ⟨HL1.out, rfl⟩
set_option maxRecDepth 20000 in
set_option maxHeartbeats 400000 in
theorem s9_end (lx : Nat) (d c : Value) (t : ByteArray) (a : Addr) (w : World) (h : Lx lx d c t t.size w) (hs : t.size ≤ 1000) (h5 : lx ≠ 5) (he : EofC a w) :
    Calls Tryz.prog 206 #[.pointer (some ⟨lx, 0, Option.none⟩)] w fun e w' => LStp lx d c t t.size w w' ∧ e = .returned (.tuple #[.nilFunc, .nilIface]) := by
  have H := Bx.mk h
  have HE := Bx.mk he
  clear h he
  go_enter Tryz.func206, Tryz.ntmps206
  go_wp2_with (fail)
  refine (handle_end lx d c t 215 a _ H.out hs h5 HE.out).mono ?_
  rintro e w1 ⟨hL1, rfl⟩
  have HL1 := Bx.mk hL1
  clear hL1
  go_wp2
  go_ret2
  exact ⟨HL1.out, rfl⟩
end Go.Proofs.YtimonhimfioohaaGreatDoor
/-! What works()'s reader does with each line of the least description. -/
namespace Go.Proofs.YtimonhimfioohaaGreatDoor
open Go Go.RowKit Go.PlainAid Kn
/-- The least description. -/
def leastT : ByteArray := ⟨#[118, 61, 48, 13, 10, 111, 61, 45, 32, 49, 32, 49, 32, 73, 78, 32, 73, 80, 52, 32, 97, 13, 10, 115, 61, 120, 13, 10, 116, 61, 48, 32, 48, 13, 10]⟩
theorem least_size : leastT.size = 35 := by decide
/-- The blocks of the reader, the description and the store are new ones. -/
structure RdC (B lx ds cc : Nat) : Prop where
  b5 : 5 < B
  bl : B ≤ lx
  bd : B ≤ ds
  bc : B ≤ cc
  ld : lx ≠ ds
  lc : lx ≠ cc
  dc : ds ≠ cc
theorem RdC.l5 {B lx ds cc : Nat} (h : RdC B lx ds cc) : lx ≠ 5 := by have := h.b5; have := h.bl; omega
theorem RdC.d5 {B lx ds cc : Nat} (h : RdC B lx ds cc) : ds ≠ 5 := by have := h.b5; have := h.bd; omega

structure RdS (lx ds cc : Nat) (t : ByteArray) (p : Nat) (S : Array Value) (a : Addr) (w : World) : Prop where
  l : Lx lx (.pointer (some ⟨ds, 0, Option.none⟩)) (.pointer (some ⟨cc, 0, Option.none⟩)) t p w
  d : w.heap[ds]? = some (.cells S 148)
  c : w.heap[cc]? = some (.cells #[.slice Option.none 0 0, .slice Option.none 0 0] 200)
  e : EofC a w
  n : S.size = 19
theorem RdS.step {B lx ds cc : Nat} {t : ByteArray} {p q : Nat} {S : Array Value} {a : Addr} {w w' : World} (h : RdS lx ds cc t p S a w) (hc : RdC B lx ds cc) (k : LStp lx (.pointer (some ⟨ds, 0, Option.none⟩)) (.pointer (some ⟨cc, 0, Option.none⟩)) t q w w') : RdS lx ds cc t q S a w' :=
  ⟨k.2, (k.1.block ds (blk_lt h.d) hc.ld.symm).trans h.d, (k.1.block cc (blk_lt h.c) hc.lc.symm).trans h.c, h.e.keep k.1 hc.l5, h.n⟩
/-- Of what was, only the three blocks may have changed. -/
structure KeepL (lx ds cc : Nat) (w w' : World) : Prop where
  os : w'.os = w.os
  tape : w'.tape = w.tape
  output : w'.output = w.output
  size : w.heap.size ≤ w'.heap.size
  block : ∀ k, k < w.heap.size → k ≠ lx → k ≠ ds → k ≠ cc → w'.heap[k]? = w.heap[k]?
theorem KeepL.refl (lx ds cc : Nat) (w : World) : KeepL lx ds cc w w := ⟨rfl, rfl, rfl, Nat.le_refl _, fun _ _ _ _ _ => rfl⟩
theorem KeepL.trans {lx ds cc : Nat} {a b c : World} (h : KeepL lx ds cc a b) (k : KeepL lx ds cc b c) : KeepL lx ds cc a c :=
  ⟨k.os.trans h.os, k.tape.trans h.tape, k.output.trans h.output, Nat.le_trans h.size k.size, fun i hi h1 h2 h3 => (k.block i (Nat.lt_of_lt_of_le hi h.size) h1 h2 h3).trans (h.block i hi h1 h2 h3)⟩
theorem KeepL.ofKeep {lx ds cc g : Nat} {w w' : World} (k : Keep g w w') (hg : g = lx ∨ g = ds ∨ g = cc) : KeepL lx ds cc w w' :=
  ⟨k.os, k.tape, k.output, k.size, fun i hi h1 h2 h3 => k.block i hi (by rcases hg with rfl | rfl | rfl; exact h1; exact h2; exact h3)⟩
theorem KeepL.ofBelow {lx ds cc : Nat} {w w' : World} (k : Below w.heap.size w w') : KeepL lx ds cc w w' := ⟨k.os, k.tape, k.output, k.size, fun i hi _ _ _ => k.block i hi⟩
theorem KeepL.new {lx ds cc g : Nat} {w w1 w2 : World} (h : KeepL lx ds cc w w1) (k : Keep g w1 w2) (hg : w.heap.size ≤ g) : KeepL lx ds cc w w2 :=
  ⟨k.os.trans h.os, k.tape.trans h.tape, k.output.trans h.output, Nat.le_trans h.size k.size, fun i hi h1 h2 h3 => (k.block i (Nat.lt_of_lt_of_le hi h.size) (by omega)).trans (h.block i hi h1 h2 h3)⟩
theorem KeepL.keep {lx ds cc : Nat} {w w' : World} (k : KeepL lx ds cc w w') (hl : w.heap.size ≤ lx) (hc : w.heap.size ≤ cc) : Keep ds w w' := ⟨k.os, k.tape, k.output, k.size, fun i hi h => k.block i hi (by omega) h (by omega)⟩
/-- On to place p, the description being S. -/
def RdT (_B lx ds cc : Nat) (t : ByteArray) (p : Nat) (S : Array Value) (a : Addr) (w w' : World) : Prop := KeepL lx ds cc w w' ∧ RdS lx ds cc t p S a w'
theorem RdT.step {B lx ds cc : Nat} {t : ByteArray} {p q : Nat} {S : Array Value} {a : Addr} {w w1 w' : World} (h : RdT B lx ds cc t p S a w w1) (hc : RdC B lx ds cc) (k : LStp lx (.pointer (some ⟨ds, 0, Option.none⟩)) (.pointer (some ⟨cc, 0, Option.none⟩)) t q w1 w') : RdT B lx ds cc t q S a w w' :=
  ⟨h.1.trans (.ofKeep k.1 (.inl rfl)), h.2.step hc k⟩
theorem RdT.drewN {B lx ds cc : Nat} {t : ByteArray} {p : Nat} {S : Array Value} {a : Addr} {w w1 : World} (h : RdT B lx ds cc t p S a w w1) (n : Nat) : RdT B lx ds cc t p S a w (w1.drewN n) :=
  ⟨h.1.trans (.ofBelow (below_drewN (Below.refl _ _) n)), h.2.l, h.2.d, h.2.c, h.2.e, h.2.n⟩
theorem RdT.drew {B lx ds cc : Nat} {t : ByteArray} {p : Nat} {S : Array Value} {a : Addr} {w w1 : World} (h : RdT B lx ds cc t p S a w w1) : RdT B lx ds cc t p S a w w1.drew :=
  ⟨h.1.trans (.ofBelow (Below.drew (Below.refl _ _))), h.2.l, h.2.d, h.2.c, h.2.e, h.2.n⟩
theorem RdT.alloc {B lx ds cc : Nat} {t : ByteArray} {p : Nat} {S : Array Value} {a : Addr} {w w1 : World} (h : RdT B lx ds cc t p S a w w1) (_hc : RdC B lx ds cc) (o : Obj) : RdT B lx ds cc t p S a w (w1.alloc o) :=
  ⟨h.1.trans (.ofBelow (below_alloc (Below.refl _ _) (Nat.le_refl _) o)), blk_alloc h.2.l o, blk_alloc h.2.d o, blk_alloc h.2.c o, cell_below (below_alloc (Below.refl _ _) (Nat.le_refl _) o) h.2.e, h.2.n⟩
/-- A field of the description is written. -/
theorem RdT.put {B lx ds cc : Nat} {t : ByteArray} {p : Nat} {S : Array Value} {a : Addr} {w w1 : World} (h : RdT B lx ds cc t p S a w w1) (hc : RdC B lx ds cc) (i : Nat) (v : Value) : RdT B lx ds cc t p (S.setIfInBounds i v) a w (w1.setCell ⟨ds, i, Option.none⟩ v) := by
  have hk : Keep ds w1 (w1.setCell ⟨ds, i, Option.none⟩ v) := Keep.set v
  exact ⟨h.1.trans (.ofKeep hk (.inr (.inl rfl))), (hk.block lx (blk_lt h.2.l) hc.ld).trans h.2.l, blk_set h.2.d i v, (hk.block cc (blk_lt h.2.c) hc.dc.symm).trans h.2.c, h.2.e.keep hk hc.d5, by rw [Array.size_setIfInBounds]; exact h.2.n⟩
theorem Lx.c0 {lx : Nat} {d c : Value} {t : ByteArray} {p : Nat} {w : World} (h : Lx lx d c t p w) : w.cell? ⟨lx, 0, Option.none⟩ = some d := (blk_cell h 0).trans rfl
theorem Lx.c1 {lx : Nat} {d c : Value} {t : ByteArray} {p : Nat} {w : World} (h : Lx lx d c t p w) : w.cell? ⟨lx, 1, Option.none⟩ = some c := (blk_cell h 1).trans rfl
theorem RdS.cell {lx ds cc : Nat} {t : ByteArray} {p : Nat} {S : Array Value} {a : Addr} {w : World} (h : RdS lx ds cc t p S a w) (i : Nat) : w.cell? ⟨ds, i, Option.none⟩ = S[i]? := blk_cell h.d i
theorem RdS.get {lx ds cc : Nat} {t : ByteArray} {p : Nat} {S : Array Value} {a : Addr} {w : World} (h : RdS lx ds cc t p S a w) (i : Nat) (hi : i < 19) : ∃ v, w.cell? ⟨ds, i, Option.none⟩ = some v := ⟨_, (h.cell i).trans (Array.getElem?_eq_getElem (by rw [h.n]; exact hi))⟩
theorem RdS.at {lx ds cc : Nat} {t : ByteArray} {p : Nat} {S : Array Value} {a : Addr} {w : World} {i : Nat} {v : Value} (h : RdS lx ds cc t p (S.setIfInBounds i v) a w) (hi : i < 19) : w.cell? ⟨ds, i, Option.none⟩ = some v := by
  have hn := h.n
  rw [Array.size_setIfInBounds] at hn
  rw [h.cell i, Array.getElem?_setIfInBounds_self_of_lt (by omega)]
theorem neqFn0 (g : Nat) (w : World) : (binOp .neq 202 (.func (.func g) #[] #[]) .nilFunc).run Tryz.prog w = .ok (.bool true) w := neqFn g 202 (.inl rfl) w
set_option maxRecDepth 20000 in
set_option maxHeartbeats 400000 in
theorem proto_calls (B lx ds cc : Nat) (t : ByteArray) (S : Array Value) (a : Addr) (w : World) (hc : RdC B lx ds cc) (ht : t = leastT) (h : RdS lx ds cc t 2 S a w) :
    Calls Tryz.prog 99 #[.pointer (some ⟨lx, 0, Option.none⟩)] w fun e w' => RdT B lx ds cc t 5 S a w w' ∧ e = .returned (.tuple #[.func (.func 115) #[] #[], .nilIface]) := by
  have hs : t.size = 35 := by rw [ht]; exact least_size
  have HT := Bx.mk ht
  have H : Bx (RdT B lx ds cc t 2 S a w w) := ⟨KeepL.refl _ _ _ _, h⟩
  have HC := Bx.mk hc
  clear ht h hc
  go_enter Tryz.func99, Tryz.ntmps99
  go_wp2_with (fail)
  refine (readUint_calls lx _ _ t 2 3 0 a _ H.out.2.l (by omega) HC.out.l5 H.out.2.e (.inl ⟨by rw [HT.out]; decide, rfl⟩) ⟨by omega, .inl ⟨by rw [HT.out]; decide, rfl⟩⟩).mono ?_
  rintro e w1 ⟨hL, rfl⟩
  have H1 := Bx.mk (H.out.step HC.out hL)
  clear hL
  go_wp2_with (fail)
  refine (nextLine_calls lx _ _ t 3 5 a _ H1.out.2.l (by omega) (by omega) (by omega) HC.out.l5 H1.out.2.e (fun j h1 h2 => by
    have : j = 3 ∨ j = 4 := by omega
    rcases this with rfl | rfl <;> rw [HT.out] <;> decide) (by rw [HT.out]; decide)).mono ?_
  rintro e w2 ⟨hL, rfl⟩
  have H2 := Bx.mk (H1.out.step HC.out hL)
  clear hL
  go_wp2
  go_ret2
  exact ⟨H2.out, rfl⟩
end Go.Proofs.YtimonhimfioohaaGreatDoor
/-! What works()'s reader does with each line of the least description: the name, the origin's parts. -/
namespace Go.Proofs.YtimonhimfioohaaGreatDoor
open Go Go.RowKit Go.PlainAid Kn
set_option maxRecDepth 20000 in
set_option maxHeartbeats 400000 in
theorem index0_calls (s : ByteArray) (g n c : Nat) (w : World) (hc : w.cell? ⟨g, 0, Option.none⟩ = some (.string s)) (hn : 0 < n) : Calls Tryz.prog 109 #[.slice (some ⟨g, 0, Option.none⟩) n c, .string s] w fun e w' => w = w' ∧ e = .returned (.int .i64 0) := by
  go_enter Tryz.func109, Tryz.ntmps109
  go_wp2
  refine wp_loop_rounds 1 ?_
  rw [rounds_succ]
  go_wp2
  go_ret
  exact ⟨rfl, rfl⟩
set_option maxRecDepth 20000 in
set_option maxHeartbeats 400000 in
theorem anyOf_calls (s : ByteArray) (g n c : Nat) (w : World) (hc : w.cell? ⟨g, 0, Option.none⟩ = some (.string s)) (hn : 0 < n) : Calls Tryz.prog 147 #[.string s, .slice (some ⟨g, 0, Option.none⟩) n c] w fun e w' => w = w' ∧ e = .returned (.bool true) := by
  have h94 : Calls Tryz.prog 94 #[.slice (some ⟨g, 0, Option.none⟩) n c, .string s] w fun e w' => w = w' ∧ e = .returned (.bool true) := by
    go_enter Tryz.func94, Tryz.ntmps94
    go_wp2_with (fail)
    refine (index0_calls s g n c _ hc hn).mono ?_
    rintro e w' ⟨rfl, rfl⟩
    go_wp2
    go_ret
    exact ⟨rfl, rfl⟩
  have H := Bx.mk h94
  clear h94
  go_enter Tryz.func147, Tryz.ntmps147
  go_wp2_with (fail)
  refine H.out.mono ?_
  rintro e w' ⟨rfl, rfl⟩
  go_wp2
  go_ret
  exact ⟨rfl, rfl⟩
set_option maxRecDepth 20000 in
set_option maxHeartbeats 800000 in
theorem name_calls (B lx ds cc : Nat) (t : ByteArray) (S : Array Value) (a : Addr) (w : World) (hc : RdC B lx ds cc) (ht : t = leastT) (h : RdS lx ds cc t 25 S a w) :
    Calls Tryz.prog 170 #[.pointer (some ⟨lx, 0, Option.none⟩)] w fun e w' => RdT B lx ds cc t 28 (S.setIfInBounds 7 (.string (t.extract 25 26))) a w w' ∧ e = .returned (.tuple #[.func (.func 180) #[] #[], .nilIface]) := by
  have hs : t.size = 35 := by rw [ht]; exact least_size
  have HT := Bx.mk ht
  have H : Bx (RdT B lx ds cc t 25 S a w w) := ⟨KeepL.refl _ _ _ _, h⟩
  have HC := Bx.mk hc
  clear ht h hc
  go_enter Tryz.func170, Tryz.ntmps170
  go_wp2_with (fail)
  refine (readLine_calls lx _ _ t 25 _ H.out.2.l (by omega) (by omega) (by rw [HT.out]; decide) (by rw [HT.out]; decide) (by rw [HT.out]; decide)).mono ?_
  rintro e w1 ⟨hL, rfl⟩
  have H1 := Bx.mk (H.out.step HC.out hL)
  have c0 := H1.out.2.l.c0
  have f7 := blk_frozen H1.out.2.d 7
  obtain ⟨v7, c7⟩ := H1.out.2.get 7 (by decide)
  clear hL
  go_wp2
  go_ret2
  exact ⟨H1.out.put HC.out 7 _, rfl⟩
set_option maxRecDepth 20000 in
set_option maxHeartbeats 800000 in
theorem required_calls (B lx ds cc : Nat) (t : ByteArray) (S : Array Value) (a : Addr) (w : World) (hc : RdC B lx ds cc) (hs : t.size ≤ 1000) (p q r : Nat) (h : RdS lx ds cc t p S a w) (hpq : p ≤ q)
    (hn : ∀ j, p ≤ j → j < q → IsNl (bt t j) = false ∧ IsWs (bt t j) = false) (hq : FEnd t q r) (hne : (t.extract p q).toList.isEmpty = false) :
    Calls Tryz.prog 168 #[.pointer (some ⟨lx, 0, Option.none⟩)] w fun e w' => RdT B lx ds cc t r S a w w' ∧ e = .returned (.tuple #[.string (t.extract p q), .nilIface]) := by
  have H : Bx (RdT B lx ds cc t p S a w w) := ⟨KeepL.refl _ _ _ _, h⟩
  have HC := Bx.mk hc
  have HN := Bx.mk hn
  have HQ := Bx.mk hq
  clear h hc hn hq
  go_enter Tryz.func168, Tryz.ntmps168
  go_wp2_with (fail)
  refine (readField_calls lx _ _ t p q r a _ H.out.2.l hpq hs HC.out.l5 H.out.2.e HN.out HQ.out).mono ?_
  rintro e w1 ⟨hL, rfl⟩
  have H1 := Bx.mk (H.out.step HC.out hL)
  clear hL
  go_wp2
  go_ret2
  exact ⟨H1.out, rfl⟩
set_option maxRecDepth 20000 in
set_option maxHeartbeats 800000 in
theorem addrType_calls (B lx ds cc : Nat) (t : ByteArray) (S : Array Value) (a : Addr) (w : World) (hc : RdC B lx ds cc) (hs : t.size ≤ 1000) (p q r : Nat) (h : RdS lx ds cc t p S a w) (hpq : p ≤ q)
    (hn : ∀ j, p ≤ j → j < q → IsNl (bt t j) = false ∧ IsWs (bt t j) = false) (hq : FEnd t q r) (hne : (t.extract p q).toList.isEmpty = false) :
    Calls Tryz.prog 148 #[.pointer (some ⟨lx, 0, Option.none⟩)] w fun e w' => RdT B lx ds cc t r (S.setIfInBounds 5 (.string (t.extract p q))) a w w' ∧ e = .returned .nilIface := by
  have H : Bx (RdT B lx ds cc t p S a w w) := ⟨KeepL.refl _ _ _ _, h⟩
  have HC := Bx.mk hc
  have HR := Bx.mk (required_calls B lx ds cc t S a w hc hs p q r h hpq hn hq hne)
  clear h hc hn hq hne
  go_enter Tryz.func148, Tryz.ntmps148
  go_wp2_with (fail)
  refine HR.out.mono ?_
  rintro e w1 ⟨h1, rfl⟩
  have H1 := Bx.mk h1
  have c0 := H1.out.2.l.c0
  have f7 := blk_frozen H1.out.2.d 5
  obtain ⟨v7, c7⟩ := H1.out.2.get 5 (by decide)
  clear h1
  go_wp2
  go_ret
  exact ⟨H1.out.put HC.out 5 _, rfl⟩
set_option maxRecDepth 20000 in
set_option maxHeartbeats 800000 in
theorem unicast_calls (B lx ds cc : Nat) (t : ByteArray) (S : Array Value) (a : Addr) (w : World) (hc : RdC B lx ds cc) (hs : t.size ≤ 1000) (p q r : Nat) (h : RdS lx ds cc t p S a w) (hpq : p ≤ q)
    (hn : ∀ j, p ≤ j → j < q → IsNl (bt t j) = false ∧ IsWs (bt t j) = false) (hq : FEnd t q r) (hne : (t.extract p q).toList.isEmpty = false) :
    Calls Tryz.prog 149 #[.pointer (some ⟨lx, 0, Option.none⟩)] w fun e w' => RdT B lx ds cc t r (S.setIfInBounds 6 (.string (t.extract p q))) a w w' ∧ e = .returned .nilIface := by
  have H : Bx (RdT B lx ds cc t p S a w w) := ⟨KeepL.refl _ _ _ _, h⟩
  have HC := Bx.mk hc
  have HR := Bx.mk (required_calls B lx ds cc t S a w hc hs p q r h hpq hn hq hne)
  clear h hc hn hq hne
  go_enter Tryz.func149, Tryz.ntmps149
  go_wp2_with (fail)
  refine HR.out.mono ?_
  rintro e w1 ⟨h1, rfl⟩
  have H1 := Bx.mk h1
  have c0 := H1.out.2.l.c0
  have f7 := blk_frozen H1.out.2.d 6
  obtain ⟨v7, c7⟩ := H1.out.2.get 6 (by decide)
  clear h1
  go_wp2
  go_ret
  exact ⟨H1.out.put HC.out 6 _, rfl⟩
end Go.Proofs.YtimonhimfioohaaGreatDoor
