/- Lemmas on which the proof of Rows.FnCodecCardSaid rests: no statement of the seat is proved in this file. Conditions: each lemma's own hypotheses, no others. -/
import Derived.Test.YtimonhimfioohaaGreatDoorM00
/-! zzFits: what it tells of sizes. -/
namespace Go.Proofs.YtimonhimfioohaaGreatDoor
open Go Go.RowKit Go.PlainAid Kn
def fS (s : ByteArray) : Prop := s.size ≤ 2147483647
def fL (l : List ByteArray) : Prop := l.length ≤ 2147483647 ∧ ∀ s ∈ l, fS s
def fAtt (x : Att) : Prop := fS x.key ∧ fS x.val
def fAtts (l : List Att) : Prop := l.length ≤ 2147483647 ∧ ∀ x ∈ l, fAtt x
def fBw (x : Bw) : Prop := fS x.typ
def fBws (l : List Bw) : Prop := l.length ≤ 2147483647 ∧ ∀ x ∈ l, fBw x
def fAdr (x : Adr) : Prop := fS x.a ∧ x.ttl.length ≤ 2147483647 ∧ x.rng.length ≤ 2147483647
def fAdrs (l : List Adr) : Prop := l.length ≤ 2147483647 ∧ ∀ x ∈ l, fAdr x
def fCon (x : Con) : Prop := fS x.net ∧ fS x.addr ∧ fAdrs x.adr
def fCons (l : List Con) : Prop := l.length ≤ 2147483647 ∧ ∀ x ∈ l, fCon x
def fRep (x : Rep) : Prop := x.offs.length ≤ 2147483647
def fReps (l : List Rep) : Prop := l.length ≤ 2147483647 ∧ ∀ x ∈ l, fRep x
def fTim (x : Tim) : Prop := fReps x.reps
def fTims (l : List Tim) : Prop := l.length ≤ 2147483647 ∧ ∀ x ∈ l, fTim x
def fMed (x : Med) : Prop := fS x.name ∧ x.ports.length ≤ 2147483647 ∧ fL x.protos ∧ fL x.formats ∧ fL x.title ∧ fCons x.con ∧ fBws x.bw ∧ fL x.key ∧ fAtts x.atts
def fMeds (l : List Med) : Prop := l.length ≤ 2147483647 ∧ ∀ x ∈ l, fMed x
def fSes (x : Ses) : Prop := (fS x.user ∧ fS x.net ∧ fS x.addr ∧ fS x.address) ∧ fS x.name ∧ fL x.info ∧ fL x.uri ∧ fL x.email ∧ fL x.phone ∧ fCons x.con ∧ fBws x.bw ∧ fTims x.tim ∧ x.zon.length ≤ 2147483647 ∧ fL x.key ∧ fAtts x.atts ∧ fMeds x.med
def UpTo {α : Type} (p : α → Prop) (l : List α) (k : Nat) : Prop := ∀ j (h : j < l.length), j < k → p l[j]
theorem upTo_zero {α : Type} (p : α → Prop) (l : List α) : UpTo p l 0 := fun _ _ h => absurd h (Nat.not_lt_zero _)
theorem upTo_succ {α : Type} {p : α → Prop} {l : List α} {k : Nat} (h : UpTo p l k) (hk : k < l.length) (hp : p l[k]) : UpTo p l (k + 1) := fun j hj hjk => by
  rcases Nat.lt_or_ge j k with h1 | h1
  · exact h j hj h1
  · obtain rfl : j = k := by omega
    exact hp
theorem upTo_all {α : Type} {p : α → Prop} {l : List α} (h : UpTo p l l.length) : ∀ x ∈ l, p x := fun x hx => by
  obtain ⟨j, hj, rfl⟩ := List.getElem_of_mem hx
  exact h j hj hj
theorem below_call {w wr w' : World} {o : Obj} (h : Below w.heap.size w wr) (hb : Below (wr.alloc o).heap.size (wr.alloc o) w') : Below w.heap.size w w' :=
  below_trans h ((below_alloc (Below.refl _ _) (Nat.le_refl _) o).trans (hb.mono (by simp)))
theorem box_cells (w : World) (cs : Array Value) (t : TypeId) (j : Nat) (u : Value) (h : cs[j]? = some u) : (w.alloc (.cells cs t)).cell? ⟨w.heap.size, j, Option.none⟩ = some u := by
  rw [World.cell?_alloc_new]; exact h
set_option maxHeartbeats 400000 in
theorem fits15 (x : Att) (w : World) : Calls Tryz.prog 44 #[.agg #[.string x.key, .string x.val]] w (RG (fAtt x) w) := by
  go_enter Tryz.func44, Tryz.ntmps44
  go_wp2
  all_goals (go_ret; refine ⟨by repeat (first | exact Below.refl _ _ | refine below_alloc ?_ (by simp) _), _, rfl, fun h => ?_⟩)
  all_goals first
    | (simp only [fAtt, fS]; omega)
    | exact absurd h (by simp)

theorem att_get {F : Nat → Prop} {w : World} {A : Option Addr} {l : List Att} (h : kAtt.Row F w A l) (i : Nat) (hi : i < l.length) : ∃ ad , A = some ad ∧ w.cell? (ad.add (i * 2)) = some (.string l[i].key) ∧ w.cell? ⟨(ad.add (i * 2)).block, (ad.add (i * 2)).off + 1, Option.none⟩ = some (.string l[i].val) := by
  obtain ⟨ad, cs, e, _, hk, hc⟩ := h.get i hi
  obtain rfl := kAtt_open hk
  exact ⟨ad, e, hc 0 _ rfl, by rw [← add_field ad (i * 2) 1 (by omega)]; exact hc 1 _ rfl⟩

set_option maxHeartbeats 400000 in
theorem fits14 (v : Value) (l : List Att) (F : Nat → Prop) (w : World) (hv : kAtt.SV F w v l) : Calls Tryz.prog 22 #[v] w (RG (fAtts l) w) := by
  obtain ⟨A, c, rfl, hl, hr⟩ := hv
  have hm := hr.1
  have HR := Bx.mk hr
  clear hr
  go_enter Tryz.func22, Tryz.ntmps22
  by_cases hbig : l.length ≤ 2147483647
  · go_wp2
    go_loopw [10] (fun i wr => ∃ k : Nat, k ≤ l.length ∧ i = .int .i64 k ∧ Bx (UpTo fAtt l k) ∧ Bx (Below w.heap.size w wr)) (fun i _ => l.length - (intOf i).toNat)
    case atStart => exact ⟨0, Nat.zero_le _, rfl, ⟨upTo_zero _ _⟩, ⟨Below.refl _ _⟩⟩
    case round =>
      obtain ⟨k, hk, rfl, hU, hB⟩ := hrel
      by_cases hlt : k < l.length
      · obtain ⟨ad, rfl, hc0, hc1⟩ := att_get HR.out k hlt
        replace hc0 := cell_below hB.out hc0
        replace hc1 := cell_below hB.out hc1
        go_wp2_with (fail)
        refine (fits15 l[k] _).mono ?_
        rintro e w' ⟨hb, b, rfl, hf⟩
        have HB := Bx.mk (below_call hB.out hb)
        have HF := Bx.mk hf
        clear hb hf
        cases b
        · go_wp2
          go_ret
          exact ⟨HB.out, false, rfl, fun h => absurd h (by simp)⟩
        · go_wp2
          go_roundw
          case rel => exact ⟨k + 1, by omega, by go_num, ⟨upTo_succ hU.out hlt (HF.out (by simp))⟩, HB⟩
          case measure => simp [intOf]; omega
      · go_wp2
        go_ret
        exact ⟨hB.out, true, rfl, fun _ => ⟨hbig, upTo_all (fun j hj _ => hU.out j hj (by omega))⟩⟩
  · go_wp2
    go_ret
    exact ⟨Below.refl _ _, false, rfl, fun h => absurd h (by simp)⟩

set_option maxHeartbeats 400000 in
theorem fits9 (x : Bw) (w : World) : Calls Tryz.prog 42 #[.agg #[.bool x.exp, .string x.typ, .int .u64 x.n]] w (RG (fBw x) w) := by
  go_enter Tryz.func42, Tryz.ntmps42
  go_wp2
  all_goals (go_ret; refine ⟨by repeat (first | exact Below.refl _ _ | refine below_alloc ?_ (by simp) _), _, rfl, fun h => ?_⟩)
  all_goals first
    | (simp only [fBw, fS]; omega)
    | exact absurd h (by simp)

theorem bw_get {F : Nat → Prop} {w : World} {A : Option Addr} {l : List Bw} (h : kBw.Row F w A l) (i : Nat) (hi : i < l.length) : ∃ ad , A = some ad ∧ w.cell? (ad.add (i * 3)) = some (.bool l[i].exp) ∧ w.cell? ⟨(ad.add (i * 3)).block, (ad.add (i * 3)).off + 1, Option.none⟩ = some (.string l[i].typ) ∧ w.cell? ⟨(ad.add (i * 3)).block, (ad.add (i * 3)).off + 2, Option.none⟩ = some (.int .u64 l[i].n) := by
  obtain ⟨ad, cs, e, _, hk, hc⟩ := h.get i hi
  obtain rfl := kBw_open hk
  exact ⟨ad, e, hc 0 _ rfl, by rw [← add_field ad (i * 3) 1 (by omega)]; exact hc 1 _ rfl, by rw [← add_field ad (i * 3) 2 (by omega)]; exact hc 2 _ rfl⟩

set_option maxHeartbeats 400000 in
theorem fits8 (v : Value) (l : List Bw) (F : Nat → Prop) (w : World) (hv : kBw.SV F w v l) : Calls Tryz.prog 20 #[v] w (RG (fBws l) w) := by
  obtain ⟨A, c, rfl, hl, hr⟩ := hv
  have hm := hr.1
  have HR := Bx.mk hr
  clear hr
  go_enter Tryz.func20, Tryz.ntmps20
  by_cases hbig : l.length ≤ 2147483647
  · go_wp2
    go_loopw [10] (fun i wr => ∃ k : Nat, k ≤ l.length ∧ i = .int .i64 k ∧ Bx (UpTo fBw l k) ∧ Bx (Below w.heap.size w wr)) (fun i _ => l.length - (intOf i).toNat)
    case atStart => exact ⟨0, Nat.zero_le _, rfl, ⟨upTo_zero _ _⟩, ⟨Below.refl _ _⟩⟩
    case round =>
      obtain ⟨k, hk, rfl, hU, hB⟩ := hrel
      by_cases hlt : k < l.length
      · obtain ⟨ad, rfl, hc0, hc1, hc2⟩ := bw_get HR.out k hlt
        replace hc0 := cell_below hB.out hc0
        replace hc1 := cell_below hB.out hc1
        replace hc2 := cell_below hB.out hc2
        go_wp2_with (fail)
        refine (fits9 l[k] _).mono ?_
        rintro e w' ⟨hb, b, rfl, hf⟩
        have HB := Bx.mk (below_call hB.out hb)
        have HF := Bx.mk hf
        clear hb hf
        cases b
        · go_wp2
          go_ret
          exact ⟨HB.out, false, rfl, fun h => absurd h (by simp)⟩
        · go_wp2
          go_roundw
          case rel => exact ⟨k + 1, by omega, by go_num, ⟨upTo_succ hU.out hlt (HF.out (by simp))⟩, HB⟩
          case measure => simp [intOf]; omega
      · go_wp2
        go_ret
        exact ⟨hB.out, true, rfl, fun _ => ⟨hbig, upTo_all (fun j hj _ => hU.out j hj (by omega))⟩⟩
  · go_wp2
    go_ret
    exact ⟨Below.refl _ _, false, rfl, fun h => absurd h (by simp)⟩

set_option maxHeartbeats 400000 in
theorem fits3 (v : Value) (l : List ByteArray) (F : Nat → Prop) (w : World) (hv : Kn.string.SV F w v l) : Calls Tryz.prog 5 #[v] w (RB (fL l) w) := by
  obtain ⟨A, c, rfl, hl, hr⟩ := hv
  have hm := hr.1
  have HR := Bx.mk hr
  clear hr
  go_enter Tryz.func5, Tryz.ntmps5
  by_cases hbig : l.length ≤ 2147483647
  · go_wp2
    go_loop [10] (fun i => ∃ k : Nat, k ≤ l.length ∧ i = .int .i64 k ∧ Bx (UpTo fS l k)) (fun i => l.length - (intOf i).toNat)
    case atStart => exact ⟨0, Nat.zero_le _, rfl, ⟨upTo_zero _ _⟩⟩
    case round =>
      obtain ⟨k, hk, rfl, hU⟩ := hrel
      by_cases hlt : k < l.length
      · obtain ⟨ad, rfl, hc0⟩ := str_get HR.out k hlt
        by_cases hs : l[k].size ≤ 2147483647
        · go_wp2
          exact ⟨⟨k + 1, by omega, by go_num, ⟨upTo_succ hU.out hlt hs⟩⟩, by simp [intOf]; omega⟩
        · go_wp2
          go_ret
          exact ⟨rfl, false, rfl, fun h => absurd h (by simp)⟩
      · go_wp2
        go_ret
        exact ⟨rfl, true, rfl, fun _ => ⟨hbig, upTo_all (fun j hj _ => hU.out j hj (by omega))⟩⟩
  · go_wp2
    go_ret
    exact ⟨rfl, false, rfl, fun h => absurd h (by simp)⟩

set_option maxHeartbeats 1600000 in
theorem fits7 (x : Adr) (v1 v2 : Value) (F : Nat → Prop) (w : World) (hv1 : kI.SV F w v1 x.ttl) (hv2 : kI.SV F w v2 x.rng) : Calls Tryz.prog 95 #[.agg #[.string x.a, v1, v2]] w (RG (fAdr x) w) := by
  obtain ⟨Av1, cv1, rfl, lv1, rv1⟩ := hv1
  have mv1 := rv1.1
  clear rv1
  obtain ⟨Av2, cv2, rfl, lv2, rv2⟩ := hv2
  have mv2 := rv2.1
  clear rv2
  go_enter Tryz.func95, Tryz.ntmps95
  by_cases p2 : x.a.size ≤ 2147483647
  case neg =>
    go_wp2
    go_ret
    exact ⟨below_alloc (Below.refl _ _) (Nat.le_refl _) _, false, rfl, fun h => absurd h (by simp)⟩
  by_cases p3 : x.ttl.length ≤ 2147483647
  case neg =>
    go_wp2
    go_ret
    exact ⟨below_alloc (Below.refl _ _) (Nat.le_refl _) _, false, rfl, fun h => absurd h (by simp)⟩
  by_cases p4 : x.rng.length ≤ 2147483647
  case neg =>
    go_wp2
    go_ret
    exact ⟨below_alloc (Below.refl _ _) (Nat.le_refl _) _, false, rfl, fun h => absurd h (by simp)⟩
  go_wp2
  go_ret
  exact ⟨below_alloc (Below.refl _ _) (Nat.le_refl _) _, true, rfl, fun _ => ⟨p2, p3, p4⟩⟩

theorem adr_get {F : Nat → Prop} {w : World} {A : Option Addr} {l : List Adr} (h : kAdr.Row F w A l) (i : Nat) (hi : i < l.length) : ∃ ad Av1 cv1 Av2 cv2, A = some ad ∧ w.cell? (ad.add (i * 3)) = some (.string l[i].a) ∧ w.cell? ⟨(ad.add (i * 3)).block, (ad.add (i * 3)).off + 1, Option.none⟩ = some (.slice Av1 l[i].ttl.length cv1) ∧ w.cell? ⟨(ad.add (i * 3)).block, (ad.add (i * 3)).off + 2, Option.none⟩ = some (.slice Av2 l[i].rng.length cv2) ∧ kI.SV F w (.slice Av1 l[i].ttl.length cv1) l[i].ttl ∧ kI.SV F w (.slice Av2 l[i].rng.length cv2) l[i].rng := by
  obtain ⟨ad, cs, e, _, hk, hc⟩ := h.get i hi
  obtain ⟨v1, v2, rfl, hv1, hv2⟩ := kAdr_open hk
  obtain ⟨Av1, cv1, rfl, lv1, rv1⟩ := hv1
  obtain ⟨Av2, cv2, rfl, lv2, rv2⟩ := hv2
  exact ⟨ad, Av1, cv1, Av2, cv2, e, hc 0 _ rfl, by rw [← add_field ad (i * 3) 1 (by omega)]; exact hc 1 _ rfl, by rw [← add_field ad (i * 3) 2 (by omega)]; exact hc 2 _ rfl, ⟨Av1, cv1, rfl, lv1, rv1⟩, ⟨Av2, cv2, rfl, lv2, rv2⟩⟩

set_option maxHeartbeats 400000 in
theorem fits6 (v : Value) (l : List Adr) (F : Nat → Prop) (w : World) (hv : kAdr.SV F w v l) : Calls Tryz.prog 68 #[v] w (RG (fAdrs l) w) := by
  obtain ⟨A, c, rfl, hl, hr⟩ := hv
  have hm := hr.1
  have HR := Bx.mk hr
  clear hr
  go_enter Tryz.func68, Tryz.ntmps68
  by_cases hbig : l.length ≤ 2147483647
  · go_wp2
    go_loopw [10] (fun i wr => ∃ k : Nat, k ≤ l.length ∧ i = .int .i64 k ∧ Bx (UpTo fAdr l k) ∧ Bx (Below w.heap.size w wr)) (fun i _ => l.length - (intOf i).toNat)
    case atStart => exact ⟨0, Nat.zero_le _, rfl, ⟨upTo_zero _ _⟩, ⟨Below.refl _ _⟩⟩
    case round =>
      obtain ⟨k, hk, rfl, hU, hB⟩ := hrel
      by_cases hlt : k < l.length
      · obtain ⟨ad, Av1, cv1, Av2, cv2, rfl, hc0, hc1, hc2, hv1, hv2⟩ := adr_get HR.out k hlt
        replace hc0 := cell_below hB.out hc0
        replace hc1 := cell_below hB.out hc1
        replace hc2 := cell_below hB.out hc2
        have Hv1 := Bx.mk (hv1.step (by decide) hB.out)
        clear hv1
        have Hv2 := Bx.mk (hv2.step (by decide) hB.out)
        clear hv2
        go_wp2_with (fail)
        refine (fits7 l[k] _ _ F _ (Hv1.out.step (by decide) (below_alloc (Below.refl _ _) (Nat.le_refl _) _)) (Hv2.out.step (by decide) (below_alloc (Below.refl _ _) (Nat.le_refl _) _))).mono ?_
        rintro e w' ⟨hb, b, rfl, hf⟩
        have HB := Bx.mk (below_call hB.out hb)
        have HF := Bx.mk hf
        clear hb hf
        cases b
        · go_wp2
          go_ret
          exact ⟨HB.out, false, rfl, fun h => absurd h (by simp)⟩
        · go_wp2
          go_roundw
          case rel => exact ⟨k + 1, by omega, by go_num, ⟨upTo_succ hU.out hlt (HF.out (by simp))⟩, HB⟩
          case measure => simp [intOf]; omega
      · go_wp2
        go_ret
        exact ⟨hB.out, true, rfl, fun _ => ⟨hbig, upTo_all (fun j hj _ => hU.out j hj (by omega))⟩⟩
  · go_wp2
    go_ret
    exact ⟨Below.refl _ _, false, rfl, fun h => absurd h (by simp)⟩

set_option maxHeartbeats 1600000 in
theorem fits5 (x : Con) (v2 : Value) (F : Nat → Prop) (w : World) (hv2 : kAdr.SV F w v2 x.adr) : Calls Tryz.prog 41 #[.agg #[.string x.net, .string x.addr, v2]] w (RG (fCon x) w) := by
  have Hv2 := Bx.mk hv2
  clear hv2
  go_enter Tryz.func41, Tryz.ntmps41
  by_cases p0 : x.net.size ≤ 2147483647
  case neg =>
    go_wp2
    go_ret
    exact ⟨below_alloc (Below.refl _ _) (Nat.le_refl _) _, false, rfl, fun h => absurd h (by simp)⟩
  by_cases p1 : x.addr.size ≤ 2147483647
  case neg =>
    go_wp2
    go_ret
    exact ⟨below_alloc (Below.refl _ _) (Nat.le_refl _) _, false, rfl, fun h => absurd h (by simp)⟩
  go_wp2_with (fail)
  refine (fits6 v2 _ F _ (Hv2.out.step (by decide) (below_alloc (Below.refl _ _) (Nat.le_refl _) _))).mono ?_
  rintro e w2 ⟨hb, b, rfl, hf⟩
  have hd := hb
  clear hb
  have HD := Bx.mk hd
  clear hd
  have HF2 := Bx.mk hf
  clear hf
  cases b
  case false =>
    go_wp2
    go_ret
    exact ⟨below_call (Below.refl _ _) HD.out, false, rfl, fun h => absurd h (by simp)⟩
  go_wp2
  go_ret
  exact ⟨below_call (Below.refl _ _) HD.out, true, rfl, fun _ => ⟨p0, p1, HF2.out (by simp)⟩⟩

theorem con_get {F : Nat → Prop} {w : World} {A : Option Addr} {l : List Con} (h : kCon.Row F w A l) (i : Nat) (hi : i < l.length) : ∃ ad Av2 cv2, A = some ad ∧ w.cell? (ad.add (i * 3)) = some (.string l[i].net) ∧ w.cell? ⟨(ad.add (i * 3)).block, (ad.add (i * 3)).off + 1, Option.none⟩ = some (.string l[i].addr) ∧ w.cell? ⟨(ad.add (i * 3)).block, (ad.add (i * 3)).off + 2, Option.none⟩ = some (.slice Av2 l[i].adr.length cv2) ∧ kAdr.SV F w (.slice Av2 l[i].adr.length cv2) l[i].adr := by
  obtain ⟨ad, cs, e, _, hk, hc⟩ := h.get i hi
  obtain ⟨v2, rfl, hv2⟩ := kCon_open hk
  obtain ⟨Av2, cv2, rfl, lv2, rv2⟩ := hv2
  exact ⟨ad, Av2, cv2, e, hc 0 _ rfl, by rw [← add_field ad (i * 3) 1 (by omega)]; exact hc 1 _ rfl, by rw [← add_field ad (i * 3) 2 (by omega)]; exact hc 2 _ rfl, ⟨Av2, cv2, rfl, lv2, rv2⟩⟩

set_option maxHeartbeats 400000 in
theorem fits4 (v : Value) (l : List Con) (F : Nat → Prop) (w : World) (hv : kCon.SV F w v l) : Calls Tryz.prog 19 #[v] w (RG (fCons l) w) := by
  obtain ⟨A, c, rfl, hl, hr⟩ := hv
  have hm := hr.1
  have HR := Bx.mk hr
  clear hr
  go_enter Tryz.func19, Tryz.ntmps19
  by_cases hbig : l.length ≤ 2147483647
  · go_wp2
    go_loopw [10] (fun i wr => ∃ k : Nat, k ≤ l.length ∧ i = .int .i64 k ∧ Bx (UpTo fCon l k) ∧ Bx (Below w.heap.size w wr)) (fun i _ => l.length - (intOf i).toNat)
    case atStart => exact ⟨0, Nat.zero_le _, rfl, ⟨upTo_zero _ _⟩, ⟨Below.refl _ _⟩⟩
    case round =>
      obtain ⟨k, hk, rfl, hU, hB⟩ := hrel
      by_cases hlt : k < l.length
      · obtain ⟨ad, Av2, cv2, rfl, hc0, hc1, hc2, hv2⟩ := con_get HR.out k hlt
        replace hc0 := cell_below hB.out hc0
        replace hc1 := cell_below hB.out hc1
        replace hc2 := cell_below hB.out hc2
        have Hv2 := Bx.mk (hv2.step (by decide) hB.out)
        clear hv2
        go_wp2_with (fail)
        refine (fits5 l[k] _ F _ (Hv2.out.step (by decide) (below_alloc (Below.refl _ _) (Nat.le_refl _) _))).mono ?_
        rintro e w' ⟨hb, b, rfl, hf⟩
        have HB := Bx.mk (below_call hB.out hb)
        have HF := Bx.mk hf
        clear hb hf
        cases b
        · go_wp2
          go_ret
          exact ⟨HB.out, false, rfl, fun h => absurd h (by simp)⟩
        · go_wp2
          go_roundw
          case rel => exact ⟨k + 1, by omega, by go_num, ⟨upTo_succ hU.out hlt (HF.out (by simp))⟩, HB⟩
          case measure => simp [intOf]; omega
      · go_wp2
        go_ret
        exact ⟨hB.out, true, rfl, fun _ => ⟨hbig, upTo_all (fun j hj _ => hU.out j hj (by omega))⟩⟩
  · go_wp2
    go_ret
    exact ⟨Below.refl _ _, false, rfl, fun h => absurd h (by simp)⟩

set_option maxHeartbeats 1600000 in
theorem fits13 (x : Rep) (v2 : Value) (F : Nat → Prop) (w : World) (hv2 : kI.SV F w v2 x.offs) : Calls Tryz.prog 96 #[.agg #[.int .i64 x.iv, .int .i64 x.du, v2]] w (RG (fRep x) w) := by
  obtain ⟨Av2, cv2, rfl, lv2, rv2⟩ := hv2
  have mv2 := rv2.1
  clear rv2
  go_enter Tryz.func96, Tryz.ntmps96
  by_cases p1 : x.offs.length ≤ 2147483647
  case neg =>
    go_wp2
    go_ret
    exact ⟨below_alloc (Below.refl _ _) (Nat.le_refl _) _, false, rfl, fun h => absurd h (by simp)⟩
  go_wp2
  go_ret
  exact ⟨below_alloc (Below.refl _ _) (Nat.le_refl _) _, true, rfl, fun _ => p1⟩

theorem rep_get {F : Nat → Prop} {w : World} {A : Option Addr} {l : List Rep} (h : kRep.Row F w A l) (i : Nat) (hi : i < l.length) : ∃ ad Av2 cv2, A = some ad ∧ w.cell? (ad.add (i * 3)) = some (.int .i64 l[i].iv) ∧ w.cell? ⟨(ad.add (i * 3)).block, (ad.add (i * 3)).off + 1, Option.none⟩ = some (.int .i64 l[i].du) ∧ w.cell? ⟨(ad.add (i * 3)).block, (ad.add (i * 3)).off + 2, Option.none⟩ = some (.slice Av2 l[i].offs.length cv2) ∧ kI.SV F w (.slice Av2 l[i].offs.length cv2) l[i].offs := by
  obtain ⟨ad, cs, e, _, hk, hc⟩ := h.get i hi
  obtain ⟨v2, rfl, hv2⟩ := kRep_open hk
  obtain ⟨Av2, cv2, rfl, lv2, rv2⟩ := hv2
  exact ⟨ad, Av2, cv2, e, hc 0 _ rfl, by rw [← add_field ad (i * 3) 1 (by omega)]; exact hc 1 _ rfl, by rw [← add_field ad (i * 3) 2 (by omega)]; exact hc 2 _ rfl, ⟨Av2, cv2, rfl, lv2, rv2⟩⟩

set_option maxHeartbeats 400000 in
theorem fits12 (v : Value) (l : List Rep) (F : Nat → Prop) (w : World) (hv : kRep.SV F w v l) : Calls Tryz.prog 69 #[v] w (RG (fReps l) w) := by
  obtain ⟨A, c, rfl, hl, hr⟩ := hv
  have hm := hr.1
  have HR := Bx.mk hr
  clear hr
  go_enter Tryz.func69, Tryz.ntmps69
  by_cases hbig : l.length ≤ 2147483647
  · go_wp2
    go_loopw [10] (fun i wr => ∃ k : Nat, k ≤ l.length ∧ i = .int .i64 k ∧ Bx (UpTo fRep l k) ∧ Bx (Below w.heap.size w wr)) (fun i _ => l.length - (intOf i).toNat)
    case atStart => exact ⟨0, Nat.zero_le _, rfl, ⟨upTo_zero _ _⟩, ⟨Below.refl _ _⟩⟩
    case round =>
      obtain ⟨k, hk, rfl, hU, hB⟩ := hrel
      by_cases hlt : k < l.length
      · obtain ⟨ad, Av2, cv2, rfl, hc0, hc1, hc2, hv2⟩ := rep_get HR.out k hlt
        replace hc0 := cell_below hB.out hc0
        replace hc1 := cell_below hB.out hc1
        replace hc2 := cell_below hB.out hc2
        have Hv2 := Bx.mk (hv2.step (by decide) hB.out)
        clear hv2
        go_wp2_with (fail)
        refine (fits13 l[k] _ F _ (Hv2.out.step (by decide) (below_alloc (Below.refl _ _) (Nat.le_refl _) _))).mono ?_
        rintro e w' ⟨hb, b, rfl, hf⟩
        have HB := Bx.mk (below_call hB.out hb)
        have HF := Bx.mk hf
        clear hb hf
        cases b
        · go_wp2
          go_ret
          exact ⟨HB.out, false, rfl, fun h => absurd h (by simp)⟩
        · go_wp2
          go_roundw
          case rel => exact ⟨k + 1, by omega, by go_num, ⟨upTo_succ hU.out hlt (HF.out (by simp))⟩, HB⟩
          case measure => simp [intOf]; omega
      · go_wp2
        go_ret
        exact ⟨hB.out, true, rfl, fun _ => ⟨hbig, upTo_all (fun j hj _ => hU.out j hj (by omega))⟩⟩
  · go_wp2
    go_ret
    exact ⟨Below.refl _ _, false, rfl, fun h => absurd h (by simp)⟩

set_option maxHeartbeats 1600000 in
theorem fits11 (x : Tim) (v2 : Value) (F : Nat → Prop) (w : World) (hv2 : kRep.SV F w v2 x.reps) : Calls Tryz.prog 43 #[.agg #[.int .u64 x.st, .int .u64 x.sp, v2]] w (RG (fTim x) w) := by
  have Hv2 := Bx.mk hv2
  clear hv2
  go_enter Tryz.func43, Tryz.ntmps43
  go_wp2_with (fail)
  refine (fits12 v2 _ F _ (Hv2.out.step (by decide) (below_alloc (Below.refl _ _) (Nat.le_refl _) _))).mono ?_
  rintro e w0 ⟨hb, b, rfl, hf⟩
  have hd := hb
  clear hb
  have HD := Bx.mk hd
  clear hd
  have HF0 := Bx.mk hf
  clear hf
  cases b
  case false =>
    go_wp2
    go_ret
    exact ⟨below_call (Below.refl _ _) HD.out, false, rfl, fun h => absurd h (by simp)⟩
  go_wp2
  go_ret
  exact ⟨below_call (Below.refl _ _) HD.out, true, rfl, fun _ => HF0.out (by simp)⟩

theorem tim_get {F : Nat → Prop} {w : World} {A : Option Addr} {l : List Tim} (h : kTim.Row F w A l) (i : Nat) (hi : i < l.length) : ∃ ad Av2 cv2, A = some ad ∧ w.cell? (ad.add (i * 3)) = some (.int .u64 l[i].st) ∧ w.cell? ⟨(ad.add (i * 3)).block, (ad.add (i * 3)).off + 1, Option.none⟩ = some (.int .u64 l[i].sp) ∧ w.cell? ⟨(ad.add (i * 3)).block, (ad.add (i * 3)).off + 2, Option.none⟩ = some (.slice Av2 l[i].reps.length cv2) ∧ kRep.SV F w (.slice Av2 l[i].reps.length cv2) l[i].reps := by
  obtain ⟨ad, cs, e, _, hk, hc⟩ := h.get i hi
  obtain ⟨v2, rfl, hv2⟩ := kTim_open hk
  obtain ⟨Av2, cv2, rfl, lv2, rv2⟩ := hv2
  exact ⟨ad, Av2, cv2, e, hc 0 _ rfl, by rw [← add_field ad (i * 3) 1 (by omega)]; exact hc 1 _ rfl, by rw [← add_field ad (i * 3) 2 (by omega)]; exact hc 2 _ rfl, ⟨Av2, cv2, rfl, lv2, rv2⟩⟩

set_option maxHeartbeats 400000 in
theorem fits10 (v : Value) (l : List Tim) (F : Nat → Prop) (w : World) (hv : kTim.SV F w v l) : Calls Tryz.prog 21 #[v] w (RG (fTims l) w) := by
  obtain ⟨A, c, rfl, hl, hr⟩ := hv
  have hm := hr.1
  have HR := Bx.mk hr
  clear hr
  go_enter Tryz.func21, Tryz.ntmps21
  by_cases hbig : l.length ≤ 2147483647
  · go_wp2
    go_loopw [10] (fun i wr => ∃ k : Nat, k ≤ l.length ∧ i = .int .i64 k ∧ Bx (UpTo fTim l k) ∧ Bx (Below w.heap.size w wr)) (fun i _ => l.length - (intOf i).toNat)
    case atStart => exact ⟨0, Nat.zero_le _, rfl, ⟨upTo_zero _ _⟩, ⟨Below.refl _ _⟩⟩
    case round =>
      obtain ⟨k, hk, rfl, hU, hB⟩ := hrel
      by_cases hlt : k < l.length
      · obtain ⟨ad, Av2, cv2, rfl, hc0, hc1, hc2, hv2⟩ := tim_get HR.out k hlt
        replace hc0 := cell_below hB.out hc0
        replace hc1 := cell_below hB.out hc1
        replace hc2 := cell_below hB.out hc2
        have Hv2 := Bx.mk (hv2.step (by decide) hB.out)
        clear hv2
        go_wp2_with (fail)
        refine (fits11 l[k] _ F _ (Hv2.out.step (by decide) (below_alloc (Below.refl _ _) (Nat.le_refl _) _))).mono ?_
        rintro e w' ⟨hb, b, rfl, hf⟩
        have HB := Bx.mk (below_call hB.out hb)
        have HF := Bx.mk hf
        clear hb hf
        cases b
        · go_wp2
          go_ret
          exact ⟨HB.out, false, rfl, fun h => absurd h (by simp)⟩
        · go_wp2
          go_roundw
          case rel => exact ⟨k + 1, by omega, by go_num, ⟨upTo_succ hU.out hlt (HF.out (by simp))⟩, HB⟩
          case measure => simp [intOf]; omega
      · go_wp2
        go_ret
        exact ⟨hB.out, true, rfl, fun _ => ⟨hbig, upTo_all (fun j hj _ => hU.out j hj (by omega))⟩⟩
  · go_wp2
    go_ret
    exact ⟨Below.refl _ _, false, rfl, fun h => absurd h (by simp)⟩

set_option maxHeartbeats 1600000 in
theorem fits17 (x : Med) (v2 v3 v4 v5 v6 v7 v8 v9 : Value) (F : Nat → Prop) (w : World) (hv2 : kI.SV F w v2 x.ports) (hv3 : Kn.string.SV F w v3 x.protos) (hv4 : Kn.string.SV F w v4 x.formats) (hv5 : Kn.string.SV F w v5 x.title) (hv6 : kCon.SV F w v6 x.con) (hv7 : kBw.SV F w v7 x.bw) (hv8 : Kn.string.SV F w v8 x.key) (hv9 : kAtt.SV F w v9 x.atts) : Calls Tryz.prog 45 #[.agg #[.string x.name, .int .i64 x.port, v2, v3, v4, v5, v6, v7, v8, v9]] w (RG (fMed x) w) := by
  obtain ⟨Av2, cv2, rfl, lv2, rv2⟩ := hv2
  have mv2 := rv2.1
  clear rv2
  have Hv3 := Bx.mk hv3
  clear hv3
  have Hv4 := Bx.mk hv4
  clear hv4
  have Hv5 := Bx.mk hv5
  clear hv5
  have Hv6 := Bx.mk hv6
  clear hv6
  have Hv7 := Bx.mk hv7
  clear hv7
  have Hv8 := Bx.mk hv8
  clear hv8
  have Hv9 := Bx.mk hv9
  clear hv9
  go_enter Tryz.func45, Tryz.ntmps45
  by_cases p1 : x.name.size ≤ 2147483647
  case neg =>
    go_wp2
    go_ret
    exact ⟨below_alloc (Below.refl _ _) (Nat.le_refl _) _, false, rfl, fun h => absurd h (by simp)⟩
  by_cases p2 : x.ports.length ≤ 2147483647
  case neg =>
    go_wp2
    go_ret
    exact ⟨below_alloc (Below.refl _ _) (Nat.le_refl _) _, false, rfl, fun h => absurd h (by simp)⟩
  go_wp2_with (fail)
  refine (fits3 v3 _ F _ (Hv3.out.step (by decide) (below_alloc (Below.refl _ _) (Nat.le_refl _) _))).mono ?_
  rintro e w' ⟨rfl, b, rfl, hf⟩
  have HF3 := Bx.mk hf
  clear hf
  cases b
  case false =>
    go_wp2
    go_ret
    exact ⟨below_alloc (Below.refl _ _) (Nat.le_refl _) _, false, rfl, fun h => absurd h (by simp)⟩
  go_wp2_with (fail)
  refine (fits3 v4 _ F _ (Hv4.out.step (by decide) (below_alloc (Below.refl _ _) (Nat.le_refl _) _))).mono ?_
  rintro e w' ⟨rfl, b, rfl, hf⟩
  have HF4 := Bx.mk hf
  clear hf
  cases b
  case false =>
    go_wp2
    go_ret
    exact ⟨below_alloc (Below.refl _ _) (Nat.le_refl _) _, false, rfl, fun h => absurd h (by simp)⟩
  go_wp2_with (fail)
  refine (fits3 v5 _ F _ (Hv5.out.step (by decide) (below_alloc (Below.refl _ _) (Nat.le_refl _) _))).mono ?_
  rintro e w' ⟨rfl, b, rfl, hf⟩
  have HF5 := Bx.mk hf
  clear hf
  cases b
  case false =>
    go_wp2
    go_ret
    exact ⟨below_alloc (Below.refl _ _) (Nat.le_refl _) _, false, rfl, fun h => absurd h (by simp)⟩
  go_wp2_with (fail)
  refine (fits4 v6 _ F _ (Hv6.out.step (by decide) (below_alloc (Below.refl _ _) (Nat.le_refl _) _))).mono ?_
  rintro e w6 ⟨hb, b, rfl, hf⟩
  have hd := hb
  clear hb
  have hc6_7 := cell_below hd (box_cells w _ _ 7 _ rfl)
  have HD := Bx.mk hd
  clear hd
  have HF6 := Bx.mk hf
  clear hf
  cases b
  case false =>
    go_wp2
    go_ret
    exact ⟨below_call (Below.refl _ _) HD.out, false, rfl, fun h => absurd h (by simp)⟩
  go_wp2_with (fail)
  refine (fits8 v7 _ F _ (Hv7.out.step (by decide) (below_call (Below.refl _ _) HD.out))).mono ?_
  rintro e w7 ⟨hb, b, rfl, hf⟩
  have hd := below_trans HD.out hb
  clear hb
  clear HD
  have hc7_8 := cell_below hd (box_cells w _ _ 8 _ rfl)
  have hc7_9 := cell_below hd (box_cells w _ _ 9 _ rfl)
  have HD := Bx.mk hd
  clear hd
  have HF7 := Bx.mk hf
  clear hf
  cases b
  case false =>
    go_wp2
    go_ret
    exact ⟨below_call (Below.refl _ _) HD.out, false, rfl, fun h => absurd h (by simp)⟩
  go_wp2_with (fail)
  refine (fits3 v8 _ F _ (Hv8.out.step (by decide) (below_call (Below.refl _ _) HD.out))).mono ?_
  rintro e w' ⟨rfl, b, rfl, hf⟩
  have HF8 := Bx.mk hf
  clear hf
  cases b
  case false =>
    go_wp2
    go_ret
    exact ⟨below_call (Below.refl _ _) HD.out, false, rfl, fun h => absurd h (by simp)⟩
  go_wp2_with (fail)
  refine (fits14 v9 _ F _ (Hv9.out.step (by decide) (below_call (Below.refl _ _) HD.out))).mono ?_
  rintro e w9 ⟨hb, b, rfl, hf⟩
  have hd := below_trans HD.out hb
  clear hb
  clear HD
  have HD := Bx.mk hd
  clear hd
  have HF9 := Bx.mk hf
  clear hf
  cases b
  case false =>
    go_wp2
    go_ret
    exact ⟨below_call (Below.refl _ _) HD.out, false, rfl, fun h => absurd h (by simp)⟩
  go_wp2
  go_ret
  exact ⟨below_call (Below.refl _ _) HD.out, true, rfl, fun _ => ⟨p1, p2, HF3.out (by simp), HF4.out (by simp), HF5.out (by simp), HF6.out (by simp), HF7.out (by simp), HF8.out (by simp), HF9.out (by simp)⟩⟩

theorem med_get {F : Nat → Prop} {w : World} {A : Option Addr} {l : List Med} (h : kMed.Row F w A l) (i : Nat) (hi : i < l.length) : ∃ ad Av2 cv2 Av3 cv3 Av4 cv4 Av5 cv5 Av6 cv6 Av7 cv7 Av8 cv8 Av9 cv9, A = some ad ∧ w.cell? (ad.add (i * 10)) = some (.string l[i].name) ∧ w.cell? ⟨(ad.add (i * 10)).block, (ad.add (i * 10)).off + 1, Option.none⟩ = some (.int .i64 l[i].port) ∧ w.cell? ⟨(ad.add (i * 10)).block, (ad.add (i * 10)).off + 2, Option.none⟩ = some (.slice Av2 l[i].ports.length cv2) ∧ w.cell? ⟨(ad.add (i * 10)).block, (ad.add (i * 10)).off + 3, Option.none⟩ = some (.slice Av3 l[i].protos.length cv3) ∧ w.cell? ⟨(ad.add (i * 10)).block, (ad.add (i * 10)).off + 4, Option.none⟩ = some (.slice Av4 l[i].formats.length cv4) ∧ w.cell? ⟨(ad.add (i * 10)).block, (ad.add (i * 10)).off + 5, Option.none⟩ = some (.slice Av5 l[i].title.length cv5) ∧ w.cell? ⟨(ad.add (i * 10)).block, (ad.add (i * 10)).off + 6, Option.none⟩ = some (.slice Av6 l[i].con.length cv6) ∧ w.cell? ⟨(ad.add (i * 10)).block, (ad.add (i * 10)).off + 7, Option.none⟩ = some (.slice Av7 l[i].bw.length cv7) ∧ w.cell? ⟨(ad.add (i * 10)).block, (ad.add (i * 10)).off + 8, Option.none⟩ = some (.slice Av8 l[i].key.length cv8) ∧ w.cell? ⟨(ad.add (i * 10)).block, (ad.add (i * 10)).off + 9, Option.none⟩ = some (.slice Av9 l[i].atts.length cv9) ∧ kI.SV F w (.slice Av2 l[i].ports.length cv2) l[i].ports ∧ Kn.string.SV F w (.slice Av3 l[i].protos.length cv3) l[i].protos ∧ Kn.string.SV F w (.slice Av4 l[i].formats.length cv4) l[i].formats ∧ Kn.string.SV F w (.slice Av5 l[i].title.length cv5) l[i].title ∧ kCon.SV F w (.slice Av6 l[i].con.length cv6) l[i].con ∧ kBw.SV F w (.slice Av7 l[i].bw.length cv7) l[i].bw ∧ Kn.string.SV F w (.slice Av8 l[i].key.length cv8) l[i].key ∧ kAtt.SV F w (.slice Av9 l[i].atts.length cv9) l[i].atts := by
  obtain ⟨ad, cs, e, _, hk, hc⟩ := h.get i hi
  obtain ⟨v2, v3, v4, v5, v6, v7, v8, v9, rfl, hv2, hv3, hv4, hv5, hv6, hv7, hv8, hv9⟩ := kMed_open hk
  obtain ⟨Av2, cv2, rfl, lv2, rv2⟩ := hv2
  obtain ⟨Av3, cv3, rfl, lv3, rv3⟩ := hv3
  obtain ⟨Av4, cv4, rfl, lv4, rv4⟩ := hv4
  obtain ⟨Av5, cv5, rfl, lv5, rv5⟩ := hv5
  obtain ⟨Av6, cv6, rfl, lv6, rv6⟩ := hv6
  obtain ⟨Av7, cv7, rfl, lv7, rv7⟩ := hv7
  obtain ⟨Av8, cv8, rfl, lv8, rv8⟩ := hv8
  obtain ⟨Av9, cv9, rfl, lv9, rv9⟩ := hv9
  exact ⟨ad, Av2, cv2, Av3, cv3, Av4, cv4, Av5, cv5, Av6, cv6, Av7, cv7, Av8, cv8, Av9, cv9, e, hc 0 _ rfl, by rw [← add_field ad (i * 10) 1 (by omega)]; exact hc 1 _ rfl, by rw [← add_field ad (i * 10) 2 (by omega)]; exact hc 2 _ rfl, by rw [← add_field ad (i * 10) 3 (by omega)]; exact hc 3 _ rfl, by rw [← add_field ad (i * 10) 4 (by omega)]; exact hc 4 _ rfl, by rw [← add_field ad (i * 10) 5 (by omega)]; exact hc 5 _ rfl, by rw [← add_field ad (i * 10) 6 (by omega)]; exact hc 6 _ rfl, by rw [← add_field ad (i * 10) 7 (by omega)]; exact hc 7 _ rfl, by rw [← add_field ad (i * 10) 8 (by omega)]; exact hc 8 _ rfl, by rw [← add_field ad (i * 10) 9 (by omega)]; exact hc 9 _ rfl, ⟨Av2, cv2, rfl, lv2, rv2⟩, ⟨Av3, cv3, rfl, lv3, rv3⟩, ⟨Av4, cv4, rfl, lv4, rv4⟩, ⟨Av5, cv5, rfl, lv5, rv5⟩, ⟨Av6, cv6, rfl, lv6, rv6⟩, ⟨Av7, cv7, rfl, lv7, rv7⟩, ⟨Av8, cv8, rfl, lv8, rv8⟩, ⟨Av9, cv9, rfl, lv9, rv9⟩⟩

set_option maxHeartbeats 400000 in
theorem fits16 (v : Value) (l : List Med) (F : Nat → Prop) (w : World) (hv : kMed.SV F w v l) : Calls Tryz.prog 23 #[v] w (RG (fMeds l) w) := by
  obtain ⟨A, c, rfl, hl, hr⟩ := hv
  have hm := hr.1
  have HR := Bx.mk hr
  clear hr
  go_enter Tryz.func23, Tryz.ntmps23
  by_cases hbig : l.length ≤ 2147483647
  · go_wp2
    go_loopw [10] (fun i wr => ∃ k : Nat, k ≤ l.length ∧ i = .int .i64 k ∧ Bx (UpTo fMed l k) ∧ Bx (Below w.heap.size w wr)) (fun i _ => l.length - (intOf i).toNat)
    case atStart => exact ⟨0, Nat.zero_le _, rfl, ⟨upTo_zero _ _⟩, ⟨Below.refl _ _⟩⟩
    case round =>
      obtain ⟨k, hk, rfl, hU, hB⟩ := hrel
      by_cases hlt : k < l.length
      · obtain ⟨ad, Av2, cv2, Av3, cv3, Av4, cv4, Av5, cv5, Av6, cv6, Av7, cv7, Av8, cv8, Av9, cv9, rfl, hc0, hc1, hc2, hc3, hc4, hc5, hc6, hc7, hc8, hc9, hv2, hv3, hv4, hv5, hv6, hv7, hv8, hv9⟩ := med_get HR.out k hlt
        replace hc0 := cell_below hB.out hc0
        replace hc1 := cell_below hB.out hc1
        replace hc2 := cell_below hB.out hc2
        replace hc3 := cell_below hB.out hc3
        replace hc4 := cell_below hB.out hc4
        replace hc5 := cell_below hB.out hc5
        replace hc6 := cell_below hB.out hc6
        replace hc7 := cell_below hB.out hc7
        replace hc8 := cell_below hB.out hc8
        replace hc9 := cell_below hB.out hc9
        have Hv2 := Bx.mk (hv2.step (by decide) hB.out)
        clear hv2
        have Hv3 := Bx.mk (hv3.step (by decide) hB.out)
        clear hv3
        have Hv4 := Bx.mk (hv4.step (by decide) hB.out)
        clear hv4
        have Hv5 := Bx.mk (hv5.step (by decide) hB.out)
        clear hv5
        have Hv6 := Bx.mk (hv6.step (by decide) hB.out)
        clear hv6
        have Hv7 := Bx.mk (hv7.step (by decide) hB.out)
        clear hv7
        have Hv8 := Bx.mk (hv8.step (by decide) hB.out)
        clear hv8
        have Hv9 := Bx.mk (hv9.step (by decide) hB.out)
        clear hv9
        go_wp2_with (fail)
        refine (fits17 l[k] _ _ _ _ _ _ _ _ F _ (Hv2.out.step (by decide) (below_alloc (Below.refl _ _) (Nat.le_refl _) _)) (Hv3.out.step (by decide) (below_alloc (Below.refl _ _) (Nat.le_refl _) _)) (Hv4.out.step (by decide) (below_alloc (Below.refl _ _) (Nat.le_refl _) _)) (Hv5.out.step (by decide) (below_alloc (Below.refl _ _) (Nat.le_refl _) _)) (Hv6.out.step (by decide) (below_alloc (Below.refl _ _) (Nat.le_refl _) _)) (Hv7.out.step (by decide) (below_alloc (Below.refl _ _) (Nat.le_refl _) _)) (Hv8.out.step (by decide) (below_alloc (Below.refl _ _) (Nat.le_refl _) _)) (Hv9.out.step (by decide) (below_alloc (Below.refl _ _) (Nat.le_refl _) _))).mono ?_
        rintro e w' ⟨hb, b, rfl, hf⟩
        have HB := Bx.mk (below_call hB.out hb)
        have HF := Bx.mk hf
        clear hb hf
        cases b
        · go_wp2
          go_ret
          exact ⟨HB.out, false, rfl, fun h => absurd h (by simp)⟩
        · go_wp2
          go_roundw
          case rel => exact ⟨k + 1, by omega, by go_num, ⟨upTo_succ hU.out hlt (HF.out (by simp))⟩, HB⟩
          case measure => simp [intOf]; omega
      · go_wp2
        go_ret
        exact ⟨hB.out, true, rfl, fun _ => ⟨hbig, upTo_all (fun j hj _ => hU.out j hj (by omega))⟩⟩
  · go_wp2
    go_ret
    exact ⟨Below.refl _ _, false, rfl, fun h => absurd h (by simp)⟩

set_option maxHeartbeats 400000 in
theorem fits2 (user net addr address : ByteArray) (id ver2 : Int) (w : World) : Calls Tryz.prog 18 #[.agg #[.string user, .int .u64 id, .int .u64 ver2, .string net, .string addr, .string address]] w (RG (fS user ∧ fS net ∧ fS addr ∧ fS address) w) := by
  go_enter Tryz.func18, Tryz.ntmps18
  go_wp2
  all_goals (go_ret; refine ⟨by repeat (first | exact Below.refl _ _ | refine below_alloc ?_ (by simp) _), _, rfl, fun h => ?_⟩)
  all_goals first
    | (simp only [fS]; omega)
    | exact absurd h (by simp)

set_option maxHeartbeats 1600000 in
theorem fits1 (x : Ses) (u1 u2 u3 u4 u5 u6 u7 u8 u9 u10 u11 : Value) (F : Nat → Prop) (w : World) (hu1 : Kn.string.SV F w u1 x.info) (hu2 : Kn.string.SV F w u2 x.uri) (hu3 : Kn.string.SV F w u3 x.email) (hu4 : Kn.string.SV F w u4 x.phone) (hu5 : kCon.SV F w u5 x.con) (hu6 : kBw.SV F w u6 x.bw) (hu7 : kTim.SV F w u7 x.tim) (hu8 : kZon.SV F w u8 x.zon) (hu9 : Kn.string.SV F w u9 x.key) (hu10 : kAtt.SV F w u10 x.atts) (hu11 : kMed.SV F w u11 x.med) : Calls Tryz.prog 4 #[.agg #[.int .i64 x.ver, .string x.user, .int .u64 x.id, .int .u64 x.ver2, .string x.net, .string x.addr, .string x.address, .string x.name, u1, u2, u3, u4, u5, u6, u7, u8, u9, u10, u11]] w (RG (fSes x) w) := by
  obtain ⟨Au8, cu8, rfl, lu8, ru8⟩ := hu8
  have mu8 := ru8.1
  clear ru8
  have Hu1 := Bx.mk hu1
  clear hu1
  have Hu2 := Bx.mk hu2
  clear hu2
  have Hu3 := Bx.mk hu3
  clear hu3
  have Hu4 := Bx.mk hu4
  clear hu4
  have Hu5 := Bx.mk hu5
  clear hu5
  have Hu6 := Bx.mk hu6
  clear hu6
  have Hu7 := Bx.mk hu7
  clear hu7
  have Hu9 := Bx.mk hu9
  clear hu9
  have Hu10 := Bx.mk hu10
  clear hu10
  have Hu11 := Bx.mk hu11
  clear hu11
  go_enter Tryz.func4, Tryz.ntmps4
  go_wp2_with (fail)
  refine (fits2 _ _ _ _ _ _ _).mono ?_
  rintro e w1 ⟨hb, b, rfl, hf⟩
  have hd := hb
  clear hb
  have hc1_7 := cell_below hd (box_cells w _ _ 7 _ rfl)
  have hc1_8 := cell_below hd (box_cells w _ _ 8 _ rfl)
  have hc1_9 := cell_below hd (box_cells w _ _ 9 _ rfl)
  have hc1_10 := cell_below hd (box_cells w _ _ 10 _ rfl)
  have hc1_11 := cell_below hd (box_cells w _ _ 11 _ rfl)
  have hc1_12 := cell_below hd (box_cells w _ _ 12 _ rfl)
  have HD := Bx.mk hd
  clear hd
  have HF1 := Bx.mk hf
  clear hf
  cases b
  case false =>
    go_wp2
    go_ret
    exact ⟨below_call (Below.refl _ _) HD.out, false, rfl, fun h => absurd h (by simp)⟩
  by_cases p2 : x.name.size ≤ 2147483647
  case neg =>
    go_wp2
    go_ret
    exact ⟨below_call (Below.refl _ _) HD.out, false, rfl, fun h => absurd h (by simp)⟩
  go_wp2_with (fail)
  refine (fits3 u1 _ F _ (Hu1.out.step (by decide) (below_call (Below.refl _ _) HD.out))).mono ?_
  rintro e w' ⟨rfl, b, rfl, hf⟩
  have HF3 := Bx.mk hf
  clear hf
  cases b
  case false =>
    go_wp2
    go_ret
    exact ⟨below_call (Below.refl _ _) HD.out, false, rfl, fun h => absurd h (by simp)⟩
  go_wp2_with (fail)
  refine (fits3 u2 _ F _ (Hu2.out.step (by decide) (below_call (Below.refl _ _) HD.out))).mono ?_
  rintro e w' ⟨rfl, b, rfl, hf⟩
  have HF4 := Bx.mk hf
  clear hf
  cases b
  case false =>
    go_wp2
    go_ret
    exact ⟨below_call (Below.refl _ _) HD.out, false, rfl, fun h => absurd h (by simp)⟩
  go_wp2_with (fail)
  refine (fits3 u3 _ F _ (Hu3.out.step (by decide) (below_call (Below.refl _ _) HD.out))).mono ?_
  rintro e w' ⟨rfl, b, rfl, hf⟩
  have HF5 := Bx.mk hf
  clear hf
  cases b
  case false =>
    go_wp2
    go_ret
    exact ⟨below_call (Below.refl _ _) HD.out, false, rfl, fun h => absurd h (by simp)⟩
  go_wp2_with (fail)
  refine (fits3 u4 _ F _ (Hu4.out.step (by decide) (below_call (Below.refl _ _) HD.out))).mono ?_
  rintro e w' ⟨rfl, b, rfl, hf⟩
  have HF6 := Bx.mk hf
  clear hf
  cases b
  case false =>
    go_wp2
    go_ret
    exact ⟨below_call (Below.refl _ _) HD.out, false, rfl, fun h => absurd h (by simp)⟩
  go_wp2_with (fail)
  refine (fits4 u5 _ F _ (Hu5.out.step (by decide) (below_call (Below.refl _ _) HD.out))).mono ?_
  rintro e w7 ⟨hb, b, rfl, hf⟩
  have hd := below_trans HD.out hb
  clear hb
  clear HD
  have hc7_13 := cell_below hd (box_cells w _ _ 13 _ rfl)
  have HD := Bx.mk hd
  clear hd
  have HF7 := Bx.mk hf
  clear hf
  cases b
  case false =>
    go_wp2
    go_ret
    exact ⟨below_call (Below.refl _ _) HD.out, false, rfl, fun h => absurd h (by simp)⟩
  go_wp2_with (fail)
  refine (fits8 u6 _ F _ (Hu6.out.step (by decide) (below_call (Below.refl _ _) HD.out))).mono ?_
  rintro e w8 ⟨hb, b, rfl, hf⟩
  have hd := below_trans HD.out hb
  clear hb
  clear HD
  have hc8_14 := cell_below hd (box_cells w _ _ 14 _ rfl)
  have HD := Bx.mk hd
  clear hd
  have HF8 := Bx.mk hf
  clear hf
  cases b
  case false =>
    go_wp2
    go_ret
    exact ⟨below_call (Below.refl _ _) HD.out, false, rfl, fun h => absurd h (by simp)⟩
  go_wp2_with (fail)
  refine (fits10 u7 _ F _ (Hu7.out.step (by decide) (below_call (Below.refl _ _) HD.out))).mono ?_
  rintro e w9 ⟨hb, b, rfl, hf⟩
  have hd := below_trans HD.out hb
  clear hb
  clear HD
  have hc9_15 := cell_below hd (box_cells w _ _ 15 _ rfl)
  have hc9_16 := cell_below hd (box_cells w _ _ 16 _ rfl)
  have hc9_17 := cell_below hd (box_cells w _ _ 17 _ rfl)
  have HD := Bx.mk hd
  clear hd
  have HF9 := Bx.mk hf
  clear hf
  cases b
  case false =>
    go_wp2
    go_ret
    exact ⟨below_call (Below.refl _ _) HD.out, false, rfl, fun h => absurd h (by simp)⟩
  by_cases p10 : x.zon.length ≤ 2147483647
  case neg =>
    go_wp2
    go_ret
    exact ⟨below_call (Below.refl _ _) HD.out, false, rfl, fun h => absurd h (by simp)⟩
  go_wp2_with (fail)
  refine (fits3 u9 _ F _ (Hu9.out.step (by decide) (below_call (Below.refl _ _) HD.out))).mono ?_
  rintro e w' ⟨rfl, b, rfl, hf⟩
  have HF11 := Bx.mk hf
  clear hf
  cases b
  case false =>
    go_wp2
    go_ret
    exact ⟨below_call (Below.refl _ _) HD.out, false, rfl, fun h => absurd h (by simp)⟩
  go_wp2_with (fail)
  refine (fits14 u10 _ F _ (Hu10.out.step (by decide) (below_call (Below.refl _ _) HD.out))).mono ?_
  rintro e w12 ⟨hb, b, rfl, hf⟩
  have hd := below_trans HD.out hb
  clear hb
  clear HD
  have hc12_18 := cell_below hd (box_cells w _ _ 18 _ rfl)
  have HD := Bx.mk hd
  clear hd
  have HF12 := Bx.mk hf
  clear hf
  cases b
  case false =>
    go_wp2
    go_ret
    exact ⟨below_call (Below.refl _ _) HD.out, false, rfl, fun h => absurd h (by simp)⟩
  go_wp2_with (fail)
  refine (fits16 u11 _ F _ (Hu11.out.step (by decide) (below_call (Below.refl _ _) HD.out))).mono ?_
  rintro e w13 ⟨hb, b, rfl, hf⟩
  have hd := below_trans HD.out hb
  clear hb
  clear HD
  have HD := Bx.mk hd
  clear hd
  have HF13 := Bx.mk hf
  clear hf
  cases b
  case false =>
    go_wp2
    go_ret
    exact ⟨below_call (Below.refl _ _) HD.out, false, rfl, fun h => absurd h (by simp)⟩
  go_wp2
  go_ret
  exact ⟨below_call (Below.refl _ _) HD.out, true, rfl, fun _ => ⟨HF1.out (by simp), p2, HF3.out (by simp), HF4.out (by simp), HF5.out (by simp), HF6.out (by simp), HF7.out (by simp), HF8.out (by simp), HF9.out (by simp), p10, HF11.out (by simp), HF12.out (by simp), HF13.out (by simp)⟩⟩

end Go.Proofs.YtimonhimfioohaaGreatDoor
/-! laws.attributes, bandwidths, connections, session: the reference's session reads as the one that came in. -/
namespace Go.Proofs.YtimonhimfioohaaGreatDoor
open Go Go.RowKit Go.PlainAid Kn
/-- A slice is handed back that reads as l; its rows lie in F. -/
def RS {α : Type} (k : Kn α) (l : List α) (F : Nat → Prop) (w : World) (e : Ending) (w' : World) : Prop := Below w.heap.size w w' ∧ ∃ A c, e = .returned (.slice A l.length c) ∧ k.SV F w' (.slice A l.length c) l
theorem info96 : (Tryz.prog.info? 96).map (fun i => (i.zero, i.size, i.bytes)) = some (some (.agg #[.string ⟨#[]⟩, .string ⟨#[]⟩]), 2, 32) := by kernel_rfl
theorem info131 : (Tryz.prog.info? 131).map (fun i => (i.zero, i.size, i.bytes)) = some (some (.agg #[.bool false, .string ⟨#[]⟩, .int .u64 0]), 3, 32) := by kernel_rfl
theorem info130 : (Tryz.prog.info? 130).map (fun i => (i.zero, i.size, i.bytes)) = some (some (.agg #[.string ⟨#[]⟩, .slice Option.none 0 0, .slice Option.none 0 0]), 3, 64) := by kernel_rfl
theorem info127 : (Tryz.prog.info? 127).map (fun i => (i.zero, i.size, i.bytes)) = some (some (.agg #[.string ⟨#[]⟩, .string ⟨#[]⟩, .slice Option.none 0 0]), 3, 56) := by kernel_rfl
theorem take_snoc {α : Type} (l : List α) (k : Nat) (h : k < l.length) : l.take k ++ [l[k]] = l.take (k + 1) := (List.take_succ_eq_append_getElem h).symm
theorem own_alloc {α : Type} {k : Kn α} {e : TypeId} {w : World} {base : Nat} {F : Nat → Prop} {v : Value} {xs : List α} (h : k.Own e w base F v xs) (o : Obj) : k.Own e (w.alloc o) base F v xs :=
  h.step fun _b _ hb => Below.heap_alloc _ _ _ hb
theorem below_grown {B : Nat} {w W w1 : World} {α : Type} {k : Kn α} {e : TypeId} {base : Nat} {F : Nat → Prop} {v : Value} {xs : List α} (h : Below B w W) (hB : B ≤ W.heap.size) (ho : k.Own e W base F v xs) (hb : B ≤ base) (hg : W.grownBy w1 v.ownBlock) : Below B w w1 :=
  h.grown hg hB fun b hv => by have := (ho.lt b hv).1; omega
theorem out_of_own {α : Type} {k : Kn α} {e : TypeId} {w w' : World} {base : Nat} {F : Nat → Prop} {v : Value} {xs : List α} (hb : Below w.heap.size w w') (h : k.Own e w' base F v xs) : RS k xs F w (.returned v) w' := by
  have hr := h.reads
  obtain ⟨A, c, rfl, r⟩ := hr
  exact ⟨hb, A, c, rfl, A, c, rfl, r⟩
theorem blk_cell {w : World} {g : Nat} {t : TypeId} {cs : Array Value} {fr : Nat × Nat} (h : w.heap[g]? = some (.cells cs t fr)) (i : Nat) : w.cell? ⟨g, i, Option.none⟩ = cs[i]? := cell_of_row w g i cs t fr h
theorem blk_frozen {w : World} {g : Nat} {t : TypeId} {cs : Array Value} (h : w.heap[g]? = some (.cells cs t (0, 0))) (i : Nat) : w.frozen? ⟨g, i, Option.none⟩ = false := by simp [World.frozen?, h]
theorem blk_set {w : World} {g : Nat} {t : TypeId} {cs : Array Value} (h : w.heap[g]? = some (.cells cs t (0, 0))) (i : Nat) (u : Value) : (w.setCell ⟨g, i, Option.none⟩ u).heap[g]? = some (.cells (cs.setIfInBounds i u) t (0, 0)) := by
  simp [World.setCell, Array.getElem?_modify, h]
theorem blk_lt {w : World} {g : Nat} {o : Obj} (h : w.heap[g]? = some o) : g < w.heap.size := (Array.getElem?_eq_some_iff.1 h).1
theorem blk_grown {w w1 : World} {g : Nat} {o : Obj} {row : Option Nat} (h : w.heap[g]? = some o) (hg : w.grownBy w1 row) (hne : ∀ b, row = some b → b ≠ g) : w1.heap[g]? = some o :=
  (hg.block g (blk_lt h) (fun e => hne g e.symm rfl)).trans h
theorem blk_alloc {w : World} {g : Nat} {o : Obj} (h : w.heap[g]? = some o) (o' : Obj) : (w.alloc o').heap[g]? = some o := (Below.heap_alloc _ _ _ (blk_lt h)).trans h
section
variable {P : Program} {ops : Array Oper} {rest : List Oper} {o : Oper} {a : Act} {Q : Exit → Act → World → Prop} {α : Type}
/-- append to a row of the call's own, all of whose parts are of the call's own too or lie in D. -/
theorem app_row (k : Kn α) {w W : World} {B : Nat} (F : Nat → Prop) (hgd : o.guard = Option.none) (s x : Operand) (t e : TypeId) (z : Value) (bytes : Nat)
    (ho : o.op = .call { callee := .builtin .append, args := #[s, x], argTypes := #[t, t] })
    (ht : P.underlying t = some (.slice e)) (hinfo : (P.info? e).map (fun i => (i.zero, i.size, i.bytes)) = some (some z, k.sz, bytes)) (hz : z.cells.size = k.sz) (hs0 : 0 < k.sz) (hb0 : 0 < bytes) (hb1 : bytes ≤ 1000)
    (v : Value) (xs : List α) (p : α) (cs : List Value) (m : Nat) (hm : xs.length = m) (n : Nat) (hs : a.eval s = v) (hx : a.eval x = .slice (some ⟨n, 0, Option.none⟩) 1 1) (hn : n = W.heap.size)
    (hp : Bx (k.K (fun b => F b ∧ some b ≠ v.ownBlock) W p cs)) (HO : Bx (k.Own e W B F v xs)) (HB : Bx (Below w.heap.size w W)) (hB : w.heap.size ≤ B) (hB2 : B ≤ W.heap.size) (hF : ∀ b, B ≤ b → F b) (hl : m + 1 ≤ 2147483648)
    (h : ∀ A1 c1 w1, Bx (k.Own e w1 B F (.slice A1 (m + 1) c1) (xs ++ [p])) → Bx (Below w.heap.size w w1) → Bx (W.grownBy w1 v.ownBlock) → wpList P ops Q rest (a.put o.dst (.slice A1 (m + 1) c1)) w1) :
    wpList P ops Q (o :: rest) a (W.alloc (.cells cs.toArray e)) := by
  subst hm
  have hbnd : (xs.length + 1) * bytes ≤ 140737488355328 := Nat.le_trans (Nat.mul_le_mul hl hb1) (by decide)
  refine Own.append k B hgd s x t e z bytes ho ht hinfo hz hs0 hb0 v xs p cs F n hs hx hn hp.out (fun b hb => hF b (by omega)) HO.out hB2 hbnd ?_
  intro v1 w1 HO1 hg
  obtain ⟨A1, c1, rfl, hr⟩ := HO1.reads
  rw [List.length_append, List.length_singleton] at HO1 ⊢
  exact h A1 c1 w1 ⟨HO1⟩ ⟨below_grown HB.out HB.out.size HO.out hB hg⟩ ⟨hg⟩
end
set_option maxHeartbeats 400000 in
theorem latts (v : Value) (l : List Att) (D : Nat → Prop) (w : World) (hv : kAtt.SV D w v l) (hlen : l.length ≤ 2147483647) : Calls Tryz.prog 26 #[v] w (RS kAtt l (fun b => w.heap.size ≤ b) w) := by
  obtain ⟨A, c, rfl, hl, hr⟩ := hv
  have HR := Bx.mk hr
  clear hr
  go_enter Tryz.func26, Tryz.ntmps26
  go_wp2
  go_loopw [3, 8] (fun out i wr => ∃ k : Nat, k ≤ l.length ∧ i = .int .i64 k ∧ Bx (kAtt.Own 96 wr w.heap.size (fun b => w.heap.size ≤ b) out (l.take k)) ∧ Bx (Below w.heap.size w wr)) (fun _ i _ => l.length - (intOf i).toNat)
  case atStart => exact ⟨0, Nat.zero_le _, rfl, ⟨Own.nil _ _ _ _ _⟩, ⟨Below.refl _ _⟩⟩
  case round =>
    obtain ⟨k, hk, rfl, hO, hB⟩ := hrel
    by_cases hlt : k < l.length
    · obtain ⟨ad, rfl, hc0, hc1⟩ := att_get HR.out k hlt
      replace hc0 := cell_below hB.out hc0
      replace hc1 := cell_below hB.out hc1
      have HO1 := Bx.mk (own_alloc hO.out (.cells #[.string l[k].key, .string l[k].val] 51))
      have HB1 := Bx.mk (below_alloc hB.out hB.out.size (.cells #[.string l[k].key, .string l[k].val] 51))
      have HL : k + 1 ≤ 2147483648 := by omega
      have HM := Bx.mk (List.length_take_of_le hk)
      clear hO hB
      go_wp2_with (at_builtin; refine app_row kAtt _ rfl _ _ 41 96 _ 32 rfl Tryz.underlying41 info96 rfl (by decide) (by decide) (by decide) u3 (l.take k) l[k] [.string l[k].key, .string l[k].val] k HM.out _ rfl rfl (by simp) ⟨kAtt_mk _ _ _⟩ HO1 HB1 (Nat.le_refl _) HB1.out.size (fun _ h => h) HL ?_; intro A1 c1 w1 HO2 HB2 _)
      go_roundw
      case rel => exact ⟨k + 1, by omega, by go_num, by rw [← take_snoc l k hlt]; exact HO2, HB2⟩
      case measure => simp [intOf]; omega
    · go_wp2
      go_ret
      obtain rfl : k = l.length := by omega
      have := hO.out
      rw [List.take_length] at this
      exact out_of_own hB.out this
set_option maxHeartbeats 400000 in
theorem lbws (v : Value) (l : List Bw) (D : Nat → Prop) (w : World) (hv : kBw.SV D w v l) (hlen : l.length ≤ 2147483647) : Calls Tryz.prog 25 #[v] w (RS kBw l (fun b => w.heap.size ≤ b) w) := by
  obtain ⟨A, c, rfl, hl, hr⟩ := hv
  have HR := Bx.mk hr
  clear hr
  go_enter Tryz.func25, Tryz.ntmps25
  go_wp2
  go_loopw [3, 8] (fun out i wr => ∃ k : Nat, k ≤ l.length ∧ i = .int .i64 k ∧ Bx (kBw.Own 131 wr w.heap.size (fun b => w.heap.size ≤ b) out (l.take k)) ∧ Bx (Below w.heap.size w wr)) (fun _ i _ => l.length - (intOf i).toNat)
  case atStart => exact ⟨0, Nat.zero_le _, rfl, ⟨Own.nil _ _ _ _ _⟩, ⟨Below.refl _ _⟩⟩
  case round =>
    obtain ⟨k, hk, rfl, hO, hB⟩ := hrel
    by_cases hlt : k < l.length
    · obtain ⟨ad, rfl, hc0, hc1, hc2⟩ := bw_get HR.out k hlt
      replace hc0 := cell_below hB.out hc0
      replace hc1 := cell_below hB.out hc1
      replace hc2 := cell_below hB.out hc2
      have HO1 := Bx.mk (own_alloc hO.out (.cells #[.bool l[k].exp, .string l[k].typ, .int .u64 l[k].n] 120))
      have HB1 := Bx.mk (below_alloc hB.out hB.out.size (.cells #[.bool l[k].exp, .string l[k].typ, .int .u64 l[k].n] 120))
      have HL : k + 1 ≤ 2147483648 := by omega
      have HM := Bx.mk (List.length_take_of_le hk)
      clear hO hB
      go_wp2_with (at_builtin; refine app_row kBw _ rfl _ _ 38 131 _ 32 rfl Tryz.underlying38 info131 rfl (by decide) (by decide) (by decide) u3 (l.take k) l[k] [.bool l[k].exp, .string l[k].typ, .int .u64 l[k].n] k HM.out _ rfl rfl (by simp) ⟨kBw_mk _ _ _⟩ HO1 HB1 (Nat.le_refl _) HB1.out.size (fun _ h => h) HL ?_; intro A1 c1 w1 HO2 HB2 _)
      go_roundw
      case rel => exact ⟨k + 1, by omega, by go_num, by rw [← take_snoc l k hlt]; exact HO2, HB2⟩
      case measure => simp [intOf]; omega
    · go_wp2
      go_ret
      obtain rfl : k = l.length := by omega
      have := hO.out
      rw [List.take_length] at this
      exact out_of_own hB.out this
set_option maxHeartbeats 400000 in
theorem lcons (v : Value) (l : List Con) (D : Nat → Prop) (w : World) (hv : kCon.SV D w v l) (hD : ∀ b, D b → b < w.heap.size) (hf : fCons l) : Calls Tryz.prog 24 #[v] w (RS kCon l (fun b => D b ∨ w.heap.size ≤ b) w) := by
  obtain ⟨A, c, rfl, hl, hr⟩ := hv
  have HR := Bx.mk hr
  have HD := Bx.mk hD
  have HF := Bx.mk hf
  clear hr hD hf
  go_enter Tryz.func24, Tryz.ntmps24
  go_wp2
  go_loopw [3, 11] (fun out i wr => ∃ k : Nat, k ≤ l.length ∧ i = .int .i64 k ∧ Bx (kCon.Own 127 wr w.heap.size (fun b => D b ∨ w.heap.size ≤ b) out (l.take k)) ∧ Bx (Below w.heap.size w wr)) (fun _ i _ => l.length - (intOf i).toNat)
  case atStart => exact ⟨0, Nat.zero_le _, rfl, ⟨Own.nil _ _ _ _ _⟩, ⟨Below.refl _ _⟩⟩
  case round =>
    obtain ⟨k, hk, rfl, hO, hB⟩ := hrel
    by_cases hlt : k < l.length
    · obtain ⟨ad, Av, cv, rfl, hc0, hc1, hc2, hx⟩ := con_get HR.out k hlt
      replace hc0 := cell_below hB.out hc0
      replace hc1 := cell_below hB.out hc1
      replace hc2 := cell_below hB.out hc2
      obtain ⟨wo, rfl⟩ : ∃ wo : World, wo = wr := ⟨_, rfl⟩
      have HX := Bx.mk (hx.below hB.out HD.out)
      clear hx
      have hz := hB.out.size
      have hkl : l[k].adr.length ≤ 2147483647 := (HF.out.2 _ (List.getElem_mem hlt)).2.2.1
      obtain ⟨Ax, cx, he, hlx, hrx⟩ := HX.out
      have HRX := Bx.mk hrx
      simp only [Value.slice.injEq, true_and] at he
      obtain ⟨rfl, rfl⟩ := he
      clear hrx HX
      have hmx := HRX.out.1
      go_wp2
      go_loopw [23] (fun j wr => ∃ (m : Nat) (A2 : Option Addr) (c2 : Nat), m ≤ l[k].adr.length ∧ j = .int .i64 m ∧ Bx (wr.heap[wo.heap.size + 1]? = some (.cells #[.string l[k].net, .string l[k].addr, .slice A2 m c2] 127 (0, 0))) ∧
        Bx (kAdr.Own 130 wr (wo.heap.size + 2) (fun b => D b ∨ wo.heap.size + 2 ≤ b) (.slice A2 m c2) (l[k].adr.take m)) ∧ Bx (Below wo.heap.size wo wr) ∧ wo.heap.size + 2 ≤ wr.heap.size) (fun j _ => l[k].adr.length - (intOf j).toNat)
      case atStart => exact ⟨0, Option.none, 0, Nat.zero_le _, rfl, ⟨by have := heap_alloc_new (wo.alloc (.cells #[.string l[k].net, .string l[k].addr, .slice Av l[k].adr.length cv] 117)) (.cells #[.string l[k].net, .string l[k].addr, .slice Option.none 0 0] 127); simpa using this⟩, ⟨Own.nil _ _ _ _ _⟩, ⟨below_alloc (below_alloc (Below.refl _ _) (Nat.le_refl _) _) (by simp) _⟩, by simp⟩
      case round =>
        obtain ⟨m, A2, c2, hm, rfl, hG, hO2, hB2, hz2⟩ := hrel
        by_cases hlt2 : m < l[k].adr.length
        · obtain ⟨ad2, A3, c3, A4, c4, rfl, hd0, hd1, hd2, hs1, hs2⟩ := adr_get HRX.out m hlt2
          replace hd0 := cell_below hB2.out hd0
          replace hd1 := cell_below hB2.out hd1
          replace hd2 := cell_below hB2.out hd2
          have hz3 : wo.heap.size + 1 < wr.heap.size := by omega
          have hg2 : wr.cell? ⟨wo.heap.size + 1, 2, Option.none⟩ = some (.slice A2 m c2) := by rw [blk_cell hG.out]; rfl
          have HO3 := Bx.mk (own_alloc hO2.out (.cells #[.string l[k].adr[m].a, .slice A3 l[k].adr[m].ttl.length c3, .slice A4 l[k].adr[m].rng.length c4] 129))
          have HG3 := Bx.mk (blk_alloc hG.out (.cells #[.string l[k].adr[m].a, .slice A3 l[k].adr[m].ttl.length c3, .slice A4 l[k].adr[m].rng.length c4] 129))
          have HB3 := Bx.mk (below_alloc hB2.out hB2.out.size (.cells #[.string l[k].adr[m].a, .slice A3 l[k].adr[m].ttl.length c3, .slice A4 l[k].adr[m].rng.length c4] 129))
          have HK3 : Bx (kAdr.K (fun b => (D b ∨ wo.heap.size + 2 ≤ b) ∧ some b ≠ (Value.slice A2 m c2).ownBlock) (wr.alloc (.cells #[.string l[k].adr[m].a, .slice A3 l[k].adr[m].ttl.length c3, .slice A4 l[k].adr[m].rng.length c4] 129)) l[k].adr[m] [.string l[k].adr[m].a, .slice A3 l[k].adr[m].ttl.length c3, .slice A4 l[k].adr[m].rng.length c4]) := by
            have hF : ∀ b, D b → (D b ∨ wo.heap.size + 2 ≤ b) ∧ some b ≠ (Value.slice A2 m c2).ownBlock := fun b hb => ⟨.inl hb, fun e => by have := (hO2.out.lt b e.symm).1; have := HD.out b hb; omega⟩
            exact ⟨kAdr_mk _ ((hs1.below HB3.out (fun b hb => Nat.lt_of_lt_of_le (HD.out b hb) hz)).mono hF) ((hs2.below HB3.out (fun b hb => Nat.lt_of_lt_of_le (HD.out b hb) hz)).mono hF)⟩
          have HL : m + 1 ≤ 2147483648 := by omega
          have HM := Bx.mk (List.length_take_of_le hm)
          have HSZ : Bx (wo.heap.size + 2 ≤ (wr.alloc (.cells #[.string l[k].adr[m].a, .slice A3 l[k].adr[m].ttl.length c3, .slice A4 l[k].adr[m].rng.length c4] 129)).heap.size) := ⟨by simp; omega⟩
          clear hO2 hG hB2 hs1 hs2 hc2
          go_wp2_with (at_builtin; refine app_row kAdr (w := wo) _ rfl _ _ 125 130 _ 64 rfl Tryz.underlying125 info130 rfl (by decide) (by decide) (by decide) (.slice A2 m c2) (l[k].adr.take m) l[k].adr[m] _ m HM.out _ rfl rfl (by simp) HK3 HO3 HB3 (Nat.le_add_right _ _) HSZ.out (fun _ h => .inr h) HL ?_; intro A5 c5 w5 HO5 HB5 HG5; have HG6 := Bx.mk (blk_grown HG3.out HG5.out (fun b hb => by have := (HO3.out.lt b hb).1; omega)); have hg5 : w5.cell? ⟨wo.heap.size + 1, 2, Option.none⟩ = some (.slice A2 m c2) := (by rw [blk_cell HG6.out]; rfl); have hf5 := blk_frozen HG6.out 2)
          go_roundw
          case rel =>
            have hO6 : kAdr.Own 130 (w5.setCell ⟨wo.heap.size + 1, 2, Option.none⟩ (.slice A5 (m + 1) c5)) (wo.heap.size + 2) (fun b => D b ∨ wo.heap.size + 2 ≤ b) (.slice A5 (m + 1) c5) (l[k].adr.take m ++ [l[k].adr[m]]) :=
              HO5.out.step fun b hF _ => Below.heap_setCell _ _ _ _ (by rcases hF with hF | hF; (have := HD.out b hF; show b ≠ wo.heap.size + 1; omega); (show b ≠ wo.heap.size + 1; omega))
            rw [take_snoc] at hO6
            have hs := HB5.out.size
            exact ⟨m + 1, A5, c5, by omega, by go_num, ⟨blk_set HG6.out 2 _⟩, ⟨hO6⟩, ⟨HB5.out.setCell (by simp) _⟩, by simp [World.setCell]; have := HG5.out.size; simp at this; omega⟩
          case measure => simp [intOf]; omega
        · have hg0 : wr.cell? ⟨wo.heap.size + 1, 0, Option.none⟩ = some (.string l[k].net) := by rw [blk_cell hG.out]; rfl
          have hg1 : wr.cell? ⟨wo.heap.size + 1, 1, Option.none⟩ = some (.string l[k].addr) := by rw [blk_cell hG.out]; rfl
          have hg2 : wr.cell? ⟨wo.heap.size + 1, 2, Option.none⟩ = some (.slice A2 m c2) := by rw [blk_cell hG.out]; rfl
          obtain rfl : m = l[k].adr.length := by omega
          have hR := hO2.out.reads
          rw [List.take_length] at hR
          have HO3 := Bx.mk (hO.out.step (w' := wr) (fun b _ hb => hB2.out.block b hb))
          have HB3 := Bx.mk (below_trans hB.out hB2.out)
          have HK3 : Bx (kCon.K (fun b => (D b ∨ w.heap.size ≤ b) ∧ some b ≠ u3.ownBlock) wr l[k] [.string l[k].net, .string l[k].addr, .slice A2 l[k].adr.length c2]) :=
            ⟨kCon_mk _ (hR.mono fun b hb => ⟨by rcases hb with hb | hb; exact .inl hb; exact .inr (by omega), fun e => by have := hO.out.lt b e.symm; rcases hb with hb | hb; (have := HD.out b hb; omega); omega⟩)⟩
          have HL : k + 1 ≤ 2147483648 := by have := HF.out.1; omega
          have HM := Bx.mk (List.length_take_of_le hk)
          have HSZ : Bx (w.heap.size ≤ wr.heap.size) := ⟨by omega⟩
          clear hO hO2 hG hB hB2 hR
          go_wp2_with (at_builtin; refine app_row kCon (w := w) _ rfl _ _ 37 127 _ 56 rfl Tryz.underlying37 info127 rfl (by decide) (by decide) (by decide) u3 (l.take k) l[k] _ k HM.out _ rfl rfl (by simp) HK3 HO3 HB3 (Nat.le_refl _) HSZ.out (fun _ h => .inr h) HL ?_; intro A5 c5 w5 HO5 HB5 HG5)
          go_roundw
          case rel => exact ⟨k + 1, by omega, by go_num, by rw [← take_snoc l k hlt]; exact HO5, HB5⟩
          case measure => simp [intOf]; omega
    · go_wp2
      go_ret
      obtain rfl : k = l.length := by omega
      have := hO.out
      rw [List.take_length] at this
      exact out_of_own hB.out this
end Go.Proofs.YtimonhimfioohaaGreatDoor
