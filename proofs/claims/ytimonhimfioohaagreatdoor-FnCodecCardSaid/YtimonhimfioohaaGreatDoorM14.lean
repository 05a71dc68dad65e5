/- Lemmas on which the proof of Rows.FnCodecCardSaid rests: no statement of the seat is proved in this file. Conditions: each lemma's own hypotheses, no others. -/
import Derived.Test.YtimonhimfioohaaGreatDoorM12
import Derived.Test.YtimonhimfioohaaGreatDoorM13
/-! FnCodec: what the walk needs. -/
namespace Go.Proofs.YtimonhimfioohaaGreatDoor
open Go Go.RowKit Go.PlainAid Kn
theorem fits1K (x : Ses) (cs : List Value) (F : Nat → Prop) (w : World) (hx : kSes.K F w x cs) : Calls Tryz.prog 4 #[.agg cs.toArray] w (RG (fSes x) w) := by
  obtain ⟨u1, u2, u3, u4, u5, u6, u7, u8, u9, u10, u11, rfl, h1, h2, h3, h4, h5, h6, h7, h8, h9, h10, h11⟩ := kSes_open hx
  exact fits1 x u1 u2 u3 u4 u5 u6 u7 u8 u9 u10 u11 F w h1 h2 h3 h4 h5 h6 h7 h8 h9 h10 h11
theorem ses_last {x : Ses} {cs : List Value} {F : Nat → Prop} {w : World} (hx : kSes.K F w x cs) : ∃ A c, x.med.length ≤ c ∧ cs.toArray[18]? = some (.slice A x.med.length c) ∧ kMed.SV F w (.slice A x.med.length c) x.med := by
  obtain ⟨u1, u2, u3, u4, u5, u6, u7, u8, u9, u10, u11, rfl, h1, h2, h3, h4, h5, h6, h7, h8, h9, h10, h11⟩ := kSes_open hx
  obtain ⟨A, c, rfl, hl, hr⟩ := h11
  exact ⟨A, c, hl, rfl, A, c, rfl, hl, hr⟩
theorem ses_put {x : Ses} {cs : List Value} {F : Nat → Prop} {w : World} {v : Value} {l : List Med} (hx : kSes.K F w x cs) (hv : kMed.SV F w v l) : ∃ cs' : List Value, cs.toArray.setIfInBounds 18 v = cs'.toArray ∧ kSes.K F w { x with med := l } cs' := by
  obtain ⟨u1, u2, u3, u4, u5, u6, u7, u8, u9, u10, u11, rfl, h1, h2, h3, h4, h5, h6, h7, h8, h9, h10, h11⟩ := kSes_open hx
  exact ⟨_, rfl, kSes_mk { x with med := l } h1 h2 h3 h4 h5 h6 h7 h8 h9 h10 hv⟩
theorem med_last {x : Med} {cs : List Value} {F : Nat → Prop} {w : World} (hx : kMed.K F w x cs) : ∃ A c, x.atts.length ≤ c ∧ cs.toArray[9]? = some (.slice A x.atts.length c) ∧ kAtt.SV F w (.slice A x.atts.length c) x.atts := by
  obtain ⟨v2, v3, v4, v5, v6, v7, v8, v9, rfl, h2, h3, h4, h5, h6, h7, h8, h9⟩ := kMed_open hx
  obtain ⟨A, c, rfl, hl, hr⟩ := h9
  exact ⟨A, c, hl, rfl, A, c, rfl, hl, hr⟩
theorem med_put {x : Med} {cs : List Value} {F : Nat → Prop} {w : World} {v : Value} {l : List Att} (hx : kMed.K F w x cs) (hv : kAtt.SV F w v l) : ∃ cs' : List Value, cs.toArray.setIfInBounds 9 v = cs'.toArray ∧ kMed.K F w { x with atts := l } cs' := by
  obtain ⟨v2, v3, v4, v5, v6, v7, v8, v9, rfl, h2, h3, h4, h5, h6, h7, h8, h9⟩ := kMed_open hx
  exact ⟨_, rfl, kMed_mk { x with atts := l } h2 h3 h4 h5 h6 h7 h8 hv⟩
theorem own_one {α : Type} (k : Kn α) (e : TypeId) (W : World) (base : Nat) (F : Nat → Prop) (x : α) (cs : List Value) (hb : base ≤ W.heap.size) (hF : F W.heap.size) (hk : k.K (fun b => F b ∧ b ≠ W.heap.size) W x cs) :
    k.Own e (W.alloc (.cells cs.toArray e)) base F (.slice (some ⟨W.heap.size, 0, Option.none⟩) 1 1) [x] := by
  have hl := k.len hk
  refine ⟨fun b h => by simp [Value.ownBlock] at h; exact h ▸ hF, cs, ⟨by simp [hl], .inr ⟨W.heap.size, 1, cs.toArray, rfl, hb, heap_alloc_new _ _, Nat.le_refl _, by simp [maxLen], by simp [hl], by simp [← hl]⟩⟩, ?_⟩
  have h1 := K_step hk (below_alloc1 (Below.refl W.heap.size W) (.cells cs.toArray e))
  have h2 : k.K (fun b => F b ∧ some b ≠ (Value.slice (some ⟨W.heap.size, 0, Option.none⟩) 1 1).ownBlock) (W.alloc (.cells cs.toArray e)) x cs := k.mono (fun b h => ⟨h.1, fun he => h.2 (by simpa [Value.ownBlock] using he)⟩) h1
  exact (Reps.none _ k.sz).snoc h2 hl
theorem row_tail {α : Type} {k : Kn α} {F : Nat → Prop} {w : World} {ad : Addr} {m : α} {ms : List α} (h : k.Row F w (some ad) (m :: ms)) : k.Row F w (some (ad.add k.sz)) ms := by
  obtain ⟨h1, h2⟩ := h
  refine ⟨by simp at h1; omega, fun hp => ?_⟩
  obtain ⟨ad', e, hF, hk⟩ := h2 (by simp)
  injection e with e
  subst e
  refine ⟨_, rfl, by rw [add_block]; exact hF, fun j x hj => ?_⟩
  obtain ⟨cs, hc, hu⟩ := hk (j + 1) x (by simpa using hj)
  refine ⟨cs, hc, fun i u hi => ?_⟩
  have := hu i u hi
  rw [Go.Deep.add_add]
  have e : k.sz + (j * k.sz + i) = (j + 1) * k.sz + i := by rw [Nat.add_mul]; omega
  rw [e]
  exact this
theorem sv_tail {α : Type} {k : Kn α} {F : Nat → Prop} {w : World} {A : Option Addr} {n c : Nat} {m : α} {ms : List α} (h : k.SV F w (.slice A n c) (m :: ms)) : k.SV F w (.slice (if c = 1 then A else A.map (·.add k.sz)) ms.length (c - 1)) ms := by
  obtain ⟨A', c', e, hl, hr⟩ := h
  simp only [Value.slice.injEq] at e
  obtain ⟨rfl, rfl, rfl⟩ := e
  have hl' : ms.length + 1 ≤ c := by simpa using hl
  refine ⟨_, _, rfl, by omega, ?_⟩
  split
  · have h0 : ms = [] := List.length_eq_zero_iff.1 (by omega)
    subst h0
    exact ⟨by simp, fun h => absurd h (by simp)⟩
  · cases A with
    | none =>
      obtain ⟨_, h2⟩ := hr
      obtain ⟨ad, e, _⟩ := h2 (by simp)
      cases e
    | some ad => exact row_tail hr
theorem info54 : (Tryz.prog.info? 54).map (fun i => (i.zero, i.size, i.bytes)) = some (some (.agg #[.string ⟨#[]⟩, .int .i64 0, .slice Option.none 0 0, .slice Option.none 0 0, .slice Option.none 0 0, .slice Option.none 0 0, .slice Option.none 0 0, .slice Option.none 0 0, .slice Option.none 0 0, .slice Option.none 0 0]), 10, 216) := by kernel_rfl
theorem info51 : (Tryz.prog.info? 51).map (fun i => (i.zero, i.size, i.bytes)) = some (some (.agg #[.string ⟨#[]⟩, .string ⟨#[]⟩]), 2, 32) := by kernel_rfl
theorem size54 : (Tryz.prog.info? 54).map (·.size) = some 10 := by kernel_rfl
end Go.Proofs.YtimonhimfioohaaGreatDoor
/-! FnCodec: the texts that it puts together. -/
namespace Go.Proofs.YtimonhimfioohaaGreatDoor
open Go Go.RowKit Go.PlainAid Kn
theorem data_cat (x y : ByteArray) : (x ++ y).data.toList = x.data.toList ++ y.data.toList := by simp
theorem of_data {x : ByteArray} {l : List UInt8} (h : x.data.toList = l) : x = B l := by rw [← h]; exact (B_data x).symm
theorem map_val0 {p r : Nat} {name par fm : ByteArray} {fb : List ByteArray} {dp dr : ByteArray} (hp : dp = ⟨(dec p).toArray⟩) (hr : dr = ⟨(dec r).toArray⟩) (h : par.size = 0) :
    dp ++ ⟨#[32]⟩ ++ name ++ ⟨#[47]⟩ ++ dr = (mapAtt p ⟨name, r, par, fm, fb⟩).val := by
  refine of_data ?_
  have e : par.data.toList = [] := by rw [empty_of par h]
  subst hp hr
  simp [parL, e]
theorem map_val1 {p r : Nat} {name par fm : ByteArray} {fb : List ByteArray} {dp dr : ByteArray} (hp : dp = ⟨(dec p).toArray⟩) (hr : dr = ⟨(dec r).toArray⟩) (h : par.size ≠ 0) :
    dp ++ ⟨#[32]⟩ ++ name ++ ⟨#[47]⟩ ++ dr ++ (⟨#[47]⟩ ++ par) = (mapAtt p ⟨name, r, par, fm, fb⟩).val := by
  refine of_data ?_
  have e : par.data.toList ≠ [] := fun e => h (by rw [← size_len, e]; rfl)
  have e2 : parL par.data.toList = 47 :: par.data.toList := by unfold parL; rw [if_neg e]
  subst hp hr
  rw [e2]
  simp
theorem fm_val {p : Nat} {f dp : ByteArray} (hp : dp = ⟨(dec p).toArray⟩) : dp ++ ⟨#[32]⟩ ++ f = (fmtpAtt p f).val := by
  refine of_data ?_
  subst hp
  simp
theorem fb_val {p : Nat} {f dp : ByteArray} (hp : dp = ⟨(dec p).toArray⟩) : dp ++ ⟨#[32]⟩ ++ f = (fbAtt p f).val := by
  refine of_data ?_
  subst hp
  simp
/-- The list of the added attributes under way, in rows of the call's own. -/
def LSt (wB w : World) (v : Value) (l : List Att) : Prop := Below wB.heap.size wB w ∧ ∃ A n k, v = .slice A n k ∧ l.length = n ∧ kAtt.Own 51 w wB.heap.size (fun b => wB.heap.size ≤ b) (.slice A n k) l
end Go.Proofs.YtimonhimfioohaaGreatDoor
/-! FnCodec: the new medium and the new session in memory. -/
namespace Go.Proofs.YtimonhimfioohaaGreatDoor
open Go Go.RowKit Go.PlainAid Kn
/-- The rows of the argument, or new ones behind block g. -/
def FN (F : Nat → Prop) (g b : Nat) : Prop := F b ∨ g < b
theorem FN.ne {F : Nat → Prop} {g b : Nat} (hF : ∀ b, F b → b < g) (h : FN F g b) : b ≠ g := by
  rcases h with h | h
  · have := hF b h; omega
  · omega
/-- A box with one element is a row of the call's own. -/
theorem own_box {α : Type} (k : Kn α) (e : TypeId) (W : World) (base : Nat) (F : Nat → Prop) (x : α) (cs : List Value) (hb : base ≤ W.heap.size) (hF : F W.heap.size) (hk : k.K F W x cs) :
    k.Own e (W.alloc (.cells cs.toArray e)) base F (.slice (some ⟨W.heap.size, 0, Option.none⟩) 1 1) [x] :=
  own_one k e W base F x cs hb hF (k.mono (fun b h => ⟨h.1, by have := h.2; omega⟩) (k.bound hk))
/-- The medium with its new attributes. -/
theorem newMed_K {F : Nat → Prop} {W10 w2 : World} {g mb p : Nat} {c : Cd} {m : Med} {cs : List Value} {v : Value} (hk : kMed.K F W10 m cs) (hF : ∀ b, F b → b < g) (hg : g < mb) (_hgW : g < W10.heap.size)
    (hb : Below W10.heap.size W10 w2) (ho : kAtt.Own 51 w2 W10.heap.size (fun b => W10.heap.size ≤ b) v (m.atts ++ exAtts p c)) (hmb : mb < W10.heap.size) :
    ∃ cs' : List Value, cs.toArray.setIfInBounds 9 v = cs'.toArray ∧ kMed.K (FN F g) (w2.setCell ⟨mb, 9, Option.none⟩ v) (newMed m p c) cs' := by
  have hs : Keep mb w2 (w2.setCell ⟨mb, 9, Option.none⟩ v) := Keep.set v
  have h1 : kMed.K (FN F g) (w2.setCell ⟨mb, 9, Option.none⟩ v) m cs := kMed.mono (fun b h => .inl h) (K_keep (K_step hk hb) (fun b h => by have := hF b h; omega) hs)
  have h2 : kAtt.SV (FN F g) (w2.setCell ⟨mb, 9, Option.none⟩ v) v (m.atts ++ exAtts p c) := (ho.reads.keep (by decide) (fun b h => by have h0 : _ ≤ b := h; omega) hs).mono (fun b h => .inr (by have h0 : _ ≤ b := h; omega))
  exact med_put h1 h2
/-- The session with its new medium. -/
theorem newSes_K {F : Nat → Prop} {w W : World} {g p : Nat} {c : Cd} {x : Ses} {m : Med} {ms : List Med} {cs : List Value} {v : Value} (hk : kSes.K F w x cs) (hF : ∀ b, F b → b < g) (hb : Below w.heap.size w W)
    (hv : kMed.SV (FN F g) W v (newMed m p c :: ms)) :
    ∃ cs' : List Value, cs.toArray.setIfInBounds 18 v = cs'.toArray ∧ kSes.K (FN F g) (W.setCell ⟨g, 18, Option.none⟩ v) (newSes x m ms p c) cs' := by
  have hs : Keep g W (W.setCell ⟨g, 18, Option.none⟩ v) := Keep.set v
  have h1 : kSes.K (FN F g) (W.setCell ⟨g, 18, Option.none⟩ v) x cs := kSes.mono (fun b h => .inl h) (K_keep (K_step hk hb) (fun b h => by have := hF b h; omega) hs)
  exact ses_put h1 (hv.keep (by decide) (fun b h => FN.ne hF h) hs)
theorem cons_of_pos {α : Type} {l : List α} (h : 0 < l.length) : ∃ ms, l = l[0] :: ms := by
  cases l with
  | nil => exact absurd h (by simp)
  | cons a l => exact ⟨l, rfl⟩
theorem list_ten {α : Type} (l : List α) (h : l.length = 10) : ∃ b0 b1 b2 b3 b4 b5 b6 b7 b8 b9, l = [b0, b1, b2, b3, b4, b5, b6, b7, b8, b9] := by
  match l, h with
  | [b0, b1, b2, b3, b4, b5, b6, b7, b8, b9], _ => exact ⟨b0, b1, b2, b3, b4, b5, b6, b7, b8, b9, rfl⟩
theorem fold_ten (cs : Array Value) (h : cs.size = 10) (z : Array Value) (hz : z.size = 10) : Array.foldl (fun (a : Array Value) (x : Value × Nat) => a.setIfInBounds x.snd x.fst) z cs.zipIdx 0 10 = cs := by
  obtain ⟨l⟩ := cs
  obtain ⟨b0, b1, b2, b3, b4, b5, b6, b7, b8, b9, rfl⟩ := list_ten l (by simpa using h)
  obtain ⟨k⟩ := z
  obtain ⟨a0, a1, a2, a3, a4, a5, a6, a7, a8, a9, rfl⟩ := list_ten k (by simpa using hz)
  clear h hz
  have e : (Array.zipIdx #[b0, b1, b2, b3, b4, b5, b6, b7, b8, b9]) = #[(b0, 0), (b1, 1), (b2, 2), (b3, 3), (b4, 4), (b5, 5), (b6, 6), (b7, 7), (b8, 8), (b9, 9)] := by simp [List.zipIdx_cons]
  rw [e]
  simp
theorem own_apart {α : Type} {k : Kn α} {e : TypeId} {W : World} {base g : Nat} {F F2 : Nat → Prop} {v : Value} {xs : List α} (ho : k.Own e W base F2 v xs) (hF : ∀ b, F b → b < g) (hg : g ≤ base) {y : α} {cs : List Value} (h : k.K F W y cs) :
    k.K (fun b => FN F g b ∧ some b ≠ v.ownBlock) W y cs :=
  k.mono (fun b hb => ⟨.inl hb, fun he => by have h1 := (ho.lt b he.symm).1; have h2 := hF b hb; omega⟩) h
end Go.Proofs.YtimonhimfioohaaGreatDoor
