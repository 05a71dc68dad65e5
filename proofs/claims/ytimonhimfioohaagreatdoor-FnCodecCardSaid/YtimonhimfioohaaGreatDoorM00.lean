/- Lemmas on which the proof of Rows.FnCodecCardSaid rests: no statement of the seat is proved in this file. Conditions: each lemma's own hypotheses, no others. -/
import Derived.Test.YtimonhimfioohaaGreatDoorProg
import Derived.Below
import Derived.Deep.Draws
import Derived.Deep.AppendLies
import Derived.Maps.AppendAt
import Derived.OwnWalk
import Derived.Laws.BytesArg
import Derived.Laws.MakeOwn
import Derived.Laws.OwnMore
import Derived.Deep.OwnRows
import Derived.Tactics
import Derived.Lib.ConvBytes
import Derived.Lib.Hide
import Derived.Laws.Slices
import Derived.WalkKit
import Derived.KernelRfl
import Derived.RowKit3
import Derived.Deep.LoopGhost
import Derived.Deep.QuietTactic
import Derived.BigQuiet
import Derived.WideLaws
import Derived.Deep.DeepCutAuto
import Derived.Deep.CutBlock
import Derived.Deep.RegionHeld3
import Derived.Laws.Rows
import Derived.Lib.AppendStr
import Derived.ArgAppend
import Derived.Laws.IdiomCopy
import Derived.OrdersHeld
import Derived.Laws.BitsLemmas
import Derived.RowKit
import Derived.Handy
import Derived.PlainAid
/-! Kinds: what a value's cells say, in a world, the blocks of its rows being among F; rows that are read; rows of the call's own that grow by append. -/
namespace Go.Proofs.YtimonhimfioohaaGreatDoor
open Go Go.RowKit

/-- A fact behind a name: the walk does not look into it. -/
structure Bx (p : Prop) : Prop where mk :: (out : p)

/-- Below all that was, but for block g, the world is as it was. -/
structure Keep (g : Nat) (w w' : World) : Prop where
  os : w'.os = w.os
  tape : w'.tape = w.tape
  output : w'.output = w.output
  size : w.heap.size ≤ w'.heap.size
  block : ∀ k, k < w.heap.size → k ≠ g → w'.heap[k]? = w.heap[k]?
theorem Keep.refl (g : Nat) (w : World) : Keep g w w := ⟨rfl, rfl, rfl, Nat.le_refl _, fun _ _ _ => rfl⟩
theorem Keep.trans {g : Nat} {a b c : World} (h : Keep g a b) (k : Keep g b c) : Keep g a c :=
  ⟨k.os.trans h.os, k.tape.trans h.tape, k.output.trans h.output, Nat.le_trans h.size k.size, fun i hi hg => (k.block i (Nat.lt_of_lt_of_le hi h.size) hg).trans (h.block i hi hg)⟩
theorem Keep.ofBelow {g : Nat} {w w' : World} (h : Below w.heap.size w w') : Keep g w w' := ⟨h.os, h.tape, h.output, h.size, fun k hk _ => h.block k hk⟩
theorem Keep.below {g B : Nat} {w w' : World} (h : Keep g w w') (hB : B ≤ w.heap.size) (hg : B ≤ g) : Below B w w' := ⟨h.os, h.tape, h.output, h.size, fun k hk => h.block k (by omega) (by omega)⟩
theorem Keep.set {g i : Nat} {w : World} (v : Value) : Keep g w (w.setCell ⟨g, i, none⟩ v) := ⟨rfl, rfl, rfl, by simp [World.setCell], fun k _ hg => Below.heap_setCell _ _ _ _ hg⟩
theorem Keep.alloc {g : Nat} (w : World) (o : Obj) : Keep g w (w.alloc o) := ⟨rfl, rfl, rfl, by simp, fun k hk _ => Below.heap_alloc _ _ _ hk⟩
theorem Keep.grown {g : Nat} {w w' : World} {row : Option Nat} (h : w.grownBy w' row) (hr : ∀ k, row = some k → w.heap.size ≤ k) : Keep g w w' :=
  ⟨h.os, h.tape, h.output, h.size, fun k hk _ => h.block k hk (fun e => by have := hr k e.symm; omega)⟩

theorem below_trans {w w1 w2 : World} (h : Below w.heap.size w w1) (k : Below w1.heap.size w1 w2) : Below w.heap.size w w2 := h.trans (k.mono h.size)
theorem below_alloc {B : Nat} {w W : World} (h : Below B w W) (hB : B ≤ W.heap.size) (o : Obj) : Below B w (W.alloc o) := h.alloc hB o
theorem cell_below {w w1 : World} {a : Addr} {v : Value} (h : Below w.heap.size w w1) (hc : w.cell? a = some v) : w1.cell? a = some v := (h.cell (World.block_lt_of_cell? w a hc)).trans hc
theorem heap_below {w w1 : World} {b : Nat} {o : Obj} (h : Below w.heap.size w w1) (hc : w.heap[b]? = some o) : w1.heap[b]? = some o :=
  (h.block b (Array.getElem?_eq_some_iff.1 hc).1).trans hc

def Reps {α : Type} (R : α → List Value → Prop) (size : Nat) (ps : List α) (cs : List Value) : Prop :=
  cs.length = ps.length * size ∧ ∀ j p, ps[j]? = some p → R p ((cs.drop (j * size)).take size)
theorem Reps.none {α : Type} (R : α → List Value → Prop) (size : Nat) : Reps R size [] [] := ⟨by simp, fun j p h => by simp at h⟩
theorem Reps.snoc {α : Type} {R : α → List Value → Prop} {size : Nat} {ps : List α} {cs c : List Value} {p : α} (h : Reps R size ps cs) (hp : R p c) (hc : c.length = size) : Reps R size (ps ++ [p]) (cs ++ c) := by
  refine ⟨by rw [List.length_append, h.1, hc, List.length_append, List.length_singleton, Nat.add_mul, Nat.one_mul], fun j q hq => ?_⟩
  rcases Nat.lt_or_ge j ps.length with hj | hj
  · rw [List.getElem?_append_left hj] at hq
    have h1 : j * size + size ≤ cs.length := by rw [h.1, ← Nat.succ_mul]; exact Nat.mul_le_mul_right _ hj
    have h2 := h.2 j q hq
    rw [List.drop_append_of_le_length (by omega), List.take_append_of_le_length (by rw [List.length_drop]; omega)]
    exact h2
  · have hj' : j = ps.length := by
      have := (List.getElem?_eq_some_iff.1 hq).1
      rw [List.length_append, List.length_singleton] at this
      omega
    subst hj'
    have hq' : p = q := by simpa using hq
    subst hq'
    rw [← h.1, List.drop_left, ← hc, List.take_length]
    exact hp
theorem Reps.imp {α : Type} {R R' : α → List Value → Prop} {size : Nat} {ps : List α} {cs : List Value} (h : Reps R size ps cs) (hR : ∀ p c, R p c → R' p c) : Reps R' size ps cs := ⟨h.1, fun j p hj => hR _ _ (h.2 j p hj)⟩

/-- What the cells of a value say, its rows lying in blocks of F. -/
structure Kn (α : Type) where
  sz : Nat
  K : (Nat → Prop) → World → α → List Value → Prop
  len : ∀ {F w x cs}, K F w x cs → cs.length = sz
  one : ∀ {F w x cs}, K F w x cs → ∀ u ∈ cs, u.oneCell' = true
  mono : ∀ {F F' : Nat → Prop} {w x cs}, (∀ b, F b → F' b) → K F w x cs → K F' w x cs
  bound : ∀ {F : Nat → Prop} {w : World} {x cs}, K F w x cs → K (fun b => F b ∧ b < w.heap.size) w x cs
  move : ∀ {F : Nat → Prop} {w w' : World} {x cs}, (∀ b, F b → w'.heap[b]? = w.heap[b]?) → K F w x cs → K F w' x cs

namespace Kn
section
variable {α : Type} {k : Kn α} {F F' : Nat → Prop} {w w' : World} {A : Option Addr} {xs : List α} {v : Value}
/-- A row of elements that is read. -/
def Row (k : Kn α) (F : Nat → Prop) (w : World) (A : Option Addr) (xs : List α) : Prop :=
  xs.length ≤ 9223372036854775807 ∧ (0 < xs.length → ∃ ad, A = some ad ∧ F ad.block ∧ ∀ j x, xs[j]? = some x → ∃ cs, k.K F w x cs ∧ ∀ i u, cs[i]? = some u → w.cell? (ad.add (j * k.sz + i)) = some u)
theorem add_block (a : Addr) (i : Nat) : (a.add i).block = a.block := by unfold Addr.add; split <;> rfl
theorem Row.mono (h : k.Row F w A xs) (hF : ∀ b, F b → F' b) : k.Row F' w A xs :=
  ⟨h.1, fun hn => by
    obtain ⟨ad, e, hf, hc⟩ := h.2 hn
    refine ⟨ad, e, hF _ hf, fun j x hj => ?_⟩
    obtain ⟨cs, hk, hcell⟩ := hc j x hj
    exact ⟨cs, k.mono hF hk, hcell⟩⟩
theorem Row.move (hb : ∀ b, F b → w'.heap[b]? = w.heap[b]?) (h : k.Row F w A xs) : k.Row F w' A xs :=
  ⟨h.1, fun hn => by
    obtain ⟨ad, e, hf, hc⟩ := h.2 hn
    refine ⟨ad, e, hf, fun j x hj => ?_⟩
    obtain ⟨cs, hk, hcell⟩ := hc j x hj
    exact ⟨cs, k.move hb hk, fun i u hu => (World.cell?_of_block (hb _ (by rw [add_block]; exact hf))).trans (hcell i u hu)⟩⟩
theorem Row.get (h : k.Row F w A xs) (i : Nat) (hi : i < xs.length) : ∃ ad cs, A = some ad ∧ F ad.block ∧ k.K F w xs[i] cs ∧ ∀ j u, cs[j]? = some u → w.cell? (ad.add (i * k.sz + j)) = some u := by
  obtain ⟨ad, e, hf, hc⟩ := h.2 (by omega)
  obtain ⟨cs, hk, hcell⟩ := hc i _ (List.getElem?_eq_getElem hi)
  exact ⟨ad, cs, e, hf, hk, hcell⟩
theorem Row.bound (h : k.Row F w A xs) (hs : 0 < k.sz) : k.Row (fun b => F b ∧ b < w.heap.size) w A xs :=
  ⟨h.1, fun hn => by
    obtain ⟨ad, e, hf, hc⟩ := h.2 hn
    refine ⟨ad, e, ⟨hf, ?_⟩, fun j x hj => ?_⟩
    · obtain ⟨cs, hk, hcell⟩ := hc 0 _ (List.getElem?_eq_getElem hn)
      have hl := k.len hk
      have := hcell 0 _ (List.getElem?_eq_getElem (by omega))
      have := World.block_lt_of_cell? w _ this
      rwa [add_block] at this
    · obtain ⟨cs, hk, hcell⟩ := hc j x hj
      exact ⟨cs, k.bound hk, hcell⟩⟩
/-- A value that is a slice of such a row. -/
def SV (k : Kn α) (F : Nat → Prop) (w : World) (v : Value) (xs : List α) : Prop := ∃ A c, v = .slice A xs.length c ∧ xs.length ≤ c ∧ k.Row F w A xs
theorem SV.mono (h : k.SV F w v xs) (hF : ∀ b, F b → F' b) : k.SV F' w v xs := by
  obtain ⟨A, c, e, l, r⟩ := h; exact ⟨A, c, e, l, r.mono hF⟩
theorem SV.move (hb : ∀ b, F b → w'.heap[b]? = w.heap[b]?) (h : k.SV F w v xs) : k.SV F w' v xs := by
  obtain ⟨A, c, e, l, r⟩ := h; exact ⟨A, c, e, l, r.move hb⟩
theorem SV.bound (h : k.SV F w v xs) (hs : 0 < k.sz) : k.SV (fun b => F b ∧ b < w.heap.size) w v xs := by
  obtain ⟨A, c, e, l, r⟩ := h; exact ⟨A, c, e, l, r.bound hs⟩
theorem SV.nil (k : Kn α) (F : Nat → Prop) (w : World) : k.SV F w (.slice Option.none 0 0) [] := ⟨Option.none, 0, rfl, Nat.le_refl _, by simp, fun h => absurd h (Nat.lt_irrefl 0)⟩
/-- What lies below an elder world's size. -/
theorem SV.below {B : Nat} (h : k.SV F w v xs) (hb : Below B w w') (hF : ∀ b, F b → b < B) : k.SV F w' v xs := h.move fun b hf => hb.block b (hF b hf)
theorem SV.step (h : k.SV F w v xs) (hs : 0 < k.sz) (hb : Below w.heap.size w w') : k.SV F w' v xs :=
  ((h.bound hs).move fun b hf => hb.block b hf.2).mono fun _ hf => hf.1
theorem SV.keep {g : Nat} (h : k.SV F w v xs) (hs : 0 < k.sz) (hg : ∀ b, F b → b ≠ g) (hb : Keep g w w') : k.SV F w' v xs :=
  ((h.bound hs).move fun b hf => hb.block b hf.2 (hg b hf.1)).mono fun _ hf => hf.1
theorem K_step {x : α} {cs : List Value} (h : k.K F w x cs) (hb : Below w.heap.size w w') : k.K F w' x cs :=
  k.mono (fun _ hf => hf.1) (k.move (fun b hf => hb.block b hf.2) (k.bound h))
theorem K_keep {g : Nat} {x : α} {cs : List Value} (h : k.K F w x cs) (hg : ∀ b, F b → b ≠ g) (hb : Keep g w w') : k.K F w' x cs :=
  k.mono (fun _ hf => hf.1) (k.move (fun b hf => hb.block b hf.2 (hg b hf.1)) (k.bound h))
end

/-! ### the kinds -/
def scalar {α : Type} (enc : α → Value) (h1 : ∀ x, (enc x).oneCell' = true) : Kn α where
  sz := 1
  K := fun _ _ x cs => cs = [enc x]
  len := fun h => by rw [h]; rfl
  one := fun h u hu => by rw [h] at hu; rw [List.mem_singleton.1 hu]; exact h1 _
  mono := fun _ h => h
  bound := fun h => h
  move := fun _ h => h
def int (k : IntKind) : Kn Int := scalar (Value.int k) (fun _ => rfl)
def bool : Kn Bool := scalar Value.bool (fun _ => rfl)
def string : Kn ByteArray := scalar Value.string (fun _ => rfl)
def slice {α : Type} (d : Kn α) (hd : 0 < d.sz) : Kn (List α) where
  sz := 1
  K := fun F w xs cs => ∃ v, cs = [v] ∧ d.SV F w v xs
  len := by rintro F w x cs ⟨v, rfl, _⟩; rfl
  one := by rintro F w x cs ⟨v, rfl, A, c, rfl, _⟩ u hu; rw [List.mem_singleton.1 hu]; rfl
  mono := by rintro F F' w x cs hF ⟨v, rfl, h⟩; exact ⟨v, rfl, h.mono hF⟩
  bound := by rintro F w x cs ⟨v, rfl, h⟩; exact ⟨v, rfl, h.bound hd⟩
  move := by rintro F w w' x cs hb ⟨v, rfl, h⟩; exact ⟨v, rfl, h.move hb⟩
def pair {α β : Type} (a : Kn α) (b : Kn β) : Kn (α × β) where
  sz := a.sz + b.sz
  K := fun F w x cs => ∃ c0 c1, cs = c0 ++ c1 ∧ a.K F w x.1 c0 ∧ b.K F w x.2 c1
  len := by rintro F w x cs ⟨c0, c1, rfl, h0, h1⟩; rw [List.length_append, a.len h0, b.len h1]
  one := by
    rintro F w x cs ⟨c0, c1, rfl, h0, h1⟩ u hu
    rcases List.mem_append.1 hu with hu | hu
    · exact a.one h0 u hu
    · exact b.one h1 u hu
  mono := by rintro F F' w x cs hF ⟨c0, c1, rfl, h0, h1⟩; exact ⟨c0, c1, rfl, a.mono hF h0, b.mono hF h1⟩
  bound := by rintro F w x cs ⟨c0, c1, rfl, h0, h1⟩; exact ⟨c0, c1, rfl, a.bound h0, b.bound h1⟩
  move := by rintro F w w' x cs hb ⟨c0, c1, rfl, h0, h1⟩; exact ⟨c0, c1, rfl, a.move hb h0, b.move hb h1⟩
def iso {α β : Type} (d : Kn α) (f : β → α) : Kn β where
  sz := d.sz
  K := fun F w x cs => d.K F w (f x) cs
  len := d.len
  one := d.one
  mono := d.mono
  bound := d.bound
  move := d.move

/-! ### rows of the call's own -/
section
variable {α : Type} {k : Kn α} {F F' : Nat → Prop} {w w' W w1 : World} {v v1 : Value} {xs : List α} {e : TypeId} {base : Nat}
/-- A row (elements of type e) of the call's own, from block number base on; what its elements lead to is not this row. -/
def Own (k : Kn α) (e : TypeId) (w : World) (base : Nat) (F : Nat → Prop) (v : Value) (xs : List α) : Prop :=
  (∀ b, v.ownBlock = some b → F b) ∧ ∃ inner, w.ownsRow base e k.sz v xs.length inner ∧ Reps (fun x cs => k.K (fun b => F b ∧ some b ≠ v.ownBlock) w x cs) k.sz xs inner
theorem Own.nil (k : Kn α) (e : TypeId) (w : World) (base : Nat) (F : Nat → Prop) : k.Own e w base F (.slice Option.none 0 0) [] :=
  ⟨fun b hb => by simp [Value.ownBlock] at hb, [], w.ownsRow_nil _ _ _, Reps.none _ _⟩
theorem Own.mono (h : k.Own e w base F v xs) (hF : ∀ b, F b → F' b) : k.Own e w base F' v xs := by
  obtain ⟨h0, inner, ho, hr⟩ := h
  exact ⟨fun b hb => hF b (h0 b hb), inner, ho, hr.imp fun _ _ hk => k.mono (fun b hb => ⟨hF b hb.1, hb.2⟩) hk⟩
theorem own_move {n size : Nat} {ys : List Value} (h : w.ownsRow base e size v n ys) (hm : ∀ b, v.ownBlock = some b → w'.heap[b]? = w.heap[b]?) : w'.ownsRow base e size v n ys := by
  obtain ⟨h1, h2⟩ := h
  refine ⟨h1, ?_⟩
  rcases h2 with h2 | ⟨g, cap, cur, rfl, hg, hh, r⟩
  · exact .inl h2
  · exact .inr ⟨g, cap, cur, rfl, hg, (hm g (by simp [Value.ownBlock])).trans hh, r⟩
theorem Own.lt (h : k.Own e w base F v xs) : ∀ b, v.ownBlock = some b → base ≤ b ∧ b < w.heap.size := by
  obtain ⟨_, inner, ho, _⟩ := h
  exact ho.lt
/-- All that F holds of, and that was there, stays. -/
theorem Own.step (h : k.Own e w base F v xs) (hm : ∀ b, F b → b < w.heap.size → w'.heap[b]? = w.heap[b]?) : k.Own e w' base F v xs := by
  obtain ⟨h0, inner, ho, hr⟩ := h
  refine ⟨h0, inner, own_move ho (fun b hb => hm b (h0 b hb) (ho.lt b hb).2), hr.imp fun _ _ hk => ?_⟩
  exact k.mono (fun b hb => hb.1) (k.move (fun b hb => hm b hb.1.1 hb.2) (k.bound hk))
theorem Own.reads (h : k.Own e w base F v xs) : k.SV F w v xs := by
  obtain ⟨h0, inner, ho, hr⟩ := h
  rcases Nat.eq_zero_or_pos xs.length with hz | hz
  · rcases ho.2 with ⟨rfl, hn⟩ | ⟨g, cap, cur, rfl, _, _, hc, _⟩
    · exact ⟨Option.none, 0, by rw [hn], by omega, by omega, fun hp => absurd hp (by omega)⟩
    · exact ⟨_, cap, rfl, hc, by omega, fun hp => absurd hp (by omega)⟩
  · rcases ho.2 with ⟨_, hn⟩ | ⟨g, cap, cur, rfl, hg, hh, hc, hm, _⟩
    · omega
    · refine ⟨_, cap, rfl, hc, by simp only [maxLen] at hm; omega, fun _ => ⟨_, rfl, h0 g (by simp [Value.ownBlock]), fun j x hj => ⟨_, k.mono (fun b hb => hb.1) (hr.2 j x hj), fun i u hu => ?_⟩⟩⟩
      refine ho.cells (g := g) rfl _ u ?_
      rw [List.getElem?_take] at hu
      split at hu
      · rw [List.getElem?_drop] at hu
        exact hu
      · cases hu
/-- What an append leaves. -/
theorem Own.appended {p : α} {cs inner : List Value} (h0 : ∀ b, v.ownBlock = some b → F b) (hr : Reps (fun x cs => k.K (fun b => F b ∧ some b ≠ v.ownBlock) W x cs) k.sz xs inner)
    (hp : k.K (fun b => F b ∧ some b ≠ v.ownBlock) W p cs) (hfresh : ∀ b, W.heap.size ≤ b → F b)
    (hown : w1.ownsRow base e k.sz v1 (xs.length + 1) (inner ++ cs)) (hg : W.grownBy w1 v.ownBlock) (hat : v1.ownBlock = v.ownBlock ∨ ∃ b, v1.ownBlock = some b ∧ W.heap.size ≤ b) : k.Own e w1 base F v1 (xs ++ [p]) := by
  have step : ∀ {q : α} {c : List Value}, k.K (fun b => F b ∧ some b ≠ v.ownBlock) W q c → k.K (fun b => F b ∧ some b ≠ v1.ownBlock) w1 q c := by
    intro q c hq
    refine k.mono ?_ (k.move (w' := w1) (fun b hb => hg.block b hb.2 hb.1.2) (k.bound hq))
    rintro b ⟨⟨hF, hne⟩, hlt⟩
    refine ⟨hF, ?_⟩
    rcases hat with hat | ⟨b', hb', hle⟩
    · rw [hat]; exact hne
    · rw [hb']
      intro he
      injection he with he
      omega
  refine ⟨fun b hb => ?_, inner ++ cs, by rw [List.length_append, List.length_singleton]; exact hown, ?_⟩
  · rcases hat with hat | ⟨b', hb', hle⟩
    · exact h0 b (hat ▸ hb)
    · rw [hb'] at hb
      injection hb with hb
      exact hfresh b (by omega)
  · exact (hr.imp (fun _ _ hq => step hq)).snoc (step hp) (k.len hp)
end
section
variable {P : Program} {ops : Array Oper} {rest : List Oper} {o : Oper} {a : Act} {Q : Exit → Act → World → Prop} {α : Type}
/-- append(v, x), behind 'at_builtin'; the goal's world is 'W.alloc' of the variadic's box; x's cells are cs. -/
theorem Own.append (k : Kn α) {W : World} (base : Nat) (hgd : o.guard = Option.none) (s x : Operand) (t e : TypeId) (z : Value) (bytes : Nat)
    (ho : o.op = .call { callee := .builtin .append, args := #[s, x], argTypes := #[t, t] })
    (ht : P.underlying t = some (.slice e)) (hinfo : (P.info? e).map (fun i => (i.zero, i.size, i.bytes)) = some (some z, k.sz, bytes)) (hz : z.cells.size = k.sz) (hs0 : 0 < k.sz) (hb0 : 0 < bytes)
    (v : Value) (xs : List α) (p : α) (cs : List Value) (F : Nat → Prop) (n : Nat) (hs : a.eval s = v) (hx : a.eval x = .slice (some ⟨n, 0, Option.none⟩) 1 1) (hn : n = W.heap.size)
    (hp : k.K (fun b => F b ∧ some b ≠ v.ownBlock) W p cs) (hfresh : ∀ b, W.heap.size ≤ b → F b)
    (HO : k.Own e W base F v xs) (hbase : base ≤ W.heap.size) (hl : (xs.length + 1) * bytes ≤ 140737488355328)
    (h : ∀ v1 w1, k.Own e w1 base F v1 (xs ++ [p]) → W.grownBy w1 v.ownBlock → wpList P ops Q rest (a.put o.dst v1) w1) :
    wpList P ops Q (o :: rest) a (W.alloc (.cells cs.toArray e)) := by
  subst hn
  obtain ⟨h0, inner, hown, hr⟩ := HO
  obtain ⟨i0, hi, hzz⟩ := Option.map_eq_some_iff.1 hinfo
  simp only [Prod.mk.injEq] at hzz
  obtain ⟨hz0, hz1, hz2⟩ := hzz
  have hlen : xs.length + 1 ≤ 140737488355328 := Nat.le_trans (Nat.le_mul_of_pos_right _ hb0) hl
  have hcl := k.len hp
  refine wpList_append_own_at (W.alloc (.cells cs.toArray e)) hgd s x t ho base e i0 z k.sz bytes ht hi hz0 hz1 hz2 hz hs0 v xs.length inner hs (hown.alloc _) ⟨W.heap.size, 0, Option.none⟩ 1 1 cs hx (by rw [hcl]; simp)
    (by simpa using World.news_of_block (cs := cs.toArray) (t := e) (fr := (0, 0)) (heap_alloc_new W (.cells cs.toArray e))) (k.one hp) (by simp only [maxLen]; omega) hl (by simp; omega) ?_
  intro v1 w1 hown1 hg _ hat
  have hg1 : W.grownBy w1 v.ownBlock := World.grownBy.trans (World.grownBy_alloc W _ _) hg
  refine h v1 w1 (Own.appended h0 hr hp hfresh hown1 hg1 ?_) hg1
  rcases hat with hat | hat
  · exact .inl hat
  · exact .inr ⟨_, hat, by simp⟩
end
end Kn
end Go.Proofs.YtimonhimfioohaaGreatDoor
/-! spec.Word, Line, is, one. -/
namespace Go.Proofs.YtimonhimfioohaaGreatDoor
open Go Go.RowKit Go.PlainAid
/-- A bool is handed back, and if it is true, p; the world is as it was. -/
def RB (p : Prop) (w : World) (e : Ending) (w' : World) : Prop := w = w' ∧ ∃ b : Bool, e = .returned (.bool b) ∧ (b = true → p)
/-- The same where memory may have been made. -/
def RG (p : Prop) (w : World) (e : Ending) (w' : World) : Prop := Below w.heap.size w w' ∧ ∃ b : Bool, e = .returned (.bool b) ∧ (b = true → p)
def IsWord (s : ByteArray) : Prop := 0 < s.size ∧ ∀ j : Nat, j < s.size → 33 ≤ bt s j ∧ bt s j ≤ 126 ∧ bt s j ≠ 47 ∧ bt s j ≠ 58
def IsLine (s : ByteArray) : Prop := 0 < s.size ∧ ∀ j : Nat, j < s.size → 32 ≤ bt s j ∧ bt s j ≤ 126
def WordTo (s : ByteArray) (k : Nat) : Prop := ∀ j : Nat, j < k → 33 ≤ bt s j ∧ bt s j ≤ 126 ∧ bt s j ≠ 47 ∧ bt s j ≠ 58
def LineTo (s : ByteArray) (k : Nat) : Prop := ∀ j : Nat, j < k → 32 ≤ bt s j ∧ bt s j ≤ 126
theorem wordTo_succ {s : ByteArray} {k : Nat} (h : WordTo s k) (a : 32 < bt s k) (b : bt s k ≤ 126) (c : ¬ bt s k = 47) (d : ¬ bt s k = 58) : WordTo s (k + 1) := fun j hj => by
  rcases Nat.lt_or_ge j k with h1 | h1
  · exact h j h1
  · obtain rfl : j = k := by omega
    exact ⟨by omega, b, c, d⟩
theorem lineTo_succ {s : ByteArray} {k : Nat} (h : LineTo s k) (a : 32 ≤ bt s k) (b : bt s k ≤ 126) : LineTo s (k + 1) := fun j hj => by
  rcases Nat.lt_or_ge j k with h1 | h1
  · exact h j h1
  · obtain rfl : j = k := by omega
    exact ⟨a, b⟩
theorem empty_of_size {s : ByteArray} (h : s.size = 0) : s = ByteArray.empty := by
  cases s with | mk d => cases d with | mk l => simp [ByteArray.size] at h; subst h; rfl
theorem toList_isEmpty (s : ByteArray) : s.toList.isEmpty = decide (s.size = 0) := by
  rw [← decide_eq_emptyBytes]
  by_cases h : s.size = 0
  · rw [decide_eq_true h, decide_eq_true (empty_of_size h)]
  · rw [decide_eq_false h, decide_eq_false (fun e => h (by rw [e]; rfl))]
theorem size_pos {s : ByteArray} (h : (!s.toList.isEmpty) = true) : 0 < s.size := by
  rw [toList_isEmpty] at h
  rcases Nat.eq_zero_or_pos s.size with h0 | h0
  · rw [decide_eq_true h0] at h; cases h
  · exact h0
theorem toList_pos {s : ByteArray} (h : 0 < s.size) : (!s.toList.isEmpty) = true := by
  rw [toList_isEmpty, decide_eq_false (by omega)]; rfl
theorem toList_inj {a b : ByteArray} (h : a.toList = b.toList) : a = b := by
  rw [ByteArray.toList_eq, ByteArray.toList_eq] at h
  cases a with | mk x => cases b with | mk y => cases x with | mk x => cases y with | mk y => simp at h; rw [h]
set_option maxHeartbeats 400000 in
theorem word_calls (s : ByteArray) (w : World) (hs : s.size ≤ 2147483647) : Calls Tryz.prog 8 #[.string s] w (RB (IsWord s) w) := by
  go_enter Tryz.func8, Tryz.ntmps8
  go_wp2
  go_loop [6] (fun i => ∃ k : Nat, k ≤ s.size ∧ i = .int .i64 k ∧ Bx (WordTo s k)) (fun i => s.size - (intOf i).toNat)
  case atStart => exact ⟨0, Nat.zero_le _, rfl, ⟨fun _ h => absurd h (Nat.not_lt_zero _)⟩⟩
  case round =>
    obtain ⟨k, hk, rfl, hW⟩ := hrel
    have hb := get_bt s
    by_cases hlt : k < s.size
    · go_wp2
      all_goals first
        | (go_ret; exact ⟨rfl, false, rfl, fun h => absurd h (by simp)⟩)
        | (refine ⟨⟨k + 1, by omega, by go_num, ⟨wordTo_succ hW.out ?_ ?_ ?_ ?_⟩⟩, by simp [intOf]; omega⟩ <;> simp_all <;> omega)
    · go_wp2
      go_ret
      refine ⟨rfl, _, rfl, fun h => ?_⟩
      obtain rfl : k = s.size := by omega
      exact ⟨size_pos h, hW.out⟩
set_option maxHeartbeats 400000 in
theorem line_calls (s : ByteArray) (w : World) (hs : s.size ≤ 2147483647) : Calls Tryz.prog 9 #[.string s] w (RB (IsLine s) w) := by
  go_enter Tryz.func9, Tryz.ntmps9
  go_wp2
  go_loop [6] (fun i => ∃ k : Nat, k ≤ s.size ∧ i = .int .i64 k ∧ Bx (LineTo s k)) (fun i => s.size - (intOf i).toNat)
  case atStart => exact ⟨0, Nat.zero_le _, rfl, ⟨fun _ h => absurd h (Nat.not_lt_zero _)⟩⟩
  case round =>
    obtain ⟨k, hk, rfl, hW⟩ := hrel
    have hb := get_bt s
    by_cases hlt : k < s.size
    · go_wp2
      all_goals first
        | (go_ret; exact ⟨rfl, false, rfl, fun h => absurd h (by simp)⟩)
        | (refine ⟨⟨k + 1, by omega, by go_num, ⟨lineTo_succ hW.out ?_ ?_⟩⟩, by simp [intOf]; omega⟩ <;> simp_all <;> omega)
    · obtain rfl : k = s.size := by omega
      rcases Nat.eq_zero_or_pos s.size with h0 | h0
      · obtain rfl : s = ByteArray.empty := by
          cases s with | mk d => cases d with | mk l => simp [ByteArray.size] at h0; subst h0; rfl
        clear hb hlt hk hW
        go_wp2
        go_ret
        exact ⟨rfl, false, rfl, fun h => absurd h (by simp)⟩
      · have hn : (!s.toList.isEmpty) = true := toList_pos h0
        go_wp2
        all_goals (go_ret; exact ⟨rfl, _, rfl, fun _ => ⟨h0, hW.out⟩⟩)
/-- Strings: cells, in the walk's own form. -/
theorem str_get {F : Nat → Prop} {w : World} {A : Option Addr} {l : List ByteArray} (h : Kn.string.Row F w A l) (i : Nat) (hi : i < l.length) : ∃ ad, A = some ad ∧ w.cell? (ad.add i) = some (.string l[i]) := by
  obtain ⟨ad, cs, e, _, hk, hc⟩ := h.get i hi
  obtain rfl : cs = [.string l[i]] := hk
  exact ⟨ad, e, by have := hc 0 _ rfl; simpa [Kn.string, Kn.scalar] using this⟩
set_option maxHeartbeats 400000 in
theorem is_calls (s : ByteArray) (v : Value) (l : List ByteArray) (F : Nat → Prop) (w : World) (hv : Kn.string.SV F w v l) : Calls Tryz.prog 27 #[.string s, v] w (RB (s ∈ l) w) := by
  obtain ⟨A, c, rfl, hl, hr⟩ := hv
  have hm := hr.1
  have HR := Bx.mk hr
  clear hr
  go_enter Tryz.func27, Tryz.ntmps27
  go_wp2
  go_loop [9] (fun i => ∃ k : Nat, k ≤ l.length ∧ i = .int .i64 k) (fun i => l.length - (intOf i).toNat)
  case atStart => exact ⟨0, Nat.zero_le _, rfl⟩
  case round =>
    obtain ⟨k, hk, rfl⟩ := hrel
    by_cases hlt : k < l.length
    · obtain ⟨ad, rfl, hcell⟩ := str_get HR.out k hlt
      cases heq : (l[k].toList == s.toList)
      · go_wp2
        exact ⟨⟨k + 1, by omega, by go_num⟩, by simp [intOf]; omega⟩
      · go_wp2
        go_ret
        exact ⟨rfl, _, rfl, fun _ => by have := List.getElem_mem hlt; rwa [toList_inj (eq_of_beq heq)] at this⟩
    · go_wp2
      go_ret
      exact ⟨rfl, false, rfl, fun h => absurd h (by simp)⟩
set_option maxHeartbeats 400000 in
theorem one_calls (v : Value) (l : List ByteArray) (F : Nat → Prop) (w : World) (hv : Kn.string.SV F w v l) (hs : ∀ s ∈ l, s.size ≤ 2147483647) : Calls Tryz.prog 30 #[v] w (RB True w) := by
  obtain ⟨A, c, rfl, hl, hr⟩ := hv
  have hm := hr.1
  match l, hs with
  | [], _ =>
    go_enter Tryz.func30, Tryz.ntmps30
    go_wp2
    go_ret
    exact ⟨rfl, _, rfl, fun _ => trivial⟩
  | [s], hs =>
    obtain ⟨ad, rfl, hcell⟩ := str_get hr 0 (by simp)
    have h0 : ad.add 0 = ad := rfl
    rw [h0] at hcell
    have hz := Bx.mk (hs s (by simp))
    clear hr hs
    go_enter Tryz.func30, Tryz.ntmps30
    go_wp2_with (go_at_call 9; refine (line_calls s _ hz.out).mono ?_; rintro e w' ⟨rfl, b, rfl, hb⟩; clear hb)
    go_ret
    exact ⟨rfl, _, rfl, fun _ => trivial⟩
  | s :: t :: l, _ =>
    clear hr hs
    go_enter Tryz.func30, Tryz.ntmps30
    go_wp2
    go_ret
    exact ⟨rfl, _, rfl, fun _ => trivial⟩
end Go.Proofs.YtimonhimfioohaaGreatDoor
/-! The data of sessions as Lean structures, shared by the thin package, the reference and the statement. -/
namespace Go.Proofs.YtimonhimfioohaaGreatDoor
open Go Go.RowKit Go.PlainAid Kn
structure Att where
  key : ByteArray
  val : ByteArray
structure Bw where
  exp : Bool
  typ : ByteArray
  n : Int
structure Adr where
  a : ByteArray
  ttl : List Int
  rng : List Int
structure Con where
  net : ByteArray
  addr : ByteArray
  adr : List Adr
structure Rep where
  iv : Int
  du : Int
  offs : List Int
structure Tim where
  st : Int
  sp : Int
  reps : List Rep
structure Zon where
  t : Int
  o : Int
structure Med where
  name : ByteArray
  port : Int
  ports : List Int
  protos : List ByteArray
  formats : List ByteArray
  title : List ByteArray
  con : List Con
  bw : List Bw
  key : List ByteArray
  atts : List Att
structure Ses where
  ver : Int
  user : ByteArray
  id : Int
  ver2 : Int
  net : ByteArray
  addr : ByteArray
  address : ByteArray
  name : ByteArray
  info : List ByteArray
  uri : List ByteArray
  email : List ByteArray
  phone : List ByteArray
  con : List Con
  bw : List Bw
  tim : List Tim
  zon : List Zon
  key : List ByteArray
  atts : List Att
  med : List Med

theorem szI (k : IntKind) : 0 < (Kn.int k).sz := Nat.one_pos
theorem szS : 0 < Kn.string.sz := Nat.one_pos
abbrev kI : Kn Int := Kn.int .i64
abbrev kStrs : Kn (List ByteArray) := slice Kn.string szS
abbrev kInts : Kn (List Int) := slice kI (szI _)
def kAtt : Kn Att := iso (pair Kn.string Kn.string) (fun x : Att => (x.key, x.val))
theorem szAtt : 0 < kAtt.sz := by decide
def kBw : Kn Bw := iso (pair Kn.bool (pair Kn.string (Kn.int .u64))) (fun x : Bw => (x.exp, x.typ, x.n))
theorem szBw : 0 < kBw.sz := by decide
def kAdr : Kn Adr := iso (pair Kn.string (pair kInts kInts)) (fun x : Adr => (x.a, x.ttl, x.rng))
theorem szAdr : 0 < kAdr.sz := by decide
def kCon : Kn Con := iso (pair Kn.string (pair Kn.string (slice kAdr szAdr))) (fun x : Con => (x.net, x.addr, x.adr))
theorem szCon : 0 < kCon.sz := by decide
def kRep : Kn Rep := iso (pair kI (pair kI kInts)) (fun x : Rep => (x.iv, x.du, x.offs))
theorem szRep : 0 < kRep.sz := by decide
def kTim : Kn Tim := iso (pair (Kn.int .u64) (pair (Kn.int .u64) (slice kRep szRep))) (fun x : Tim => (x.st, x.sp, x.reps))
theorem szTim : 0 < kTim.sz := by decide
def kZon : Kn Zon := iso (pair (Kn.int .u64) kI) (fun x : Zon => (x.t, x.o))
theorem szZon : 0 < kZon.sz := by decide
def kMed : Kn Med := iso (pair Kn.string (pair kI (pair kInts (pair kStrs (pair kStrs (pair kStrs (pair (slice kCon szCon) (pair (slice kBw szBw) (pair kStrs (slice kAtt szAtt))))))))))
  (fun x : Med => (x.name, x.port, x.ports, x.protos, x.formats, x.title, x.con, x.bw, x.key, x.atts))
theorem szMed : 0 < kMed.sz := by decide
def kSes : Kn Ses := iso (pair kI (pair Kn.string (pair (Kn.int .u64) (pair (Kn.int .u64) (pair Kn.string (pair Kn.string (pair Kn.string (pair Kn.string (pair kStrs (pair kStrs (pair kStrs (pair kStrs (pair (slice kCon szCon) (pair (slice kBw szBw) (pair (slice kTim szTim) (pair (slice kZon szZon) (pair kStrs (pair (slice kAtt szAtt) (slice kMed szMed)))))))))))))))))))
  (fun x : Ses => (x.ver, x.user, x.id, x.ver2, x.net, x.addr, x.address, x.name, x.info, x.uri, x.email, x.phone, x.con, x.bw, x.tim, x.zon, x.key, x.atts, x.med))

section
variable {F : Nat → Prop} {w : World} {cs : List Value}
theorem kAtt_open {x : Att} (h : kAtt.K F w x cs) : cs = [.string x.key, .string x.val] := by
  obtain ⟨_, _, rfl, rfl, rfl⟩ := h
  rfl
theorem kAtt_mk (F : Nat → Prop) (w : World) (x : Att) : kAtt.K F w x [.string x.key, .string x.val] := ⟨[_], [_], rfl, rfl, rfl⟩
theorem kBw_open {x : Bw} (h : kBw.K F w x cs) : cs = [.bool x.exp, .string x.typ, .int .u64 x.n] := by
  obtain ⟨_, _, rfl, rfl, ⟨_, _, rfl, rfl, rfl⟩⟩ := h
  rfl
theorem kBw_mk (F : Nat → Prop) (w : World) (x : Bw) : kBw.K F w x [.bool x.exp, .string x.typ, .int .u64 x.n] := ⟨[_], [_, _], rfl, rfl, [_], [_], rfl, rfl, rfl⟩
theorem kAdr_open {x : Adr} (h : kAdr.K F w x cs) : ∃ v1 v2, cs = [.string x.a, v1, v2] ∧ kI.SV F w v1 x.ttl ∧ kI.SV F w v2 x.rng := by
  obtain ⟨_, _, rfl, rfl, ⟨_, _, rfl, ⟨v1, rfl, h1⟩, ⟨v2, rfl, h2⟩⟩⟩ := h
  exact ⟨v1, v2, rfl, h1, h2⟩
theorem kAdr_mk (x : Adr) {v1 v2 : Value} (h1 : kI.SV F w v1 x.ttl) (h2 : kI.SV F w v2 x.rng) : kAdr.K F w x [.string x.a, v1, v2] := ⟨[_], [_, _], rfl, rfl, [_], [_], rfl, ⟨v1, rfl, h1⟩, ⟨v2, rfl, h2⟩⟩
theorem kCon_open {x : Con} (h : kCon.K F w x cs) : ∃ v2, cs = [.string x.net, .string x.addr, v2] ∧ kAdr.SV F w v2 x.adr := by
  obtain ⟨_, _, rfl, rfl, ⟨_, _, rfl, rfl, ⟨v2, rfl, h2⟩⟩⟩ := h
  exact ⟨v2, rfl, h2⟩
theorem kCon_mk (x : Con) {v2 : Value} (h2 : kAdr.SV F w v2 x.adr) : kCon.K F w x [.string x.net, .string x.addr, v2] := ⟨[_], [_, _], rfl, rfl, [_], [_], rfl, rfl, ⟨v2, rfl, h2⟩⟩
theorem kRep_open {x : Rep} (h : kRep.K F w x cs) : ∃ v2, cs = [.int .i64 x.iv, .int .i64 x.du, v2] ∧ kI.SV F w v2 x.offs := by
  obtain ⟨_, _, rfl, rfl, ⟨_, _, rfl, rfl, ⟨v2, rfl, h2⟩⟩⟩ := h
  exact ⟨v2, rfl, h2⟩
theorem kRep_mk (x : Rep) {v2 : Value} (h2 : kI.SV F w v2 x.offs) : kRep.K F w x [.int .i64 x.iv, .int .i64 x.du, v2] := ⟨[_], [_, _], rfl, rfl, [_], [_], rfl, rfl, ⟨v2, rfl, h2⟩⟩
theorem kTim_open {x : Tim} (h : kTim.K F w x cs) : ∃ v2, cs = [.int .u64 x.st, .int .u64 x.sp, v2] ∧ kRep.SV F w v2 x.reps := by
  obtain ⟨_, _, rfl, rfl, ⟨_, _, rfl, rfl, ⟨v2, rfl, h2⟩⟩⟩ := h
  exact ⟨v2, rfl, h2⟩
theorem kTim_mk (x : Tim) {v2 : Value} (h2 : kRep.SV F w v2 x.reps) : kTim.K F w x [.int .u64 x.st, .int .u64 x.sp, v2] := ⟨[_], [_, _], rfl, rfl, [_], [_], rfl, rfl, ⟨v2, rfl, h2⟩⟩
theorem kZon_open {x : Zon} (h : kZon.K F w x cs) : cs = [.int .u64 x.t, .int .i64 x.o] := by
  obtain ⟨_, _, rfl, rfl, rfl⟩ := h
  rfl
theorem kZon_mk (F : Nat → Prop) (w : World) (x : Zon) : kZon.K F w x [.int .u64 x.t, .int .i64 x.o] := ⟨[_], [_], rfl, rfl, rfl⟩
theorem kMed_open {x : Med} (h : kMed.K F w x cs) : ∃ v2 v3 v4 v5 v6 v7 v8 v9, cs = [.string x.name, .int .i64 x.port, v2, v3, v4, v5, v6, v7, v8, v9] ∧ kI.SV F w v2 x.ports ∧ Kn.string.SV F w v3 x.protos ∧ Kn.string.SV F w v4 x.formats ∧ Kn.string.SV F w v5 x.title ∧
    kCon.SV F w v6 x.con ∧ kBw.SV F w v7 x.bw ∧ Kn.string.SV F w v8 x.key ∧ kAtt.SV F w v9 x.atts := by
  obtain ⟨_, _, rfl, rfl, ⟨_, _, rfl, rfl, ⟨_, _, rfl, ⟨v2, rfl, h2⟩, ⟨_, _, rfl, ⟨v3, rfl, h3⟩, ⟨_, _, rfl, ⟨v4, rfl, h4⟩, ⟨_, _, rfl, ⟨v5, rfl, h5⟩, ⟨_, _, rfl, ⟨v6, rfl, h6⟩, ⟨_, _, rfl, ⟨v7, rfl, h7⟩, ⟨_, _, rfl, ⟨v8, rfl, h8⟩, ⟨v9, rfl, h9⟩⟩⟩⟩⟩⟩⟩⟩⟩⟩ := h
  exact ⟨v2, v3, v4, v5, v6, v7, v8, v9, rfl, h2, h3, h4, h5, h6, h7, h8, h9⟩
theorem kMed_mk (x : Med) {v2 v3 v4 v5 v6 v7 v8 v9 : Value} (h2 : kI.SV F w v2 x.ports) (h3 : Kn.string.SV F w v3 x.protos) (h4 : Kn.string.SV F w v4 x.formats) (h5 : Kn.string.SV F w v5 x.title)
    (h6 : kCon.SV F w v6 x.con) (h7 : kBw.SV F w v7 x.bw) (h8 : Kn.string.SV F w v8 x.key) (h9 : kAtt.SV F w v9 x.atts) : kMed.K F w x [.string x.name, .int .i64 x.port, v2, v3, v4, v5, v6, v7, v8, v9] :=
  ⟨[_], [_, _, _, _, _, _, _, _, _], rfl, rfl, [_], [_, _, _, _, _, _, _, _], rfl, rfl, [_], [_, _, _, _, _, _, _], rfl, ⟨v2, rfl, h2⟩, [_], [_, _, _, _, _, _], rfl, ⟨v3, rfl, h3⟩, [_], [_, _, _, _, _], rfl, ⟨v4, rfl, h4⟩, [_], [_, _, _, _], rfl, ⟨v5, rfl, h5⟩, [_], [_, _, _], rfl, ⟨v6, rfl, h6⟩, [_], [_, _], rfl, ⟨v7, rfl, h7⟩, [_], [_], rfl, ⟨v8, rfl, h8⟩, ⟨v9, rfl, h9⟩⟩
theorem kSes_open {x : Ses} (h : kSes.K F w x cs) : ∃ u1 u2 u3 u4 u5 u6 u7 u8 u9 u10 u11, cs = [.int .i64 x.ver, .string x.user, .int .u64 x.id, .int .u64 x.ver2, .string x.net, .string x.addr, .string x.address, .string x.name, u1, u2, u3, u4, u5, u6, u7, u8, u9, u10, u11] ∧
    Kn.string.SV F w u1 x.info ∧ Kn.string.SV F w u2 x.uri ∧ Kn.string.SV F w u3 x.email ∧ Kn.string.SV F w u4 x.phone ∧ kCon.SV F w u5 x.con ∧ kBw.SV F w u6 x.bw ∧ kTim.SV F w u7 x.tim ∧ kZon.SV F w u8 x.zon ∧ Kn.string.SV F w u9 x.key ∧ kAtt.SV F w u10 x.atts ∧ kMed.SV F w u11 x.med := by
  obtain ⟨_, _, rfl, rfl, ⟨_, _, rfl, rfl, ⟨_, _, rfl, rfl, ⟨_, _, rfl, rfl, ⟨_, _, rfl, rfl, ⟨_, _, rfl, rfl, ⟨_, _, rfl, rfl, ⟨_, _, rfl, rfl, ⟨_, _, rfl, ⟨u1, rfl, h1⟩, ⟨_, _, rfl, ⟨u2, rfl, h2⟩, ⟨_, _, rfl, ⟨u3, rfl, h3⟩, ⟨_, _, rfl, ⟨u4, rfl, h4⟩, ⟨_, _, rfl, ⟨u5, rfl, h5⟩, ⟨_, _, rfl, ⟨u6, rfl, h6⟩,
    ⟨_, _, rfl, ⟨u7, rfl, h7⟩, ⟨_, _, rfl, ⟨u8, rfl, h8⟩, ⟨_, _, rfl, ⟨u9, rfl, h9⟩, ⟨_, _, rfl, ⟨u10, rfl, h10⟩, ⟨u11, rfl, h11⟩⟩⟩⟩⟩⟩⟩⟩⟩⟩⟩⟩⟩⟩⟩⟩⟩⟩⟩ := h
  exact ⟨u1, u2, u3, u4, u5, u6, u7, u8, u9, u10, u11, rfl, h1, h2, h3, h4, h5, h6, h7, h8, h9, h10, h11⟩
theorem kSes_mk (x : Ses) {u1 u2 u3 u4 u5 u6 u7 u8 u9 u10 u11 : Value} (h1 : Kn.string.SV F w u1 x.info) (h2 : Kn.string.SV F w u2 x.uri) (h3 : Kn.string.SV F w u3 x.email) (h4 : Kn.string.SV F w u4 x.phone) (h5 : kCon.SV F w u5 x.con) (h6 : kBw.SV F w u6 x.bw)
    (h7 : kTim.SV F w u7 x.tim) (h8 : kZon.SV F w u8 x.zon) (h9 : Kn.string.SV F w u9 x.key) (h10 : kAtt.SV F w u10 x.atts) (h11 : kMed.SV F w u11 x.med) :
    kSes.K F w x [.int .i64 x.ver, .string x.user, .int .u64 x.id, .int .u64 x.ver2, .string x.net, .string x.addr, .string x.address, .string x.name, u1, u2, u3, u4, u5, u6, u7, u8, u9, u10, u11] :=
  ⟨[_], [_, _, _, _, _, _, _, _, _, _, _, _, _, _, _, _, _, _], rfl, rfl, [_], [_, _, _, _, _, _, _, _, _, _, _, _, _, _, _, _, _], rfl, rfl, [_], [_, _, _, _, _, _, _, _, _, _, _, _, _, _, _, _], rfl, rfl, [_], [_, _, _, _, _, _, _, _, _, _, _, _, _, _, _], rfl, rfl, [_], [_, _, _, _, _, _, _, _, _, _, _, _, _, _], rfl, rfl, [_], [_, _, _, _, _, _, _, _, _, _, _, _, _], rfl, rfl, [_], [_, _, _, _, _, _, _, _, _, _, _, _], rfl, rfl,
    [_], [_, _, _, _, _, _, _, _, _, _, _], rfl, rfl, [_], [_, _, _, _, _, _, _, _, _, _], rfl, ⟨u1, rfl, h1⟩, [_], [_, _, _, _, _, _, _, _, _], rfl, ⟨u2, rfl, h2⟩, [_], [_, _, _, _, _, _, _, _], rfl, ⟨u3, rfl, h3⟩, [_], [_, _, _, _, _, _, _], rfl, ⟨u4, rfl, h4⟩, [_], [_, _, _, _, _, _], rfl, ⟨u5, rfl, h5⟩, [_], [_, _, _, _, _], rfl, ⟨u6, rfl, h6⟩, [_], [_, _, _, _], rfl, ⟨u7, rfl, h7⟩, [_], [_, _, _], rfl, ⟨u8, rfl, h8⟩, [_], [_, _], rfl, ⟨u9, rfl, h9⟩, [_], [_], rfl, ⟨u10, rfl, h10⟩, ⟨u11, rfl, h11⟩⟩
end
/-- A field's address as the walk spells it. -/
theorem add_field (ad : Addr) (m j : Nat) (hj : 0 < j) : ad.add (m + j) = ⟨(ad.add m).block, (ad.add m).off + j, Option.none⟩ := by
  unfold Addr.add
  by_cases hm : m = 0
  · subst hm
    simp [Nat.ne_of_gt hj]
  · simp [hm, Nat.add_assoc]
end Go.Proofs.YtimonhimfioohaaGreatDoor
