import Derived.WalkKit
import Derived.WalkLawsBesides
import Derived.Laws.CopyOwn
namespace Go.Proofs.Qxb6609416aDoor
open Go.RowKit

/-- Block g holds just the cells cs, of element type t; none of them is frozen. -/
def Blk (w : World) (g : Nat) (t : TypeId) (cs : List Value) : Prop := w.heap[g]? = some (.cells cs.toArray t (0, 0))

theorem Blk.lt {w : World} {g : Nat} {t : TypeId} {cs : List Value} (h : Blk w g t cs) : g < w.heap.size := (Array.getElem?_eq_some_iff.1 h).1
theorem Blk.cellAt {w : World} {g : Nat} {t : TypeId} {cs : List Value} (h : Blk w g t cs) (i : Nat) : w.cell? ⟨g, i, none⟩ = cs[i]? := by
  rw [cell_of_row w g i _ t _ h]; simp
theorem Blk.cell {w : World} {g : Nat} {t : TypeId} {cs : List Value} (h : Blk w g t cs) {i : Nat} {v : Value} (hv : cs[i]? = some v) : w.cell? ⟨g, i, none⟩ = some v := by
  rw [h.cellAt, hv]
theorem Blk.frozen {w : World} {g : Nat} {t : TypeId} {cs : List Value} (h : Blk w g t cs) (i : Nat) : w.frozen? ⟨g, i, none⟩ = false :=
  frozen_of_row w g i _ t h
theorem Blk.set {w : World} {g : Nat} {t : TypeId} {cs : List Value} (h : Blk w g t cs) (i : Nat) (v : Value) : Blk (w.setCell ⟨g, i, none⟩ v) g t (cs.set i v) := by
  unfold Blk; rw [heap_setCell_same w g i _ t v h]; simp
theorem Blk.other {w : World} {g : Nat} {t : TypeId} {cs : List Value} (h : Blk w g t cs) {a : Addr} (hne : g ≠ a.block) (v : Value) : Blk (w.setCell a v) g t cs := by
  unfold Blk; rw [heap_setCell_other w a g v hne]; exact h
theorem Blk.drew {w : World} {g : Nat} {t : TypeId} {cs : List Value} (h : Blk w g t cs) : Blk w.drew g t cs := h
theorem Blk.alloc {w : World} {g : Nat} {t : TypeId} {cs : List Value} (h : Blk w g t cs) (o : Obj) : Blk (w.alloc o) g t cs := by
  unfold Blk; rw [Below.heap_alloc w o g h.lt]; exact h
theorem Blk.new (w : World) (t : TypeId) (cs : List Value) : Blk (w.alloc (.cells cs.toArray t)) w.heap.size t cs := heap_alloc_new w _

/-- From w to w' no block has turned but those in S; none has come, none gone. -/
structure Only (S : Nat → Prop) (w w' : World) : Prop where
  os : w'.os = w.os
  tape : w'.tape = w.tape
  output : w'.output = w.output
  size : w'.heap.size = w.heap.size
  block : ∀ k, ¬ S k → w'.heap[k]? = w.heap[k]?

theorem Only.refl (S : Nat → Prop) (w : World) : Only S w w := ⟨rfl, rfl, rfl, rfl, fun _ _ => rfl⟩
theorem Only.drew (S : Nat → Prop) (w : World) : Only S w w.drew := ⟨rfl, rfl, rfl, rfl, fun _ _ => rfl⟩
theorem Only.drewN (S : Nat → Prop) (w : World) (n : Nat) : Only S w (w.drewN n) := ⟨rfl, rfl, rfl, rfl, fun _ _ => rfl⟩
theorem Blk.drewN {w : World} {g : Nat} {t : TypeId} {cs : List Value} (h : Blk w g t cs) (n : Nat) : Blk (w.drewN n) g t cs := h
theorem Only.trans {S : Nat → Prop} {a b c : World} (h : Only S a b) (k : Only S b c) : Only S a c :=
  ⟨k.os.trans h.os, k.tape.trans h.tape, k.output.trans h.output, k.size.trans h.size, fun i hi => (k.block i hi).trans (h.block i hi)⟩
theorem Only.mono {S S' : Nat → Prop} {a b : World} (h : Only S a b) (hs : ∀ k, S k → S' k) : Only S' a b :=
  ⟨h.os, h.tape, h.output, h.size, fun i hi => h.block i (fun e => hi (hs i e))⟩
theorem Only.set {S : Nat → Prop} {a w : World} (h : Only S a w) {p : Addr} (hp : S p.block) (v : Value) : Only S a (w.setCell p v) :=
  h.trans ⟨rfl, rfl, rfl, by simp, fun k hk => heap_setCell_other w p k v (fun e => hk (e ▸ hp))⟩
theorem Only.blk {S : Nat → Prop} {a w : World} (h : Only S a w) {g : Nat} {t : TypeId} {cs : List Value} (hb : Blk a g t cs) (hg : ¬ S g) : Blk w g t cs := by
  unfold Blk; rw [h.block g hg]; exact hb
theorem Only.cell {S : Nat → Prop} {a w : World} (h : Only S a w) {p : Addr} (hp : ¬ S p.block) : w.cell? p = a.cell? p := World.cell?_of_block (w := a) (h.block p.block hp)
theorem Only.below {S : Nat → Prop} {a w : World} (h : Only S a w) {B : Nat} (hB : ∀ k, S k → B ≤ k) : Below B a w :=
  ⟨h.os, h.tape, h.output, Nat.le_of_eq h.size.symm, fun k hk => h.block k (fun e => by have := hB k e; omega)⟩

/-- 'copy' into a block that is known whole, as one step of a region that draws its order: what it leaves, told by blocks. -/
theorem step_copy_blk {P : Program} {ops : Array Oper} {o : Oper} {a : Act} {w : World} {K : Act → World → Prop} {Q : Exit → Act → World → Prop} {E : Prop} (hgd : o.guard = none) (d s : Operand) (dT sT : TypeId)
    (ho : o.op = .call { callee := .builtin .copy, args := #[d, s], argTypes := #[dT, sT] }) (elem : TypeId) (hu : P.underlying dT = some (.slice elem)) (hsz : (P.info? elem).map (·.size) = some 1)
    (dp sp : Option Addr) (dLen dCap sLen sCap : Nat) (hd : a.eval d = .slice dp dLen dCap) (hs : a.eval s = .slice sp sLen sCap)
    (g off : Nat) (cur : List Value) (t : TypeId) (hg : Blk w g t cur) (cs : List Value) (hn : cs.length = Nat.min sLen dLen)
    (hpos : 0 < cs.length → dp = some ⟨g, off, none⟩ ∧ ∃ ad, sp = some ad ∧ ∀ j v, cs[j]? = some v → w.cell? (ad.add j) = some v)
    (hfit : off + cs.length ≤ cur.length) (h1 : ∀ v ∈ cs, v.oneCell' = true)
    (h : ∀ w', Hid (Blk w' g t (splice cur off cs)) → Only (· = g) w w' → K (a.put o.dst (goInt cs.length)) w') :
    if Region.wanted o (yielded ops a.tmps) = true then Oper.wp P o a w K Q else E := by
  have hw : Region.wanted o (yielded ops a.tmps) = true := by simp [Region.wanted, hgd]
  rw [if_pos hw]
  by_cases h0 : cs.length = 0
  · obtain rfl : cs = [] := List.eq_nil_of_length_eq_zero h0
    have hrun := run_copy_none (P := P) w dT sT o.type elem dp sp dLen dCap sLen sCap hu hsz (by simpa using hn.symm)
    unfold Oper.wp
    simp [execOp, ho, resolve, invoke, builtin, hd, hs, hrun, Result.andThen]
    have e : splice cur off ([] : List Value) = cur := by simp [splice]
    exact h w (show Blk _ _ _ _ from e.symm ▸ hg) (Only.refl _ _)
  · obtain ⟨rfl, ad, rfl, hsrc⟩ := hpos (by omega)
    have hrun := run_copy_row (P := P) w dT sT o.type elem g off dLen dCap ad sLen sCap cur.toArray t cs hu hsz hg hn hsrc (by simpa using hfit) h1
    unfold Oper.wp
    simp [execOp, ho, resolve, invoke, builtin, hd, hs, hrun, Result.andThen]
    exact h _ (show Blk _ _ _ _ by unfold Blk; simpa [splice] using setRow_heap w g _ _ t _ hg) ⟨rfl, rfl, rfl, by simp, fun k hk => setRow_other w g k _ hk⟩

end Go.Proofs.Qxb6609416aDoor
