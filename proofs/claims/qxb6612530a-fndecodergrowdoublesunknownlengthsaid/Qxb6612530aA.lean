import Derived.WalkKit
import Derived.WalkLawsBesides
import Derived.Laws.CopyOwn
import Derived.Deep.OwnRows
import Derived.Test.Qxb6612530aProg
import Derived.WalkSpells
import Derived.BigQuiet
import Derived.Deep.QuietTactic
import Derived.Deep.RegionLaw
import Derived.Deep.LoopGhost
namespace Go.Proofs.Qxb6612530a
open Go.RowKit

/-- Block g holds just the cells cs, of element type t; none of them is frozen. -/
def Blk (w : World) (g : Nat) (t : TypeId) (cs : List Value) : Prop := w.heap[g]? = some (.cells cs.toArray t (0, 0))

theorem Blk.lt {w : World} {g : Nat} {t : TypeId} {cs : List Value} (h : Blk w g t cs) : g < w.heap.size := (Array.getElem?_eq_some_iff.1 h).1
theorem Blk.cellAt {w : World} {g : Nat} {t : TypeId} {cs : List Value} (h : Blk w g t cs) (i : Nat) : w.cell? ⟨g, i, none⟩ = cs[i]? := by
  rw [cell_of_row w g i _ t _ h]; simp
theorem Blk.cell {w : World} {g : Nat} {t : TypeId} {cs : List Value} (h : Blk w g t cs) {i : Nat} {v : Value} (hv : cs[i]? = some v) : w.cell? ⟨g, i, none⟩ = some v := by
  rw [h.cellAt, hv]
theorem Blk.frozen {w : World} {g : Nat} {t : TypeId} {cs : List Value} (h : Blk w g t cs) (i : Nat) : w.frozen? ⟨g, i, none⟩ = false :=
  frozen_of_row w g i _ t h
theorem Blk.set {w : World} {g : Nat} {t : TypeId} {cs : List Value} (h : Blk w g t cs) (i : Nat) (v : Value) : Blk (w.setCell ⟨g, i, none⟩ v) g t (cs.set i v) := by
  unfold Blk; rw [heap_setCell_same w g i _ t v h]; simp
theorem Blk.other {w : World} {g : Nat} {t : TypeId} {cs : List Value} (h : Blk w g t cs) {a : Addr} (hne : g ≠ a.block) (v : Value) : Blk (w.setCell a v) g t cs := by
  unfold Blk; rw [heap_setCell_other w a g v hne]; exact h
theorem Blk.drew {w : World} {g : Nat} {t : TypeId} {cs : List Value} (h : Blk w g t cs) : Blk w.drew g t cs := h
theorem Blk.alloc {w : World} {g : Nat} {t : TypeId} {cs : List Value} (h : Blk w g t cs) (o : Obj) : Blk (w.alloc o) g t cs := by
  unfold Blk; rw [Below.heap_alloc w o g h.lt]; exact h
theorem Blk.new (w : World) (t : TypeId) (cs : List Value) : Blk (w.alloc (.cells cs.toArray t)) w.heap.size t cs := heap_alloc_new w _

/-- From w to w' no block has turned but those in S; none has come, none gone. -/
structure Only (S : Nat → Prop) (w w' : World) : Prop where
  os : w'.os = w.os
  tape : w'.tape = w.tape
  output : w'.output = w.output
  size : w'.heap.size = w.heap.size
  block : ∀ k, ¬ S k → w'.heap[k]? = w.heap[k]?

theorem Only.refl (S : Nat → Prop) (w : World) : Only S w w := ⟨rfl, rfl, rfl, rfl, fun _ _ => rfl⟩
theorem Only.drew (S : Nat → Prop) (w : World) : Only S w w.drew := ⟨rfl, rfl, rfl, rfl, fun _ _ => rfl⟩
theorem Only.drewN (S : Nat → Prop) (w : World) (n : Nat) : Only S w (w.drewN n) := ⟨rfl, rfl, rfl, rfl, fun _ _ => rfl⟩
theorem Blk.drewN {w : World} {g : Nat} {t : TypeId} {cs : List Value} (h : Blk w g t cs) (n : Nat) : Blk (w.drewN n) g t cs := h
theorem Only.trans {S : Nat → Prop} {a b c : World} (h : Only S a b) (k : Only S b c) : Only S a c :=
  ⟨k.os.trans h.os, k.tape.trans h.tape, k.output.trans h.output, k.size.trans h.size, fun i hi => (k.block i hi).trans (h.block i hi)⟩
theorem Only.mono {S S' : Nat → Prop} {a b : World} (h : Only S a b) (hs : ∀ k, S k → S' k) : Only S' a b :=
  ⟨h.os, h.tape, h.output, h.size, fun i hi => h.block i (fun e => hi (hs i e))⟩
theorem Only.set {S : Nat → Prop} {a w : World} (h : Only S a w) {p : Addr} (hp : S p.block) (v : Value) : Only S a (w.setCell p v) :=
  h.trans ⟨rfl, rfl, rfl, by simp, fun k hk => heap_setCell_other w p k v (fun e => hk (e ▸ hp))⟩
theorem Only.blk {S : Nat → Prop} {a w : World} (h : Only S a w) {g : Nat} {t : TypeId} {cs : List Value} (hb : Blk a g t cs) (hg : ¬ S g) : Blk w g t cs := by
  unfold Blk; rw [h.block g hg]; exact hb
theorem Only.cell {S : Nat → Prop} {a w : World} (h : Only S a w) {p : Addr} (hp : ¬ S p.block) : w.cell? p = a.cell? p := World.cell?_of_block (w := a) (h.block p.block hp)
theorem Only.below {S : Nat → Prop} {a w : World} (h : Only S a w) {B : Nat} (hB : ∀ k, S k → B ≤ k) : Below B a w :=
  ⟨h.os, h.tape, h.output, Nat.le_of_eq h.size.symm, fun k hk => h.block k (fun e => by have := hB k e; omega)⟩

theorem hid {p : Prop} (h : p) : Hid p := h

/-- 'append(make([]T, 0, cap), x...)' where there is room: told by blocks. -/
theorem run_append_blk {P : Program} (w : World) (t ty elem : TypeId) (hu : P.underlying t = some (.slice elem)) (hsz : (P.info? elem).map (·.size) = some 1)
    (g cap : Nat) (ad : Addr) (n c : Nat) (cur : List Value) (tt : TypeId) (hg : Blk w g tt cur) (cs : List Value) (hn : cs.length = n) (hsrc : ∀ j v, cs[j]? = some v → w.cell? (ad.add j) = some v) (hfit : n ≤ cur.length) (hcap : n ≤ cap) (h1 : ∀ v ∈ cs, v.oneCell' = true) :
    ∃ w', (Builtin.append_ #[t, t] ty #[.slice (some ⟨g, 0, none⟩) 0 cap, .slice (some ad) n c]).run P w = .ok (.slice (some ⟨g, 0, none⟩) n cap) w' ∧ Blk w' g tt (cs ++ cur.drop n) ∧ Only (· = g) w w' := by
  have hl := run_loadCells_list (P := P) w ad cs hsrc
  have hst := run_storeCells_at P g 0 tt cs 0 cur.toArray w hg (by simpa [hn] using hfit) h1
  have hadd : (⟨g, 0, none⟩ : Addr).add 0 = ⟨g, 0, none⟩ := rfl
  refine ⟨w.setRow g (cs ++ cur.drop n).toArray, ?_, ?_, ⟨rfl, rfl, rfl, by simp, fun k hk => setRow_other w g k _ hk⟩⟩
  · cases hq : P.info? elem with
    | none => simp [hq] at hsz
    | some i =>
      have hi : i.size = 1 := by simpa [hq] using hsz
      rw [hn] at hl
      simp [hn] at hst
      simp [Builtin.append_, run_underlying hu, Builtin.lenOf, Builtin.firstCells, sizeOf, typeInfo, hq, hi, hl, hcap, hadd, hst]
  · exact setRow_heap w g _ _ tt _ hg

theorem step_append_blk {P : Program} {ops : Array Oper} {o : Oper} {a : Act} {w : World} {K : Act → World → Prop} {Q : Exit → Act → World → Prop} {E : Prop} (hgd : o.guard = none) (s x : Operand) (t : TypeId)
    (ho : o.op = .call { callee := .builtin .append, args := #[s, x], argTypes := #[t, t] }) (elem : TypeId) (hu : P.underlying t = some (.slice elem)) (hsz : (P.info? elem).map (·.size) = some 1)
    (g cap : Nat) (ad : Addr) (n c : Nat) (hs : a.eval s = .slice (some ⟨g, 0, none⟩) 0 cap) (hx : a.eval x = .slice (some ad) n c) (cur : List Value) (tt : TypeId) (hg : Blk w g tt cur) (cs : List Value) (hn : cs.length = n) (hsrc : ∀ j v, cs[j]? = some v → w.cell? (ad.add j) = some v) (hfit : n ≤ cur.length) (hcap : n ≤ cap) (h1 : ∀ v ∈ cs, v.oneCell' = true)
    (h : ∀ w', Hid (Blk w' g tt (cs ++ cur.drop n)) → Only (· = g) w w' → K (a.put o.dst (.slice (some ⟨g, 0, none⟩) n cap)) w') :
    if Region.wanted o (yielded ops a.tmps) = true then Oper.wp P o a w K Q else E := by
  have hw : Region.wanted o (yielded ops a.tmps) = true := by simp [Region.wanted, hgd]
  rw [if_pos hw]
  obtain ⟨w', hrun, hb, hO⟩ := run_append_blk (P := P) w t o.type elem hu hsz g cap ad n c cur tt hg cs hn hsrc hfit hcap h1
  unfold Oper.wp
  simp [execOp, ho, resolve, invoke, builtin, hs, hx, hrun, Result.andThen]
  exact h w' hb hO

/-- n zero bytes. -/
def zeros (n : Nat) : List Value := List.replicate n (.int .u8 0)
theorem info5 : (Try.prog.info? 5).map (fun i => (i.zero, i.size, i.bytes)) = some (some (.int .u8 0), 1, 1) := by kernel_rfl
theorem size5 : (Try.prog.info? 5).map (·.size) = some 1 := by kernel_rfl
theorem made_zeros (n : Nat) : madeCells #[.int .u8 0] n = (zeros n).toArray := by
  apply Array.ext
  · simp [madeCells, zeros]
  · intro i h1 h2
    simp [madeCells, zeros]
    rw [Nat.mod_one]; rfl
theorem make_bytes (l n : Nat) (hl : l ≤ n) (h : n ≤ 281474976710656) (w : World) : (Instr.makeSlice 23 (.int .i64 l) (.int .i64 n)).run Try.prog w = .ok (.slice (some ⟨w.heap.size, 0, none⟩) l n) (w.alloc (.cells (zeros n).toArray 5)) := by
  obtain ⟨i, hi, he⟩ := Option.map_eq_some_iff.1 info5
  simp only [Prod.mk.injEq] at he
  obtain ⟨hz, hs, hb⟩ := he
  have := run_make (P := Try.prog) w 23 5 i _ Try.underlying23 hi hz .i64 .i64 l n (by omega) (by omega) (by rw [hb]; omega) (by omega)
  rw [this, hs]
  simp [Value.cells, made_zeros]

end Go.Proofs.Qxb6612530a
