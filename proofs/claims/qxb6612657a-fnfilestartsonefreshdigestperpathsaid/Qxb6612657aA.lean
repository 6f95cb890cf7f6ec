import Derived.WalkKit
import Derived.WalkLawsBesides
import Derived.MapKept
namespace Go.Proofs.Qxb6612657a
open Go.RowKit

/-- Block g holds just the cells cs, of element type t; none of them is frozen. -/
def Blk (w : World) (g : Nat) (t : TypeId) (cs : List Value) : Prop := w.heap[g]? = some (.cells cs.toArray t (0, 0))

theorem Blk.lt {w : World} {g : Nat} {t : TypeId} {cs : List Value} (h : Blk w g t cs) : g < w.heap.size := (Array.getElem?_eq_some_iff.1 h).1
theorem Blk.cellAt {w : World} {g : Nat} {t : TypeId} {cs : List Value} (h : Blk w g t cs) (i : Nat) : w.cell? ⟨g, i, none⟩ = cs[i]? := by
  rw [cell_of_row w g i _ t _ h]; simp
theorem Blk.cell {w : World} {g : Nat} {t : TypeId} {cs : List Value} (h : Blk w g t cs) {i : Nat} {v : Value} (hv : cs[i]? = some v) : w.cell? ⟨g, i, none⟩ = some v := by
  rw [h.cellAt, hv]
theorem Blk.frozen {w : World} {g : Nat} {t : TypeId} {cs : List Value} (h : Blk w g t cs) (i : Nat) : w.frozen? ⟨g, i, none⟩ = false :=
  frozen_of_row w g i _ t h
theorem Blk.set {w : World} {g : Nat} {t : TypeId} {cs : List Value} (h : Blk w g t cs) (i : Nat) (v : Value) : Blk (w.setCell ⟨g, i, none⟩ v) g t (cs.set i v) := by
  unfold Blk; rw [heap_setCell_same w g i _ t v h]; simp
theorem Blk.other {w : World} {g : Nat} {t : TypeId} {cs : List Value} (h : Blk w g t cs) {a : Addr} (hne : g ≠ a.block) (v : Value) : Blk (w.setCell a v) g t cs := by
  unfold Blk; rw [heap_setCell_other w a g v hne]; exact h
theorem Blk.drew {w : World} {g : Nat} {t : TypeId} {cs : List Value} (h : Blk w g t cs) : Blk w.drew g t cs := h
theorem Blk.alloc {w : World} {g : Nat} {t : TypeId} {cs : List Value} (h : Blk w g t cs) (o : Obj) : Blk (w.alloc o) g t cs := by
  unfold Blk; rw [Below.heap_alloc w o g h.lt]; exact h
theorem Blk.new (w : World) (t : TypeId) (cs : List Value) : Blk (w.alloc (.cells cs.toArray t)) w.heap.size t cs := heap_alloc_new w _

/-- From w to w' no block has turned but those in S; none has come, none gone. -/
structure Only (S : Nat → Prop) (w w' : World) : Prop where
  os : w'.os = w.os
  tape : w'.tape = w.tape
  output : w'.output = w.output
  size : w'.heap.size = w.heap.size
  block : ∀ k, ¬ S k → w'.heap[k]? = w.heap[k]?

theorem Only.refl (S : Nat → Prop) (w : World) : Only S w w := ⟨rfl, rfl, rfl, rfl, fun _ _ => rfl⟩
theorem Only.drew (S : Nat → Prop) (w : World) : Only S w w.drew := ⟨rfl, rfl, rfl, rfl, fun _ _ => rfl⟩
theorem Only.drewN (S : Nat → Prop) (w : World) (n : Nat) : Only S w (w.drewN n) := ⟨rfl, rfl, rfl, rfl, fun _ _ => rfl⟩
theorem Blk.drewN {w : World} {g : Nat} {t : TypeId} {cs : List Value} (h : Blk w g t cs) (n : Nat) : Blk (w.drewN n) g t cs := h
theorem Only.trans {S : Nat → Prop} {a b c : World} (h : Only S a b) (k : Only S b c) : Only S a c :=
  ⟨k.os.trans h.os, k.tape.trans h.tape, k.output.trans h.output, k.size.trans h.size, fun i hi => (k.block i hi).trans (h.block i hi)⟩
theorem Only.mono {S S' : Nat → Prop} {a b : World} (h : Only S a b) (hs : ∀ k, S k → S' k) : Only S' a b :=
  ⟨h.os, h.tape, h.output, h.size, fun i hi => h.block i (fun e => hi (hs i e))⟩
theorem Only.set {S : Nat → Prop} {a w : World} (h : Only S a w) {p : Addr} (hp : S p.block) (v : Value) : Only S a (w.setCell p v) :=
  h.trans ⟨rfl, rfl, rfl, by simp, fun k hk => heap_setCell_other w p k v (fun e => hk (e ▸ hp))⟩
theorem Only.blk {S : Nat → Prop} {a w : World} (h : Only S a w) {g : Nat} {t : TypeId} {cs : List Value} (hb : Blk a g t cs) (hg : ¬ S g) : Blk w g t cs := by
  unfold Blk; rw [h.block g hg]; exact hb
theorem Only.cell {S : Nat → Prop} {a w : World} (h : Only S a w) {p : Addr} (hp : ¬ S p.block) : w.cell? p = a.cell? p := World.cell?_of_block (w := a) (h.block p.block hp)
theorem Only.below {S : Nat → Prop} {a w : World} (h : Only S a w) {B : Nat} (hB : ∀ k, S k → B ≤ k) : Below B a w :=
  ⟨h.os, h.tape, h.output, Nat.le_of_eq h.size.symm, fun k hk => h.block k (fun e => by have := hB k e; omega)⟩

theorem hid {p : Prop} (h : p) : Hid p := h

/-! ### A map keyed by strings, told as a list of pairs -/
theorem bytes_beq (a b : ByteArray) : (a == b) = decide (a = b) := by
  obtain ⟨a⟩ := a
  obtain ⟨b⟩ := b
  show (a == b) = _
  rw [Bool.eq_iff_iff]
  simp

theorem toList_beq (a b : ByteArray) : (a.toList == b.toList) = decide (a = b) := by
  rw [ByteArray.toList_eq, ByteArray.toList_eq, Bool.eq_iff_iff]
  obtain ⟨a⟩ := a
  obtain ⟨b⟩ := b
  simp

/-- Is x among them? -/
def hasB (ss : List ByteArray) (x : ByteArray) : Bool := ss.any fun s => decide (s = x)

def assoc (l : List (ByteArray × Value)) (s : ByteArray) : Option Value := (l.find? (fun p => decide (s = p.1))).map (·.2)
def putAt (s : ByteArray) (v : Value) : List (ByteArray × Value) → List (ByteArray × Value)
  | [] => [(s, v)]
  | p :: r => if s = p.1 then (s, v) :: r else p :: putAt s v r

/-- Block b is a map of just these entries, in the order of their coming. -/
def SMap (w : World) (b : Nat) (l : List (ByteArray × Value)) : Prop :=
  ∃ es clock, w.heap[b]? = some (.map es clock) ∧ es.toList.map (fun e => (e.key, e.val)) = l.map (fun p => (Value.string p.1, p.2))

theorem SMap.lt {w : World} {b : Nat} {l : List (ByteArray × Value)} (h : SMap w b l) : b < w.heap.size := by
  obtain ⟨es, clock, hb, _⟩ := h
  exact (Array.getElem?_eq_some_iff.1 hb).1
theorem SMap.new (w : World) : SMap (w.alloc (.map #[] 0)) w.heap.size [] := ⟨#[], 0, heap_alloc_new w _, rfl⟩
theorem SMap.drew {w : World} {b : Nat} {l : List (ByteArray × Value)} (h : SMap w b l) : SMap w.drew b l := h
theorem SMap.alloc {w : World} {b : Nat} {l : List (ByteArray × Value)} (h : SMap w b l) (o : Obj) : SMap (w.alloc o) b l := by
  have hlt := h.lt
  obtain ⟨es, clock, hb, e⟩ := h
  exact ⟨es, clock, by rw [Below.heap_alloc w o b hlt]; exact hb, e⟩
theorem SMap.other {w : World} {b : Nat} {l : List (ByteArray × Value)} (h : SMap w b l) {a : Addr} (hne : b ≠ a.block) (v : Value) : SMap (w.setCell a v) b l := by
  obtain ⟨es, clock, hb, e⟩ := h
  exact ⟨es, clock, by rw [heap_setCell_other w a b v hne]; exact hb, e⟩
theorem Only.smap {S : Nat → Prop} {a w : World} (h : Only S a w) {b : Nat} {l : List (ByteArray × Value)} (hb : SMap a b l) (hs : ¬ S b) : SMap w b l := by
  obtain ⟨es, clock, hb, e⟩ := hb
  exact ⟨es, clock, by rw [h.block b hs]; exact hb, e⟩
theorem below_smap {B : Nat} {a w : World} (h : Below B a w) {b : Nat} {l : List (ByteArray × Value)} (hb : SMap a b l) (hs : b < B) : SMap w b l := by
  obtain ⟨es, clock, hb, e⟩ := hb
  exact ⟨es, clock, by rw [h.block b hs]; exact hb, e⟩

theorem findNow_of (s : ByteArray) : ∀ (es : List MapEntry) (l : List (ByteArray × Value)) (i : Nat), es.map (fun e => (e.key, e.val)) = l.map (fun p => (Value.string p.1, p.2)) →
    (Instr.findNow .string (.string s) es i = some none ∧ assoc l s = none ∧ ∀ v, putAt s v l = l ++ [(s, v)]) ∨
    ∃ j e, Instr.findNow .string (.string s) es i = some (some (i + j, e.val)) ∧ es[j]? = some e ∧ e.key = .string s ∧ assoc l s = some e.val ∧ ∀ v, putAt s v l = l.set j (s, v)
  | [], l, i, h => by
    have : l = [] := by cases l with | nil => rfl | cons _ _ => simp at h
    subst this
    exact .inl ⟨rfl, rfl, fun _ => rfl⟩
  | e :: es, [], i, h => by simp at h
  | e :: es, p :: l, i, h => by
    simp only [List.map_cons, List.cons.injEq, Prod.mk.injEq] at h
    obtain ⟨⟨hk, hv⟩, ht⟩ := h
    have hs : Instr.sameNow .string (.string s) e.key = some (decide (s = p.1)) := by rw [hk]; show some (s == p.1) = _; rw [bytes_beq]
    by_cases he : s = p.1
    · right
      refine ⟨0, e, ?_, rfl, ?_, ?_, fun v => ?_⟩
      · rw [decide_eq_true he] at hs
        simp [Instr.findNow, hs]
      · rw [hk, he]
      · simp [assoc, he, hv]
      · simp [putAt, he]
    · have hf : Instr.findNow .string (.string s) (e :: es) i = Instr.findNow .string (.string s) es (i + 1) := by simp [Instr.findNow, hs, he]
      have ha : assoc (p :: l) s = assoc l s := by simp [assoc, he]
      have hp : ∀ v, putAt s v (p :: l) = p :: putAt s v l := fun v => by simp [putAt, he]
      rcases findNow_of s es l (i + 1) ht with ⟨h1, h2, h4⟩ | ⟨j, e', h1, h2, h3, h4, h5⟩
      · exact .inl ⟨by rw [hf, h1], by rw [ha, h2], fun v => by rw [hp, h4]; rfl⟩
      · refine .inr ⟨j + 1, e', ?_, by simpa using h2, h3, by rw [ha, h4], fun v => by rw [hp, h5]; rfl⟩
        rw [hf, h1]
        congr 3
        omega

section
variable {P : Program} {w : World} {b : Nat} {l : List (ByteArray × Value)} {t k e : TypeId}

theorem SMap.lookup (h : SMap w b l) (ht : P.underlying t = some (.map k e)) (hk : P.underlying k = some .string) {z : Value} (hz : (zeroValue e).run P w = .ok z w) (s : ByteArray) (c : Bool) :
    (Instr.lookup t (.map (some b)) (.string s) c).run P w = .ok (if c then .tuple #[(assoc l s).getD z, .bool (assoc l s).isSome] else (assoc l s).getD z) w := by
  obtain ⟨es, clock, hb, hl⟩ := h
  have h1 := MapKept.run_getObj_map (P := P) hb
  have h2 := MapKept.run_checkKey (P := P) (w := w) (k := .string s) hk (by simp [MapKept.IsKey]) es.isEmpty 9999
  rcases findNow_of s es.toList l 0 hl with ⟨f1, f2, _⟩ | ⟨j, x, f1, f2, f3, f4, _⟩
  · simp [Instr.lookup, run_underlying ht, h1, h2, Instr.findKey, run_underlying hk, f1, f2, hz]
  · simp [Instr.lookup, run_underlying ht, h1, h2, Instr.findKey, run_underlying hk, f1, f4]

theorem lookup_nil_map (ht : P.underlying t = some (.map k e)) (hk : P.underlying k = some .string) {z : Value} (hz : (zeroValue e).run P w = .ok z w) (s : ByteArray) (c : Bool) :
    (Instr.lookup t (.map none) (.string s) c).run P w = .ok (if c then .tuple #[z, .bool false] else z) w := by
  have h2 := MapKept.run_checkKey (P := P) (w := w) (k := .string s) hk (by simp [MapKept.IsKey]) true 9999
  simp [Instr.lookup, run_underlying ht, h2, Instr.findKey, run_underlying hk, Instr.findNow, hz]

theorem SMap.update (h : SMap w b l) (ht : P.underlying t = some (.map k e)) (hk : P.underlying k = some .string) (s : ByteArray) (v : Value) :
    ∃ w', (Instr.mapUpdate t (.map (some b)) (.string s) v).run P w = .ok () w' ∧ SMap w' b (putAt s v l) ∧ Only (· = b) w w' := by
  obtain ⟨es, clock, hb, hl⟩ := h
  have hlt : b < w.heap.size := (Array.getElem?_eq_some_iff.1 hb).1
  have h1 := MapKept.run_getObj_map (P := P) hb
  have h2 := MapKept.run_checkKey (P := P) (w := w) (k := .string s) hk (by simp [MapKept.IsKey]) false 9999
  have h3 : ∀ o, (setObj b o).run P w = .ok () { w with heap := w.heap.setIfInBounds b o } := fun o => MapKept.run_setObj_map o hb
  have ho : ∀ o, Only (· = b) w { w with heap := w.heap.setIfInBounds b o } := fun o => ⟨rfl, rfl, rfl, by simp, fun i hi => by simp [Ne.symm hi]⟩
  have hat : ∀ o, (w.heap.setIfInBounds b o)[b]? = some o := fun o => by simp [hlt]
  rcases findNow_of s es.toList l 0 hl with ⟨f1, _, f3⟩ | ⟨j, x, f1, f2, f3, _, f5⟩
  · refine ⟨_, by simp [Instr.mapUpdate, run_underlying ht, h1, h2, Instr.findKey, run_underlying hk, f1, h3]; rfl, ⟨_, _, hat _, ?_⟩, ho _⟩
    rw [f3]; simp [hl]
  · have hj : es[j]? = some x := by simpa using f2
    have hb2 : Instr.sameBits 10000 (.string s) (.string s) = true := by show (s == s) = true; rw [bytes_beq]; simp
    refine ⟨_, by simp [Instr.mapUpdate, run_underlying ht, h1, h2, Instr.findKey, run_underlying hk, f1, hj, f3, Instr.keyThatStays, hb2, h3]; rfl, ⟨_, _, hat _, ?_⟩, ho _⟩
    rw [f5]
    apply List.ext_getElem?
    intro i
    have hi := congrArg (fun q => q[i]?) hl
    simp only [List.getElem?_map] at hi
    rw [List.getElem?_map, List.getElem?_map, List.getElem?_set]
    simp only [Array.getElem?_toList, Array.getElem?_modify]
    simp only [Array.getElem?_toList] at hi
    by_cases hij : j = i
    · subst hij
      have hjl : j < l.length := by
        have := congrArg List.length hl
        simp at this
        have := (Array.getElem?_eq_some_iff.1 hj).1
        omega
      simp [hj, hjl]
    · simp [hij, hi]

theorem SMap.len (h : SMap w b l) (ht : P.underlying t = some (.map k e)) (ty : TypeId) : (Builtin.len_ #[t] ty #[.map (some b)]).run P w = .ok (.int .i64 l.length) w := by
  obtain ⟨es, clock, hb, hl⟩ := h
  have h1 := MapKept.run_getObj_map (P := P) hb
  have : es.size = l.length := by simpa using congrArg List.length hl
  simp [Builtin.len_, run_underlying ht, h1, this, goInt]
end

end Go.Proofs.Qxb6612657a
