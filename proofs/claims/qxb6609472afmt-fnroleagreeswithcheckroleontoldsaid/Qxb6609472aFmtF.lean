import Derived.Test.Qxb6609472aFmtE
import Derived.Stop.CallBack
import Derived.Stop.IfaceNil
namespace Go.Proofs.Qxb6609472aFmt
open Go.RowKit Go.Extern.Stop Go.Stop Go.Extern

theorem call41 (args : Array Value) (w : World) : (callFunc 41 args).run Tryf.prog w = (FmtCalls.errorf #[9, 115] #[54] args).run Tryf.prog w :=
  run_callFunc_next Tryf.func41 (by kernel_rfl) (by kernel_rfl) (by kernel_rfl) args w
theorem guardOk (name : String) (w : World) : (FmtStop.guard name).run Tryf.prog w = .ok () w := by kernel_rfl
theorem nextTurns : Extern.next FmtCalls.turnsRow = some (FmtCalls.begun #[] #[]) := by kernel_rfl
/-- The format of CheckRoleOn. -/
abbrev roleF : ByteArray := ⟨#[114, 111, 108, 101, 32, 37, 113, 32, 37, 119]⟩
theorem printedRole (w : World) : (FmtDoors.printed roleF 2).run Tryf.prog w = .ok [(0, 113, false), (1, 119, false)] w := by kernel_rfl
theorem act9 (name : String) (x : Value) (w : World) : (FmtCalls.act name true 113 false (.iface 9 x)).run Tryf.prog w = .ok (.closed true) w := by kernel_rfl
theorem act128 (name : String) (x : Value) (w : World) : (FmtCalls.act name true 119 false (.iface 128 x)).run Tryf.prog w = .ok (.closed true) w := by kernel_rfl
def shape9 : List UInt8 := [12, 6, 0, 0, 0, 0, 0, 0, 0, 115, 116, 114, 105, 110, 103]
theorem op9 (name : String) (x : ByteArray) (w : World) : (FmtStop.operand name true 113 false (.iface 9 (.string x))).run Tryf.prog w = .ok (shape9, FmtStop.pack x.data.toList) w := by kernel_rfl
theorem isErr128 (w : World) : (FmtDoors.textMethod 128 "Error").run Tryf.prog w = .ok true w := by kernel_rfl
theorem wrapT (w : World) : (FmtStop.ptrTo "fmt.wrapError").run Tryf.prog w = .ok 116 w := by kernel_rfl
theorem wrapE (w : World) : (elemOf 116).run Tryf.prog w = .ok 185 w := by kernel_rfl

theorem op128 (name : String) (a : Addr) (s : ByteArray) (w : World) (hc : w.cell? a = some (.string s)) :
    ∃ ty, (FmtStop.operand name true 119 false (.iface 128 (.pointer (some a)))).run Tryf.prog w = .ok (ty, s.data.toList) w := by
  have d2 : Tryf.t128.desc = .pointer 130 := rfl
  obtain ⟨nm, h1⟩ : ∃ nm, (typeStr 128).run Tryf.prog w = .ok nm w := ⟨(match (typeStr 128).run Tryf.prog w with | .ok n _ => n | .halt _ _ => ""), by kernel_rfl⟩
  obtain ⟨u, d3⟩ : ∃ u, Tryf.t130.desc = .named "errors.errorString" u := ⟨_, rfl⟩
  exact ⟨_, by simp [FmtStop.operand, h1, d2, d3, run_load, hc]; rfl⟩

theorem newWrap (t : ByteArray) (ea : Addr) (w : World) : (newVar 185 (.agg #[.string t, .iface 128 (.pointer (some ea))])).run Tryf.prog w = .ok ⟨w.heap.size, 0, none⟩ (w.alloc (.cells #[.string t, .iface 128 (.pointer (some ea))] 185)) := by kernel_rfl
/-- The text that a number stands for. -/
def strB (x : Nat) : ByteArray := match FmtStop.str x with | .string t => t | _ => ByteArray.empty
theorem str_eq (x : Nat) : FmtStop.str x = .string (strB x) := rfl

/-- What 'fmt.errorf' does at CheckRoleOn's format: a new *fmt.wrapError; nothing old turns. -/
theorem errorf_rows (N : Nat) (id s : ByteArray) (ea : Addr) (w : World) (h0 : w.cell? ⟨N, 0, none⟩ = some (.iface 9 (.string id))) (h1 : w.cell? ⟨N, 1, none⟩ = some (.iface 128 (.pointer (some ea)))) (hs : w.cell? ea = some (.string s))
    (R : Value → World → Prop) (hR : ∀ text, R (.iface 116 (.pointer (some ⟨w.heap.size, 0, none⟩))) (w.alloc (.cells #[.string text, .iface 128 (.pointer (some ea))] 185)).drew) :
    Rows Tryf.prog FmtCalls.turnsRow (FmtCalls.save 3 3 (.slice (some ⟨N, 0, none⟩) 2 2) roleF [] [(0, 113, false), (1, 119, false)]) w R := by
  obtain ⟨ty, ho⟩ := op128 "fmt.errorf" ea s w hs
  have hl0 : (FmtDoors.operand (.slice (some ⟨N, 0, none⟩) 2 2) 0).run Tryf.prog w = .ok (.iface 9 (.string id)) w := by
    simp [FmtDoors.operand, Addr.add, run_load, h0]
  have hl1 : (FmtDoors.operand (.slice (some ⟨N, 0, none⟩) 2 2) 1).run Tryf.prog w = .ok (.iface 128 (.pointer (some ea))) w := by
    simp [FmtDoors.operand, Addr.add, run_load, h1]
  have key : ∃ text, (FmtCalls.begun #[] #[] (FmtCalls.save 3 3 (.slice (some ⟨N, 0, none⟩) 2 2) roleF [] [(0, 113, false), (1, 119, false)])).run Tryf.prog w = .ok (.value (.iface 116 (.pointer (some ⟨w.heap.size, 0, none⟩)))) (w.alloc (.cells #[.string text, .iface 128 (.pointer (some ea))] 185)).drew := by
    rw [FmtCalls.run_begun_save]
    have hl2 : (FmtDoors.operand (.slice (some ⟨N, 0, none⟩) 2 2) 1).run Tryf.prog w.drew = .ok (.iface 128 (.pointer (some ea))) w.drew := by
      simp [FmtDoors.operand, Addr.add, run_load, h1]
    exact ⟨_, by
      simp [FmtCalls.turns, FmtCalls.frontName, hl0, hl1, hl2, act9, act128, op9, ho, FmtCalls.finish, wrapT, wrapE, isErr128, Question.forced, str_eq, newWrap]
      rfl⟩
  obtain ⟨text, hk⟩ := key
  exact rows_value nextTurns hk (hR _)

theorem Errorf_any (N : Nat) (id s : ByteArray) (ea : Addr) (w : World) (h0 : w.cell? ⟨N, 0, none⟩ = some (.iface 9 (.string id))) (h1 : w.cell? ⟨N, 1, none⟩ = some (.iface 128 (.pointer (some ea)))) (hs : w.cell? ea = some (.string s)) :
    Calls Tryf.prog 27 #[.string roleF, .slice (some ⟨N, 0, none⟩) 2 2] w fun e w' => (∃ a, e = .returned (.iface 116 (.pointer (some a)))) ∧ Below w.heap.size w w' := by
  have f1 := call41
  have f2 := guardOk
  have f3 := printedRole
  have HR := hid (errorf_rows N id s ea w h0 h1 hs)
  clear h0 h1 hs
  go_enter Tryf.func27, Tryf.ntmps27
  go_wp2_with fail
  refine HR.out _ (fun text => ?_)
  clear HR f1 f2 f3
  go_wp2
  go_ret
  exact ⟨⟨_, rfl⟩, ((Below.refl _ _).alloc (Nat.le_refl _) _).drew⟩

theorem check_no (bW bIdx : Nat) (l : List (ByteArray × Value)) (id s : ByteArray) (ea : Addr) (w : World) (h7 : w.cell? ⟨bW, 7, none⟩ = some (.map (some bIdx))) (hm : SMap w bIdx l) (ha : assoc l id = none)
    (hg : w.cell? ⟨0, 0, none⟩ = some (.iface 128 (.pointer (some ea)))) (hs : w.cell? ea = some (.string s)) :
    Calls Tryf.prog 16 #[.pointer (some ⟨bW, 0, none⟩), .string id, .string rootS] w fun e w' => (∃ a, e = .returned (.iface 116 (.pointer (some a)))) ∧ Below w.heap.size w w' := by
  have hlook := hm.lookup (P := Tryf.prog) Tryf.underlying28 Tryf.underlying9 (zero3 w) id true
  simp only [ha, Option.getD_none, Option.isSome_none, if_true] at hlook
  have hb : Blk (w.alloc (.cells #[.iface 9 (.string id), .iface 128 (.pointer (some ea))] 20)) w.heap.size 20 [.iface 9 (.string id), .iface 128 (.pointer (some ea))] := Blk.new w 20 _
  have hs' : (w.alloc (.cells #[.iface 9 (.string id), .iface 128 (.pointer (some ea))] 20)).cell? ea = some (.string s) := (World.cell?_alloc_lt _ _ _ (World.block_lt_of_cell? w ea hs)).trans hs
  have HE := hid (Errorf_any w.heap.size id s ea _ (hb.cell rfl) (hb.cell rfl) hs')
  clear hm ha hb hs'
  go_enter Tryf.func16, Tryf.ntmps16
  go_wp2_with fail
  refine HE.out.mono ?_
  rintro e w1 ⟨⟨a, rfl⟩, hb1⟩
  have hb2 : Below w.heap.size w w1 := ((Below.refl _ _).alloc (Nat.le_refl _) _).trans (hb1.mono (by simp))
  clear hb1
  go_wp2
  go_ret
  exact ⟨⟨_, rfl⟩, hb2⟩

end Go.Proofs.Qxb6609472aFmt
