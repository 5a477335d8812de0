/-
  THE ROW's CLOSED FACTS, CHEAPLY: the shell's one 'by kernel_rfl' over 'joinedFacts' wants much memory: the head of the dump (a string of long names) is taken to signs three times over by the kernel. Here: the head's signs are given once, each fact by a law over them; the closure of calls is given once a function.
-/
import Derived.Test.Qxb6603291aRows
import Derived.WalkKit
import Derived.ProofKit
namespace Go.Proofs.Qxb6603291a
open Go.RowKit
def headSigns : List Char := ([104, 97, 114, 110, 101, 115, 115, 32, 54, 53, 101, 101, 52, 57, 52, 52, 51, 53, 98, 55, 54, 50, 97, 98, 99, 49, 100, 101, 99, 51, 102, 102, 101, 97, 48, 50, 49, 101, 56, 97, 101, 52, 102, 49, 97, 100, 50, 54, 52, 50, 97, 98, 53, 55, 100, 52, 102, 54, 56, 57, 100, 55, 98, 57, 99, 53, 53, 54, 101, 52, 98, 98, 32, 99, 117, 116, 32, 97, 116, 32, 101, 120, 97, 109, 112, 108, 101, 46, 99, 111, 109, 47, 116, 111, 108, 108, 103, 97, 116, 101, 47, 116, 111, 108, 108, 103, 97, 116, 101, 47, 122, 122, 108, 97, 119, 115, 95, 105, 110, 116, 101, 114, 110, 97, 108, 95, 109, 97, 110, 105, 102, 101, 115, 116, 95, 98, 49, 46, 70, 110, 73, 110, 116, 101, 103, 101, 114, 77, 97, 116, 99, 104, 101, 115, 67, 97, 110, 111, 110, 105, 99, 97, 108, 68, 101, 99, 105, 109, 97, 108, 32, 101, 120, 97, 109, 112, 108, 101, 46, 99, 111, 109, 47, 116, 111, 108, 108, 103, 97, 116, 101, 47, 116, 111, 108, 108, 103, 97, 116, 101, 47, 122, 122, 108, 97, 119, 115, 95, 105, 110, 116, 101, 114, 110, 97, 108, 95, 109, 97, 110, 105, 102, 101, 115, 116, 95, 98, 49, 46, 70, 110, 73, 110, 116, 101, 103, 101, 114, 82, 101, 97, 100, 115, 66, 97, 99, 107, 73, 116, 115, 68, 101, 99, 105, 109, 97, 108, 32, 101, 120, 97, 109, 112, 108, 101, 46, 99, 111, 109, 47, 116, 111, 108, 108, 103, 97, 116, 101, 47, 116, 111, 108, 108, 103, 97, 116, 101, 47, 122, 122, 108, 97, 119, 115, 95, 105, 110, 116, 101, 114, 110, 97, 108, 95, 109, 97, 110, 105, 102, 101, 115, 116, 95, 98, 49, 46, 70, 110, 87, 114, 105, 116, 101, 115, 77, 101, 109, 98, 101, 114, 73, 115, 85, 110, 101, 115, 99, 97, 112, 101, 100, 79, 99, 99, 117, 114, 114, 101, 110, 99, 101, 32, 101, 120, 97, 109, 112, 108, 101, 46, 99, 111, 109, 47, 116, 111, 108, 108, 103, 97, 116, 101, 47, 116, 111, 108, 108, 103, 97, 116, 101, 47, 122, 122, 108, 97, 119, 115, 95, 105, 110, 116, 101, 114, 110, 97, 108, 95, 109, 97, 110, 105, 102, 101, 115, 116, 95, 98, 49, 46, 70, 110, 87, 114, 105, 116, 101, 115, 77, 101, 109, 98, 101, 114, 83, 117, 114, 118, 105, 118, 101, 115, 67, 111, 110, 116, 101, 120, 116, 32, 101, 120, 97, 109, 112, 108, 101, 46, 99, 111, 109, 47, 116, 111, 108, 108, 103, 97, 116, 101, 47, 116, 111, 108, 108, 103, 97, 116, 101, 47, 122, 122, 108, 97, 119, 115, 95, 105, 110, 116, 101, 114, 110, 97, 108, 95, 109, 97, 110, 105, 102, 101, 115, 116, 95, 98, 49, 46, 70, 110, 87, 114, 105, 116, 101, 115, 77, 101, 109, 98, 101, 114, 80, 97, 114, 105, 116, 121, 79, 102, 69, 115, 99, 97, 112, 101, 115] : List Nat).map Char.ofNat
theorem head_is : Try.prog.initOrder = String.ofList headSigns := by kernel_rfl
theorem head_list : Try.prog.initOrder.toList = headSigns := by rw [head_is, String.toList_ofList]
def cutWord : List Char := ([99, 117, 116] : List Nat).map Char.ofNat
def restWords : List (List Char) := wordsSigns (headSigns.drop 77)
theorem words_ok : behindMainWord (wordsSigns headSigns) = cutWord :: restWords := by kernel_rfl
theorem make_of {P : Program} {cs : List Char} (c : List Char) (r : List (List Char)) (h : P.initOrder.toList = cs) (hw : behindMainWord (wordsSigns cs) = c :: r) (h1 : (c == "gc".toList || c == "spec".toList) = false) (h2 : (c == "cut".toList) = true) : P.make = some .cut := by
  unfold Program.make
  rw [h, hw]
  simp only [h1, h2, Bool.true_or, if_true, Bool.false_eq_true, if_false]
theorem make_ok : Try.prog.make = some .cut := make_of cutWord restWords head_list words_ok (by kernel_rfl) (by kernel_rfl)
theorem enter_of {P : Program} {cs : List Char} (c : List Char) (r : List (List Char)) (h : P.initOrder.toList = cs) (hw : behindMainWord (wordsSigns cs) = c :: r) (hs : stripLifts liftWords (c :: r) = ([], c :: r)) (h2 : (c == "cut".toList) = true)
    (h4 : P.laysLater = false) (h5 : P.bearsReflect = false) (h6 : P.doorFits [] = true) : P.mayEnter = true := by
  unfold Program.mayEnter
  rw [h, hw]
  simp only [hs, List.head?_cons, Option.some_beq_some, h2, h4, h5, h6, Bool.not_false, Bool.or_true, Bool.and_true, List.contains_nil]
theorem strip_ok : stripLifts liftWords (cutWord :: restWords) = ([], cutWord :: restWords) := by kernel_rfl
theorem lays_ok : Try.prog.laysLater = false := by kernel_rfl
theorem bears_ok : Try.prog.bearsReflect = false := by kernel_rfl
theorem door_ok : Try.prog.doorFits [] = true := by kernel_rfl
theorem enter_ok : Try.prog.mayEnter = true := enter_of cutWord restWords head_list words_ok strip_ok (by kernel_rfl) lays_ok bears_ok door_ok
theorem lifts_ok : Try.prog.headLifts = [] := by
  unfold Program.headLifts
  rw [head_list]
  kernel_rfl
theorem final_ok : Try.prog.liftsFinal = false := by
  unfold Program.liftsFinal
  rw [head_list, lifts_ok]
  kernel_rfl
theorem and_true_intro {a b : Bool} (ha : a = true) (hb : b = true) : (a && b) = true := by rw [ha, hb]; rfl
theorem sum_ge {α : Type} (f : α → Nat) : ∀ l : List α, l.length ≤ (l.map fun g => f g + 1).sum
  | [] => Nat.le_refl _
  | a :: r => by simp only [List.length_cons, List.map_cons, List.sum_cons]; have := sum_ge f r; omega
theorem closure_of {P : Program} {f : FuncId} {L : List FuncId} {n : Nat} (hn : P.funcs.toList.length = n) (h : ∀ d, P.closureVia (d + n) [f] [] = L) : P.closure f = L := by
  unfold Program.closure
  have h1 := sum_ge (fun g => (P.leadsTo g).length) P.funcs.toList
  obtain ⟨d, hd⟩ : ∃ d, 1 + (P.funcs.toList.map fun g => (P.leadsTo g).length + 1).sum = d + n := ⟨1 + (P.funcs.toList.map fun g => (P.leadsTo g).length + 1).sum - n, by omega⟩
  rw [hd]; exact h d
end Go.Proofs.Qxb6603291a
