/-
  THE ROW's CLOSED FACTS ON THE DUMP's HEAD, CHEAPLY. The head is a text of 951 signs: 'toList' on such a literal costs the kernel more than 10 GB (it is quadratic). Here it is laid as a list of numbers once, and read by 'String.toList_ofList'.
-/
import Derived.Test.Qxb6601749aRows
import Derived.ProofKit
import Derived.JoinedOf
namespace Go.Proofs.Qxb6601749a

def headSigns : List Nat := [104, 97, 114, 110, 101, 115, 115, 32, 56, 57, 56, 100, 99, 56, 99, 48, 51, 55, 101, 48, 100, 54, 56, 52, 101, 101, 97, 50, 97, 49, 54, 51, 51, 48, 57, 48, 98, 99, 99, 51, 54, 97, 97, 100, 51, 54, 55, 100, 48, 57, 56, 56, 101, 56, 51, 56, 56, 56, 57, 100, 48, 102, 99, 101, 56, 97, 49, 98, 100, 98, 52, 49, 32, 99, 117, 116, 32, 97, 116, 32, 101, 120, 97, 109, 112, 108, 101, 46, 99, 111, 109, 47, 109, 117, 114, 109, 117, 114, 97, 116, 105, 111, 110, 47, 109, 117, 114, 109, 117, 114, 97, 116, 105, 111, 110, 47, 122, 122, 108, 97, 119, 115, 95, 105, 110, 116, 101, 114, 110, 97, 108, 95, 115, 116, 114, 101, 97, 109, 95, 98, 49, 46, 70, 110, 80, 97, 121, 108, 111, 97, 100, 79, 102, 73, 103, 110, 111, 114, 101, 115, 66, 105, 116, 115, 79, 117, 116, 115, 105, 100, 101, 73, 116, 115, 72, 101, 97, 100, 101, 114, 70, 105, 101, 108, 100, 115, 32, 101, 120, 97, 109, 112, 108, 101, 46, 99, 111, 109, 47, 109, 117, 114, 109, 117, 114, 97, 116, 105, 111, 110, 47, 109, 117, 114, 109, 117, 114, 97, 116, 105, 111, 110, 47, 122, 122, 108, 97, 119, 115, 95, 105, 110, 116, 101, 114, 110, 97, 108, 95, 115, 116, 114, 101, 97, 109, 95, 98, 49, 46, 70, 110, 80, 97, 121, 108, 111, 97, 100, 79, 102, 65, 100, 97, 112, 116, 97, 116, 105, 111, 110, 70, 105, 101, 108, 100, 67, 111, 115, 116, 115, 73, 116, 115, 76, 101, 110, 103, 116, 104, 32, 101, 120, 97, 109, 112, 108, 101, 46, 99, 111, 109, 47, 109, 117, 114, 109, 117, 114, 97, 116, 105, 111, 110, 47, 109, 117, 114, 109, 117, 114, 97, 116, 105, 111, 110, 47, 122, 122, 108, 97, 119, 115, 95, 105, 110, 116, 101, 114, 110, 97, 108, 95, 115, 116, 114, 101, 97, 109, 95, 98, 49, 46, 70, 110, 83, 101, 99, 116, 105, 111, 110, 65, 116, 77, 97, 116, 99, 104, 101, 115, 84, 97, 98, 108, 101, 77, 111, 100, 101, 108, 32, 101, 120, 97, 109, 112, 108, 101, 46, 99, 111, 109, 47, 109, 117, 114, 109, 117, 114, 97, 116, 105, 111, 110, 47, 109, 117, 114, 109, 117, 114, 97, 116, 105, 111, 110, 47, 122, 122, 108, 97, 119, 115, 95, 105, 110, 116, 101, 114, 110, 97, 108, 95, 115, 116, 114, 101, 97, 109, 95, 98, 49, 46, 70, 110, 83, 101, 99, 116, 105, 111, 110, 65, 116, 70, 111, 117, 110, 100, 83, 101, 99, 116, 105, 111, 110, 73, 115, 87, 101, 108, 108, 70, 111, 114, 109, 101, 100, 32, 101, 120, 97, 109, 112, 108, 101, 46, 99, 111, 109, 47, 109, 117, 114, 109, 117, 114, 97, 116, 105, 111, 110, 47, 109, 117, 114, 109, 117, 114, 97, 116, 105, 111, 110, 47, 122, 122, 108, 97, 119, 115, 95, 105, 110, 116, 101, 114, 110, 97, 108, 95, 115, 116, 114, 101, 97, 109, 95, 98, 49, 46, 70, 110, 83, 101, 99, 116, 105, 111, 110, 65, 116, 75, 101, 101, 112, 115, 83, 101, 99, 116, 105, 111, 110, 87, 104, 101, 110, 77, 111, 114, 101, 70, 111, 108, 108, 111, 119, 115, 32, 101, 120, 97, 109, 112, 108, 101, 46, 99, 111, 109, 47, 109, 117, 114, 109, 117, 114, 97, 116, 105, 111, 110, 47, 109, 117, 114, 109, 117, 114, 97, 116, 105, 111, 110, 47, 122, 122, 108, 97, 119, 115, 95, 105, 110, 116, 101, 114, 110, 97, 108, 95, 115, 116, 114, 101, 97, 109, 95, 98, 49, 46, 70, 110, 87, 105, 116, 104, 105, 110, 77, 97, 116, 99, 104, 101, 115, 83, 119, 101, 101, 112, 77, 111, 100, 101, 108, 32, 101, 120, 97, 109, 112, 108, 101, 46, 99, 111, 109, 47, 109, 117, 114, 109, 117, 114, 97, 116, 105, 111, 110, 47, 109, 117, 114, 109, 117, 114, 97, 116, 105, 111, 110, 47, 122, 122, 108, 97, 119, 115, 95, 105, 110, 116, 101, 114, 110, 97, 108, 95, 115, 116, 114, 101, 97, 109, 95, 98, 49, 46, 70, 110, 87, 105, 116, 104, 105, 110, 65, 103, 114, 101, 101, 115, 65, 99, 114, 111, 115, 115, 66, 105, 116, 109, 97, 112, 65, 110, 100, 82, 117, 110, 115, 32, 101, 120, 97, 109, 112, 108, 101, 46, 99, 111, 109, 47, 109, 117, 114, 109, 117, 114, 97, 116, 105, 111, 110, 47, 109, 117, 114, 109, 117, 114, 97, 116, 105, 111, 110, 47, 122, 122, 108, 97, 119, 115, 95, 105, 110, 116, 101, 114, 110, 97, 108, 95, 115, 116, 114, 101, 97, 109, 95, 98, 49, 46, 70, 110, 87, 105, 116, 104, 105, 110, 83, 112, 108, 105, 116, 115, 65, 116, 65, 110, 121, 77, 105, 100, 112, 111, 105, 110, 116, 32, 101, 120, 97, 109, 112, 108, 101, 46, 99, 111, 109, 47, 109, 117, 114, 109, 117, 114, 97, 116, 105, 111, 110, 47, 109, 117, 114, 109, 117, 114, 97, 116, 105, 111, 110, 47, 122, 122, 108, 97, 119, 115, 95, 105, 110, 116, 101, 114, 110, 97, 108, 95, 115, 116, 114, 101, 97, 109, 95, 98, 49, 46, 70, 110, 80, 97, 121, 108, 111, 97, 100, 79, 102, 73, 115, 65, 83, 117, 102, 102, 105, 120, 79, 102, 79, 110, 101, 80, 105, 100, 115, 80, 97, 99, 107, 101, 116]
theorem head_is : Try.checked.prog.initOrder = String.ofList (headSigns.map Char.ofNat) := by kernel_rfl
theorem head_signs : Try.checked.prog.initOrder.toList = headSigns.map Char.ofNat := by rw [head_is, String.toList_ofList]
theorem words_of : ∃ rest, behindMainWord (wordsSigns (headSigns.map Char.ofNat)) = [Char.ofNat 99, Char.ofNat 117, Char.ofNat 116] :: rest :=
  ⟨(behindMainWord (wordsSigns (headSigns.map Char.ofNat))).tail, by kernel_rfl⟩
theorem head_words : ∃ rest, behindMainWord (wordsSigns Try.checked.prog.initOrder.toList) = [Char.ofNat 99, Char.ofNat 117, Char.ofNat 116] :: rest :=
  let ⟨rest, h⟩ := words_of
  ⟨rest, (congrArg (fun l => behindMainWord (wordsSigns l)) head_signs).trans h⟩

theorem strip_cut (rest : List (List Char)) : stripLifts liftWords ([Char.ofNat 99, Char.ofNat 117, Char.ofNat 116] :: rest) = ([], [Char.ofNat 99, Char.ofNat 117, Char.ofNat 116] :: rest) := by kernel_rfl

theorem make_of (P : Program) (h : ∃ rest, behindMainWord (wordsSigns P.initOrder.toList) = [Char.ofNat 99, Char.ofNat 117, Char.ofNat 116] :: rest) : P.make = some .cut := by
  obtain ⟨rest, h⟩ := h
  unfold Program.make
  rw [h]
  kernel_rfl
theorem lifts_of (P : Program) (h : ∃ rest, behindMainWord (wordsSigns P.initOrder.toList) = [Char.ofNat 99, Char.ofNat 117, Char.ofNat 116] :: rest) : P.liftsFinal = false := by
  obtain ⟨rest, h⟩ := h
  unfold Program.liftsFinal Program.headLifts
  rw [h, strip_cut]
  kernel_rfl
theorem enter_of (P : Program) (h : ∃ rest, behindMainWord (wordsSigns P.initOrder.toList) = [Char.ofNat 99, Char.ofNat 117, Char.ofNat 116] :: rest) (h1 : P.laysLater = false) (h2 : P.bearsReflect = false) (h3 : P.doorFits [] = true) : P.mayEnter = true := by
  obtain ⟨rest, h⟩ := h
  unfold Program.mayEnter
  rw [h]
  simp only [strip_cut, h1, h2, h3]
  kernel_rfl
theorem beq_of {a b : Bool} (h : b = a) : (a == b) = true := by rw [h]; cases a <;> rfl
theorem make_beq {P : Program} {m : Make} (h : P.make = some m) (hm : (some m == some m) = true) : (P.make == some m) = true := by rw [h]; exact hm

theorem head_make : Try.checked.prog.make = some .cut := make_of _ head_words
theorem head_lifts : Try.checked.prog.liftsFinal = false := lifts_of _ head_words
theorem head_lays : Program.laysLater Try.checked.prog = false := by kernel_rfl
theorem head_bears : Program.bearsReflect Try.checked.prog = false := by kernel_rfl
theorem head_door : Program.doorFits Try.checked.prog [] = true := by kernel_rfl
theorem head_enter : Try.checked.prog.mayEnter = true := enter_of _ head_words head_lays head_bears head_door
end Go.Proofs.Qxb6601749a
