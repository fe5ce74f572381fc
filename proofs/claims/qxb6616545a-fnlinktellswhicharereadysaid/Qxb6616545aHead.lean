import Derived.Test.Qxb6616545aRows
import Derived.JoinedOf
import Derived.KernelRfl
/-! THE CLOSED FACTS THAT READ THE LONG HEAD OF THE TRANSLATION: three of them run over its more than a thousand signs; asked of the string itself the kernel outgrows its memory, asked of the list of its signs it does not. -/
namespace Go.Proofs.Qxb6616545a.Head
set_option linter.unusedVariables false
set_option linter.unusedSimpArgs false
set_option maxRecDepth 100000

theorem words_at {P : Program} {l : List Char} (h : P.initOrder = String.ofList l) : wordsSigns P.initOrder.toList = wordsSigns l := by
  rw [h, String.toList_ofList]

theorem wordsHead : (behindMainWord (wordsSigns Try.prog.initOrder.toList)).head? = some "cut".toList :=
  (congrArg (fun l => (behindMainWord l).head?) (words_at (P := Try.prog) rfl)).trans (by kernel_rfl)

theorem wordsOk : ∃ r, behindMainWord (wordsSigns Try.prog.initOrder.toList) = "cut".toList :: r := by
  have h := wordsHead
  generalize behindMainWord (wordsSigns Try.prog.initOrder.toList) = x at h
  cases x with
  | nil => cases h
  | cons a r => exact ⟨r, by injection h with h; rw [h]⟩

theorem strip_cut (r : List (List Char)) : stripLifts liftWords ("cut".toList :: r) = ([], "cut".toList :: r) := by kernel_rfl

theorem mayEnter_of {P : Program} {r : List (List Char)} (h : behindMainWord (wordsSigns P.initOrder.toList) = "cut".toList :: r)
    (h1 : P.laysLater = false) (h2 : P.bearsReflect = false) (h3 : P.doorFits [] = true) : P.mayEnter = true := by
  unfold Program.mayEnter
  rw [h]
  simp only [strip_cut, h1, h2, h3]
  kernel_rfl

theorem headLifts_of {P : Program} {r : List (List Char)} (h : behindMainWord (wordsSigns P.initOrder.toList) = "cut".toList :: r) : P.headLifts = [] := by
  unfold Program.headLifts
  rw [h]
  simp only [strip_cut]
  kernel_rfl

theorem liftsFinal_of {P : Program} {r : List (List Char)} (h : behindMainWord (wordsSigns P.initOrder.toList) = "cut".toList :: r) : P.liftsFinal = false := by
  unfold Program.liftsFinal
  rw [headLifts_of h, h]
  kernel_rfl

theorem make_of {P : Program} {r : List (List Char)} (h : behindMainWord (wordsSigns P.initOrder.toList) = "cut".toList :: r) : P.make = some .cut := by
  unfold Program.make
  rw [headLifts_of h, h]
  kernel_rfl

theorem laysOk : Try.prog.laysLater = false := by kernel_rfl
theorem reflOk : Try.prog.bearsReflect = false := by kernel_rfl
theorem doorOk : Try.prog.doorFits [] = true := by kernel_rfl

theorem mayEnterOk : Try.prog.mayEnter = true := by
  obtain ⟨r, h⟩ := wordsOk
  exact mayEnter_of h laysOk reflOk doorOk

theorem liftsFinalOk : Try.prog.liftsFinal = false := by
  obtain ⟨r, h⟩ := wordsOk
  exact liftsFinal_of h

theorem makeOk : Try.prog.make = some .cut := by
  obtain ⟨r, h⟩ := wordsOk
  exact make_of h

end Go.Proofs.Qxb6616545a.Head
