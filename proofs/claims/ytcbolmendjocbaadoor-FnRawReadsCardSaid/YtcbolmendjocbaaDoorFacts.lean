/- The program's head words, read without the kernel's walk through a long string. -/
import Derived.Test.YtcbolmendjocbaaDoorChecked
import Derived.Test.YtcbolmendjocbaaDoorRows
import Derived.JoinedOf
import Derived.JoinedCond
import Derived.KernelRfl
namespace Go.Proofs.YtcbolmendjocbaaDoor
open Go
set_option maxRecDepth 100000
theorem wsKey (s : String) (cs : List Char) (h : s = String.ofList cs) : wordsSigns s.toList = wordsSigns cs := by
  subst h; rw [String.toList_ofList]
theorem tlKey (s : String) (cs : List Char) (h : s = String.ofList cs) : s.toList = cs := by
  subst h; rw [String.toList_ofList]
theorem head_words : (wordsSigns Tryd.prog.initOrder.toList).take 2 = ["harness".toList, "1564b1c342f08570c7c71158c7c13c5722a7401852bae73666e1e155a511f8ef".toList] := by
  rw [tlKey "harness" _ rfl, tlKey "1564b1c342f08570c7c71158c7c13c5722a7401852bae73666e1e155a511f8ef" _ rfl, wsKey Tryd.prog.initOrder _ rfl]
  kernel_rfl
theorem sum_sign : isSumSigns "1564b1c342f08570c7c71158c7c13c5722a7401852bae73666e1e155a511f8ef".toList = true := by
  rw [tlKey "1564b1c342f08570c7c71158c7c13c5722a7401852bae73666e1e155a511f8ef" _ rfl]
  kernel_rfl
theorem mainIs_of (P : Program) (h : (wordsSigns P.initOrder.toList).take 2 = ["harness".toList, "1564b1c342f08570c7c71158c7c13c5722a7401852bae73666e1e155a511f8ef".toList]) : P.mainIs = some (true, "1564b1c342f08570c7c71158c7c13c5722a7401852bae73666e1e155a511f8ef".toList) := by
  unfold Program.mainIs
  generalize wordsSigns P.initOrder.toList = ws at h
  match ws, h with
  | [], h => simp at h
  | [x], h => simp at h
  | x :: y :: r, h =>
    simp only [List.take_succ_cons, List.take_zero, List.cons.injEq, and_true] at h
    obtain ⟨rfl, rfl⟩ := h
    simp only [sum_sign, Bool.not_true, Bool.false_eq_true, if_false, beq_self_eq_true, if_true]
theorem mainIs_fact : Tryd.pinned.checked.prog.mainIs = some (true, "1564b1c342f08570c7c71158c7c13c5722a7401852bae73666e1e155a511f8ef".toList) := mainIs_of Tryd.prog head_words
theorem headLifts_fact : Tryd.pinned.checked.prog.headLifts = [] := by
  show Tryd.prog.headLifts = _
  unfold Program.headLifts
  rw [wsKey Tryd.prog.initOrder _ rfl]
  kernel_rfl
theorem cut_word : ∃ rest, behindMainWord (wordsSigns Tryd.prog.initOrder.toList) = "cut".toList :: rest := by
  have h : (behindMainWord (wordsSigns Tryd.prog.initOrder.toList)).head? = some "cut".toList := by
    rw [wsKey Tryd.prog.initOrder _ rfl]
    kernel_rfl
  exact List.head?_eq_some_iff.1 h
theorem cut_strip : (stripLifts liftWords (behindMainWord (wordsSigns Tryd.prog.initOrder.toList))).2.head? = some "cut".toList := by
  rw [wsKey Tryd.prog.initOrder _ rfl]
  kernel_rfl
theorem n_gc : ("cut".toList == "gc".toList) = false := by kernel_rfl
theorem n_spec : ("cut".toList == "spec".toList) = false := by kernel_rfl
theorem n_carried : ("cut".toList == "carried".toList) = false := by kernel_rfl
theorem lays_later : Tryd.prog.laysLater = false := by kernel_rfl
theorem bears_reflect : Tryd.prog.bearsReflect = false := by kernel_rfl
theorem lift_none : (stripLifts liftWords (behindMainWord (wordsSigns Tryd.prog.initOrder.toList))).1 = [] := by
  have h := headLifts_fact
  have h2 := cut_strip
  change Tryd.prog.headLifts = [] at h
  unfold Program.headLifts at h
  simp only [h2, beq_self_eq_true, if_true] at h
  exact h
theorem door_fits : Tryd.prog.doorFits [] = true := by kernel_rfl
theorem liftsFinal_of (P : Program) {rest : List (List Char)} (hr : behindMainWord (wordsSigns P.initOrder.toList) = "cut".toList :: rest) (h : P.headLifts = []) : P.liftsFinal = false := by
  unfold Program.liftsFinal
  rw [h, hr]
  have e : (("cut".toList :: rest).head? == some "carried".toList) = false := by
    rw [List.head?_cons]; exact n_carried
  simp only [e, Bool.false_and, List.contains_nil, Bool.or_false]
theorem liftsFinal_fact : Tryd.pinned.checked.prog.liftsFinal = false :=
  let ⟨_, hr⟩ := cut_word
  liftsFinal_of Tryd.prog hr headLifts_fact
theorem make_of (P : Program) {rest : List (List Char)} (hr : behindMainWord (wordsSigns P.initOrder.toList) = "cut".toList :: rest) : P.make = some .cut := by
  unfold Program.make
  rw [hr]
  simp only [n_gc, n_spec, Bool.or_self, Bool.false_eq_true, if_false, beq_self_eq_true, Bool.true_or, if_true]
theorem make_fact : Tryd.pinned.checked.prog.make = some .cut :=
  let ⟨_, hr⟩ := cut_word
  make_of Tryd.prog hr
theorem mayEnter_of (P : Program) {rest : List (List Char)} (hr : behindMainWord (wordsSigns P.initOrder.toList) = "cut".toList :: rest)
    (h1 : (stripLifts liftWords (behindMainWord (wordsSigns P.initOrder.toList))).2.head? = some "cut".toList) (h2 : (stripLifts liftWords (behindMainWord (wordsSigns P.initOrder.toList))).1 = [])
    (h3 : P.laysLater = false) (h4 : P.bearsReflect = false) (h5 : P.doorFits [] = true) : P.mayEnter = true := by
  unfold Program.mayEnter
  rw [hr] at h1 h2 ⊢
  simp only [h1, h2, h3, h4, h5, beq_self_eq_true, Bool.not_false, Bool.or_true, Bool.and_true, List.contains_nil]
theorem mayEnter_fact : Tryd.pinned.checked.prog.mayEnter = true :=
  let ⟨_, hr⟩ := cut_word
  mayEnter_of Tryd.prog hr cut_strip lift_none lays_later bears_reflect door_fits
end Go.Proofs.YtcbolmendjocbaaDoor
