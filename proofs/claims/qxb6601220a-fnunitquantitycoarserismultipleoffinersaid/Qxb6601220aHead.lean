/-
  THE CLOSED FACTS THAT READ THE DUMP's HEAD, CHEAPLY: the head's words are told apart by a law on lists, not by the kernel's run over all of its signs
  (by 'kernel_rfl' alone 'make', 'liftsFinal' and 'mayEnter' took the kernel some 65 seconds and 9.9 GB each).
-/
import Derived.Test.Qxb6601220aRows
import Derived.JoinedOf
import Derived.KernelRfl
namespace Go.Proofs.Qxb6601220a.Hd

theorem and_of {a b : Bool} (ha : a = true) (hb : b = true) : (a && b) = true := by rw [ha, hb]; rfl

theorem toList_of {s : String} {l : List Char} (h : s = String.ofList l) : s.toList = l := by
  rw [h, String.toList_ofList]

theorem words_word (r : List Char) : ∀ w : List Char, (∀ c ∈ w, c ≠ ' ') → wordsSigns (w ++ ' ' :: r) = w :: wordsSigns r
  | [], _ => by simp [wordsSigns]
  | c :: w, h => by
    have hc : c ≠ ' ' := h c (by simp)
    have ih := words_word r w (fun x hx => h x (by simp [hx]))
    rw [List.cons_append, wordsSigns.eq_3 _ _ (fun e => hc e), ih]

theorem sum_plain {s : List Char} (h : isSumSigns s = true) : ∀ c ∈ s, c ≠ ' ' := by
  intro c hc e
  subst e
  simp only [isSumSigns, Bool.and_eq_true, List.all_eq_true] at h
  have := h.2 _ hc
  revert this
  decide

theorem head_cut (s r : List Char) (h : isSumSigns s = true) :
    behindMainWord (wordsSigns ("harness".toList ++ ' ' :: (s ++ ' ' :: ("cut".toList ++ ' ' :: r)))) = "cut".toList :: wordsSigns r := by
  rw [words_word _ _ (by decide), words_word _ _ (sum_plain h), words_word _ _ (by decide)]
  simp [behindMainWord, h]

theorem head_of (l : List Char) (hs : isSumSigns ((l.drop 8).take 64) = true)
    (hl : l = "harness".toList ++ ' ' :: ((l.drop 8).take 64 ++ ' ' :: ("cut".toList ++ ' ' :: l.drop 77))) :
    ∃ rest, behindMainWord (wordsSigns l) = "cut".toList :: rest := by
  rw [hl]
  exact ⟨_, head_cut _ _ hs⟩

theorem make_of {P : Program} {rest : List (List Char)} (h : behindMainWord (wordsSigns P.initOrder.toList) = "cut".toList :: rest) : P.make = some .cut := by
  unfold Program.make
  rw [h]
  rfl

theorem lifts_of {P : Program} {rest : List (List Char)} (h : behindMainWord (wordsSigns P.initOrder.toList) = "cut".toList :: rest) : P.liftsFinal = false := by
  unfold Program.liftsFinal Program.headLifts
  rw [h]
  rfl

theorem enter_of {P : Program} {rest : List (List Char)} (h : behindMainWord (wordsSigns P.initOrder.toList) = "cut".toList :: rest)
    (h1 : P.laysLater = false) (h2 : P.bearsReflect = false) (h3 : P.doorFits [] = true) : P.mayEnter = true := by
  have e : stripLifts liftWords (['c', 'u', 't'] :: rest) = ([], ['c', 'u', 't'] :: rest) := rfl
  unfold Program.mayEnter
  rw [h]
  simp [e, h1, h2, h3]

set_option maxRecDepth 100000 in
theorem head : ∃ rest, behindMainWord (wordsSigns Try.prog.initOrder.toList) = "cut".toList :: rest := by
  rw [show Try.prog.initOrder.toList = _ from toList_of rfl]
  exact head_of _ (by kernel_rfl) (by kernel_rfl)

theorem make : Try.prog.make = some .cut := by obtain ⟨_, h⟩ := head; exact make_of h
theorem lifts : Try.prog.liftsFinal = false := by obtain ⟨_, h⟩ := head; exact lifts_of h
theorem enter : Try.prog.mayEnter = true := by obtain ⟨_, h⟩ := head; exact enter_of h (by kernel_rfl) (by kernel_rfl) (by kernel_rfl)

theorem lifts_eq : (false == Try.prog.liftsFinal) = true := by rw [lifts]; rfl
theorem make_eq : (Try.prog.make == some Make.cut) = true := by rw [make]; rfl

end Go.Proofs.Qxb6601220a.Hd
