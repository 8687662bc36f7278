import Derived.Test.Qxb6001154aRows
import Derived.JoinedOf
import Derived.KernelRfl
namespace Go.Proofs.Qxb6001154a.Head
open Go

/-! The dump's own head is a long string; taken apart sign by sign by the kernel it outgrows the memory lid. Here it is cut into its first three words and a rest that no fact looks into. -/

def signs (l : List Nat) : List Char := l.map Char.ofNat
def word1 : List Nat := [104, 97, 114, 110, 101, 115, 115]
def word2 : List Nat := [53, 99, 57, 50, 100, 49, 97, 101, 50, 98, 97, 99, 49, 52, 98, 102, 52, 97, 50, 99, 99, 101, 48, 101, 57, 57, 55, 49, 102, 57, 55, 100, 50, 49, 57, 98, 56, 55, 99, 99, 101, 55, 99, 57, 51, 54, 100, 57, 57, 98, 48, 97, 55, 53, 101, 49, 48, 98, 98, 101, 98, 48, 97, 55]
def word3 : List Nat := [99, 117, 116]
def word4 : List Nat := [97, 116, 32, 101, 120, 97, 109, 112, 108, 101, 46, 99, 111, 109, 47, 104, 117, 109, 98, 108, 101, 45, 116, 114, 97, 110, 115, 99, 111, 100, 101, 114, 47, 104, 117, 109, 98, 108, 101, 45, 116, 114, 97, 110, 115, 99, 111, 100, 101, 114, 47, 122, 122, 108, 97, 119, 115, 95, 112, 97, 116, 104, 116, 101, 109, 112, 108, 97, 116, 101, 95, 98, 49, 46, 70, 110, 85, 110, 101, 115, 99, 97, 112, 101, 73, 110, 118, 101, 114, 116, 115, 80, 101, 114, 99, 101, 110, 116, 69, 110, 99, 111, 100, 105, 110, 103, 32, 101, 120, 97, 109, 112, 108, 101, 46, 99, 111, 109, 47, 104, 117, 109, 98, 108, 101, 45, 116, 114, 97, 110, 115, 99, 111, 100, 101, 114, 47, 104, 117, 109, 98, 108, 101, 45, 116, 114, 97, 110, 115, 99, 111, 100, 101, 114, 47, 122, 122, 108, 97, 119, 115, 95, 112, 97, 116, 104, 116, 101, 109, 112, 108, 97, 116, 101, 95, 98, 49, 46, 70, 110, 85, 110, 101, 115, 99, 97, 112, 101, 83, 112, 108, 105, 116, 115, 79, 118, 101, 114, 67, 111, 110, 99, 97, 116, 101, 110, 97, 116, 105, 111, 110, 32, 101, 120, 97, 109, 112, 108, 101, 46, 99, 111, 109, 47, 104, 117, 109, 98, 108, 101, 45, 116, 114, 97, 110, 115, 99, 111, 100, 101, 114, 47, 104, 117, 109, 98, 108, 101, 45, 116, 114, 97, 110, 115, 99, 111, 100, 101, 114, 47, 122, 122, 108, 97, 119, 115, 95, 112, 97, 116, 104, 116, 101, 109, 112, 108, 97, 116, 101, 95, 98, 49, 46, 70, 110, 85, 110, 101, 115, 99, 97, 112, 101, 83, 104, 114, 105, 110, 107, 115, 84, 119, 111, 66, 121, 116, 101, 115, 80, 101, 114, 68, 101, 99, 111, 100, 101, 100, 79, 99, 116, 101, 116, 32, 101, 120, 97, 109, 112, 108, 101, 46, 99, 111, 109, 47, 104, 117, 109, 98, 108, 101, 45, 116, 114, 97, 110, 115, 99, 111, 100, 101, 114, 47, 104, 117, 109, 98, 108, 101, 45, 116, 114, 97, 110, 115, 99, 111, 100, 101, 114, 47, 122, 122, 108, 97, 119, 115, 95, 112, 97, 116, 104, 116, 101, 109, 112, 108, 97, 116, 101, 95, 98, 49, 46, 70, 110, 77, 97, 116, 99, 104, 67, 111, 109, 112, 97, 114, 101, 115, 76, 105, 116, 101, 114, 97, 108, 115, 66, 121, 68, 101, 99, 111, 100, 101, 100, 66, 121, 116, 101, 115, 32, 101, 120, 97, 109, 112, 108, 101, 46, 99, 111, 109, 47, 104, 117, 109, 98, 108, 101, 45, 116, 114, 97, 110, 115, 99, 111, 100, 101, 114, 47, 104, 117, 109, 98, 108, 101, 45, 116, 114, 97, 110, 115, 99, 111, 100, 101, 114, 47, 122, 122, 108, 97, 119, 115, 95, 112, 97, 116, 104, 116, 101, 109, 112, 108, 97, 116, 101, 95, 98, 49, 46, 70, 110, 77, 97, 116, 99, 104, 66, 105, 110, 100, 115, 69, 97, 99, 104, 87, 105, 108, 100, 99, 97, 114, 100, 68, 101, 99, 111, 100, 101, 100, 32, 101, 120, 97, 109, 112, 108, 101, 46, 99, 111, 109, 47, 104, 117, 109, 98, 108, 101, 45, 116, 114, 97, 110, 115, 99, 111, 100, 101, 114, 47, 104, 117, 109, 98, 108, 101, 45, 116, 114, 97, 110, 115, 99, 111, 100, 101, 114, 47, 122, 122, 108, 97, 119, 115, 95, 112, 97, 116, 104, 116, 101, 109, 112, 108, 97, 116, 101, 95, 98, 49, 46, 70, 110, 77, 97, 116, 99, 104, 68, 111, 117, 98, 108, 101, 87, 105, 108, 100, 99, 97, 114, 100, 66, 105, 110, 100, 115, 84, 104, 101, 82, 101, 115, 116, 32, 101, 120, 97, 109, 112, 108, 101, 46, 99, 111, 109, 47, 104, 117, 109, 98, 108, 101, 45, 116, 114, 97, 110, 115, 99, 111, 100, 101, 114, 47, 104, 117, 109, 98, 108, 101, 45, 116, 114, 97, 110, 115, 99, 111, 100, 101, 114, 47, 122, 122, 108, 97, 119, 115, 95, 112, 97, 116, 104, 116, 101, 109, 112, 108, 97, 116, 101, 95, 98, 49, 46, 70, 110, 65, 100, 100, 75, 101, 121, 115, 76, 105, 116, 101, 114, 97, 108, 115, 66, 121, 68, 101, 99, 111, 100, 101, 100, 66, 121, 116, 101, 115, 32, 101, 120, 97, 109, 112, 108, 101, 46, 99, 111, 109, 47, 104, 117, 109, 98, 108, 101, 45, 116, 114, 97, 110, 115, 99, 111, 100, 101, 114, 47, 104, 117, 109, 98, 108, 101, 45, 116, 114, 97, 110, 115, 99, 111, 100, 101, 114, 47, 122, 122, 108, 97, 119, 115, 95, 112, 97, 116, 104, 116, 101, 109, 112, 108, 97, 116, 101, 95, 98, 49, 46, 70, 110, 65, 100, 100, 75, 101, 101, 112, 115, 69, 97, 114, 108, 105, 101, 114, 84, 101, 109, 112, 108, 97, 116, 101, 115]

theorem words_cut : ∀ (a r : List Char), (∀ c ∈ a, c ≠ ' ') → wordsSigns (a ++ ' ' :: r) = a :: wordsSigns r
  | [], r, _ => by rw [List.nil_append, wordsSigns]
  | c :: a, r, h => by
    have hc := h c (by simp)
    rw [List.cons_append, wordsSigns.eq_def]
    split
    · rename_i e; cases e
    · rename_i e; cases e; exact absurd rfl hc
    · rename_i x y e
      cases e
      rw [words_cut a r (fun d hd => h d (by simp [hd]))]

set_option maxRecDepth 100000 in
theorem head_eq : Try.prog.initOrder = String.ofList (signs word1 ++ ' ' :: (signs word2 ++ ' ' :: (signs word3 ++ ' ' :: signs word4))) := by kernel_rfl
theorem head_list : Try.prog.initOrder.toList = signs word1 ++ ' ' :: (signs word2 ++ ' ' :: (signs word3 ++ ' ' :: signs word4)) := by rw [head_eq, String.toList_ofList]
theorem head_words : wordsSigns Try.prog.initOrder.toList = signs word1 :: signs word2 :: signs word3 :: wordsSigns (signs word4) := by
  rw [head_list, words_cut _ _ (by decide +kernel), words_cut _ _ (by decide +kernel), words_cut _ _ (by decide +kernel)]

theorem behind (rest : List (List Char)) : behindMainWord (signs word1 :: signs word2 :: signs word3 :: rest) = signs word3 :: rest := by
  have h : ((signs word1 == "harness".toList || signs word1 == "ownmain".toList) && isSumSigns (signs word2)) = true := by kernel_rfl
  rw [behindMainWord, if_pos h]
theorem cut_eq : signs word3 = "cut".toList := by kernel_rfl
theorem head_behind : ∃ rest, behindMainWord (wordsSigns Try.prog.initOrder.toList) = "cut".toList :: rest := ⟨wordsSigns (signs word4), by rw [head_words, behind, cut_eq]⟩
theorem strip (rest : List (List Char)) : stripLifts liftWords ("cut".toList :: rest) = ([], "cut".toList :: rest) := by kernel_rfl
theorem notLater : Try.prog.laysLater = false := by kernel_rfl
theorem notReflect : Try.prog.bearsReflect = false := by kernel_rfl
theorem door : Try.prog.doorFits [] = true := by kernel_rfl
theorem mayEnter_of (P : Program) (rest : List (List Char)) (h : behindMainWord (wordsSigns P.initOrder.toList) = "cut".toList :: rest) (h1 : P.laysLater = false) (h2 : P.bearsReflect = false) (h3 : P.doorFits [] = true) : P.mayEnter = true := by
  unfold Program.mayEnter
  rw [h]
  dsimp only
  rw [strip, h1, h2, h3]
  simp
theorem notFinal_of (P : Program) (rest : List (List Char)) (h : behindMainWord (wordsSigns P.initOrder.toList) = "cut".toList :: rest) : P.liftsFinal = false := by
  unfold Program.liftsFinal Program.headLifts
  rw [h]
  dsimp only
  rw [strip]
  kernel_rfl
theorem make_of (P : Program) (rest : List (List Char)) (h : behindMainWord (wordsSigns P.initOrder.toList) = "cut".toList :: rest) : P.make = some .cut := by
  unfold Program.make
  rw [h]
  kernel_rfl
theorem mayEnter : Try.prog.mayEnter = true := by
  obtain ⟨rest, h⟩ := head_behind
  exact mayEnter_of Try.prog rest h notLater notReflect door
theorem notFinal : Try.prog.liftsFinal = false := by
  obtain ⟨rest, h⟩ := head_behind
  exact notFinal_of Try.prog rest h
theorem make : Try.prog.make = some .cut := by
  obtain ⟨rest, h⟩ := head_behind
  exact make_of Try.prog rest h

end Go.Proofs.Qxb6001154a.Head
