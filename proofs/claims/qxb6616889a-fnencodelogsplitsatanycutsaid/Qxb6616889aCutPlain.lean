/-
  THE FIRST LAW, PLAINLY: the encoding of a log is put together of its parts' encodings. By an AI agent.
-/
import Derived.Test.Qxb6616889aHas
namespace Go.Proofs.Qxb6616889a
set_option linter.unusedVariables false

theorem len_left (cs : List Cp) : (encLog cs []).length = 8 + (encCps cs).length := by
  rw [encLog_length]; simp [encEns]
theorem left_head (cs : List Cp) : (encLog cs []).take 4 = be4 (cs.length : Int) := by
  simp [encLog, cnt4, be4]
theorem left_tail (cs : List Cp) : (encLog cs []).drop ((encLog cs []).length - 4) = be4 0 := by
  rw [len_left]
  have e : encLog cs [] = (cnt4 cs ++ encCps cs) ++ be4 0 := by simp [encLog, cnt4, encEns]
  rw [e, show 8 + (encCps cs).length - 4 = (cnt4 cs ++ encCps cs).length by simp only [List.length_append, cnt4_length]; omega, List.drop_left]
theorem left_mid (cs : List Cp) : ((encLog cs []).take ((encLog cs []).length - 4)).drop 4 = encCps cs := by
  rw [len_left]
  have e : encLog cs [] = (cnt4 cs ++ encCps cs) ++ be4 0 := by simp [encLog, cnt4, encEns]
  rw [e, show 8 + (encCps cs).length - 4 = (cnt4 cs ++ encCps cs).length by simp only [List.length_append, cnt4_length]; omega, List.take_left]
  rw [show (4 : Nat) = (cnt4 cs).length from rfl, List.drop_left]
theorem len_right (es : List En) : (encLog [] es).length = 8 + (encEns es).length := by
  rw [encLog_length]; simp [encCps]
theorem right_head (es : List En) : (encLog [] es).take 4 = be4 0 := by
  simp [encLog, cnt4, be4]
theorem right_count (es : List En) : ((encLog [] es).take 8).drop 4 = be4 (es.length : Int) := by
  simp [encLog, cnt4, be4, encCps]
theorem right_rest (es : List En) : (encLog [] es).drop 8 = encEns es := by
  simp [encLog, cnt4, be4, encCps]
theorem cut_whole (ps : List Int) (cs : List Cp) (es : List En) (a b : Nat) :
    ps ++ encLog cs es = (((((ps ++ be4 (cs.length : Int)) ++ encCps (cs.take a)) ++ encCps (cs.drop a)) ++ be4 (es.length : Int)) ++ encEns (es.take b)) ++ encEns (es.drop b) := by
  have e1 : encCps cs = encCps (cs.take a) ++ encCps (cs.drop a) := by
    unfold encCps; rw [← List.flatMap_append, List.take_append_drop]
  have e2 : encEns es = encEns (es.take b) ++ encEns (es.drop b) := by
    unfold encEns; rw [← List.flatMap_append, List.take_append_drop]
  simp only [encLog, cnt4, e1, e2, List.append_assoc]
end Go.Proofs.Qxb6616889a
