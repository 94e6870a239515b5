/- What is made of tokens is their texts one behind the other: the pure statement. -/
import Derived.Test.YtmlebpbalhinnaaPureFnSplitAgain
set_option linter.unusedVariables false
set_option linter.unusedSimpArgs false
namespace Go.Proofs.Ytmlebpbalhinnaa.Pure
open Go.RowKit Go.Proofs.YtmlebpbalhinnaaEvt Go.Proofs.Ytmlebpbalhinnaa.M Go.Proofs.YtmlebpbalhinnaaW.PrintWords Go.Proofs.YtmlebpbalhinnaaTok Go.Proofs.YtmlebpbalhinnaaSplit Go.Proofs.YtmlebpbalhinnaaLines
theorem join_empty (l : List (List UInt8)) : Lib.join l [] = l.flatten := by
  show (List.intersperse [] l).flatten = l.flatten
  induction l with
  | nil => rfl
  | cons x r ih =>
    cases r with
    | nil => simp
    | cons y r => rw [List.intersperse_cons_cons, List.flatten_cons, List.flatten_cons, ih]; simp
theorem str_loop (xs : List C) (hn : xs.length ≤ 2147483647) : ∀ (d i : Nat) (acc : List ByteArray), xs.length = i + d → acc.length ≤ i →
    (Lib.join ((acc ++ (xs.drop i).map (·.f1)).map (·.data.toList)) []).length ≤ 140737488355328 →
    Evt (fun k => chroma_Stringify.l0 k acc xs (xs.length : Int) (i : Int)) (B (Lib.join ((acc ++ (xs.drop i).map (·.f1)).map (·.data.toList)) [])) := by
  intro d
  induction d with
  | zero =>
    intro i acc hi hacc hb
    rw [List.drop_eq_nil_of_le (by omega)] at hb ⊢
    simp only [List.map_nil, List.append_nil] at hb ⊢
    refine Evt.step (fun k => by simp only [chroma_Stringify.l0]; rw [if_neg (by omega)]) ?_
    refine Evt.bind' (a := B (Lib.join (acc.map (·.data.toList)) [])) ?_ (Evt.pure _)
    unfold strings_Join.f
    rw [if_pos (by omega), if_pos hb]
  | succ d ih =>
    intro i acc hi hacc hb
    have hlt : i < xs.length := by omega
    have e : acc ++ (xs.drop i).map (·.f1) = (acc ++ [xs[i].f1]) ++ (xs.drop (i + 1)).map (·.f1) := by
      rw [List.drop_eq_getElem_cons hlt]; simp only [List.map_cons, List.append_assoc, List.singleton_append]
    rw [e] at hb ⊢
    have h1 := ih (i + 1) (acc ++ [xs[i].f1]) (by omega) (by simp; omega) hb
    refine Evt.step (fun k => ?_) h1
    simp only [chroma_Stringify.l0]
    rw [if_pos (by omega), if_pos (by omega), if_pos (by omega), rdC _ _ hlt, if_pos (by omega), wrap_nat (by omega)]
theorem FnStringify : laws_FnStringify.Pure := by
  intro l0 _
  refine Evt.get (guards l0 fun h1 h2 h3 => ?_)
  have hi := inner l0 (by omega)
  have ht := text l0 (by omega) (by omega)
  have e : (Lib.join ((([] : List ByteArray) ++ ((l0.map toC).drop 0).map (fun c : C => c.f1)).map (fun s : ByteArray => s.data.toList)) []) = txt l0 := by
    rw [join_empty, List.drop_zero, List.nil_append, List.map_map, List.map_map]
    rw [txt, List.flatMap_def]; rfl
  have hs := str_loop (l0.map toC) (by rw [List.length_map]; omega) (l0.map toC).length 0 [] (by omega) (by simp) (by rw [e, txt_length]; omega)
  rw [e] at hs
  refine Evt.bind (Evt.bind hi (Evt.bind (Evt.congr (fun k => rfl) hs) (Evt.pure _))) (Evt.bind ht (Evt.pos rfl (Evt.bind waking (Evt.pure _))))
end Go.Proofs.Ytmlebpbalhinnaa.Pure
