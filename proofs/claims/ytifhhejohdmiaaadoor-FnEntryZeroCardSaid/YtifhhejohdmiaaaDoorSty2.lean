/- Styles: NewStyle and impl.styled. -/
import Derived.Test.YtifhhejohdmiaaaDoorSty
set_option linter.unusedVariables false
set_option linter.unusedSimpArgs false
namespace Go.Proofs.YtifhhejohdmiaaaDoorEnt
open Go.RowKit Go.Shelf Go.Proofs.YtifhhejohdmiaaaDoorW.PrintWords Go.Proofs.YtifhhejohdmiaaaDoorFmt Go.Proofs.YtifhhejohdmiaaaDoorMapI
set_option maxHeartbeats 4000000 in
theorem newStyle_c (nm : ByteArray) (s n : Nat) (hn : n ≤ 1000000) (f : Int → Option ByteArray) (hf : ∀ x t, f x = some t → t.size ≤ 140737488351232) (w : World) (hV : VarsOK w) (hs : MS w s n f) :
    Calls Tryd.prog 53 #[.string nm, .map (some s)] w fun e w' => BuildRes n nm f e w' ∧ Below w.heap.size w w' := by
  have HV := Aside0.mk hV
  have HS := Aside0.mk hs
  have HF := Aside0.mk hf
  have ls : s < w.heap.size := hs.lt
  clear hV hs hf
  go_enter Tryd.func53, Tryd.ntmps53
  go_wp2_with (first | (go_at_call 66; refine (newBld_c _ _).mono ?_; rintro e1 w1 ⟨rfl, h1, h2, h3, h4⟩; have h5 : MS w1 s n f := MapI.below HS.out h3 ls) | (go_at_call 67; refine (addAll_c _ _ s n hn nm _ none f _ h1 h2 h5 (by omega)).mono ?_; rintro e2 w2 ⟨rfl, h6, h7⟩; have h8 : BldAt w2 (w.heap.size + 1) w.heap.size nm ⟨#[]⟩ none := (h7.block _ (blk_lt h1) (fun q => by injection q with q; omega)).trans h1; have h9 : Below w.heap.size w w2 := h3.grown h7 (by omega) (fun k q => by injection q with q; omega)) |
    (go_at_call 68; refine (build_c _ _ n hn nm f HF.out _ (HV.out.below h9) h8 h6).mono ?_; rintro e3 w3 ⟨⟨p, rfl, hx⟩ | ⟨b, m, rfl, hx⟩, hb3⟩))
  · go_ret2
    exact ⟨.inl ⟨p, rfl, hx⟩, h9.trans (hb3.mono h9.size)⟩
  · go_ret2
    exact ⟨.inr ⟨b, m, rfl, hx⟩, h9.trans (hb3.mono h9.size)⟩
/-- A style's lines from cell o of block g on. -/
def PartsAt (W : World) (g o : Nat) (l : List (Int × ByteArray)) : Prop := ∀ i (h : i < l.length), W.cell? ⟨g, o + i * 2, none⟩ = some (.int .i64 l[i].1) ∧ W.cell? ⟨g, o + i * 2 + 1, none⟩ = some (.string l[i].2)
theorem PartsAt.same {W W' : World} {g o : Nat} {l : List (Int × ByteArray)} (h : PartsAt W g o l) (hb : W'.heap[g]? = W.heap[g]?) : PartsAt W' g o l := fun i hi =>
  ⟨(World.cell?_of_block (a := ⟨g, _, none⟩) hb).trans (h i hi).1, (World.cell?_of_block (a := ⟨g, _, none⟩) hb).trans (h i hi).2⟩
/-- What a style's lines say: of two of one type the later one counts. -/
def lineF (l : List (Int × ByteArray)) : Int → Option ByteArray := l.foldl (fun f p => fun y => if y = p.1 then some p.2 else f y) (fun _ => none)
theorem lineF_snoc (l : List (Int × ByteArray)) (p : Int × ByteArray) : lineF (l ++ [p]) = fun y => if y = p.1 then some p.2 else lineF l y := by
  unfold lineF; rw [List.foldl_append]; rfl
theorem lineF_aux (l : List (Int × ByteArray)) : ∀ (f : Int → Option ByteArray) x t, l.foldl (fun f p => fun y => if y = p.1 then some p.2 else f y) f x = some t → (x, t) ∈ l ∨ f x = some t := by
  induction l with
  | nil => intro f x t h; exact .inr h
  | cons p l ih =>
    intro f x t h
    rcases ih _ x t h with h | h
    · exact .inl (List.mem_cons_of_mem _ h)
    · have h : (if x = p.1 then some p.2 else f x) = some t := h
      by_cases e : x = p.1
      · rw [if_pos e] at h
        obtain rfl := Option.some.inj h
        subst e
        exact .inl (by simp)
      · rw [if_neg e] at h
        exact .inr h
theorem lineF_mem (l : List (Int × ByteArray)) (x : Int) (t : ByteArray) (h : lineF l x = some t) : (x, t) ∈ l := by
  rcases lineF_aux l _ x t h with h | h
  · exact h
  · cases h
def StyledRes (l : List (Int × ByteArray)) (x : Ending) (w' : World) : Prop :=
  (x = .returned (.pointer none) ∧ ∃ k t, Ok k ∧ lineF l k = some t ∧ pse t = none) ∨
  (∃ b m, x = .returned (.pointer (some ⟨b, 0, none⟩)) ∧ StyCell w' b m ⟨#[120]⟩ ⟨#[]⟩ none ∧ ME w' m l.length (fun k => (lineF l k).bind pse) ∧ ∀ k t, Ok k → lineF l k = some t → pse t ≠ none)
set_option maxRecDepth 100000 in
set_option maxHeartbeats 4000000 in
theorem styled_c (A : Option Addr) (cap : Nat) (l : List (Int × ByteArray)) (hl : l.length ≤ 1000000) (hc : l.length ≤ cap) (hk : ∀ p ∈ l, Ok p.1 ∧ p.2.size ≤ 140737488351232) (w : World) (hV : VarsOK w)
    (hA : l ≠ [] → ∃ g o, A = some ⟨g, o, none⟩ ∧ g < w.heap.size ∧ PartsAt w g o l) :
    Calls Tryd.prog 40 #[.slice A l.length cap] w fun e w' => StyledRes l e w' ∧ Below w.heap.size w w' := by
  have hmm := @run_makeMap Tryd.prog
  have HV := Aside0.mk hV
  have HA := Aside0.mk hA
  have HK := Aside0.mk hk
  clear hV hA hk
  go_enter Tryd.func40, Tryd.ntmps40
  go_wp2
  go_loopw [11] (fun i wr => ∃ k : Nat, k ≤ l.length ∧ i = .int .i64 (k : Int) ∧ Aside0 (MS wr w.heap.size k (lineF (l.take k))) ∧ Aside0 (Below w.heap.size w wr)) (fun i _ => l.length - (intOf i).toNat)
  case atStart => exact ⟨0, Nat.zero_le _, rfl, ⟨MapI.congr (MapI.made w) (fun x _ => rfl)⟩, ⟨below_alloc (Below.refl _ _) _⟩⟩
  case round =>
    obtain ⟨k, hkl, rfl, HM, HB⟩ := hrel
    by_cases hlt : k < l.length
    · obtain ⟨g, o, rfl, hg, hP⟩ := HA.out (fun e => by rw [e] at hlt; simp at hlt)
      obtain ⟨d0, d1⟩ := (hP.same (HB.out.block g hg)) k hlt
      have hmem := List.getElem_mem hlt
      have htk : l.take (k + 1) = l.take k ++ [l[k]] := by rw [List.take_succ_eq_append_getElem hlt]
      obtain ⟨hk1, hk2⟩ := HK.out _ hmem
      generalize l[k] = p at *
      have hlti : (k : Int) < (l.length : Int) := by omega
      have hM1 : MS (wr.alloc (.cells #[.int .i64 p.1, .string p.2] 49)) w.heap.size k (lineF (l.take k)) := MapI.same HM.out (Below.heap_alloc _ _ _ HM.out.lt)
      obtain ⟨w3, hup, hm3, hg3⟩ := MapI.store hM1 (mt := 98) Tryd.underlying99 Tryd.underlying98 (by unfold maxLen; omega) hk1 (.string p.2)
      have HM3 : Aside0 (MS w3 w.heap.size (k + 1) (lineF (l.take (k + 1)))) := ⟨MapI.congr hm3 (fun y _ => by rw [htk, lineF_snoc]; unfold upd; by_cases e : y = p.1 <;> simp [e])⟩
      have HB3 : Aside0 (Below w.heap.size w w3) := ⟨(below_alloc HB.out _).grown hg3 (by have := HB.out.size; simp; omega) (fun j e => by injection e with e; omega)⟩
      clear htk hm3 hg3 hM1 hmem hP
      go_wp2
      go_roundw
      case rel => exact ⟨k + 1, by omega, by rw [Int.natCast_add]; rfl, HM3, HB3⟩
      case measure => simp [intOf]; omega
    · obtain rfl : k = l.length := by omega
      rw [List.take_length] at HM
      have hf : ∀ x t, lineF l x = some t → t.size ≤ 140737488351232 := fun x t h => (HK.out _ (lineF_mem l x t h)).2
      have kS := Aside0.mk (newStyle_c ⟨#[120]⟩ w.heap.size l.length hl (lineF l) hf wr (HV.out.below HB.out) HM.out)
      clear hf
      go_wp2_with (go_at_call 53; refine kS.out.mono ?_; rintro e3 w3 ⟨⟨p, rfl, hx⟩ | ⟨b, m, rfl, hx⟩, hb3⟩)
      · go_ret
        exact ⟨.inl ⟨rfl, hx⟩, HB.out.trans (hb3.mono HB.out.size)⟩
      · go_ret
        exact ⟨.inr ⟨b, m, rfl, hx⟩, HB.out.trans (hb3.mono HB.out.size)⟩
end Go.Proofs.YtifhhejohdmiaaaDoorEnt
