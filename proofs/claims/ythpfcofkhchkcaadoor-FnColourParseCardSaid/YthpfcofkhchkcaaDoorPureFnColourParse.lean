import Derived.Test.YthpfcofkhchkcaaDoorColPure
set_option linter.unusedVariables false
namespace Go.Proofs.YthpfcofkhchkcaaDoor.Pure
open Go.RowKit Go.Proofs.YthpfcofkhchkcaaDoorW.PrintWords Go.Proofs.YthpfcofkhchkcaaDoor.M Go.Proofs.YthpfcofkhchkcaaDoorFmt Go.Proofs.YthpfcofkhchkcaaDoor.ColPure
/-! ### the digits -/
def hexOr (c : Int) : Int := match dig16 c with | some d => d | none => -1
theorem hex3 : ∀ c : Nat, c < 256 → spec_hex.f 3 (c : Int) = some (hexOr c) := by decide +kernel
theorem hex_f (c : Nat) (hc : c < 256) : ∀ k, spec_hex.f (k + 3) (c : Int) = some (hexOr c)
  | 0 => hex3 c hc
  | k + 1 => spec_hex.mono _ _ _ (hex_f c hc k)
theorem dig16_lt : ∀ c : Nat, c < 256 → ∀ d, dig16 (c : Int) = some d → 0 ≤ d ∧ d < 16 := by
  have h : ∀ c : Nat, c < 256 → (match dig16 (c : Int) with | some d => decide (0 ≤ d ∧ d < 16) | none => true) = true := by decide +kernel
  intro c hc d hd
  have := h c hc
  rw [hd] at this
  exact of_decide_eq_true this
def specL : List Int → Int → Bool → Int × Int
  | [], n, great => if great = true then (0, 2) else (wrap32 (wrap64 (n + 1)), 1)
  | c :: l, n, great => match dig16 c with
    | none => (0, 1)
    | some d => if great = true then specL l n true else specL l (n * 16 + d) (decide (n * 16 + d ≥ 16777216))
theorem l1_eq (x : ByteArray) (hx : x.size ≤ 1000) : ∀ (m i : Nat) (n : Int) (great : Bool) (K : Nat), i + m = x.size → 0 ≤ n → (great = false → n < 16777216) →
    spec_ColourParse.l1 (m + 1 + (K + 3)) x n great (i : Int) = some (specL ((bytesOf x).drop i) n great)
  | 0, i, n, great, K, hi, hn, hg => by
    have hd : (bytesOf x).drop i = [] := List.drop_eq_nil_of_le (by rw [bytesOf_length]; omega)
    rw [hd, show 0 + 1 + (K + 3) = (K + 3) + 1 by omega, spec_ColourParse.l1, if_neg (by omega), specL]
    cases great <;> rfl
  | m + 1, i, n, great, K, hi, hn, hg => by
    have hlt : i < x.size := by omega
    have hlen : i < (bytesOf x).length := by rw [bytesOf_length]; exact hlt
    have hlen' : i < x.data.toList.length := by rw [data_length]; exact hlt
    have he : (bytesOf x)[i] = ((x.data.toList[i]).toNat : Int) := by simp [bytesOf]
    have hb : bt x (i : Int) = ((x.data.toList[i]).toNat : Int) := by
      rw [← rd_bytesOf, ← he]
      show (bytesOf x).getD ((i : Int)).toNat 0 = _
      rw [Int.toNat_natCast, List.getD_eq_getElem?_getD, List.getElem?_eq_getElem hlen]; rfl
    have hc : (x.data.toList[i]).toNat < 256 := UInt8.toNat_lt _
    rw [List.drop_eq_getElem_cons hlen, he, show m + 1 + 1 + (K + 3) = (m + 1 + K + 3) + 1 by omega, spec_ColourParse.l1, if_pos (by omega), if_pos (by omega), hb, hex_f _ hc, Option.bind_some, specL]
    have ei : wrap64 ((i : Int) + 1) = ((i + 1 : Nat) : Int) := by unfold wrap64; omega
    rw [ei]
    cases hd : dig16 ((x.data.toList[i]).toNat : Int) with
    | none => rw [hexOr, hd]; rfl
    | some d =>
      obtain ⟨d0, d1⟩ := dig16_lt _ hc d hd
      rw [hexOr, hd]
      simp only
      rw [if_neg (by omega)]
      cases great with
      | true =>
        rw [if_pos rfl, if_pos rfl, show m + 1 + K + 3 = m + 1 + (K + 3) by omega]
        exact l1_eq x hx m (i + 1) n true K (by omega) hn (by intro h; cases h)
      | false =>
        have hn' := hg rfl
        rw [if_neg (by decide), if_neg (by decide), show m + 1 + K + 3 = m + 1 + (K + 3) by omega]
        have ew : wrap64 (wrap64 (n * 16) + d) = n * 16 + d := by unfold wrap64; omega
        rw [ew]
        exact l1_eq x hx m (i + 1) _ _ K (by omega) (by omega) (by intro h; have := of_decide_eq_false h; omega)
theorem specL_great : ∀ (l : List Int) (n : Int), (specL l n true).2 = 2 ∨ (specL l n true = (0, 1) ∧ ∀ m, pu16 l m = none)
  | [], n => .inl rfl
  | c :: l, n => by
    rw [specL]
    cases hd : dig16 c with
    | none => exact .inr ⟨rfl, fun m => pu16_bad hd⟩
    | some d =>
      simp only [if_true]
      rcases specL_great l n with h | ⟨h1, h2⟩
      · exact .inl h
      · refine .inr ⟨h1, fun m => ?_⟩
        by_cases hm : m * 16 + d ≤ 4294967295
        · rw [pu16_more hd hm]; exact h2 _
        · exact pu16_great hd hm
theorem specL_ok : ∀ (l : List Int) (n : Int), (∀ c ∈ l, ∀ d, dig16 c = some d → 0 ≤ d ∧ d < 16) → 0 ≤ n → n < 16777216 →
    (specL l n false).2 = 2 ∨ (specL l n false).1 = (match pu16 l n with | some m => wrap32 (m + 1) | none => 0)
  | [], n, _, h0, h1 => by
    refine .inr ?_
    show wrap32 (wrap64 (n + 1)) = wrap32 (n + 1)
    unfold wrap32 wrap64; omega
  | c :: l, n, hl, h0, h1 => by
    rw [specL]
    cases hd : dig16 c with
    | none => refine .inr ?_; rw [pu16_bad hd]
    | some d =>
      obtain ⟨d0, d1⟩ := hl c (by simp) d hd
      simp only
      rw [if_neg (by decide), pu16_more hd (by omega)]
      by_cases hg : n * 16 + d ≥ 16777216
      · rw [decide_eq_true hg]
        rcases specL_great l (n * 16 + d) with h | ⟨h2, h3⟩
        · exact .inl h
        · refine .inr ?_; rw [h2, h3]
      · rw [decide_eq_false hg]
        exact specL_ok l _ (fun c hc => hl c (by simp [hc])) (by omega) (by omega)
theorem bytes_dig (x : ByteArray) : ∀ c ∈ bytesOf x, ∀ d, dig16 c = some d → 0 ≤ d ∧ d < 16 := by
  intro c hc d hd
  obtain ⟨b, _, rfl⟩ := List.mem_map.1 hc
  exact dig16_lt _ (UInt8.toNat_lt b) d hd
theorem j2_ok (x : ByteArray) (hx : x.size ≤ 46) (K : Nat) : ∃ r, spec_ColourParse.j2 (K + 60) x = some r ∧ (r.2 = 2 ∨ r.1 = (match puS x with | some m => wrap32 (m + 1) | none => 0)) := by
  by_cases he : x.data.toList = []
  · refine ⟨(0, 1), ?_, .inr ?_⟩
    · rw [show K + 60 = (K + 59) + 1 by omega, spec_ColourParse.j2, if_pos (toList_eq he)]
    · have : x.toList.isEmpty = true := by rw [toList_eq he]; rfl
      rw [puS, this]; rfl
  · have hne : ¬ x.toList = [] := fun h => he (by rw [← ByteArray.toList_eq]; exact h)
    refine ⟨specL (bytesOf x) 0 false, ?_, ?_⟩
    · rw [show K + 60 = (K + 59) + 1 by omega, spec_ColourParse.j2, if_neg hne]
      have := l1_eq x (by omega) x.size 0 0 false (K + 59 - (x.size + 1) - 3) (by omega) (by omega) (by intro _; omega)
      rw [show x.size + 1 + (K + 59 - (x.size + 1) - 3 + 3) = K + 59 by omega] at this
      exact this
    · have h2 : puS x = pu16 (bytesOf x) 0 := by
        rw [puS]
        have : x.toList.isEmpty = false := by cases hh : x.toList with | nil => exact absurd hh hne | cons _ _ => rfl
        rw [this]; rfl
      rw [h2]
      exact specL_ok _ 0 (bytes_dig x) (by omega) (by omega)
/-! ### the names -/
def shL : List S56 := [(⟨(⟨#[98, 108, 97, 99, 107]⟩ : ByteArray), 0⟩ : S56), (⟨(⟨#[100, 97, 114, 107, 114, 101, 100]⟩ : ByteArray), 8323072⟩ : S56), (⟨(⟨#[100, 97, 114, 107, 103, 114, 101, 101, 110]⟩ : ByteArray), 32512⟩ : S56), (⟨(⟨#[98, 114, 111, 119, 110]⟩ : ByteArray), 8355808⟩ : S56), (⟨(⟨#[100, 97, 114, 107, 98, 108, 117, 101]⟩ : ByteArray), 127⟩ : S56), (⟨(⟨#[112, 117, 114, 112, 108, 101]⟩ : ByteArray), 8323199⟩ : S56), (⟨(⟨#[116, 101, 97, 108]⟩ : ByteArray), 32639⟩ : S56), (⟨(⟨#[108, 105, 103, 104, 116, 103, 114, 97, 121]⟩ : ByteArray), 15066597⟩ : S56), (⟨(⟨#[100, 97, 114, 107, 103, 114, 97, 121]⟩ : ByteArray), 5592405⟩ : S56), (⟨(⟨#[114, 101, 100]⟩ : ByteArray), 16711680⟩ : S56), (⟨(⟨#[103, 114, 101, 101, 110]⟩ : ByteArray), 65280⟩ : S56), (⟨(⟨#[121, 101, 108, 108, 111, 119]⟩ : ByteArray), 16776960⟩ : S56), (⟨(⟨#[98, 108, 117, 101]⟩ : ByteArray), 255⟩ : S56), (⟨(⟨#[102, 117, 99, 104, 115, 105, 97]⟩ : ByteArray), 16711935⟩ : S56), (⟨(⟨#[116, 117, 114, 113, 117, 111, 105, 115, 101]⟩ : ByteArray), 65535⟩ : S56), (⟨(⟨#[119, 104, 105, 116, 101]⟩ : ByteArray), 16777215⟩ : S56)]
theorem shades_f : spec_shades.f = some shL := rfl
def nm1 (x : S56) : ByteArray := (⟨#[35]⟩ : ByteArray) ++ x.f0
def nm2 (x : S56) : ByteArray := (⟨#[35, 97, 110, 115, 105]⟩ : ByteArray) ++ x.f0
theorem sh_small : ∀ x ∈ shL, x.f0.size ≤ 20 ∧ 0 ≤ x.f1 ∧ x.f1 < 16777216 := by decide +kernel
theorem sh_pcol : ∀ x ∈ shL, pcol (nm1 x) = x.f1 + 1 ∧ pcol (nm2 x) = x.f1 + 1 := by decide +kernel
theorem ansi_sh : ∀ y ∈ ansiL, ∃ x ∈ shL, y.1 = nm1 x ∨ y.1 = nm2 x := by decide +kernel
def tail_ (k : Nat) (s : ByteArray) : Option (Int × Int) := if s.toList = ([] : List UInt8) then (spec_ColourParse.j1 k s false) else (if 0 < (s.size : Int) then (spec_ColourParse.j1 k s ((bt s 0) == 35)) else (none))
theorem l0_eq (s : ByteArray) (K : Nat) : ∀ m i : Nat, i + m = 16 →
    (∃ x ∈ shL, (s = nm1 x ∨ s = nm2 x) ∧ spec_ColourParse.l0 (m + 1 + K) s shL 16 (i : Int) = some (x.f1 + 1, 1)) ∨ ((∀ x ∈ shL.drop i, s ≠ nm1 x ∧ s ≠ nm2 x) ∧ spec_ColourParse.l0 (m + 1 + K) s shL 16 (i : Int) = tail_ K s)
  | 0, i, hi => by
    obtain rfl : i = 16 := by omega
    refine .inr ⟨(by intro x hx; have h16 : shL.drop 16 = [] := rfl; rw [h16] at hx; cases hx), ?_⟩
    rw [show 0 + 1 + K = K + 1 by omega, spec_ColourParse.l0, if_neg (by decide)]
    rfl
  | m + 1, i, hi => by
    have hlt : i < shL.length := by show i < 16; omega
    have hx : rd_T56 shL (i : Int) = shL[i] := by
      unfold rd_T56
      rw [Int.toNat_natCast, List.getD_eq_getElem?_getD, List.getElem?_eq_getElem hlt]; rfl
    have hmem : shL[i] ∈ shL := List.getElem_mem hlt
    obtain ⟨hs, h0, h1⟩ := sh_small _ hmem
    have ew : wrap32 (wrap64 (shL[i].f1 + 1)) = shL[i].f1 + 1 := by unfold wrap32 wrap64; omega
    rw [show m + 1 + 1 + K = (m + 1 + K) + 1 by omega, spec_ColourParse.l0, if_pos (by omega), if_pos (by omega), if_pos (by show (i : Int) < 16; omega), hx, if_pos (by omega), ew]
    by_cases e1 : s = nm1 shL[i]
    · exact .inl ⟨shL[i], hmem, .inl e1, by rw [if_pos (show s.toList = ((⟨#[35]⟩ : ByteArray) ++ shL[i].f0).toList from congrArg ByteArray.toList e1)]⟩
    · have e1' : ¬ s.toList = ((⟨#[35]⟩ : ByteArray) ++ shL[i].f0).toList := fun h => e1 (bytes_eq (by rw [← ByteArray.toList_eq, ← ByteArray.toList_eq]; exact h))
      rw [if_neg e1', if_pos (by omega)]
      by_cases e2 : s = nm2 shL[i]
      · exact .inl ⟨shL[i], hmem, .inr e2, by rw [if_pos (show s.toList = ((⟨#[35, 97, 110, 115, 105]⟩ : ByteArray) ++ shL[i].f0).toList from congrArg ByteArray.toList e2)]⟩
      · have e2' : ¬ s.toList = ((⟨#[35, 97, 110, 115, 105]⟩ : ByteArray) ++ shL[i].f0).toList := fun h => e2 (bytes_eq (by rw [← ByteArray.toList_eq, ← ByteArray.toList_eq]; exact h))
        rw [if_neg e2']
        have ei : wrap64 ((i : Int) + 1) = ((i + 1 : Nat) : Int) := by unfold wrap64; omega
        rw [ei]
        rcases l0_eq s K m (i + 1) (by omega) with h | ⟨h3, h4⟩
        · exact .inl h
        · refine .inr ⟨?_, h4⟩
          rw [List.drop_eq_getElem_cons hlt]
          intro x hx'
          rcases List.mem_cons.1 hx' with rfl | hx'
          · exact ⟨e1, e2⟩
          · exact h3 x hx'
theorem tail_ok (s : ByteArray) (hs : s.size ≤ 40) (hn : ml ansiL s = none) : ∃ r, tail_ 62 s = some r ∧ (r.2 = 2 ∨ r.1 = pcol s) := by
  have hp : pcol s = match puS (norm s) with | some m => wrap32 (m + 1) | none => 0 := rfl
  have hns := norm_size s
  obtain ⟨r, hr, hr2⟩ := j2_ok (norm s) (by omega) 1
  refine ⟨r, ?_, by rw [hp]; exact hr2⟩
  rw [← hr]
  unfold tail_
  have hnm : norm s = match s.data.toList with
    | [35, x, y, z] => ⟨#[x, x, y, y, z, z]⟩
    | 35 :: l => ⟨l.toArray⟩
    | _ => s := by unfold norm; rw [hn]; rfl
  cases hd : s.data.toList with
  | nil =>
    rw [if_pos (toList_eq hd)]
    show spec_ColourParse.j1 (61 + 1) s false = _
    rw [spec_ColourParse.j1, if_neg (by decide), hnm, hd]
  | cons c l =>
    have hsz : s.size = l.length + 1 := by rw [← data_length, hd]; rfl
    have hne : ¬ s.toList = [] := by rw [toList_eq hd]; simp
    have hb0 : bt s 0 = (c.toNat : Int) := by
      rw [← rd_bytesOf]
      show (bytesOf s).getD 0 0 = _
      rw [bytesOf, hd]; rfl
    rw [if_neg hne, if_pos (by omega), hb0]
    show spec_ColourParse.j1 (61 + 1) s _ = _
    rw [spec_ColourParse.j1]
    by_cases hc : c = 35
    · subst hc
      have hex : (s.extract 1 s.size).data.toList = l := by
        rw [ByteArray.data_extract, Array.toList_extract, hd, hsz]; simp
      have hesz : (s.extract 1 s.size).size = l.length := by rw [← data_length, hex]
      rw [if_pos (by decide), if_pos (by omega), hesz]
      by_cases h3 : l.length = 3
      · obtain ⟨x, y, z, rfl⟩ := len3 h3
        rw [if_pos (by simp), if_pos (by simp), if_pos (by simp), if_pos (by simp)]
        have hnx : norm s = ⟨#[x, x, y, y, z, z]⟩ := by rw [hnm, hd]; rfl
        rw [hnx]
        have hbx : ∀ i : Nat, bt (s.extract 1 s.size) (i : Int) = (bytesOf (s.extract 1 s.size)).getD i 0 := fun i => by rw [← rd_bytesOf]; rfl
        have hby : bytesOf (s.extract 1 s.size) = [(x.toNat : Int), (y.toNat : Int), (z.toNat : Int)] := by rw [bytesOf, hex]; rfl
        have b0 : bt (s.extract 1 s.size) 0 = (x.toNat : Int) := (hbx 0).trans (by rw [hby]; rfl)
        have b1 : bt (s.extract 1 s.size) 1 = (y.toNat : Int) := (hbx 1).trans (by rw [hby]; rfl)
        have b2 : bt (s.extract 1 s.size) 2 = (z.toNat : Int) := (hbx 2).trans (by rw [hby]; rfl)
        rw [b0, b1, b2]
        exact congrArg _ (strOfNums_map [x, x, y, y, z, z])
      · rw [if_neg (by omega)]
        have hnx : norm s = ⟨l.toArray⟩ := by rw [hnm]; exact norm35 hd h3
        rw [hnx]
        exact congrArg _ (bytes_eq (by rw [hex]))
    · have h35 : ((c.toNat : Int) == 35) = false := by
        rw [beq_eq_false_iff_ne]
        intro h
        exact hc (UInt8.toNat_inj.1 (by show c.toNat = 35; omega))
      rw [h35, if_neg (by decide)]
      have hnx : norm s = s := by
        rw [hnm, hd]
        split
        · rename_i heq; injection heq with h _; exact absurd h hc
        · rename_i heq; injection heq with h _; exact absurd h hc
        · rfl
      rw [hnx]
theorem spec_ok (s : ByteArray) (hs : s.size ≤ 40) : ∃ r, spec_ColourParse.f 79 s = some r ∧ (r.2 = 2 ∨ r.1 = pcol s) := by
  unfold spec_ColourParse.f
  rw [shades_f, Option.bind_some]
  rcases l0_eq s 62 16 0 rfl with ⟨x, hx, he, hl⟩ | ⟨hno, hl⟩
  · refine ⟨_, hl, .inr ?_⟩
    rcases he with rfl | rfl
    · exact (sh_pcol x hx).1.symm
    · exact (sh_pcol x hx).2.symm
  · have hn : ml ansiL s = none := ml_none fun y hy e => by
      obtain ⟨x, hx, h⟩ := ansi_sh y hy
      have := hno x hx
      rcases h with h | h
      · exact this.1 (e.trans h)
      · exact this.2 (e.trans h)
    obtain ⟨r, hr, hr2⟩ := tail_ok s hs hn
    exact ⟨r, hl.trans hr, hr2⟩
theorem FnColourParse : laws_FnColourParse.Pure := by
  intro s w0
  refine ⟨79, ?_⟩
  unfold laws_FnColourParse.f
  by_cases h1 : (s.size : Int) > 2147483647
  · rw [if_pos h1]
  · rw [if_neg h1]
    by_cases h2 : (s.size : Int) > 40
    · rw [if_pos h2]
    · rw [if_neg h2]
      obtain ⟨r, hr, hr2⟩ := spec_ok s (by omega)
      rw [hr, Option.bind_some]
      by_cases h3 : r.2 = 2
      · rw [if_pos h3]
      · rw [if_neg h3, parse_f s (by omega), Option.bind_some, if_pos (hr2.resolve_left h3).symm, coloured_f]
        rfl
end Go.Proofs.YthpfcofkhchkcaaDoor.Pure
