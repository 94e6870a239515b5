/- The reference's reading of a colour's text, of words, and of an entry's text, against what the package reads. -/
import Derived.Test.YtjemdgmihbmgeaaGreatDoorSx4
import Derived.Test.YtjemdgmihbmgeaaGreatDoorColMath
import Derived.Test.YtjemdgmihbmgeaaGreatDoorGet
set_option linter.unusedVariables false
set_option linter.unusedSimpArgs false
namespace Go.Proofs.YtjemdgmihbmgeaaGreatDoor.Pure
open Go.RowKit Go.Proofs.YtjemdgmihbmgeaaGreatDoorW.PrintWords Go.Proofs.YtjemdgmihbmgeaaGreatDoor.S Go.Proofs.YtjemdgmihbmgeaaGreatDoorFmt Go.Proofs.YtjemdgmihbmgeaaGreatDoorEnt Go.Proofs.YtjemdgmihbmgeaaGreatDoorFld
theorem toList_eq {s : ByteArray} {l : List UInt8} (h : s.data.toList = l) : s.toList = l := by
  rw [ByteArray.toList_eq]; exact h
/-! ### the digits -/
def hexOr (c : Int) : Int := match dig16 c with | some d => d | none => -1
theorem hex3 : ∀ c : Nat, c < 256 → spec_hex.f 3 (c : Int) = some (hexOr c) := by decide +kernel
theorem hex_f (c : Nat) (hc : c < 256) : ∀ k, spec_hex.f (k + 3) (c : Int) = some (hexOr c)
  | 0 => hex3 c hc
  | k + 1 => spec_hex.mono _ _ _ (hex_f c hc k)
theorem dig16_lt : ∀ c : Nat, c < 256 → ∀ d, dig16 (c : Int) = some d → 0 ≤ d ∧ d < 16 := by
  have h : ∀ c : Nat, c < 256 → (match dig16 (c : Int) with | some d => decide (0 ≤ d ∧ d < 16) | none => true) = true := by decide +kernel
  intro c hc d hd
  have := h c hc
  rw [hd] at this
  exact of_decide_eq_true this
def specL : List Int → Int → Bool → Int × Int
  | [], n, great => if great = true then (0, 2) else (wrap32 (wrap64 (n + 1)), 1)
  | c :: l, n, great => match dig16 c with
    | none => (0, 1)
    | some d => if great = true then specL l n true else specL l (n * 16 + d) (decide (n * 16 + d ≥ 16777216))
theorem l1_eq (x : ByteArray) (hx : x.size ≤ 1000) : ∀ (m i : Nat) (n : Int) (great : Bool) (K : Nat), i + m = x.size → 0 ≤ n → (great = false → n < 16777216) →
    spec_ColourParse.l1 (m + 1 + (K + 3)) x n great (i : Int) = some (specL ((bytesOf x).drop i) n great)
  | 0, i, n, great, K, hi, hn, hg => by
    have hd : (bytesOf x).drop i = [] := List.drop_eq_nil_of_le (by rw [bytesOf_length]; omega)
    rw [hd, show 0 + 1 + (K + 3) = (K + 3) + 1 by omega, spec_ColourParse.l1, if_neg (by omega), specL]
    cases great <;> rfl
  | m + 1, i, n, great, K, hi, hn, hg => by
    have hlt : i < x.size := by omega
    have hlen : i < (bytesOf x).length := by rw [bytesOf_length]; exact hlt
    have hlen' : i < x.data.toList.length := by rw [data_length]; exact hlt
    have he : (bytesOf x)[i] = ((x.data.toList[i]).toNat : Int) := by simp [bytesOf]
    have hb : bt x (i : Int) = ((x.data.toList[i]).toNat : Int) := by
      rw [← rd_bytesOf, ← he]
      show (bytesOf x).getD ((i : Int)).toNat 0 = _
      rw [Int.toNat_natCast, List.getD_eq_getElem?_getD, List.getElem?_eq_getElem hlen]; rfl
    have hc : (x.data.toList[i]).toNat < 256 := UInt8.toNat_lt _
    rw [List.drop_eq_getElem_cons hlen, he, show m + 1 + 1 + (K + 3) = (m + 1 + K + 3) + 1 by omega, spec_ColourParse.l1, if_pos (by omega), if_pos (by omega), hb, hex_f _ hc, Option.bind_some, specL]
    have ei : wrap64 ((i : Int) + 1) = ((i + 1 : Nat) : Int) := by unfold wrap64; omega
    rw [ei]
    cases hd : dig16 ((x.data.toList[i]).toNat : Int) with
    | none => rw [hexOr, hd]; rfl
    | some d =>
      obtain ⟨d0, d1⟩ := dig16_lt _ hc d hd
      rw [hexOr, hd]
      simp only
      rw [if_neg (by omega)]
      cases great with
      | true =>
        rw [if_pos rfl, if_pos rfl, show m + 1 + K + 3 = m + 1 + (K + 3) by omega]
        exact l1_eq x hx m (i + 1) n true K (by omega) hn (by intro h; cases h)
      | false =>
        have hn' := hg rfl
        rw [if_neg (by decide), if_neg (by decide), show m + 1 + K + 3 = m + 1 + (K + 3) by omega]
        have ew : wrap64 (wrap64 (n * 16) + d) = n * 16 + d := by unfold wrap64; omega
        rw [ew]
        exact l1_eq x hx m (i + 1) _ _ K (by omega) (by omega) (by intro h; have := of_decide_eq_false h; omega)
theorem specL_great : ∀ (l : List Int) (n : Int), (specL l n true).2 = 2 ∨ (specL l n true = (0, 1) ∧ ∀ m, pu16 l m = none)
  | [], n => .inl rfl
  | c :: l, n => by
    rw [specL]
    cases hd : dig16 c with
    | none => exact .inr ⟨rfl, fun m => pu16_bad hd⟩
    | some d =>
      simp only [if_true]
      rcases specL_great l n with h | ⟨h1, h2⟩
      · exact .inl h
      · refine .inr ⟨h1, fun m => ?_⟩
        by_cases hm : m * 16 + d ≤ 4294967295
        · rw [pu16_more hd hm]; exact h2 _
        · exact pu16_great hd hm
theorem specL_ok : ∀ (l : List Int) (n : Int), (∀ c ∈ l, ∀ d, dig16 c = some d → 0 ≤ d ∧ d < 16) → 0 ≤ n → n < 16777216 →
    (specL l n false).2 = 2 ∨ ((specL l n false).2 = 1 ∧ (specL l n false).1 = (match pu16 l n with | some m => wrap32 (m + 1) | none => 0))
  | [], n, _, h0, h1 => by
    refine .inr ⟨rfl, ?_⟩
    show wrap32 (wrap64 (n + 1)) = wrap32 (n + 1)
    unfold wrap32 wrap64; omega
  | c :: l, n, hl, h0, h1 => by
    rw [specL]
    cases hd : dig16 c with
    | none => refine .inr ⟨rfl, ?_⟩; rw [pu16_bad hd]
    | some d =>
      obtain ⟨d0, d1⟩ := hl c (by simp) d hd
      simp only
      rw [if_neg (by decide), pu16_more hd (by omega)]
      by_cases hg : n * 16 + d ≥ 16777216
      · rw [decide_eq_true hg]
        rcases specL_great l (n * 16 + d) with h | ⟨h2, h3⟩
        · exact .inl h
        · refine .inr ?_; rw [h2, h3]; exact ⟨rfl, rfl⟩
      · rw [decide_eq_false hg]
        exact specL_ok l _ (fun c hc => hl c (by simp [hc])) (by omega) (by omega)
theorem bytes_dig (x : ByteArray) : ∀ c ∈ bytesOf x, ∀ d, dig16 c = some d → 0 ≤ d ∧ d < 16 := by
  intro c hc d hd
  obtain ⟨b, _, rfl⟩ := List.mem_map.1 hc
  exact dig16_lt _ (UInt8.toNat_lt b) d hd
theorem j2_ok (x : ByteArray) (hx : x.size ≤ 300) (K : Nat) : ∃ r, spec_ColourParse.j2 (K + 320) x = some r ∧ (r.2 = 2 ∨ (r.2 = 1 ∧ r.1 = (match puS x with | some m => wrap32 (m + 1) | none => 0))) := by
  by_cases he : x.data.toList = []
  · refine ⟨(0, 1), ?_, .inr ⟨rfl, ?_⟩⟩
    · rw [show K + 320 = (K + 319) + 1 by omega, spec_ColourParse.j2, if_pos (toList_eq he)]
    · have : x.toList.isEmpty = true := by rw [toList_eq he]; rfl
      rw [puS, this]; rfl
  · have hne : ¬ x.toList = [] := fun h => he (by rw [← ByteArray.toList_eq]; exact h)
    refine ⟨specL (bytesOf x) 0 false, ?_, ?_⟩
    · rw [show K + 320 = (K + 319) + 1 by omega, spec_ColourParse.j2, if_neg hne]
      have := l1_eq x (by omega) x.size 0 0 false (K + 319 - (x.size + 1) - 3) (by omega) (by omega) (by intro _; omega)
      rw [show x.size + 1 + (K + 319 - (x.size + 1) - 3 + 3) = K + 319 by omega] at this
      exact this
    · have h2 : puS x = pu16 (bytesOf x) 0 := by
        rw [puS]
        have : x.toList.isEmpty = false := by cases hh : x.toList with | nil => exact absurd hh hne | cons _ _ => rfl
        rw [this]; rfl
      rw [h2]
      exact specL_ok _ 0 (bytes_dig x) (by omega) (by omega)
/-! ### the names -/
def shL : List S166 := [(⟨(⟨#[98, 108, 97, 99, 107]⟩ : ByteArray), 0⟩ : S166), (⟨(⟨#[100, 97, 114, 107, 114, 101, 100]⟩ : ByteArray), 8323072⟩ : S166), (⟨(⟨#[100, 97, 114, 107, 103, 114, 101, 101, 110]⟩ : ByteArray), 32512⟩ : S166), (⟨(⟨#[98, 114, 111, 119, 110]⟩ : ByteArray), 8355808⟩ : S166), (⟨(⟨#[100, 97, 114, 107, 98, 108, 117, 101]⟩ : ByteArray), 127⟩ : S166), (⟨(⟨#[112, 117, 114, 112, 108, 101]⟩ : ByteArray), 8323199⟩ : S166), (⟨(⟨#[116, 101, 97, 108]⟩ : ByteArray), 32639⟩ : S166), (⟨(⟨#[108, 105, 103, 104, 116, 103, 114, 97, 121]⟩ : ByteArray), 15066597⟩ : S166), (⟨(⟨#[100, 97, 114, 107, 103, 114, 97, 121]⟩ : ByteArray), 5592405⟩ : S166), (⟨(⟨#[114, 101, 100]⟩ : ByteArray), 16711680⟩ : S166), (⟨(⟨#[103, 114, 101, 101, 110]⟩ : ByteArray), 65280⟩ : S166), (⟨(⟨#[121, 101, 108, 108, 111, 119]⟩ : ByteArray), 16776960⟩ : S166), (⟨(⟨#[98, 108, 117, 101]⟩ : ByteArray), 255⟩ : S166), (⟨(⟨#[102, 117, 99, 104, 115, 105, 97]⟩ : ByteArray), 16711935⟩ : S166), (⟨(⟨#[116, 117, 114, 113, 117, 111, 105, 115, 101]⟩ : ByteArray), 65535⟩ : S166), (⟨(⟨#[119, 104, 105, 116, 101]⟩ : ByteArray), 16777215⟩ : S166)]
theorem shades_f : spec_shades.f = some shL := rfl
def nm1 (x : S166) : ByteArray := (⟨#[35]⟩ : ByteArray) ++ x.f0
def nm2 (x : S166) : ByteArray := (⟨#[35, 97, 110, 115, 105]⟩ : ByteArray) ++ x.f0
theorem sh_small : ∀ x ∈ shL, x.f0.size ≤ 20 ∧ 0 ≤ x.f1 ∧ x.f1 < 16777216 := by decide +kernel
theorem sh_pcol : ∀ x ∈ shL, pcol (nm1 x) = x.f1 + 1 ∧ pcol (nm2 x) = x.f1 + 1 := by decide +kernel
theorem ansi_sh : ∀ y ∈ ansiL, ∃ x ∈ shL, y.1 = nm1 x ∨ y.1 = nm2 x := by decide +kernel
def tail_ (k : Nat) (s : ByteArray) : Option (Int × Int) := if s.toList = ([] : List UInt8) then (spec_ColourParse.j1 k s false) else (if 0 < (s.size : Int) then (spec_ColourParse.j1 k s ((bt s 0) == 35)) else (none))
theorem l0_eq (s : ByteArray) (K : Nat) : ∀ m i : Nat, i + m = 16 →
    (∃ x ∈ shL, (s = nm1 x ∨ s = nm2 x) ∧ spec_ColourParse.l0 (m + 1 + K) s shL 16 (i : Int) = some (x.f1 + 1, 1)) ∨ ((∀ x ∈ shL.drop i, s ≠ nm1 x ∧ s ≠ nm2 x) ∧ spec_ColourParse.l0 (m + 1 + K) s shL 16 (i : Int) = tail_ K s)
  | 0, i, hi => by
    obtain rfl : i = 16 := by omega
    refine .inr ⟨(by intro x hx; have h16 : shL.drop 16 = [] := rfl; rw [h16] at hx; cases hx), ?_⟩
    rw [show 0 + 1 + K = K + 1 by omega, spec_ColourParse.l0, if_neg (by decide)]
    rfl
  | m + 1, i, hi => by
    have hlt : i < shL.length := by show i < 16; omega
    have hx : rd_T166 shL (i : Int) = shL[i] := by
      unfold rd_T166
      rw [Int.toNat_natCast, List.getD_eq_getElem?_getD, List.getElem?_eq_getElem hlt]; rfl
    have hmem : shL[i] ∈ shL := List.getElem_mem hlt
    obtain ⟨hs, h0, h1⟩ := sh_small _ hmem
    have ew : wrap32 (wrap64 (shL[i].f1 + 1)) = shL[i].f1 + 1 := by unfold wrap32 wrap64; omega
    rw [show m + 1 + 1 + K = (m + 1 + K) + 1 by omega, spec_ColourParse.l0, if_pos (by omega), if_pos (by omega), if_pos (by show (i : Int) < 16; omega), hx, if_pos (by omega), ew]
    by_cases e1 : s = nm1 shL[i]
    · exact .inl ⟨shL[i], hmem, .inl e1, by rw [if_pos (show s.toList = ((⟨#[35]⟩ : ByteArray) ++ shL[i].f0).toList from congrArg ByteArray.toList e1)]⟩
    · have e1' : ¬ s.toList = ((⟨#[35]⟩ : ByteArray) ++ shL[i].f0).toList := fun h => e1 (bytes_eq (by rw [← ByteArray.toList_eq, ← ByteArray.toList_eq]; exact h))
      rw [if_neg e1', if_pos (by omega)]
      by_cases e2 : s = nm2 shL[i]
      · exact .inl ⟨shL[i], hmem, .inr e2, by rw [if_pos (show s.toList = ((⟨#[35, 97, 110, 115, 105]⟩ : ByteArray) ++ shL[i].f0).toList from congrArg ByteArray.toList e2)]⟩
      · have e2' : ¬ s.toList = ((⟨#[35, 97, 110, 115, 105]⟩ : ByteArray) ++ shL[i].f0).toList := fun h => e2 (bytes_eq (by rw [← ByteArray.toList_eq, ← ByteArray.toList_eq]; exact h))
        rw [if_neg e2']
        have ei : wrap64 ((i : Int) + 1) = ((i + 1 : Nat) : Int) := by unfold wrap64; omega
        rw [ei]
        rcases l0_eq s K m (i + 1) (by omega) with h | ⟨h3, h4⟩
        · exact .inl h
        · refine .inr ⟨?_, h4⟩
          rw [List.drop_eq_getElem_cons hlt]
          intro x hx'
          rcases List.mem_cons.1 hx' with rfl | hx'
          · exact ⟨e1, e2⟩
          · exact h3 x hx'
theorem tail_ok (s : ByteArray) (hs : s.size ≤ 290) (hn : ml ansiL s = none) : ∃ r, tail_ 322 s = some r ∧ (r.2 = 2 ∨ (r.2 = 1 ∧ r.1 = pcol s)) := by
  have hp : pcol s = match puS (norm s) with | some m => wrap32 (m + 1) | none => 0 := rfl
  have hns := norm_size s
  obtain ⟨r, hr, hr2⟩ := j2_ok (norm s) (by omega) 1
  refine ⟨r, ?_, by rw [hp]; exact hr2⟩
  rw [← hr]
  unfold tail_
  have hnm : norm s = match s.data.toList with
    | [35, x, y, z] => ⟨#[x, x, y, y, z, z]⟩
    | 35 :: l => ⟨l.toArray⟩
    | _ => s := by unfold norm; rw [hn]; rfl
  cases hd : s.data.toList with
  | nil =>
    rw [if_pos (toList_eq hd)]
    show spec_ColourParse.j1 (321 + 1) s false = _
    rw [spec_ColourParse.j1, if_neg (by decide), hnm, hd]
  | cons c l =>
    have hsz : s.size = l.length + 1 := by rw [← data_length, hd]; rfl
    have hne : ¬ s.toList = [] := by rw [toList_eq hd]; simp
    have hb0 : bt s 0 = (c.toNat : Int) := by
      rw [← rd_bytesOf]
      show (bytesOf s).getD 0 0 = _
      rw [bytesOf, hd]; rfl
    rw [if_neg hne, if_pos (by omega), hb0]
    show spec_ColourParse.j1 (321 + 1) s _ = _
    rw [spec_ColourParse.j1]
    by_cases hc : c = 35
    · subst hc
      have hex : (s.extract 1 s.size).data.toList = l := by
        rw [ByteArray.data_extract, Array.toList_extract, hd, hsz]; simp
      have hesz : (s.extract 1 s.size).size = l.length := by rw [← data_length, hex]
      rw [if_pos (by decide), if_pos (by omega), hesz]
      by_cases h3 : l.length = 3
      · obtain ⟨x, y, z, rfl⟩ := len3 h3
        rw [if_pos (by simp), if_pos (by simp), if_pos (by simp), if_pos (by simp)]
        have hnx : norm s = ⟨#[x, x, y, y, z, z]⟩ := by rw [hnm, hd]; rfl
        rw [hnx]
        have hbx : ∀ i : Nat, bt (s.extract 1 s.size) (i : Int) = (bytesOf (s.extract 1 s.size)).getD i 0 := fun i => by rw [← rd_bytesOf]; rfl
        have hby : bytesOf (s.extract 1 s.size) = [(x.toNat : Int), (y.toNat : Int), (z.toNat : Int)] := by rw [bytesOf, hex]; rfl
        have b0 : bt (s.extract 1 s.size) 0 = (x.toNat : Int) := (hbx 0).trans (by rw [hby]; rfl)
        have b1 : bt (s.extract 1 s.size) 1 = (y.toNat : Int) := (hbx 1).trans (by rw [hby]; rfl)
        have b2 : bt (s.extract 1 s.size) 2 = (z.toNat : Int) := (hbx 2).trans (by rw [hby]; rfl)
        rw [b0, b1, b2]
        exact congrArg _ (strOfNums_map [x, x, y, y, z, z])
      · rw [if_neg (by omega)]
        have hnx : norm s = ⟨l.toArray⟩ := by rw [hnm]; exact norm35 hd h3
        rw [hnx]
        exact congrArg _ (bytes_eq (by rw [hex]))
    · have h35 : ((c.toNat : Int) == 35) = false := by
        rw [beq_eq_false_iff_ne]
        intro h
        exact hc (UInt8.toNat_inj.1 (by show c.toNat = 35; omega))
      rw [h35, if_neg (by decide)]
      have hnx : norm s = s := by
        rw [hnm, hd]
        split
        · rename_i heq; injection heq with h _; exact absurd h hc
        · rename_i heq; injection heq with h _; exact absurd h hc
        · rfl
      rw [hnx]
theorem spec_ok (s : ByteArray) (hs : s.size ≤ 290) : ∃ r, spec_ColourParse.f 339 s = some r ∧ (r.2 = 2 ∨ (r.2 = 1 ∧ r.1 = pcol s)) := by
  unfold spec_ColourParse.f
  rw [shades_f, Option.bind_some]
  rcases l0_eq s 322 16 0 rfl with ⟨x, hx, he, hl⟩ | ⟨hno, hl⟩
  · refine ⟨_, hl, .inr ⟨rfl, ?_⟩⟩
    rcases he with rfl | rfl
    · exact (sh_pcol x hx).1.symm
    · exact (sh_pcol x hx).2.symm
  · have hn : ml ansiL s = none := ml_none fun y hy e => by
      obtain ⟨x, hx, h⟩ := ansi_sh y hy
      have := hno x hx
      rcases h with h | h
      · exact this.1 (e.trans h)
      · exact this.2 (e.trans h)
    obtain ⟨r, hr, hr2⟩ := tail_ok s hs hn
    exact ⟨r, hl.trans hr, hr2⟩
theorem bt_nat (s : ByteArray) (i : Nat) : bt s (i : Int) = ((byt s i).toNat : Int) := by
  unfold bt byt
  rw [Int.toNat_natCast]
  split <;> rfl
theorem sp_nat (c : UInt8) : Lib.isSp c = decide (c.toNat = 32 ∨ 9 ≤ c.toNat ∧ c.toNat ≤ 13) := by
  unfold Lib.isSp
  rw [Bool.eq_iff_iff]
  simp only [Bool.or_eq_true, beq_iff_eq, decide_eq_true_eq, ← UInt8.toNat_inj]
  have e : (9 : UInt8).toNat = 9 ∧ (10 : UInt8).toNat = 10 ∧ (11 : UInt8).toNat = 11 ∧ (12 : UInt8).toNat = 12 ∧ (13 : UInt8).toNat = 13 ∧ (32 : UInt8).toNat = 32 := by decide
  obtain ⟨e1, e2, e3, e4, e5, e6⟩ := e
  rw [e1, e2, e3, e4, e5, e6]
  omega
def wordOf (s : ByteArray) (i : Nat) : Option Nat → ByteArray
  | none => ⟨#[]⟩
  | some b => s.extract b i
theorem ext_list (s : ByteArray) (b i : Nat) : (s.extract b i).data.toList = (s.data.toList.drop b).take (i - b) := by
  rw [ByteArray.data_extract, Array.toList_extract, List.extract_eq_take_drop]
theorem byt_list (s : ByteArray) (i : Nat) (h : i < s.size) : s.data.toList[i]'(by rw [data_length]; exact h) = byt s i := by
  unfold byt
  rw [dif_pos h]
  rfl
theorem word_step (s : ByteArray) (i : Nat) (st : Option Nat) (hi : i < s.size) (hst : ∀ b, st = some b → b < i) :
    wordOf s i st ++ strOfNums [((byt s i).toNat : Int)] = s.extract (st.getD i) (i + 1) := by
  have h1 : strOfNums [((byt s i).toNat : Int)] = ⟨[byt s i].toArray⟩ := strOfNums_map [byt s i]
  rw [h1]
  apply bytes_eq
  have hl : i < s.data.toList.length := by rw [data_length]; exact hi
  have key : ∀ b, b ≤ i → (s.data.toList.drop b).take (i + 1 - b) = (s.data.toList.drop b).take (i - b) ++ [byt s i] := by
    intro b hb
    rw [show i + 1 - b = (i - b) + 1 by omega, List.take_succ_eq_append_getElem (by rw [List.length_drop]; omega), List.getElem_drop]
    congr 2
    rw [← byt_list s i hi]
    congr 1
    omega
  cases st with
  | none =>
    rw [ext_list, Option.getD_none, key i (Nat.le_refl _)]
    simp [wordOf]
  | some b =>
    have hb := hst b rfl
    rw [ext_list, Option.getD_some, key b (by omega)]
    show (s.extract b i ++ _).data.toList = _
    rw [ByteArray.data_append, Array.toList_append, ext_list]
theorem words_l (s : ByteArray) (hs : s.size ≤ 300) : ∀ (m i g : Nat) (st : Option Nat) (out : List ByteArray) (K : Nat), i + m = s.size → m < g → (∀ b, st = some b → b < i) → out.length ≤ i →
    ∃ r, spec_words.l0 (2 * m + 1 + K) s out (wordOf s i st) (i : Int) = some r ∧ (r.2 = 2 ∨ r = (out ++ fsq s g i st, 1))
  | 0, i, g, st, out, K, hi, hg, hst, ho => by
    obtain ⟨g, rfl⟩ : ∃ q, g = q + 1 := ⟨g - 1, by omega⟩
    have hlt : ¬ i < s.size := by omega
    rw [show 2 * 0 + 1 + K = K + 1 by omega, spec_words.l0, if_neg (by omega)]
    cases st with
    | none =>
      refine ⟨_, by rw [if_pos (show (wordOf s i none).toList = [] from toList_eq rfl)], .inr ?_⟩
      rw [fsq, if_neg hlt]; simp
    | some b =>
      have hb := hst b rfl
      have hne : ¬ (wordOf s i (some b)).toList = [] := by
        intro h
        rw [ByteArray.toList_eq] at h
        have h2 := congrArg List.length h
        rw [data_length] at h2
        have h3 : (s.extract b i).size = 0 := h2
        rw [ByteArray.size_extract] at h3
        omega
      refine ⟨_, by rw [if_neg hne, if_pos (by omega)], .inr ?_⟩
      rw [fsq, if_neg hlt]
      have : s.size = i := by omega
      rw [this]; rfl
  | m + 1, i, g, st, out, K, hi, hg, hst, ho => by
    obtain ⟨g, rfl⟩ : ∃ q, g = q + 1 := ⟨g - 1, by omega⟩
    have hlt : i < s.size := by omega
    have hb := bt_nat s i
    have ei : wrap64 ((i : Int) + 1) = ((i + 1 : Nat) : Int) := by unfold wrap64; omega
    rw [show 2 * (m + 1) + 1 + K = (2 * m + 1 + K) + 1 + 1 by omega, spec_words.l0, if_pos (by omega), if_pos (by omega), hb]
    by_cases h128 : 128 ≤ (byt s i).toNat
    · exact ⟨_, by rw [if_pos (by omega)], .inl rfl⟩
    · have hw : wid s i = 1 := by unfold wid; rw [if_pos (by omega)]
      have hbl : Go.Proofs.YtjemdgmihbmgeaaGreatDoorFld.blank s i = Lib.isSp (byt s i) := by unfold Go.Proofs.YtjemdgmihbmgeaaGreatDoorFld.blank; rw [if_pos (by omega)]
      have hsp := sp_nat (byt s i)
      rw [if_neg (by omega)]
      cases hq : Lib.isSp (byt s i) with
      | true =>
        rw [hq] at hsp
        have hc := of_decide_eq_true hsp.symm
        have hgo : (if ((byt s i).toNat : Int) = 32 then spec_words.j1 (2 * m + 1 + K + 1) s out (wordOf s i st) (i : Int) ((byt s i).toNat : Int) true else if ((byt s i).toNat : Int) ≥ 9 then spec_words.j1 (2 * m + 1 + K + 1) s out (wordOf s i st) (i : Int) ((byt s i).toNat : Int) (decide (((byt s i).toNat : Int) ≤ 13)) else spec_words.j1 (2 * m + 1 + K + 1) s out (wordOf s i st) (i : Int) ((byt s i).toNat : Int) false) = spec_words.j1 (2 * m + 1 + K + 1) s out (wordOf s i st) (i : Int) ((byt s i).toNat : Int) true := by
          by_cases h32 : (byt s i).toNat = 32
          · rw [if_pos (by omega)]
          · rw [if_neg (by omega), if_pos (by omega), decide_eq_true (by omega)]
        rw [hgo, spec_words.j1, if_pos rfl, ei]
        cases st with
        | none =>
          rw [if_pos (show (wordOf s i none).toList = [] from toList_eq rfl)]
          obtain ⟨r, hr, hr2⟩ := words_l s hs m (i + 1) g none out K (by omega) (by omega) (fun b h => by cases h) (by omega)
          refine ⟨r, hr, hr2.imp id fun h => ?_⟩
          rw [h, fsq, if_pos hlt, hbl, hq, if_pos rfl, hw]; simp
        | some b =>
          have hbi := hst b rfl
          have hne : ¬ (wordOf s i (some b)).toList = [] := by
            intro h
            rw [ByteArray.toList_eq] at h
            have h2 := congrArg List.length h
            rw [data_length] at h2
            have h3 : (s.extract b i).size = 0 := h2
            rw [ByteArray.size_extract] at h3
            omega
          rw [if_neg hne, if_pos (by omega)]
          obtain ⟨r, hr, hr2⟩ := words_l s hs m (i + 1) g none (out ++ [wordOf s i (some b)]) K (by omega) (by omega) (fun b h => by cases h) (by simp; omega)
          refine ⟨r, hr, hr2.imp id fun h => ?_⟩
          rw [h, fsq, if_pos hlt, hbl, hq, if_pos rfl, hw]; simp [wordOf]
      | false =>
        rw [hq] at hsp
        have hc := of_decide_eq_false hsp.symm
        have hgo : (if ((byt s i).toNat : Int) = 32 then spec_words.j1 (2 * m + 1 + K + 1) s out (wordOf s i st) (i : Int) ((byt s i).toNat : Int) true else if ((byt s i).toNat : Int) ≥ 9 then spec_words.j1 (2 * m + 1 + K + 1) s out (wordOf s i st) (i : Int) ((byt s i).toNat : Int) (decide (((byt s i).toNat : Int) ≤ 13)) else spec_words.j1 (2 * m + 1 + K + 1) s out (wordOf s i st) (i : Int) ((byt s i).toNat : Int) false) = spec_words.j1 (2 * m + 1 + K + 1) s out (wordOf s i st) (i : Int) ((byt s i).toNat : Int) false := by
          rw [if_neg (by omega)]
          by_cases h9 : 9 ≤ (byt s i).toNat
          · rw [if_pos (by omega), decide_eq_false (by omega)]
          · rw [if_neg (by omega)]
        have hsz : (wordOf s i st).size + (strOfNums [((byt s i).toNat : Int)]).size ≤ 9223372036854775807 := by
          have := congrArg ByteArray.size (word_step s i st hlt hst)
          rw [ByteArray.size_append, ByteArray.size_extract] at this
          omega
        rw [hgo, spec_words.j1, if_neg (by decide), Option.bind_some, if_pos hsz, ei, word_step s i st hlt hst]
        obtain ⟨r, hr, hr2⟩ := words_l s hs m (i + 1) g (some (st.getD i)) out K (by omega) (by omega) (fun b h => by
          injection h with h
          cases st with
          | none => simp at h; omega
          | some c => have := hst c rfl; simp at h; omega) (by omega)
        refine ⟨r, hr, hr2.imp id fun h => ?_⟩
        rw [h, fsq, if_pos hlt, hbl, hq, if_neg (by decide), hw]
theorem words_f (s : ByteArray) (hs : s.size ≤ 300) (K : Nat) : ∃ r, spec_words.f (2 * s.size + 1 + K) s = some r ∧ (r.2 = 2 ∨ r = (fields s, 1)) := by
  obtain ⟨r, h1, h2⟩ := words_l s hs s.size 0 (s.size + 1) none [] K (by omega) (by omega) (fun b h => by cases h) (by simp)
  exact ⟨r, h1, by simpa [fields] using h2⟩
theorem begins_f (w : ByteArray) (l : List UInt8) (hw : w.size ≤ 1000) (hl : l.length ≤ 20) : spec_begins.f w ⟨l.toArray⟩ = some (Lib.hasPrefix w.data.toList l) := by
  have hsz : (⟨l.toArray⟩ : ByteArray).size = l.length := rfl
  unfold spec_begins.f
  rw [hsz]
  by_cases h : l.length ≤ w.size
  · rw [if_pos (by omega), if_pos (by omega), if_pos (by omega), Int.toNat_natCast]
    congr 1
    rw [ByteArray.toList_eq, ByteArray.toList_eq, ext_list, Nat.sub_zero, List.drop_zero]
    show (w.data.toList.take l.length == l) = l.isPrefixOf w.data.toList
    rw [Bool.eq_iff_iff, beq_iff_eq, List.isPrefixOf_iff_prefix, List.prefix_iff_eq_take]
    exact eq_comm
  · rw [if_neg (by omega)]
    congr 1
    symm
    rw [Bool.eq_false_iff]
    intro hp
    have := hp_len hp
    rw [data_length] at this
    omega
theorem cp_at {w : ByteArray} {r : Int × Int} (h : spec_ColourParse.f 339 w = some r) : ∀ d, spec_ColourParse.f (339 + d) w = some r
  | 0 => h
  | d + 1 => spec_ColourParse.mono _ _ _ (cp_at h d)
/-- What the reference's reading of an entry's text must come to. -/
def Reads (o : Option Ent) (r : Int × Int × Int × Int × Int × Int × Bool × Bool × Int) : Prop := match o with
  | some f => r = (f.c, f.b, f.o, f.bo, f.it, f.un, f.ni, true, 1)
  | none => r.2.2.2.2.2.2.2.1 = false ∧ r.2.2.2.2.2.2.2.2 = 1
set_option maxRecDepth 100000 in
set_option maxHeartbeats 4000000 in
theorem parse_l (l : List ByteArray) (hl : ∀ w ∈ l, w.size ≤ 290) (hn : l.length ≤ 1000) : ∀ (m i : Nat) (e : Ent) (K : Nat), i + m = l.length →
    ∃ r, spec_EntryParse.l0 (2 * m + 1 + (K + 340)) l (l.length : Int) (i : Int) e.c e.b e.o e.bo e.it e.un e.ni = some r ∧ (r.2.2.2.2.2.2.2.2 = 2 ∨ Reads (psL (l.drop i) e) r)
  | 0, i, e, K, hi => by
    have hd : l.drop i = [] := List.drop_eq_nil_of_le (by omega)
    rw [show 2 * 0 + 1 + (K + 340) = (K + 340) + 1 by omega, spec_EntryParse.l0, if_neg (by omega), hd]
    exact ⟨_, rfl, .inr rfl⟩
  | m + 1, i, e, K, hi => by
    have hlt : i < l.length := by omega
    have hw := hl _ (List.getElem_mem hlt)
    have hrd : rdOf ByteArray.empty l (i : Int) = l[i] := by
      unfold rdOf
      rw [Int.toNat_natCast, List.getD_eq_getElem?_getD, List.getElem?_eq_getElem hlt]; rfl
    have ei : wrap64 ((i : Int) + 1) = ((i + 1 : Nat) : Int) := by unfold wrap64; omega
    have ih := fun e' => parse_l l hl hn m (i + 1) e' K (by omega)
    have hk : 2 * (m + 1) + 1 + (K + 340) = (2 * m + 1 + (K + 340)) + 1 + 1 := by omega
    have hcp := fun (x : ByteArray) (r : Int × Int) (h : spec_ColourParse.f 339 x = some r) => (show 339 + (2 * m + 1 + (K + 1)) = 2 * m + 1 + (K + 340) by omega) ▸ cp_at h (2 * m + 1 + (K + 1))
    rw [List.drop_eq_getElem_cons hlt, hk, spec_EntryParse.l0, if_pos (by omega), if_pos (by omega), if_pos (by omega), hrd]
    generalize l[i] = w at *
    generalize hkk : 2 * m + 1 + (K + 340) = k at *
    simp only [psL]
    by_cases q0 : w = ⟨#[98, 111, 108, 100]⟩
    · rw [if_pos (by rw [q0, ByteArray.toList_eq])]
      have hs : stepE e w = some { e with bo := 1 } := by rw [q0]; simp [stepE]
      rw [spec_EntryParse.j1, if_pos (by decide), ei, hs]
      exact ih { e with bo := 1 }
    by_cases q1 : w = ⟨#[110, 111, 98, 111, 108, 100]⟩
    · rw [if_neg (by rw [q1, ByteArray.toList_eq]; decide), if_pos (by rw [q1, ByteArray.toList_eq])]
      have hs : stepE e w = some { e with bo := 2 } := by rw [q1]; simp [stepE]
      rw [spec_EntryParse.j1, if_pos (by decide), ei, hs]
      exact ih { e with bo := 2 }
    by_cases q2 : w = ⟨#[105, 116, 97, 108, 105, 99]⟩
    · rw [if_neg (by rw [q2, ByteArray.toList_eq]; decide), if_neg (by rw [q2, ByteArray.toList_eq]; decide), if_pos (by rw [q2, ByteArray.toList_eq])]
      have hs : stepE e w = some { e with it := 1 } := by rw [q2]; simp [stepE]
      rw [spec_EntryParse.j1, if_pos (by decide), ei, hs]
      exact ih { e with it := 1 }
    by_cases q3 : w = ⟨#[110, 111, 105, 116, 97, 108, 105, 99]⟩
    · rw [if_neg (by rw [q3, ByteArray.toList_eq]; decide), if_neg (by rw [q3, ByteArray.toList_eq]; decide), if_neg (by rw [q3, ByteArray.toList_eq]; decide), if_pos (by rw [q3, ByteArray.toList_eq])]
      have hs : stepE e w = some { e with it := 2 } := by rw [q3]; simp [stepE]
      rw [spec_EntryParse.j1, if_pos (by decide), ei, hs]
      exact ih { e with it := 2 }
    by_cases q4 : w = ⟨#[117, 110, 100, 101, 114, 108, 105, 110, 101]⟩
    · rw [if_neg (by rw [q4, ByteArray.toList_eq]; decide), if_neg (by rw [q4, ByteArray.toList_eq]; decide), if_neg (by rw [q4, ByteArray.toList_eq]; decide), if_neg (by rw [q4, ByteArray.toList_eq]; decide), if_pos (by rw [q4, ByteArray.toList_eq])]
      have hs : stepE e w = some { e with un := 1 } := by rw [q4]; simp [stepE]
      rw [spec_EntryParse.j1, if_pos (by decide), ei, hs]
      exact ih { e with un := 1 }
    by_cases q5 : w = ⟨#[110, 111, 117, 110, 100, 101, 114, 108, 105, 110, 101]⟩
    · rw [if_neg (by rw [q5, ByteArray.toList_eq]; decide), if_neg (by rw [q5, ByteArray.toList_eq]; decide), if_neg (by rw [q5, ByteArray.toList_eq]; decide), if_neg (by rw [q5, ByteArray.toList_eq]; decide), if_neg (by rw [q5, ByteArray.toList_eq]; decide), if_pos (by rw [q5, ByteArray.toList_eq])]
      have hs : stepE e w = some { e with un := 2 } := by rw [q5]; simp [stepE]
      rw [spec_EntryParse.j1, if_pos (by decide), ei, hs]
      exact ih { e with un := 2 }
    by_cases q6 : w = ⟨#[105, 110, 104, 101, 114, 105, 116]⟩
    · rw [if_neg (by rw [q6, ByteArray.toList_eq]; decide), if_neg (by rw [q6, ByteArray.toList_eq]; decide), if_neg (by rw [q6, ByteArray.toList_eq]; decide), if_neg (by rw [q6, ByteArray.toList_eq]; decide), if_neg (by rw [q6, ByteArray.toList_eq]; decide), if_neg (by rw [q6, ByteArray.toList_eq]; decide), if_pos (by rw [q6, ByteArray.toList_eq])]
      have hs : stepE e w = some { e with ni := false } := by rw [q6]; simp [stepE]
      rw [spec_EntryParse.j1, if_pos (by decide), ei, hs]
      exact ih { e with ni := false }
    by_cases q7 : w = ⟨#[110, 111, 105, 110, 104, 101, 114, 105, 116]⟩
    · rw [if_neg (by rw [q7, ByteArray.toList_eq]; decide), if_neg (by rw [q7, ByteArray.toList_eq]; decide), if_neg (by rw [q7, ByteArray.toList_eq]; decide), if_neg (by rw [q7, ByteArray.toList_eq]; decide), if_neg (by rw [q7, ByteArray.toList_eq]; decide), if_neg (by rw [q7, ByteArray.toList_eq]; decide), if_neg (by rw [q7, ByteArray.toList_eq]; decide), if_pos (by rw [q7, ByteArray.toList_eq])]
      have hs : stepE e w = some { e with ni := true } := by rw [q7]; simp [stepE]
      rw [spec_EntryParse.j1, if_pos (by decide), ei, hs]
      exact ih { e with ni := true }
    by_cases q8 : w = ⟨#[98, 103, 58]⟩
    · rw [if_neg (by rw [q8, ByteArray.toList_eq]; decide), if_neg (by rw [q8, ByteArray.toList_eq]; decide), if_neg (by rw [q8, ByteArray.toList_eq]; decide), if_neg (by rw [q8, ByteArray.toList_eq]; decide), if_neg (by rw [q8, ByteArray.toList_eq]; decide), if_neg (by rw [q8, ByteArray.toList_eq]; decide), if_neg (by rw [q8, ByteArray.toList_eq]; decide), if_neg (by rw [q8, ByteArray.toList_eq]; decide), if_pos (by rw [q8, ByteArray.toList_eq])]
      have hs : stepE e w = some { e with b := 0 } := by rw [q8]; simp [stepE]
      rw [spec_EntryParse.j1, if_pos (by decide), ei, hs]
      exact ih { e with b := 0 }
    have tl : ∀ u : List UInt8, ¬ w = ⟨u.toArray⟩ → ¬ w.toList = u := fun u h h2 => h (bytes_eq (by rw [← ByteArray.toList_eq, h2]))
    rw [if_neg (tl _ q0), if_neg (tl _ q1), if_neg (tl _ q2), if_neg (tl _ q3), if_neg (tl _ q4), if_neg (tl _ q5), if_neg (tl _ q6), if_neg (tl _ q7), if_neg (tl _ q8)]
    rw [show (⟨#[98, 103, 58, 35]⟩ : ByteArray) = ⟨([98, 103, 58, 35] : List UInt8).toArray⟩ from rfl, begins_f w [98, 103, 58, 35] (by omega) (by decide), Option.bind_some]
    by_cases p0 : Lib.hasPrefix w.data.toList [98, 103, 58, 35] = true
    · have hlen := hp_len p0
      have hsz : 4 ≤ w.size := by rw [← data_length]; simpa using hlen
      obtain ⟨r, hr, hr2⟩ := spec_ok (w.extract 3 w.size) (by rw [ByteArray.size_extract]; omega)
      have hr3 := hcp _ r hr
      have hs : stepE e w = (if pcol (w.extract 3 w.size) = 0 then none else some { e with b := pcol (w.extract 3 w.size) }) := by rw [stepE, if_neg q2, if_neg q3, if_neg q0, if_neg q1, if_neg q4, if_neg q5, if_neg q6, if_neg q7, if_neg q8, if_pos p0]
      rw [if_pos p0, spec_EntryParse.j1, if_neg (by decide), if_pos (by decide), if_pos (by omega), show ((3 : Int)).toNat = 3 from rfl, hr3, Option.bind_some, hs]
      rcases hr2 with h2 | ⟨h1, h2⟩
      · exact ⟨_, by rw [if_neg (by rw [h2]; decide)], .inl h2⟩
      · rw [if_pos h1, h2]
        by_cases hc : pcol (w.extract 3 w.size) = 0
        · exact ⟨_, by rw [if_pos hc], .inr (by rw [if_pos hc]; exact ⟨rfl, rfl⟩)⟩
        · rw [if_neg hc, if_neg (by decide), if_pos rfl, ei, if_neg hc]
          exact ih { e with b := pcol (w.extract 3 w.size) }
    rw [if_neg p0]
    rw [show (⟨#[98, 111, 114, 100, 101, 114, 58, 35]⟩ : ByteArray) = ⟨([98, 111, 114, 100, 101, 114, 58, 35] : List UInt8).toArray⟩ from rfl, begins_f w [98, 111, 114, 100, 101, 114, 58, 35] (by omega) (by decide), Option.bind_some]
    by_cases p1 : Lib.hasPrefix w.data.toList [98, 111, 114, 100, 101, 114, 58, 35] = true
    · have hlen := hp_len p1
      have hsz : 8 ≤ w.size := by rw [← data_length]; simpa using hlen
      obtain ⟨r, hr, hr2⟩ := spec_ok (w.extract 7 w.size) (by rw [ByteArray.size_extract]; omega)
      have hr3 := hcp _ r hr
      have hs : stepE e w = (if pcol (w.extract 7 w.size) = 0 then none else some { e with o := pcol (w.extract 7 w.size) }) := by rw [stepE, if_neg q2, if_neg q3, if_neg q0, if_neg q1, if_neg q4, if_neg q5, if_neg q6, if_neg q7, if_neg q8, if_neg p0, if_pos p1]
      rw [if_pos p1, spec_EntryParse.j1, if_neg (by decide), if_pos (by decide), if_pos (by omega), show ((7 : Int)).toNat = 7 from rfl, hr3, Option.bind_some, hs]
      rcases hr2 with h2 | ⟨h1, h2⟩
      · exact ⟨_, by rw [if_neg (by rw [h2]; decide)], .inl h2⟩
      · rw [if_pos h1, h2]
        by_cases hc : pcol (w.extract 7 w.size) = 0
        · exact ⟨_, by rw [if_pos hc], .inr (by rw [if_pos hc]; exact ⟨rfl, rfl⟩)⟩
        · rw [if_neg hc, if_neg (by decide), if_neg (by decide), ei, if_neg hc]
          exact ih { e with o := pcol (w.extract 7 w.size) }
    rw [if_neg p1]
    rw [show (⟨#[35]⟩ : ByteArray) = ⟨([35] : List UInt8).toArray⟩ from rfl, begins_f w [35] (by omega) (by decide), Option.bind_some]
    by_cases p2 : Lib.hasPrefix w.data.toList [35] = true
    · have hlen := hp_len p2
      have hsz : 1 ≤ w.size := by rw [← data_length]; simpa using hlen
      obtain ⟨r, hr, hr2⟩ := spec_ok (w.extract 0 w.size) (by rw [ByteArray.size_extract]; omega)
      have hr3 := hcp _ r hr
      have hex : w.extract 0 w.size = w := bytes_eq (by rw [ext_list, Nat.sub_zero, List.drop_zero, List.take_of_length_le (by rw [data_length]; exact Nat.le_refl _)])
      have hs : stepE e w = (if pcol (w.extract 0 w.size) = 0 then none else some { e with c := pcol (w.extract 0 w.size) }) := by rw [hex, stepE, if_neg q2, if_neg q3, if_neg q0, if_neg q1, if_neg q4, if_neg q5, if_neg q6, if_neg q7, if_neg q8, if_neg p0, if_neg p1, if_pos p2]
      rw [if_pos p2, spec_EntryParse.j1, if_neg (by decide), if_pos (by decide), if_pos (by omega), show ((0 : Int)).toNat = 0 from rfl, hr3, Option.bind_some, hs]
      rcases hr2 with h2 | ⟨h1, h2⟩
      · exact ⟨_, by rw [if_neg (by rw [h2]; decide)], .inl h2⟩
      · rw [if_pos h1, h2]
        by_cases hc : pcol (w.extract 0 w.size) = 0
        · exact ⟨_, by rw [if_pos hc], .inr (by rw [if_pos hc]; exact ⟨rfl, rfl⟩)⟩
        · rw [if_neg hc, if_pos rfl, ei, if_neg hc]
          exact ih { e with c := pcol (w.extract 0 w.size) }
    rw [if_neg p2]
    have hs : stepE e w = none := by rw [stepE, if_neg q2, if_neg q3, if_neg q0, if_neg q1, if_neg q4, if_neg q5, if_neg q6, if_neg q7, if_neg q8, if_neg p0, if_neg p1, if_neg p2]
    rw [hs]
    exact ⟨_, rfl, .inr ⟨rfl, rfl⟩⟩
theorem fsq_len (s : ByteArray) : ∀ (g i : Nat) (st : Option Nat), (fsq s g i st).length ≤ g
  | 0, _, _ => Nat.le_refl _
  | g + 1, i, st => by
    unfold fsq
    split
    · split
      · rw [List.length_append]
        have := fsq_len s g (i + wid s i) none
        cases st <;> simp <;> omega
      · exact Nat.le_succ_of_le (fsq_len s g _ _)
    · cases st <;> simp
/-- Rounds enough to read an entry's text. -/
def eK (s : ByteArray) : Nat := 2 * s.size + 1 + (2 * (fields s).length + 1 + 340)
theorem eparse_k (s : ByteArray) (hs : s.size ≤ 200) : ∃ r, spec_EntryParse.f (eK s) s = some r ∧ (r.2.2.2.2.2.2.2.2 = 2 ∨ Reads (pse s) r) := by
  have hfl : (fields s).length ≤ 201 := Nat.le_trans (fsq_len s _ _ _) (by omega)
  obtain ⟨r1, h1, h2⟩ := words_f s (by omega) (2 * (fields s).length + 1 + 340)
  unfold spec_EntryParse.f eK
  rw [h1, Option.bind_some]
  rcases h2 with h2 | rfl
  · exact ⟨_, by rw [if_neg (by rw [h2]; decide)], .inl h2⟩
  · rw [if_pos rfl]
    obtain ⟨r, h3, h4⟩ := parse_l (fields s) (fun w hw => Nat.le_trans (fsq_size s _ _ _ w hw) (by omega)) (by omega) (fields s).length 0 zeroE (2 * s.size + 1) (by omega)
    refine ⟨r, ?_, h4⟩
    rw [show 2 * s.size + 1 + (2 * (fields s).length + 1 + 340) = 2 * (fields s).length + 1 + (2 * s.size + 1 + 340) by omega]
    exact h3
theorem eparse_f (s : ByteArray) (hs : s.size ≤ 200) : ∃ k r, spec_EntryParse.f k s = some r ∧ (r.2.2.2.2.2.2.2.2 = 2 ∨ Reads (pse s) r) := ⟨_, eparse_k s hs⟩
end Go.Proofs.YtjemdgmihbmgeaaGreatDoor.Pure
