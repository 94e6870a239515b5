/- laws.sorted, walked: each text is put into the row of those ahead of it. -/
import Derived.Test.YtibjlefenodhaaaDoorRegB
import Derived.Laws.CopyOwn
import Derived.Laws.Cover1
import Derived.Deep.QuietTactic
import Derived.BigQuiet
import Derived.IntWalk
import Derived.StillTailTactics
set_option linter.unusedVariables false
set_option linter.unusedSimpArgs false
namespace Go.Proofs.YtibjlefenodhaaaDoorReg
open Go.RowKit Go.Proofs.YtibjlefenodhaaaDoorW.PrintWords Go.Proofs.YtibjlefenodhaaaDoor.T Go.Proofs.YtibjlefenodhaaaDoorFmt Go.Proofs.YtibjlefenodhaaaDoorMapI
/-- A text is not behind another one. -/
def leB (a b : ByteArray) : Bool := Go.Op.bytesLess a.toList b.toList || a.toList == b.toList
def insB (t : ByteArray) (l : List ByteArray) : List ByteArray := (l.takeWhile fun x => leB x t) ++ t :: l.dropWhile fun x => leB x t
def sortB (l : List ByteArray) : List ByteArray := l.foldl (fun acc x => insB x acc) []
theorem sortB_snoc (l : List ByteArray) (x : ByteArray) : sortB (l ++ [x]) = insB x (sortB l) := by unfold sortB; rw [List.foldl_append]; rfl
theorem insB_len (t : ByteArray) (l : List ByteArray) : (insB t l).length = l.length + 1 := by
  unfold insB
  have h := congrArg List.length (List.takeWhile_append_dropWhile (p := fun x => leB x t) (l := l))
  rw [List.length_append] at h ⊢
  rw [List.length_cons]
  omega
theorem sortB_len (l : List ByteArray) : ∀ k, k ≤ l.length → (sortB (l.take k)).length = k := by
  intro k
  induction k with
  | zero => intro _; rw [List.take_zero]; rfl
  | succ k ih =>
    intro h
    rw [List.take_succ_eq_append_getElem (by omega), sortB_snoc, insB_len, ih (by omega)]
theorem insB_at : ∀ (l : List ByteArray) (t : ByteArray) (a : Nat), a ≤ l.length → (∀ x ∈ l.take a, leB x t = true) → (∀ x, l[a]? = some x → leB x t = false) → insB t l = l.take a ++ t :: l.drop a := by
  intro l
  induction l with
  | nil => intro t a h _ _; have : a = 0 := by simpa using h
           subst this; rfl
  | cons y r ih =>
    intro t a h h1 h2
    cases a with
    | zero =>
      have := h2 y rfl
      unfold insB
      simp [List.takeWhile_cons, List.dropWhile_cons, this]
    | succ a =>
      have e := h1 y (by simp)
      have := ih t a (by simpa using h) (fun x hx => h1 x (by simp [hx])) (fun x hx => h2 x (by simpa using hx))
      unfold insB at this ⊢
      simp [List.takeWhile_cons, List.dropWhile_cons, e] at this ⊢
      exact this
theorem infoS : (Tryd.prog.info? 9).map (fun i => (i.zero, i.size, i.bytes)) = some (some (.string ⟨#[]⟩), 1, 16) := by kernel_rfl
theorem row_askS {w : World} {base : Nat} {e : TypeId} {v : Value} {ks : List ByteArray} (h : w.ownsRow base e 1 v ks.length (ks.map Value.string)) :
    ∃ B cap, v = .slice B ks.length cap ∧ ks.length ≤ cap ∧ (ks ≠ [] → ∃ g o, B = some ⟨g, o, none⟩ ∧ g < w.heap.size ∧ ∀ i (hi : i < ks.length), w.cell? ⟨g, o + i, none⟩ = some (.string ks[i])) := by
  have h0 := h
  rcases h.2 with ⟨rfl, hn⟩ | ⟨g, cap, cur, rfl, hb, hh, hnc, hcm, hcs, ht⟩
  · refine ⟨none, 0, by rw [hn], by omega, fun hne => absurd (List.eq_nil_of_length_eq_zero hn) hne⟩
  · refine ⟨_, _, rfl, hnc, fun _ => ⟨g, 0, rfl, blk_lt hh, fun i hi => ?_⟩⟩
    have := World.ownsRow.cellAt h0 i (by omega)
    rw [Nat.zero_add, this]
    simp [hi]
/-- A copy within a row of the call's own: the row's block alone turns. -/
theorem copy_list {P : Program} {ops : Array Oper} {o : Oper} {rest : List Oper} {a : Act} {w : World} {Q : Exit → Act → World → Prop} (hgd : o.guard = none) (d s : Operand) (T e : TypeId)
    (ho : o.op = .call { callee := .builtin .copy, args := #[d, s], argTypes := #[T, T] }) (hu : P.underlying T = some (.slice e)) (hsz : (P.info? e).map (·.size) = some 1)
    (dp sp : Option Addr) (dl dc sl sc : Nat) (hd : a.eval d = .slice dp dl dc) (hs : a.eval s = .slice sp sl sc)
    (g off : Nat) (L : List Value) (t : TypeId) (hg : w.heap[g]? = some (.cells L.toArray t (0, 0))) (cs : List Value) (hn : cs.length = Nat.min sl dl)
    (hpos : 0 < cs.length → dp = some ⟨g, off, none⟩ ∧ ∃ ad, sp = some ad ∧ ∀ j v, cs[j]? = some v → w.cell? (ad.add j) = some v)
    (hfit : off + cs.length ≤ L.length) (h1 : ∀ v ∈ cs, v.oneCell' = true)
    (h : ∀ w', Aside0 (w'.heap[g]? = some (.cells (splice L off cs).toArray t (0, 0))) → w.grownBy w' (some g) → wpList P ops Q rest (a.put o.dst (goInt cs.length)) w') :
    wpList P ops Q (o :: rest) a w := by
  refine wpList_plain hgd fun K hK => ?_
  rcases Nat.eq_zero_or_pos cs.length with h0 | h0
  · have hnil : cs = [] := List.eq_nil_of_length_eq_zero h0
    have hrun := run_copy_none (P := P) w T T o.type e dp sp dl dc sl sc hu hsz (by rw [← hn]; exact h0)
    have hend := h w ⟨by rw [hnil]; simpa [splice] using hg⟩ ⟨rfl, rfl, rfl, Nat.le_refl _, fun _ _ _ => rfl⟩
    rw [hnil] at hend
    unfold Oper.wp
    simp [execOp, ho, resolve, invoke, builtin, hd, hs, hrun, Result.andThen]
    exact hK _ _ hend
  · obtain ⟨e1, ad, e2, hsrc⟩ := hpos h0
    subst e1; subst e2
    have hrun := run_copy_row (P := P) w T T o.type e g off dl dc ad sl sc L.toArray t cs hu hsz hg hn hsrc (by simpa using hfit) h1
    have hend := h _ ⟨setRow_heap w g _ (splice L off cs).toArray t _ hg⟩ ⟨rfl, rfl, rfl, by simp [World.setRow], fun k hk hne => setRow_other w g k _ (fun e => hne (by rw [e]))⟩
    unfold Oper.wp
    simp [execOp, ho, resolve, invoke, builtin, hd, hs, hrun, Result.andThen]
    exact hK _ _ hend
theorem ins_row {α : Type} (L A : List α) (z t : α) (a : Nat) (ha : a ≤ A.length) (h : L.take (A.length + 1) = A ++ [z]) :
    ((splice L (a + 1) (A.drop a)).set a t).take (A.length + 1) = A.take a ++ t :: A.drop a ∧ (splice L (a + 1) (A.drop a)).length = L.length := by
  have hL : L = A ++ z :: L.drop (A.length + 1) := by
    have := List.take_append_drop (A.length + 1) L
    rw [h] at this
    rw [← this]
    simp
  generalize L.drop (A.length + 1) = R at hL
  obtain ⟨A1, A2, rfl, rfl⟩ : ∃ A1 A2 : List α, A = A1 ++ A2 ∧ a = A1.length := ⟨A.take a, A.drop a, (List.take_append_drop a A).symm, by simp; omega⟩
  rw [List.drop_left, List.take_left]
  subst hL
  obtain ⟨y, S, hy⟩ : ∃ y S, A2 ++ z :: R = y :: S := by cases A2 <;> simp
  have e1 : (A1 ++ A2 ++ z :: R).take (A1.length + 1) = A1 ++ [y] := by
    rw [List.append_assoc, hy, show A1.length + 1 = A1.length + 1 from rfl, List.take_length_add_append]
    simp
  have e2 : (A1 ++ A2 ++ z :: R).drop (A1.length + 1 + A2.length) = R := by
    have : A1.length + 1 + A2.length = (A1 ++ A2).length + 1 := by simp; omega
    rw [this, List.drop_append]
    simp
  unfold splice
  rw [e1, e2]
  constructor
  · have : ((A1 ++ [y] ++ (A2 ++ R)).set A1.length t) = (A1 ++ t :: A2) ++ R := by
      rw [List.append_assoc, List.set_append_right _ _ (Nat.le_refl _), Nat.sub_self]
      simp
    rw [this]
    apply List.take_left'
    simp
    omega
  · simp
    omega
theorem addr_at (g o j : Nat) : (⟨g, o, none⟩ : Addr).add j = ⟨g, o + j, none⟩ := by unfold Addr.add; split <;> simp_all
def SrtAt (xs : List ByteArray) (k : Nat) (v : Value) (w wr : World) : Prop :=
  wr.ownsRow w.heap.size 9 1 v (sortB (xs.take k)).length ((sortB (xs.take k)).map Value.string) ∧ Below w.heap.size w wr
set_option maxRecDepth 100000 in
set_option maxHeartbeats 8000000 in
theorem sorted_c (A : Option Addr) (c : Nat) (xs : List ByteArray) (w : World) (hC : Kd.C Kd.string w A xs.length xs) (hc : xs.length ≤ c) (hl : xs.length ≤ 1000000) :
    Calls Tryd.prog 12 #[.slice A xs.length c] w fun e w' => ∃ v, e = .returned v ∧ Kd.string.R 9 w' w.heap.size (fun _ => True) v (sortB xs) ∧ Below w.heap.size w w' := by
  have HC := Aside0.mk hC
  have HL := Aside0.mk hl
  clear hC hl hc
  go_enter Tryd.func12, Tryd.ntmps12
  go_wp2
  go_loopw [3, 9] (fun v i wx => ∃ k : Nat, Aside0 (k ≤ xs.length) ∧ i = .int .i64 (k : Int) ∧ Aside0 (SrtAt xs k v w wx)) (fun _ i _ => xs.length - (intOf i).toNat)
  case atStart => exact ⟨0, ⟨Nat.zero_le _⟩, rfl, ⟨by rw [List.take_zero]; exact own_nil _ _ _ _, Below.refl _ _⟩⟩
  case round =>
    obtain ⟨k, HK, rfl, HT⟩ := hrel
    by_cases hlt : k < xs.length
    · have hlti : (k : Int) < (xs.length : Int) := by omega
      have hk0 : (0 : Int) ≤ (k : Int) := by omega
      have hkl : k ≤ 1000000 := by have := HL.out; omega
      have hdk : decide ((k : Int) < (xs.length : Int)) = true := decide_eq_true hlti
      have hdk2 : decide (k < xs.length) = true := decide_eq_true hlt
      obtain ⟨ad, e, hy0⟩ := Kd.at_string (Kd.C_below HC.out HT.out.2) (k : Int) hk0 hlti
      cases e
      rw [Int.toNat_natCast] at hy0
      have hla := World.block_lt_of_cell? wr _ hy0
      have htk : sortB (xs.take (k + 1)) = insB xs[k] (sortB (xs.take k)) := by rw [List.take_succ_eq_append_getElem hlt, sortB_snoc]
      have hrd : rdOf ByteArray.empty xs (k : Int) = xs[k] := by simp [rdOf, List.getD_eq_getElem?_getD, hlt]
      rw [hrd] at hy0
      have hln := sortB_len xs k (by omega)
      generalize xs[k] = t at *
      have HTk := Aside0.mk htk
      have ho1 := HT.out.1
      have hB1 := HT.out.2
      clear htk hrd
      generalize sortB (xs.take k) = acc at *
      obtain ⟨A0, c0, hv, hc0, hAs⟩ := row_askS ho1
      subst hv
      have hal0 : acc.length ≤ 1000000 := by omega
      have HO1 := Aside0.mk ho1
      have HB1 := Aside0.mk hB1
      have HAs := Aside0.mk hAs
      have HLn := Aside0.mk hln
      clear ho1 hB1 hAs hln
      go_upto_block 2 with fail
      go_cut [6] (fun v6 wc => ∃ a : Nat, v6 = .int .i64 (a : Int) ∧ a ≤ acc.length ∧ Aside0 ((∀ x ∈ acc.take a, leB x t = true) ∧ ∀ x, acc[a]? = some x → leB x t = false) ∧ wc = wr)
      case first =>
        clear hy0 hla
        go_wp2
        go_loop [6] (fun v6 => ∃ a : Nat, v6 = .int .i64 (a : Int) ∧ a ≤ acc.length ∧ Aside0 (∀ x ∈ acc.take a, leB x t = true)) (fun v6 => acc.length - (intOf v6).toNat)
        case atStart => exact ⟨0, rfl, Nat.zero_le _, ⟨fun x hx => by rw [List.take_zero] at hx; cases hx⟩⟩
        case round =>
          obtain ⟨a, rfl, ha, HA⟩ := hrel
          by_cases hal : a < acc.length
          · obtain ⟨g2, o2, rfl, hg2, hP2⟩ := HAs.out (fun e => by rw [e] at hal; simp at hal)
            have e0 := hP2 a hal
            have hget : acc[a]? = some acc[a] := List.getElem?_eq_getElem hal
            have htk : acc.take (a + 1) = acc.take a ++ [acc[a]] := List.take_succ_eq_append_getElem hal
            have hai : (a : Int) < (acc.length : Int) := by omega
            have hdl : decide (a < acc.length) = true := decide_eq_true hal
            have ha0 : (0 : Int) ≤ (a : Int) := by omega
            generalize acc[a] = x at *
            have HG := Aside0.mk hget
            have HTa := Aside0.mk htk
            clear hP2 hget htk
            cases hx1 : (Go.Op.bytesLess x.toList t.toList || x.toList == t.toList)
            · have hle : Aside0 (leB x t = false) := ⟨hx1⟩
              go_wp2
              go_meet
              case rel => exact ⟨a, rfl, by omega, ⟨HA.out, fun y hy => by rw [HG.out] at hy; injection hy with hy; rw [← hy]; exact hle.out⟩, rfl⟩
            · have hle : Aside0 (leB x t = true) := ⟨hx1⟩
              go_wp2
              refine ⟨⟨a + 1, by rw [Int.natCast_add]; rfl, by omega, ⟨fun y hy => ?_⟩⟩, by simp [intOf]; omega⟩
              rw [HTa.out, List.mem_append, List.mem_singleton] at hy
              rcases hy with hy | rfl
              · exact HA.out y hy
              · exact hle.out
          · obtain rfl : a = acc.length := by omega
            have hdl : decide (acc.length < acc.length) = false := by simp
            go_wp2
            go_meet
            case rel => exact ⟨acc.length, rfl, Nat.le_refl _, ⟨HA.out, fun y hy => by rw [List.getElem?_eq_none (Nat.le_refl _)] at hy; cases hy⟩, rfl⟩
      case rest =>
        obtain ⟨a, rfl, ha, HA, rfl⟩ := hcut
        have HIns : Aside0 (sortB (xs.take (k + 1)) = acc.take a ++ t :: acc.drop a) := ⟨HTk.out.trans (insB_at acc t a ha HA.out.1 HA.out.2)⟩
        have hone : ∀ u ∈ [Value.string ⟨#[]⟩], u.oneCell' = true := by simp [Value.oneCell']
        have hbd : (acc.length + 1) * 16 ≤ 140737488355328 := by omega
        have HN := Aside0.mk hone
        have HD := Aside0.mk hbd
        have hle3 : w.heap.size ≤ wc.heap.size := HB1.out.size
        clear hone hbd
        go_upto_region 9 with (((with_reducible refine gate_builtin (b := .append) (xs := #[.tmp 27, .tmp 28]) rfl ?_); at_builtin; refine print_append_cells (w0 := w) w.heap.size rfl (.tmp 27) (.tmp 28) 25 9 (.string ⟨#[]⟩) 1 16 rfl Tryd.underlying25 infoS rfl (Nat.succ_pos _) (Nat.succ_pos _) (.slice A0 acc.length c0) acc.length (acc.map Value.string) [.string ⟨#[]⟩] rfl rfl rfl HN.out HO1.out HB1.out hle3 HD.out ?_; intro v1 w6 ho6 hB6 hg6 hat6))
        rcases ho6.2 with ⟨_, h0⟩ | ⟨g1, cp, cur, rfl, hbg, hh, hnc, hcm, hcs, ht⟩
        · exact absurd h0 (Nat.succ_ne_zero _)
        obtain ⟨L, rfl⟩ : ∃ L : List Value, cur = L.toArray := ⟨cur.toList, by simp⟩
        have hLl : L.length = cp := by simpa using hcs
        have hcsl : ((acc.drop a).map Value.string).length = acc.length - a := by simp
        have hsrc : ∀ j v, ((acc.drop a).map Value.string)[j]? = some v → w6.drew.cell? ((⟨g1, a, none⟩ : Addr).add j) = some v := by
          intro j v hv
          have hj : a + j < acc.length := by
            have := (List.getElem?_eq_some_iff.1 hv).1
            rw [hcsl] at this
            omega
          rw [addr_at]
          show w6.cell? _ = _
          have h1 := World.ownsRow.cellAt ho6 (a + j) (by omega)
          rw [h1, List.getElem?_append_left (by simpa using hj)]
          rw [List.getElem?_map, List.getElem?_drop] at hv
          rw [List.getElem?_map]
          exact hv
        have honec : ∀ v ∈ (acc.drop a).map Value.string, v.oneCell' = true := by
          intro v hv
          obtain ⟨x, _, rfl⟩ := List.mem_map.1 hv
          rfl
        have HS := Aside0.mk hsrc
        have HOc := Aside0.mk honec
        have HH6 := Aside0.mk hh
        have HT6 := Aside0.mk ht
        have HB6 := Aside0.mk hB6
        have HLl := Aside0.mk hLl
        have HH7 : Aside0 (w6.drew.heap[g1]? = some (.cells L.toArray 9 (0, 0))) := ⟨hh⟩
        have hn1 : ((acc.drop a).map Value.string).length = Nat.min (acc.length + 1 - a) (acc.length + 1 - (a + 1)) := by rw [hcsl]; show _ = min _ _; omega
        have hn2 : ((acc.drop a).map Value.string).length = Nat.min (acc.length + 1 - a) (acc.length - a) := by rw [hcsl]; show _ = min _ _; omega
        have HN1 := Aside0.mk hn1
        have HN2 := Aside0.mk hn2
        have HFit : Aside0 (a + 1 + ((acc.drop a).map Value.string).length ≤ L.length) := ⟨by rw [hcsl]; omega⟩
        have ha1 : (0 : Int) ≤ (a : Int) := by omega
        have hw1 : IntKind.i64.wrap ((a : Int) + 1) = (a : Int) + 1 := IntWalk.i64_in _ (by omega)
        have ha2 : (0 : Int) ≤ (a : Int) + 1 := by omega
        have ha3 : ((a : Int) + 1).toNat = a + 1 := by omega
        have hi1 : (a : Int) ≤ (acc.length : Int) + 1 := by omega
        have hi2 : (a : Int) + 1 ≤ (acc.length : Int) + 1 := by omega
        have hi3 : ¬ cp = a := by omega
        generalize hcs' : (acc.drop a).map Value.string = cs at *
        have HCs := Aside0.mk hcs'
        clear hsrc honec hcsl hh ht hB6 hLl ho6 hg6 hat6 hcs hcs' hn1 hn2
        by_cases hcap : cp = a + 1
        · subst hcap
          have HC0 : Aside0 (cs.length = 0) := ⟨by have := HFit.out; rw [HLl.out] at this; omega⟩
          obtain rfl : a = acc.length := by omega
          go_still_tail 7, (by kernel_rfl)
          change wpList _ _ _ _ _ w6.drew
          refine copy_list (by rfl) (.tmp 33) (.tmp 36) 25 9 (by rfl) Tryd.underlying25 (by kernel_rfl) _ _ _ _ _ _ (by rfl) (by rfl) g1 (acc.length + 1) L 9 HH7.out cs (by rw [HC0.out]; first | rfl | (simp; done)) (fun h => absurd HC0.out (Nat.ne_of_gt h)) HFit.out HOc.out ?_
          intro w7 HW7 hg7
          obtain ⟨x7, c7⟩ : ∃ x, w7.cell? ⟨g1, acc.length, none⟩ = some x := by
            rw [blk_cell HW7.out acc.length]
            exact ⟨_, Array.getElem?_eq_getElem (by rw [List.size_toArray, length_splice L (acc.length + 1) cs HFit.out, HLl.out]; omega)⟩
          have f7 : w7.frozen? ⟨g1, acc.length, none⟩ = false := blk_frozen HW7.out acc.length
          have hset := blk_put HW7.out acc.length (.string t) rfl
          have HF : Aside0 (SrtAt xs (k + 1) (.slice (some ⟨g1, 0, none⟩) (acc.length + 1) (acc.length + 1)) w (w7.setCell ⟨g1, acc.length, none⟩ (.string t))) := by
            have i0 := ins_row L (acc.map Value.string) (.string ⟨#[]⟩) (.string t) acc.length (by simp) (by have := HT6.out; simpa using this)
            rw [← List.map_drop, HCs.out, List.length_map] at i0
            refine ⟨⟨by rw [HIns.out]; simp, .inr ⟨g1, _, _, by rw [HIns.out]; simp <;> omega, hbg, hset, by rw [HIns.out]; simp <;> omega, hcm, ?_, ?_⟩⟩, ?_⟩
            · simp [i0.2, HLl.out]
            · rw [HIns.out]
              have := i0.1
              have hl2 : (acc.take acc.length ++ t :: acc.drop acc.length).length * 1 = acc.length + 1 := by simp <;> omega
              rw [hl2, Array.toList_setIfInBounds]
              show List.take (acc.length + 1) ((splice L (acc.length + 1) cs).set acc.length (Value.string t)) = _
              rw [this, List.map_append, List.map_cons, List.map_take, HCs.out]
            · exact ((below_drew HB6.out).grown hg7 (by have := HB6.out.size; simpa using this) (fun q e => by injection e with e; omega)).setCell (p := ⟨g1, acc.length, none⟩) hbg _
          clear hg7 hset
          go_wp2
          go_roundw
          case rel => exact ⟨k + 1, ⟨by omega⟩, by rw [Int.natCast_add]; rfl, HF⟩
          case measure => simp [intOf]; omega
        · go_still_tail 7, (by kernel_rfl)
          change wpList _ _ _ _ _ w6.drew
          refine copy_list (by rfl) (.tmp 33) (.tmp 36) 25 9 (by rfl) Tryd.underlying25 (by kernel_rfl) (some ⟨g1, a + 1, none⟩) (some ⟨g1, a, none⟩) _ _ _ _ (by rfl) (by rfl) g1 (a + 1) L 9 HH7.out cs HN2.out (fun _ => ⟨rfl, _, rfl, HS.out⟩) HFit.out HOc.out ?_
          intro w7 HW7 hg7
          obtain ⟨x7, c7⟩ : ∃ x, w7.cell? ⟨g1, a, none⟩ = some x := by
            rw [blk_cell HW7.out a]
            exact ⟨_, Array.getElem?_eq_getElem (by rw [List.size_toArray, length_splice L (a + 1) cs HFit.out, HLl.out]; omega)⟩
          have f7 : w7.frozen? ⟨g1, a, none⟩ = false := blk_frozen HW7.out a
          have hset := blk_put HW7.out a (.string t) rfl
          have HF : Aside0 (SrtAt xs (k + 1) (.slice (some ⟨g1, 0, none⟩) (acc.length + 1) cp) w (w7.setCell ⟨g1, a, none⟩ (.string t))) := by
            have i0 := ins_row L (acc.map Value.string) (.string ⟨#[]⟩) (.string t) a (by simpa using ha) (by have := HT6.out; simpa using this)
            rw [← List.map_drop, HCs.out, List.length_map] at i0
            refine ⟨⟨by rw [HIns.out]; simp, .inr ⟨g1, _, _, by rw [HIns.out]; simp <;> omega, hbg, hset, by rw [HIns.out]; simp <;> omega, hcm, ?_, ?_⟩⟩, ?_⟩
            · simp [i0.2, HLl.out]
            · rw [HIns.out]
              have := i0.1
              have hl2 : (acc.take a ++ t :: acc.drop a).length * 1 = acc.length + 1 := by simp <;> omega
              rw [hl2, Array.toList_setIfInBounds]
              show List.take (acc.length + 1) ((splice L (a + 1) cs).set a (Value.string t)) = _
              rw [this, List.map_append, List.map_cons, List.map_take, HCs.out]
            · exact ((below_drew HB6.out).grown hg7 (by have := HB6.out.size; simpa using this) (fun q e => by injection e with e; omega)).setCell (p := ⟨g1, a, none⟩) hbg _
          clear hg7 hset
          go_wp2
          go_roundw
          case rel => exact ⟨k + 1, ⟨by omega⟩, by rw [Int.natCast_add]; rfl, HF⟩
          case measure => simp [intOf]; omega
    · have hke : xs.length ≤ k := by omega
      have hge : ¬ (k : Int) < (xs.length : Int) := by omega
      have hdk : decide ((k : Int) < (xs.length : Int)) = false := decide_eq_false hge
      have hdk2 : decide (k < xs.length) = false := decide_eq_false hlt
      have HE : Aside0 (sortB (xs.take k) = sortB xs) := ⟨by rw [List.take_of_length_le hke]⟩
      clear hlt hge hke
      go_wp2
      go_ret
      obtain ⟨ho, hB⟩ := HT.out
      rw [HE.out] at ho
      exact ⟨_, rfl, Kd.R_of_own (enc := Value.string) (h1 := fun _ => rfl) ho (fun _ _ => trivial), hB⟩
end Go.Proofs.YtibjlefenodhaaaDoorReg
