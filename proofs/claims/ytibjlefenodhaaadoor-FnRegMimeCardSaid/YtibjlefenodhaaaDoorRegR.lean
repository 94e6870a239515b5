/- laws.registered, walked. -/
import Derived.Test.YtibjlefenodhaaaDoorRegS
import Derived.Test.YtibjlefenodhaaaDoorTx1
set_option linter.unusedVariables false
set_option linter.unusedSimpArgs false
namespace Go.Proofs.YtibjlefenodhaaaDoorReg
open Go.RowKit Go.Proofs.YtibjlefenodhaaaDoorW.PrintWords Go.Proofs.YtibjlefenodhaaaDoor.T Go.Proofs.YtibjlefenodhaaaDoorFmt Go.Proofs.YtibjlefenodhaaaDoorMapI
/-- Small letters, at most 20. -/
def letB (s : ByteArray) : Bool := (s.data.toList.all fun b => decide (97 ≤ b.toNat ∧ b.toNat ≤ 122)) && decide (s.size ≤ 20)
theorem let_l (s : ByteArray) (h : s.size ≤ 9223372036854775807) : ∀ (n i : Nat), s.size - i = n → i ≤ s.size → laws_letters.l0 (n + 1) s (s.size : Int) (i : Int) = some (((s.data.toList.drop i).all fun b => decide (97 ≤ b.toNat ∧ b.toNat ≤ 122)) && decide (s.size ≤ 20)) := by
  intro n
  induction n with
  | zero =>
    intro i h1 h2
    obtain rfl : i = s.size := by omega
    unfold laws_letters.l0
    rw [if_neg (by omega)]
    have : s.data.toList.drop s.size = [] := List.drop_eq_nil_of_le (Nat.le_of_eq (show s.data.toList.length = s.data.size from Array.length_toList))
    rw [this]
    have e : decide ((s.size : Int) ≤ 20) = decide (s.size ≤ 20) := by rw [decide_eq_decide]; omega
    rw [e]; rfl
  | succ n ih =>
    intro i h1 h2
    have hi : i < s.size := by omega
    have hd : s.data.toList.drop i = s[i] :: s.data.toList.drop (i + 1) := by
      rw [List.drop_eq_getElem_cons (by rw [Array.length_toList]; exact hi)]; rfl
    have hb : bt s (i : Int) = (s[i].toNat : Int) := by
      have := bt_at s (i : Int) (by simpa using hi)
      rw [← this]
      simp
    unfold laws_letters.l0
    rw [if_pos (by omega), if_pos (by omega), if_pos (by omega), hb, hd, List.all_cons]
    have e1 : wrap64 ((i : Int) + 1) = ((i + 1 : Nat) : Int) := by unfold wrap64; omega
    rw [e1, ih (i + 1) (by omega) (by omega)]
    by_cases c1 : (s[i].toNat : Int) < 97
    · rw [if_pos c1]
      have : decide (97 ≤ s[i].toNat ∧ s[i].toNat ≤ 122) = false := decide_eq_false (by omega)
      rw [this]; rfl
    · rw [if_neg c1]
      by_cases c2 : (s[i].toNat : Int) > 122
      · rw [if_pos c2]
        have : decide (97 ≤ s[i].toNat ∧ s[i].toNat ≤ 122) = false := decide_eq_false (by omega)
        rw [this]; rfl
      · rw [if_neg c2]
        have : decide (97 ≤ s[i].toNat ∧ s[i].toNat ≤ 122) = true := decide_eq_true (by omega)
        rw [this, Bool.true_and]
theorem let_c (s : ByteArray) (h : s.size ≤ 9223372036854775807) (w : World) : Calls Tryd.prog 17 #[.string s] w fun e w' => e = .returned (.bool (letB s)) ∧ Below w.heap.size w w' := by
  refine (laws_letters.calls (s.size + 1) s (letB s) w ?_).mono ?_
  · have := let_l s h s.size 0 (by omega) (by omega)
    unfold laws_letters.f letB
    simpa using this
  · rintro e w' ⟨rfl, h⟩
    exact ⟨rfl, h.below⟩

instance memDec (s : ByteArray) (l : List ByteArray) : Decidable (s ∈ l) := decidable_of_iff (∃ t, t ∈ l ∧ t = s) ⟨fun ⟨_, h, e⟩ => e ▸ h, fun h => ⟨s, h, rfl⟩⟩
/-- The names that are there, and these behind them: none if one is no name or is there. -/
def regAdd (all : List ByteArray) : List ByteArray → Option (List ByteArray)
  | [] => some all
  | s :: r => if s.toList = [] ∨ letB s = false ∨ s ∈ all then none else regAdd (all ++ [s]) r
def regGo (all : List ByteArray) : List I → Option (List ByteArray)
  | [] => some all
  | x :: r => if 5 < x.f1.length ∨ 0 < x.f2.length ∨ 0 < x.f3.length ∨ 5 < x.f4.length then none else (regAdd all (x.f0 :: x.f1)).bind fun a => regGo a r
def regOK (l : List I) : Bool := (regGo [] l).isSome && decide (l.length ≤ 20)
theorem lit_row (W : World) (s : ByteArray) : (W.alloc (.cells #[.string s] 9)).ownsRow W.heap.size 9 1 (.slice (some ⟨W.heap.size, 0, none⟩) 1 1) [s].length (encs Value.string [s]) :=
  ⟨rfl, .inr ⟨W.heap.size, 1, #[.string s], rfl, Nat.le_refl _, blk_new _ _, Nat.le_refl _, by decide, rfl, rfl⟩⟩
theorem drop_get {α : Type} [Inhabited α] {xs : List α} {k : Nat} (h : k < xs.length) : xs.drop k = xs[k] :: xs.drop (k + 1) := List.drop_eq_getElem_cons h
/-- How far the registered ones are. -/
def RgAt (w wr : World) (v : Value) (all : List ByteArray) (n : Nat) : Prop := wr.ownsRow w.heap.size 9 1 v all.length (encs Value.string all) ∧ Below w.heap.size w wr ∧ all.length ≤ n
theorem ne_none {a b : Option Nat} (h : a ≠ b ∨ a = none) : b = none ∨ b ≠ a := by
  rcases h with h | h
  · exact .inr (fun e => h e.symm)
  · cases b with
    | none => exact .inl rfl
    | some k => exact .inr (by rw [h]; simp)
theorem RgAt.below {w wr w' : World} {v : Value} {all : List ByteArray} {n : Nat} (h : RgAt w wr v all n) (hB : Below wr.heap.size wr w') : RgAt w w' v all n := ⟨pw_own_below h.1 hB, below_step h.2.1 hB, h.2.2⟩
theorem RgAt.lt {w wr : World} {v : Value} {all : List ByteArray} {n k : Nat} (h : RgAt w wr v all n) (hk : v.ownBlock = some k) : k < wr.heap.size := by
  rcases h.1.2 with ⟨rfl, _⟩ | ⟨g, cap, cur, rfl, _, hh, _⟩
  · cases hk
  · cases hk; exact blk_lt hh
theorem RgAt.row {w wr : World} {v : Value} {all : List ByteArray} {n : Nat} (h : RgAt w wr v all n) : Kd.string.R 9 wr w.heap.size (fun _ => True) v all := Kd.R_of_own (enc := Value.string) (h1 := fun _ => rfl) h.1 (fun _ _ => trivial)
theorem no_bad {xs : List I} {all : List ByteArray} {x : I} {r : List I} (h : regGo [] xs = regGo all (x :: r)) (hb : 5 < x.f1.length ∨ 0 < x.f2.length ∨ 0 < x.f3.length ∨ 5 < x.f4.length) : regOK xs = false := by
  unfold regOK
  rw [h, regGo, if_pos hb]; rfl
theorem no_add {xs : List I} {all al : List ByteArray} {x : I} {r : List I} {s : ByteArray} {q : List ByteArray} (h : regGo [] xs = regGo all (x :: r)) (h2 : regAdd all (x.f0 :: x.f1) = regAdd al (s :: q)) (hb : s.toList = [] ∨ letB s = false ∨ s ∈ al) : regOK xs = false := by
  unfold regOK
  rw [h, regGo]
  split
  · rfl
  · rw [h2, regAdd, if_pos hb]; rfl
theorem go_add {xs : List I} {all al : List ByteArray} {x : I} {r : List I} (h : regGo [] xs = regGo all (x :: r)) (h2 : regAdd all (x.f0 :: x.f1) = some al) (hb : ¬ (5 < x.f1.length ∨ 0 < x.f2.length ∨ 0 < x.f3.length ∨ 5 < x.f4.length)) : regGo [] xs = regGo al r := by
  rw [h, regGo, if_neg hb, h2]; rfl
set_option maxRecDepth 100000 in
set_option maxHeartbeats 8000000 in
theorem registered_c (A : Option Addr) (c : Nat) (xs : List I) (w : World) (hC : Kd.C k28 w A xs.length xs) (hc : xs.length ≤ c) (hl : xs.length ≤ 2147483647) (hs : ∀ x ∈ xs, x.f0.size ≤ 9223372036854775807 ∧ ∀ s ∈ x.f1, s.size ≤ 9223372036854775807) :
    Calls Tryd.prog 7 #[.slice A xs.length c] w fun e w' => e = .returned (.bool (regOK xs)) ∧ Below w.heap.size w w' := by
  have HC := Aside0.mk hC
  have HL := Aside0.mk hl
  have HS := Aside0.mk hs
  have hu := Tryd.underlying28
  clear hC hl hc hs
  go_enter Tryd.func7, Tryd.ntmps7
  go_wp2
  go_loopg [3, 12] (xs.length + 1) (fun kq v3 v12 wr => ∃ (x12 : Int) (all : List ByteArray), v12 = .int .i64 x12 ∧ Aside0 (0 ≤ x12 ∧ x12 ≤ xs.length ∧ xs.length - x12.toNat < kq) ∧ Aside0 (RgAt w wr v3 all (6 * x12.toNat)) ∧ Aside0 (regGo [] xs = regGo all (xs.drop x12.toNat)))
  case atStart => exact ⟨0, [], rfl, ⟨by omega, by omega, by simp⟩, ⟨own_nil _ _ _ _, Below.refl _ _, by simp⟩, ⟨rfl⟩⟩
  case round =>
    obtain ⟨x12, all, rfl, HK, HR, HE⟩ := hrel
    cases gk with
    | zero => have := HK.out; omega
    | succ k1 =>
      by_cases hlt : x12 < (xs.length : Int)
      · have hx0 : 0 ≤ x12 := HK.out.1
        have c2b0 : decide (x12 < (xs.length : Int)) = true := decide_eq_true hlt
        obtain ⟨ad, A1, c1, A2, c2, A3, c3, A4, c4, e, hy0, hy1, hy2, hy3, hy4, hy5, l1, g1, l2, g2, l3, g3, l4, g4⟩ := at_T28 (Kd.C_below HC.out HR.out.2.1) x12 hx0 hlt
        cases e
        have hla := World.block_lt_of_cell? wr _ hy0
        have hwr : wrap64 (x12 + 1) = x12 + 1 := by have := HL.out; unfold wrap64; omega
        have p1 := eq_true hx0
        have q1 := eq_true hlt
        have h2 : x12.toNat < xs.length := by omega
        have h3 : rd_T28 xs x12 = xs[x12.toNat] := by simp [rd_T28, List.getD_eq_getElem?_getD, h2]
        have HD : Aside0 (xs.drop x12.toNat = rd_T28 xs x12 :: xs.drop (x12.toNat + 1)) := ⟨by rw [h3]; exact List.drop_eq_getElem_cons h2⟩
        have HSx : Aside0 ((rd_T28 xs x12).f0.size ≤ 9223372036854775807 ∧ ∀ s ∈ (rd_T28 xs x12).f1, s.size ≤ 9223372036854775807) := ⟨by rw [h3]; exact HS.out _ (List.getElem_mem h2)⟩
        clear h3 h2
        generalize hrow : rd_T28 xs x12 = x at *
        have HG := Aside0.mk (And.intro g1 l1)
        clear hx0 hlt g1 g2 g3 g4 l1 l2 l3 l4 hrow
        obtain ⟨W, hW⟩ : ∃ W, W = wr.alloc (.cells #[.string x.f0, .slice A1 x.f1.length c1, .slice A2 x.f2.length c2, .slice A3 x.f3.length c3, .slice A4 x.f4.length c4, .int .u64 x.f5] 28) := ⟨_, rfl⟩
        have HX : Aside0 (W.heap[wr.heap.size]? = some (.cells #[.string x.f0, .slice A1 x.f1.length c1, .slice A2 x.f2.length c2, .slice A3 x.f3.length c3, .slice A4 x.f4.length c4, .int .u64 x.f5] 28 (0, 0))) := ⟨by rw [hW]; exact blk_new _ _⟩
        have HWB : Aside0 (Below wr.heap.size wr W) := ⟨by rw [hW]; exact (Below.refl _ _).alloc (Nat.le_refl _) _⟩
        have HCX := Aside0.mk HG.out.1
        generalize hn1 : x.f1.length = n1 at *
        generalize hn2 : x.f2.length = n2 at *
        generalize hn3 : x.f3.length = n3 at *
        generalize hn4 : x.f4.length = n4 at *
        have HNn := Aside0.mk (And.intro hn1 (And.intro hn2 (And.intro hn3 hn4)))
        clear hn1 hn2 hn3 hn4
        go_upto_region 5 with (fail)
        rw [← hW]
        clear hW hy0 hy1 hy2 hy3 hy4 hy5
        have W0 := (blk_cell HX.out 0).trans rfl
        have W1 := (blk_cell HX.out 1).trans rfl
        have W2 := (blk_cell HX.out 2).trans rfl
        have W3 := (blk_cell HX.out 3).trans rfl
        have W4 := (blk_cell HX.out 4).trans rfl
        have Wl := blk_lt HX.out
        go_cut [37] (fun v37 wc => v37 = .bool (decide (5 < n1 ∨ 0 < n2 ∨ 0 < n3 ∨ 5 < n4)) ∧ wc = W)
        case first =>
          by_cases b1 : 5 < n1
          · have d1 : decide ((5 : Int) < (n1 : Int)) = true := decide_eq_true (by omega)
            have HE1 : Aside0 (decide (5 < n1 ∨ 0 < n2 ∨ 0 < n3 ∨ 5 < n4) = true) := ⟨decide_eq_true (by omega)⟩
            clear b1
            go_wp2
            go_meet
            case rel => exact ⟨by rw [HE1.out], rfl⟩
          · have d1 : decide ((5 : Int) < (n1 : Int)) = false := decide_eq_false (by omega)
            by_cases b2 : 0 < n2
            · have d2 : decide ((0 : Int) < (n2 : Int)) = true := decide_eq_true (by omega)
              have d2' : decide (0 < n2) = true := decide_eq_true (by omega)
              have HE1 : Aside0 (decide (5 < n1 ∨ 0 < n2 ∨ 0 < n3 ∨ 5 < n4) = true) := ⟨decide_eq_true (by omega)⟩
              clear b1
              go_wp2
              go_meet
              case rel => exact ⟨by rw [HE1.out], rfl⟩
            · have d2 : decide ((0 : Int) < (n2 : Int)) = false := decide_eq_false (by omega)
              have d2' : decide (0 < n2) = false := decide_eq_false (by omega)
              by_cases b3 : 0 < n3
              · have d3 : decide ((0 : Int) < (n3 : Int)) = true := decide_eq_true (by omega)
                have d3' : decide (0 < n3) = true := decide_eq_true (by omega)
                have HE1 : Aside0 (decide (5 < n1 ∨ 0 < n2 ∨ 0 < n3 ∨ 5 < n4) = true) := ⟨decide_eq_true (by omega)⟩
                clear b1
                go_wp2
                go_meet
                case rel => exact ⟨by rw [HE1.out], rfl⟩
              · have d3 : decide ((0 : Int) < (n3 : Int)) = false := decide_eq_false (by omega)
                have d3' : decide (0 < n3) = false := decide_eq_false (by omega)
                by_cases b4 : 5 < n4
                · have d4 : decide ((5 : Int) < (n4 : Int)) = true := decide_eq_true (by omega)
                  have HE1 : Aside0 (decide (5 < n1 ∨ 0 < n2 ∨ 0 < n3 ∨ 5 < n4) = true) := ⟨decide_eq_true (by omega)⟩
                  clear b1 b4
                  go_wp2
                  go_meet
                  case rel => exact ⟨by rw [HE1.out], rfl⟩
                · have d4 : decide ((5 : Int) < (n4 : Int)) = false := decide_eq_false (by omega)
                  have HE1 : Aside0 (decide (5 < n1 ∨ 0 < n2 ∨ 0 < n3 ∨ 5 < n4) = false) := ⟨decide_eq_false (by omega)⟩
                  clear b1 b4
                  go_wp2
                  go_meet
                  case rel => exact ⟨by rw [HE1.out], rfl⟩
        case rest =>
          obtain ⟨rfl, hwc⟩ := hcut
          have HR2 : Aside0 (RgAt w wc u3 all (6 * x12.toNat)) := ⟨by rw [hwc]; exact HR.out.below HWB.out⟩
          have HCx : Aside0 (Kd.string.C wc A1 n1 x.f1) := ⟨by rw [hwc]; exact Kd.C_below HCX.out HWB.out⟩
          rw [← hwc] at W0 W1 Wl
          obtain ⟨⟨V3, hV3⟩⟩ : Nonempty (∃ v, v = u3) := ⟨⟨u3, rfl⟩⟩
          clear hwc W2 W3 W4 HCX HWB HR HX
          obtain ⟨bb, hbb⟩ : ∃ bb, bb = decide (5 < n1 ∨ 0 < n2 ∨ 0 < n3 ∨ 5 < n4) := ⟨_, rfl⟩
          rw [← hbb]
          have HBB := Aside0.mk hbb
          clear hbb
          cases bb
          case true =>
            have HF : Aside0 (regOK xs = false) := ⟨no_bad (HE.out.trans (by rw [HD.out])) (by have := of_decide_eq_true HBB.out.symm; rw [HNn.out.1, HNn.out.2.1, HNn.out.2.2.1, HNn.out.2.2.2]; exact this)⟩
            go_wp2
            go_ret
            exact ⟨by rw [HF.out]; rfl, HR2.out.2.1⟩
          case false =>
            have HNb : Aside0 (¬ (5 < x.f1.length ∨ 0 < x.f2.length ∨ 0 < x.f3.length ∨ 5 < x.f4.length)) := ⟨by have := of_decide_eq_false HBB.out.symm; rw [HNn.out.1, HNn.out.2.1, HNn.out.2.2.1, HNn.out.2.2.2]; exact this⟩
            have Hn5 : Aside0 (n1 ≤ 5) := ⟨by have := of_decide_eq_false HBB.out.symm; omega⟩
            obtain ⟨zs, hzs⟩ : ∃ zs, zs = [x.f0] ++ x.f1 := ⟨_, rfl⟩
            have HZs := Aside0.mk hzs
            have HZl : Aside0 (zs.length ≤ 6) := ⟨by rw [hzs]; have := Hn5.out; have := HNn.out.1; simp; omega⟩
            clear hzs
            go_wp2_with ((with_reducible refine gate_builtin (b := .append) (xs := #[.tmp 40, .tmp 42]) rfl ?_); at_builtin; refine Kd.R_append_row Value.string ByteArray.empty (h1 := fun _ => rfl) (w0 := wc) wc.heap.size rfl (.tmp 40) (.tmp 42) 25 9 (.string ⟨#[]⟩) 16 rfl Tryd.underlying25 infoS rfl (by decide) (.slice (some ⟨wc.heap.size, 0, none⟩) 1 1) [x.f0] x.f1 A1 n1 c1 (fun _ => True) rfl rfl (fun _ _ => trivial) (Kd.R_of_own (lit_row wc x.f0) (fun _ _ => trivial)) (Kd.C_below HCx.out ((Below.refl _ _).alloc (Nat.le_refl _) _)) ((Below.refl _ _).alloc (Nat.le_refl _) _) (by simp) (by have := Hn5.out; simp; omega) ?_; intro v1 w6 ho hb hg hat; rw [← HZs.out] at ho; obtain ⟨B1, d1, hv⟩ := Kd.R_slice ho; subst hv; have HZ := Aside0.mk ho; have HB6 := Aside0.mk hb; clear ho hb hg hat)
            have HRz : Aside0 (RgAt w w6 u3 all (6 * x12.toNat + (0 : Int).toNat)) := ⟨by
              have h := HR2.out.below (HB6.out)
              exact h⟩
            obtain ⟨nb, hnb⟩ : ∃ nb, nb = wc.heap.size := ⟨_, rfl⟩
            have HNB : Aside0 (∀ k, u3.ownBlock = some k → k < nb) := ⟨fun k hk => by rw [hnb]; exact HR2.out.lt hk⟩
            have HZ2 : Aside0 (w6.ownsRow nb 9 1 (.slice B1 zs.length d1) zs.length (encs Value.string zs)) := ⟨by rw [hnb]; exact Kd.own_of_R HZ.out⟩
            have HSz : Aside0 (∀ s ∈ zs, s.size ≤ 9223372036854775807) := ⟨fun s hs => by
              rw [HZs.out] at hs
              rcases List.mem_append.1 hs with h | h
              · rw [List.mem_singleton.1 h]; exact HSx.out.1
              · exact HSx.out.2 s h⟩
            clear hnb HZ HB6 HR2 HCx W0 W1 Wl
            go_loopg [3, 45] (zs.length + 1) (fun kp v3 v45 ws => ∃ (x45 : Int) (al : List ByteArray), v45 = .int .i64 x45 ∧ Aside0 (0 ≤ x45 ∧ x45 ≤ zs.length ∧ zs.length - x45.toNat < kp) ∧ Aside0 (RgAt w ws v3 al (6 * x12.toNat + x45.toNat)) ∧ Aside0 (ws.ownsRow nb 9 1 (.slice B1 zs.length d1) zs.length (encs Value.string zs)) ∧ Aside0 (v3.ownBlock ≠ (Value.slice B1 zs.length d1).ownBlock ∨ v3.ownBlock = none) ∧ Aside0 (regAdd all zs = regAdd al (zs.drop x45.toNat)))
            case atStart => exact ⟨0, all, rfl, ⟨by omega, by omega, by simp⟩, HRz, HZ2, ⟨by
              rcases HZ2.out.2 with ⟨h, h2⟩ | ⟨g, cap, cur, h, hn, _⟩
              · rw [HZs.out] at h2; simp at h2
              · rw [h]
                by_cases he : u3.ownBlock = none
                · exact .inr he
                · refine .inl (fun e => ?_)
                  have := HNB.out g e
                  omega⟩, ⟨rfl⟩⟩
            case round =>
              clear HRz HZ2 HNB
              obtain ⟨x45, al, rfl, HK2, HR, HZ, HNe, HA⟩ := hrel
              cases gk with
              | zero => have := HK2.out; omega
              | succ k2 =>
                have HZC : Aside0 (Kd.string.C wr B1 zs.length zs) := ⟨by
                  obtain ⟨A, c, e, _, h⟩ := Kd.R_reads (Kd.R_of_own (enc := Value.string) (h1 := fun _ => rfl) (ok := fun _ => True) HZ.out (fun _ _ => trivial))
                  injection e with e1 _ _
                  subst e1
                  exact h⟩
                obtain ⟨Aa, ca, hv⟩ := Kd.R_slice HR.out.row
                subst hv
                have HAl : Aside0 (al.length ≤ 2147483647 * 6 + 6) := ⟨by have := HR.out.2.2; have := HK2.out; have := HZl.out; have := HK.out; have := HL.out; omega⟩
                by_cases hlt2 : x45 < (zs.length : Int)
                · have hy0 : 0 ≤ x45 := HK2.out.1
                  have e1 : decide (x45 < (zs.length : Int)) = true := decide_eq_true hlt2
                  obtain ⟨ad2, e, hz0⟩ := Kd.at_string HZC.out x45 hy0 hlt2
                  cases e
                  have hlz := World.block_lt_of_cell? wr _ hz0
                  have hwr2 : wrap64 (x45 + 1) = x45 + 1 := by have := HZl.out; unfold wrap64; omega
                  have p2 := eq_true hy0
                  have q2 := eq_true hlt2
                  have h4 : x45.toNat < zs.length := by omega
                  have h5 : rdOf ByteArray.empty zs x45 = zs[x45.toNat] := by simp [rdOf, List.getD_eq_getElem?_getD, h4]
                  have HDz : Aside0 (zs.drop x45.toNat = rdOf ByteArray.empty zs x45 :: zs.drop (x45.toNat + 1)) := ⟨by rw [h5]; exact List.drop_eq_getElem_cons h4⟩
                  have HSs : Aside0 ((rdOf ByteArray.empty zs x45).size ≤ 9223372036854775807) := ⟨by rw [h5]; exact HSz.out _ (List.getElem_mem h4)⟩
                  clear h4 h5
                  generalize rdOf ByteArray.empty zs x45 = s at *
                  clear hy0 hlt2
                  have HFl : Aside0 (s.toList = [] ∨ letB s = false ∨ s ∈ al → regOK xs = false) := ⟨fun h => no_add (q := zs.drop (x45.toNat + 1)) (HE.out.trans (by rw [HD.out])) (by rw [← HDz.out, ← HA.out, HZs.out]; rfl) h⟩
                  by_cases hs0 : s.toList = []
                  · have hb0 : (s.toList == []) = true := by rw [hs0]; rfl
                    have HFs : Aside0 (regOK xs = false) := ⟨HFl.out (.inl hs0)⟩
                    go_wp2
                    go_ret
                    exact ⟨by rw [HFs.out]; rfl, HR.out.2.1⟩
                  · have hb0 : (s.toList == []) = false := beq_eq_false_iff_ne.2 hs0
                    cases hlb : letB s
                    · have HFs : Aside0 (regOK xs = false) := ⟨HFl.out (.inr (.inl hlb))⟩
                      go_wp2_with (go_at_call 17; refine (let_c s HSs.out _).mono ?_; rintro e w7 ⟨rfl, hB⟩; have HB7 := Aside0.mk hB; clear hB)
                      go_ret
                      exact ⟨by rw [HFs.out]; rfl, below_step HR.out.2.1 HB7.out⟩
                    · have HLB := Aside0.mk hlb
                      go_wp2_with (go_at_call 17; refine (let_c s HSs.out _).mono ?_; rintro e w7 ⟨rfl, hB⟩; have HR7 := Aside0.mk (HR.out.below hB); have HZ7 := Aside0.mk (pw_own_below HZ.out hB); clear hB)
                      clear hlb hz0 hlz
                      go_loop [58] (fun v58 => ∃ x58 : Int, v58 = .int .i64 x58 ∧ Aside0 (0 ≤ x58 ∧ x58 ≤ al.length ∧ ∀ t ∈ al.take x58.toNat, t ≠ s)) (fun v58 => al.length - (intOf v58).toNat)
                      case atStart => exact ⟨0, rfl, ⟨by omega, by omega, fun t ht => by simp at ht⟩⟩
                      case round =>
                        obtain ⟨x58, rfl, HK3⟩ := hrel
                        by_cases hlt3 : x58 < (al.length : Int)
                        · have hw0 : 0 ≤ x58 := HK3.out.1
                          have e3 : decide (x58 < (al.length : Int)) = true := decide_eq_true hlt3
                          have HAC : Aside0 (Kd.string.C w7 Aa al.length al) := ⟨by
                            obtain ⟨A, c, e, _, h⟩ := Kd.R_reads HR7.out.row
                            injection e with e1 _ _
                            subst e1
                            exact h⟩
                          obtain ⟨ad3, e, ht0⟩ := Kd.at_string HAC.out x58 hw0 hlt3
                          cases e
                          have hlw := World.block_lt_of_cell? w7 _ ht0
                          have hwr3 : wrap64 (x58 + 1) = x58 + 1 := by have := HAl.out; unfold wrap64; omega
                          have p3 := eq_true hw0
                          have q3 := eq_true hlt3
                          have h4 : x58.toNat < al.length := by omega
                          have h5 : rdOf ByteArray.empty al x58 = al[x58.toNat] := by simp [rdOf, List.getD_eq_getElem?_getD, h4]
                          have HT3 : Aside0 (al.take (x58.toNat + 1) = al.take x58.toNat ++ [rdOf ByteArray.empty al x58] ∧ rdOf ByteArray.empty al x58 ∈ al) := ⟨by rw [h5]; exact ⟨List.take_succ_eq_append_getElem h4, List.getElem_mem h4⟩⟩
                          clear h4 h5
                          generalize rdOf ByteArray.empty al x58 = t at *
                          clear hw0 hlt3
                          by_cases hst : s = t
                          · have hb3 : (s.toList == t.toList) = true := by rw [hst]; exact beq_self_eq_true _
                            have HFs : Aside0 (regOK xs = false) := ⟨HFl.out (.inr (.inr (by rw [hst]; exact HT3.out.2)))⟩
                            clear hst
                            go_wp2
                            go_ret
                            exact ⟨by rw [HFs.out]; rfl, HR7.out.2.1⟩
                          · have hb3 : (s.toList == t.toList) = false := beq_eq_false_iff_ne.2 (fun e => hst (toList_inj e))
                            have HST := Aside0.mk hst
                            clear hst
                            go_wp2
                            refine ⟨⟨wrap64 (x58 + 1), rfl, ⟨by rw [hwr3]; have := HK3.out; omega, by rw [hwr3]; have := of_eq_true q3; omega, fun y hy => ?_⟩⟩, ?_⟩
                            · have e5 : (wrap64 (x58 + 1)).toNat = x58.toNat + 1 := by rw [hwr3]; have := HK3.out; omega
                              rw [e5, HT3.out.1, List.mem_append, List.mem_singleton] at hy
                              rcases hy with hy | rfl
                              · exact HK3.out.2.2 y hy
                              · exact fun e => HST.out e.symm
                            · have := HK3.out; have := of_eq_true q3; simp [intOf]; rw [hwr3]; omega
                        · have hxe3 : al.length ≤ x58.toNat := by have := HK3.out; omega
                          have e3 : decide (x58 < (al.length : Int)) = false := decide_eq_false hlt3
                          have HNot : Aside0 (s ∉ al) := ⟨fun h => by
                            have := HK3.out.2.2 s (by rw [List.take_of_length_le hxe3]; exact h)
                            exact this rfl⟩
                          have HBs : Aside0 (w.heap.size ≤ w7.heap.size ∧ (al.length + 1) * 16 ≤ 140737488355328) := ⟨HR7.out.2.1.size, by have := HAl.out; omega⟩
                          clear hlt3 hxe3
                          go_wp2_with ((with_reducible refine gate_builtin (b := .append) (xs := #[.tmp 66, .tmp 68]) rfl ?_); at_builtin; refine Kd.R_append Kd.string (w0 := w) w.heap.size rfl (.tmp 66) (.tmp 68) 25 9 (.string ⟨#[]⟩) 16 rfl Tryd.underlying25 infoS rfl (by decide) (by omega) (.slice Aa al.length ca) al s [.string s] (fun _ => True) (fun _ => False) rfl (by first | (go_simp; done) | (go_simp; rfl)) ?aP (fun _ hk => hk.elim) ?aF ?aO ?aB ?aS ?aL ?_; (case aP => exact rfl); (case aF => exact (fun _ _ => trivial)); (case aO => exact HR7.out.row); (case aB => exact HR7.out.2.1); (case aS => exact HBs.out.1); (case aL => exact HBs.out.2); intro v1 w8 ho hb8 hg hat; have HO8 := Aside0.mk ho; have HB8 := Aside0.mk hb8; have HZ8 := Aside0.mk (own_other HZ7.out hg (ne_none HNe.out)); have HA8 := Aside0.mk hat; clear ho hb8 hg hat)
                          go_roundg k2
                          case measure => omega
                          case rel =>
                            have hk := HK2.out
                            have hq := of_eq_true q2
                            have e5 : (x45 + 1).toNat = x45.toNat + 1 := by omega
                            refine ⟨x45 + 1, al ++ [s], rfl, ⟨by omega⟩, ⟨Kd.own_of_R HO8.out, HB8.out, ?_⟩, HZ8, ⟨?_⟩, ⟨?_⟩⟩
                            · have := HR7.out.2.2
                              rw [List.length_append, e5]
                              simp
                              omega
                            · rcases HA8.out with h | ⟨g, h, hg⟩
                              · rw [h]; exact HNe.out
                              · refine .inl (fun e => ?_)
                                rw [h] at e
                                rcases HZ7.out.2 with ⟨hz, _⟩ | ⟨g2, cap, cur, hz, _, hh, _⟩
                                · rw [hz] at e; cases e
                                · rw [hz] at e
                                  have e6 : g = g2 := by injection e
                                  have := blk_lt hh
                                  omega
                            · rw [HA.out, HDz.out, regAdd, if_neg, e5]
                              rintro (h | h | h)
                              · exact hs0 h
                              · rw [HLB.out] at h; cases h
                              · exact HNot.out h
                · have hxe2 : zs.length ≤ x45.toNat := by have := HK2.out; omega
                  have e1 : decide (x45 < (zs.length : Int)) = false := decide_eq_false hlt2
                  have HE2 : Aside0 (regAdd all zs = some al) := ⟨by rw [HA.out, List.drop_eq_nil_of_le hxe2]; rfl⟩
                  have HE3 : Aside0 (regGo [] xs = regGo al (xs.drop (x12.toNat + 1))) := ⟨go_add (HE.out.trans (by rw [HD.out])) (by rw [← HE2.out, HZs.out]; rfl) HNb.out⟩
                  clear hlt2 hxe2
                  go_wp2
                  go_roundg k1
                  case measure => omega
                  case rel =>
                    have hk := HK.out
                    have hq := of_eq_true q1
                    have e5 : (x12 + 1).toNat = x12.toNat + 1 := by omega
                    refine ⟨x12 + 1, al, by rw [hwr], ⟨by omega⟩, ⟨HR.out.1, HR.out.2.1, ?_⟩, ⟨by rw [e5]; exact HE3.out⟩⟩
                    have := HR.out.2.2
                    have := HK2.out
                    have := HZl.out
                    omega
      · have hxe : xs.length ≤ x12.toNat := by have := HK.out; omega
        have c2b0 : decide (x12 < (xs.length : Int)) = false := decide_eq_false hlt
        have HE2 : Aside0 (regOK xs = decide (xs.length ≤ 20)) := ⟨by unfold regOK; rw [HE.out, List.drop_eq_nil_of_le hxe]; simp [regGo]⟩
        go_wp2
        go_ret
        exact ⟨by rw [HE2.out, show decide (xs.length ≤ 20) = decide ((xs.length : Int) ≤ 20) from by rw [decide_eq_decide]; omega]; rfl, HR.out.2.1⟩
end Go.Proofs.YtibjlefenodhaaaDoorReg
