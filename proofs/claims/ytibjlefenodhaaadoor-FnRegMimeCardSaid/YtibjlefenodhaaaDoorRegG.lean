/- chroma.LexerRegistry.Get, impl.RegGet, walked. -/
import Derived.Test.YtibjlefenodhaaaDoorRegE
import Derived.Test.YtibjlefenodhaaaDoorRegR
set_option linter.unusedVariables false
set_option linter.unusedSimpArgs false
namespace Go.Proofs.YtibjlefenodhaaaDoorReg
open Go.RowKit Go.Proofs.YtibjlefenodhaaaDoorW.PrintWords Go.Proofs.YtibjlefenodhaaaDoor.T Go.Proofs.YtibjlefenodhaaaDoorFmt Go.Proofs.YtibjlefenodhaaaDoorMapI
open Go.ChangeMaps Go.MapKept Go.WideShapes in
theorem MapS_look {w : World} {b n : Nat} {f : ByteArray → Option Value} (h : MapS Tryd.prog 9 w b n f) {k : ByteArray} (ok : k.size ≤ maxLen) :
    (Instr.lookup 68 (.map (some b)) (.string k) false).run Tryd.prog w = .ok ((f k).getD .nilIface) w := by
  obtain ⟨D, hown, hD, hs⟩ := h
  have hz : (zeroValue 46).run Tryd.prog w = .ok .nilIface w := by kernel_rfl
  obtain ⟨v, ps, hrun, hv⟩ := hown.lookup (Maps.string_keyed Tryd.underlying9) Tryd.underlying68 hz (zd := .held .nilIface) (zp := []) rfl (WideMaps.keyOf_string_mk Tryd.underlying9 ok)
  rw [hs k ok] at hv
  cases hf : f k with
  | none => rw [hf] at hv; simp [hld] at hv; rw [hrun, hv.1]; rfl
  | some u => rw [hf] at hv; simp [hld] at hv; rw [hrun, hv.1]; rfl
/-- A text in small letters. -/
def lw (s : ByteArray) : ByteArray := ⟨(Lib.toLowerA s.data.toList).toArray⟩
theorem lwc_c (s : ByteArray) (h1 : s.size ≤ 1000) (h2 : ∀ b ∈ s.data.toList, b.toNat < 128) (w : World) : Calls Tryd.prog 31 #[.string s] w fun e w' => e = .returned (.string (lw s)) ∧ Below w.heap.size w w' :=
  Tryd.strings_ToLower_ascii s w (by omega) (fun j b hj => h2 b (List.mem_of_getElem? hj))
theorem lw_size (s : ByteArray) : (lw s).size = s.size := by
  unfold lw Lib.toLowerA ByteArray.size
  simp
/-- What Get finds. -/
def getV (fN fA : ByteArray → Option Value) (s : ByteArray) : Value :=
  match fN s with
  | some v => v
  | none => match fA s with
    | some v => v
    | none => match fN (lw s) with
      | some v => v
      | none => match fA (lw s) with
        | some v => v
        | none => .nilIface
set_option maxRecDepth 100000 in
set_option maxHeartbeats 8000000 in
theorem get_c (n0 cN cA : Nat) (vL : Value) (fN fA : ByteArray → Option Value) (bs : List Nat) (s : ByteArray) (w : World) (hg : Rg w n0 cN cA vL fN fA bs) (h1 : s.size ≤ 1000) (h2 : ∀ b ∈ s.data.toList, b.toNat < 128) (hv : ∀ k v, fN k = some v ∨ fA k = some v → ∃ b, v = lx b) :
    Calls Tryd.prog 20 #[.pointer (some ⟨n0 + 2, 0, none⟩), .string s] w fun e w' => e = .returned (getV fN fA s) ∧ Below w.heap.size w w' := by
  have hu2 := Tryd.underlying70
  have hnn : ∀ (w : World), (Go.binOp .neq 46 .nilIface .nilIface).run Tryd.prog w = .ok (.bool false) w := fun w => run_neq_nil_nil (P := Tryd.prog) w 46 (by kernel_rfl)
  have r1 : w.cell? ⟨n0 + 2, 1, none⟩ = some (.map (some n0)) := (blk_cell hg.hr 1).trans rfl
  have r2 : w.cell? ⟨n0 + 2, 2, none⟩ = some (.map (some (n0 + 1))) := (blk_cell hg.hr 2).trans rfl
  have rl := blk_lt hg.hr
  have hsz : s.size ≤ maxLen := by unfold maxLen; omega
  have hsz2 : (lw s).size ≤ maxLen := by rw [lw_size]; exact hsz
  have L1 := MapS_look hg.hN hsz
  have L2 := MapS_look hg.hA hsz
  have HG := Aside0.mk hg
  have HV := Aside0.mk hv
  have HS := Aside0.mk (And.intro h1 h2)
  have HZ := Aside0.mk hsz2
  clear hg hv h1 h2 hsz hsz2
  cases e1 : fN s with
  | some v =>
    obtain ⟨b, rfl⟩ := HV.out s v (.inl e1)
    have HF : Aside0 (getV fN fA s = lx b) := ⟨by unfold getV; rw [e1]⟩
    rw [e1, Option.getD_some] at L1
    clear e1
    go_enter Tryd.func20, Tryd.ntmps20
    go_wp2
    go_ret
    exact ⟨by rw [HF.out]; rfl, Below.refl _ _⟩
  | none =>
    cases e2 : fA s with
    | some v =>
      obtain ⟨b, rfl⟩ := HV.out s v (.inr e2)
      have HF : Aside0 (getV fN fA s = lx b) := ⟨by unfold getV; rw [e1, e2]⟩
      rw [e1, Option.getD_none] at L1
      rw [e2, Option.getD_some] at L2
      clear e1 e2
      go_enter Tryd.func20, Tryd.ntmps20
      go_wp2
      go_ret
      exact ⟨by rw [HF.out]; rfl, Below.refl _ _⟩
    | none =>
      rw [e1, Option.getD_none] at L1
      rw [e2, Option.getD_none] at L2
      have HL3 : Aside0 (∀ W, Below w.heap.size w W → W.cell? ⟨n0 + 2, 1, none⟩ = some (.map (some n0)) ∧ n0 + 2 < W.heap.size ∧ (Instr.lookup 68 (.map (some n0)) (.string (lw s)) false).run Tryd.prog W = .ok ((fN (lw s)).getD .nilIface) W) := ⟨fun W hB => ⟨(blk_cell (HG.out.below hB).hr 1).trans rfl, blk_lt (HG.out.below hB).hr, MapS_look (HG.out.below hB).hN HZ.out⟩⟩
      have HL4 : Aside0 (∀ W, Below w.heap.size w W → W.cell? ⟨n0 + 2, 2, none⟩ = some (.map (some (n0 + 1))) ∧ n0 + 2 < W.heap.size ∧ (Instr.lookup 68 (.map (some (n0 + 1))) (.string (lw s)) false).run Tryd.prog W = .ok ((fA (lw s)).getD .nilIface) W) := ⟨fun W hB => ⟨(blk_cell (HG.out.below hB).hr 2).trans rfl, blk_lt (HG.out.below hB).hr, MapS_look (HG.out.below hB).hA HZ.out⟩⟩
      have HE : Aside0 (fN s = none ∧ fA s = none) := ⟨e1, e2⟩
      clear e1 e2
      go_enter Tryd.func20, Tryd.ntmps20
      go_upto_region 7 with (fail)
      clear L1 L2
      go_cut [7] (fun v7 wc => v7 = (fN (lw s)).getD .nilIface ∧ Aside0 (Below w.heap.size w wc))
      case first =>
        go_region_with (go_at_call 31; refine (lwc_c s HS.out.1 HS.out.2 _).mono ?_; rintro e w5 ⟨rfl, hB0⟩; have hB := below_step (Below.refl w.heap.size w).drew hB0; have X5 := Aside0.mk hB; obtain ⟨c1, c2, c3⟩ := HL3.out w5 hB; clear hB hB0)
        all_goals
          go_wp2
          go_meet
          case rel => exact ⟨rfl, X5⟩
      case rest =>
        obtain ⟨hv7, HB⟩ := hcut
        cases e3 : fN (lw s) with
        | some v =>
          obtain ⟨b, rfl⟩ := HV.out _ v (.inl e3)
          have HF : Aside0 (getV fN fA s = lx b) := ⟨by unfold getV; rw [HE.out.1, HE.out.2, e3]⟩
          rw [e3, Option.getD_some] at hv7
          subst hv7
          clear e3
          go_wp2
          go_ret
          exact ⟨by rw [HF.out]; rfl, HB.out⟩
        | none =>
          have HE3 := Aside0.mk e3
          rw [e3, Option.getD_none] at hv7
          subst hv7
          clear e3
          go_upto_region 10 with (fail)
          have d0 := (HL4.out wc HB.out).1
          have d1 := (HL4.out wc HB.out).2.1
          clear r1 r2 rl
          go_cut [8] (fun v8 wd => v8 = (fA (lw s)).getD .nilIface ∧ Aside0 (Below w.heap.size w wd))
          case first =>
            go_region_with (go_at_call 31; refine (lwc_c s HS.out.1 HS.out.2 _).mono ?_; rintro e w5 ⟨rfl, hB0⟩; have hB := below_step HB.out (below_step (Below.refl wc.heap.size wc).drew hB0); have X5 := Aside0.mk hB; obtain ⟨c1, c2, c3⟩ := HL4.out w5 hB; clear hB hB0)
            all_goals
              go_wp2
              go_meet
              case rel => exact ⟨rfl, X5⟩
          case rest =>
            obtain ⟨hv8, HB⟩ := hcut
            cases e4 : fA (lw s) with
            | some v =>
              obtain ⟨b, rfl⟩ := HV.out _ v (.inr e4)
              have HF : Aside0 (getV fN fA s = lx b) := ⟨by unfold getV; rw [HE.out.1, HE.out.2, HE3.out, e4]⟩
              rw [e4, Option.getD_some] at hv8
              subst hv8
              clear e4
              go_wp2
              go_ret
              exact ⟨by rw [HF.out]; rfl, HB.out⟩
            | none =>
              have HF : Aside0 (getV fN fA s = .nilIface) := ⟨by unfold getV; rw [HE.out.1, HE.out.2, HE3.out, e4]⟩
              rw [e4, Option.getD_none] at hv8
              subst hv8
              clear e4
              go_wp2
              go_ret
              exact ⟨by rw [HF.out]; rfl, HB.out⟩
end Go.Proofs.YtibjlefenodhaaaDoorReg
