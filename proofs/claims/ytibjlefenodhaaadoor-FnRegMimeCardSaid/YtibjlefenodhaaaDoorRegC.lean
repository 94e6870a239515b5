/- What changes and what stays; strings.ToLower of small letters; the methods of a given lexer. -/
import Derived.Test.YtibjlefenodhaaaDoorRegB
import Derived.Test.YtibjlefenodhaaaDoorShelf
set_option linter.unusedVariables false
set_option linter.unusedSimpArgs false
namespace Go.Proofs.YtibjlefenodhaaaDoorReg
open Go.RowKit Go.Proofs.YtibjlefenodhaaaDoorW.PrintWords Go.Proofs.YtibjlefenodhaaaDoor.T Go.Proofs.YtibjlefenodhaaaDoorFmt Go.Proofs.YtibjlefenodhaaaDoorMapI
/-- All blocks below the end but those of S are as they were. -/
structure Ch (S : Nat → Prop) (w w' : World) : Prop where
  st : w'.os = w.os ∧ w'.tape = w.tape ∧ w'.output = w.output
  size : w.heap.size ≤ w'.heap.size
  block : ∀ k, k < w.heap.size → ¬ S k → w'.heap[k]? = w.heap[k]?
theorem Ch.refl (S : Nat → Prop) (w : World) : Ch S w w := ⟨⟨rfl, rfl, rfl⟩, Nat.le_refl _, fun _ _ _ => rfl⟩
theorem Ch.trans {S : Nat → Prop} {a b c : World} (h : Ch S a b) (k : Ch S b c) : Ch S a c :=
  ⟨⟨k.st.1.trans h.st.1, k.st.2.1.trans h.st.2.1, k.st.2.2.trans h.st.2.2⟩, Nat.le_trans h.size k.size, fun j hj hs => (k.block j (Nat.lt_of_lt_of_le hj h.size) hs).trans (h.block j hj hs)⟩
theorem Ch.below {S : Nat → Prop} {w w' : World} (h : Below w.heap.size w w') : Ch S w w' := ⟨⟨h.os, h.tape, h.output⟩, h.size, fun k hk _ => h.block k hk⟩
theorem Ch.grown {S : Nat → Prop} {w w' : World} {row : Option Nat} (h : w.grownBy w' row) (hs : ∀ k, row = some k → S k) : Ch S w w' :=
  ⟨⟨h.os, h.tape, h.output⟩, h.size, fun k hk hn => h.block k hk (fun e => hn (hs k e.symm))⟩
theorem Ch.gr {S : Nat → Prop} {w w' : World} {row : Option Nat} (h : Gr w w' row) (hs : ∀ k, row = some k → S k) : Ch S w w' :=
  ⟨h.st, h.size, fun k hk hn => h.block k hk (fun e => hn (hs k e.symm))⟩
theorem Ch.set {S : Nat → Prop} {w : World} {b j : Nat} {u : Value} (hs : S b) : Ch S w (w.setCell ⟨b, j, none⟩ u) :=
  ⟨⟨rfl, rfl, rfl⟩, by rw [World.size_setCell]; exact Nat.le_refl _, fun k hk hn => Below.heap_setCell _ ⟨b, j, none⟩ _ k (fun e => hn (by rw [e]; exact hs))⟩
theorem Ch.mono {S S' : Nat → Prop} {w w' : World} (h : Ch S w w') (hs : ∀ k, S k → S' k) : Ch S' w w' := ⟨h.st, h.size, fun k hk hn => h.block k hk (fun e => hn (hs k e))⟩
/-- Text of small letters. -/
structure Low (s : ByteArray) : Prop where
  sz : s.size ≤ 1000
  lo : ∀ b ∈ s.data.toList, 97 ≤ b.toNat ∧ b.toNat ≤ 122
theorem low_id {l : List UInt8} (h : ∀ b ∈ l, 97 ≤ b.toNat ∧ b.toNat ≤ 122) : Lib.toLowerA l = l := by
  unfold Lib.toLowerA
  rw [List.map_congr_left (g := id) (fun b hb => ?_), List.map_id]
  have h1 := h b hb
  have h2 : Lib.isUpperB b = false := by
    unfold Lib.isUpperB
    simp [UInt8.le_iff_toNat_le, UInt8.lt_iff_toNat_lt]
    omega
  unfold Lib.lowerB
  rw [h2]; rfl
theorem low_c (s : ByteArray) (h : Low s) (w : World) : Calls Tryd.prog 31 #[.string s] w fun e w' => e = .returned (.string s) ∧ Below w.heap.size w w' := by
  refine (Tryd.strings_ToLower_ascii s w (by have := h.sz; omega) (fun j b hj => by have := (h.lo b (List.mem_of_getElem? hj)).2; omega)).mono ?_
  rintro e w' ⟨rfl, hB⟩
  rw [low_id h.lo]
  exact ⟨rfl, hB⟩
theorem setreg_c (b : Nat) (p : Value) (w : World) : Calls Tryd.prog 111 #[gv b, p] w fun e w' => e = .returned (lx b) ∧ Below w.heap.size w w' := by
  have hu := Tryd.underlying63
  go_enter Tryd.func111, Tryd.ntmps111
  go_wp2
  go_ret
  exact ⟨rfl, (Below.refl _ _).alloc (Nat.le_refl _) _⟩
theorem meth_setr (b : Nat) (w : World) : (method 286 63 (gv b) "SetRegistry").run Tryd.prog w = .ok (111, gv b) w := by kernel_rfl
theorem updS_twice (f : ByteArray → Option Value) (k : ByteArray) (v : Value) : updS (updS f k v) k v = updS f k v := by
  funext y
  unfold updS
  split <;> rfl
/-- Aliases, each with the lexer b. -/
def alsF (f : ByteArray → Option Value) (l : List ByteArray) (b : Nat) : ByteArray → Option Value := l.foldl (fun f a => updS f a (lx b)) f
/-- Block b holds a lexer's config: its name, its aliases, its kinds of text. -/
def CfgAt (w : World) (base b : Nat) (x : I) : Prop :=
  ∃ v1 v2 v3 v4 p, w.heap[b]? = some (.cells #[.string x.f0, v1, v2, v3, v4, .bool false, .bool false, .bool false, .bool false, .float .f32 p, .pointer none] 58 (0, 0)) ∧ base ≤ b ∧
    Kd.string.R 9 w base (fun _ => True) v1 x.f1 ∧ Kd.string.R 9 w base (fun _ => True) v4 x.f4
theorem CfgAt.cfg {w : World} {base b : Nat} {x : I} (h : CfgAt w base b x) : Cfg w b x.f0 := by
  obtain ⟨v1, v2, v3, v4, p, h1, _⟩ := h
  exact ⟨_, h1, rfl⟩
/-- What the registry's own steps change. -/
def Sr (n0 : Nat) (vL : Value) (k : Nat) : Prop := (n0 ≤ k ∧ k < n0 + 3) ∨ some k = vL.ownBlock
theorem CfgAt.ch {w w' : World} {n0 b cN cA : Nat} {x : I} {vL : Value} {fN fA : ByteArray → Option Value} {bs : List Nat} (h : CfgAt w (n0 + 3) b x) (hL : Kd.R kX 46 w (n0 + 3) (fun _ => True) vL bs) (hc : Ch (Sr n0 vL) w w') : CfgAt w' (n0 + 3) b x := by
  obtain ⟨v1, v2, v3, v4, p, h1, h2, h3, h4⟩ := h
  have row : ∀ {v : Value} {xs : List ByteArray}, Kd.string.R 9 w (n0 + 3) (fun _ => True) v xs → Kd.string.R 9 w' (n0 + 3) (fun _ => True) v xs := fun {v xs} hv => by
    refine Kd.R_mono (Kd.R_step (Kd.R_bound hv) (fun k hk hlt => hc.block k hlt (fun hs => ?_))) (fun _ _ => trivial)
    rcases hs with hs | hs
    · have := hk.2.1; omega
    · obtain ⟨cs, hcs⟩ := Kd.R_typed hL k hs.symm
      obtain ⟨q, hq, cells, hcells⟩ := hk.2.2.2
      rw [hcs] at hcells
      injection hcells with hcells
      injection hcells with _ hcells
      subst hcells
      rcases List.mem_cons.1 hq with e | hq
      · revert e; decide
      · cases hq
  refine ⟨v1, v2, v3, v4, p, (hc.block b (blk_lt h1) (fun hs => ?_)).trans h1, h2, row h3, row h4⟩
  rcases hs with hs | hs
  · omega
  · obtain ⟨cs, hcs⟩ := Kd.R_typed hL b hs.symm
    rw [hcs] at h1
    injection h1 with h1
    injection h1 with _ h1
    revert h1; decide
end Go.Proofs.YtibjlefenodhaaaDoorReg
