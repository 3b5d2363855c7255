import PyProof.Rows.All
import Wide.All
import OpenK.AllK
import Wide.FinOn
import PySem.Challenge.RW_bj0062_01
set_option rowWalk.seconds 0
set_option Elab.async false
set_option maxHeartbeats 4000000
set_option linter.all false

/-! part Hd -/
section
open PySem PySem.W PyProof.Rows
set_option Elab.async false
namespace Mine
set_option maxRecDepth 100000 in
set_option maxHeartbeats 8000000 in
open_top hd for PySem.Challenge.rw_bj0062_01
end Mine
end

theorem Mine.anew_P0 : 1 = 1 := by
  w_top off
  first | walk1 | rfl

/-! part P0 -/
section
open PySem PySem.W PyProof.Rows PySem.Calls PySem.Spec
set_option Elab.async false
namespace Mine
set_option maxRecDepth 100000
/-! plain functions on ints, as the text says them -/
abbrev xorZ (a b : Int) : Int := Builtin.bitXor a b
def rng (a : Int) : Prop := 0 ≤ a ∧ a < 256
def dblZ (p : Int) : Int := if p < 128 then 2 * p else xorZ (2 * p) 285
def powZ : Nat → Int
  | 0 => 1
  | k + 1 => dblZ (powZ k)
def powsT : List Int := (List.range 255).map powZ
def logsT : List (Int × Int) := (List.range 255).map fun k => (powZ k, (k : Int))
def logZ (a : Int) : Int := kdfLook logsT a 0
def mulZ (a b : Int) : Int := if a = 0 ∨ b = 0 then 0 else powsT.getD ((logZ a + logZ b).fmod 255).toNat 0
def divZ (a b : Int) : Int := if a = 0 then 0 else powsT.getD ((logZ a - logZ b).fmod 255).toNat 0
def valueZ (row : List Int) (x : Int) : Int := row.foldl (fun t w => xorZ (mulZ t x) w) 0

theorem lor_eq (x : Nat) : ∀ y : Nat, (x ||| y) = (x ^^^ y) + (x &&& y) := by
  induction x using Nat.strongRecOn with
  | ind x ih =>
    intro y
    by_cases hx : x = 0
    · subst hx; simp
    · have h := ih (x / 2) (by omega) (y / 2)
      have o2 := @Nat.or_div_two x y
      have x2 := @Nat.xor_div_two x y
      have a2 := @Nat.and_div_two x y
      have om := @Nat.or_mod_two_eq_one x y
      have xm := @Nat.xor_mod_two_eq_one x y
      have am := @Nat.and_mod_two_eq_one x y
      have c1 : (x ||| y) % 2 = 0 ∨ (x ||| y) % 2 = 1 := by omega
      have c2 : (x ^^^ y) % 2 = 0 ∨ (x ^^^ y) % 2 = 1 := by omega
      have c3 : (x &&& y) % 2 = 0 ∨ (x &&& y) % 2 = 1 := by omega
      have c4 : x % 2 = 0 ∨ x % 2 = 1 := by omega
      have c5 : y % 2 = 0 ∨ y % 2 = 1 := by omega
      rw [← o2, ← x2, ← a2] at h
      rcases c1 with c1 | c1 <;> rcases c2 with c2 | c2 <;> rcases c3 with c3 | c3 <;> rcases c4 with c4 | c4 <;> rcases c5 with c5 | c5 <;> simp [c1, c2, c3, c4, c5] at om xm am <;> omega
theorem bitXor_cast (x y : Nat) : Builtin.bitXor (x : Int) (y : Int) = ((x ^^^ y : Nat) : Int) := by
  rw [bitXor_and]
  have e : Builtin.bitAnd (x : Int) (y : Int) = ((x &&& y : Nat) : Int) := by
    unfold Builtin.bitAnd
    simp
  rw [e]
  have h := lor_eq x y
  have h2 : (x ||| y) + (x &&& y) = x + y := by
    have : ∀ x : Nat, ∀ y : Nat, (x ||| y) + (x &&& y) = x + y := by
      intro x
      induction x using Nat.strongRecOn with
      | ind x ih =>
        intro y
        by_cases hx : x = 0
        · subst hx; simp
        · have h := ih (x / 2) (by omega) (y / 2)
          have o2 := @Nat.or_div_two x y
          have a2 := @Nat.and_div_two x y
          have om := @Nat.or_mod_two_eq_one x y
          have am := @Nat.and_mod_two_eq_one x y
          have c1 : (x ||| y) % 2 = 0 ∨ (x ||| y) % 2 = 1 := by omega
          have c3 : (x &&& y) % 2 = 0 ∨ (x &&& y) % 2 = 1 := by omega
          have c4 : x % 2 = 0 ∨ x % 2 = 1 := by omega
          have c5 : y % 2 = 0 ∨ y % 2 = 1 := by omega
          rw [← o2, ← a2] at h
          rcases c1 with c1 | c1 <;> rcases c3 with c3 | c3 <;> rcases c4 with c4 | c4 <;> rcases c5 with c5 | c5 <;> simp [c1, c3, c4, c5] at om am <;> omega
    exact this x y
  omega
theorem rng_lo {a : Int} (h : rng a) : 0 ≤ a := h.1
theorem rng_hi {a : Int} (h : rng a) : a < 256 := h.2
theorem rng_nat {a : Int} (h : rng a) : ∃ x : Nat, a = (x : Int) ∧ x < 256 := ⟨a.toNat, by have := h.1; omega, by have := h.1; have := h.2; omega⟩
theorem rng_of {x : Nat} (h : x < 256) : rng (x : Int) := ⟨by omega, by omega⟩
theorem xorZ_rng {a b : Int} (ha : rng a) (hb : rng b) : rng (xorZ a b) := by
  obtain ⟨x, rfl, hx⟩ := rng_nat ha
  obtain ⟨y, rfl, hy⟩ := rng_nat hb
  show rng (Builtin.bitXor _ _)
  rw [bitXor_cast]
  exact rng_of (Nat.xor_lt_two_pow (n := 8) hx hy)

def EXPT : List Int := [1, 2, 4, 8, 16, 32, 64, 128, 29, 58, 116, 232, 205, 135, 19, 38, 76, 152, 45, 90, 180, 117, 234, 201, 143, 3, 6, 12, 24, 48, 96, 192, 157, 39, 78, 156, 37, 74, 148, 53, 106, 212, 181, 119, 238, 193, 159, 35, 70, 140, 5, 10, 20, 40, 80, 160, 93, 186, 105, 210, 185, 111, 222, 161, 95, 190, 97, 194, 153, 47, 94, 188, 101, 202, 137, 15, 30, 60, 120, 240, 253, 231, 211, 187, 107, 214, 177, 127, 254, 225, 223, 163, 91, 182, 113, 226, 217, 175, 67, 134, 17, 34, 68, 136, 13, 26, 52, 104, 208, 189, 103, 206, 129, 31, 62, 124, 248, 237, 199, 147, 59, 118, 236, 197, 151, 51, 102, 204, 133, 23, 46, 92, 184, 109, 218, 169, 79, 158, 33, 66, 132, 21, 42, 84, 168, 77, 154, 41, 82, 164, 85, 170, 73, 146, 57, 114, 228, 213, 183, 115, 230, 209, 191, 99, 198, 145, 63, 126, 252, 229, 215, 179, 123, 246, 241, 255, 227, 219, 171, 75, 150, 49, 98, 196, 149, 55, 110, 220, 165, 87, 174, 65, 130, 25, 50, 100, 200, 141, 7, 14, 28, 56, 112, 224, 221, 167, 83, 166, 81, 162, 89, 178, 121, 242, 249, 239, 195, 155, 43, 86, 172, 69, 138, 9, 18, 36, 72, 144, 61, 122, 244, 245, 247, 243, 251, 235, 203, 139, 11, 22, 44, 88, 176, 125, 250, 233, 207, 131, 27, 54, 108, 216, 173, 71, 142, 1]
def LOGT : List Int := [0, 0, 1, 25, 2, 50, 26, 198, 3, 223, 51, 238, 27, 104, 199, 75, 4, 100, 224, 14, 52, 141, 239, 129, 28, 193, 105, 248, 200, 8, 76, 113, 5, 138, 101, 47, 225, 36, 15, 33, 53, 147, 142, 218, 240, 18, 130, 69, 29, 181, 194, 125, 106, 39, 249, 185, 201, 154, 9, 120, 77, 228, 114, 166, 6, 191, 139, 98, 102, 221, 48, 253, 226, 152, 37, 179, 16, 145, 34, 136, 54, 208, 148, 206, 143, 150, 219, 189, 241, 210, 19, 92, 131, 56, 70, 64, 30, 66, 182, 163, 195, 72, 126, 110, 107, 58, 40, 84, 250, 133, 186, 61, 202, 94, 155, 159, 10, 21, 121, 43, 78, 212, 229, 172, 115, 243, 167, 87, 7, 112, 192, 247, 140, 128, 99, 13, 103, 74, 222, 237, 49, 197, 254, 24, 227, 165, 153, 119, 38, 184, 180, 124, 17, 68, 146, 217, 35, 32, 137, 46, 55, 63, 209, 91, 149, 188, 207, 205, 144, 135, 151, 178, 220, 252, 190, 97, 242, 86, 211, 171, 20, 42, 93, 158, 132, 60, 57, 83, 71, 109, 65, 162, 31, 45, 67, 216, 183, 123, 164, 118, 196, 23, 73, 236, 127, 12, 111, 246, 108, 161, 59, 82, 41, 157, 85, 170, 251, 96, 134, 177, 187, 204, 62, 90, 203, 89, 95, 176, 156, 169, 160, 81, 11, 245, 22, 235, 122, 117, 44, 215, 79, 174, 213, 233, 230, 231, 173, 232, 116, 214, 244, 234, 168, 80, 88, 175]
theorem expT_len : EXPT.length = 256 := by decide +kernel
theorem logT_len : LOGT.length = 256 := by decide +kernel
theorem expT_step : ∀ k : Nat, k < 255 → dblZ (EXPT.getD k 0) = EXPT.getD (k + 1) 0 := by
  have h : ((List.range 255).all fun k => decide (dblZ (EXPT.getD k 0) = EXPT.getD (k + 1) 0)) = true := by decide +kernel
  intro k hk
  have := List.all_eq_true.mp h k (List.mem_range.mpr hk)
  simpa using this
theorem powZ_eq : ∀ k : Nat, k ≤ 255 → powZ k = EXPT.getD k 0
  | 0, _ => by decide +kernel
  | k + 1, h => by
    show dblZ (powZ k) = _
    rw [powZ_eq k (by omega), expT_step k (by omega)]
theorem expT_rng : ∀ k : Nat, k ≤ 255 → 1 ≤ EXPT.getD k 0 ∧ EXPT.getD k 0 < 256 := by
  have h : ((List.range 256).all fun k => decide (1 ≤ EXPT.getD k 0) && decide (EXPT.getD k 0 < 256)) = true := by decide +kernel
  intro k hk
  have := List.all_eq_true.mp h k (List.mem_range.mpr (by omega))
  simpa using this
theorem logT_exp : ∀ k : Nat, k < 255 → LOGT.getD (EXPT.getD k 0).toNat 0 = (k : Int) := by
  have h : ((List.range 255).all fun k => decide (LOGT.getD (EXPT.getD k 0).toNat 0 = (k : Int))) = true := by decide +kernel
  intro k hk
  have := List.all_eq_true.mp h k (List.mem_range.mpr hk)
  simpa using this
theorem expT_log : ∀ a : Nat, 1 ≤ a → a < 256 → 0 ≤ LOGT.getD a 0 ∧ LOGT.getD a 0 < 255 ∧ EXPT.getD (LOGT.getD a 0).toNat 0 = (a : Int) := by
  have h : ((List.range 256).all fun a => decide (1 ≤ a → 0 ≤ LOGT.getD a 0 ∧ LOGT.getD a 0 < 255 ∧ EXPT.getD (LOGT.getD a 0).toNat 0 = (a : Int))) = true := by decide +kernel
  intro a h1 h2
  have := List.all_eq_true.mp h a (List.mem_range.mpr h2)
  simp only [decide_eq_true_eq] at this
  exact this h1
theorem powZ_rng {k : Nat} (h : k ≤ 255) : 1 ≤ powZ k ∧ powZ k < 256 := by rw [powZ_eq k h]; exact expT_rng k h
theorem powsT_len : powsT.length = 255 := by simp [powsT]
theorem powsT_get {k : Nat} (h : k < 255) : powsT.getD k 0 = powZ k := by
  simp [powsT, List.getD, h]
theorem powsT_rng {k : Nat} (h : k < 255) : rng (powsT.getD k 0) := by
  rw [powsT_get h]; have := powZ_rng (k := k) (by omega); exact ⟨by omega, this.2⟩
theorem log_of_pow {a : Int} {k : Nat} (hk : k < 255) (h : powZ k = a) : LOGT.getD a.toNat 0 = (k : Int) := by
  rw [← h, powZ_eq k (by omega)]; exact logT_exp k hk
theorem logs_has {a : Int} (h1 : 1 ≤ a) (h2 : a < 256) : kdfHas logsT a = true := by
  have h := expT_log a.toNat (by omega) (by omega)
  unfold kdfHas logsT
  rw [List.any_eq_true]
  refine ⟨(powZ (LOGT.getD a.toNat 0).toNat, ((LOGT.getD a.toNat 0).toNat : Int)), ?_, ?_⟩
  · exact List.mem_map.mpr ⟨(LOGT.getD a.toNat 0).toNat, List.mem_range.mpr (by omega), rfl⟩
  · rw [decide_eq_true_eq]
    show powZ _ = a
    rw [powZ_eq _ (by omega), h.2.2]; omega
theorem logZ_is {a : Int} (h1 : 1 ≤ a) (h2 : a < 256) : ∃ k : Nat, k < 255 ∧ logZ a = (k : Int) ∧ powZ k = a := by
  have h := logs_has h1 h2
  unfold kdfHas at h
  unfold logZ kdfLook
  cases hf : logsT.find? (fun p => decide (p.1 = a)) with
  | none =>
    rw [List.find?_eq_none] at hf
    obtain ⟨p, hp, he⟩ := List.any_eq_true.mp h
    exact absurd he (hf p hp)
  | some p =>
    have hm := List.mem_of_find?_eq_some hf
    have he := List.find?_some hf
    obtain ⟨k, hk, rfl⟩ := List.mem_map.mp (by unfold logsT at hm; exact hm)
    exact ⟨k, List.mem_range.mp hk, rfl, by simpa using he⟩
theorem logZ_eq {a : Int} (h1 : 1 ≤ a) (h2 : a < 256) : logZ a = LOGT.getD a.toNat 0 := by
  obtain ⟨k, hk, e, hp⟩ := logZ_is h1 h2
  rw [e, log_of_pow hk hp]
theorem logZ_rng {a : Int} (h1 : 1 ≤ a) (h2 : a < 256) : 0 ≤ logZ a ∧ logZ a < 255 := by
  obtain ⟨k, hk, e, _⟩ := logZ_is h1 h2
  rw [e]; omega
theorem fmod255 (x : Int) : 0 ≤ x.fmod 255 ∧ x.fmod 255 < 255 := ⟨Int.fmod_nonneg_of_pos _ (by decide), Int.fmod_lt_of_pos _ (by decide)⟩
theorem mulZ_rng {a b : Int} : rng (mulZ a b) := by
  unfold mulZ
  split
  · exact ⟨by decide, by decide⟩
  · exact powsT_rng (by have := fmod255 (logZ a + logZ b); omega)
theorem divZ_rng {a b : Int} : rng (divZ a b) := by
  unfold divZ
  split
  · exact ⟨by decide, by decide⟩
  · exact powsT_rng (by have := fmod255 (logZ a - logZ b); omega)
theorem powZ_inj {i j : Nat} (hi : i < 255) (hj : j < 255) (h : powZ i = powZ j) : i = j := by
  have a := log_of_pow hi rfl
  have b := log_of_pow hj h.symm
  rw [a] at b
  omega
theorem kdfPut_logs {i : Nat} (h : i < 255) : kdfPut ((List.range i).map fun k => (powZ k, (k : Int))) (powZ i) i = (List.range (i + 1)).map fun k => (powZ k, (k : Int)) := by
  unfold kdfPut
  rw [if_neg]
  · rw [List.range_succ, List.map_append]; rfl
  · intro hc
    obtain ⟨p, hp, e⟩ := List.any_eq_true.mp hc
    obtain ⟨k, hk, rfl⟩ := List.mem_map.mp hp
    have := powZ_inj (by have := List.mem_range.mp hk; omega) h (of_decide_eq_true e)
    have := List.mem_range.mp hk
    omega
theorem ints_snoc {vs : List Value} {ns : List Int} {x : Int} {t : Tok} (h : IntsAre vs ns) : IntsAre (vs ++ [.int x t]) (ns ++ [x]) := by
  induction h with
  | nil => exact .cons _ _ .nil
  | cons i t _ ih => exact .cons i t ih
theorem rng0 : rng 0 := ⟨by decide, by decide⟩
end Mine
end

theorem Mine.anew_WB : 1 = 1 := by
  w_top off
  first | walk1 | rfl

/-! part WB -/
section
open PySem PySem.W PyProof.Rows PySem.Calls PySem.Spec
set_option Elab.async false
namespace Mine
set_option maxRecDepth 100000
abbrev LL : List Str := [Str.ofString "rsPoly_LUT", Str.ofString "_tuplegetter", Str.ofString "EXP_TABLE", Str.ofString "LOG_TABLE", Str.ofString "RSBlock"]
abbrev PP := Challenge.rw_bj0062_01.row.prog
abbrev TopM (mean : ExcName → Option Value) (mg mb : Str → Option Value) (h : Heap) : Prop := Top hd.view_39 (looseW hd.view_39 LL) mean mg mb h

abbrev AA (dp un : Nat) (gd : Option (List Code)) (env : Env) (outer : List Env) : Around := { handled := none, depth := dp, frames := some (env :: outer), guards := gd, units := un }

structure Stopped (P : Prop) : Prop where
  out : P

theorem frx {h₀ h : Heap} {L : Addr} {m : Str → Option Value} {a : Str} {v : Value} (F : Fr h₀ L h m) (e : m a = some v) : Fr h₀ L h (fun y => if y = a then some v else m y) := by
  have q : (fun y => if y = a then some v else m y) = m := by
    funext y; by_cases h : y = a
    · rw [if_pos h, h, e]
    · rw [if_neg h]
  rw [q]; exact F
theorem deeper_frames {A : Around} {env' env : Env} {outer : List Env} (h : A.frames = some (env :: outer)) : (A.deeper env').frames = some (env' :: env :: outer) := by
  show Option.map _ A.frames = _
  rw [h]; rfl
theorem allLt_ne {d : Addr} {l : List (Addr × Obj)} (h : AllLt d l) : ∀ p ∈ l, p.1 ≠ d := by
  induction l with
  | nil => intro p hp; cases hp
  | cons a r ih =>
    intro p hp
    rcases List.mem_cons.mp hp with e | hp
    · rw [e]; exact Nat.ne_of_lt h.1
    · exact ih h.2 p hp
theorem lt_all_ne {d : Addr} {l : List (Addr × Obj)} (h : ∀ p ∈ l, p.1 < d) : ∀ p ∈ l, p.1 ≠ d := fun p hp => Nat.ne_of_lt (h p hp)
theorem allLt_lt {d : Addr} {l : List (Addr × Obj)} (h : AllLt d l) : ∀ p ∈ l, p.1 < d := by
  induction l with
  | nil => intro p hp; cases hp
  | cons a r ih =>
    intro p hp
    rcases List.mem_cons.mp hp with e | hp
    · rw [e]; exact h.1
    · exact ih h.2 p hp
theorem lt_all_sub {d : Addr} {l l' : List (Addr × Obj)} (h : ∀ p ∈ l', p.1 < d) (hs : ∀ p ∈ l, p ∈ l') : ∀ p ∈ l, p.1 ≠ d := fun p hp => Nat.ne_of_lt (h p (hs p hp))
theorem ne_all_sub {d : Addr} {l l' : List (Addr × Obj)} (h : ∀ p ∈ l', p.1 ≠ d) (hs : ∀ p ∈ l, p ∈ l') : ∀ p ∈ l, p.1 ≠ d := fun p hp => h p (hs p hp)
theorem lt_all_off {d a : Addr} {l : List (Addr × Obj)} (h : ∀ p ∈ l, p.1 < a) (hd : @LE.le Nat _ a d) : ∀ p ∈ l, p.1 ≠ d := fun p hp => Nat.ne_of_lt (Nat.lt_of_lt_of_le (h p hp) hd)
theorem off1_sub {d : Addr} {l l' : List (Addr × Obj)} (h : LCg.Off1 d l') (hs : ∀ p ∈ l, p ∈ l') : ∀ p ∈ l, p.1 ≠ d := by
  have key : ∀ l' : List (Addr × Obj), LCg.Off1 d l' → ∀ p ∈ l', p.1 ≠ d := by
    intro l'
    induction l' with
    | nil => intro _ p hp; cases hp
    | cons a r ih =>
      intro h p hp
      rcases List.mem_cons.mp hp with e | hp
      · rw [e]; exact h.1
      · exact ih h.2 p hp
  exact fun p hp => key l' h p (hs p hp)
theorem news_sub {h₀ h : Heap} {L : Addr} {news news' : List (Addr × Obj)} (N : News h₀ L h news) (hs : ∀ p ∈ news', p ∈ news) : News h₀ L h news' := fun p hp => N p (hs p hp)

section
variable {prog : Program} {w : World} {A : Around} {E : Value → Shared → Prop} {s : Shared} {h₀ : Heap} {L D : Addr} {m : Str → Option Value} {news news' : List (Addr × Obj)} {vs : List Value} {n : Nat} {k : Int} {t : Tok} {x : Value}
theorem set_listK {Q : Unit → Shared → Prop} (F : Fr h₀ L s.heap m) (N : News h₀ L s.heap news) (U : Upd D (W.listOf vs.toArray n) (W.listOf (vs.set k.toNat x).toArray n) news news') (h0 : 0 ≤ k) (h1 : k < vs.length) (hfit : k < 2 ^ 63)
    (h : ∀ h', Fr h₀ L h' m → News h₀ L h' news' → Q () { s with heap := h' }) :
    wpAny (model prog w) A (setItem (.ref D) (.int k t) x) Q E s := by
  obtain ⟨pre, post, rfl, rfl, a, b⟩ := U.split
  have z := N (D, W.listOf vs.toArray n) (List.mem_append.mpr (.inr (.head _)))
  have hs : vs.toArray.size = vs.length := List.size_toArray
  refine ki_setAt z.1 h0 hfit (by omega) (h _ (F.change (Heap.SameBut.update ..) z.2.1 z.2.2) (ki_turn _ N a b ?_ ?_))
  · show vs.toArray.setIfInBounds k.toNat x = (vs.set k.toNat x).toArray
    apply Array.toList_inj.mp
    simp
  · simp
end

section
variable {prog : Program} {w : World} {A : Around} {E : Value → Shared → Prop} {s : Shared} {h₀ : Heap} {L D : Addr} {m : Str → Option Value} {news news' : List (Addr × Obj)} {vs : List Value} {n : Nat} {x : Value}
theorem append_L {Q : Value → Shared → Prop} (F : Fr h₀ L s.heap m) (N : News h₀ L s.heap news) (U : Upd D (W.listOf vs.toArray n) (W.listOf (vs ++ [x]).toArray (n + 1)) news news') (hsz : vs.length ≤ 100000)
    (h : ∀ h', Fr h₀ L h' m → News h₀ L h' news' → Q .none { s with heap := h' }) : wpAny (model prog w) A (call (.builtin "list.append") [.ref D, x]) Q E s := by
  rw [show (vs ++ [x]).toArray = vs.toArray.push x from by simp] at U
  exact append_K F N U h (by rw [sizeLine_eq, List.size_toArray]; omega)
end

theorem isList_of {h₀ h : Heap} {L l : Addr} {news : List (Addr × Obj)} {its : Array Value} {n : Nat} (N : News h₀ L h news) (hm : (l, W.listOf its n) ∈ news) : h.IsList l its := ⟨_, (N _ hm).1, rfl, n, rfl⟩
section
variable {prog : Program} {w : World} {A : Around} {E : Value → Shared → Prop} {s : Shared} {h₀ : Heap} {L l : Addr} {m : Str → Option Value} {news : List (Addr × Obj)} {vs : List Value} {n : Nat}
theorem len_L {Q : Value → Shared → Prop} (N : News h₀ L s.heap news) (hm : (l, W.listOf vs.toArray n) ∈ news) (hsz : vs.length ≤ 100000)
    (h : ∀ t tk, Q (.int (vs.length : Int) t) { s with toks := tk }) : wpAny (model prog w) A (call (.builtin "len") [.ref l]) Q E s :=
  len_list (isList_of N hm) (by rw [List.size_toArray]; omega) (by rw [List.size_toArray]; exact h _ _)
theorem add_L {b : Addr} {us : List Value} {k : Nat} {Q : Value → Shared → Prop} (F : Fr h₀ L s.heap m) (N : News h₀ L s.heap news) (hl : (l, W.listOf vs.toArray n) ∈ news) (hb : (b, W.listOf us.toArray k) ∈ news) (hsz : vs.length + us.length ≤ 100000)
    (h : ∀ r h', Fr h₀ L h' m → News h₀ L h' ((r, W.listOf (vs ++ us).toArray 0) :: news) → (∀ p ∈ news, p.1 < r) → Q (.ref r) { s with heap := h' }) :
    wpAny (model prog w) A (binaryOp .Add (.ref l) (.ref b)) Q E s :=
  add_arrays F N (isList_of N hl) (isList_of N hb) (fun h' F' N' => h _ h' F' N' fun p hp => Heap.lt_size (N p hp).1) (by rw [sizeLine_eq, List.size_toArray, List.size_toArray]; omega)
end

theorem fill_here {w : World} {h : Heap} : (hd.heap_39 w.params).In h → Challenge.rw_bj0062_01.row.prog = Challenge.rw_bj0062_01.row.prog := by
  k_fill
  intro _
  rfl
end Mine
end

theorem Mine.anew_WL : 1 = 1 := by
  w_top off
  first | walk1 | rfl

/-! part WL -/
section
open PySem PySem.W PyProof.Rows PySem.Calls PySem.Spec
set_option Elab.async false
namespace Mine
set_option maxRecDepth 100000

section
variable {prog : Program} {w : World} {A : Around} {E : Value → Shared → Prop} {s : Shared} {env : Env} {h₀ : Heap} {x : Str} {body : List Stmt} {Q : Flow → Shared → Prop}

/-- what a turn of a loop hands on: the iterator's object as it was, a new map, a new ledger -/
def TOut (h₀ : Heap) (L I : Addr) (oi : Obj) (Jn : (Str → Option Value) → List (Addr × Obj) → Prop) (s s₂ : Shared) : Prop :=
  ∃ h' tk m' nx news', s₂ = { s with heap := h', toks := tk } ∧ Fr h₀ L h' m' ∧ News h₀ L h' news' ∧ (I, oi) ∈ news' ∧ (∀ p ∈ nx, p ∈ news') ∧ (∀ p ∈ nx, p.1 ≠ I) ∧ Jn m' nx
def TPost (h₀ : Heap) (L I : Addr) (oi : Obj) (Jn : (Str → Option Value) → List (Addr × Obj) → Prop) (s : Shared) (Q : Flow → Shared → Prop) (f : Flow) (s₂ : Shared) : Prop :=
  match f with
  | .ret v => Q (.ret v) s₂
  | .brk => Q .next s₂
  | _ => TOut h₀ L I oi Jn s s₂

theorem tpost_next {h₀ h' : Heap} {L I : Addr} {oi : Obj} {Jn : (Str → Option Value) → List (Addr × Obj) → Prop} {s : Shared} {Q : Flow → Shared → Prop} {m' : Str → Option Value} {nx news' : List (Addr × Obj)} {tk : Nat}
    (F' : Fr h₀ L h' m') (N' : News h₀ L h' news') (hI : (I, oi) ∈ news') (hsub : ∀ p ∈ nx, p ∈ news') (hn : ∀ p ∈ nx, p.1 ≠ I) (hJ : Jn m' nx) : TPost h₀ L I oi Jn s Q .next { s with heap := h', toks := tk } :=
  ⟨h', tk, m', nx, news', rfl, F', N', hI, hsub, hn, hJ⟩
theorem tpost_cont {h₀ h' : Heap} {L I : Addr} {oi : Obj} {Jn : (Str → Option Value) → List (Addr × Obj) → Prop} {s : Shared} {Q : Flow → Shared → Prop} {m' : Str → Option Value} {nx news' : List (Addr × Obj)} {tk : Nat}
    (F' : Fr h₀ L h' m') (N' : News h₀ L h' news') (hI : (I, oi) ∈ news') (hsub : ∀ p ∈ nx, p ∈ news') (hn : ∀ p ∈ nx, p.1 ≠ I) (hJ : Jn m' nx) : TPost h₀ L I oi Jn s Q .cont { s with heap := h', toks := tk } :=
  ⟨h', tk, m', nx, news', rfl, F', N', hI, hsub, hn, hJ⟩
theorem ints_at {vs : List Value} {ns : List Int} (h : IntsAre vs ns) {i : Nat} {v : Value} (e : vs[i]? = some v) : ∃ k t, ns[i]? = some k ∧ v = .int k t := by
  have hl : i < ns.length := by
    rw [← h.length]; exact (List.getElem?_eq_some_iff.mp e).1
  obtain ⟨t, ht⟩ := h.get i ns[i] (by simp [hl])
  rw [e] at ht
  exact ⟨ns[i], t, by simp [hl], Option.some.inj ht⟩

theorem walks_loop {I : Addr} {fp : List Addr} {n : Nat} {P : Nat → Value → Prop} {St : Nat → Heap → Prop} {m₀ : Str → Option Value} {news : List (Addr × Obj)} (fixed : List (Addr × Obj))
    (J : Nat → (Str → Option Value) → List (Addr × Obj) → Prop) (W : Walks prog w A I fp [I] n P St)
    (hfix : ∀ b ∈ fp, b = I ∨ h₀.get? b ≠ none ∨ ∃ o, (b, o) ∈ fixed) (hJf : ∀ i m nx, J i m nx → ∀ p ∈ fixed, p ∈ nx)
    (hob : ∀ i h, St i h → ∃ o, h.get? I = some o) (hLf : env.locals ∉ fp) (hI : h₀.get? I = none) (hIf : I ∈ fp) (hnI : ∀ p ∈ news, p.1 ≠ I) (hst : St 0 s.heap)
    (F : Fr h₀ env.locals s.heap m₀) (N : News h₀ env.locals s.heap news) (hj : J 0 m₀ news)
    (turn : ∀ i v m₁ nx h tk oi, i < n → P i v → (∀ p ∈ nx, p.1 ≠ I) → J i m₁ nx → Fr h₀ env.locals h (fun y => if y = x then some v else m₁ y) → News h₀ env.locals h ((I, oi) :: nx) →
      wpAny (model prog w) A (execs body env) (TPost h₀ env.locals I oi (J (i + 1)) s Q) E { s with heap := h, toks := tk })
    (done : ∀ m₁ nx h tk, J n m₁ nx → Fr h₀ env.locals h m₁ → News h₀ env.locals h nx → Q .next { s with heap := h, toks := tk }) :
    LoopAtV prog w A h₀ env x body Q E (.ref I) s := by
  refine ⟨I, fp, [I], n, P, St, m₀, news, J, rfl, W, hLf, (fun b hb => by rw [List.mem_singleton.mp hb]; exact hI), (fun p hp hq => hnI p hp (List.mem_singleton.mp hq)), hst, F, N, hj, ?_, ?_⟩
  · rintro i v m₁ nx s₁ own ⟨hh, tk, rfl⟩ hin hP hJ hoff hown hget hmem hst' F₁ N₁
    obtain ⟨oi, hoi⟩ := hob _ _ hst'
    have hIo : (I, oi) ∈ own := hmem I hIf hI oi hoi
    have hnx : ∀ p ∈ nx, p.1 ≠ I := fun p hp e => hoff p hp (by rw [e]; exact .head _)
    have N₂ : News h₀ env.locals hh ((I, oi) :: nx) := fun p hp => by
      rcases List.mem_cons.mp hp with rfl | hp
      · exact N₁ _ (List.mem_append_left _ hIo)
      · exact N₁ _ (List.mem_append_right _ hp)
    have fin : ∀ s₂, TOut h₀ env.locals I oi (J (i + 1)) s s₂ → LoopStepU h₀ env.locals [I] own (J (i + 1)) { s with heap := hh, toks := tk } .next s₂ := by
      rintro s₂ ⟨h', tk', m', nx', news', rfl, F', N', hI', hsub, hn', hJ'⟩
      refine ⟨rfl, h', tk', m', nx', rfl, F', fun p hp => ?_, fun p hp hq => hn' p hp (List.mem_singleton.mp hq), hJ'⟩
      rcases List.mem_append.mp hp with hp | hp
      · have hpg := hget p hp
        rcases hfix p.1 (hown p hp) with e | e | ⟨o, ho⟩
        · have : p = (I, oi) := by
            have hq : hh.get? I = some p.2 := e ▸ hpg
            rw [hoi] at hq
            exact Prod.ext e (Option.some.inj hq).symm
          rw [this]; exact N' _ hI'
        · exact absurd (N₁ p (List.mem_append_left _ hp)).2.2 e
        · have h1 := (N₁ _ (List.mem_append_right _ (hJf _ _ _ hJ _ ho))).1
          have h2 : p = (p.1, o) := by
            have hpg' : hh.get? p.1 = some p.2 := hpg
            have h1' : hh.get? p.1 = some o := h1
            rw [hpg'] at h1'
            exact Prod.ext rfl (Option.some.inj h1')
          rw [h2]
          exact N' _ (hsub _ (hJf _ _ _ hJ' _ ho))
      · exact N' p (hsub p hp)
    refine wpAny_mono (turn i v m₁ nx hh tk oi hin hP hnx hJ F₁ N₂) (fun f s₂ p => ?_) fun _ _ e => e
    cases f with
    | ret v => exact .ret p
    | brk => exact .brk p
    | next => exact .next (fin _ p)
    | cont => exact .cont (fin _ p)
  · rintro h' tk m' news' F' N' _ hJ
    exact done m' news' h' tk hJ F' N'

theorem range_loop {r : Addr} {a b : Int} {t u v : Tok} {m₀ : Str → Option Value} {news : List (Addr × Obj)} (n : Nat) (J : Nat → (Str → Option Value) → List (Addr × Obj) → Prop)
    (hh : A.handled = none) (hr : IsRange s.heap r a b 1 t u v) (hn : b = a + (n : Int) ∨ (b ≤ a ∧ n = 0)) (ha : -1000000 ≤ a) (ha' : a ≤ 1000000) (hb : -1000000 ≤ b) (hb' : b ≤ 1000000)
    (F : Fr h₀ env.locals s.heap m₀) (N : News h₀ env.locals s.heap news) (hj : J 0 m₀ news)
    (turn : ∀ i k t I m₁ nx h tk oi, i < n → k = a + (i : Int) → (∀ p ∈ nx, p.1 ≠ I) → J i m₁ nx → Fr h₀ env.locals h (fun y => if y = x then some (.int k t) else m₁ y) → News h₀ env.locals h ((I, oi) :: nx) →
      wpAny (model prog w) A (execs body env) (TPost h₀ env.locals I oi (J (i + 1)) s Q) E { s with heap := h, toks := tk })
    (done : ∀ m₁ nx h tk, J n m₁ nx → Fr h₀ env.locals h m₁ → News h₀ env.locals h nx → Q .next { s with heap := h, toks := tk }) :
    wpAny (model prog w) A (pyIter (.ref r)) (fun it s₂ => LoopAtV prog w A h₀ env x body Q E it s₂) E s := by
  have hsmall : Builtin.Range.small a b 1 = true := small_one (by omega) (by omega) (by omega) (by omega)
  have hsz : Builtin.Range.rangeSize a b 1 = (n : Int) := by
    rw [rangeSize_one]; split <;> omega
  refine wpAny_pyIter_range hr hsmall ?_
  have W : Walks prog w A s.heap.objs.size [s.heap.objs.size] [s.heap.objs.size] n (fun i v => i < n ∧ ∃ t, v = .int (a + i * 1) t)
      (fun i h => IsRangeIter h s.heap.objs.size (a + (i : Nat) * 1) ((n : Int) - (i : Nat)) 1) := (Walks.range hh _ a 1 n).bound
  refine walks_loop [] J W ?_ (fun _ _ _ _ p hp => nomatch hp) (fun i h hi => ⟨_, hi⟩) ?_ (next_is_new F) (.head _) ?_ (by show IsRangeIter _ _ _ _ _; rw [hsz]; simpa using Heap.get?_push_size _ rfl) (F.push _) (fun p hp => ⟨Heap.get?_push_of_some _ (N p hp).1, (N p hp).2⟩) hj ?_ (fun m₁ nx h tk hJ F₁ N₁ => done m₁ nx h tk hJ F₁ N₁)
  · intro b hb; exact .inl (List.mem_singleton.mp hb)
  · intro hm
    exact absurd F.ns.lt ((List.mem_singleton.mp hm) ▸ Nat.lt_irrefl _)
  · intro p hp e
    exact absurd (Heap.lt_size (N p hp).1) (by rw [e]; exact Nat.lt_irrefl _)
  · rintro i v m₁ nx h tk oi hi ⟨_, t, rfl⟩ hnx hJ F' N'
    simp only [Int.mul_one] at F'
    exact turn i _ t _ m₁ nx h tk oi hi rfl hnx hJ F' N'

theorem list_loop {l : Addr} {vs : List Value} {nn : Nat} {m₀ : Str → Option Value} {news : List (Addr × Obj)} (J : Nat → (Str → Option Value) → List (Addr × Obj) → Prop)
    (hh : A.handled = none) (hl : (l, W.listOf vs.toArray nn) ∈ news) (hJl : ∀ i m nx, J i m nx → (l, W.listOf vs.toArray nn) ∈ nx)
    (F : Fr h₀ env.locals s.heap m₀) (N : News h₀ env.locals s.heap news) (hj : J 0 m₀ news)
    (turn : ∀ i v I m₁ nx h tk oi, vs[i]? = some v → (∀ p ∈ nx, p.1 ≠ I) → J i m₁ nx → Fr h₀ env.locals h (fun y => if y = x then some v else m₁ y) → News h₀ env.locals h ((I, oi) :: nx) →
      wpAny (model prog w) A (execs body env) (TPost h₀ env.locals I oi (J (i + 1)) s Q) E { s with heap := h, toks := tk })
    (done : ∀ m₁ nx h tk, J vs.length m₁ nx → Fr h₀ env.locals h m₁ → News h₀ env.locals h nx → Q .next { s with heap := h, toks := tk }) :
    wpAny (model prog w) A (pyIter (.ref l)) (fun it s₂ => LoopAtV prog w A h₀ env x body Q E it s₂) E s := by
  have hol : s.heap.get? l = some (W.listOf vs.toArray nn) := (N _ hl).1
  have hls : s.heap.IsList l vs.toArray := ⟨_, hol, rfl, nn, rfl⟩
  have hne : l ≠ s.heap.objs.size := Nat.ne_of_lt (Heap.lt_size hol)
  refine wpAny_pyIter_list hls ?_
  have hW := Walks.list (prog := prog) (w := w) hh s.heap.objs.size l hne vs.toArray
  have hlen : vs.toArray.size = vs.length := by simp
  rw [hlen] at hW
  refine walks_loop [(l, W.listOf vs.toArray nn)] J hW ?_ (fun i m nx hJ p hp => by rw [List.mem_singleton.mp hp]; exact hJl i m nx hJ) (fun i h hi => ?_) ?_ (next_is_new F) (by first | exact .head _ | exact .tail _ (.head _)) ?_ ⟨⟨_, Heap.get?_push_size _ rfl, rfl, rfl⟩, hls.at fun o e => Heap.get?_push_of_some _ e⟩ (F.push _) (fun p hp => ⟨Heap.get?_push_of_some _ (N p hp).1, (N p hp).2⟩) hj ?_ (fun m₁ nx h tk hJ F₁ N₁ => done m₁ nx h tk hJ F₁ N₁)
  · intro b hb
    rcases List.mem_cons.mp hb with e | hb
    · exact .inl e
    · rw [List.mem_singleton.mp hb]; exact .inr (.inr ⟨_, .head _⟩)
  · obtain ⟨⟨o, ho, _⟩, _⟩ := hi; exact ⟨o, ho⟩
  · intro hm
    rcases List.mem_cons.mp hm with e | hm
    · exact absurd F.ns.lt (e ▸ Nat.lt_irrefl _)
    · exact (N _ hl).2.1 ((List.mem_singleton.mp hm).symm)
  · intro p hp e
    exact absurd (Heap.lt_size (N p hp).1) (by rw [e]; exact Nat.lt_irrefl _)
  · rintro i v m₁ nx h tk oi hi hP hnx hJ F' N'
    exact turn i v _ m₁ nx h tk oi (by simpa using hP) hnx hJ F' N'

/-- all but the names of ch (and the loop's own x) stand as they stood -/
def Keep (ch : List Str) (x : Str) (m m₀ : Str → Option Value) : Prop := ∀ y, y ≠ x → ch.contains y = false → m y = m₀ y
theorem keep_refl {ch : List Str} {x : Str} {m : Str → Option Value} : Keep ch x m m := fun _ _ _ => rfl
theorem keep_upd {ch : List Str} {x a : Str} {v : Option Value} {m m₀ : Str → Option Value} (hc : ch.contains a = true) (h : Keep ch x m m₀) : Keep ch x (fun y => if y = a then v else m y) m₀ := fun y h1 h2 => by
  by_cases e : y = a
  · rw [e, hc] at h2; cases h2
  · dsimp only; rw [if_neg e]; exact h y h1 h2
theorem keep_x {ch : List Str} {x : Str} {v : Option Value} {m m₀ : Str → Option Value} (h : Keep ch x m m₀) : Keep ch x (fun y => if y = x then v else m y) m₀ := fun y h1 h2 => by
  dsimp only; rw [if_neg h1]; exact h y h1 h2
theorem keep_base {ch : List Str} {x : Str} {u m₀ : Str → Option Value} : Keep ch x (fun y => if ch.contains y then u y else m₀ y) m₀ := fun y _ h2 => by
  dsimp only; rw [if_neg (by rw [h2]; decide)]
theorem keep_in {ch ch' : List Str} {x : Str} {u m m₀ : Str → Option Value} (hc : ch'.all (fun a => ch.contains a) = true) (h : Keep ch x m m₀) : Keep ch x (fun y => if ch'.contains y then u y else m y) m₀ := fun y h1 h2 => by
  dsimp only
  rw [if_neg]
  · exact h y h1 h2
  · intro e
    have := List.all_eq_true.mp hc y (by simpa using e)
    rw [h2] at this; cases this
theorem keep_map {ch : List Str} {x : Str} {v : Option Value} {m m₀ : Str → Option Value} (h : Keep ch x m m₀) : (fun y => if y = x then v else m y) = fun y => if y = x then v else if ch.contains y then m y else m₀ y := by
  funext y
  by_cases e : y = x
  · rw [if_pos e, if_pos e]
  · rw [if_neg e, if_neg e]
    cases hc : ch.contains y with
    | true => rfl
    | false => exact h y e hc

theorem range_loopC {r : Addr} {a b : Int} {t u v : Tok} {m₀ : Str → Option Value} {news : List (Addr × Obj)} (n : Nat) (ch : List Str) (J : Nat → (Str → Option Value) → List (Addr × Obj) → Prop)
    (hh : A.handled = none) (hr : IsRange s.heap r a b 1 t u v) (hn : b = a + (n : Int) ∨ (b ≤ a ∧ n = 0)) (ha : -1000000 ≤ a) (ha' : a ≤ 1000000) (hb : -1000000 ≤ b) (hb' : b ≤ 1000000)
    (F : Fr h₀ env.locals s.heap m₀) (N : News h₀ env.locals s.heap news) (hj : J 0 m₀ news)
    (turn : ∀ i k t I u nx h tk oi, i < n → k = a + (i : Int) → (∀ p ∈ nx, p.1 ≠ I) → J i u nx → Fr h₀ env.locals h (fun y => if y = x then some (.int k t) else if ch.contains y then u y else m₀ y) → News h₀ env.locals h ((I, oi) :: nx) →
      wpAny (model prog w) A (execs body env) (TPost h₀ env.locals I oi (fun m' nx' => J (i + 1) m' nx' ∧ Keep ch x m' m₀) s Q) E { s with heap := h, toks := tk })
    (done : ∀ u nx h tk, J n u nx → Fr h₀ env.locals h (fun y => if y = x then u x else if ch.contains y then u y else m₀ y) → News h₀ env.locals h nx → Q .next { s with heap := h, toks := tk }) :
    wpAny (model prog w) A (pyIter (.ref r)) (fun it s₂ => LoopAtV prog w A h₀ env x body Q E it s₂) E s := by
  refine range_loop n (fun i m nx => J i m nx ∧ Keep ch x m m₀) hh hr hn ha ha' hb hb' F N ⟨hj, keep_refl⟩ ?_ ?_
  · rintro i k t I m₁ nx h tk oi hi hk hnx ⟨hJ, hK⟩ F₁ N₁
    rw [keep_map hK] at F₁
    exact turn i k t I m₁ nx h tk oi hi hk hnx hJ F₁ N₁
  · rintro m₁ nx h tk ⟨hJ, hK⟩ F₁ N₁
    refine done m₁ nx h tk hJ ?_ N₁
    have e : m₁ = fun y => if y = x then m₁ x else m₁ y := by
      funext y
      by_cases e : y = x
      · rw [if_pos e, e]
      · rw [if_neg e]
    rw [← keep_map hK, ← e]
    exact F₁

theorem list_loopC {l : Addr} {vs : List Value} {nn : Nat} {m₀ : Str → Option Value} {news : List (Addr × Obj)} (ch : List Str) (J : Nat → (Str → Option Value) → List (Addr × Obj) → Prop)
    (hh : A.handled = none) (hl : (l, W.listOf vs.toArray nn) ∈ news) (hJl : ∀ i m nx, J i m nx → (l, W.listOf vs.toArray nn) ∈ nx)
    (F : Fr h₀ env.locals s.heap m₀) (N : News h₀ env.locals s.heap news) (hj : J 0 m₀ news)
    (turn : ∀ i v I u nx h tk oi, vs[i]? = some v → (∀ p ∈ nx, p.1 ≠ I) → J i u nx → Fr h₀ env.locals h (fun y => if y = x then some v else if ch.contains y then u y else m₀ y) → News h₀ env.locals h ((I, oi) :: nx) →
      wpAny (model prog w) A (execs body env) (TPost h₀ env.locals I oi (fun m' nx' => J (i + 1) m' nx' ∧ Keep ch x m' m₀) s Q) E { s with heap := h, toks := tk })
    (done : ∀ u nx h tk, J vs.length u nx → Fr h₀ env.locals h (fun y => if y = x then u x else if ch.contains y then u y else m₀ y) → News h₀ env.locals h nx → Q .next { s with heap := h, toks := tk }) :
    wpAny (model prog w) A (pyIter (.ref l)) (fun it s₂ => LoopAtV prog w A h₀ env x body Q E it s₂) E s := by
  refine list_loop (fun i m nx => J i m nx ∧ Keep ch x m m₀) hh hl (fun i m nx h => hJl i m nx h.1) F N ⟨hj, keep_refl⟩ ?_ ?_
  · rintro i v I m₁ nx h tk oi hi hnx ⟨hJ, hK⟩ F₁ N₁
    rw [keep_map hK] at F₁
    exact turn i v I m₁ nx h tk oi hi hnx hJ F₁ N₁
  · rintro m₁ nx h tk ⟨hJ, hK⟩ F₁ N₁
    refine done m₁ nx h tk hJ ?_ N₁
    have e : m₁ = fun y => if y = x then m₁ x else m₁ y := by
      funext y
      by_cases e : y = x
      · rw [if_pos e, e]
      · rw [if_neg e]
    rw [← keep_map hK, ← e]
    exact F₁

theorem range1_K {m : Str → Option Value} {L : Addr} {news : List (Addr × Obj)} {n : Int} {t : Tok} {Q : Value → Shared → Prop} (F : Fr h₀ L s.heap m) (N : News h₀ L s.heap news)
    (h : ∀ r h' u v tk, Fr h₀ L h' m → News h₀ L h' news → IsRange h' r 0 n 1 u t v → Q (.ref r) { s with heap := h', toks := tk }) :
    wpAny (model prog w) A (call (.type "range") [.int n t]) Q E s :=
  call_range_1 (h _ _ _ _ _ (F.push _) (fun p hp => ⟨Heap.get?_push_of_some _ (N p hp).1, (N p hp).2⟩) (IsRange.new _ _ _ _ _ _ _))
theorem range2_K {m : Str → Option Value} {L : Addr} {news : List (Addr × Obj)} {a b : Int} {t u : Tok} {Q : Value → Shared → Prop} (F : Fr h₀ L s.heap m) (N : News h₀ L s.heap news)
    (h : ∀ r h' v tk, Fr h₀ L h' m → News h₀ L h' news → IsRange h' r a b 1 t u v → Q (.ref r) { s with heap := h', toks := tk }) :
    wpAny (model prog w) A (call (.type "range") [.int a t, .int b u]) Q E s :=
  call_range_2 (h _ _ _ _ (F.push _) (fun p hp => ⟨Heap.get?_push_of_some _ (N p hp).1, (N p hp).2⟩) (IsRange.new _ _ _ _ _ _ _))
end
end Mine
end

theorem Mine.anew_WF : 1 = 1 := by
  w_top off
  first | walk1 | rfl

/-! part WF -/
section
open PySem PySem.W PyProof.Rows PySem.Calls PySem.Spec
set_option Elab.async false
namespace Mine
set_option maxRecDepth 100000

/-- the field's tuple (its powers, its logs) lies in the ledger -/
structure FieldIn (w : World) (news : List (Addr × Obj)) (fa pa la : Addr) : Prop where
  ft : ∃ n, (fa, ({ cls := .type "tuple", data := .seq [Value.ref pa, Value.ref la].toArray n } : Obj)) ∈ news
  pw : ∃ vs n, (pa, W.listOf vs.toArray n) ∈ news ∧ IntsAre vs powsT
  lg : ∃ o kvs, (la, o) ∈ news ∧ o.IsDictOf (PySem.intKind PP w) kvs ∧ PyProof.V.FlatPairs PyData.int kvs (kdfD logsT)
  lo : (la == sysModules) = false
theorem FieldIn.mono {w : World} {news news' : List (Addr × Obj)} {fa pa la : Addr} (H : FieldIn w news fa pa la) (hs : ∀ p ∈ news, p ∈ news') : FieldIn w news' fa pa la := by
  obtain ⟨⟨n, a⟩, ⟨vs, k, b, c⟩, ⟨o, kvs, d, e, f⟩, g⟩ := H
  exact ⟨⟨n, hs _ a⟩, ⟨vs, k, hs _ b, c⟩, ⟨o, kvs, hs _ d, e, f⟩, g⟩
theorem FieldIn.tail {w : World} {news : List (Addr × Obj)} {p : Addr × Obj} {fa pa la : Addr} (H : FieldIn w news fa pa la) : FieldIn w (p :: news) fa pa la := H.mono fun _ hp => .tail _ hp

section
variable {w : World} {A : Around} {E : Value → Shared → Prop} {s : Shared} {h₀ : Heap} {L fa pa la : Addr} {news : List (Addr × Obj)} {k : Int} {u : Tok}
theorem fld_0 {value slice : PySem.Expr} {Q : Value → Shared → Prop} (N : News h₀ L s.heap news) (H : FieldIn w news fa pa la) (h : Q (.ref pa) s)
    (hs : subscripted slice false (.ref fa) (.int 0 u) = operate [.ref fa, .int 0 u] (getItem (.ref fa) (.int 0 u)) := by with_unfolding_all rfl) :
    wpAny (model PP w) A (subscriptTail value slice (.ref fa) (.int 0 u)) Q E s := by
  obtain ⟨n, hm⟩ := H.ft
  exact item_tupleT (l := [.ref pa, .ref la]) (j := 0) ⟨_, (N _ hm).1, rfl, n, rfl⟩ (by decide) (by decide) rfl rfl h hs
theorem fld_1 {value slice : PySem.Expr} {Q : Value → Shared → Prop} (N : News h₀ L s.heap news) (H : FieldIn w news fa pa la) (h : Q (.ref la) s)
    (hs : subscripted slice false (.ref fa) (.int 1 u) = operate [.ref fa, .int 1 u] (getItem (.ref fa) (.int 1 u)) := by with_unfolding_all rfl) :
    wpAny (model PP w) A (subscriptTail value slice (.ref fa) (.int 1 u)) Q E s := by
  obtain ⟨n, hm⟩ := H.ft
  exact item_tupleT (l := [.ref pa, .ref la]) (j := 1) ⟨_, (N _ hm).1, rfl, n, rfl⟩ (by decide) (by decide) rfl rfl h hs
theorem fld_pow {value slice : PySem.Expr} {Q : Value → Shared → Prop} (N : News h₀ L s.heap news) (H : FieldIn w news fa pa la) (h0 : 0 ≤ k) (h1 : k < 255) (h : ∀ t, Q (.int (powsT.getD k.toNat 0) t) s)
    (hs : subscripted slice false (.ref pa) (.int k u) = operate [.ref pa, .int k u] (getItem (.ref pa) (.int k u)) := by with_unfolding_all rfl) :
    wpAny (model PP w) A (subscriptTail value slice (.ref pa) (.int k u)) Q E s := by
  obtain ⟨vs, n, hm, hi⟩ := H.pw
  exact item_anyK (PySem.IsL.isList (n := n) (N _ hm).1) hi h0 (by rw [powsT_len]; exact h1) (by omega) h hs
theorem fld_log {value slice : PySem.Expr} {Q : Value → Shared → Prop} (N : News h₀ L s.heap news) (H : FieldIn w news fa pa la) (h0 : 1 ≤ k) (h1 : k < 256) (h : ∀ t, Q (.int (logZ k) t) { s with toks := s.toks + 1 })
    (hs : subscripted slice false (.ref la) (.int k u) = operate [.ref la, .int k u] (getItem (.ref la) (.int k u)) := by with_unfolding_all rfl) :
    wpAny (model PP w) A (subscriptTail value slice (.ref la) (.int k u)) Q E s := by
  obtain ⟨o, kvs, hm, hd, hf⟩ := H.lg
  have hD := kda_dict N hm hd
  obtain ⟨v, hv, hfl⟩ := hf.of_lookup PyProof.V.same_int (kdfD_item (logs_has h0 h1))
  obtain ⟨t, rfl⟩ := PyProof.V.Flat.int_inv hfl
  exact tail_any hD.typeIs slot_dict_getitem.lookup (wpAny_getItem_of (PySem.intKind_is _ _ _ _) hD.mapOf hv (h t)) hs
end
end Mine
end

theorem Mine.anew_WC : 1 = 1 := by
  w_top off
  first | walk1 | rfl

/-! part WC -/
section
open PySem PySem.W PyProof.Rows PySem.Calls PySem.Spec
set_option Elab.async false
namespace Mine
set_option maxRecDepth 100000
section
variable {prog : Program} {w : World} {A : Around} {h₀ : Heap} {L : Addr} {m : Str → Option Value} {env : Env} {elt : PySem.Expr} {x : Str} {scope : Scope} {cl : List (Str × Addr)} {s : Shared} {news : List (Addr × Obj)}

/-- what an element of a comprehension hands on -/
def CEnd (h₀ : Heap) (L : Addr) (m : Str → Option Value) (I : Addr) (oI : Obj) (C : Addr) (oC : Obj) (D : Addr) (ys : List Value) (Jn : List Value → List (Addr × Obj) → Prop) (s : Shared) (y : Value) (s₂ : Shared) : Prop :=
  ∃ h' tk nx all, s₂ = { s with heap := h', toks := tk } ∧ Fr h₀ L h' m ∧ News h₀ L h' all ∧ (I, oI) ∈ all ∧ (C, oC) ∈ all ∧ (D, LCg.lst ys) ∈ all ∧ (∀ p ∈ nx, p ∈ all) ∧ LCg.Off3 I C D nx ∧ Jn (ys ++ [y]) nx
theorem cend {I C D : Addr} {oI oC : Obj} {ys : List Value} {Jn : List Value → List (Addr × Obj) → Prop} {y : Value} {h' : Heap} {tk : Nat} {nx all : List (Addr × Obj)} (F : Fr h₀ L h' m) (N : News h₀ L h' all) (a : (I, oI) ∈ all) (b : (C, oC) ∈ all) (c : (D, LCg.lst ys) ∈ all) (d : ∀ p ∈ nx, p ∈ all)
    (e : LCg.Off3 I C D nx) (f : Jn (ys ++ [y]) nx) : CEnd h₀ L m I oI C oC D ys Jn s y { s with heap := h', toks := tk } := ⟨h', tk, nx, all, rfl, F, N, a, b, c, d, e, f⟩

theorem comp_rest {n : Nat} {P : Nat → Value → Prop} {S : List (Addr × Obj) → Prop} {Fin : List Value → List (Addr × Obj) → Prop} (J : Nat → List Value → List (Addr × Obj) → Prop) (hS : ∀ i ys nx, J i ys nx → S nx) (hj : J 0 [] news)
    (turn : ∀ i v I oI C oC D m₂ ys nx h tk (E' : Value → Shared → Prop), i < n → P i v → J i ys nx → LCg.NsObj oC m₂ → m₂ x = some v → Fr h₀ L h m → News h₀ L h ((I, oI) :: (C, oC) :: (D, LCg.lst ys) :: nx) → LCg.Off3 I C D nx → ((@Ne Nat I C) ∧ (@Ne Nat I D) ∧ (@Ne Nat C D)) →
      wpAny (model prog w) A (eval elt (compEnvC scope cl C env)) (CEnd h₀ L m I oI C oC D ys (J (i + 1)) s) E' { s with heap := h, toks := tk })
    (fin : ∀ ys nx, J n ys nx → Fin ys nx) : LCg.CompRest prog w A h₀ L m env elt x scope cl s S P Fin n 0 [] news := by
  have key : ∀ (j i : Nat) (ys : List Value) (nx : List (Addr × Obj)), i + j = n → J i ys nx → LCg.CompRest prog w A h₀ L m env elt x scope cl s S P Fin j i ys nx := by
    intro j
    induction j with
    | zero =>
      intro i ys nx hi hy
      have e : i = n := by omega
      subst e
      exact LCg.CompRest.zero (fin ys nx hy)
    | succ j ih =>
      intro i ys nx hi hy
      refine LCg.CompRest.succ ?_
      intro v I oI C oC D m₂ h tk E' hv hC hx F N off ne
      refine wpAny_mono (turn i v I oI C oC D m₂ ys nx h tk E' (by omega) hv hy hC hx F N off ne) (fun y s₂ hq => ?_) fun _ _ e => e
      obtain ⟨h', tk', nx', all, rfl, F', N', a, b, c, d, e, f⟩ := hq
      refine ⟨h', tk', nx', rfl, F', fun p hp => N' p ?_, e, hS _ _ _ f, ih (i + 1) _ _ (by omega) f⟩
      rcases List.mem_cons.mp hp with rfl | hp
      · exact a
      · rcases List.mem_cons.mp hp with rfl | hp
        · exact b
        · rcases List.mem_cons.mp hp with rfl | hp
          · exact c
          · exact d p hp
  exact key n 0 [] news (by omega) hj

theorem comp_range {Fin : Shared → List Value → List (Addr × Obj) → Prop} {r : Addr} {a b : Int} {t u v : Tok} (n : Nat) (J : Nat → List Value → List (Addr × Obj) → Prop)
    (hh : A.handled = none) (hr : IsRange s.heap r a b 1 t u v) (hn : b = a + (n : Int) ∨ (b ≤ a ∧ n = 0)) (ha : -1000000 ≤ a) (ha' : a ≤ 1000000) (hb : -1000000 ≤ b) (hb' : b ≤ 1000000)
    (F : Fr h₀ L s.heap m) (N : News h₀ L s.heap news) (hj : J 0 [] news)
    (turn : ∀ i k t I oI C oC D m₂ ys nx h tk (E' : Value → Shared → Prop), i < n → k = a + (i : Int) → J i ys nx → LCg.NsObj oC m₂ → m₂ x = some (.int k t) → Fr h₀ L h m → News h₀ L h ((I, oI) :: (C, oC) :: (D, LCg.lst ys) :: nx) → LCg.Off3 I C D nx → ((@Ne Nat I C) ∧ (@Ne Nat I D) ∧ (@Ne Nat C D)) →
      wpAny (model prog w) A (eval elt (compEnvC scope cl C env)) (CEnd h₀ L m I oI C oC D ys (J (i + 1)) s) E' { s with heap := h, toks := tk })
    (fin : ∀ g ys nx, J n ys nx → Fin { s with heap := g } ys nx) : LCg.CompSrc prog w A h₀ L m env elt x scope cl Fin (.ref r) s := by
  have hsmall : Builtin.Range.small a b 1 = true := small_one (by omega) (by omega) (by omega) (by omega)
  have hsz : Builtin.Range.rangeSize a b 1 = (n : Int) := by
    rw [rangeSize_one]; split <;> omega
  refine LCg.CompSrc.range hh F N hr hsmall hsz (by rw [sizeLine_eq]; omega) fun g => ?_
  refine comp_rest J (fun _ _ _ _ => trivial) hj ?_ (fun ys nx h => fin g ys nx h)
  rintro i v I oI C oC D m₂ ys nx h tk E' hi ⟨t, rfl⟩ hJ hC hx F' N' off ne
  refine wpAny_mono (turn i _ t I oI C oC D m₂ ys nx h tk E' hi rfl hJ hC hx F' N' off ne) (fun y s₂ hq => ?_) fun _ _ e => e
  obtain ⟨h', tk', nx', all, rfl, q⟩ := hq
  exact ⟨h', tk', nx', all, rfl, q⟩

theorem comp_list {Fin : Shared → List Value → List (Addr × Obj) → Prop} {l : Addr} {vs : List Value} {nn : Nat} (J : Nat → List Value → List (Addr × Obj) → Prop)
    (hh : A.handled = none) (hsz : vs.length ≤ 100000) (hl : (l, W.listOf vs.toArray nn) ∈ news) (hJl : ∀ i ys nx, J i ys nx → (l, W.listOf vs.toArray nn) ∈ nx)
    (F : Fr h₀ L s.heap m) (N : News h₀ L s.heap news) (hj : J 0 [] news)
    (turn : ∀ i v I oI C oC D m₂ ys nx h tk (E' : Value → Shared → Prop), vs[i]? = some v → J i ys nx → LCg.NsObj oC m₂ → m₂ x = some v → Fr h₀ L h m → News h₀ L h ((I, oI) :: (C, oC) :: (D, LCg.lst ys) :: nx) → LCg.Off3 I C D nx → ((@Ne Nat I C) ∧ (@Ne Nat I D) ∧ (@Ne Nat C D)) →
      wpAny (model prog w) A (eval elt (compEnvC scope cl C env)) (CEnd h₀ L m I oI C oC D ys (J (i + 1)) s) E' { s with heap := h, toks := tk })
    (fin : ∀ g ys nx, J vs.length ys nx → Fin { s with heap := g } ys nx) : LCg.CompSrc prog w A h₀ L m env elt x scope cl Fin (.ref l) s := by
  refine LCg.CompSrc.ledger hh F N hl (by rw [sizeLine_eq, List.size_toArray]; omega) fun g => ?_
  refine comp_rest J (fun i ys nx hJ => .inr ⟨_, hJl i ys nx hJ, rfl, _, rfl⟩) hj ?_ (fun ys nx h => fin g ys nx (by rw [List.size_toArray] at h; exact h))
  rintro i v I oI C oC D m₂ ys nx h tk E' hi hv hJ hC hx F' N' off ne
  refine wpAny_mono (turn i v I oI C oC D m₂ ys nx h tk E' (by simpa using hv) hJ hC hx F' N' off ne) (fun y s₂ hq => ?_) fun _ _ e => e
  obtain ⟨h', tk', nx', all, rfl, q⟩ := hq
  exact ⟨h', tk', nx', all, rfl, q⟩
end
end Mine
end

theorem Mine.anew_WS : 1 = 1 := by
  w_top off
  first | walk1 | rfl

/-! part WS -/
section
open PySem PySem.W PyProof.Rows PySem.Calls PySem.Spec
set_option Elab.async false
namespace Mine
set_option maxRecDepth 100000
/-- a slice, over plain lists -/
def pickZ {α : Type} (xs : List α) (lo up st : Option Int) : List α :=
  (sliceRange (sliceBounds lo up st xs.length).1 (sliceBounds lo up st xs.length).2.1 (sliceBounds lo up st xs.length).2.2).filterMap (xs[·]?)
theorem pick_ints {vs : List Value} {ns : List Int} {lo up st : Option Int} (h : IntsAre vs ns) : IntsAre (slicePick vs.toArray lo up st).toList (pickZ ns lo up st) := by
  unfold slicePick pickZ
  rw [List.size_toArray, h.length]
  generalize sliceRange _ _ _ = l
  show IntsAre (l.filterMap (vs.toArray[·]?)) _
  induction l with
  | nil => exact .nil
  | cons i r ih =>
    rw [List.filterMap_cons, List.filterMap_cons]
    by_cases hi : i < ns.length
    · obtain ⟨t, ht⟩ := h.get i ns[i] (by simp [hi])
      rw [show vs.toArray[i]? = some (.int ns[i] t) by simpa using ht, show ns[i]? = some ns[i] by simp [hi]]
      exact .cons _ _ ih
    · rw [show vs.toArray[i]? = none by simp [h.length, hi], show ns[i]? = none by simp [hi]]
      exact ih
theorem pick_le {vs : List Value} {lo up st : Option Int} : (slicePick vs.toArray lo up st).toList.length ≤ vs.length := by
  have := slicePick_size_le vs.toArray lo up st
  rw [List.size_toArray] at this
  rw [Array.length_toList]; exact this
section
variable {prog : Program} {w : World} {A : Around} {E : Value → Shared → Prop} {s : Shared} {h₀ : Heap} {L l : Addr} {m : Str → Option Value} {news : List (Addr × Obj)} {vs : List Value} {ns : List Int} {n : Nat} {value slice : PySem.Expr} {vl vu vk : Value} {lo up st : Option Int}
theorem slice_LI {Q : Value → Shared → Prop} (F : Fr h₀ L s.heap m) (N : News h₀ L s.heap news) (hl : (l, W.listOf vs.toArray n) ∈ news) (hi : IntsAre vs ns) (pl : IsPart vl lo) (pu : IsPart vu up) (pk : IsPart vk st) (h0 : st ≠ some 0) (hz : vs.length ≤ 100000)
    (h : ∀ D ws h', Fr h₀ L h' m → News h₀ L h' ((D, W.listOf (List.toArray ws) 0) :: news) → (∀ p ∈ news, p.1 < D) → IntsAre ws (pickZ ns lo up st) → ws.length ≤ vs.length → Q (.ref D) { s with heap := h' })
    (hs : subscripted slice false (.ref l) (.ref s.heap.objs.size) = operate [.ref l, .ref s.heap.objs.size] (getItem (.ref l) (.ref s.heap.objs.size)) := by with_unfolding_all rfl) :
    wpAny (model prog w) A (subscriptTail value slice (.ref l) (.ref s.heap.objs.size)) Q E { s with heap := s.heap.push { cls := .type "slice", data := .fields #[vl, vu, vk] } } := by
  have hL := isList_of N hl
  refine tail_any (Heap.IsList.typeIs (s := { s with heap := s.heap.push { cls := .type "slice", data := .fields #[vl, vu, vk] } }) (hL.push _)) list_getitem_lookup
    (wpAny_getItem_list_slice (hL.push _) (Heap.IsSliceOf.new ..) pl pu pk h0 ?_ (by rw [sizeLine_eq, List.size_toArray]; omega)) hs
  have N1 := News.push (F.push { cls := .type "slice", data := .fields #[vl, vu, vk] }) (N.grown fun _ _ e => Heap.get?_push_of_some _ e) { cls := .type "list", data := .seq (slicePick vs.toArray lo up st) }
  have e : slicePick vs.toArray lo up st = (slicePick vs.toArray lo up st).toList.toArray := by simp
  exact h _ (slicePick vs.toArray lo up st).toList _ ((F.push _).push _) (by rw [← e]; exact N1) (fun p hp => by rw [Heap.size_push]; exact Nat.lt_succ_of_lt (Heap.lt_size (N p hp).1)) (pick_ints hi) pick_le
end
theorem pickZ_rng {ns : List Int} {lo up st : Option Int} (h : ∀ k ∈ ns, rng k) : ∀ k ∈ pickZ ns lo up st, rng k := by
  intro k hk
  obtain ⟨i, _, e⟩ := List.mem_filterMap.mp hk
  exact h k (List.mem_of_getElem? e)
theorem fm_all {α : Type} (xs : List α) : (List.range xs.length).filterMap (xs[·]?) = xs := by
  have h := krv_all xs.toArray
  simpa using h
theorem pickZ_rev {α : Type} (xs : List α) : pickZ xs none none (some (-1)) = xs.reverse := by
  unfold pickZ
  rw [krv_bounds, krv_sliceRange, krv_range, List.filterMap_reverse, fm_all]
theorem pickZ_tailrev {α : Type} (xs : List α) : pickZ xs none (some 0) (some (-1)) = (xs.drop 1).reverse := by
  unfold pickZ
  have hb : sliceBounds none (some 0) (some (-1)) xs.length = ((xs.length : Int) - 1, max (-1) (min 0 ((xs.length : Int) - 1)), -1) := by
    unfold sliceBounds; simp
  rw [hb]
  have hr : sliceRange ((xs.length : Int) - 1) (max (-1) (min 0 ((xs.length : Int) - 1))) (-1) = ((List.range (xs.length - 1)).map (· + 1)).reverse := by
    unfold sliceRange
    simp only [show ¬ ((-1 : Int) > 0) by decide, if_false, Int.neg_neg, Int.ediv_one]
    have hc : (if (xs.length : Int) - 1 > max (-1) (min 0 ((xs.length : Int) - 1)) then (xs.length : Int) - 1 - max (-1) (min 0 ((xs.length : Int) - 1)) - -1 - 1 else 0).toNat = xs.length - 1 := by
      split <;> omega
    rw [hc, ← List.map_reverse, ← krv_range, List.map_map]
    apply List.map_congr_left
    intro k hk
    have := List.mem_range.mp hk
    simp only [Function.comp]
    omega
  rw [hr, List.filterMap_reverse]
  congr 1
  rw [List.filterMap_map]
  have h2 := fm_all (xs.drop 1)
  rw [List.length_drop] at h2
  rw [← h2]
  congr 1
  funext i
  simp [Nat.add_comm]
end Mine
end

theorem Mine.anew_W4 : 1 = 1 := by
  w_top off
  first | walk1 | rfl

/-! part W4 -/
section
open PySem PySem.W PyProof.Rows PySem.Calls PySem.Spec
set_option Elab.async false
namespace Mine
set_option maxRecDepth 100000
theorem fill_W4 {w : World} {h : Heap} : (hd.heap_39 w.params).In h → Challenge.rw_bj0062_01.row.prog = Challenge.rw_bj0062_01.row.prog := by
  k_fill
  intro _
  rfl
local macro_rules | `(tactic| walk_at "my_enter") => `(tactic| (refine wpAny_call ?_; k_dflt (refine' code_def ?k1 ?k2 ?k3 ?k4 ?k5 ?kA ?kF ?kK ?k6 ?k7 ?k8 ?k9 ?kB ?_ ?c2 ?c3 ?c4 ?c5; (case kA => exact rfl); (case kF => assumption); (case kK => assumption); (case k1 => k_asm); (case k2 => k_asm); (case k3 => k_asm); (case k4 => k_asm); (case k5 => k_asm); (case k6 => k_is); (case k7 => k_is); (case k8 => walk_at "room"); (case k9 => exact BindsTo.of_eq rfl); (case c5 => decide); (case kB => exact locs rfl); (case c2 => exact rfl); (case c3 => exact rfl); (case c4 => exact rfl); k_whole; intro g' L' h' FG' F' N' B' X' T'; (try dsimp only); (try k_fold))))
local macro_rules | `(tactic| walk_at "my_steps") => `(tactic| repeat' (first | (k_unfold; (try dsimp only)) | walk1 | (dsimp only; walk1)))
local macro_rules | `(tactic| walk_at "setItem ref int") => `(tactic| (k_here; (with_reducible show wpAny _ _ (setItem (Value.ref _) (Value.int _ _) _) _ _ _); k_dflt (refine' set_listK ?k1 ?k2 ?k3 ?k5 ?k6 ?k7 ?_; (case k1 => k_asm); (case k2 => k_asm); (case k3 => k_upd); (case k5 => first | omega | ksa_idx); (case k6 => first | omega | (simp; done) | (simp; omega)); (case k7 => first | omega | ksa_idx); k_whole); intro h' F' N'; (try k_sweep)))
local macro_rules | `(tactic| k_ne) => `(tactic| first | assumption | exact Ne.symm (by assumption) | (refine neN ?_; (try dsimp only); omega))
local macro_rules | `(tactic| k_all) => `(tactic| first | assumption | exact lt_all_ne (by assumption) | exact lt_all_sub (by assumption) (by walk_at "sub") | exact ne_all_sub (by assumption) (by walk_at "sub") | exact allLt_ne (by assumption) | exact allLt_ne (And.right (by assumption)) | exact allLt_ne (And.right (And.right (by assumption))) | exact allLt_ne (And.right (And.right (And.right (by assumption)))) | exact allLt_ne (And.right (And.right (And.right (And.right (by assumption))))) | exact allLt_ne (And.right (And.right (And.right (And.right (And.right (by assumption)))))) | exact allLt_ne (And.right (And.right (And.right (And.right (And.right (And.right (by assumption))))))) | exact allLt_ne (And.right (And.right (And.right (And.right (And.right (And.right (And.right (by assumption)))))))) | exact allLt_ne (And.right (And.right (And.right (And.right (And.right (And.right (And.right (And.right (by assumption))))))))) | exact allLt_ne (And.right (And.right (And.right (And.right (And.right (And.right (And.right (And.right (And.right (by assumption)))))))))) | exact lt_all_off (by assumption) (by omega) | exact off1_sub (by assumption) (by walk_at "sub") | exact List.forall_mem_nil _ | (refine' List.forall_mem_cons.mpr ⟨?a, ?b⟩; (case a => k_ne); (case b => k_all)))
local macro_rules | `(tactic| walk_at "call builtin:list.append") => `(tactic| (k_here; (with_reducible show wpAny _ _ (call (Value.builtin "list.append") [Value.ref _, _]) _ _ _); k_dflt (refine' append_L ?k1 ?k2 ?k3 ?k4 ?_; (case k1 => k_asm); (case k2 => k_asm); (case k3 => k_upd); (case k4 => walk_at "lens"); k_whole); intro h' F' N'; (try k_sweep)))
local macro_rules | `(tactic| walk_at "lens") => `(tactic| first | assumption | omega | (simp only [List.length_append, List.length_cons, List.length_nil, List.length_map, List.length_range, List.length_replicate, List.length_set]; omega))
local macro_rules | `(tactic| walk_at "ints") => `(tactic| first | omega | (simp only [decide_eq_true_eq, decide_eq_false_iff_not, Bool.not_eq_true, beq_iff_eq, beq_eq_false_iff_ne, ne_eq] at *; omega) | (trace_state; fail "ints"))
local macro_rules | `(tactic| walk_at "fld_in") => `(tactic| first | assumption | exact FieldIn.tail (by assumption) | exact FieldIn.tail (FieldIn.tail (by assumption)) | exact FieldIn.tail (FieldIn.tail (FieldIn.tail (by assumption))) | exact FieldIn.tail (FieldIn.tail (FieldIn.tail (FieldIn.tail (by assumption)))) | exact FieldIn.tail (FieldIn.tail (FieldIn.tail (FieldIn.tail (FieldIn.tail (by assumption))))) | exact FieldIn.tail (FieldIn.tail (FieldIn.tail (FieldIn.tail (FieldIn.tail (FieldIn.tail (by assumption)))))) | exact FieldIn.tail (FieldIn.tail (FieldIn.tail (FieldIn.tail (FieldIn.tail (FieldIn.tail (FieldIn.tail (by assumption))))))) | exact FieldIn.tail (FieldIn.tail (FieldIn.tail (FieldIn.tail (FieldIn.tail (FieldIn.tail (FieldIn.tail (FieldIn.tail (by assumption)))))))) | exact FieldIn.tail (FieldIn.tail (FieldIn.tail (FieldIn.tail (FieldIn.tail (FieldIn.tail (FieldIn.tail (FieldIn.tail (FieldIn.tail (by assumption))))))))) | exact FieldIn.tail (FieldIn.tail (FieldIn.tail (FieldIn.tail (FieldIn.tail (FieldIn.tail (FieldIn.tail (FieldIn.tail (FieldIn.tail (FieldIn.tail (by assumption)))))))))) | exact FieldIn.tail (FieldIn.tail (FieldIn.tail (FieldIn.tail (FieldIn.tail (FieldIn.tail (FieldIn.tail (FieldIn.tail (FieldIn.tail (FieldIn.tail (FieldIn.tail (by assumption))))))))))) | exact FieldIn.tail (FieldIn.tail (FieldIn.tail (FieldIn.tail (FieldIn.tail (FieldIn.tail (FieldIn.tail (FieldIn.tail (FieldIn.tail (FieldIn.tail (FieldIn.tail (FieldIn.tail (by assumption)))))))))))))
local macro_rules | `(tactic| k_mem) => `(tactic| first | assumption | exact List.Mem.head _ | (refine' List.Mem.tail _ ?_; k_mem))
local macro_rules | `(tactic| walk_at "subscriptTail") => `(tactic| (k_here; (with_reducible show wpAny _ _ (subscriptTail _ _ (Value.ref _) (Value.int 0 _)) _ _ _); k_dflt (refine' fld_0 ?k1 ?k2 ?_ ?k4; (case k1 => k_asm); (case k2 => walk_at "fld_in"); (case k4 => with_unfolding_all rfl); k_whole)))
local macro_rules | `(tactic| walk_at "subscriptTail Name Constant ref int") => `(tactic| (k_here; (with_reducible show wpAny _ _ (subscriptTail _ _ (Value.ref _) (Value.int 0 _)) _ _ _); k_dflt (refine' fld_0 ?k1 ?k2 ?_ ?k4; (case k1 => k_asm); (case k2 => walk_at "fld_in"); (case k4 => with_unfolding_all rfl); k_whole)))
local macro_rules | `(tactic| walk_at "subscriptTail") => `(tactic| (k_here; (with_reducible show wpAny _ _ (subscriptTail _ _ (Value.ref _) (Value.int 1 _)) _ _ _); k_dflt (refine' fld_1 ?k1 ?k2 ?_ ?k4; (case k1 => k_asm); (case k2 => walk_at "fld_in"); (case k4 => with_unfolding_all rfl); k_whole)))
local macro_rules | `(tactic| walk_at "subscriptTail Name Constant ref int") => `(tactic| (k_here; (with_reducible show wpAny _ _ (subscriptTail _ _ (Value.ref _) (Value.int 1 _)) _ _ _); k_dflt (refine' fld_1 ?k1 ?k2 ?_ ?k4; (case k1 => k_asm); (case k2 => walk_at "fld_in"); (case k4 => with_unfolding_all rfl); k_whole)))
local macro_rules | `(tactic| walk_at "subscriptTail") => `(tactic| (k_here; (with_reducible show wpAny _ _ (subscriptTail _ _ (Value.ref _) (Value.int _ _)) _ _ _); k_dflt (refine' fld_pow ?k1 ?k2 ?k5 ?k6 ?_ ?k4; (case k1 => k_asm); (case k2 => walk_at "fld_in"); (case k5 => first | omega | exact (fmod255 _).1); (case k6 => first | omega | exact (fmod255 _).2); (case k4 => with_unfolding_all rfl); k_whole); intro _))
local macro_rules | `(tactic| walk_at "subscriptTail Subscript Name Constant BinOp ref int") => `(tactic| (k_here; (with_reducible show wpAny _ _ (subscriptTail _ _ (Value.ref _) (Value.int _ _)) _ _ _); k_dflt (refine' fld_pow ?k1 ?k2 ?k5 ?k6 ?_ ?k4; (case k1 => k_asm); (case k2 => walk_at "fld_in"); (case k5 => first | omega | exact (fmod255 _).1); (case k6 => first | omega | exact (fmod255 _).2); (case k4 => with_unfolding_all rfl); k_whole); intro _))
local macro_rules | `(tactic| walk_at "subscriptTail Subscript Name Constant Name ref int") => `(tactic| (k_here; (with_reducible show wpAny _ _ (subscriptTail _ _ (Value.ref _) (Value.int _ _)) _ _ _); k_dflt (refine' fld_pow ?k1 ?k2 ?k5 ?k6 ?_ ?k4; (case k1 => k_asm); (case k2 => walk_at "fld_in"); (case k5 => first | omega | exact (fmod255 _).1); (case k6 => first | omega | exact (fmod255 _).2); (case k4 => with_unfolding_all rfl); k_whole); intro _))
local macro_rules | `(tactic| walk_at "subscriptTail Subscript Name Constant Subscript ref int") => `(tactic| (k_here; (with_reducible show wpAny _ _ (subscriptTail _ _ (Value.ref _) (Value.int _ _)) _ _ _); k_dflt (refine' fld_pow ?k1 ?k2 ?k5 ?k6 ?_ ?k4; (case k1 => k_asm); (case k2 => walk_at "fld_in"); (case k5 => first | omega | exact (fmod255 _).1); (case k6 => first | omega | exact (fmod255 _).2); (case k4 => with_unfolding_all rfl); k_whole); intro _))
local macro_rules | `(tactic| walk_at "subscriptTail") => `(tactic| (k_here; (with_reducible show wpAny _ _ (subscriptTail _ _ (Value.ref _) (Value.int _ _)) _ _ _); k_dflt (refine' fld_log ?k1 ?k2 ?k5 ?k6 ?_ ?k4; (case k1 => k_asm); (case k2 => walk_at "fld_in"); (case k5 => walk_at "ints"); (case k6 => walk_at "ints"); (case k4 => with_unfolding_all rfl); k_whole); intro _))
local macro_rules | `(tactic| walk_at "subscriptTail Subscript Name Constant BinOp ref int") => `(tactic| (k_here; (with_reducible show wpAny _ _ (subscriptTail _ _ (Value.ref _) (Value.int _ _)) _ _ _); k_dflt (refine' fld_log ?k1 ?k2 ?k5 ?k6 ?_ ?k4; (case k1 => k_asm); (case k2 => walk_at "fld_in"); (case k5 => walk_at "ints"); (case k6 => walk_at "ints"); (case k4 => with_unfolding_all rfl); k_whole); intro _))
local macro_rules | `(tactic| walk_at "subscriptTail Subscript Name Constant Name ref int") => `(tactic| (k_here; (with_reducible show wpAny _ _ (subscriptTail _ _ (Value.ref _) (Value.int _ _)) _ _ _); k_dflt (refine' fld_log ?k1 ?k2 ?k5 ?k6 ?_ ?k4; (case k1 => k_asm); (case k2 => walk_at "fld_in"); (case k5 => walk_at "ints"); (case k6 => walk_at "ints"); (case k4 => with_unfolding_all rfl); k_whole); intro _))
local macro_rules | `(tactic| walk_at "subscriptTail Subscript Name Constant Subscript ref int") => `(tactic| (k_here; (with_reducible show wpAny _ _ (subscriptTail _ _ (Value.ref _) (Value.int _ _)) _ _ _); k_dflt (refine' fld_log ?k1 ?k2 ?k5 ?k6 ?_ ?k4; (case k1 => k_asm); (case k2 => walk_at "fld_in"); (case k5 => walk_at "ints"); (case k6 => walk_at "ints"); (case k4 => with_unfolding_all rfl); k_whole); intro _))

local macro_rules | `(tactic| walk_at "pyIter ref") => `(tactic| ((with_reducible show wpAny _ _ (pyIter (Value.ref _)) (fun it s₂ => LoopAtV _ _ _ _ _ _ _ _ _ it s₂) _ _); refine Stopped.out ?_))
local macro_rules | `(tactic| walk_at "exec For Name Call cons nil") => `(tactic| (k_here; (rename Fr _ _ _ _ => lF'); (with_unfolding_all refine' For_invVF lF' ?k1 ?k2 ?_; (case k1 => exact rfl); (case k2 => exact rfl); k_whole)))
local macro_rules | `(tactic| walk_at "exec For Name Name cons nil") => `(tactic| (k_here; (rename Fr _ _ _ _ => lF'); (with_unfolding_all refine' For_invVF lF' ?k1 ?k2 ?_; (case k1 => exact rfl); (case k2 => exact rfl); k_whole)))
local macro_rules | `(tactic| walk_at "call type:range") => `(tactic| (k_here; (with_reducible show wpAny _ _ (call (Value.type "range") [Value.int _ _]) _ _ _); k_dflt (refine' range1_K ?k1 ?k2 ?_; (case k1 => k_asm); (case k2 => k_asm); k_whole); intro r' h' u' v' tk' F' N' R'; (try k_sweep)))
local macro_rules | `(tactic| walk_at "call type:range") => `(tactic| (k_here; (with_reducible show wpAny _ _ (call (Value.type "range") [Value.int _ _, Value.int _ _]) _ _ _); k_dflt (refine' range2_K ?k1 ?k2 ?_; (case k1 => k_asm); (case k2 => k_asm); k_whole); intro r' h' v' tk' F' N' R'; (try k_sweep)))
local macro_rules | `(tactic| walk_at "room") => `(tactic| first | assumption | omega | ((simp only [depth_in1, depth_deeper, units_in1, units_deeper, Around.mark_units]); omega))

local macro_rules | `(tactic| is_list) => `(tactic| (refine' isList_of ?a ?b; (case a => k_asm); (case b => k_mem)))
local macro_rules | `(tactic| walk_at "call builtin:len") => `(tactic| (k_here; (with_reducible show wpAny _ _ (call (Value.builtin "len") [Value.ref _]) _ _ _); k_dflt (refine' len_L ?k2 ?k3 ?k4 ?_; (case k2 => k_asm); (case k3 => k_mem); (case k4 => walk_at "lens"); k_whole); intro t' tk'; (try k_sweep)))
local macro_rules | `(tactic| walk_at "binaryOp Add ref ref") => `(tactic| (k_here; (with_reducible show wpAny _ _ (binaryOp Operator.Add (Value.ref _) (Value.ref _)) _ _ _); k_dflt (refine' add_L ?k1 ?k2 ?k3 ?k4 ?k5 ?_; (case k1 => k_asm); (case k2 => k_asm); (case k3 => k_mem); (case k4 => k_mem); (case k5 => walk_at "lens"); k_whole); intro r' h' F' N' hl'; (have hl2' := hl'); (try k_lt hl2'); (try k_sweep)))

local macro_rules | `(tactic| walk_at "sub") => `(tactic| first | (refine' List.forall_mem_cons.mpr ⟨?a, ?b⟩; (case a => k_mem); (case b => walk_at "sub")) | (intro p hp; k_mem))

local macro_rules | `(tactic| walk_at "keep") => `(tactic| first | exact keep_base | exact keep_refl | (refine keep_x ?_; walk_at "keep") | (refine keep_upd (by decide) ?_; walk_at "keep") | (refine keep_in (by decide) ?_; walk_at "keep"))

local macro_rules | `(tactic| walk_at "CompSrc") => `(tactic| refine Stopped.out ?_)
local macro_rules | `(tactic| walk_at "my_enterC") => `(tactic| (refine wpAny_call ?_; k_dflt (refine' code_defC ?k1 ?k2 ?k3 ?k4 ?k5 ?kA ?kF ?kK ?k6 ?k7 ?k8 ?k9 ?kB ?kD ?_ ?c2 ?c3 ?c4; (case kA => exact rfl); (case kF => assumption); (case kK => assumption); (case k1 => k_asm); (case k2 => k_asm); (case k3 => k_asm); (case k4 => k_asm); (case k5 => k_asm); (case k6 => k_is); (case k7 => k_is); (case k8 => walk_at "room"); (case k9 => exact BindsTo.of_eq rfl); (case kB => exact rfl); (case kD => decide +kernel); (case c2 => exact rfl); (case c3 => exact rfl); (case c4 => exact rfl); k_whole; intro g' L' h' tk' cells' FG' F' N' Y' B' X' T' l1; k_cells Y'; (try simp only [List.cons_append, List.nil_append] at N'); (try dsimp only); (try k_fold))))

local macro_rules | `(tactic| walk_at "subscriptTail Name Slice ref ref") => `(tactic| (k_here; (with_reducible show wpAny _ _ (subscriptTail _ (PySem.Expr.Slice _ _ _ _) (Value.ref _) (Value.ref _)) _ _ _); k_dflt (refine' slice_LI ?zF ?zN ?zl ?zi ?zp ?zq ?zk ?zo ?zz ?_ ?zs; (case zF => k_asm); (case zN => k_asm); (case zl => k_mem); (case zi => assumption); (case zp => kmk_part); (case zq => kmk_part); (case zk => kmk_part); (case zo => decide); (case zz => walk_at "lens"); (case zs => with_unfolding_all rfl)); intro D' ws' h' F' N' l1 hI' hL'; (have l2' := l1); (try k_lt l2'); (try k_sweep)))
local macro_rules | `(tactic| walk_at "subscriptTail ListComp Slice ref ref") => `(tactic| (k_here; (with_reducible show wpAny _ _ (subscriptTail _ (PySem.Expr.Slice _ _ _ _) (Value.ref _) (Value.ref _)) _ _ _); k_dflt (refine' slice_LI ?zF ?zN ?zl ?zi ?zp ?zq ?zk ?zo ?zz ?_ ?zs; (case zF => k_asm); (case zN => k_asm); (case zl => k_mem); (case zi => assumption); (case zp => kmk_part); (case zq => kmk_part); (case zk => kmk_part); (case zo => decide); (case zz => walk_at "lens"); (case zs => with_unfolding_all rfl)); intro D' ws' h' F' N' l1 hI' hL'; (have l2' := l1); (try k_lt l2'); (try k_sweep)))
local macro_rules | `(tactic| walk_at "subscriptTail Subscript Slice ref ref") => `(tactic| (k_here; (with_reducible show wpAny _ _ (subscriptTail _ (PySem.Expr.Slice _ _ _ _) (Value.ref _) (Value.ref _)) _ _ _); k_dflt (refine' slice_LI ?zF ?zN ?zl ?zi ?zp ?zq ?zk ?zo ?zz ?_ ?zs; (case zF => k_asm); (case zN => k_asm); (case zl => k_mem); (case zi => assumption); (case zp => kmk_part); (case zq => kmk_part); (case zk => kmk_part); (case zo => decide); (case zz => walk_at "lens"); (case zs => with_unfolding_all rfl)); intro D' ws' h' F' N' l1 hI' hL'; (have l2' := l1); (try k_lt l2'); (try k_sweep)))
local macro_rules | `(tactic| walk_at "subscriptTail Attribute Slice ref ref") => `(tactic| (k_here; (with_reducible show wpAny _ _ (subscriptTail _ (PySem.Expr.Slice _ _ _ _) (Value.ref _) (Value.ref _)) _ _ _); k_dflt (refine' slice_LI ?zF ?zN ?zl ?zi ?zp ?zq ?zk ?zo ?zz ?_ ?zs; (case zF => k_asm); (case zN => k_asm); (case zl => k_mem); (case zi => assumption); (case zp => kmk_part); (case zq => kmk_part); (case zk => kmk_part); (case zo => decide); (case zz => walk_at "lens"); (case zs => with_unfolding_all rfl)); intro D' ws' h' F' N' l1 hI' hL'; (have l2' := l1); (try k_lt l2'); (try k_sweep)))
local macro_rules | `(tactic| walk_at "subscriptTail Name Name ref ref") => `(tactic| (k_here; (with_reducible show wpAny _ _ (subscriptTail _ _ (Value.ref _) (Value.ref _)) _ _ _); k_dflt (refine' slice_LI ?zF ?zN ?zl ?zi ?zp ?zq ?zk ?zo ?zz ?_ ?zs; (case zF => k_asm); (case zN => k_asm); (case zl => k_mem); (case zi => assumption); (case zp => kmk_part); (case zq => kmk_part); (case zk => kmk_part); (case zo => decide); (case zz => walk_at "lens"); (case zs => with_unfolding_all rfl)); intro D' ws' h' F' N' l1 hI' hL'; (have l2' := l1); (try k_lt l2'); (try k_sweep)))
local macro_rules | `(tactic| walk_at "subscriptTail Attribute Name ref ref") => `(tactic| (k_here; (with_reducible show wpAny _ _ (subscriptTail _ _ (Value.ref _) (Value.ref _)) _ _ _); k_dflt (refine' slice_LI ?zF ?zN ?zl ?zi ?zp ?zq ?zk ?zo ?zz ?_ ?zs; (case zF => k_asm); (case zN => k_asm); (case zl => k_mem); (case zi => assumption); (case zp => kmk_part); (case zq => kmk_part); (case zk => kmk_part); (case zo => decide); (case zz => walk_at "lens"); (case zs => with_unfolding_all rfl)); intro D' ws' h' F' N' l1 hI' hL'; (have l2' := l1); (try k_lt l2'); (try k_sweep)))

variable {w : World} {mean : ExcName → Option Value} {mg mb : Str → Option Value} {dp un : Nat} {gd : Option (List Code)} {A₀ : Around} {base h₀ : Heap} {env : Env} {outer : List Env} {L : Addr} {m : Str → Option Value} {s : Shared} {Q E : Value → Shared → Prop}
set_option maxHeartbeats 800000 in
theorem times_call {news : List (Addr × Obj)} {fa pa la : Addr} {a b : Int} {ta tb : Tok}
  (B : Below A₀ base outer h₀) (F : Fr h₀ L s.heap m) (X : (hd.heap_39 w.params).In h₀) (N : News h₀ L s.heap news) (T : TopM mean mg mb h₀)
  (hf : env.frame = some L) (hk : env.scope.kind = .function) (hroom : dp + 1 < recursionLimit) (hun : un + 8 < cLine)
  (H : FieldIn w news fa pa la) (a0 : 0 ≤ a) (a1 : a < 256) (b0 : 0 ≤ b) (b1 : b < 256)
  (hret : ∀ (t : Tok) (h' : Heap) (tk' : Nat), Fr h₀ L h' m → News h₀ L h' news → Q (.int (mulZ a b) t) { s with heap := h', toks := tk' }) :
  wpAny (model PP w) (AA dp un gd env outer) (call (.ref 299) [.int a ta, .int b tb, .ref fa]) Q E s := by
  walk_at "my_enter"
  walk_at "my_steps"
  all_goals (rename Fr h₀ L _ m => kF; rename News h₀ L _ _ => kN; try simp only [decide_eq_true_eq, decide_eq_false_iff_not, Bool.not_eq_true, beq_iff_eq, beq_eq_false_iff_ne, ne_eq] at *)
  · exact cb_retI hret (by unfold mulZ; simp [*]) kF kN
  · exact cb_retI hret (by unfold mulZ; simp [*]) kF kN
  · exact cb_retI hret (by unfold mulZ; simp [*]) kF kN

end Mine
end

theorem Mine.anew_P1 : 1 = 1 := by
  w_top off
  first | walk1 | rfl

/-! part P1 -/
section
open PySem PySem.W PyProof.Rows PySem.Calls PySem.Spec
set_option Elab.async false
namespace Mine
set_option maxRecDepth 100000
/-! the register (Berlekamp and Massey), as the text says it -/
structure BM where
  reg : List Int
  former : List Int
  size : Int
  gap : Int
  last : Int
def missZ (reg sums : List Int) (n : Nat) (size : Int) : Int :=
  (List.range (min (size + 1) reg.length - 1).toNat).foldl (fun ms j => xorZ ms (mulZ (reg.getD (j + 1) 0) (sums.getD (n - (j + 1)) 0))) (sums.getD n 0)
def padZ (reg : List Int) (k : Int) : List Int := reg ++ List.replicate (k - reg.length).toNat 0
def addsZ (r former : List Int) (gap : Nat) (share : Int) : List Int :=
  (List.range former.length).foldl (fun r k => r.set (k + gap) (xorZ (r.getD (k + gap) 0) (mulZ share (former.getD k 0)))) r
def stepZ (sums : List Int) (b : BM) (n : Nat) : BM :=
  let miss := missZ b.reg sums n b.size
  if miss = 0 then { b with gap := b.gap + 1 }
  else
    let r := addsZ (padZ b.reg (b.former.length + b.gap)) b.former b.gap.toNat (divZ miss b.last)
    if 2 * b.size ≤ n then ⟨r, b.reg, n + 1 - b.size, 1, miss⟩ else { b with reg := r, gap := b.gap + 1 }
def bm0 : BM := ⟨[1], [1], 0, 1, 1⟩
def bmZ (sums : List Int) (n : Nat) : BM := (List.range n).foldl (stepZ sums) bm0
def registerZ (sums : List Int) : List Int := (bmZ sums sums.length).reg

theorem valueZ_rng {x : Int} : ∀ {ns : List Int}, (∀ k ∈ ns, rng k) → rng (valueZ ns x) := by
  intro ns
  unfold valueZ
  have h : ∀ (ns : List Int) (t : Int), rng t → (∀ k ∈ ns, rng k) → rng (ns.foldl (fun t w => xorZ (mulZ t x) w) t) := by
    intro ns
    induction ns with
    | nil => intro t ht _; exact ht
    | cons a r ih => intro t ht hr; exact ih _ (xorZ_rng mulZ_rng (hr a (.head _))) fun k hk => hr k (.tail _ hk)
  exact h ns 0 rng0
theorem getD_rng {l : List Int} (h : ∀ k ∈ l, rng k) (i : Nat) : rng (l.getD i 0) := by
  by_cases hi : i < l.length
  · rw [show l.getD i 0 = l[i] by simp [List.getD, hi]]; exact h _ (List.getElem_mem hi)
  · rw [show l.getD i 0 = 0 by simp [List.getD, Nat.not_lt.mp hi]]; exact rng0
theorem set_rng {l : List Int} (h : ∀ k ∈ l, rng k) (i : Nat) {x : Int} (hx : rng x) : ∀ k ∈ l.set i x, rng k := by
  intro k hk
  rcases List.mem_or_eq_of_mem_set hk with hk | hk
  · exact h k hk
  · rw [hk]; exact hx
theorem miss_fold_rng {reg sums : List Int} {n : Nat} : ∀ (l : List Nat) (a : Int), rng a → rng (l.foldl (fun ms j => xorZ ms (mulZ (reg.getD (j + 1) 0) (sums.getD (n - (j + 1)) 0))) a)
  | [], _, h => h
  | _ :: r, _, h => miss_fold_rng r _ (xorZ_rng h mulZ_rng)
theorem missZ_rng {reg sums : List Int} {n : Nat} {size : Int} (h : ∀ k ∈ sums, rng k) : rng (missZ reg sums n size) := miss_fold_rng _ _ (getD_rng h n)
theorem padZ_rng {reg : List Int} {k : Int} (h : ∀ k ∈ reg, rng k) : ∀ k' ∈ padZ reg k, rng k' := by
  intro x hx
  rcases List.mem_append.mp hx with hx | hx
  · exact h x hx
  · rw [(List.mem_replicate.mp hx).2]; exact rng0
theorem padZ_len {reg : List Int} {k : Int} : ((padZ reg k).length : Int) = max (reg.length : Int) k := by
  unfold padZ; rw [List.length_append, List.length_replicate]; omega
theorem adds_fold {former : List Int} {gap : Nat} {share : Int} : ∀ (l : List Nat) (r : List Int), (∀ k ∈ r, rng k) →
    (∀ k ∈ l.foldl (fun r k => r.set (k + gap) (xorZ (r.getD (k + gap) 0) (mulZ share (former.getD k 0)))) r, rng k) ∧ (l.foldl (fun r k => r.set (k + gap) (xorZ (r.getD (k + gap) 0) (mulZ share (former.getD k 0)))) r).length = r.length
  | [], r, h => ⟨h, rfl⟩
  | a :: l, r, h => by
    have := adds_fold (former := former) (gap := gap) (share := share) l (r.set (a + gap) (xorZ (r.getD (a + gap) 0) (mulZ share (former.getD a 0)))) (set_rng h _ (xorZ_rng (getD_rng h _) mulZ_rng))
    rw [List.length_set] at this
    exact this
theorem addsZ_rng {r former : List Int} {gap : Nat} {share : Int} (h : ∀ k ∈ r, rng k) : ∀ k ∈ addsZ r former gap share, rng k := (adds_fold _ _ h).1
theorem addsZ_len {r former : List Int} {gap : Nat} {share : Int} (h : ∀ k ∈ r, rng k) : (addsZ r former gap share).length = r.length := (adds_fold _ _ h).2

/-- what holds of the register's state before turn n -/
structure BMOk (n : Nat) (b : BM) : Prop where
  reg : ∀ k ∈ b.reg, rng k
  former : ∀ k ∈ b.former, rng k
  r1 : 1 ≤ b.reg.length
  r2 : b.reg.length ≤ n + 1
  f2 : (b.former.length : Int) + b.gap ≤ n + 2
  g1 : 1 ≤ b.gap
  s0 : 0 ≤ b.size
  s1 : b.size ≤ n
  l1 : 1 ≤ b.last
  l2 : b.last < 256
theorem bm0_ok : BMOk 0 bm0 := ⟨fun k hk => by rw [List.mem_singleton.mp hk]; exact ⟨by decide, by decide⟩, fun k hk => by rw [List.mem_singleton.mp hk]; exact ⟨by decide, by decide⟩, by decide, by decide, by decide, by decide, by decide, by decide, by decide, by decide⟩
theorem stepZ_ok {sums : List Int} (hs : ∀ k ∈ sums, rng k) {n : Nat} {b : BM} (h : BMOk n b) : BMOk (n + 1) (stepZ sums b n) := by
  have hm := missZ_rng (reg := b.reg) (n := n) (size := b.size) hs
  have hp := padZ_rng (k := (b.former.length : Int) + b.gap) h.reg
  have hl := padZ_len (reg := b.reg) (k := (b.former.length : Int) + b.gap)
  obtain ⟨a1, a2, a3, a4, a5, a6, a7, a8, a9, a10⟩ := h
  unfold stepZ
  dsimp only
  split
  · refine ⟨a1, a2, a3, ?_, ?_, ?_, ?_, ?_, a9, a10⟩ <;> dsimp only <;> omega
  · rename_i hne
    have hlen := addsZ_len (former := b.former) (gap := b.gap.toNat) (share := divZ (missZ b.reg sums n b.size) b.last) hp
    split
    · refine ⟨addsZ_rng hp, a1, ?_, ?_, ?_, ?_, ?_, ?_, ?_, ?_⟩ <;> dsimp only <;> first | omega | (have := hm.1; omega) | exact hm.2
    · refine ⟨addsZ_rng hp, a2, ?_, ?_, ?_, ?_, ?_, ?_, ?_, ?_⟩ <;> dsimp only <;> omega
theorem bmZ_succ (sums : List Int) (n : Nat) : bmZ sums (n + 1) = stepZ sums (bmZ sums n) n := by
  unfold bmZ; rw [List.range_succ, List.foldl_append]; rfl
theorem bmZ_ok {sums : List Int} (hs : ∀ k ∈ sums, rng k) : ∀ n, BMOk n (bmZ sums n)
  | 0 => bm0_ok
  | n + 1 => by rw [bmZ_succ]; exact stepZ_ok hs (bmZ_ok hs n)

/-! the mending, as the text says it -/
def sumsZ (row : List Int) (e : Nat) : List Int := (List.range e).map fun k => valueZ row (powZ k)
def restZ (reg sums : List Int) (n : Nat) : Int := (List.range (min (n + 1) reg.length)).foldl (fun r k => xorZ r (mulZ (reg.getD k 0) (sums.getD (n - k) 0))) 0
def restsZ (reg sums : List Int) (e : Nat) : List Int := ((List.range e).map (restZ reg sums)).reverse
def slopeZ (reg : List Int) (k : Nat) : Int := if (k : Int).fmod 2 = 1 then reg.getD k 0 else 0
def slopesZ (reg : List Int) : List Int := (((List.range reg.length).map (slopeZ reg)).drop 1).reverse
def backZ (at_ : Int) : Int := powsT.getD ((-at_).fmod 255).toNat 0
def mendStep (row reg rests slopes md : List Int) (p : Nat) : List Int :=
  if valueZ reg.reverse (backZ ((row.length : Int) - 1 - p)) = 0 then
    md.set p (xorZ (row.getD p 0) (mulZ (divZ (valueZ rests (backZ ((row.length : Int) - 1 - p))) (valueZ slopes (backZ ((row.length : Int) - 1 - p)))) (powsT.getD ((row.length : Int) - 1 - p).toNat 0)))
  else md
def mendedZ (row : List Int) (e : Nat) : List Int :=
  (List.range row.length).foldl (mendStep row (registerZ (sumsZ row e)) (restsZ (registerZ (sumsZ row e)) (sumsZ row e) e) (slopesZ (registerZ (sumsZ row e)))) row
theorem sumsZ_rng {row : List Int} {e : Nat} (hr : ∀ k ∈ row, rng k) : ∀ k ∈ sumsZ row e, rng k := fun k hk => by
  obtain ⟨j, _, rfl⟩ := List.mem_map.mp hk
  exact valueZ_rng hr
theorem registerZ_rng {sums : List Int} (hs : ∀ k ∈ sums, rng k) : ∀ k ∈ registerZ sums, rng k := (bmZ_ok hs _).reg
theorem registerZ_len {sums : List Int} (hs : ∀ k ∈ sums, rng k) : 1 ≤ (registerZ sums).length ∧ (registerZ sums).length ≤ sums.length + 1 := ⟨(bmZ_ok hs _).r1, (bmZ_ok hs _).r2⟩
theorem rest_fold_rng {reg sums : List Int} {n : Nat} : ∀ (l : List Nat) (a : Int), rng a → rng (l.foldl (fun r k => xorZ r (mulZ (reg.getD k 0) (sums.getD (n - k) 0))) a)
  | [], _, h => h
  | _ :: r, _, h => rest_fold_rng r _ (xorZ_rng h mulZ_rng)
theorem restZ_rng {reg sums : List Int} {n : Nat} : rng (restZ reg sums n) := rest_fold_rng _ _ rng0
theorem restsZ_rng {reg sums : List Int} {e : Nat} : ∀ k ∈ restsZ reg sums e, rng k := fun k hk => by
  obtain ⟨j, _, rfl⟩ := List.mem_map.mp (List.mem_reverse.mp hk)
  exact restZ_rng
theorem slopesZ_rng {reg : List Int} (hr : ∀ k ∈ reg, rng k) : ∀ k ∈ slopesZ reg, rng k := fun k hk => by
  obtain ⟨j, _, rfl⟩ := List.mem_map.mp (List.mem_of_mem_drop (List.mem_reverse.mp hk))
  unfold slopeZ
  split
  · exact getD_rng hr _
  · exact rng0
theorem mend_fold {row reg rests slopes : List Int} (hr : ∀ k ∈ row, rng k) (n : Nat) : (∀ k ∈ (List.range n).foldl (mendStep row reg rests slopes) row, rng k) ∧ ((List.range n).foldl (mendStep row reg rests slopes) row).length = row.length := by
  induction n with
  | zero => exact ⟨hr, rfl⟩
  | succ n ih =>
    rw [List.range_succ, List.foldl_append]
    show (∀ k ∈ mendStep row reg rests slopes _ n, rng k) ∧ (mendStep row reg rests slopes _ n).length = _
    unfold mendStep
    split
    · exact ⟨set_rng ih.1 _ (xorZ_rng (getD_rng hr _) mulZ_rng), by rw [List.length_set]; exact ih.2⟩
    · exact ih
theorem backZ_rng {a : Int} : rng (backZ a) := powsT_rng (by have := fmod255 (-a); omega)
end Mine
end

theorem Mine.anew_W5 : 1 = 1 := by
  w_top off
  first | walk1 | rfl

/-! part W5 -/
section
open PySem PySem.W PyProof.Rows PySem.Calls PySem.Spec
set_option Elab.async false
namespace Mine
set_option maxRecDepth 100000
theorem fill_W5 {w : World} {h : Heap} : (hd.heap_39 w.params).In h → Challenge.rw_bj0062_01.row.prog = Challenge.rw_bj0062_01.row.prog := by
  k_fill
  intro _
  rfl
local macro_rules | `(tactic| walk_at "my_enter") => `(tactic| (refine wpAny_call ?_; k_dflt (refine' code_def ?k1 ?k2 ?k3 ?k4 ?k5 ?kA ?kF ?kK ?k6 ?k7 ?k8 ?k9 ?kB ?_ ?c2 ?c3 ?c4 ?c5; (case kA => exact rfl); (case kF => assumption); (case kK => assumption); (case k1 => k_asm); (case k2 => k_asm); (case k3 => k_asm); (case k4 => k_asm); (case k5 => k_asm); (case k6 => k_is); (case k7 => k_is); (case k8 => walk_at "room"); (case k9 => exact BindsTo.of_eq rfl); (case c5 => decide); (case kB => exact locs rfl); (case c2 => exact rfl); (case c3 => exact rfl); (case c4 => exact rfl); k_whole; intro g' L' h' FG' F' N' B' X' T'; (try dsimp only); (try k_fold))))
local macro_rules | `(tactic| walk_at "my_steps") => `(tactic| repeat' (first | (k_unfold; (try dsimp only)) | walk1 | (dsimp only; walk1)))
local macro_rules | `(tactic| walk_at "setItem ref int") => `(tactic| (k_here; (with_reducible show wpAny _ _ (setItem (Value.ref _) (Value.int _ _) _) _ _ _); k_dflt (refine' set_listK ?k1 ?k2 ?k3 ?k5 ?k6 ?k7 ?_; (case k1 => k_asm); (case k2 => k_asm); (case k3 => k_upd); (case k5 => first | omega | ksa_idx); (case k6 => first | omega | (simp; done) | (simp; omega)); (case k7 => first | omega | ksa_idx); k_whole); intro h' F' N'; (try k_sweep)))
local macro_rules | `(tactic| k_ne) => `(tactic| first | assumption | exact Ne.symm (by assumption) | (refine neN ?_; (try dsimp only); omega))
local macro_rules | `(tactic| k_all) => `(tactic| first | assumption | exact lt_all_ne (by assumption) | exact lt_all_sub (by assumption) (by walk_at "sub") | exact ne_all_sub (by assumption) (by walk_at "sub") | exact allLt_ne (by assumption) | exact allLt_ne (And.right (by assumption)) | exact allLt_ne (And.right (And.right (by assumption))) | exact allLt_ne (And.right (And.right (And.right (by assumption)))) | exact allLt_ne (And.right (And.right (And.right (And.right (by assumption))))) | exact allLt_ne (And.right (And.right (And.right (And.right (And.right (by assumption)))))) | exact allLt_ne (And.right (And.right (And.right (And.right (And.right (And.right (by assumption))))))) | exact allLt_ne (And.right (And.right (And.right (And.right (And.right (And.right (And.right (by assumption)))))))) | exact allLt_ne (And.right (And.right (And.right (And.right (And.right (And.right (And.right (And.right (by assumption))))))))) | exact allLt_ne (And.right (And.right (And.right (And.right (And.right (And.right (And.right (And.right (And.right (by assumption)))))))))) | exact lt_all_off (by assumption) (by omega) | exact off1_sub (by assumption) (by walk_at "sub") | exact List.forall_mem_nil _ | (refine' List.forall_mem_cons.mpr ⟨?a, ?b⟩; (case a => k_ne); (case b => k_all)))
local macro_rules | `(tactic| walk_at "call builtin:list.append") => `(tactic| (k_here; (with_reducible show wpAny _ _ (call (Value.builtin "list.append") [Value.ref _, _]) _ _ _); k_dflt (refine' append_L ?k1 ?k2 ?k3 ?k4 ?_; (case k1 => k_asm); (case k2 => k_asm); (case k3 => k_upd); (case k4 => walk_at "lens"); k_whole); intro h' F' N'; (try k_sweep)))
local macro_rules | `(tactic| walk_at "lens") => `(tactic| first | assumption | omega | (simp only [List.length_append, List.length_cons, List.length_nil, List.length_map, List.length_range, List.length_replicate, List.length_set]; omega))
local macro_rules | `(tactic| walk_at "ints") => `(tactic| first | omega | (simp only [decide_eq_true_eq, decide_eq_false_iff_not, Bool.not_eq_true, beq_iff_eq, beq_eq_false_iff_ne, ne_eq] at *; omega) | (trace_state; fail "ints"))
local macro_rules | `(tactic| walk_at "fld_in") => `(tactic| first | assumption | exact FieldIn.tail (by assumption) | exact FieldIn.tail (FieldIn.tail (by assumption)) | exact FieldIn.tail (FieldIn.tail (FieldIn.tail (by assumption))) | exact FieldIn.tail (FieldIn.tail (FieldIn.tail (FieldIn.tail (by assumption)))) | exact FieldIn.tail (FieldIn.tail (FieldIn.tail (FieldIn.tail (FieldIn.tail (by assumption))))) | exact FieldIn.tail (FieldIn.tail (FieldIn.tail (FieldIn.tail (FieldIn.tail (FieldIn.tail (by assumption)))))) | exact FieldIn.tail (FieldIn.tail (FieldIn.tail (FieldIn.tail (FieldIn.tail (FieldIn.tail (FieldIn.tail (by assumption))))))) | exact FieldIn.tail (FieldIn.tail (FieldIn.tail (FieldIn.tail (FieldIn.tail (FieldIn.tail (FieldIn.tail (FieldIn.tail (by assumption)))))))) | exact FieldIn.tail (FieldIn.tail (FieldIn.tail (FieldIn.tail (FieldIn.tail (FieldIn.tail (FieldIn.tail (FieldIn.tail (FieldIn.tail (by assumption))))))))) | exact FieldIn.tail (FieldIn.tail (FieldIn.tail (FieldIn.tail (FieldIn.tail (FieldIn.tail (FieldIn.tail (FieldIn.tail (FieldIn.tail (FieldIn.tail (by assumption)))))))))) | exact FieldIn.tail (FieldIn.tail (FieldIn.tail (FieldIn.tail (FieldIn.tail (FieldIn.tail (FieldIn.tail (FieldIn.tail (FieldIn.tail (FieldIn.tail (FieldIn.tail (by assumption))))))))))) | exact FieldIn.tail (FieldIn.tail (FieldIn.tail (FieldIn.tail (FieldIn.tail (FieldIn.tail (FieldIn.tail (FieldIn.tail (FieldIn.tail (FieldIn.tail (FieldIn.tail (FieldIn.tail (by assumption)))))))))))))
local macro_rules | `(tactic| k_mem) => `(tactic| first | assumption | exact List.Mem.head _ | (refine' List.Mem.tail _ ?_; k_mem))
local macro_rules | `(tactic| walk_at "subscriptTail") => `(tactic| (k_here; (with_reducible show wpAny _ _ (subscriptTail _ _ (Value.ref _) (Value.int 0 _)) _ _ _); k_dflt (refine' fld_0 ?k1 ?k2 ?_ ?k4; (case k1 => k_asm); (case k2 => walk_at "fld_in"); (case k4 => with_unfolding_all rfl); k_whole)))
local macro_rules | `(tactic| walk_at "subscriptTail Name Constant ref int") => `(tactic| (k_here; (with_reducible show wpAny _ _ (subscriptTail _ _ (Value.ref _) (Value.int 0 _)) _ _ _); k_dflt (refine' fld_0 ?k1 ?k2 ?_ ?k4; (case k1 => k_asm); (case k2 => walk_at "fld_in"); (case k4 => with_unfolding_all rfl); k_whole)))
local macro_rules | `(tactic| walk_at "subscriptTail") => `(tactic| (k_here; (with_reducible show wpAny _ _ (subscriptTail _ _ (Value.ref _) (Value.int 1 _)) _ _ _); k_dflt (refine' fld_1 ?k1 ?k2 ?_ ?k4; (case k1 => k_asm); (case k2 => walk_at "fld_in"); (case k4 => with_unfolding_all rfl); k_whole)))
local macro_rules | `(tactic| walk_at "subscriptTail Name Constant ref int") => `(tactic| (k_here; (with_reducible show wpAny _ _ (subscriptTail _ _ (Value.ref _) (Value.int 1 _)) _ _ _); k_dflt (refine' fld_1 ?k1 ?k2 ?_ ?k4; (case k1 => k_asm); (case k2 => walk_at "fld_in"); (case k4 => with_unfolding_all rfl); k_whole)))
local macro_rules | `(tactic| walk_at "subscriptTail") => `(tactic| (k_here; (with_reducible show wpAny _ _ (subscriptTail _ _ (Value.ref _) (Value.int _ _)) _ _ _); k_dflt (refine' fld_pow ?k1 ?k2 ?k5 ?k6 ?_ ?k4; (case k1 => k_asm); (case k2 => walk_at "fld_in"); (case k5 => first | omega | exact (fmod255 _).1); (case k6 => first | omega | exact (fmod255 _).2); (case k4 => with_unfolding_all rfl); k_whole); intro _))
local macro_rules | `(tactic| walk_at "subscriptTail Subscript Name Constant BinOp ref int") => `(tactic| (k_here; (with_reducible show wpAny _ _ (subscriptTail _ _ (Value.ref _) (Value.int _ _)) _ _ _); k_dflt (refine' fld_pow ?k1 ?k2 ?k5 ?k6 ?_ ?k4; (case k1 => k_asm); (case k2 => walk_at "fld_in"); (case k5 => first | omega | exact (fmod255 _).1); (case k6 => first | omega | exact (fmod255 _).2); (case k4 => with_unfolding_all rfl); k_whole); intro _))
local macro_rules | `(tactic| walk_at "subscriptTail Subscript Name Constant Name ref int") => `(tactic| (k_here; (with_reducible show wpAny _ _ (subscriptTail _ _ (Value.ref _) (Value.int _ _)) _ _ _); k_dflt (refine' fld_pow ?k1 ?k2 ?k5 ?k6 ?_ ?k4; (case k1 => k_asm); (case k2 => walk_at "fld_in"); (case k5 => first | omega | exact (fmod255 _).1); (case k6 => first | omega | exact (fmod255 _).2); (case k4 => with_unfolding_all rfl); k_whole); intro _))
local macro_rules | `(tactic| walk_at "subscriptTail Subscript Name Constant Subscript ref int") => `(tactic| (k_here; (with_reducible show wpAny _ _ (subscriptTail _ _ (Value.ref _) (Value.int _ _)) _ _ _); k_dflt (refine' fld_pow ?k1 ?k2 ?k5 ?k6 ?_ ?k4; (case k1 => k_asm); (case k2 => walk_at "fld_in"); (case k5 => first | omega | exact (fmod255 _).1); (case k6 => first | omega | exact (fmod255 _).2); (case k4 => with_unfolding_all rfl); k_whole); intro _))
local macro_rules | `(tactic| walk_at "subscriptTail") => `(tactic| (k_here; (with_reducible show wpAny _ _ (subscriptTail _ _ (Value.ref _) (Value.int _ _)) _ _ _); k_dflt (refine' fld_log ?k1 ?k2 ?k5 ?k6 ?_ ?k4; (case k1 => k_asm); (case k2 => walk_at "fld_in"); (case k5 => walk_at "ints"); (case k6 => walk_at "ints"); (case k4 => with_unfolding_all rfl); k_whole); intro _))
local macro_rules | `(tactic| walk_at "subscriptTail Subscript Name Constant BinOp ref int") => `(tactic| (k_here; (with_reducible show wpAny _ _ (subscriptTail _ _ (Value.ref _) (Value.int _ _)) _ _ _); k_dflt (refine' fld_log ?k1 ?k2 ?k5 ?k6 ?_ ?k4; (case k1 => k_asm); (case k2 => walk_at "fld_in"); (case k5 => walk_at "ints"); (case k6 => walk_at "ints"); (case k4 => with_unfolding_all rfl); k_whole); intro _))
local macro_rules | `(tactic| walk_at "subscriptTail Subscript Name Constant Name ref int") => `(tactic| (k_here; (with_reducible show wpAny _ _ (subscriptTail _ _ (Value.ref _) (Value.int _ _)) _ _ _); k_dflt (refine' fld_log ?k1 ?k2 ?k5 ?k6 ?_ ?k4; (case k1 => k_asm); (case k2 => walk_at "fld_in"); (case k5 => walk_at "ints"); (case k6 => walk_at "ints"); (case k4 => with_unfolding_all rfl); k_whole); intro _))
local macro_rules | `(tactic| walk_at "subscriptTail Subscript Name Constant Subscript ref int") => `(tactic| (k_here; (with_reducible show wpAny _ _ (subscriptTail _ _ (Value.ref _) (Value.int _ _)) _ _ _); k_dflt (refine' fld_log ?k1 ?k2 ?k5 ?k6 ?_ ?k4; (case k1 => k_asm); (case k2 => walk_at "fld_in"); (case k5 => walk_at "ints"); (case k6 => walk_at "ints"); (case k4 => with_unfolding_all rfl); k_whole); intro _))

local macro_rules | `(tactic| walk_at "pyIter ref") => `(tactic| ((with_reducible show wpAny _ _ (pyIter (Value.ref _)) (fun it s₂ => LoopAtV _ _ _ _ _ _ _ _ _ it s₂) _ _); refine Stopped.out ?_))
local macro_rules | `(tactic| walk_at "exec For Name Call cons nil") => `(tactic| (k_here; (rename Fr _ _ _ _ => lF'); (with_unfolding_all refine' For_invVF lF' ?k1 ?k2 ?_; (case k1 => exact rfl); (case k2 => exact rfl); k_whole)))
local macro_rules | `(tactic| walk_at "exec For Name Name cons nil") => `(tactic| (k_here; (rename Fr _ _ _ _ => lF'); (with_unfolding_all refine' For_invVF lF' ?k1 ?k2 ?_; (case k1 => exact rfl); (case k2 => exact rfl); k_whole)))
local macro_rules | `(tactic| walk_at "call type:range") => `(tactic| (k_here; (with_reducible show wpAny _ _ (call (Value.type "range") [Value.int _ _]) _ _ _); k_dflt (refine' range1_K ?k1 ?k2 ?_; (case k1 => k_asm); (case k2 => k_asm); k_whole); intro r' h' u' v' tk' F' N' R'; (try k_sweep)))
local macro_rules | `(tactic| walk_at "call type:range") => `(tactic| (k_here; (with_reducible show wpAny _ _ (call (Value.type "range") [Value.int _ _, Value.int _ _]) _ _ _); k_dflt (refine' range2_K ?k1 ?k2 ?_; (case k1 => k_asm); (case k2 => k_asm); k_whole); intro r' h' v' tk' F' N' R'; (try k_sweep)))
local macro_rules | `(tactic| walk_at "room") => `(tactic| first | assumption | omega | ((simp only [depth_in1, depth_deeper, units_in1, units_deeper, Around.mark_units]); omega))

local macro_rules | `(tactic| is_list) => `(tactic| (refine' isList_of ?a ?b; (case a => k_asm); (case b => k_mem)))
local macro_rules | `(tactic| walk_at "call builtin:len") => `(tactic| (k_here; (with_reducible show wpAny _ _ (call (Value.builtin "len") [Value.ref _]) _ _ _); k_dflt (refine' len_L ?k2 ?k3 ?k4 ?_; (case k2 => k_asm); (case k3 => k_mem); (case k4 => walk_at "lens"); k_whole); intro t' tk'; (try k_sweep)))
local macro_rules | `(tactic| walk_at "binaryOp Add ref ref") => `(tactic| (k_here; (with_reducible show wpAny _ _ (binaryOp Operator.Add (Value.ref _) (Value.ref _)) _ _ _); k_dflt (refine' add_L ?k1 ?k2 ?k3 ?k4 ?k5 ?_; (case k1 => k_asm); (case k2 => k_asm); (case k3 => k_mem); (case k4 => k_mem); (case k5 => walk_at "lens"); k_whole); intro r' h' F' N' hl'; (have hl2' := hl'); (try k_lt hl2'); (try k_sweep)))

local macro_rules | `(tactic| walk_at "sub") => `(tactic| first | (refine' List.forall_mem_cons.mpr ⟨?a, ?b⟩; (case a => k_mem); (case b => walk_at "sub")) | (intro p hp; k_mem))

local macro_rules | `(tactic| walk_at "keep") => `(tactic| first | exact keep_base | exact keep_refl | (refine keep_x ?_; walk_at "keep") | (refine keep_upd (by decide) ?_; walk_at "keep") | (refine keep_in (by decide) ?_; walk_at "keep"))

local macro_rules | `(tactic| walk_at "CompSrc") => `(tactic| refine Stopped.out ?_)
local macro_rules | `(tactic| walk_at "my_enterC") => `(tactic| (refine wpAny_call ?_; k_dflt (refine' code_defC ?k1 ?k2 ?k3 ?k4 ?k5 ?kA ?kF ?kK ?k6 ?k7 ?k8 ?k9 ?kB ?kD ?_ ?c2 ?c3 ?c4; (case kA => exact rfl); (case kF => assumption); (case kK => assumption); (case k1 => k_asm); (case k2 => k_asm); (case k3 => k_asm); (case k4 => k_asm); (case k5 => k_asm); (case k6 => k_is); (case k7 => k_is); (case k8 => walk_at "room"); (case k9 => exact BindsTo.of_eq rfl); (case kB => exact rfl); (case kD => decide +kernel); (case c2 => exact rfl); (case c3 => exact rfl); (case c4 => exact rfl); k_whole; intro g' L' h' tk' cells' FG' F' N' Y' B' X' T' l1; k_cells Y'; (try simp only [List.cons_append, List.nil_append] at N'); (try dsimp only); (try k_fold))))

local macro_rules | `(tactic| walk_at "subscriptTail Name Slice ref ref") => `(tactic| (k_here; (with_reducible show wpAny _ _ (subscriptTail _ (PySem.Expr.Slice _ _ _ _) (Value.ref _) (Value.ref _)) _ _ _); k_dflt (refine' slice_LI ?zF ?zN ?zl ?zi ?zp ?zq ?zk ?zo ?zz ?_ ?zs; (case zF => k_asm); (case zN => k_asm); (case zl => k_mem); (case zi => assumption); (case zp => kmk_part); (case zq => kmk_part); (case zk => kmk_part); (case zo => decide); (case zz => walk_at "lens"); (case zs => with_unfolding_all rfl)); intro D' ws' h' F' N' l1 hI' hL'; (have l2' := l1); (try k_lt l2'); (try k_sweep)))
local macro_rules | `(tactic| walk_at "subscriptTail ListComp Slice ref ref") => `(tactic| (k_here; (with_reducible show wpAny _ _ (subscriptTail _ (PySem.Expr.Slice _ _ _ _) (Value.ref _) (Value.ref _)) _ _ _); k_dflt (refine' slice_LI ?zF ?zN ?zl ?zi ?zp ?zq ?zk ?zo ?zz ?_ ?zs; (case zF => k_asm); (case zN => k_asm); (case zl => k_mem); (case zi => assumption); (case zp => kmk_part); (case zq => kmk_part); (case zk => kmk_part); (case zo => decide); (case zz => walk_at "lens"); (case zs => with_unfolding_all rfl)); intro D' ws' h' F' N' l1 hI' hL'; (have l2' := l1); (try k_lt l2'); (try k_sweep)))
local macro_rules | `(tactic| walk_at "subscriptTail Subscript Slice ref ref") => `(tactic| (k_here; (with_reducible show wpAny _ _ (subscriptTail _ (PySem.Expr.Slice _ _ _ _) (Value.ref _) (Value.ref _)) _ _ _); k_dflt (refine' slice_LI ?zF ?zN ?zl ?zi ?zp ?zq ?zk ?zo ?zz ?_ ?zs; (case zF => k_asm); (case zN => k_asm); (case zl => k_mem); (case zi => assumption); (case zp => kmk_part); (case zq => kmk_part); (case zk => kmk_part); (case zo => decide); (case zz => walk_at "lens"); (case zs => with_unfolding_all rfl)); intro D' ws' h' F' N' l1 hI' hL'; (have l2' := l1); (try k_lt l2'); (try k_sweep)))
local macro_rules | `(tactic| walk_at "subscriptTail Attribute Slice ref ref") => `(tactic| (k_here; (with_reducible show wpAny _ _ (subscriptTail _ (PySem.Expr.Slice _ _ _ _) (Value.ref _) (Value.ref _)) _ _ _); k_dflt (refine' slice_LI ?zF ?zN ?zl ?zi ?zp ?zq ?zk ?zo ?zz ?_ ?zs; (case zF => k_asm); (case zN => k_asm); (case zl => k_mem); (case zi => assumption); (case zp => kmk_part); (case zq => kmk_part); (case zk => kmk_part); (case zo => decide); (case zz => walk_at "lens"); (case zs => with_unfolding_all rfl)); intro D' ws' h' F' N' l1 hI' hL'; (have l2' := l1); (try k_lt l2'); (try k_sweep)))
local macro_rules | `(tactic| walk_at "subscriptTail Name Name ref ref") => `(tactic| (k_here; (with_reducible show wpAny _ _ (subscriptTail _ _ (Value.ref _) (Value.ref _)) _ _ _); k_dflt (refine' slice_LI ?zF ?zN ?zl ?zi ?zp ?zq ?zk ?zo ?zz ?_ ?zs; (case zF => k_asm); (case zN => k_asm); (case zl => k_mem); (case zi => assumption); (case zp => kmk_part); (case zq => kmk_part); (case zk => kmk_part); (case zo => decide); (case zz => walk_at "lens"); (case zs => with_unfolding_all rfl)); intro D' ws' h' F' N' l1 hI' hL'; (have l2' := l1); (try k_lt l2'); (try k_sweep)))
local macro_rules | `(tactic| walk_at "subscriptTail Attribute Name ref ref") => `(tactic| (k_here; (with_reducible show wpAny _ _ (subscriptTail _ _ (Value.ref _) (Value.ref _)) _ _ _); k_dflt (refine' slice_LI ?zF ?zN ?zl ?zi ?zp ?zq ?zk ?zo ?zz ?_ ?zs; (case zF => k_asm); (case zN => k_asm); (case zl => k_mem); (case zi => assumption); (case zp => kmk_part); (case zq => kmk_part); (case zk => kmk_part); (case zo => decide); (case zz => walk_at "lens"); (case zs => with_unfolding_all rfl)); intro D' ws' h' F' N' l1 hI' hL'; (have l2' := l1); (try k_lt l2'); (try k_sweep)))

variable {w : World} {mean : ExcName → Option Value} {mg mb : Str → Option Value} {dp un : Nat} {gd : Option (List Code)} {A₀ : Around} {base h₀ : Heap} {env : Env} {outer : List Env} {L : Addr} {m : Str → Option Value} {s : Shared} {Q E : Value → Shared → Prop}
local macro_rules | `(tactic| walk_at "rngs") => `(tactic| first | assumption | exact mulZ_rng.1 | exact mulZ_rng.2 | exact divZ_rng.1 | exact divZ_rng.2 | exact rng_lo (by assumption) | exact rng_hi (by assumption) | omega | exact (by assumption : _ → _ ∨ _) (by assumption))
local macro_rules | `(tactic| walk_at "call ref") => `(tactic| (k_here; (with_reducible show wpAny _ _ (call (Value.ref 299) _) _ _ _); k_dflt (refine' times_call ?k1 ?k2 ?k3 ?k4 ?k5 ?k7 ?k8 ?ka ?kb ?q0 ?q1 ?q2 ?q3 ?q4 ?_; (case k1 => k_asm); (case k2 => k_asm); (case k3 => k_asm); (case k4 => k_asm); (case k5 => k_asm); (case k7 => exact rfl); (case k8 => exact rfl); (case ka => walk_at "room"); (case kb => walk_at "room"); (case q0 => walk_at "fld_in"); (case q1 => walk_at "rngs"); (case q2 => walk_at "rngs"); (case q3 => walk_at "rngs"); (case q4 => walk_at "rngs"); k_whole); intro t9 h9 tk9 F9 N9; (try k_sweep)))


theorem valueZ_take {ns : List Int} {x : Int} {i : Nat} {k : Int} (h : ns[i]? = some k) : valueZ (ns.take (i + 1)) x = xorZ (mulZ (valueZ (ns.take i) x) x) k := by
  unfold valueZ
  rw [List.take_add_one, h]; simp
set_option maxHeartbeats 800000 in
theorem value_call {news : List (Addr × Obj)} {fa pa la r : Addr} {vs : List Value} {ns : List Int} {n : Nat} {x : Int} {tx : Tok}
  (B : Below A₀ base outer h₀) (F : Fr h₀ L s.heap m) (X : (hd.heap_39 w.params).In h₀) (N : News h₀ L s.heap news) (T : TopM mean mg mb h₀)
  (hf : env.frame = some L) (hk : env.scope.kind = .function) (hroom : dp + 2 < recursionLimit) (hun : un + 16 < cLine)
  (H : FieldIn w news fa pa la) (hrow : (r, W.listOf vs.toArray n) ∈ news) (hi : IntsAre vs ns) (hr : ∀ k ∈ ns, rng k) (x0 : 0 ≤ x) (x1 : x < 256)
  (hret : ∀ (t : Tok) (h' : Heap) (tk' : Nat), Fr h₀ L h' m → News h₀ L h' news → Q (.int (valueZ ns x) t) { s with heap := h', toks := tk' }) :
  wpAny (model PP w) (AA dp un gd env outer) (call (.ref 313) [.ref r, .int x tx, .ref fa]) Q E s := by
  walk_at "my_enter"
  walk_at "my_steps"
  refine ⟨?_⟩
  rename Fr _ _ _ _ => lF
  rename News _ _ _ _ => lN
  refine list_loop (fun i m nx => nx = news ∧ ∃ t tp, m "told" = some (.int (valueZ (ns.take i) x) t) ∧ m "place" = some (.int x tp) ∧ m "field" = some (.ref fa)) rfl hrow (fun i m nx hJ => by rw [hJ.1]; exact hrow) lF lN ⟨rfl, _, _, rfl, rfl, rfl⟩ ?_ ?_
  · rintro i v I m₁ nx h tk oi hv hnx ⟨rfl, t, tp, e1, e2, e3⟩ F₁ N₁
    obtain ⟨k, tv, hk1, rfl⟩ := ints_at hi hv
    replace F₁ := frx (a := "told") (frx (a := "place") (frx (a := "field") F₁ (by exact e3)) (by exact e2)) (by exact e1)
    have hrng := valueZ_rng (x := x) (ns := ns.take i) (fun k hk => hr k (List.mem_of_mem_take hk))
    walk_at "my_steps"
    rename Fr _ _ _ _ => F₂
    rename News _ _ _ _ => N₂
    exact tpost_next F₂ N₂ (by k_mem) (fun p hp => .tail _ hp) hnx ⟨rfl, _, _, by rw [valueZ_take hk1]; rfl, rfl, rfl⟩
  · rintro m₁ nx h tk ⟨rfl, t, tp, e1, e2, e3⟩ F₁ N₁
    replace F₁ := frx (a := "told") F₁ e1
    walk_at "my_steps"
    rename Fr h₀ L _ m => kF
    rename News h₀ L _ _ => kN
    exact cb_retI hret (by rw [hi.length, List.take_length]) kF kN

end Mine
end

theorem Mine.anew_W6 : 1 = 1 := by
  w_top off
  first | walk1 | rfl

/-! part W6 -/
section
open PySem PySem.W PyProof.Rows PySem.Calls PySem.Spec
set_option Elab.async false
namespace Mine
set_option maxRecDepth 100000
theorem fill_W6 {w : World} {h : Heap} : (hd.heap_39 w.params).In h → Challenge.rw_bj0062_01.row.prog = Challenge.rw_bj0062_01.row.prog := by
  k_fill
  intro _
  rfl
local macro_rules | `(tactic| walk_at "my_enter") => `(tactic| (refine wpAny_call ?_; k_dflt (refine' code_def ?k1 ?k2 ?k3 ?k4 ?k5 ?kA ?kF ?kK ?k6 ?k7 ?k8 ?k9 ?kB ?_ ?c2 ?c3 ?c4 ?c5; (case kA => exact rfl); (case kF => assumption); (case kK => assumption); (case k1 => k_asm); (case k2 => k_asm); (case k3 => k_asm); (case k4 => k_asm); (case k5 => k_asm); (case k6 => k_is); (case k7 => k_is); (case k8 => walk_at "room"); (case k9 => exact BindsTo.of_eq rfl); (case c5 => decide); (case kB => exact locs rfl); (case c2 => exact rfl); (case c3 => exact rfl); (case c4 => exact rfl); k_whole; intro g' L' h' FG' F' N' B' X' T'; (try dsimp only); (try k_fold))))
local macro_rules | `(tactic| walk_at "my_steps") => `(tactic| repeat' (first | (k_unfold; (try dsimp only)) | walk1 | (dsimp only; walk1)))
local macro_rules | `(tactic| walk_at "setItem ref int") => `(tactic| (k_here; (with_reducible show wpAny _ _ (setItem (Value.ref _) (Value.int _ _) _) _ _ _); k_dflt (refine' set_listK ?k1 ?k2 ?k3 ?k5 ?k6 ?k7 ?_; (case k1 => k_asm); (case k2 => k_asm); (case k3 => k_upd); (case k5 => first | omega | ksa_idx); (case k6 => first | omega | (simp; done) | (simp; omega)); (case k7 => first | omega | ksa_idx); k_whole); intro h' F' N'; (try k_sweep)))
local macro_rules | `(tactic| k_ne) => `(tactic| first | assumption | exact Ne.symm (by assumption) | (refine neN ?_; (try dsimp only); omega))
local macro_rules | `(tactic| k_all) => `(tactic| first | assumption | exact lt_all_ne (by assumption) | exact lt_all_sub (by assumption) (by walk_at "sub") | exact ne_all_sub (by assumption) (by walk_at "sub") | exact allLt_ne (by assumption) | exact allLt_ne (And.right (by assumption)) | exact allLt_ne (And.right (And.right (by assumption))) | exact allLt_ne (And.right (And.right (And.right (by assumption)))) | exact allLt_ne (And.right (And.right (And.right (And.right (by assumption))))) | exact allLt_ne (And.right (And.right (And.right (And.right (And.right (by assumption)))))) | exact allLt_ne (And.right (And.right (And.right (And.right (And.right (And.right (by assumption))))))) | exact allLt_ne (And.right (And.right (And.right (And.right (And.right (And.right (And.right (by assumption)))))))) | exact allLt_ne (And.right (And.right (And.right (And.right (And.right (And.right (And.right (And.right (by assumption))))))))) | exact allLt_ne (And.right (And.right (And.right (And.right (And.right (And.right (And.right (And.right (And.right (by assumption)))))))))) | exact lt_all_off (by assumption) (by omega) | exact off1_sub (by assumption) (by walk_at "sub") | exact List.forall_mem_nil _ | (refine' List.forall_mem_cons.mpr ⟨?a, ?b⟩; (case a => k_ne); (case b => k_all)))
local macro_rules | `(tactic| walk_at "call builtin:list.append") => `(tactic| (k_here; (with_reducible show wpAny _ _ (call (Value.builtin "list.append") [Value.ref _, _]) _ _ _); k_dflt (refine' append_L ?k1 ?k2 ?k3 ?k4 ?_; (case k1 => k_asm); (case k2 => k_asm); (case k3 => k_upd); (case k4 => walk_at "lens"); k_whole); intro h' F' N'; (try k_sweep)))
local macro_rules | `(tactic| walk_at "lens") => `(tactic| first | assumption | omega | (simp only [List.length_append, List.length_cons, List.length_nil, List.length_map, List.length_range, List.length_replicate, List.length_set]; omega))
local macro_rules | `(tactic| walk_at "ints") => `(tactic| first | omega | (simp only [decide_eq_true_eq, decide_eq_false_iff_not, Bool.not_eq_true, beq_iff_eq, beq_eq_false_iff_ne, ne_eq] at *; omega) | (trace_state; fail "ints"))
local macro_rules | `(tactic| walk_at "fld_in") => `(tactic| first | assumption | exact FieldIn.tail (by assumption) | exact FieldIn.tail (FieldIn.tail (by assumption)) | exact FieldIn.tail (FieldIn.tail (FieldIn.tail (by assumption))) | exact FieldIn.tail (FieldIn.tail (FieldIn.tail (FieldIn.tail (by assumption)))) | exact FieldIn.tail (FieldIn.tail (FieldIn.tail (FieldIn.tail (FieldIn.tail (by assumption))))) | exact FieldIn.tail (FieldIn.tail (FieldIn.tail (FieldIn.tail (FieldIn.tail (FieldIn.tail (by assumption)))))) | exact FieldIn.tail (FieldIn.tail (FieldIn.tail (FieldIn.tail (FieldIn.tail (FieldIn.tail (FieldIn.tail (by assumption))))))) | exact FieldIn.tail (FieldIn.tail (FieldIn.tail (FieldIn.tail (FieldIn.tail (FieldIn.tail (FieldIn.tail (FieldIn.tail (by assumption)))))))) | exact FieldIn.tail (FieldIn.tail (FieldIn.tail (FieldIn.tail (FieldIn.tail (FieldIn.tail (FieldIn.tail (FieldIn.tail (FieldIn.tail (by assumption))))))))) | exact FieldIn.tail (FieldIn.tail (FieldIn.tail (FieldIn.tail (FieldIn.tail (FieldIn.tail (FieldIn.tail (FieldIn.tail (FieldIn.tail (FieldIn.tail (by assumption)))))))))) | exact FieldIn.tail (FieldIn.tail (FieldIn.tail (FieldIn.tail (FieldIn.tail (FieldIn.tail (FieldIn.tail (FieldIn.tail (FieldIn.tail (FieldIn.tail (FieldIn.tail (by assumption))))))))))) | exact FieldIn.tail (FieldIn.tail (FieldIn.tail (FieldIn.tail (FieldIn.tail (FieldIn.tail (FieldIn.tail (FieldIn.tail (FieldIn.tail (FieldIn.tail (FieldIn.tail (FieldIn.tail (by assumption)))))))))))))
local macro_rules | `(tactic| k_mem) => `(tactic| first | assumption | exact List.Mem.head _ | (refine' List.Mem.tail _ ?_; k_mem))
local macro_rules | `(tactic| walk_at "subscriptTail") => `(tactic| (k_here; (with_reducible show wpAny _ _ (subscriptTail _ _ (Value.ref _) (Value.int 0 _)) _ _ _); k_dflt (refine' fld_0 ?k1 ?k2 ?_ ?k4; (case k1 => k_asm); (case k2 => walk_at "fld_in"); (case k4 => with_unfolding_all rfl); k_whole)))
local macro_rules | `(tactic| walk_at "subscriptTail Name Constant ref int") => `(tactic| (k_here; (with_reducible show wpAny _ _ (subscriptTail _ _ (Value.ref _) (Value.int 0 _)) _ _ _); k_dflt (refine' fld_0 ?k1 ?k2 ?_ ?k4; (case k1 => k_asm); (case k2 => walk_at "fld_in"); (case k4 => with_unfolding_all rfl); k_whole)))
local macro_rules | `(tactic| walk_at "subscriptTail") => `(tactic| (k_here; (with_reducible show wpAny _ _ (subscriptTail _ _ (Value.ref _) (Value.int 1 _)) _ _ _); k_dflt (refine' fld_1 ?k1 ?k2 ?_ ?k4; (case k1 => k_asm); (case k2 => walk_at "fld_in"); (case k4 => with_unfolding_all rfl); k_whole)))
local macro_rules | `(tactic| walk_at "subscriptTail Name Constant ref int") => `(tactic| (k_here; (with_reducible show wpAny _ _ (subscriptTail _ _ (Value.ref _) (Value.int 1 _)) _ _ _); k_dflt (refine' fld_1 ?k1 ?k2 ?_ ?k4; (case k1 => k_asm); (case k2 => walk_at "fld_in"); (case k4 => with_unfolding_all rfl); k_whole)))
local macro_rules | `(tactic| walk_at "subscriptTail") => `(tactic| (k_here; (with_reducible show wpAny _ _ (subscriptTail _ _ (Value.ref _) (Value.int _ _)) _ _ _); k_dflt (refine' fld_pow ?k1 ?k2 ?k5 ?k6 ?_ ?k4; (case k1 => k_asm); (case k2 => walk_at "fld_in"); (case k5 => first | omega | exact (fmod255 _).1); (case k6 => first | omega | exact (fmod255 _).2); (case k4 => with_unfolding_all rfl); k_whole); intro _))
local macro_rules | `(tactic| walk_at "subscriptTail Subscript Name Constant BinOp ref int") => `(tactic| (k_here; (with_reducible show wpAny _ _ (subscriptTail _ _ (Value.ref _) (Value.int _ _)) _ _ _); k_dflt (refine' fld_pow ?k1 ?k2 ?k5 ?k6 ?_ ?k4; (case k1 => k_asm); (case k2 => walk_at "fld_in"); (case k5 => first | omega | exact (fmod255 _).1); (case k6 => first | omega | exact (fmod255 _).2); (case k4 => with_unfolding_all rfl); k_whole); intro _))
local macro_rules | `(tactic| walk_at "subscriptTail Subscript Name Constant Name ref int") => `(tactic| (k_here; (with_reducible show wpAny _ _ (subscriptTail _ _ (Value.ref _) (Value.int _ _)) _ _ _); k_dflt (refine' fld_pow ?k1 ?k2 ?k5 ?k6 ?_ ?k4; (case k1 => k_asm); (case k2 => walk_at "fld_in"); (case k5 => first | omega | exact (fmod255 _).1); (case k6 => first | omega | exact (fmod255 _).2); (case k4 => with_unfolding_all rfl); k_whole); intro _))
local macro_rules | `(tactic| walk_at "subscriptTail Subscript Name Constant Subscript ref int") => `(tactic| (k_here; (with_reducible show wpAny _ _ (subscriptTail _ _ (Value.ref _) (Value.int _ _)) _ _ _); k_dflt (refine' fld_pow ?k1 ?k2 ?k5 ?k6 ?_ ?k4; (case k1 => k_asm); (case k2 => walk_at "fld_in"); (case k5 => first | omega | exact (fmod255 _).1); (case k6 => first | omega | exact (fmod255 _).2); (case k4 => with_unfolding_all rfl); k_whole); intro _))
local macro_rules | `(tactic| walk_at "subscriptTail") => `(tactic| (k_here; (with_reducible show wpAny _ _ (subscriptTail _ _ (Value.ref _) (Value.int _ _)) _ _ _); k_dflt (refine' fld_log ?k1 ?k2 ?k5 ?k6 ?_ ?k4; (case k1 => k_asm); (case k2 => walk_at "fld_in"); (case k5 => walk_at "ints"); (case k6 => walk_at "ints"); (case k4 => with_unfolding_all rfl); k_whole); intro _))
local macro_rules | `(tactic| walk_at "subscriptTail Subscript Name Constant BinOp ref int") => `(tactic| (k_here; (with_reducible show wpAny _ _ (subscriptTail _ _ (Value.ref _) (Value.int _ _)) _ _ _); k_dflt (refine' fld_log ?k1 ?k2 ?k5 ?k6 ?_ ?k4; (case k1 => k_asm); (case k2 => walk_at "fld_in"); (case k5 => walk_at "ints"); (case k6 => walk_at "ints"); (case k4 => with_unfolding_all rfl); k_whole); intro _))
local macro_rules | `(tactic| walk_at "subscriptTail Subscript Name Constant Name ref int") => `(tactic| (k_here; (with_reducible show wpAny _ _ (subscriptTail _ _ (Value.ref _) (Value.int _ _)) _ _ _); k_dflt (refine' fld_log ?k1 ?k2 ?k5 ?k6 ?_ ?k4; (case k1 => k_asm); (case k2 => walk_at "fld_in"); (case k5 => walk_at "ints"); (case k6 => walk_at "ints"); (case k4 => with_unfolding_all rfl); k_whole); intro _))
local macro_rules | `(tactic| walk_at "subscriptTail Subscript Name Constant Subscript ref int") => `(tactic| (k_here; (with_reducible show wpAny _ _ (subscriptTail _ _ (Value.ref _) (Value.int _ _)) _ _ _); k_dflt (refine' fld_log ?k1 ?k2 ?k5 ?k6 ?_ ?k4; (case k1 => k_asm); (case k2 => walk_at "fld_in"); (case k5 => walk_at "ints"); (case k6 => walk_at "ints"); (case k4 => with_unfolding_all rfl); k_whole); intro _))

local macro_rules | `(tactic| walk_at "pyIter ref") => `(tactic| ((with_reducible show wpAny _ _ (pyIter (Value.ref _)) (fun it s₂ => LoopAtV _ _ _ _ _ _ _ _ _ it s₂) _ _); refine Stopped.out ?_))
local macro_rules | `(tactic| walk_at "exec For Name Call cons nil") => `(tactic| (k_here; (rename Fr _ _ _ _ => lF'); (with_unfolding_all refine' For_invVF lF' ?k1 ?k2 ?_; (case k1 => exact rfl); (case k2 => exact rfl); k_whole)))
local macro_rules | `(tactic| walk_at "exec For Name Name cons nil") => `(tactic| (k_here; (rename Fr _ _ _ _ => lF'); (with_unfolding_all refine' For_invVF lF' ?k1 ?k2 ?_; (case k1 => exact rfl); (case k2 => exact rfl); k_whole)))
local macro_rules | `(tactic| walk_at "call type:range") => `(tactic| (k_here; (with_reducible show wpAny _ _ (call (Value.type "range") [Value.int _ _]) _ _ _); k_dflt (refine' range1_K ?k1 ?k2 ?_; (case k1 => k_asm); (case k2 => k_asm); k_whole); intro r' h' u' v' tk' F' N' R'; (try k_sweep)))
local macro_rules | `(tactic| walk_at "call type:range") => `(tactic| (k_here; (with_reducible show wpAny _ _ (call (Value.type "range") [Value.int _ _, Value.int _ _]) _ _ _); k_dflt (refine' range2_K ?k1 ?k2 ?_; (case k1 => k_asm); (case k2 => k_asm); k_whole); intro r' h' v' tk' F' N' R'; (try k_sweep)))
local macro_rules | `(tactic| walk_at "room") => `(tactic| first | assumption | omega | ((simp only [depth_in1, depth_deeper, units_in1, units_deeper, Around.mark_units]); omega))

local macro_rules | `(tactic| is_list) => `(tactic| (refine' isList_of ?a ?b; (case a => k_asm); (case b => k_mem)))
local macro_rules | `(tactic| walk_at "call builtin:len") => `(tactic| (k_here; (with_reducible show wpAny _ _ (call (Value.builtin "len") [Value.ref _]) _ _ _); k_dflt (refine' len_L ?k2 ?k3 ?k4 ?_; (case k2 => k_asm); (case k3 => k_mem); (case k4 => walk_at "lens"); k_whole); intro t' tk'; (try k_sweep)))
local macro_rules | `(tactic| walk_at "binaryOp Add ref ref") => `(tactic| (k_here; (with_reducible show wpAny _ _ (binaryOp Operator.Add (Value.ref _) (Value.ref _)) _ _ _); k_dflt (refine' add_L ?k1 ?k2 ?k3 ?k4 ?k5 ?_; (case k1 => k_asm); (case k2 => k_asm); (case k3 => k_mem); (case k4 => k_mem); (case k5 => walk_at "lens"); k_whole); intro r' h' F' N' hl'; (have hl2' := hl'); (try k_lt hl2'); (try k_sweep)))

local macro_rules | `(tactic| walk_at "sub") => `(tactic| first | (refine' List.forall_mem_cons.mpr ⟨?a, ?b⟩; (case a => k_mem); (case b => walk_at "sub")) | (intro p hp; k_mem))

local macro_rules | `(tactic| walk_at "keep") => `(tactic| first | exact keep_base | exact keep_refl | (refine keep_x ?_; walk_at "keep") | (refine keep_upd (by decide) ?_; walk_at "keep") | (refine keep_in (by decide) ?_; walk_at "keep"))

local macro_rules | `(tactic| walk_at "CompSrc") => `(tactic| refine Stopped.out ?_)
local macro_rules | `(tactic| walk_at "my_enterC") => `(tactic| (refine wpAny_call ?_; k_dflt (refine' code_defC ?k1 ?k2 ?k3 ?k4 ?k5 ?kA ?kF ?kK ?k6 ?k7 ?k8 ?k9 ?kB ?kD ?_ ?c2 ?c3 ?c4; (case kA => exact rfl); (case kF => assumption); (case kK => assumption); (case k1 => k_asm); (case k2 => k_asm); (case k3 => k_asm); (case k4 => k_asm); (case k5 => k_asm); (case k6 => k_is); (case k7 => k_is); (case k8 => walk_at "room"); (case k9 => exact BindsTo.of_eq rfl); (case kB => exact rfl); (case kD => decide +kernel); (case c2 => exact rfl); (case c3 => exact rfl); (case c4 => exact rfl); k_whole; intro g' L' h' tk' cells' FG' F' N' Y' B' X' T' l1; k_cells Y'; (try simp only [List.cons_append, List.nil_append] at N'); (try dsimp only); (try k_fold))))

local macro_rules | `(tactic| walk_at "subscriptTail Name Slice ref ref") => `(tactic| (k_here; (with_reducible show wpAny _ _ (subscriptTail _ (PySem.Expr.Slice _ _ _ _) (Value.ref _) (Value.ref _)) _ _ _); k_dflt (refine' slice_LI ?zF ?zN ?zl ?zi ?zp ?zq ?zk ?zo ?zz ?_ ?zs; (case zF => k_asm); (case zN => k_asm); (case zl => k_mem); (case zi => assumption); (case zp => kmk_part); (case zq => kmk_part); (case zk => kmk_part); (case zo => decide); (case zz => walk_at "lens"); (case zs => with_unfolding_all rfl)); intro D' ws' h' F' N' l1 hI' hL'; (have l2' := l1); (try k_lt l2'); (try k_sweep)))
local macro_rules | `(tactic| walk_at "subscriptTail ListComp Slice ref ref") => `(tactic| (k_here; (with_reducible show wpAny _ _ (subscriptTail _ (PySem.Expr.Slice _ _ _ _) (Value.ref _) (Value.ref _)) _ _ _); k_dflt (refine' slice_LI ?zF ?zN ?zl ?zi ?zp ?zq ?zk ?zo ?zz ?_ ?zs; (case zF => k_asm); (case zN => k_asm); (case zl => k_mem); (case zi => assumption); (case zp => kmk_part); (case zq => kmk_part); (case zk => kmk_part); (case zo => decide); (case zz => walk_at "lens"); (case zs => with_unfolding_all rfl)); intro D' ws' h' F' N' l1 hI' hL'; (have l2' := l1); (try k_lt l2'); (try k_sweep)))
local macro_rules | `(tactic| walk_at "subscriptTail Subscript Slice ref ref") => `(tactic| (k_here; (with_reducible show wpAny _ _ (subscriptTail _ (PySem.Expr.Slice _ _ _ _) (Value.ref _) (Value.ref _)) _ _ _); k_dflt (refine' slice_LI ?zF ?zN ?zl ?zi ?zp ?zq ?zk ?zo ?zz ?_ ?zs; (case zF => k_asm); (case zN => k_asm); (case zl => k_mem); (case zi => assumption); (case zp => kmk_part); (case zq => kmk_part); (case zk => kmk_part); (case zo => decide); (case zz => walk_at "lens"); (case zs => with_unfolding_all rfl)); intro D' ws' h' F' N' l1 hI' hL'; (have l2' := l1); (try k_lt l2'); (try k_sweep)))
local macro_rules | `(tactic| walk_at "subscriptTail Attribute Slice ref ref") => `(tactic| (k_here; (with_reducible show wpAny _ _ (subscriptTail _ (PySem.Expr.Slice _ _ _ _) (Value.ref _) (Value.ref _)) _ _ _); k_dflt (refine' slice_LI ?zF ?zN ?zl ?zi ?zp ?zq ?zk ?zo ?zz ?_ ?zs; (case zF => k_asm); (case zN => k_asm); (case zl => k_mem); (case zi => assumption); (case zp => kmk_part); (case zq => kmk_part); (case zk => kmk_part); (case zo => decide); (case zz => walk_at "lens"); (case zs => with_unfolding_all rfl)); intro D' ws' h' F' N' l1 hI' hL'; (have l2' := l1); (try k_lt l2'); (try k_sweep)))
local macro_rules | `(tactic| walk_at "subscriptTail Name Name ref ref") => `(tactic| (k_here; (with_reducible show wpAny _ _ (subscriptTail _ _ (Value.ref _) (Value.ref _)) _ _ _); k_dflt (refine' slice_LI ?zF ?zN ?zl ?zi ?zp ?zq ?zk ?zo ?zz ?_ ?zs; (case zF => k_asm); (case zN => k_asm); (case zl => k_mem); (case zi => assumption); (case zp => kmk_part); (case zq => kmk_part); (case zk => kmk_part); (case zo => decide); (case zz => walk_at "lens"); (case zs => with_unfolding_all rfl)); intro D' ws' h' F' N' l1 hI' hL'; (have l2' := l1); (try k_lt l2'); (try k_sweep)))
local macro_rules | `(tactic| walk_at "subscriptTail Attribute Name ref ref") => `(tactic| (k_here; (with_reducible show wpAny _ _ (subscriptTail _ _ (Value.ref _) (Value.ref _)) _ _ _); k_dflt (refine' slice_LI ?zF ?zN ?zl ?zi ?zp ?zq ?zk ?zo ?zz ?_ ?zs; (case zF => k_asm); (case zN => k_asm); (case zl => k_mem); (case zi => assumption); (case zp => kmk_part); (case zq => kmk_part); (case zk => kmk_part); (case zo => decide); (case zz => walk_at "lens"); (case zs => with_unfolding_all rfl)); intro D' ws' h' F' N' l1 hI' hL'; (have l2' := l1); (try k_lt l2'); (try k_sweep)))

variable {w : World} {mean : ExcName → Option Value} {mg mb : Str → Option Value} {dp un : Nat} {gd : Option (List Code)} {A₀ : Around} {base h₀ : Heap} {env : Env} {outer : List Env} {L : Addr} {m : Str → Option Value} {s : Shared} {Q E : Value → Shared → Prop}
set_option maxHeartbeats 800000 in
theorem over_call {news : List (Addr × Obj)} {fa pa la : Addr} {a b : Int} {ta tb : Tok}
  (B : Below A₀ base outer h₀) (F : Fr h₀ L s.heap m) (X : (hd.heap_39 w.params).In h₀) (N : News h₀ L s.heap news) (T : TopM mean mg mb h₀)
  (hf : env.frame = some L) (hk : env.scope.kind = .function) (hroom : dp + 1 < recursionLimit) (hun : un + 8 < cLine)
  (H : FieldIn w news fa pa la) (a0 : 0 ≤ a) (a1 : a < 256) (b0 : a = 0 ∨ 1 ≤ b) (b1 : b < 256)
  (hret : ∀ (t : Tok) (h' : Heap) (tk' : Nat), Fr h₀ L h' m → News h₀ L h' news → Q (.int (divZ a b) t) { s with heap := h', toks := tk' }) :
  wpAny (model PP w) (AA dp un gd env outer) (call (.ref 306) [.int a ta, .int b tb, .ref fa]) Q E s := by
  walk_at "my_enter"
  walk_at "my_steps"
  all_goals (rename Fr h₀ L _ m => kF; rename News h₀ L _ _ => kN; try simp only [decide_eq_true_eq, decide_eq_false_iff_not, Bool.not_eq_true, beq_iff_eq, beq_eq_false_iff_ne, ne_eq] at *)
  · exact cb_retI hret (by unfold divZ; simp [*]) kF kN
  · exact cb_retI hret (by unfold divZ; simp [*]) kF kN

def toI? : Value → Option Int
  | .int i _ => some i
  | _ => none
theorem ints_check : ∀ {vs : List Value} {ns : List Int}, vs.map toI? = ns.map some → IntsAre vs ns
  | [], [], _ => .nil
  | [], _ :: _, h => by simp at h
  | _ :: _, [], h => by simp at h
  | v :: vs, n :: ns, h => by
    simp only [List.map_cons, List.cons.injEq] at h
    have h1 := h.1
    cases v with
    | int i t =>
      have e : i = n := Option.some.inj h1
      subst e
      exact .cons i t (ints_check h.2)
    | _ => cases h1

theorem look_list {K : Frag} {a : Addr} {l : List Value} {n : Nat} {ns : List Int} (h1 : K.lookup a = some ⟨.type "list", none, .seq l.toArray n, #[]⟩) (h2 : IntsAre l ns) : ∃ vs n, K.lookup a = some (W.listOf vs.toArray n) ∧ IntsAre vs ns := ⟨l, n, h1, h2⟩
theorem expT_at {w : World} : ∃ vs n, (hd.heap_39 w.params).lookup 79 = some (W.listOf vs.toArray n) ∧ IntsAre vs EXPT := by
  refine' look_list ?h1 ?h2
  case h1 => k_is
  case h2 => exact ints_check (by decide +kernel)
theorem logT_at {w : World} : ∃ vs n, (hd.heap_39 w.params).lookup 80 = some (W.listOf vs.toArray n) ∧ IntsAre vs LOGT := by
  refine' look_list ?h1 ?h2
  case h1 => k_is
  case h2 => exact ints_check (by decide +kernel)
section
variable {w : World} {A : Around} {E : Value → Shared → Prop} {s : Shared} {h₀ : Heap} {L : Addr} {m : Str → Option Value} {k : Int} {u : Tok} {value slice : PySem.Expr} {Q : Value → Shared → Prop}
theorem tab_exp (F : Fr h₀ L s.heap m) (X : (hd.heap_39 w.params).In h₀) (k0 : 0 ≤ k) (k1 : k < 256) (h : ∀ t, Q (.int (EXPT.getD k.toNat 0) t) s)
    (hs : subscripted slice false (.ref 79) (.int k u) = operate [.ref 79, .int k u] (getItem (.ref 79) (.int k u)) := by with_unfolding_all rfl) :
    wpAny (model PP w) A (subscriptTail value slice (.ref 79) (.int k u)) Q E s := by
  obtain ⟨vs, n, hl, hi⟩ := expT_at (w := w)
  exact item_anyK (lstK (X.keeps F.keep) hl) hi k0 (by rw [expT_len]; exact k1) (by omega) h hs
theorem tab_log (F : Fr h₀ L s.heap m) (X : (hd.heap_39 w.params).In h₀) (k0 : 0 ≤ k) (k1 : k < 256) (h : ∀ t, Q (.int (LOGT.getD k.toNat 0) t) s)
    (hs : subscripted slice false (.ref 80) (.int k u) = operate [.ref 80, .int k u] (getItem (.ref 80) (.int k u)) := by with_unfolding_all rfl) :
    wpAny (model PP w) A (subscriptTail value slice (.ref 80) (.int k u)) Q E s := by
  obtain ⟨vs, n, hl, hi⟩ := logT_at (w := w)
  exact item_anyK (lstK (X.keeps F.keep) hl) hi k0 (by rw [logT_len]; exact k1) (by omega) h hs
end
local macro_rules | `(tactic| walk_at "subscriptTail") => `(tactic| (k_here; (with_reducible show wpAny _ _ (subscriptTail _ _ (Value.ref 79) (Value.int _ _)) _ _ _); k_dflt (refine' tab_exp ?k1 ?k2 ?k5 ?k6 ?_ ?k4; (case k1 => k_asm); (case k2 => k_asm); (case k5 => first | omega | exact (fmod255 _).1); (case k6 => first | omega | exact Int.lt_trans (fmod255 _).2 (by decide)); (case k4 => with_unfolding_all rfl); k_whole); intro _))
local macro_rules | `(tactic| walk_at "subscriptTail") => `(tactic| (k_here; (with_reducible show wpAny _ _ (subscriptTail _ _ (Value.ref 80) (Value.int _ _)) _ _ _); k_dflt (refine' tab_log ?k1 ?k2 ?k5 ?k6 ?_ ?k4; (case k1 => k_asm); (case k2 => k_asm); (case k5 => omega); (case k6 => omega); (case k4 => with_unfolding_all rfl); k_whole); intro _))

def gexpZ (n : Int) : Int := EXPT.getD (n.fmod 255).toNat 0
def glogZ (n : Int) : Int := LOGT.getD n.toNat 0
set_option maxHeartbeats 800000 in
theorem gexp_call {news : List (Addr × Obj)} {a : Int} {ta : Tok}
  (B : Below A₀ base outer h₀) (F : Fr h₀ L s.heap m) (X : (hd.heap_39 w.params).In h₀) (N : News h₀ L s.heap news) (T : TopM mean mg mb h₀)
  (hf : env.frame = some L) (hk : env.scope.kind = .function) (hroom : dp + 1 < recursionLimit) (hun : un + 8 < cLine)
  (hret : ∀ (t : Tok) (h' : Heap) (tk' : Nat), Fr h₀ L h' m → News h₀ L h' news → Q (.int (gexpZ a) t) { s with heap := h', toks := tk' }) :
  wpAny (model PP w) (AA dp un gd env outer) (call (.ref 94) [.int a ta]) Q E s := by
  walk_at "my_enter"
  walk_at "my_steps"
  rename Fr h₀ L _ m => kF
  rename News h₀ L _ _ => kN
  exact hret _ _ _ kF kN
set_option maxHeartbeats 800000 in
theorem glog_call {news : List (Addr × Obj)} {a : Int} {ta : Tok}
  (B : Below A₀ base outer h₀) (F : Fr h₀ L s.heap m) (X : (hd.heap_39 w.params).In h₀) (N : News h₀ L s.heap news) (T : TopM mean mg mb h₀)
  (hf : env.frame = some L) (hk : env.scope.kind = .function) (hroom : dp + 1 < recursionLimit) (hun : un + 8 < cLine)
  (a0 : 1 ≤ a) (a1 : a < 256)
  (hret : ∀ (t : Tok) (h' : Heap) (tk' : Nat), Fr h₀ L h' m → News h₀ L h' news → Q (.int (glogZ a) t) { s with heap := h', toks := tk' }) :
  wpAny (model PP w) (AA dp un gd env outer) (call (.ref 87) [.int a ta]) Q E s := by
  walk_at "my_enter"
  walk_at "my_steps"
  rename Fr h₀ L _ m => kF
  rename News h₀ L _ _ => kN
  exact hret _ _ _ kF kN

end Mine
end

theorem Mine.anew_W7 : 1 = 1 := by
  w_top off
  first | walk1 | rfl

/-! part W7 -/
section
open PySem PySem.W PyProof.Rows PySem.Calls PySem.Spec
set_option Elab.async false
namespace Mine
set_option maxRecDepth 100000
theorem fill_W7 {w : World} {h : Heap} : (hd.heap_39 w.params).In h → Challenge.rw_bj0062_01.row.prog = Challenge.rw_bj0062_01.row.prog := by
  k_fill
  intro _
  rfl
local macro_rules | `(tactic| walk_at "my_enter") => `(tactic| (refine wpAny_call ?_; k_dflt (refine' code_def ?k1 ?k2 ?k3 ?k4 ?k5 ?kA ?kF ?kK ?k6 ?k7 ?k8 ?k9 ?kB ?_ ?c2 ?c3 ?c4 ?c5; (case kA => exact rfl); (case kF => assumption); (case kK => assumption); (case k1 => k_asm); (case k2 => k_asm); (case k3 => k_asm); (case k4 => k_asm); (case k5 => k_asm); (case k6 => k_is); (case k7 => k_is); (case k8 => walk_at "room"); (case k9 => exact BindsTo.of_eq rfl); (case c5 => decide); (case kB => exact locs rfl); (case c2 => exact rfl); (case c3 => exact rfl); (case c4 => exact rfl); k_whole; intro g' L' h' FG' F' N' B' X' T'; (try dsimp only); (try k_fold))))
local macro_rules | `(tactic| walk_at "my_steps") => `(tactic| repeat' (first | (k_unfold; (try dsimp only)) | walk1 | (dsimp only; walk1)))
local macro_rules | `(tactic| walk_at "setItem ref int") => `(tactic| (k_here; (with_reducible show wpAny _ _ (setItem (Value.ref _) (Value.int _ _) _) _ _ _); k_dflt (refine' set_listK ?k1 ?k2 ?k3 ?k5 ?k6 ?k7 ?_; (case k1 => k_asm); (case k2 => k_asm); (case k3 => k_upd); (case k5 => first | omega | ksa_idx); (case k6 => first | omega | (simp; done) | (simp; omega)); (case k7 => first | omega | ksa_idx); k_whole); intro h' F' N'; (try k_sweep)))
local macro_rules | `(tactic| k_ne) => `(tactic| first | assumption | exact Ne.symm (by assumption) | (refine neN ?_; (try dsimp only); omega))
local macro_rules | `(tactic| k_all) => `(tactic| first | assumption | exact lt_all_ne (by assumption) | exact lt_all_sub (by assumption) (by walk_at "sub") | exact ne_all_sub (by assumption) (by walk_at "sub") | exact allLt_ne (by assumption) | exact allLt_ne (And.right (by assumption)) | exact allLt_ne (And.right (And.right (by assumption))) | exact allLt_ne (And.right (And.right (And.right (by assumption)))) | exact allLt_ne (And.right (And.right (And.right (And.right (by assumption))))) | exact allLt_ne (And.right (And.right (And.right (And.right (And.right (by assumption)))))) | exact allLt_ne (And.right (And.right (And.right (And.right (And.right (And.right (by assumption))))))) | exact allLt_ne (And.right (And.right (And.right (And.right (And.right (And.right (And.right (by assumption)))))))) | exact allLt_ne (And.right (And.right (And.right (And.right (And.right (And.right (And.right (And.right (by assumption))))))))) | exact allLt_ne (And.right (And.right (And.right (And.right (And.right (And.right (And.right (And.right (And.right (by assumption)))))))))) | exact lt_all_off (by assumption) (by omega) | exact off1_sub (by assumption) (by walk_at "sub") | exact List.forall_mem_nil _ | (refine' List.forall_mem_cons.mpr ⟨?a, ?b⟩; (case a => k_ne); (case b => k_all)))
local macro_rules | `(tactic| walk_at "call builtin:list.append") => `(tactic| (k_here; (with_reducible show wpAny _ _ (call (Value.builtin "list.append") [Value.ref _, _]) _ _ _); k_dflt (refine' append_L ?k1 ?k2 ?k3 ?k4 ?_; (case k1 => k_asm); (case k2 => k_asm); (case k3 => k_upd); (case k4 => walk_at "lens"); k_whole); intro h' F' N'; (try k_sweep)))
local macro_rules | `(tactic| walk_at "lens") => `(tactic| first | assumption | omega | (simp only [List.length_append, List.length_cons, List.length_nil, List.length_map, List.length_range, List.length_replicate, List.length_set]; omega))
local macro_rules | `(tactic| walk_at "ints") => `(tactic| first | omega | (simp only [decide_eq_true_eq, decide_eq_false_iff_not, Bool.not_eq_true, beq_iff_eq, beq_eq_false_iff_ne, ne_eq] at *; omega) | (trace_state; fail "ints"))
local macro_rules | `(tactic| walk_at "fld_in") => `(tactic| first | assumption | exact FieldIn.tail (by assumption) | exact FieldIn.tail (FieldIn.tail (by assumption)) | exact FieldIn.tail (FieldIn.tail (FieldIn.tail (by assumption))) | exact FieldIn.tail (FieldIn.tail (FieldIn.tail (FieldIn.tail (by assumption)))) | exact FieldIn.tail (FieldIn.tail (FieldIn.tail (FieldIn.tail (FieldIn.tail (by assumption))))) | exact FieldIn.tail (FieldIn.tail (FieldIn.tail (FieldIn.tail (FieldIn.tail (FieldIn.tail (by assumption)))))) | exact FieldIn.tail (FieldIn.tail (FieldIn.tail (FieldIn.tail (FieldIn.tail (FieldIn.tail (FieldIn.tail (by assumption))))))) | exact FieldIn.tail (FieldIn.tail (FieldIn.tail (FieldIn.tail (FieldIn.tail (FieldIn.tail (FieldIn.tail (FieldIn.tail (by assumption)))))))) | exact FieldIn.tail (FieldIn.tail (FieldIn.tail (FieldIn.tail (FieldIn.tail (FieldIn.tail (FieldIn.tail (FieldIn.tail (FieldIn.tail (by assumption))))))))) | exact FieldIn.tail (FieldIn.tail (FieldIn.tail (FieldIn.tail (FieldIn.tail (FieldIn.tail (FieldIn.tail (FieldIn.tail (FieldIn.tail (FieldIn.tail (by assumption)))))))))) | exact FieldIn.tail (FieldIn.tail (FieldIn.tail (FieldIn.tail (FieldIn.tail (FieldIn.tail (FieldIn.tail (FieldIn.tail (FieldIn.tail (FieldIn.tail (FieldIn.tail (by assumption))))))))))) | exact FieldIn.tail (FieldIn.tail (FieldIn.tail (FieldIn.tail (FieldIn.tail (FieldIn.tail (FieldIn.tail (FieldIn.tail (FieldIn.tail (FieldIn.tail (FieldIn.tail (FieldIn.tail (by assumption)))))))))))))
local macro_rules | `(tactic| k_mem) => `(tactic| first | assumption | exact List.Mem.head _ | (refine' List.Mem.tail _ ?_; k_mem))
local macro_rules | `(tactic| walk_at "subscriptTail") => `(tactic| (k_here; (with_reducible show wpAny _ _ (subscriptTail _ _ (Value.ref _) (Value.int 0 _)) _ _ _); k_dflt (refine' fld_0 ?k1 ?k2 ?_ ?k4; (case k1 => k_asm); (case k2 => walk_at "fld_in"); (case k4 => with_unfolding_all rfl); k_whole)))
local macro_rules | `(tactic| walk_at "subscriptTail Name Constant ref int") => `(tactic| (k_here; (with_reducible show wpAny _ _ (subscriptTail _ _ (Value.ref _) (Value.int 0 _)) _ _ _); k_dflt (refine' fld_0 ?k1 ?k2 ?_ ?k4; (case k1 => k_asm); (case k2 => walk_at "fld_in"); (case k4 => with_unfolding_all rfl); k_whole)))
local macro_rules | `(tactic| walk_at "subscriptTail") => `(tactic| (k_here; (with_reducible show wpAny _ _ (subscriptTail _ _ (Value.ref _) (Value.int 1 _)) _ _ _); k_dflt (refine' fld_1 ?k1 ?k2 ?_ ?k4; (case k1 => k_asm); (case k2 => walk_at "fld_in"); (case k4 => with_unfolding_all rfl); k_whole)))
local macro_rules | `(tactic| walk_at "subscriptTail Name Constant ref int") => `(tactic| (k_here; (with_reducible show wpAny _ _ (subscriptTail _ _ (Value.ref _) (Value.int 1 _)) _ _ _); k_dflt (refine' fld_1 ?k1 ?k2 ?_ ?k4; (case k1 => k_asm); (case k2 => walk_at "fld_in"); (case k4 => with_unfolding_all rfl); k_whole)))
local macro_rules | `(tactic| walk_at "subscriptTail") => `(tactic| (k_here; (with_reducible show wpAny _ _ (subscriptTail _ _ (Value.ref _) (Value.int _ _)) _ _ _); k_dflt (refine' fld_pow ?k1 ?k2 ?k5 ?k6 ?_ ?k4; (case k1 => k_asm); (case k2 => walk_at "fld_in"); (case k5 => first | omega | exact (fmod255 _).1); (case k6 => first | omega | exact (fmod255 _).2); (case k4 => with_unfolding_all rfl); k_whole); intro _))
local macro_rules | `(tactic| walk_at "subscriptTail Subscript Name Constant BinOp ref int") => `(tactic| (k_here; (with_reducible show wpAny _ _ (subscriptTail _ _ (Value.ref _) (Value.int _ _)) _ _ _); k_dflt (refine' fld_pow ?k1 ?k2 ?k5 ?k6 ?_ ?k4; (case k1 => k_asm); (case k2 => walk_at "fld_in"); (case k5 => first | omega | exact (fmod255 _).1); (case k6 => first | omega | exact (fmod255 _).2); (case k4 => with_unfolding_all rfl); k_whole); intro _))
local macro_rules | `(tactic| walk_at "subscriptTail Subscript Name Constant Name ref int") => `(tactic| (k_here; (with_reducible show wpAny _ _ (subscriptTail _ _ (Value.ref _) (Value.int _ _)) _ _ _); k_dflt (refine' fld_pow ?k1 ?k2 ?k5 ?k6 ?_ ?k4; (case k1 => k_asm); (case k2 => walk_at "fld_in"); (case k5 => first | omega | exact (fmod255 _).1); (case k6 => first | omega | exact (fmod255 _).2); (case k4 => with_unfolding_all rfl); k_whole); intro _))
local macro_rules | `(tactic| walk_at "subscriptTail Subscript Name Constant Subscript ref int") => `(tactic| (k_here; (with_reducible show wpAny _ _ (subscriptTail _ _ (Value.ref _) (Value.int _ _)) _ _ _); k_dflt (refine' fld_pow ?k1 ?k2 ?k5 ?k6 ?_ ?k4; (case k1 => k_asm); (case k2 => walk_at "fld_in"); (case k5 => first | omega | exact (fmod255 _).1); (case k6 => first | omega | exact (fmod255 _).2); (case k4 => with_unfolding_all rfl); k_whole); intro _))
local macro_rules | `(tactic| walk_at "subscriptTail") => `(tactic| (k_here; (with_reducible show wpAny _ _ (subscriptTail _ _ (Value.ref _) (Value.int _ _)) _ _ _); k_dflt (refine' fld_log ?k1 ?k2 ?k5 ?k6 ?_ ?k4; (case k1 => k_asm); (case k2 => walk_at "fld_in"); (case k5 => walk_at "ints"); (case k6 => walk_at "ints"); (case k4 => with_unfolding_all rfl); k_whole); intro _))
local macro_rules | `(tactic| walk_at "subscriptTail Subscript Name Constant BinOp ref int") => `(tactic| (k_here; (with_reducible show wpAny _ _ (subscriptTail _ _ (Value.ref _) (Value.int _ _)) _ _ _); k_dflt (refine' fld_log ?k1 ?k2 ?k5 ?k6 ?_ ?k4; (case k1 => k_asm); (case k2 => walk_at "fld_in"); (case k5 => walk_at "ints"); (case k6 => walk_at "ints"); (case k4 => with_unfolding_all rfl); k_whole); intro _))
local macro_rules | `(tactic| walk_at "subscriptTail Subscript Name Constant Name ref int") => `(tactic| (k_here; (with_reducible show wpAny _ _ (subscriptTail _ _ (Value.ref _) (Value.int _ _)) _ _ _); k_dflt (refine' fld_log ?k1 ?k2 ?k5 ?k6 ?_ ?k4; (case k1 => k_asm); (case k2 => walk_at "fld_in"); (case k5 => walk_at "ints"); (case k6 => walk_at "ints"); (case k4 => with_unfolding_all rfl); k_whole); intro _))
local macro_rules | `(tactic| walk_at "subscriptTail Subscript Name Constant Subscript ref int") => `(tactic| (k_here; (with_reducible show wpAny _ _ (subscriptTail _ _ (Value.ref _) (Value.int _ _)) _ _ _); k_dflt (refine' fld_log ?k1 ?k2 ?k5 ?k6 ?_ ?k4; (case k1 => k_asm); (case k2 => walk_at "fld_in"); (case k5 => walk_at "ints"); (case k6 => walk_at "ints"); (case k4 => with_unfolding_all rfl); k_whole); intro _))

local macro_rules | `(tactic| walk_at "pyIter ref") => `(tactic| ((with_reducible show wpAny _ _ (pyIter (Value.ref _)) (fun it s₂ => LoopAtV _ _ _ _ _ _ _ _ _ it s₂) _ _); refine Stopped.out ?_))
local macro_rules | `(tactic| walk_at "exec For Name Call cons nil") => `(tactic| (k_here; (rename Fr _ _ _ _ => lF'); (with_unfolding_all refine' For_invVF lF' ?k1 ?k2 ?_; (case k1 => exact rfl); (case k2 => exact rfl); k_whole)))
local macro_rules | `(tactic| walk_at "exec For Name Name cons nil") => `(tactic| (k_here; (rename Fr _ _ _ _ => lF'); (with_unfolding_all refine' For_invVF lF' ?k1 ?k2 ?_; (case k1 => exact rfl); (case k2 => exact rfl); k_whole)))
local macro_rules | `(tactic| walk_at "call type:range") => `(tactic| (k_here; (with_reducible show wpAny _ _ (call (Value.type "range") [Value.int _ _]) _ _ _); k_dflt (refine' range1_K ?k1 ?k2 ?_; (case k1 => k_asm); (case k2 => k_asm); k_whole); intro r' h' u' v' tk' F' N' R'; (try k_sweep)))
local macro_rules | `(tactic| walk_at "call type:range") => `(tactic| (k_here; (with_reducible show wpAny _ _ (call (Value.type "range") [Value.int _ _, Value.int _ _]) _ _ _); k_dflt (refine' range2_K ?k1 ?k2 ?_; (case k1 => k_asm); (case k2 => k_asm); k_whole); intro r' h' v' tk' F' N' R'; (try k_sweep)))
local macro_rules | `(tactic| walk_at "room") => `(tactic| first | assumption | omega | ((simp only [depth_in1, depth_deeper, units_in1, units_deeper, Around.mark_units]); omega))

local macro_rules | `(tactic| is_list) => `(tactic| (refine' isList_of ?a ?b; (case a => k_asm); (case b => k_mem)))
local macro_rules | `(tactic| walk_at "call builtin:len") => `(tactic| (k_here; (with_reducible show wpAny _ _ (call (Value.builtin "len") [Value.ref _]) _ _ _); k_dflt (refine' len_L ?k2 ?k3 ?k4 ?_; (case k2 => k_asm); (case k3 => k_mem); (case k4 => walk_at "lens"); k_whole); intro t' tk'; (try k_sweep)))
local macro_rules | `(tactic| walk_at "binaryOp Add ref ref") => `(tactic| (k_here; (with_reducible show wpAny _ _ (binaryOp Operator.Add (Value.ref _) (Value.ref _)) _ _ _); k_dflt (refine' add_L ?k1 ?k2 ?k3 ?k4 ?k5 ?_; (case k1 => k_asm); (case k2 => k_asm); (case k3 => k_mem); (case k4 => k_mem); (case k5 => walk_at "lens"); k_whole); intro r' h' F' N' hl'; (have hl2' := hl'); (try k_lt hl2'); (try k_sweep)))

local macro_rules | `(tactic| walk_at "sub") => `(tactic| first | (refine' List.forall_mem_cons.mpr ⟨?a, ?b⟩; (case a => k_mem); (case b => walk_at "sub")) | (intro p hp; k_mem))

local macro_rules | `(tactic| walk_at "keep") => `(tactic| first | exact keep_base | exact keep_refl | (refine keep_x ?_; walk_at "keep") | (refine keep_upd (by decide) ?_; walk_at "keep") | (refine keep_in (by decide) ?_; walk_at "keep"))

local macro_rules | `(tactic| walk_at "CompSrc") => `(tactic| refine Stopped.out ?_)
local macro_rules | `(tactic| walk_at "my_enterC") => `(tactic| (refine wpAny_call ?_; k_dflt (refine' code_defC ?k1 ?k2 ?k3 ?k4 ?k5 ?kA ?kF ?kK ?k6 ?k7 ?k8 ?k9 ?kB ?kD ?_ ?c2 ?c3 ?c4; (case kA => exact rfl); (case kF => assumption); (case kK => assumption); (case k1 => k_asm); (case k2 => k_asm); (case k3 => k_asm); (case k4 => k_asm); (case k5 => k_asm); (case k6 => k_is); (case k7 => k_is); (case k8 => walk_at "room"); (case k9 => exact BindsTo.of_eq rfl); (case kB => exact rfl); (case kD => decide +kernel); (case c2 => exact rfl); (case c3 => exact rfl); (case c4 => exact rfl); k_whole; intro g' L' h' tk' cells' FG' F' N' Y' B' X' T' l1; k_cells Y'; (try simp only [List.cons_append, List.nil_append] at N'); (try dsimp only); (try k_fold))))

local macro_rules | `(tactic| walk_at "subscriptTail Name Slice ref ref") => `(tactic| (k_here; (with_reducible show wpAny _ _ (subscriptTail _ (PySem.Expr.Slice _ _ _ _) (Value.ref _) (Value.ref _)) _ _ _); k_dflt (refine' slice_LI ?zF ?zN ?zl ?zi ?zp ?zq ?zk ?zo ?zz ?_ ?zs; (case zF => k_asm); (case zN => k_asm); (case zl => k_mem); (case zi => assumption); (case zp => kmk_part); (case zq => kmk_part); (case zk => kmk_part); (case zo => decide); (case zz => walk_at "lens"); (case zs => with_unfolding_all rfl)); intro D' ws' h' F' N' l1 hI' hL'; (have l2' := l1); (try k_lt l2'); (try k_sweep)))
local macro_rules | `(tactic| walk_at "subscriptTail ListComp Slice ref ref") => `(tactic| (k_here; (with_reducible show wpAny _ _ (subscriptTail _ (PySem.Expr.Slice _ _ _ _) (Value.ref _) (Value.ref _)) _ _ _); k_dflt (refine' slice_LI ?zF ?zN ?zl ?zi ?zp ?zq ?zk ?zo ?zz ?_ ?zs; (case zF => k_asm); (case zN => k_asm); (case zl => k_mem); (case zi => assumption); (case zp => kmk_part); (case zq => kmk_part); (case zk => kmk_part); (case zo => decide); (case zz => walk_at "lens"); (case zs => with_unfolding_all rfl)); intro D' ws' h' F' N' l1 hI' hL'; (have l2' := l1); (try k_lt l2'); (try k_sweep)))
local macro_rules | `(tactic| walk_at "subscriptTail Subscript Slice ref ref") => `(tactic| (k_here; (with_reducible show wpAny _ _ (subscriptTail _ (PySem.Expr.Slice _ _ _ _) (Value.ref _) (Value.ref _)) _ _ _); k_dflt (refine' slice_LI ?zF ?zN ?zl ?zi ?zp ?zq ?zk ?zo ?zz ?_ ?zs; (case zF => k_asm); (case zN => k_asm); (case zl => k_mem); (case zi => assumption); (case zp => kmk_part); (case zq => kmk_part); (case zk => kmk_part); (case zo => decide); (case zz => walk_at "lens"); (case zs => with_unfolding_all rfl)); intro D' ws' h' F' N' l1 hI' hL'; (have l2' := l1); (try k_lt l2'); (try k_sweep)))
local macro_rules | `(tactic| walk_at "subscriptTail Attribute Slice ref ref") => `(tactic| (k_here; (with_reducible show wpAny _ _ (subscriptTail _ (PySem.Expr.Slice _ _ _ _) (Value.ref _) (Value.ref _)) _ _ _); k_dflt (refine' slice_LI ?zF ?zN ?zl ?zi ?zp ?zq ?zk ?zo ?zz ?_ ?zs; (case zF => k_asm); (case zN => k_asm); (case zl => k_mem); (case zi => assumption); (case zp => kmk_part); (case zq => kmk_part); (case zk => kmk_part); (case zo => decide); (case zz => walk_at "lens"); (case zs => with_unfolding_all rfl)); intro D' ws' h' F' N' l1 hI' hL'; (have l2' := l1); (try k_lt l2'); (try k_sweep)))
local macro_rules | `(tactic| walk_at "subscriptTail Name Name ref ref") => `(tactic| (k_here; (with_reducible show wpAny _ _ (subscriptTail _ _ (Value.ref _) (Value.ref _)) _ _ _); k_dflt (refine' slice_LI ?zF ?zN ?zl ?zi ?zp ?zq ?zk ?zo ?zz ?_ ?zs; (case zF => k_asm); (case zN => k_asm); (case zl => k_mem); (case zi => assumption); (case zp => kmk_part); (case zq => kmk_part); (case zk => kmk_part); (case zo => decide); (case zz => walk_at "lens"); (case zs => with_unfolding_all rfl)); intro D' ws' h' F' N' l1 hI' hL'; (have l2' := l1); (try k_lt l2'); (try k_sweep)))
local macro_rules | `(tactic| walk_at "subscriptTail Attribute Name ref ref") => `(tactic| (k_here; (with_reducible show wpAny _ _ (subscriptTail _ _ (Value.ref _) (Value.ref _)) _ _ _); k_dflt (refine' slice_LI ?zF ?zN ?zl ?zi ?zp ?zq ?zk ?zo ?zz ?_ ?zs; (case zF => k_asm); (case zN => k_asm); (case zl => k_mem); (case zi => assumption); (case zp => kmk_part); (case zq => kmk_part); (case zk => kmk_part); (case zo => decide); (case zz => walk_at "lens"); (case zs => with_unfolding_all rfl)); intro D' ws' h' F' N' l1 hI' hL'; (have l2' := l1); (try k_lt l2'); (try k_sweep)))

variable {w : World} {mean : ExcName → Option Value} {mg mb : Str → Option Value} {dp un : Nat} {gd : Option (List Code)} {A₀ : Around} {base h₀ : Heap} {env : Env} {outer : List Env} {L : Addr} {m : Str → Option Value} {s : Shared} {Q E : Value → Shared → Prop}
set_option maxHeartbeats 1600000 in
theorem field_call {news : List (Addr × Obj)}
  (B : Below A₀ base outer h₀) (F : Fr h₀ L s.heap m) (X : (hd.heap_39 w.params).In h₀) (N : News h₀ L s.heap news) (T : TopM mean mg mb h₀)
  (hf : env.frame = some L) (hk : env.scope.kind = .function) (hroom : dp + 2 < recursionLimit) (hun : un + 16 < cLine)
  (hret : ∀ (h' : Heap) (tk' : Nat) (fa pa la : Addr) (x y z : Obj), Fr h₀ L h' m → News h₀ L h' ((fa, x) :: (la, y) :: (pa, z) :: news) → FieldIn w [(fa, x), (la, y), (pa, z)] fa pa la → (∀ p ∈ news, p.1 < fa) → (∀ p ∈ news, p.1 < pa) → (∀ p ∈ news, p.1 < la) → Q (.ref fa) { s with heap := h', toks := tk' }) :
  wpAny (model PP w) (AA dp un gd env outer) (call (.ref 292) []) Q E s := by
  walk_at "my_enter"
  walk_at "my_steps"
  refine ⟨?_⟩
  rename_i tk0 l h7 hl d h6 o lo hs fs hi fi hd D h5 hD h4 h3 h2 h1 r h0 u v tk' F' N' R'
  refine range_loop 255 (fun i m nx => ∃ vs n o kvs t, nx = (d, o) :: (l, W.listOf vs.toArray n) :: news ∧ IntsAre vs ((List.range i).map powZ) ∧ o.IsDictOf (PySem.intKind PP w) kvs ∧ PyProof.V.FlatPairs PyData.int kvs (kdfD ((List.range i).map fun k => (powZ k, (k : Int)))) ∧ m "powers" = some (.ref l) ∧ m "logs" = some (.ref d) ∧ m "power" = some (.int (powZ i) t))
    rfl R' (by decide) (by decide) (by decide) (by decide) (by decide) F' (news_sub N' (fun p hp => .tail _ hp)) ⟨[], 0, o, [], _, rfl, .nil, hi, fi, rfl, rfl, rfl⟩ ?_ ?_
  · rintro i k t I m₁ nx h tk oi hi' hkk hnx ⟨vs, n, o, kvs, tp, rfl, q1, q2, q3, e1, e2, e3⟩ F₁ N₁
    have hkk : k = (i : Int) := by omega
    subst hkk
    replace F₁ := frx (a := "powers") (frx (a := "logs") (frx (a := "power") F₁ (by exact e3)) (by exact e2)) (by exact e1)
    have hn1 := (List.forall_mem_cons.mp hnx).1
    have hn2 := (List.forall_mem_cons.mp (List.forall_mem_cons.mp hnx).2).1
    have hn3 := (List.forall_mem_cons.mp (List.forall_mem_cons.mp hnx).2).2
    have hl1 := hd.1
    have hl2 := hd.2
    have hlen : vs.length ≤ 100000 := by rw [q1.length]; simp; omega
    walk_at "my_steps"
    all_goals
      rename Fr _ _ _ _ => F₂
      rename News _ _ _ _ => N₂
      rename Obj.IsDictOf _ _ _ => hd2
      rename PyProof.V.FlatPairs _ _ _ => hf2
      rw [kdfD_put, kdfPut_logs hi'] at hf2
    · exact tpost_next F₂ N₂ (by k_mem) (fun p hp => .tail _ hp) (by k_all) ⟨_, _, _, _, _, rfl, by rw [List.range_succ, List.map_append]; exact ints_snoc q1, hd2, hf2, rfl, rfl, by show some (Value.int (2 * powZ i) _) = some (.int (dblZ (powZ i)) _); unfold dblZ; rw [if_pos (by assumption)]⟩
    · exact tpost_next F₂ N₂ (by k_mem) (fun p hp => .tail _ hp) (by k_all) ⟨_, _, _, _, _, rfl, by rw [List.range_succ, List.map_append]; exact ints_snoc q1, hd2, hf2, rfl, rfl, by show some (Value.int (xorZ (2 * powZ i) 285) _) = some (.int (dblZ (powZ i)) _); unfold dblZ; rw [if_neg (by assumption)]⟩
  · rintro m₁ nx h tk ⟨vs, n, o, kvs, tp, rfl, q1, q2, q3, e1, e2, e3⟩ F₁ N₁
    replace F₁ := frx (a := "powers") (frx (a := "logs") F₁ e2) e1
    walk_at "my_steps"
    rename Fr h₀ L _ m => kF
    rename News h₀ L _ _ => kN
    rename (_ ∧ _ ∧ AllLt _ _) => hdd
    refine hret _ _ _ _ _ _ _ _ kF kN ⟨⟨_, .head _⟩, ⟨_, _, .tail _ (.tail _ (.head _)), q1⟩, ⟨_, _, .tail _ (.head _), q2, q3⟩, lo⟩ (allLt_lt hdd.2.2) hl (allLt_lt hd.2)

end Mine
end

theorem Mine.anew_W8 : 1 = 1 := by
  w_top off
  first | walk1 | rfl

/-! part W8 -/
section
open PySem PySem.W PyProof.Rows PySem.Calls PySem.Spec
set_option Elab.async false
namespace Mine
set_option maxRecDepth 100000
theorem fill_W8 {w : World} {h : Heap} : (hd.heap_39 w.params).In h → Challenge.rw_bj0062_01.row.prog = Challenge.rw_bj0062_01.row.prog := by
  k_fill
  intro _
  rfl
local macro_rules | `(tactic| walk_at "my_enter") => `(tactic| (refine wpAny_call ?_; k_dflt (refine' code_def ?k1 ?k2 ?k3 ?k4 ?k5 ?kA ?kF ?kK ?k6 ?k7 ?k8 ?k9 ?kB ?_ ?c2 ?c3 ?c4 ?c5; (case kA => exact rfl); (case kF => assumption); (case kK => assumption); (case k1 => k_asm); (case k2 => k_asm); (case k3 => k_asm); (case k4 => k_asm); (case k5 => k_asm); (case k6 => k_is); (case k7 => k_is); (case k8 => walk_at "room"); (case k9 => exact BindsTo.of_eq rfl); (case c5 => decide); (case kB => exact locs rfl); (case c2 => exact rfl); (case c3 => exact rfl); (case c4 => exact rfl); k_whole; intro g' L' h' FG' F' N' B' X' T'; (try dsimp only); (try k_fold))))
local macro_rules | `(tactic| walk_at "my_steps") => `(tactic| repeat' (first | (k_unfold; (try dsimp only)) | walk1 | (dsimp only; walk1)))
local macro_rules | `(tactic| walk_at "setItem ref int") => `(tactic| (k_here; (with_reducible show wpAny _ _ (setItem (Value.ref _) (Value.int _ _) _) _ _ _); k_dflt (refine' set_listK ?k1 ?k2 ?k3 ?k5 ?k6 ?k7 ?_; (case k1 => k_asm); (case k2 => k_asm); (case k3 => k_upd); (case k5 => first | omega | ksa_idx); (case k6 => first | omega | (simp; done) | (simp; omega)); (case k7 => first | omega | ksa_idx); k_whole); intro h' F' N'; (try k_sweep)))
local macro_rules | `(tactic| k_ne) => `(tactic| first | assumption | exact Ne.symm (by assumption) | (refine neN ?_; (try dsimp only); omega))
local macro_rules | `(tactic| k_all) => `(tactic| first | assumption | exact lt_all_ne (by assumption) | exact lt_all_sub (by assumption) (by walk_at "sub") | exact ne_all_sub (by assumption) (by walk_at "sub") | exact allLt_ne (by assumption) | exact allLt_ne (And.right (by assumption)) | exact allLt_ne (And.right (And.right (by assumption))) | exact allLt_ne (And.right (And.right (And.right (by assumption)))) | exact allLt_ne (And.right (And.right (And.right (And.right (by assumption))))) | exact allLt_ne (And.right (And.right (And.right (And.right (And.right (by assumption)))))) | exact allLt_ne (And.right (And.right (And.right (And.right (And.right (And.right (by assumption))))))) | exact allLt_ne (And.right (And.right (And.right (And.right (And.right (And.right (And.right (by assumption)))))))) | exact allLt_ne (And.right (And.right (And.right (And.right (And.right (And.right (And.right (And.right (by assumption))))))))) | exact allLt_ne (And.right (And.right (And.right (And.right (And.right (And.right (And.right (And.right (And.right (by assumption)))))))))) | exact lt_all_off (by assumption) (by omega) | exact off1_sub (by assumption) (by walk_at "sub") | exact List.forall_mem_nil _ | (refine' List.forall_mem_cons.mpr ⟨?a, ?b⟩; (case a => k_ne); (case b => k_all)))
local macro_rules | `(tactic| walk_at "call builtin:list.append") => `(tactic| (k_here; (with_reducible show wpAny _ _ (call (Value.builtin "list.append") [Value.ref _, _]) _ _ _); k_dflt (refine' append_L ?k1 ?k2 ?k3 ?k4 ?_; (case k1 => k_asm); (case k2 => k_asm); (case k3 => k_upd); (case k4 => walk_at "lens"); k_whole); intro h' F' N'; (try k_sweep)))
local macro_rules | `(tactic| walk_at "lens") => `(tactic| first | assumption | omega | (simp only [List.length_append, List.length_cons, List.length_nil, List.length_map, List.length_range, List.length_replicate, List.length_set]; omega))
local macro_rules | `(tactic| walk_at "ints") => `(tactic| first | omega | (simp only [decide_eq_true_eq, decide_eq_false_iff_not, Bool.not_eq_true, beq_iff_eq, beq_eq_false_iff_ne, ne_eq] at *; omega) | (trace_state; fail "ints"))
local macro_rules | `(tactic| walk_at "fld_in") => `(tactic| first | assumption | exact FieldIn.tail (by assumption) | exact FieldIn.tail (FieldIn.tail (by assumption)) | exact FieldIn.tail (FieldIn.tail (FieldIn.tail (by assumption))) | exact FieldIn.tail (FieldIn.tail (FieldIn.tail (FieldIn.tail (by assumption)))) | exact FieldIn.tail (FieldIn.tail (FieldIn.tail (FieldIn.tail (FieldIn.tail (by assumption))))) | exact FieldIn.tail (FieldIn.tail (FieldIn.tail (FieldIn.tail (FieldIn.tail (FieldIn.tail (by assumption)))))) | exact FieldIn.tail (FieldIn.tail (FieldIn.tail (FieldIn.tail (FieldIn.tail (FieldIn.tail (FieldIn.tail (by assumption))))))) | exact FieldIn.tail (FieldIn.tail (FieldIn.tail (FieldIn.tail (FieldIn.tail (FieldIn.tail (FieldIn.tail (FieldIn.tail (by assumption)))))))) | exact FieldIn.tail (FieldIn.tail (FieldIn.tail (FieldIn.tail (FieldIn.tail (FieldIn.tail (FieldIn.tail (FieldIn.tail (FieldIn.tail (by assumption))))))))) | exact FieldIn.tail (FieldIn.tail (FieldIn.tail (FieldIn.tail (FieldIn.tail (FieldIn.tail (FieldIn.tail (FieldIn.tail (FieldIn.tail (FieldIn.tail (by assumption)))))))))) | exact FieldIn.tail (FieldIn.tail (FieldIn.tail (FieldIn.tail (FieldIn.tail (FieldIn.tail (FieldIn.tail (FieldIn.tail (FieldIn.tail (FieldIn.tail (FieldIn.tail (by assumption))))))))))) | exact FieldIn.tail (FieldIn.tail (FieldIn.tail (FieldIn.tail (FieldIn.tail (FieldIn.tail (FieldIn.tail (FieldIn.tail (FieldIn.tail (FieldIn.tail (FieldIn.tail (FieldIn.tail (by assumption)))))))))))))
local macro_rules | `(tactic| k_mem) => `(tactic| first | assumption | exact List.Mem.head _ | (refine' List.Mem.tail _ ?_; k_mem))
local macro_rules | `(tactic| walk_at "subscriptTail") => `(tactic| (k_here; (with_reducible show wpAny _ _ (subscriptTail _ _ (Value.ref _) (Value.int 0 _)) _ _ _); k_dflt (refine' fld_0 ?k1 ?k2 ?_ ?k4; (case k1 => k_asm); (case k2 => walk_at "fld_in"); (case k4 => with_unfolding_all rfl); k_whole)))
local macro_rules | `(tactic| walk_at "subscriptTail Name Constant ref int") => `(tactic| (k_here; (with_reducible show wpAny _ _ (subscriptTail _ _ (Value.ref _) (Value.int 0 _)) _ _ _); k_dflt (refine' fld_0 ?k1 ?k2 ?_ ?k4; (case k1 => k_asm); (case k2 => walk_at "fld_in"); (case k4 => with_unfolding_all rfl); k_whole)))
local macro_rules | `(tactic| walk_at "subscriptTail") => `(tactic| (k_here; (with_reducible show wpAny _ _ (subscriptTail _ _ (Value.ref _) (Value.int 1 _)) _ _ _); k_dflt (refine' fld_1 ?k1 ?k2 ?_ ?k4; (case k1 => k_asm); (case k2 => walk_at "fld_in"); (case k4 => with_unfolding_all rfl); k_whole)))
local macro_rules | `(tactic| walk_at "subscriptTail Name Constant ref int") => `(tactic| (k_here; (with_reducible show wpAny _ _ (subscriptTail _ _ (Value.ref _) (Value.int 1 _)) _ _ _); k_dflt (refine' fld_1 ?k1 ?k2 ?_ ?k4; (case k1 => k_asm); (case k2 => walk_at "fld_in"); (case k4 => with_unfolding_all rfl); k_whole)))
local macro_rules | `(tactic| walk_at "subscriptTail") => `(tactic| (k_here; (with_reducible show wpAny _ _ (subscriptTail _ _ (Value.ref _) (Value.int _ _)) _ _ _); k_dflt (refine' fld_pow ?k1 ?k2 ?k5 ?k6 ?_ ?k4; (case k1 => k_asm); (case k2 => walk_at "fld_in"); (case k5 => first | omega | exact (fmod255 _).1); (case k6 => first | omega | exact (fmod255 _).2); (case k4 => with_unfolding_all rfl); k_whole); intro _))
local macro_rules | `(tactic| walk_at "subscriptTail Subscript Name Constant BinOp ref int") => `(tactic| (k_here; (with_reducible show wpAny _ _ (subscriptTail _ _ (Value.ref _) (Value.int _ _)) _ _ _); k_dflt (refine' fld_pow ?k1 ?k2 ?k5 ?k6 ?_ ?k4; (case k1 => k_asm); (case k2 => walk_at "fld_in"); (case k5 => first | omega | exact (fmod255 _).1); (case k6 => first | omega | exact (fmod255 _).2); (case k4 => with_unfolding_all rfl); k_whole); intro _))
local macro_rules | `(tactic| walk_at "subscriptTail Subscript Name Constant Name ref int") => `(tactic| (k_here; (with_reducible show wpAny _ _ (subscriptTail _ _ (Value.ref _) (Value.int _ _)) _ _ _); k_dflt (refine' fld_pow ?k1 ?k2 ?k5 ?k6 ?_ ?k4; (case k1 => k_asm); (case k2 => walk_at "fld_in"); (case k5 => first | omega | exact (fmod255 _).1); (case k6 => first | omega | exact (fmod255 _).2); (case k4 => with_unfolding_all rfl); k_whole); intro _))
local macro_rules | `(tactic| walk_at "subscriptTail Subscript Name Constant Subscript ref int") => `(tactic| (k_here; (with_reducible show wpAny _ _ (subscriptTail _ _ (Value.ref _) (Value.int _ _)) _ _ _); k_dflt (refine' fld_pow ?k1 ?k2 ?k5 ?k6 ?_ ?k4; (case k1 => k_asm); (case k2 => walk_at "fld_in"); (case k5 => first | omega | exact (fmod255 _).1); (case k6 => first | omega | exact (fmod255 _).2); (case k4 => with_unfolding_all rfl); k_whole); intro _))
local macro_rules | `(tactic| walk_at "subscriptTail") => `(tactic| (k_here; (with_reducible show wpAny _ _ (subscriptTail _ _ (Value.ref _) (Value.int _ _)) _ _ _); k_dflt (refine' fld_log ?k1 ?k2 ?k5 ?k6 ?_ ?k4; (case k1 => k_asm); (case k2 => walk_at "fld_in"); (case k5 => walk_at "ints"); (case k6 => walk_at "ints"); (case k4 => with_unfolding_all rfl); k_whole); intro _))
local macro_rules | `(tactic| walk_at "subscriptTail Subscript Name Constant BinOp ref int") => `(tactic| (k_here; (with_reducible show wpAny _ _ (subscriptTail _ _ (Value.ref _) (Value.int _ _)) _ _ _); k_dflt (refine' fld_log ?k1 ?k2 ?k5 ?k6 ?_ ?k4; (case k1 => k_asm); (case k2 => walk_at "fld_in"); (case k5 => walk_at "ints"); (case k6 => walk_at "ints"); (case k4 => with_unfolding_all rfl); k_whole); intro _))
local macro_rules | `(tactic| walk_at "subscriptTail Subscript Name Constant Name ref int") => `(tactic| (k_here; (with_reducible show wpAny _ _ (subscriptTail _ _ (Value.ref _) (Value.int _ _)) _ _ _); k_dflt (refine' fld_log ?k1 ?k2 ?k5 ?k6 ?_ ?k4; (case k1 => k_asm); (case k2 => walk_at "fld_in"); (case k5 => walk_at "ints"); (case k6 => walk_at "ints"); (case k4 => with_unfolding_all rfl); k_whole); intro _))
local macro_rules | `(tactic| walk_at "subscriptTail Subscript Name Constant Subscript ref int") => `(tactic| (k_here; (with_reducible show wpAny _ _ (subscriptTail _ _ (Value.ref _) (Value.int _ _)) _ _ _); k_dflt (refine' fld_log ?k1 ?k2 ?k5 ?k6 ?_ ?k4; (case k1 => k_asm); (case k2 => walk_at "fld_in"); (case k5 => walk_at "ints"); (case k6 => walk_at "ints"); (case k4 => with_unfolding_all rfl); k_whole); intro _))

local macro_rules | `(tactic| walk_at "pyIter ref") => `(tactic| ((with_reducible show wpAny _ _ (pyIter (Value.ref _)) (fun it s₂ => LoopAtV _ _ _ _ _ _ _ _ _ it s₂) _ _); refine Stopped.out ?_))
local macro_rules | `(tactic| walk_at "exec For Name Call cons nil") => `(tactic| (k_here; (rename Fr _ _ _ _ => lF'); (with_unfolding_all refine' For_invVF lF' ?k1 ?k2 ?_; (case k1 => exact rfl); (case k2 => exact rfl); k_whole)))
local macro_rules | `(tactic| walk_at "exec For Name Name cons nil") => `(tactic| (k_here; (rename Fr _ _ _ _ => lF'); (with_unfolding_all refine' For_invVF lF' ?k1 ?k2 ?_; (case k1 => exact rfl); (case k2 => exact rfl); k_whole)))
local macro_rules | `(tactic| walk_at "call type:range") => `(tactic| (k_here; (with_reducible show wpAny _ _ (call (Value.type "range") [Value.int _ _]) _ _ _); k_dflt (refine' range1_K ?k1 ?k2 ?_; (case k1 => k_asm); (case k2 => k_asm); k_whole); intro r' h' u' v' tk' F' N' R'; (try k_sweep)))
local macro_rules | `(tactic| walk_at "call type:range") => `(tactic| (k_here; (with_reducible show wpAny _ _ (call (Value.type "range") [Value.int _ _, Value.int _ _]) _ _ _); k_dflt (refine' range2_K ?k1 ?k2 ?_; (case k1 => k_asm); (case k2 => k_asm); k_whole); intro r' h' v' tk' F' N' R'; (try k_sweep)))
local macro_rules | `(tactic| walk_at "room") => `(tactic| first | assumption | omega | ((simp only [depth_in1, depth_deeper, units_in1, units_deeper, Around.mark_units]); omega))

local macro_rules | `(tactic| is_list) => `(tactic| (refine' isList_of ?a ?b; (case a => k_asm); (case b => k_mem)))
local macro_rules | `(tactic| walk_at "call builtin:len") => `(tactic| (k_here; (with_reducible show wpAny _ _ (call (Value.builtin "len") [Value.ref _]) _ _ _); k_dflt (refine' len_L ?k2 ?k3 ?k4 ?_; (case k2 => k_asm); (case k3 => k_mem); (case k4 => walk_at "lens"); k_whole); intro t' tk'; (try k_sweep)))
local macro_rules | `(tactic| walk_at "binaryOp Add ref ref") => `(tactic| (k_here; (with_reducible show wpAny _ _ (binaryOp Operator.Add (Value.ref _) (Value.ref _)) _ _ _); k_dflt (refine' add_L ?k1 ?k2 ?k3 ?k4 ?k5 ?_; (case k1 => k_asm); (case k2 => k_asm); (case k3 => k_mem); (case k4 => k_mem); (case k5 => walk_at "lens"); k_whole); intro r' h' F' N' hl'; (have hl2' := hl'); (try k_lt hl2'); (try k_sweep)))

local macro_rules | `(tactic| walk_at "sub") => `(tactic| first | (refine' List.forall_mem_cons.mpr ⟨?a, ?b⟩; (case a => k_mem); (case b => walk_at "sub")) | (intro p hp; k_mem))

local macro_rules | `(tactic| walk_at "keep") => `(tactic| first | exact keep_base | exact keep_refl | (refine keep_x ?_; walk_at "keep") | (refine keep_upd (by decide) ?_; walk_at "keep") | (refine keep_in (by decide) ?_; walk_at "keep"))

local macro_rules | `(tactic| walk_at "CompSrc") => `(tactic| refine Stopped.out ?_)
local macro_rules | `(tactic| walk_at "my_enterC") => `(tactic| (refine wpAny_call ?_; k_dflt (refine' code_defC ?k1 ?k2 ?k3 ?k4 ?k5 ?kA ?kF ?kK ?k6 ?k7 ?k8 ?k9 ?kB ?kD ?_ ?c2 ?c3 ?c4; (case kA => exact rfl); (case kF => assumption); (case kK => assumption); (case k1 => k_asm); (case k2 => k_asm); (case k3 => k_asm); (case k4 => k_asm); (case k5 => k_asm); (case k6 => k_is); (case k7 => k_is); (case k8 => walk_at "room"); (case k9 => exact BindsTo.of_eq rfl); (case kB => exact rfl); (case kD => decide +kernel); (case c2 => exact rfl); (case c3 => exact rfl); (case c4 => exact rfl); k_whole; intro g' L' h' tk' cells' FG' F' N' Y' B' X' T' l1; k_cells Y'; (try simp only [List.cons_append, List.nil_append] at N'); (try dsimp only); (try k_fold))))

local macro_rules | `(tactic| walk_at "subscriptTail Name Slice ref ref") => `(tactic| (k_here; (with_reducible show wpAny _ _ (subscriptTail _ (PySem.Expr.Slice _ _ _ _) (Value.ref _) (Value.ref _)) _ _ _); k_dflt (refine' slice_LI ?zF ?zN ?zl ?zi ?zp ?zq ?zk ?zo ?zz ?_ ?zs; (case zF => k_asm); (case zN => k_asm); (case zl => k_mem); (case zi => assumption); (case zp => kmk_part); (case zq => kmk_part); (case zk => kmk_part); (case zo => decide); (case zz => walk_at "lens"); (case zs => with_unfolding_all rfl)); intro D' ws' h' F' N' l1 hI' hL'; (have l2' := l1); (try k_lt l2'); (try k_sweep)))
local macro_rules | `(tactic| walk_at "subscriptTail ListComp Slice ref ref") => `(tactic| (k_here; (with_reducible show wpAny _ _ (subscriptTail _ (PySem.Expr.Slice _ _ _ _) (Value.ref _) (Value.ref _)) _ _ _); k_dflt (refine' slice_LI ?zF ?zN ?zl ?zi ?zp ?zq ?zk ?zo ?zz ?_ ?zs; (case zF => k_asm); (case zN => k_asm); (case zl => k_mem); (case zi => assumption); (case zp => kmk_part); (case zq => kmk_part); (case zk => kmk_part); (case zo => decide); (case zz => walk_at "lens"); (case zs => with_unfolding_all rfl)); intro D' ws' h' F' N' l1 hI' hL'; (have l2' := l1); (try k_lt l2'); (try k_sweep)))
local macro_rules | `(tactic| walk_at "subscriptTail Subscript Slice ref ref") => `(tactic| (k_here; (with_reducible show wpAny _ _ (subscriptTail _ (PySem.Expr.Slice _ _ _ _) (Value.ref _) (Value.ref _)) _ _ _); k_dflt (refine' slice_LI ?zF ?zN ?zl ?zi ?zp ?zq ?zk ?zo ?zz ?_ ?zs; (case zF => k_asm); (case zN => k_asm); (case zl => k_mem); (case zi => assumption); (case zp => kmk_part); (case zq => kmk_part); (case zk => kmk_part); (case zo => decide); (case zz => walk_at "lens"); (case zs => with_unfolding_all rfl)); intro D' ws' h' F' N' l1 hI' hL'; (have l2' := l1); (try k_lt l2'); (try k_sweep)))
local macro_rules | `(tactic| walk_at "subscriptTail Attribute Slice ref ref") => `(tactic| (k_here; (with_reducible show wpAny _ _ (subscriptTail _ (PySem.Expr.Slice _ _ _ _) (Value.ref _) (Value.ref _)) _ _ _); k_dflt (refine' slice_LI ?zF ?zN ?zl ?zi ?zp ?zq ?zk ?zo ?zz ?_ ?zs; (case zF => k_asm); (case zN => k_asm); (case zl => k_mem); (case zi => assumption); (case zp => kmk_part); (case zq => kmk_part); (case zk => kmk_part); (case zo => decide); (case zz => walk_at "lens"); (case zs => with_unfolding_all rfl)); intro D' ws' h' F' N' l1 hI' hL'; (have l2' := l1); (try k_lt l2'); (try k_sweep)))
local macro_rules | `(tactic| walk_at "subscriptTail Name Name ref ref") => `(tactic| (k_here; (with_reducible show wpAny _ _ (subscriptTail _ _ (Value.ref _) (Value.ref _)) _ _ _); k_dflt (refine' slice_LI ?zF ?zN ?zl ?zi ?zp ?zq ?zk ?zo ?zz ?_ ?zs; (case zF => k_asm); (case zN => k_asm); (case zl => k_mem); (case zi => assumption); (case zp => kmk_part); (case zq => kmk_part); (case zk => kmk_part); (case zo => decide); (case zz => walk_at "lens"); (case zs => with_unfolding_all rfl)); intro D' ws' h' F' N' l1 hI' hL'; (have l2' := l1); (try k_lt l2'); (try k_sweep)))
local macro_rules | `(tactic| walk_at "subscriptTail Attribute Name ref ref") => `(tactic| (k_here; (with_reducible show wpAny _ _ (subscriptTail _ _ (Value.ref _) (Value.ref _)) _ _ _); k_dflt (refine' slice_LI ?zF ?zN ?zl ?zi ?zp ?zq ?zk ?zo ?zz ?_ ?zs; (case zF => k_asm); (case zN => k_asm); (case zl => k_mem); (case zi => assumption); (case zp => kmk_part); (case zq => kmk_part); (case zk => kmk_part); (case zo => decide); (case zz => walk_at "lens"); (case zs => with_unfolding_all rfl)); intro D' ws' h' F' N' l1 hI' hL'; (have l2' := l1); (try k_lt l2'); (try k_sweep)))

variable {w : World} {mean : ExcName → Option Value} {mg mb : Str → Option Value} {dp un : Nat} {gd : Option (List Code)} {A₀ : Around} {base h₀ : Heap} {env : Env} {outer : List Env} {L : Addr} {m : Str → Option Value} {s : Shared} {Q E : Value → Shared → Prop}
local macro_rules | `(tactic| walk_at "rngs") => `(tactic| first | assumption | exact mulZ_rng.1 | exact mulZ_rng.2 | exact divZ_rng.1 | exact divZ_rng.2 | exact rng_lo (by assumption) | exact rng_hi (by assumption) | omega | exact (by assumption : _ → _ ∨ _) (by assumption))
local macro_rules | `(tactic| walk_at "call ref") => `(tactic| (k_here; (with_reducible show wpAny _ _ (call (Value.ref 299) _) _ _ _); k_dflt (refine' times_call ?k1 ?k2 ?k3 ?k4 ?k5 ?k7 ?k8 ?ka ?kb ?q0 ?q1 ?q2 ?q3 ?q4 ?_; (case k1 => k_asm); (case k2 => k_asm); (case k3 => k_asm); (case k4 => k_asm); (case k5 => k_asm); (case k7 => exact rfl); (case k8 => exact rfl); (case ka => walk_at "room"); (case kb => walk_at "room"); (case q0 => walk_at "fld_in"); (case q1 => walk_at "rngs"); (case q2 => walk_at "rngs"); (case q3 => walk_at "rngs"); (case q4 => walk_at "rngs"); k_whole); intro t9 h9 tk9 F9 N9; (try k_sweep)))
local macro_rules | `(tactic| walk_at "call ref") => `(tactic| (k_here; (with_reducible show wpAny _ _ (call (Value.ref 306) _) _ _ _); k_dflt (refine' over_call ?k1 ?k2 ?k3 ?k4 ?k5 ?k7 ?k8 ?ka ?kb ?q0 ?q1 ?q2 ?q3 ?q4 ?_; (case k1 => k_asm); (case k2 => k_asm); (case k3 => k_asm); (case k4 => k_asm); (case k5 => k_asm); (case k7 => exact rfl); (case k8 => exact rfl); (case ka => walk_at "room"); (case kb => walk_at "room"); (case q0 => walk_at "fld_in"); (case q1 => walk_at "rngs"); (case q2 => walk_at "rngs"); (case q3 => walk_at "rngs"); (case q4 => walk_at "rngs"); k_whole); intro t9 h9 tk9 F9 N9; (try k_sweep)))


set_option maxHeartbeats 4000000 in
theorem register_call {news : List (Addr × Obj)} {fa pa la sa : Addr} {vs : List Value} {ns : List Int} {n : Nat}
  (B : Below A₀ base outer h₀) (F : Fr h₀ L s.heap m) (X : (hd.heap_39 w.params).In h₀) (N : News h₀ L s.heap news) (T : TopM mean mg mb h₀)
  (hf : env.frame = some L) (hk : env.scope.kind = .function) (hroom : dp + 2 < recursionLimit) (hun : un + 16 < cLine)
  (H : FieldIn w news fa pa la) (hrow : (sa, W.listOf vs.toArray n) ∈ news) (hi : IntsAre vs ns) (hr : ∀ k ∈ ns, rng k) (hlen : ns.length ≤ 100)
  (hret : ∀ (h' : Heap) (tk' : Nat) (r : Addr) (vr : List Value) (nr : Nat), Fr h₀ L h' m → News h₀ L h' ((r, W.listOf vr.toArray nr) :: news) → (∀ p ∈ news, p.1 < r) → IntsAre vr (registerZ ns) → Q (.ref r) { s with heap := h', toks := tk' }) :
  wpAny (model PP w) (AA dp un gd env outer) (call (.ref 320) [.ref sa, .ref fa]) Q E s := by
  have hvl' := hi.length
  have hvs : vs.length ≤ 100 := by rw [hi.length]; exact hlen
  walk_at "my_enter"
  walk_at "my_steps"
  refine ⟨?_⟩
  rename_i rl hx1 hrl fl hx2 hfl D hx3 hD h5 h51 h4 h3 h2 h1 h8 h9 rr h0 u v tk' F' N' R'
  refine range_loopC vs.length ["register", "former", "size", "gap", "last", "miss", "k", "share", "before", "zz"] (fun i m nx => ∃ r f vr vf nr nf t1 t2 t3, nx = (f, W.listOf vf.toArray nf) :: (r, W.listOf vr.toArray nr) :: news ∧ (∀ p ∈ news, p.1 < r) ∧ IntsAre vr (bmZ ns i).reg ∧ IntsAre vf (bmZ ns i).former ∧
      m "register" = some (.ref r) ∧ m "former" = some (.ref f) ∧ m "size" = some (.int (bmZ ns i).size t1) ∧ m "gap" = some (.int (bmZ ns i).gap t2) ∧ m "last" = some (.int (bmZ ns i).last t3))
    rfl R' (by omega) (by decide) (by decide) (by omega) (by omega) F' (news_sub N' fun p hp => .tail _ hp) ⟨rl, fl, [.int 1 _], [.int 1 _], 0, 0, _, _, _, rfl, hrl, .cons _ _ .nil, .cons _ _ .nil, rfl, rfl, rfl, rfl, rfl⟩ ?_ ?_
  · rintro i k t I u nx h tk oi hi' hkk hnx ⟨r, f, vr, vf, nr, nf, t1, t2, t3, rfl, q0, q1, q2, e1, e2, e3, e4, e5⟩ F₁ N₁
    have hkk : k = (i : Int) := by omega
    subst hkk
    have ok := bmZ_ok hr i
    have hsucc := bmZ_succ ns i
    generalize hb : bmZ ns i = b at *
    replace F₁ := frx (a := "register") (frx (a := "former") (frx (a := "size") (frx (a := "gap") (frx (a := "last") F₁ (by exact e5)) (by exact e4)) (by exact e3)) (by exact e2)) (by exact e1)
    have hn1 := (List.forall_mem_cons.mp hnx).1
    have hn2 := (List.forall_mem_cons.mp (List.forall_mem_cons.mp hnx).2).1
    have hn3 := (List.forall_mem_cons.mp (List.forall_mem_cons.mp hnx).2).2
    have l1 := q1.length
    have l2 := q2.length
    have hrr := ok.r2
    have hr1 := ok.r1
    have hrf := ok.f2
    have hrg := ok.g1
    have hs0 := ok.s0
    have hs1 := ok.s1
    have hvl := hi.length
    walk_at "my_steps"
    refine ⟨?_⟩
    rename IsRange _ _ _ _ _ _ _ _ => R₂
    rename Fr _ _ _ _ => F₂
    rename News _ _ _ _ => N₂
    refine range_loopC (min (b.size + 1) b.reg.length - 1).toNat ["miss"] (fun j u nx => nx = (I, oi) :: (f, W.listOf vf.toArray nf) :: (r, W.listOf vr.toArray nr) :: news ∧ ∃ t, u "miss" = some (.int ((List.range j).foldl (fun ms j => xorZ ms (mulZ (b.reg.getD (j + 1) 0) (ns.getD (i - (j + 1)) 0))) (ns.getD i 0)) t))
      rfl R₂ (by split <;> omega) (by decide) (by decide) (by split <;> omega) (by split <;> omega) F₂ N₂ ⟨rfl, _, rfl⟩ ?_ ?_
    · rintro j k t I₂ u nx h tk oi₂ hj hkk hnx₂ ⟨rfl, tm, em⟩ F₁ N₁
      replace F₁ := frx (a := "miss") F₁ (by exact em)
      have hk1 : k < b.reg.length := by omega
      have hk2 : k ≤ i := by omega
      have hk3 : 1 ≤ k := by omega
      have hrg1 := getD_rng ok.reg (k.toNat)
      have hrg2 := getD_rng hr ((i : Int) - k).toNat
      walk_at "my_steps"
      rename Fr _ _ _ _ => F₃
      rename News _ _ _ _ => N₃
      have z1 : k.toNat = j + 1 := by omega
      have z2 : ((i : Int) - k).toNat = i - (j + 1) := by omega
      exact tpost_next F₃ N₃ (by k_mem) (by walk_at "sub") hnx₂ ⟨⟨rfl, _, by
        show some (Value.int (xorZ _ (mulZ (b.reg.getD k.toNat 0) (ns.getD ((i : Int) - k).toNat 0))) _) = _
        rw [z1, z2, List.range_succ, List.foldl_append]
        rfl⟩, by walk_at "keep"⟩
    · rintro u nx h tk ⟨rfl, tm, em⟩ F₁ N₁
      replace em : u "miss" = some (.int (missZ b.reg ns i b.size) tm) := em
      replace F₁ := frx (a := "miss") F₁ (by exact em)
      have hm := missZ_rng (reg := b.reg) (n := i) (size := b.size) hr
      have hla1 := ok.l1
      have hla2 := ok.l2
      walk_at "my_steps"
      · rename Fr _ _ _ _ => F₃
        rename News _ _ _ _ => N₃
        have hst : stepZ ns b i = { b with gap := b.gap + 1 } := by
          unfold stepZ; dsimp only; rw [if_pos (by first | assumption | (simp_all; done))]
        rw [hst] at hsucc
        exact tpost_cont F₃ N₃ (by k_mem) (by walk_at "sub") hnx ⟨⟨r, f, vr, vf, nr, nf, _, _, _, rfl, q0, by rw [hsucc]; exact q1, by rw [hsucc]; exact q2, rfl, rfl, by rw [hsucc]; rfl, by rw [hsucc]; rfl, by rw [hsucc]; rfl⟩, by walk_at "keep"⟩
      · refine ⟨?_⟩
        rename_i D ws hh2 hI2 hlD hh1 t5 tk5 r5 hr5 u5 v5 tk6 F₃ N₃ R₃
        have ep : (b.reg ++ (List.replicate ((vf.length : Int) + b.gap - (vr.length : Int)).toNat [(0 : Int)]).flatten) = padZ b.reg (b.former.length + b.gap) := by
          unfold padZ; rw [List.flatten_replicate_singleton, l1, l2]
        rw [ep] at hI2
        have hpl := padZ_len (reg := b.reg) (k := (b.former.length : Int) + b.gap)
        have hpr := padZ_rng (k := (b.former.length : Int) + b.gap) ok.reg
        have hgap : ((b.gap.toNat : Nat) : Int) = b.gap := by omega
        refine range_loopC vf.length ["zz"] (fun j u nx => ∃ ws nw, nx = (D, W.listOf ws.toArray nw) :: (I, oi) :: (f, W.listOf vf.toArray nf) :: (r, W.listOf vr.toArray nr) :: news ∧
            IntsAre ws ((List.range j).foldl (fun r k => r.set (k + b.gap.toNat) (xorZ (r.getD (k + b.gap.toNat) 0) (mulZ (divZ (missZ b.reg ns i b.size) b.last) (b.former.getD k 0)))) (padZ b.reg (b.former.length + b.gap))))
          rfl R₃ (by omega) (by decide) (by decide) (by omega) (by omega) F₃ (news_sub N₃ (by walk_at "sub")) ⟨ws, 0, rfl, hI2⟩ ?_ ?_
        · rintro j k t I₂ u nx h tk oi₂ hj hkk hnx₂ ⟨ws, nw, rfl, qw⟩ F₁ N₁
          have hkk : k = (j : Int) := by omega
          subst hkk
          have hf := adds_fold (former := b.former) (gap := b.gap.toNat) (share := divZ (missZ b.reg ns i b.size) b.last) (List.range j) (padZ b.reg (b.former.length + b.gap)) hpr
          have hwl := qw.length
          have hd1 := hlD.2.2.2.1
          have hd2 := hlD.2.2.2.2.1
          have hd3 := hlD.2.2.2.2.2.1
          have hd4 := hlD.2.2.2.2.2.2
          have hm1 := (List.forall_mem_cons.mp hnx₂).1
          have hi1 := hf.2
          have hrg1 := getD_rng ok.former ((j : Int)).toNat
          have hrg2 := getD_rng hf.1 ((j : Int) + b.gap).toNat
          have hrg3 : rng (divZ (missZ b.reg ns i b.size) b.last) := divZ_rng
          walk_at "my_steps"
          rename Fr _ _ _ _ => F₄
          rename News _ _ _ _ => N₄
          have z1 : ((j : Int) + b.gap).toNat = j + b.gap.toNat := by omega
          refine tpost_next F₄ N₄ (nx := (D, W.listOf _ nw) :: (I, oi) :: (f, W.listOf vf.toArray nf) :: (r, W.listOf vr.toArray nr) :: news) (by k_mem) (by walk_at "sub") (List.forall_mem_cons.mpr ⟨(show D ≠ I₂ from hm1), (List.forall_mem_cons.mp hnx₂).2⟩) ⟨⟨_, nw, rfl, ?_⟩, ?_⟩
          rotate_left
          · walk_at "keep"
          rw [List.range_succ, List.foldl_append]
          show IntsAre (ws.set ((j : Int) + b.gap).toNat _) (List.set _ (j + b.gap.toNat) _)
          rw [z1]
          exact ints_set qw _
        · rintro u nx h tk ⟨ws, nw, rfl, qw⟩ F₁ N₁
          replace qw : IntsAre ws (addsZ (padZ b.reg (b.former.length + b.gap)) b.former b.gap.toNat (divZ (missZ b.reg ns i b.size) b.last)) := by
            have : addsZ (padZ b.reg (b.former.length + b.gap)) b.former b.gap.toNat (divZ (missZ b.reg ns i b.size) b.last) = (List.range vf.length).foldl (fun r k => r.set (k + b.gap.toNat) (xorZ (r.getD (k + b.gap.toNat) 0) (mulZ (divZ (missZ b.reg ns i b.size) b.last) (b.former.getD k 0)))) (padZ b.reg (b.former.length + b.gap)) := by
              unfold addsZ; rw [l2]
            rw [this]; exact qw
          walk_at "my_steps"
          · rename Fr _ _ _ _ => F₄
            rename News _ _ _ _ => N₄
            have hst : stepZ ns b i = ⟨addsZ (padZ b.reg (b.former.length + b.gap)) b.former b.gap.toNat (divZ (missZ b.reg ns i b.size) b.last), b.reg, i + 1 - b.size, 1, missZ b.reg ns i b.size⟩ := by
              unfold stepZ; dsimp only; rw [if_neg (by first | assumption | (simp_all; done)), if_pos (by first | assumption | (simp_all; done))]
            rw [hst] at hsucc
            exact tpost_next F₄ N₄ (by k_mem) (nx := (r, W.listOf vr.toArray nr) :: (D, W.listOf ws.toArray nw) :: news) (by walk_at "sub") (List.forall_mem_cons.mpr ⟨hn2, List.forall_mem_cons.mpr ⟨Ne.symm (Nat.ne_of_lt hlD.2.2.2.1), hn3⟩⟩)
              ⟨⟨D, r, ws, vr, nw, nr, _, _, _, rfl, allLt_lt hlD.2.2.2.2.2.2, by rw [hsucc]; exact qw, by rw [hsucc]; exact q1, rfl, rfl, by rw [hsucc]; rfl, by rw [hsucc]; rfl, by rw [hsucc]; rfl⟩, by walk_at "keep"⟩
          · rename Fr _ _ _ _ => F₄
            rename News _ _ _ _ => N₄
            have hst : stepZ ns b i = { b with reg := addsZ (padZ b.reg (b.former.length + b.gap)) b.former b.gap.toNat (divZ (missZ b.reg ns i b.size) b.last), gap := b.gap + 1 } := by
              unfold stepZ; dsimp only; rw [if_neg (by first | assumption | (simp_all; done)), if_neg (by first | assumption | (simp_all; done))]
            rw [hst] at hsucc
            exact tpost_next F₄ N₄ (by k_mem) (nx := (f, W.listOf vf.toArray nf) :: (D, W.listOf ws.toArray nw) :: news) (by walk_at "sub") (List.forall_mem_cons.mpr ⟨hn1, List.forall_mem_cons.mpr ⟨Ne.symm (Nat.ne_of_lt hlD.2.2.2.1), hn3⟩⟩)
              ⟨⟨D, f, ws, vf, nw, nf, _, _, _, rfl, allLt_lt hlD.2.2.2.2.2.2, by rw [hsucc]; exact qw, by rw [hsucc]; exact q2, rfl, rfl, by rw [hsucc]; rfl, by rw [hsucc]; rfl, by rw [hsucc]; rfl⟩, by walk_at "keep"⟩
  · rintro u nx h tk ⟨r, f, vr, vf, nr, nf, t1, t2, t3, rfl, q0, q1, q2, e1, e2, e3, e4, e5⟩ F₁ N₁
    replace F₁ := frx (a := "register") F₁ (by exact e1)
    walk_at "my_steps"
    rename Fr h₀ L _ m => kF
    rename News h₀ L _ _ => kN
    refine hret _ _ _ _ _ kF (news_sub kN (by walk_at "sub")) q0 ?_
    unfold registerZ
    rw [← hvl']
    exact q1

end Mine
end

theorem Mine.anew_W9 : 1 = 1 := by
  w_top off
  first | walk1 | rfl

/-! part W9 -/
section
open PySem PySem.W PyProof.Rows PySem.Calls PySem.Spec
set_option Elab.async false
namespace Mine
set_option maxRecDepth 100000
theorem fill_W9 {w : World} {h : Heap} : (hd.heap_39 w.params).In h → Challenge.rw_bj0062_01.row.prog = Challenge.rw_bj0062_01.row.prog := by
  k_fill
  intro _
  rfl
local macro_rules | `(tactic| walk_at "my_enter") => `(tactic| (refine wpAny_call ?_; k_dflt (refine' code_def ?k1 ?k2 ?k3 ?k4 ?k5 ?kA ?kF ?kK ?k6 ?k7 ?k8 ?k9 ?kB ?_ ?c2 ?c3 ?c4 ?c5; (case kA => exact rfl); (case kF => assumption); (case kK => assumption); (case k1 => k_asm); (case k2 => k_asm); (case k3 => k_asm); (case k4 => k_asm); (case k5 => k_asm); (case k6 => k_is); (case k7 => k_is); (case k8 => walk_at "room"); (case k9 => exact BindsTo.of_eq rfl); (case c5 => decide); (case kB => exact locs rfl); (case c2 => exact rfl); (case c3 => exact rfl); (case c4 => exact rfl); k_whole; intro g' L' h' FG' F' N' B' X' T'; (try dsimp only); (try k_fold))))
local macro_rules | `(tactic| walk_at "my_steps") => `(tactic| repeat' (first | (k_unfold; (try dsimp only)) | walk1 | (dsimp only; walk1)))
local macro_rules | `(tactic| walk_at "setItem ref int") => `(tactic| (k_here; (with_reducible show wpAny _ _ (setItem (Value.ref _) (Value.int _ _) _) _ _ _); k_dflt (refine' set_listK ?k1 ?k2 ?k3 ?k5 ?k6 ?k7 ?_; (case k1 => k_asm); (case k2 => k_asm); (case k3 => k_upd); (case k5 => first | omega | ksa_idx); (case k6 => first | omega | (simp; done) | (simp; omega)); (case k7 => first | omega | ksa_idx); k_whole); intro h' F' N'; (try k_sweep)))
local macro_rules | `(tactic| k_ne) => `(tactic| first | assumption | exact Ne.symm (by assumption) | (refine neN ?_; (try dsimp only); omega))
local macro_rules | `(tactic| k_all) => `(tactic| first | assumption | exact lt_all_ne (by assumption) | exact lt_all_sub (by assumption) (by walk_at "sub") | exact ne_all_sub (by assumption) (by walk_at "sub") | exact allLt_ne (by assumption) | exact allLt_ne (And.right (by assumption)) | exact allLt_ne (And.right (And.right (by assumption))) | exact allLt_ne (And.right (And.right (And.right (by assumption)))) | exact allLt_ne (And.right (And.right (And.right (And.right (by assumption))))) | exact allLt_ne (And.right (And.right (And.right (And.right (And.right (by assumption)))))) | exact allLt_ne (And.right (And.right (And.right (And.right (And.right (And.right (by assumption))))))) | exact allLt_ne (And.right (And.right (And.right (And.right (And.right (And.right (And.right (by assumption)))))))) | exact allLt_ne (And.right (And.right (And.right (And.right (And.right (And.right (And.right (And.right (by assumption))))))))) | exact allLt_ne (And.right (And.right (And.right (And.right (And.right (And.right (And.right (And.right (And.right (by assumption)))))))))) | exact lt_all_off (by assumption) (by omega) | exact off1_sub (by assumption) (by walk_at "sub") | exact List.forall_mem_nil _ | (refine' List.forall_mem_cons.mpr ⟨?a, ?b⟩; (case a => k_ne); (case b => k_all)))
local macro_rules | `(tactic| walk_at "call builtin:list.append") => `(tactic| (k_here; (with_reducible show wpAny _ _ (call (Value.builtin "list.append") [Value.ref _, _]) _ _ _); k_dflt (refine' append_L ?k1 ?k2 ?k3 ?k4 ?_; (case k1 => k_asm); (case k2 => k_asm); (case k3 => k_upd); (case k4 => walk_at "lens"); k_whole); intro h' F' N'; (try k_sweep)))
local macro_rules | `(tactic| walk_at "lens") => `(tactic| first | assumption | omega | (simp only [List.length_append, List.length_cons, List.length_nil, List.length_map, List.length_range, List.length_replicate, List.length_set]; omega))
local macro_rules | `(tactic| walk_at "ints") => `(tactic| first | omega | (simp only [decide_eq_true_eq, decide_eq_false_iff_not, Bool.not_eq_true, beq_iff_eq, beq_eq_false_iff_ne, ne_eq] at *; omega) | (trace_state; fail "ints"))
local macro_rules | `(tactic| walk_at "fld_in") => `(tactic| first | assumption | exact FieldIn.tail (by assumption) | exact FieldIn.tail (FieldIn.tail (by assumption)) | exact FieldIn.tail (FieldIn.tail (FieldIn.tail (by assumption))) | exact FieldIn.tail (FieldIn.tail (FieldIn.tail (FieldIn.tail (by assumption)))) | exact FieldIn.tail (FieldIn.tail (FieldIn.tail (FieldIn.tail (FieldIn.tail (by assumption))))) | exact FieldIn.tail (FieldIn.tail (FieldIn.tail (FieldIn.tail (FieldIn.tail (FieldIn.tail (by assumption)))))) | exact FieldIn.tail (FieldIn.tail (FieldIn.tail (FieldIn.tail (FieldIn.tail (FieldIn.tail (FieldIn.tail (by assumption))))))) | exact FieldIn.tail (FieldIn.tail (FieldIn.tail (FieldIn.tail (FieldIn.tail (FieldIn.tail (FieldIn.tail (FieldIn.tail (by assumption)))))))) | exact FieldIn.tail (FieldIn.tail (FieldIn.tail (FieldIn.tail (FieldIn.tail (FieldIn.tail (FieldIn.tail (FieldIn.tail (FieldIn.tail (by assumption))))))))) | exact FieldIn.tail (FieldIn.tail (FieldIn.tail (FieldIn.tail (FieldIn.tail (FieldIn.tail (FieldIn.tail (FieldIn.tail (FieldIn.tail (FieldIn.tail (by assumption)))))))))) | exact FieldIn.tail (FieldIn.tail (FieldIn.tail (FieldIn.tail (FieldIn.tail (FieldIn.tail (FieldIn.tail (FieldIn.tail (FieldIn.tail (FieldIn.tail (FieldIn.tail (by assumption))))))))))) | exact FieldIn.tail (FieldIn.tail (FieldIn.tail (FieldIn.tail (FieldIn.tail (FieldIn.tail (FieldIn.tail (FieldIn.tail (FieldIn.tail (FieldIn.tail (FieldIn.tail (FieldIn.tail (by assumption)))))))))))))
local macro_rules | `(tactic| k_mem) => `(tactic| first | assumption | exact List.Mem.head _ | (refine' List.Mem.tail _ ?_; k_mem))
local macro_rules | `(tactic| walk_at "subscriptTail") => `(tactic| (k_here; (with_reducible show wpAny _ _ (subscriptTail _ _ (Value.ref _) (Value.int 0 _)) _ _ _); k_dflt (refine' fld_0 ?k1 ?k2 ?_ ?k4; (case k1 => k_asm); (case k2 => walk_at "fld_in"); (case k4 => with_unfolding_all rfl); k_whole)))
local macro_rules | `(tactic| walk_at "subscriptTail Name Constant ref int") => `(tactic| (k_here; (with_reducible show wpAny _ _ (subscriptTail _ _ (Value.ref _) (Value.int 0 _)) _ _ _); k_dflt (refine' fld_0 ?k1 ?k2 ?_ ?k4; (case k1 => k_asm); (case k2 => walk_at "fld_in"); (case k4 => with_unfolding_all rfl); k_whole)))
local macro_rules | `(tactic| walk_at "subscriptTail") => `(tactic| (k_here; (with_reducible show wpAny _ _ (subscriptTail _ _ (Value.ref _) (Value.int 1 _)) _ _ _); k_dflt (refine' fld_1 ?k1 ?k2 ?_ ?k4; (case k1 => k_asm); (case k2 => walk_at "fld_in"); (case k4 => with_unfolding_all rfl); k_whole)))
local macro_rules | `(tactic| walk_at "subscriptTail Name Constant ref int") => `(tactic| (k_here; (with_reducible show wpAny _ _ (subscriptTail _ _ (Value.ref _) (Value.int 1 _)) _ _ _); k_dflt (refine' fld_1 ?k1 ?k2 ?_ ?k4; (case k1 => k_asm); (case k2 => walk_at "fld_in"); (case k4 => with_unfolding_all rfl); k_whole)))
local macro_rules | `(tactic| walk_at "subscriptTail") => `(tactic| (k_here; (with_reducible show wpAny _ _ (subscriptTail _ _ (Value.ref _) (Value.int _ _)) _ _ _); k_dflt (refine' fld_pow ?k1 ?k2 ?k5 ?k6 ?_ ?k4; (case k1 => k_asm); (case k2 => walk_at "fld_in"); (case k5 => first | omega | exact (fmod255 _).1); (case k6 => first | omega | exact (fmod255 _).2); (case k4 => with_unfolding_all rfl); k_whole); intro _))
local macro_rules | `(tactic| walk_at "subscriptTail Subscript Name Constant BinOp ref int") => `(tactic| (k_here; (with_reducible show wpAny _ _ (subscriptTail _ _ (Value.ref _) (Value.int _ _)) _ _ _); k_dflt (refine' fld_pow ?k1 ?k2 ?k5 ?k6 ?_ ?k4; (case k1 => k_asm); (case k2 => walk_at "fld_in"); (case k5 => first | omega | exact (fmod255 _).1); (case k6 => first | omega | exact (fmod255 _).2); (case k4 => with_unfolding_all rfl); k_whole); intro _))
local macro_rules | `(tactic| walk_at "subscriptTail Subscript Name Constant Name ref int") => `(tactic| (k_here; (with_reducible show wpAny _ _ (subscriptTail _ _ (Value.ref _) (Value.int _ _)) _ _ _); k_dflt (refine' fld_pow ?k1 ?k2 ?k5 ?k6 ?_ ?k4; (case k1 => k_asm); (case k2 => walk_at "fld_in"); (case k5 => first | omega | exact (fmod255 _).1); (case k6 => first | omega | exact (fmod255 _).2); (case k4 => with_unfolding_all rfl); k_whole); intro _))
local macro_rules | `(tactic| walk_at "subscriptTail Subscript Name Constant Subscript ref int") => `(tactic| (k_here; (with_reducible show wpAny _ _ (subscriptTail _ _ (Value.ref _) (Value.int _ _)) _ _ _); k_dflt (refine' fld_pow ?k1 ?k2 ?k5 ?k6 ?_ ?k4; (case k1 => k_asm); (case k2 => walk_at "fld_in"); (case k5 => first | omega | exact (fmod255 _).1); (case k6 => first | omega | exact (fmod255 _).2); (case k4 => with_unfolding_all rfl); k_whole); intro _))
local macro_rules | `(tactic| walk_at "subscriptTail") => `(tactic| (k_here; (with_reducible show wpAny _ _ (subscriptTail _ _ (Value.ref _) (Value.int _ _)) _ _ _); k_dflt (refine' fld_log ?k1 ?k2 ?k5 ?k6 ?_ ?k4; (case k1 => k_asm); (case k2 => walk_at "fld_in"); (case k5 => walk_at "ints"); (case k6 => walk_at "ints"); (case k4 => with_unfolding_all rfl); k_whole); intro _))
local macro_rules | `(tactic| walk_at "subscriptTail Subscript Name Constant BinOp ref int") => `(tactic| (k_here; (with_reducible show wpAny _ _ (subscriptTail _ _ (Value.ref _) (Value.int _ _)) _ _ _); k_dflt (refine' fld_log ?k1 ?k2 ?k5 ?k6 ?_ ?k4; (case k1 => k_asm); (case k2 => walk_at "fld_in"); (case k5 => walk_at "ints"); (case k6 => walk_at "ints"); (case k4 => with_unfolding_all rfl); k_whole); intro _))
local macro_rules | `(tactic| walk_at "subscriptTail Subscript Name Constant Name ref int") => `(tactic| (k_here; (with_reducible show wpAny _ _ (subscriptTail _ _ (Value.ref _) (Value.int _ _)) _ _ _); k_dflt (refine' fld_log ?k1 ?k2 ?k5 ?k6 ?_ ?k4; (case k1 => k_asm); (case k2 => walk_at "fld_in"); (case k5 => walk_at "ints"); (case k6 => walk_at "ints"); (case k4 => with_unfolding_all rfl); k_whole); intro _))
local macro_rules | `(tactic| walk_at "subscriptTail Subscript Name Constant Subscript ref int") => `(tactic| (k_here; (with_reducible show wpAny _ _ (subscriptTail _ _ (Value.ref _) (Value.int _ _)) _ _ _); k_dflt (refine' fld_log ?k1 ?k2 ?k5 ?k6 ?_ ?k4; (case k1 => k_asm); (case k2 => walk_at "fld_in"); (case k5 => walk_at "ints"); (case k6 => walk_at "ints"); (case k4 => with_unfolding_all rfl); k_whole); intro _))

local macro_rules | `(tactic| walk_at "pyIter ref") => `(tactic| ((with_reducible show wpAny _ _ (pyIter (Value.ref _)) (fun it s₂ => LoopAtV _ _ _ _ _ _ _ _ _ it s₂) _ _); refine Stopped.out ?_))
local macro_rules | `(tactic| walk_at "exec For Name Call cons nil") => `(tactic| (k_here; (rename Fr _ _ _ _ => lF'); (with_unfolding_all refine' For_invVF lF' ?k1 ?k2 ?_; (case k1 => exact rfl); (case k2 => exact rfl); k_whole)))
local macro_rules | `(tactic| walk_at "exec For Name Name cons nil") => `(tactic| (k_here; (rename Fr _ _ _ _ => lF'); (with_unfolding_all refine' For_invVF lF' ?k1 ?k2 ?_; (case k1 => exact rfl); (case k2 => exact rfl); k_whole)))
local macro_rules | `(tactic| walk_at "call type:range") => `(tactic| (k_here; (with_reducible show wpAny _ _ (call (Value.type "range") [Value.int _ _]) _ _ _); k_dflt (refine' range1_K ?k1 ?k2 ?_; (case k1 => k_asm); (case k2 => k_asm); k_whole); intro r' h' u' v' tk' F' N' R'; (try k_sweep)))
local macro_rules | `(tactic| walk_at "call type:range") => `(tactic| (k_here; (with_reducible show wpAny _ _ (call (Value.type "range") [Value.int _ _, Value.int _ _]) _ _ _); k_dflt (refine' range2_K ?k1 ?k2 ?_; (case k1 => k_asm); (case k2 => k_asm); k_whole); intro r' h' v' tk' F' N' R'; (try k_sweep)))
local macro_rules | `(tactic| walk_at "room") => `(tactic| first | assumption | omega | ((simp only [depth_in1, depth_deeper, units_in1, units_deeper, Around.mark_units]); omega))

local macro_rules | `(tactic| is_list) => `(tactic| (refine' isList_of ?a ?b; (case a => k_asm); (case b => k_mem)))
local macro_rules | `(tactic| walk_at "call builtin:len") => `(tactic| (k_here; (with_reducible show wpAny _ _ (call (Value.builtin "len") [Value.ref _]) _ _ _); k_dflt (refine' len_L ?k2 ?k3 ?k4 ?_; (case k2 => k_asm); (case k3 => k_mem); (case k4 => walk_at "lens"); k_whole); intro t' tk'; (try k_sweep)))
local macro_rules | `(tactic| walk_at "binaryOp Add ref ref") => `(tactic| (k_here; (with_reducible show wpAny _ _ (binaryOp Operator.Add (Value.ref _) (Value.ref _)) _ _ _); k_dflt (refine' add_L ?k1 ?k2 ?k3 ?k4 ?k5 ?_; (case k1 => k_asm); (case k2 => k_asm); (case k3 => k_mem); (case k4 => k_mem); (case k5 => walk_at "lens"); k_whole); intro r' h' F' N' hl'; (have hl2' := hl'); (try k_lt hl2'); (try k_sweep)))

local macro_rules | `(tactic| walk_at "sub") => `(tactic| first | (refine' List.forall_mem_cons.mpr ⟨?a, ?b⟩; (case a => k_mem); (case b => walk_at "sub")) | (intro p hp; k_mem))

local macro_rules | `(tactic| walk_at "keep") => `(tactic| first | exact keep_base | exact keep_refl | (refine keep_x ?_; walk_at "keep") | (refine keep_upd (by decide) ?_; walk_at "keep") | (refine keep_in (by decide) ?_; walk_at "keep"))

local macro_rules | `(tactic| walk_at "CompSrc") => `(tactic| refine Stopped.out ?_)
local macro_rules | `(tactic| walk_at "my_enterC") => `(tactic| (refine wpAny_call ?_; k_dflt (refine' code_defC ?k1 ?k2 ?k3 ?k4 ?k5 ?kA ?kF ?kK ?k6 ?k7 ?k8 ?k9 ?kB ?kD ?_ ?c2 ?c3 ?c4; (case kA => exact rfl); (case kF => assumption); (case kK => assumption); (case k1 => k_asm); (case k2 => k_asm); (case k3 => k_asm); (case k4 => k_asm); (case k5 => k_asm); (case k6 => k_is); (case k7 => k_is); (case k8 => walk_at "room"); (case k9 => exact BindsTo.of_eq rfl); (case kB => exact rfl); (case kD => decide +kernel); (case c2 => exact rfl); (case c3 => exact rfl); (case c4 => exact rfl); k_whole; intro g' L' h' tk' cells' FG' F' N' Y' B' X' T' l1; k_cells Y'; (try simp only [List.cons_append, List.nil_append] at N'); (try dsimp only); (try k_fold))))

local macro_rules | `(tactic| walk_at "subscriptTail Name Slice ref ref") => `(tactic| (k_here; (with_reducible show wpAny _ _ (subscriptTail _ (PySem.Expr.Slice _ _ _ _) (Value.ref _) (Value.ref _)) _ _ _); k_dflt (refine' slice_LI ?zF ?zN ?zl ?zi ?zp ?zq ?zk ?zo ?zz ?_ ?zs; (case zF => k_asm); (case zN => k_asm); (case zl => k_mem); (case zi => assumption); (case zp => kmk_part); (case zq => kmk_part); (case zk => kmk_part); (case zo => decide); (case zz => walk_at "lens"); (case zs => with_unfolding_all rfl)); intro D' ws' h' F' N' l1 hI' hL'; (have l2' := l1); (try k_lt l2'); (try k_sweep)))
local macro_rules | `(tactic| walk_at "subscriptTail ListComp Slice ref ref") => `(tactic| (k_here; (with_reducible show wpAny _ _ (subscriptTail _ (PySem.Expr.Slice _ _ _ _) (Value.ref _) (Value.ref _)) _ _ _); k_dflt (refine' slice_LI ?zF ?zN ?zl ?zi ?zp ?zq ?zk ?zo ?zz ?_ ?zs; (case zF => k_asm); (case zN => k_asm); (case zl => k_mem); (case zi => assumption); (case zp => kmk_part); (case zq => kmk_part); (case zk => kmk_part); (case zo => decide); (case zz => walk_at "lens"); (case zs => with_unfolding_all rfl)); intro D' ws' h' F' N' l1 hI' hL'; (have l2' := l1); (try k_lt l2'); (try k_sweep)))
local macro_rules | `(tactic| walk_at "subscriptTail Subscript Slice ref ref") => `(tactic| (k_here; (with_reducible show wpAny _ _ (subscriptTail _ (PySem.Expr.Slice _ _ _ _) (Value.ref _) (Value.ref _)) _ _ _); k_dflt (refine' slice_LI ?zF ?zN ?zl ?zi ?zp ?zq ?zk ?zo ?zz ?_ ?zs; (case zF => k_asm); (case zN => k_asm); (case zl => k_mem); (case zi => assumption); (case zp => kmk_part); (case zq => kmk_part); (case zk => kmk_part); (case zo => decide); (case zz => walk_at "lens"); (case zs => with_unfolding_all rfl)); intro D' ws' h' F' N' l1 hI' hL'; (have l2' := l1); (try k_lt l2'); (try k_sweep)))
local macro_rules | `(tactic| walk_at "subscriptTail Attribute Slice ref ref") => `(tactic| (k_here; (with_reducible show wpAny _ _ (subscriptTail _ (PySem.Expr.Slice _ _ _ _) (Value.ref _) (Value.ref _)) _ _ _); k_dflt (refine' slice_LI ?zF ?zN ?zl ?zi ?zp ?zq ?zk ?zo ?zz ?_ ?zs; (case zF => k_asm); (case zN => k_asm); (case zl => k_mem); (case zi => assumption); (case zp => kmk_part); (case zq => kmk_part); (case zk => kmk_part); (case zo => decide); (case zz => walk_at "lens"); (case zs => with_unfolding_all rfl)); intro D' ws' h' F' N' l1 hI' hL'; (have l2' := l1); (try k_lt l2'); (try k_sweep)))
local macro_rules | `(tactic| walk_at "subscriptTail Name Name ref ref") => `(tactic| (k_here; (with_reducible show wpAny _ _ (subscriptTail _ _ (Value.ref _) (Value.ref _)) _ _ _); k_dflt (refine' slice_LI ?zF ?zN ?zl ?zi ?zp ?zq ?zk ?zo ?zz ?_ ?zs; (case zF => k_asm); (case zN => k_asm); (case zl => k_mem); (case zi => assumption); (case zp => kmk_part); (case zq => kmk_part); (case zk => kmk_part); (case zo => decide); (case zz => walk_at "lens"); (case zs => with_unfolding_all rfl)); intro D' ws' h' F' N' l1 hI' hL'; (have l2' := l1); (try k_lt l2'); (try k_sweep)))
local macro_rules | `(tactic| walk_at "subscriptTail Attribute Name ref ref") => `(tactic| (k_here; (with_reducible show wpAny _ _ (subscriptTail _ _ (Value.ref _) (Value.ref _)) _ _ _); k_dflt (refine' slice_LI ?zF ?zN ?zl ?zi ?zp ?zq ?zk ?zo ?zz ?_ ?zs; (case zF => k_asm); (case zN => k_asm); (case zl => k_mem); (case zi => assumption); (case zp => kmk_part); (case zq => kmk_part); (case zk => kmk_part); (case zo => decide); (case zz => walk_at "lens"); (case zs => with_unfolding_all rfl)); intro D' ws' h' F' N' l1 hI' hL'; (have l2' := l1); (try k_lt l2'); (try k_sweep)))

variable {w : World} {mean : ExcName → Option Value} {mg mb : Str → Option Value} {dp un : Nat} {gd : Option (List Code)} {A₀ : Around} {base h₀ : Heap} {env : Env} {outer : List Env} {L : Addr} {m : Str → Option Value} {s : Shared} {Q E : Value → Shared → Prop}
local macro_rules | `(tactic| walk_at "rngs") => `(tactic| first | assumption | exact mulZ_rng.1 | exact mulZ_rng.2 | exact divZ_rng.1 | exact divZ_rng.2 | exact rng_lo (by assumption) | exact rng_hi (by assumption) | omega | exact (by assumption : _ → _ ∨ _) (by assumption))
local macro_rules | `(tactic| walk_at "call ref") => `(tactic| (k_here; (with_reducible show wpAny _ _ (call (Value.ref 299) _) _ _ _); k_dflt (refine' times_call ?k1 ?k2 ?k3 ?k4 ?k5 ?k7 ?k8 ?ka ?kb ?q0 ?q1 ?q2 ?q3 ?q4 ?_; (case k1 => k_asm); (case k2 => k_asm); (case k3 => k_asm); (case k4 => k_asm); (case k5 => k_asm); (case k7 => exact rfl); (case k8 => exact rfl); (case ka => walk_at "room"); (case kb => walk_at "room"); (case q0 => walk_at "fld_in"); (case q1 => walk_at "rngs"); (case q2 => walk_at "rngs"); (case q3 => walk_at "rngs"); (case q4 => walk_at "rngs"); k_whole); intro t9 h9 tk9 F9 N9; (try k_sweep)))
local macro_rules | `(tactic| walk_at "call ref") => `(tactic| (k_here; (with_reducible show wpAny _ _ (call (Value.ref 306) _) _ _ _); k_dflt (refine' over_call ?k1 ?k2 ?k3 ?k4 ?k5 ?k7 ?k8 ?ka ?kb ?q0 ?q1 ?q2 ?q3 ?q4 ?_; (case k1 => k_asm); (case k2 => k_asm); (case k3 => k_asm); (case k4 => k_asm); (case k5 => k_asm); (case k7 => exact rfl); (case k8 => exact rfl); (case ka => walk_at "room"); (case kb => walk_at "room"); (case q0 => walk_at "fld_in"); (case q1 => walk_at "rngs"); (case q2 => walk_at "rngs"); (case q3 => walk_at "rngs"); (case q4 => walk_at "rngs"); k_whole); intro t9 h9 tk9 F9 N9; (try k_sweep)))
local macro_rules | `(tactic| walk_at "call ref") => `(tactic| (k_here; (with_reducible show wpAny _ _ (call (Value.ref 313) _) _ _ _); k_dflt (refine' value_call ?k1 ?k2 ?k3 ?k4 ?k5 ?k7 ?k8 ?ka ?kb ?q0 ?q1 ?q2 ?q3 ?q4 ?q5 ?_; (case k1 => k_asm); (case k2 => k_asm); (case k3 => k_asm); (case k4 => k_asm); (case k5 => k_asm); (case k7 => exact rfl); (case k8 => exact rfl); (case ka => walk_at "room"); (case kb => walk_at "room"); (case q0 => walk_at "fld_in"); (case q1 => k_mem); (case q2 => assumption); (case q3 => first | assumption | exact pickZ_rng (by assumption)); (case q4 => walk_at "rngs"); (case q5 => walk_at "rngs"); k_whole); intro t9 h9 tk9 F9 N9; (try k_sweep)))
local macro_rules | `(tactic| walk_at "call ref") => `(tactic| (k_here; (with_reducible show wpAny _ _ (call (Value.ref 320) _) _ _ _); k_dflt (refine' register_call ?k1 ?k2 ?k3 ?k4 ?k5 ?k7 ?k8 ?ka ?kb ?q0 ?q1 ?q2 ?q3 ?q4 ?_; (case k1 => k_asm); (case k2 => k_asm); (case k3 => k_asm); (case k4 => k_asm); (case k5 => k_asm); (case k7 => exact rfl); (case k8 => exact rfl); (case ka => walk_at "room"); (case kb => walk_at "room"); (case q0 => walk_at "fld_in"); (case q1 => k_mem); (case q2 => assumption); (case q3 => assumption); (case q4 => walk_at "lens"); k_whole); intro h9 tk9 r9 vr9 nr9 F9 N9 hl9 hi9; (have hl92 := hl9); (try k_lt hl92); (try k_sweep)))

set_option maxHeartbeats 4000000 in
theorem mended_call {news : List (Addr × Obj)} {fa pa la ra : Addr} {vs : List Value} {ns : List Int} {n : Nat} {e : Int} {te : Tok}
  (B : Below A₀ base outer h₀) (F : Fr h₀ L s.heap m) (X : (hd.heap_39 w.params).In h₀) (N : News h₀ L s.heap news) (T : TopM mean mg mb h₀)
  (hf : env.frame = some L) (hk : env.scope.kind = .function) (hroom : dp + 4 < recursionLimit) (hun : un + 40 < cLine)
  (H : FieldIn w news fa pa la) (hrow : (ra, W.listOf vs.toArray n) ∈ news) (hi : IntsAre vs ns) (hr : ∀ k ∈ ns, rng k) (hlen : ns.length ≤ 100) (he0 : 0 ≤ e) (he1 : e ≤ 50)
  (hsafe : ∀ p : Nat, p < ns.length → valueZ (registerZ (sumsZ ns e.toNat)).reverse (backZ ((ns.length : Int) - 1 - p)) = 0 → valueZ (restsZ (registerZ (sumsZ ns e.toNat)) (sumsZ ns e.toNat) e.toNat) (backZ ((ns.length : Int) - 1 - p)) = 0 ∨ 1 ≤ valueZ (slopesZ (registerZ (sumsZ ns e.toNat))) (backZ ((ns.length : Int) - 1 - p)))
  (hret : ∀ (h' : Heap) (tk' : Nat) (r : Addr) (vr : List Value) (nr : Nat), Fr h₀ L h' m → News h₀ L h' ((r, W.listOf vr.toArray nr) :: news) → (∀ p ∈ news, p.1 < r) → IntsAre vr (mendedZ ns e.toNat) → Q (.ref r) { s with heap := h', toks := tk' }) :
  wpAny (model PP w) (AA dp un gd env outer) (call (.ref 325) [.ref ra, .int e te, .ref fa]) Q E s := by
  have hvl := hi.length
  have hvs : vs.length ≤ 100 := by omega
  walk_at "my_enterC"
  walk_at "my_steps"
  refine ⟨?_⟩
  rename_i g0 L0 h00 tk00 FG0 B0 X0 T0 l1 o1 o2 o3 d1 d2 d3 rr h0 u0 v0 tk0 F₁ N₁ R₁
  have c1 : o1.data = .cell none := d1
  have c2 : o2.data = .cell (some (.ref fa)) := d2
  have c3 : o3.data = .cell (some (.ref ra)) := d3
  clear d1 d2 d3
  refine comp_range e.toNat (fun i ys nx => nx = (L0 + 1 + 1 + 1, o1) :: (L0 + 1 + 1, o2) :: (L0 + 1, o3) :: news ∧ IntsAre ys (sumsZ ns i))
    rfl R₁ (by omega) (by decide) (by decide) (by omega) (by omega) F₁ N₁ ⟨rfl, .nil⟩ ?_ ?_
  · rintro i k t I oI C oC D m₂ ys nx h tk E' hi1 hkk ⟨rfl, q1⟩ hC hx F₂ N₂ off ne
    have hkk : k = (i : Int) := by omega
    subst hkk
    have hpr := powsT_rng (k := ((i : Int)).toNat) (by omega)
    walk_at "my_steps"
    rename Fr _ _ _ _ => F₃
    rename News _ _ _ _ => N₃
    exact cend F₃ N₃ (by k_mem) (by k_mem) (by k_mem) (by walk_at "sub") off ⟨rfl, by
      unfold sumsZ
      rw [List.range_succ, List.map_append]
      have z : powsT.getD ((i : Int)).toNat 0 = powZ i := powsT_get (by omega)
      rw [z]
      exact ints_snoc q1⟩
  · rintro g ys nx ⟨rfl, q1⟩ D h tk F₂ N₂ off
    have off1 := off
    simp only [LCg.Off1] at off
    have hsr := sumsZ_rng (e := e.toNat) hr
    have hsl : (sumsZ ns e.toNat).length = e.toNat := by unfold sumsZ; simp
    have hyl := q1.length
    walk_at "my_steps"
    refine ⟨?_⟩
    rename_i h9 tk9 r9 vr9 nr9 hl9 hi9 hl92 hx1 oc hdc tkx l4 hx2 hl4 hx3 rr4 hx4 u4 v4 tk4 F₃ N₃ R₃
    have hrr := registerZ_rng hsr
    have hrl := registerZ_len hsr
    have hvr := hi9.length
    generalize hSS : sumsZ ns e.toNat = SS at *
    generalize hRG : registerZ SS = RG at *
    refine range_loopC e.toNat ["rest", "k", "rests", "zz"] (fun i u nx => ∃ q vq nq, nx = (q, W.listOf vq.toArray nq) :: (r9, W.listOf vr9.toArray nr9) :: (D, LCg.lst ys) :: (L0 + 1 + 1 + 1, oc) :: (L0 + 1 + 1, o2) :: (L0 + 1, o3) :: news ∧ IntsAre vq (restsZ RG SS i) ∧ u "rests" = some (.ref q))
      rfl R₃ (by omega) (by decide) (by decide) (by omega) (by omega) F₃ N₃ ⟨l4, [], 0, rfl, .nil, rfl⟩ ?_ ?_
    · rintro i k t I u nx h tk oi hi1 hkk hnx ⟨q, vq, nq, rfl, q2, e1⟩ F₁ N₁
      have hkk : k = (i : Int) := by omega
      subst hkk
      replace F₁ := frx (a := "rests") F₁ (by exact e1)
      have hql := q2.length
      have hqr : (restsZ RG SS i).length = i := by unfold restsZ; simp
      walk_at "my_steps"
      refine ⟨?_⟩
      rename IsRange _ _ _ _ _ _ _ _ => R₂
      rename Fr _ _ _ _ => F₂
      rename News _ _ _ _ => N₂
      refine range_loopC (min (i + 1) RG.length) ["rest"] (fun j u nx => nx = _ ∧ ∃ t, u "rest" = some (.int ((List.range j).foldl (fun r k => xorZ r (mulZ (RG.getD k 0) (SS.getD (i - k) 0))) 0) t))
        rfl R₂ (by split <;> omega) (by decide) (by decide) (by split <;> omega) (by split <;> omega) F₂ N₂ ⟨rfl, _, rfl⟩ ?_ ?_
      · rintro j k t I₂ u nx h tk oi₂ hj hkk hnx₂ ⟨rfl, tm, em⟩ F₁ N₁
        have hkk : k = (j : Int) := by omega
        subst hkk
        replace F₁ := frx (a := "rest") F₁ (by exact em)
        have hrg1 := getD_rng hrr ((j : Int)).toNat
        have hrg2 := getD_rng hsr ((i : Int) - j).toNat
        walk_at "my_steps"
        rename Fr _ _ _ _ => F₃
        rename News _ _ _ _ => N₃
        have z1 : ((i : Int) - j).toNat = i - j := by omega
        exact tpost_next F₃ N₃ (by k_mem) (by walk_at "sub") hnx₂ ⟨⟨rfl, _, by
          show some (Value.int (xorZ _ (mulZ (RG.getD ((j : Int)).toNat 0) (SS.getD ((i : Int) - j).toNat 0))) _) = _
          rw [z1, List.range_succ, List.foldl_append]
          rfl⟩, by walk_at "keep"⟩
      · rintro u nx h tk ⟨rfl, tm, em⟩ F₁ N₁
        replace em : u "rest" = some (.int (restZ RG SS i) tm) := em
        replace F₁ := frx (a := "rest") F₁ (by exact em)
        walk_at "my_steps"
        rename_i r5 h51 F51 N51 hl5 hl52 h52 F₃ N₃
        have hI5 : r5 ≠ I := by
          have := hl52.2.1
          exact Ne.symm (Nat.ne_of_lt this)
        exact tpost_next F₃ N₃ (by k_mem) (nx := (r5, W.listOf ([Value.int (restZ RG SS i) tm] ++ vq).toArray 0) :: (r9, W.listOf vr9.toArray nr9) :: (D, LCg.lst ys) :: (L0 + 1 + 1 + 1, oc) :: (L0 + 1 + 1, o2) :: (L0 + 1, o3) :: news) (by walk_at "sub") (List.forall_mem_cons.mpr ⟨hI5, (List.forall_mem_cons.mp hnx).2⟩) ⟨⟨r5, _, 0, rfl, by
          unfold restsZ
          rw [List.range_succ, List.map_append, List.reverse_append]
          exact .cons _ _ q2, rfl⟩, by walk_at "keep"⟩
    · rintro u nx h tk ⟨q, vq, nq, rfl, q2, e1⟩ F₁ N₁
      replace F₁ := frx (a := "rests") F₁ (by exact e1)
      walk_at "my_steps"
      refine ⟨?_⟩
      rename IsRange _ _ _ _ _ _ _ _ => R₂
      rename Fr _ _ _ _ => F₂
      rename News _ _ _ _ => N₂
      refine comp_range RG.length (fun i ys nx => nx = _ ∧ IntsAre ys ((List.range i).map (slopeZ RG)))
        rfl R₂ (by omega) (by decide) (by decide) (by omega) (by omega) F₂ N₂ ⟨rfl, .nil⟩ ?_ ?_
      · rintro i k t I oI C oC D m₂ ys nx h tk E' hi1 hkk ⟨rfl, q3⟩ hC hx F₂ N₂ off ne
        have hkk : k = (i : Int) := by omega
        subst hkk
        walk_at "my_steps"
        all_goals
          rename Fr _ _ _ _ => F₃
          rename News _ _ _ _ => N₃
        · exact cend F₃ N₃ (by k_mem) (by k_mem) (by k_mem) (by walk_at "sub") off ⟨rfl, by
            rw [List.range_succ, List.map_append]
            have z : slopeZ RG i = RG.getD ((i : Int)).toNat 0 := by unfold slopeZ; rw [if_pos (by first | assumption | (simp_all; done))]; rfl
            show IntsAre _ (_ ++ [slopeZ RG i])
            rw [z]
            exact ints_snoc q3⟩
        · exact cend F₃ N₃ (by k_mem) (by k_mem) (by k_mem) (by walk_at "sub") off ⟨rfl, by
            rw [List.range_succ, List.map_append]
            have z : slopeZ RG i = 0 := by unfold slopeZ; rw [if_neg (by first | assumption | (simp_all; done))]
            show IntsAre _ (_ ++ [slopeZ RG i])
            rw [z]
            exact ints_snoc q3⟩
      · rintro g ys2 nx ⟨rfl, q3⟩ D2 h tk F₂ N₂ off
        have q3l := q3.length
        simp only [List.length_map, List.length_range] at q3l
        have off2 := off
        simp only [LCg.Off1] at off2
        walk_at "my_steps"
        refine ⟨?_⟩
        rename_i D1 ws1 h41 F41 N41 l11 hI1 hL1 l21 h31 tkA D0 c0 h21 l10 h11 t51 tk51 r51 h01 u51 v51 tk52 F₅ N₅ R₅
        rw [pickZ_tailrev] at hI1
        replace hI1 : IntsAre ws1 (slopesZ RG) := hI1
        have hsr1 := slopesZ_rng hrr
        have hsr2 := restsZ_rng (reg := RG) (sums := SS) (e := e.toNat)
        have hms : ∀ n, (∀ k ∈ (List.range n).foldl (mendStep ns RG (restsZ RG SS e.toNat) (slopesZ RG)) ns, rng k) ∧ ((List.range n).foldl (mendStep ns RG (restsZ RG SS e.toNat) (slopesZ RG)) ns).length = ns.length := mend_fold hr
        refine range_loopC vs.length ["at", "back", "share", "zz"] (fun i u nx => ∃ wm nm, nx = (D0, W.listOf wm.toArray nm) :: (D1, W.listOf ws1.toArray 0) :: (D2, LCg.lst ys2) :: (q, W.listOf vq.toArray nq) :: (r9, W.listOf vr9.toArray nr9) :: (D, LCg.lst ys) :: (L0 + 1 + 1 + 1, oc) :: (L0 + 1 + 1, o2) :: (L0 + 1, o3) :: news ∧ IntsAre wm ((List.range i).foldl (mendStep ns RG (restsZ RG SS e.toNat) (slopesZ RG)) ns))
          rfl R₅ (by omega) (by decide) (by decide) (by omega) (by omega) F₅ N₅ ⟨vs, c0, rfl, hi⟩ ?_ ?_
        · rintro i k t I u nx h tk oi hi1 hkk hnx ⟨wm, nm, rfl, qm⟩ F₁ N₁
          have hkk : k = (i : Int) := by omega
          subst hkk
          have hm1 : D0 ≠ I := (List.forall_mem_cons.mp hnx).1
          have hnl : ∀ p ∈ news, p.1 < D0 := allLt_lt l10.2.2.2.2.2.2.2.2
          have hwl := qm.length
          rw [(hms i).2] at hwl
          have hbk : backZ ((ns.length : Int) - 1 - (i : Int)) = powsT.getD ((-((vs.length : Int) - 1 - (i : Int))).fmod 255).toNat 0 := by unfold backZ; rw [hvl]
          have hbr := backZ_rng (a := (ns.length : Int) - 1 - (i : Int))
          have hv1 := valueZ_rng (x := backZ ((ns.length : Int) - 1 - (i : Int))) hsr2
          have hv2 := valueZ_rng (x := backZ ((ns.length : Int) - 1 - (i : Int))) hsr1
          have hsf := hsafe i (by omega)
          have hpa := powsT_rng (k := ((vs.length : Int) - 1 - (i : Int)).toNat) (by omega)
          have hgi := getD_rng hr ((i : Int)).toNat
          rw [hbk] at hbr hv1 hv2 hsf
          rw [← pickZ_rev] at hsf
          walk_at "my_steps"
          · rename Fr _ _ _ _ => F₆
            rename News _ _ _ _ => N₆
            refine tpost_next F₆ N₆ (nx := (D0, W.listOf _ nm) :: (D1, W.listOf ws1.toArray 0) :: (D2, LCg.lst ys2) :: (q, W.listOf vq.toArray nq) :: (r9, W.listOf vr9.toArray nr9) :: (D, LCg.lst ys) :: (L0 + 1 + 1 + 1, oc) :: (L0 + 1 + 1, o2) :: (L0 + 1, o3) :: news) (by k_mem) (by walk_at "sub") (List.forall_mem_cons.mpr ⟨(show D0 ≠ I from hm1), (List.forall_mem_cons.mp hnx).2⟩) ⟨⟨_, nm, rfl, ?_⟩, by walk_at "keep"⟩
            rw [List.range_succ, List.foldl_append]
            show IntsAre (wm.set ((i : Int)).toNat _) (mendStep ns RG (restsZ RG SS e.toNat) (slopesZ RG) _ i)
            generalize List.foldl (mendStep ns RG (restsZ RG SS e.toNat) (slopesZ RG)) ns (List.range i) = MD at qm ⊢
            unfold mendStep
            rw [hbk, ← pickZ_rev, if_pos (by assumption), ← hvl]
            exact ints_set qm _
          · rename Fr _ _ _ _ => F₆
            rename News _ _ _ _ => N₆
            refine tpost_next F₆ N₆ (nx := (D0, W.listOf wm.toArray nm) :: (D1, W.listOf ws1.toArray 0) :: (D2, LCg.lst ys2) :: (q, W.listOf vq.toArray nq) :: (r9, W.listOf vr9.toArray nr9) :: (D, LCg.lst ys) :: (L0 + 1 + 1 + 1, oc) :: (L0 + 1 + 1, o2) :: (L0 + 1, o3) :: news) (by k_mem) (by walk_at "sub") (List.forall_mem_cons.mpr ⟨(show D0 ≠ I from hm1), (List.forall_mem_cons.mp hnx).2⟩) ⟨⟨wm, nm, rfl, ?_⟩, by walk_at "keep"⟩
            rw [List.range_succ, List.foldl_append]
            show IntsAre wm (mendStep ns RG (restsZ RG SS e.toNat) (slopesZ RG) _ i)
            generalize List.foldl (mendStep ns RG (restsZ RG SS e.toNat) (slopesZ RG)) ns (List.range i) = MD at qm ⊢
            unfold mendStep
            rw [hbk, ← pickZ_rev, if_neg (by assumption)]
            exact qm
        · rintro u nx h tk ⟨wm, nm, rfl, qm⟩ F₁ N₁
          walk_at "my_steps"
          rename Fr h₀ L _ m => kF
          rename News h₀ L _ _ => kN
          refine hret _ _ D0 wm nm kF (news_sub kN (by walk_at "sub")) ?_ ?_
          · exact allLt_lt l10.2.2.2.2.2.2.2.2
          · unfold mendedZ
            rw [hSS, hRG, ← hvl]
            exact qm

end Mine
end

theorem Mine.anew_WX : 1 = 1 := by
  w_top off
  first | walk1 | rfl

/-! part WX -/
section
open PySem PySem.W PyProof.Rows PySem.Calls PySem.Spec
set_option Elab.async false
namespace Mine
set_option maxRecDepth 100000
section
variable {prog : Program} {w : World} {A : Around} {E : Value → Shared → Prop} {s : Shared} {h₀ : Heap} {L D : Addr} {m : Str → Option Value} {news news' : List (Addr × Obj)} {vs : List Value} {ns : List Int} {n : Nat} {x : Int} {t : Tok}
theorem append_LI {Q : Value → Shared → Prop} (F : Fr h₀ L s.heap m) (N : News h₀ L s.heap news) (U : Upd D (W.listOf vs.toArray n) (W.listOf (vs ++ [Value.int x t]).toArray (n + 1)) news news') (hsz : vs.length ≤ 100000) (hi : IntsAre vs ns)
    (h : ∀ h', Fr h₀ L h' m → News h₀ L h' news' → IntsAre (vs ++ [Value.int x t]) (ns ++ [x]) → Q .none { s with heap := h' }) : wpAny (model prog w) A (call (.builtin "list.append") [.ref D, .int x t]) Q E s :=
  append_L F N U hsz fun h' F' N' => h h' F' N' (ints_snoc hi)
end
def putBitZ (ns : List Int) (len : Int) (bit : Bool) : List Int :=
  let w := if (ns.length : Int) ≤ len.fdiv 8 then ns ++ [0] else ns
  if bit = true then w.set (len.fdiv 8).toNat (Builtin.bitOr (w.getD (len.fdiv 8).toNat 0) ((128 : Int).fdiv (2 ^ (len.fmod 8).toNat))) else w
theorem putBit_tt {ns : List Int} {len : Int} {bit : Bool} (h1 : (ns.length : Int) ≤ len.fdiv 8) (h2 : bit = true) : putBitZ ns len bit = (ns ++ [0]).set (len.fdiv 8).toNat (Builtin.bitOr ((ns ++ [0]).getD (len.fdiv 8).toNat 0) ((128 : Int).fdiv (2 ^ (len.fmod 8).toNat))) := by
  unfold putBitZ; rw [if_pos h1, if_pos h2]
theorem putBit_tf {ns : List Int} {len : Int} {bit : Bool} (h1 : (ns.length : Int) ≤ len.fdiv 8) (h2 : bit = false) : putBitZ ns len bit = ns ++ [0] := by
  unfold putBitZ; rw [if_pos h1, if_neg (by rw [h2]; decide)]
theorem putBit_ft {ns : List Int} {len : Int} {bit : Bool} (h1 : ¬ (ns.length : Int) ≤ len.fdiv 8) (h2 : bit = true) : putBitZ ns len bit = ns.set (len.fdiv 8).toNat (Builtin.bitOr (ns.getD (len.fdiv 8).toNat 0) ((128 : Int).fdiv (2 ^ (len.fmod 8).toNat))) := by
  unfold putBitZ; rw [if_neg h1, if_pos h2]
theorem putBit_ff {ns : List Int} {len : Int} {bit : Bool} (h1 : ¬ (ns.length : Int) ≤ len.fdiv 8) (h2 : bit = false) : putBitZ ns len bit = ns := by
  unfold putBitZ; rw [if_neg h1, if_neg (by rw [h2]; decide)]
/-- the bits of a word, put one by one -/
def putZ (ns : List Int) (len num : Int) (k : Nat) : List Int := (List.range k).foldl (fun w (i : Nat) => putBitZ w (len + (i : Int)) (decide (Builtin.bitAnd (num.fdiv (2 ^ (8 - (i : Int) - 1).toNat)) 1 = 1))) ns
theorem putBit_len {ns : List Int} {len : Int} {bit : Bool} (h0 : 0 ≤ len) (h : (ns.length : Int) = (len + 7) / 8) : ((putBitZ ns len bit).length : Int) = (len + 1 + 7) / 8 := by
  have e : len.fdiv 8 = len / 8 := Int.fdiv_eq_ediv_of_nonneg len (by decide)
  unfold putBitZ
  rw [e]
  dsimp only
  split <;> split <;> (try rw [List.length_set]) <;> (try rw [List.length_append]) <;> (try simp only [List.length_cons, List.length_nil]) <;> omega
theorem putZ_succ (ns : List Int) (len num : Int) (i : Nat) : putZ ns len num (i + 1) = putBitZ (putZ ns len num i) (len + (i : Int)) (decide (Builtin.bitAnd (num.fdiv (2 ^ (8 - (i : Int) - 1).toNat)) 1 = 1)) := by
  unfold putZ; rw [List.range_succ, List.foldl_append]; rfl
end Mine
end

theorem Mine.anew_W10 : 1 = 1 := by
  w_top off
  first | walk1 | rfl

/-! part W10 -/
section
open PySem PySem.W PyProof.Rows PySem.Calls PySem.Spec
set_option Elab.async false
namespace Mine
set_option maxRecDepth 100000
theorem fill_W10 {w : World} {h : Heap} : (hd.heap_39 w.params).In h → Challenge.rw_bj0062_01.row.prog = Challenge.rw_bj0062_01.row.prog := by
  k_fill
  intro _
  rfl
local macro_rules | `(tactic| walk_at "my_enter") => `(tactic| (refine wpAny_call ?_; k_dflt (refine' code_def ?k1 ?k2 ?k3 ?k4 ?k5 ?kA ?kF ?kK ?k6 ?k7 ?k8 ?k9 ?kB ?_ ?c2 ?c3 ?c4 ?c5; (case kA => exact rfl); (case kF => assumption); (case kK => assumption); (case k1 => k_asm); (case k2 => k_asm); (case k3 => k_asm); (case k4 => k_asm); (case k5 => k_asm); (case k6 => k_is); (case k7 => k_is); (case k8 => walk_at "room"); (case k9 => exact BindsTo.of_eq rfl); (case c5 => decide); (case kB => exact locs rfl); (case c2 => exact rfl); (case c3 => exact rfl); (case c4 => exact rfl); k_whole; intro g' L' h' FG' F' N' B' X' T'; (try dsimp only); (try k_fold))))
local macro_rules | `(tactic| walk_at "my_steps") => `(tactic| repeat' (first | (k_unfold; (try dsimp only)) | walk1 | (dsimp only; walk1)))
local macro_rules | `(tactic| walk_at "setItem ref int") => `(tactic| (k_here; (with_reducible show wpAny _ _ (setItem (Value.ref _) (Value.int _ _) _) _ _ _); k_dflt (refine' set_listK ?k1 ?k2 ?k3 ?k5 ?k6 ?k7 ?_; (case k1 => k_asm); (case k2 => k_asm); (case k3 => k_upd); (case k5 => first | omega | ksa_idx); (case k6 => first | omega | (simp; done) | (simp; omega)); (case k7 => first | omega | ksa_idx); k_whole); intro h' F' N'; (try k_sweep)))
local macro_rules | `(tactic| k_ne) => `(tactic| first | assumption | exact Ne.symm (by assumption) | (refine neN ?_; (try dsimp only); omega))
local macro_rules | `(tactic| k_all) => `(tactic| first | assumption | exact lt_all_ne (by assumption) | exact lt_all_sub (by assumption) (by walk_at "sub") | exact ne_all_sub (by assumption) (by walk_at "sub") | exact allLt_ne (by assumption) | exact allLt_ne (And.right (by assumption)) | exact allLt_ne (And.right (And.right (by assumption))) | exact allLt_ne (And.right (And.right (And.right (by assumption)))) | exact allLt_ne (And.right (And.right (And.right (And.right (by assumption))))) | exact allLt_ne (And.right (And.right (And.right (And.right (And.right (by assumption)))))) | exact allLt_ne (And.right (And.right (And.right (And.right (And.right (And.right (by assumption))))))) | exact allLt_ne (And.right (And.right (And.right (And.right (And.right (And.right (And.right (by assumption)))))))) | exact allLt_ne (And.right (And.right (And.right (And.right (And.right (And.right (And.right (And.right (by assumption))))))))) | exact allLt_ne (And.right (And.right (And.right (And.right (And.right (And.right (And.right (And.right (And.right (by assumption)))))))))) | exact lt_all_off (by assumption) (by omega) | exact off1_sub (by assumption) (by walk_at "sub") | exact List.forall_mem_nil _ | (refine' List.forall_mem_cons.mpr ⟨?a, ?b⟩; (case a => k_ne); (case b => k_all)))
local macro_rules | `(tactic| walk_at "call builtin:list.append") => `(tactic| (k_here; (with_reducible show wpAny _ _ (call (Value.builtin "list.append") [Value.ref _, _]) _ _ _); k_dflt (refine' append_L ?k1 ?k2 ?k3 ?k4 ?_; (case k1 => k_asm); (case k2 => k_asm); (case k3 => k_upd); (case k4 => walk_at "lens"); k_whole); intro h' F' N'; (try k_sweep)))
local macro_rules | `(tactic| walk_at "lens") => `(tactic| first | assumption | omega | (simp only [List.length_append, List.length_cons, List.length_nil, List.length_map, List.length_range, List.length_replicate, List.length_set]; omega))
local macro_rules | `(tactic| walk_at "ints") => `(tactic| first | omega | (simp only [decide_eq_true_eq, decide_eq_false_iff_not, Bool.not_eq_true, beq_iff_eq, beq_eq_false_iff_ne, ne_eq] at *; omega) | (trace_state; fail "ints"))
local macro_rules | `(tactic| walk_at "fld_in") => `(tactic| first | assumption | exact FieldIn.tail (by assumption) | exact FieldIn.tail (FieldIn.tail (by assumption)) | exact FieldIn.tail (FieldIn.tail (FieldIn.tail (by assumption))) | exact FieldIn.tail (FieldIn.tail (FieldIn.tail (FieldIn.tail (by assumption)))) | exact FieldIn.tail (FieldIn.tail (FieldIn.tail (FieldIn.tail (FieldIn.tail (by assumption))))) | exact FieldIn.tail (FieldIn.tail (FieldIn.tail (FieldIn.tail (FieldIn.tail (FieldIn.tail (by assumption)))))) | exact FieldIn.tail (FieldIn.tail (FieldIn.tail (FieldIn.tail (FieldIn.tail (FieldIn.tail (FieldIn.tail (by assumption))))))) | exact FieldIn.tail (FieldIn.tail (FieldIn.tail (FieldIn.tail (FieldIn.tail (FieldIn.tail (FieldIn.tail (FieldIn.tail (by assumption)))))))) | exact FieldIn.tail (FieldIn.tail (FieldIn.tail (FieldIn.tail (FieldIn.tail (FieldIn.tail (FieldIn.tail (FieldIn.tail (FieldIn.tail (by assumption))))))))) | exact FieldIn.tail (FieldIn.tail (FieldIn.tail (FieldIn.tail (FieldIn.tail (FieldIn.tail (FieldIn.tail (FieldIn.tail (FieldIn.tail (FieldIn.tail (by assumption)))))))))) | exact FieldIn.tail (FieldIn.tail (FieldIn.tail (FieldIn.tail (FieldIn.tail (FieldIn.tail (FieldIn.tail (FieldIn.tail (FieldIn.tail (FieldIn.tail (FieldIn.tail (by assumption))))))))))) | exact FieldIn.tail (FieldIn.tail (FieldIn.tail (FieldIn.tail (FieldIn.tail (FieldIn.tail (FieldIn.tail (FieldIn.tail (FieldIn.tail (FieldIn.tail (FieldIn.tail (FieldIn.tail (by assumption)))))))))))))
local macro_rules | `(tactic| k_mem) => `(tactic| first | assumption | exact List.Mem.head _ | (refine' List.Mem.tail _ ?_; k_mem))
local macro_rules | `(tactic| walk_at "subscriptTail") => `(tactic| (k_here; (with_reducible show wpAny _ _ (subscriptTail _ _ (Value.ref _) (Value.int 0 _)) _ _ _); k_dflt (refine' fld_0 ?k1 ?k2 ?_ ?k4; (case k1 => k_asm); (case k2 => walk_at "fld_in"); (case k4 => with_unfolding_all rfl); k_whole)))
local macro_rules | `(tactic| walk_at "subscriptTail Name Constant ref int") => `(tactic| (k_here; (with_reducible show wpAny _ _ (subscriptTail _ _ (Value.ref _) (Value.int 0 _)) _ _ _); k_dflt (refine' fld_0 ?k1 ?k2 ?_ ?k4; (case k1 => k_asm); (case k2 => walk_at "fld_in"); (case k4 => with_unfolding_all rfl); k_whole)))
local macro_rules | `(tactic| walk_at "subscriptTail") => `(tactic| (k_here; (with_reducible show wpAny _ _ (subscriptTail _ _ (Value.ref _) (Value.int 1 _)) _ _ _); k_dflt (refine' fld_1 ?k1 ?k2 ?_ ?k4; (case k1 => k_asm); (case k2 => walk_at "fld_in"); (case k4 => with_unfolding_all rfl); k_whole)))
local macro_rules | `(tactic| walk_at "subscriptTail Name Constant ref int") => `(tactic| (k_here; (with_reducible show wpAny _ _ (subscriptTail _ _ (Value.ref _) (Value.int 1 _)) _ _ _); k_dflt (refine' fld_1 ?k1 ?k2 ?_ ?k4; (case k1 => k_asm); (case k2 => walk_at "fld_in"); (case k4 => with_unfolding_all rfl); k_whole)))
local macro_rules | `(tactic| walk_at "subscriptTail") => `(tactic| (k_here; (with_reducible show wpAny _ _ (subscriptTail _ _ (Value.ref _) (Value.int _ _)) _ _ _); k_dflt (refine' fld_pow ?k1 ?k2 ?k5 ?k6 ?_ ?k4; (case k1 => k_asm); (case k2 => walk_at "fld_in"); (case k5 => first | omega | exact (fmod255 _).1); (case k6 => first | omega | exact (fmod255 _).2); (case k4 => with_unfolding_all rfl); k_whole); intro _))
local macro_rules | `(tactic| walk_at "subscriptTail Subscript Name Constant BinOp ref int") => `(tactic| (k_here; (with_reducible show wpAny _ _ (subscriptTail _ _ (Value.ref _) (Value.int _ _)) _ _ _); k_dflt (refine' fld_pow ?k1 ?k2 ?k5 ?k6 ?_ ?k4; (case k1 => k_asm); (case k2 => walk_at "fld_in"); (case k5 => first | omega | exact (fmod255 _).1); (case k6 => first | omega | exact (fmod255 _).2); (case k4 => with_unfolding_all rfl); k_whole); intro _))
local macro_rules | `(tactic| walk_at "subscriptTail Subscript Name Constant Name ref int") => `(tactic| (k_here; (with_reducible show wpAny _ _ (subscriptTail _ _ (Value.ref _) (Value.int _ _)) _ _ _); k_dflt (refine' fld_pow ?k1 ?k2 ?k5 ?k6 ?_ ?k4; (case k1 => k_asm); (case k2 => walk_at "fld_in"); (case k5 => first | omega | exact (fmod255 _).1); (case k6 => first | omega | exact (fmod255 _).2); (case k4 => with_unfolding_all rfl); k_whole); intro _))
local macro_rules | `(tactic| walk_at "subscriptTail Subscript Name Constant Subscript ref int") => `(tactic| (k_here; (with_reducible show wpAny _ _ (subscriptTail _ _ (Value.ref _) (Value.int _ _)) _ _ _); k_dflt (refine' fld_pow ?k1 ?k2 ?k5 ?k6 ?_ ?k4; (case k1 => k_asm); (case k2 => walk_at "fld_in"); (case k5 => first | omega | exact (fmod255 _).1); (case k6 => first | omega | exact (fmod255 _).2); (case k4 => with_unfolding_all rfl); k_whole); intro _))
local macro_rules | `(tactic| walk_at "subscriptTail") => `(tactic| (k_here; (with_reducible show wpAny _ _ (subscriptTail _ _ (Value.ref _) (Value.int _ _)) _ _ _); k_dflt (refine' fld_log ?k1 ?k2 ?k5 ?k6 ?_ ?k4; (case k1 => k_asm); (case k2 => walk_at "fld_in"); (case k5 => walk_at "ints"); (case k6 => walk_at "ints"); (case k4 => with_unfolding_all rfl); k_whole); intro _))
local macro_rules | `(tactic| walk_at "subscriptTail Subscript Name Constant BinOp ref int") => `(tactic| (k_here; (with_reducible show wpAny _ _ (subscriptTail _ _ (Value.ref _) (Value.int _ _)) _ _ _); k_dflt (refine' fld_log ?k1 ?k2 ?k5 ?k6 ?_ ?k4; (case k1 => k_asm); (case k2 => walk_at "fld_in"); (case k5 => walk_at "ints"); (case k6 => walk_at "ints"); (case k4 => with_unfolding_all rfl); k_whole); intro _))
local macro_rules | `(tactic| walk_at "subscriptTail Subscript Name Constant Name ref int") => `(tactic| (k_here; (with_reducible show wpAny _ _ (subscriptTail _ _ (Value.ref _) (Value.int _ _)) _ _ _); k_dflt (refine' fld_log ?k1 ?k2 ?k5 ?k6 ?_ ?k4; (case k1 => k_asm); (case k2 => walk_at "fld_in"); (case k5 => walk_at "ints"); (case k6 => walk_at "ints"); (case k4 => with_unfolding_all rfl); k_whole); intro _))
local macro_rules | `(tactic| walk_at "subscriptTail Subscript Name Constant Subscript ref int") => `(tactic| (k_here; (with_reducible show wpAny _ _ (subscriptTail _ _ (Value.ref _) (Value.int _ _)) _ _ _); k_dflt (refine' fld_log ?k1 ?k2 ?k5 ?k6 ?_ ?k4; (case k1 => k_asm); (case k2 => walk_at "fld_in"); (case k5 => walk_at "ints"); (case k6 => walk_at "ints"); (case k4 => with_unfolding_all rfl); k_whole); intro _))

local macro_rules | `(tactic| walk_at "pyIter ref") => `(tactic| ((with_reducible show wpAny _ _ (pyIter (Value.ref _)) (fun it s₂ => LoopAtV _ _ _ _ _ _ _ _ _ it s₂) _ _); refine Stopped.out ?_))
local macro_rules | `(tactic| walk_at "exec For Name Call cons nil") => `(tactic| (k_here; (rename Fr _ _ _ _ => lF'); (with_unfolding_all refine' For_invVF lF' ?k1 ?k2 ?_; (case k1 => exact rfl); (case k2 => exact rfl); k_whole)))
local macro_rules | `(tactic| walk_at "exec For Name Name cons nil") => `(tactic| (k_here; (rename Fr _ _ _ _ => lF'); (with_unfolding_all refine' For_invVF lF' ?k1 ?k2 ?_; (case k1 => exact rfl); (case k2 => exact rfl); k_whole)))
local macro_rules | `(tactic| walk_at "call type:range") => `(tactic| (k_here; (with_reducible show wpAny _ _ (call (Value.type "range") [Value.int _ _]) _ _ _); k_dflt (refine' range1_K ?k1 ?k2 ?_; (case k1 => k_asm); (case k2 => k_asm); k_whole); intro r' h' u' v' tk' F' N' R'; (try k_sweep)))
local macro_rules | `(tactic| walk_at "call type:range") => `(tactic| (k_here; (with_reducible show wpAny _ _ (call (Value.type "range") [Value.int _ _, Value.int _ _]) _ _ _); k_dflt (refine' range2_K ?k1 ?k2 ?_; (case k1 => k_asm); (case k2 => k_asm); k_whole); intro r' h' v' tk' F' N' R'; (try k_sweep)))
local macro_rules | `(tactic| walk_at "room") => `(tactic| first | assumption | omega | ((simp only [depth_in1, depth_deeper, units_in1, units_deeper, Around.mark_units]); omega))

local macro_rules | `(tactic| is_list) => `(tactic| (refine' isList_of ?a ?b; (case a => k_asm); (case b => k_mem)))
local macro_rules | `(tactic| walk_at "call builtin:len") => `(tactic| (k_here; (with_reducible show wpAny _ _ (call (Value.builtin "len") [Value.ref _]) _ _ _); k_dflt (refine' len_L ?k2 ?k3 ?k4 ?_; (case k2 => k_asm); (case k3 => k_mem); (case k4 => walk_at "lens"); k_whole); intro t' tk'; (try k_sweep)))
local macro_rules | `(tactic| walk_at "binaryOp Add ref ref") => `(tactic| (k_here; (with_reducible show wpAny _ _ (binaryOp Operator.Add (Value.ref _) (Value.ref _)) _ _ _); k_dflt (refine' add_L ?k1 ?k2 ?k3 ?k4 ?k5 ?_; (case k1 => k_asm); (case k2 => k_asm); (case k3 => k_mem); (case k4 => k_mem); (case k5 => walk_at "lens"); k_whole); intro r' h' F' N' hl'; (have hl2' := hl'); (try k_lt hl2'); (try k_sweep)))

local macro_rules | `(tactic| walk_at "sub") => `(tactic| first | (refine' List.forall_mem_cons.mpr ⟨?a, ?b⟩; (case a => k_mem); (case b => walk_at "sub")) | (intro p hp; k_mem))

local macro_rules | `(tactic| walk_at "keep") => `(tactic| first | exact keep_base | exact keep_refl | (refine keep_x ?_; walk_at "keep") | (refine keep_upd (by decide) ?_; walk_at "keep") | (refine keep_in (by decide) ?_; walk_at "keep"))

local macro_rules | `(tactic| walk_at "CompSrc") => `(tactic| refine Stopped.out ?_)
local macro_rules | `(tactic| walk_at "my_enterC") => `(tactic| (refine wpAny_call ?_; k_dflt (refine' code_defC ?k1 ?k2 ?k3 ?k4 ?k5 ?kA ?kF ?kK ?k6 ?k7 ?k8 ?k9 ?kB ?kD ?_ ?c2 ?c3 ?c4; (case kA => exact rfl); (case kF => assumption); (case kK => assumption); (case k1 => k_asm); (case k2 => k_asm); (case k3 => k_asm); (case k4 => k_asm); (case k5 => k_asm); (case k6 => k_is); (case k7 => k_is); (case k8 => walk_at "room"); (case k9 => exact BindsTo.of_eq rfl); (case kB => exact rfl); (case kD => decide +kernel); (case c2 => exact rfl); (case c3 => exact rfl); (case c4 => exact rfl); k_whole; intro g' L' h' tk' cells' FG' F' N' Y' B' X' T' l1; k_cells Y'; (try simp only [List.cons_append, List.nil_append] at N'); (try dsimp only); (try k_fold))))

local macro_rules | `(tactic| walk_at "subscriptTail Name Slice ref ref") => `(tactic| (k_here; (with_reducible show wpAny _ _ (subscriptTail _ (PySem.Expr.Slice _ _ _ _) (Value.ref _) (Value.ref _)) _ _ _); k_dflt (refine' slice_LI ?zF ?zN ?zl ?zi ?zp ?zq ?zk ?zo ?zz ?_ ?zs; (case zF => k_asm); (case zN => k_asm); (case zl => k_mem); (case zi => assumption); (case zp => kmk_part); (case zq => kmk_part); (case zk => kmk_part); (case zo => decide); (case zz => walk_at "lens"); (case zs => with_unfolding_all rfl)); intro D' ws' h' F' N' l1 hI' hL'; (have l2' := l1); (try k_lt l2'); (try k_sweep)))
local macro_rules | `(tactic| walk_at "subscriptTail ListComp Slice ref ref") => `(tactic| (k_here; (with_reducible show wpAny _ _ (subscriptTail _ (PySem.Expr.Slice _ _ _ _) (Value.ref _) (Value.ref _)) _ _ _); k_dflt (refine' slice_LI ?zF ?zN ?zl ?zi ?zp ?zq ?zk ?zo ?zz ?_ ?zs; (case zF => k_asm); (case zN => k_asm); (case zl => k_mem); (case zi => assumption); (case zp => kmk_part); (case zq => kmk_part); (case zk => kmk_part); (case zo => decide); (case zz => walk_at "lens"); (case zs => with_unfolding_all rfl)); intro D' ws' h' F' N' l1 hI' hL'; (have l2' := l1); (try k_lt l2'); (try k_sweep)))
local macro_rules | `(tactic| walk_at "subscriptTail Subscript Slice ref ref") => `(tactic| (k_here; (with_reducible show wpAny _ _ (subscriptTail _ (PySem.Expr.Slice _ _ _ _) (Value.ref _) (Value.ref _)) _ _ _); k_dflt (refine' slice_LI ?zF ?zN ?zl ?zi ?zp ?zq ?zk ?zo ?zz ?_ ?zs; (case zF => k_asm); (case zN => k_asm); (case zl => k_mem); (case zi => assumption); (case zp => kmk_part); (case zq => kmk_part); (case zk => kmk_part); (case zo => decide); (case zz => walk_at "lens"); (case zs => with_unfolding_all rfl)); intro D' ws' h' F' N' l1 hI' hL'; (have l2' := l1); (try k_lt l2'); (try k_sweep)))
local macro_rules | `(tactic| walk_at "subscriptTail Attribute Slice ref ref") => `(tactic| (k_here; (with_reducible show wpAny _ _ (subscriptTail _ (PySem.Expr.Slice _ _ _ _) (Value.ref _) (Value.ref _)) _ _ _); k_dflt (refine' slice_LI ?zF ?zN ?zl ?zi ?zp ?zq ?zk ?zo ?zz ?_ ?zs; (case zF => k_asm); (case zN => k_asm); (case zl => k_mem); (case zi => assumption); (case zp => kmk_part); (case zq => kmk_part); (case zk => kmk_part); (case zo => decide); (case zz => walk_at "lens"); (case zs => with_unfolding_all rfl)); intro D' ws' h' F' N' l1 hI' hL'; (have l2' := l1); (try k_lt l2'); (try k_sweep)))
local macro_rules | `(tactic| walk_at "subscriptTail Name Name ref ref") => `(tactic| (k_here; (with_reducible show wpAny _ _ (subscriptTail _ _ (Value.ref _) (Value.ref _)) _ _ _); k_dflt (refine' slice_LI ?zF ?zN ?zl ?zi ?zp ?zq ?zk ?zo ?zz ?_ ?zs; (case zF => k_asm); (case zN => k_asm); (case zl => k_mem); (case zi => assumption); (case zp => kmk_part); (case zq => kmk_part); (case zk => kmk_part); (case zo => decide); (case zz => walk_at "lens"); (case zs => with_unfolding_all rfl)); intro D' ws' h' F' N' l1 hI' hL'; (have l2' := l1); (try k_lt l2'); (try k_sweep)))
local macro_rules | `(tactic| walk_at "subscriptTail Attribute Name ref ref") => `(tactic| (k_here; (with_reducible show wpAny _ _ (subscriptTail _ _ (Value.ref _) (Value.ref _)) _ _ _); k_dflt (refine' slice_LI ?zF ?zN ?zl ?zi ?zp ?zq ?zk ?zo ?zz ?_ ?zs; (case zF => k_asm); (case zN => k_asm); (case zl => k_mem); (case zi => assumption); (case zp => kmk_part); (case zq => kmk_part); (case zk => kmk_part); (case zo => decide); (case zz => walk_at "lens"); (case zs => with_unfolding_all rfl)); intro D' ws' h' F' N' l1 hI' hL'; (have l2' := l1); (try k_lt l2'); (try k_sweep)))

variable {w : World} {mean : ExcName → Option Value} {mg mb : Str → Option Value} {dp un : Nat} {gd : Option (List Code)} {A₀ : Around} {base h₀ : Heap} {env : Env} {outer : List Env} {L : Addr} {m : Str → Option Value} {s : Shared} {Q E : Value → Shared → Prop}
local macro_rules | `(tactic| walk_at "call builtin:list.append") => `(tactic| (k_here; (with_reducible show wpAny _ _ (call (Value.builtin "list.append") [Value.ref _, Value.int _ _]) _ _ _); k_dflt (refine' append_LI ?k1 ?k2 ?k3 ?k4 ?k5 ?_; (case k1 => k_asm); (case k2 => k_asm); (case k3 => k_upd); (case k4 => walk_at "lens"); (case k5 => assumption); k_whole); intro h' F' N' hI'; (try k_sweep)))

set_option maxHeartbeats 4000000 in
theorem putbit_call {rest : List (Addr × Obj)} {x dx b : Addr} {vs : List Value} {ns : List Int} {n : Nat} {len : Int} {k1 k2 tl : Tok} {bit : Bool}
  (B : Below A₀ base outer h₀) (F : Fr h₀ L s.heap m) (X : (hd.heap_39 w.params).In h₀)
  (N : News h₀ L s.heap ((x, instObj 269 dx) :: (dx, W.dictOf [⟨PyData.keyHash w.params (Str.ofString "buffer"), .str (Str.ofString "buffer") k1, .ref b⟩, ⟨PyData.keyHash w.params (Str.ofString "length"), .str (Str.ofString "length") k2, .int len tl⟩] 2) :: (b, W.listOf vs.toArray n) :: rest)) (T : TopM mean mg mb h₀)
  (hf : env.frame = some L) (hk : env.scope.kind = .function) (hroom : dp + 1 < recursionLimit) (hun : un + 8 < cLine)
  (hi : IntsAre vs ns) (h0 : 0 ≤ len) (h1 : len ≤ 1000) (h2 : (ns.length : Int) = (len + 7) / 8)
  (hxd : @Ne Nat x dx) (hxb : @Ne Nat x b) (hdb : @Ne Nat dx b) (hr1 : ∀ p ∈ rest, p.1 ≠ dx) (hr2 : ∀ p ∈ rest, p.1 ≠ b)
  (hret : ∀ (h' : Heap) (tk' : Nat) (vs' : List Value) (n' : Nat) (t' : Tok), Fr h₀ L h' m → News h₀ L h' ((x, instObj 269 dx) :: (dx, W.dictOf [⟨PyData.keyHash w.params (Str.ofString "buffer"), .str (Str.ofString "buffer") k1, .ref b⟩, ⟨PyData.keyHash w.params (Str.ofString "length"), .str (Str.ofString "length") k2, .int (len + 1) t'⟩] 2) :: (b, W.listOf vs'.toArray n') :: rest) → IntsAre vs' (putBitZ ns len bit) → Q .none { s with heap := h', toks := tk' }) :
  wpAny (model PP w) (AA dp un gd env outer) (call (.ref 266) [.ref x, .bool bit]) Q E s := by
  have hvl := hi.length
  walk_at "my_enter"
  walk_at "my_steps"
  all_goals (rename Fr h₀ L _ m => kF; rename News h₀ L _ _ => kN)
  · exact hret _ _ _ _ _ kF kN (by rw [putBit_tt (by omega) (by assumption)]; first | assumption | exact ints_set (by assumption) _)
  · exact hret _ _ _ _ _ kF kN (by rw [putBit_tf (by omega) (by assumption)]; assumption)
  · exact hret _ _ _ _ _ kF kN (by rw [putBit_ft (by omega) (by assumption)]; first | assumption | exact ints_set (by assumption) _)
  · exact hret _ _ _ _ _ kF kN (by rw [putBit_ff (by omega) (by assumption)]; assumption)

end Mine
end

theorem Mine.anew_W11 : 1 = 1 := by
  w_top off
  first | walk1 | rfl

/-! part W11 -/
section
open PySem PySem.W PyProof.Rows PySem.Calls PySem.Spec
set_option Elab.async false
namespace Mine
set_option maxRecDepth 100000
theorem fill_W11 {w : World} {h : Heap} : (hd.heap_39 w.params).In h → Challenge.rw_bj0062_01.row.prog = Challenge.rw_bj0062_01.row.prog := by
  k_fill
  intro _
  rfl
local macro_rules | `(tactic| walk_at "my_enter") => `(tactic| (refine wpAny_call ?_; k_dflt (refine' code_def ?k1 ?k2 ?k3 ?k4 ?k5 ?kA ?kF ?kK ?k6 ?k7 ?k8 ?k9 ?kB ?_ ?c2 ?c3 ?c4 ?c5; (case kA => exact rfl); (case kF => assumption); (case kK => assumption); (case k1 => k_asm); (case k2 => k_asm); (case k3 => k_asm); (case k4 => k_asm); (case k5 => k_asm); (case k6 => k_is); (case k7 => k_is); (case k8 => walk_at "room"); (case k9 => exact BindsTo.of_eq rfl); (case c5 => decide); (case kB => exact locs rfl); (case c2 => exact rfl); (case c3 => exact rfl); (case c4 => exact rfl); k_whole; intro g' L' h' FG' F' N' B' X' T'; (try dsimp only); (try k_fold))))
local macro_rules | `(tactic| walk_at "my_steps") => `(tactic| repeat' (first | (k_unfold; (try dsimp only)) | walk1 | (dsimp only; walk1)))
local macro_rules | `(tactic| walk_at "setItem ref int") => `(tactic| (k_here; (with_reducible show wpAny _ _ (setItem (Value.ref _) (Value.int _ _) _) _ _ _); k_dflt (refine' set_listK ?k1 ?k2 ?k3 ?k5 ?k6 ?k7 ?_; (case k1 => k_asm); (case k2 => k_asm); (case k3 => k_upd); (case k5 => first | omega | ksa_idx); (case k6 => first | omega | (simp; done) | (simp; omega)); (case k7 => first | omega | ksa_idx); k_whole); intro h' F' N'; (try k_sweep)))
local macro_rules | `(tactic| k_ne) => `(tactic| first | assumption | exact Ne.symm (by assumption) | (refine neN ?_; (try dsimp only); omega))
local macro_rules | `(tactic| k_all) => `(tactic| first | assumption | exact lt_all_ne (by assumption) | exact lt_all_sub (by assumption) (by walk_at "sub") | exact ne_all_sub (by assumption) (by walk_at "sub") | exact allLt_ne (by assumption) | exact allLt_ne (And.right (by assumption)) | exact allLt_ne (And.right (And.right (by assumption))) | exact allLt_ne (And.right (And.right (And.right (by assumption)))) | exact allLt_ne (And.right (And.right (And.right (And.right (by assumption))))) | exact allLt_ne (And.right (And.right (And.right (And.right (And.right (by assumption)))))) | exact allLt_ne (And.right (And.right (And.right (And.right (And.right (And.right (by assumption))))))) | exact allLt_ne (And.right (And.right (And.right (And.right (And.right (And.right (And.right (by assumption)))))))) | exact allLt_ne (And.right (And.right (And.right (And.right (And.right (And.right (And.right (And.right (by assumption))))))))) | exact allLt_ne (And.right (And.right (And.right (And.right (And.right (And.right (And.right (And.right (And.right (by assumption)))))))))) | exact lt_all_off (by assumption) (by omega) | exact off1_sub (by assumption) (by walk_at "sub") | exact List.forall_mem_nil _ | (refine' List.forall_mem_cons.mpr ⟨?a, ?b⟩; (case a => k_ne); (case b => k_all)))
local macro_rules | `(tactic| walk_at "call builtin:list.append") => `(tactic| (k_here; (with_reducible show wpAny _ _ (call (Value.builtin "list.append") [Value.ref _, _]) _ _ _); k_dflt (refine' append_L ?k1 ?k2 ?k3 ?k4 ?_; (case k1 => k_asm); (case k2 => k_asm); (case k3 => k_upd); (case k4 => walk_at "lens"); k_whole); intro h' F' N'; (try k_sweep)))
local macro_rules | `(tactic| walk_at "lens") => `(tactic| first | assumption | omega | (simp only [List.length_append, List.length_cons, List.length_nil, List.length_map, List.length_range, List.length_replicate, List.length_set]; omega))
local macro_rules | `(tactic| walk_at "ints") => `(tactic| first | omega | (simp only [decide_eq_true_eq, decide_eq_false_iff_not, Bool.not_eq_true, beq_iff_eq, beq_eq_false_iff_ne, ne_eq] at *; omega) | (trace_state; fail "ints"))
local macro_rules | `(tactic| walk_at "fld_in") => `(tactic| first | assumption | exact FieldIn.tail (by assumption) | exact FieldIn.tail (FieldIn.tail (by assumption)) | exact FieldIn.tail (FieldIn.tail (FieldIn.tail (by assumption))) | exact FieldIn.tail (FieldIn.tail (FieldIn.tail (FieldIn.tail (by assumption)))) | exact FieldIn.tail (FieldIn.tail (FieldIn.tail (FieldIn.tail (FieldIn.tail (by assumption))))) | exact FieldIn.tail (FieldIn.tail (FieldIn.tail (FieldIn.tail (FieldIn.tail (FieldIn.tail (by assumption)))))) | exact FieldIn.tail (FieldIn.tail (FieldIn.tail (FieldIn.tail (FieldIn.tail (FieldIn.tail (FieldIn.tail (by assumption))))))) | exact FieldIn.tail (FieldIn.tail (FieldIn.tail (FieldIn.tail (FieldIn.tail (FieldIn.tail (FieldIn.tail (FieldIn.tail (by assumption)))))))) | exact FieldIn.tail (FieldIn.tail (FieldIn.tail (FieldIn.tail (FieldIn.tail (FieldIn.tail (FieldIn.tail (FieldIn.tail (FieldIn.tail (by assumption))))))))) | exact FieldIn.tail (FieldIn.tail (FieldIn.tail (FieldIn.tail (FieldIn.tail (FieldIn.tail (FieldIn.tail (FieldIn.tail (FieldIn.tail (FieldIn.tail (by assumption)))))))))) | exact FieldIn.tail (FieldIn.tail (FieldIn.tail (FieldIn.tail (FieldIn.tail (FieldIn.tail (FieldIn.tail (FieldIn.tail (FieldIn.tail (FieldIn.tail (FieldIn.tail (by assumption))))))))))) | exact FieldIn.tail (FieldIn.tail (FieldIn.tail (FieldIn.tail (FieldIn.tail (FieldIn.tail (FieldIn.tail (FieldIn.tail (FieldIn.tail (FieldIn.tail (FieldIn.tail (FieldIn.tail (by assumption)))))))))))))
local macro_rules | `(tactic| k_mem) => `(tactic| first | assumption | exact List.Mem.head _ | (refine' List.Mem.tail _ ?_; k_mem))
local macro_rules | `(tactic| walk_at "subscriptTail") => `(tactic| (k_here; (with_reducible show wpAny _ _ (subscriptTail _ _ (Value.ref _) (Value.int 0 _)) _ _ _); k_dflt (refine' fld_0 ?k1 ?k2 ?_ ?k4; (case k1 => k_asm); (case k2 => walk_at "fld_in"); (case k4 => with_unfolding_all rfl); k_whole)))
local macro_rules | `(tactic| walk_at "subscriptTail Name Constant ref int") => `(tactic| (k_here; (with_reducible show wpAny _ _ (subscriptTail _ _ (Value.ref _) (Value.int 0 _)) _ _ _); k_dflt (refine' fld_0 ?k1 ?k2 ?_ ?k4; (case k1 => k_asm); (case k2 => walk_at "fld_in"); (case k4 => with_unfolding_all rfl); k_whole)))
local macro_rules | `(tactic| walk_at "subscriptTail") => `(tactic| (k_here; (with_reducible show wpAny _ _ (subscriptTail _ _ (Value.ref _) (Value.int 1 _)) _ _ _); k_dflt (refine' fld_1 ?k1 ?k2 ?_ ?k4; (case k1 => k_asm); (case k2 => walk_at "fld_in"); (case k4 => with_unfolding_all rfl); k_whole)))
local macro_rules | `(tactic| walk_at "subscriptTail Name Constant ref int") => `(tactic| (k_here; (with_reducible show wpAny _ _ (subscriptTail _ _ (Value.ref _) (Value.int 1 _)) _ _ _); k_dflt (refine' fld_1 ?k1 ?k2 ?_ ?k4; (case k1 => k_asm); (case k2 => walk_at "fld_in"); (case k4 => with_unfolding_all rfl); k_whole)))
local macro_rules | `(tactic| walk_at "subscriptTail") => `(tactic| (k_here; (with_reducible show wpAny _ _ (subscriptTail _ _ (Value.ref _) (Value.int _ _)) _ _ _); k_dflt (refine' fld_pow ?k1 ?k2 ?k5 ?k6 ?_ ?k4; (case k1 => k_asm); (case k2 => walk_at "fld_in"); (case k5 => first | omega | exact (fmod255 _).1); (case k6 => first | omega | exact (fmod255 _).2); (case k4 => with_unfolding_all rfl); k_whole); intro _))
local macro_rules | `(tactic| walk_at "subscriptTail Subscript Name Constant BinOp ref int") => `(tactic| (k_here; (with_reducible show wpAny _ _ (subscriptTail _ _ (Value.ref _) (Value.int _ _)) _ _ _); k_dflt (refine' fld_pow ?k1 ?k2 ?k5 ?k6 ?_ ?k4; (case k1 => k_asm); (case k2 => walk_at "fld_in"); (case k5 => first | omega | exact (fmod255 _).1); (case k6 => first | omega | exact (fmod255 _).2); (case k4 => with_unfolding_all rfl); k_whole); intro _))
local macro_rules | `(tactic| walk_at "subscriptTail Subscript Name Constant Name ref int") => `(tactic| (k_here; (with_reducible show wpAny _ _ (subscriptTail _ _ (Value.ref _) (Value.int _ _)) _ _ _); k_dflt (refine' fld_pow ?k1 ?k2 ?k5 ?k6 ?_ ?k4; (case k1 => k_asm); (case k2 => walk_at "fld_in"); (case k5 => first | omega | exact (fmod255 _).1); (case k6 => first | omega | exact (fmod255 _).2); (case k4 => with_unfolding_all rfl); k_whole); intro _))
local macro_rules | `(tactic| walk_at "subscriptTail Subscript Name Constant Subscript ref int") => `(tactic| (k_here; (with_reducible show wpAny _ _ (subscriptTail _ _ (Value.ref _) (Value.int _ _)) _ _ _); k_dflt (refine' fld_pow ?k1 ?k2 ?k5 ?k6 ?_ ?k4; (case k1 => k_asm); (case k2 => walk_at "fld_in"); (case k5 => first | omega | exact (fmod255 _).1); (case k6 => first | omega | exact (fmod255 _).2); (case k4 => with_unfolding_all rfl); k_whole); intro _))
local macro_rules | `(tactic| walk_at "subscriptTail") => `(tactic| (k_here; (with_reducible show wpAny _ _ (subscriptTail _ _ (Value.ref _) (Value.int _ _)) _ _ _); k_dflt (refine' fld_log ?k1 ?k2 ?k5 ?k6 ?_ ?k4; (case k1 => k_asm); (case k2 => walk_at "fld_in"); (case k5 => walk_at "ints"); (case k6 => walk_at "ints"); (case k4 => with_unfolding_all rfl); k_whole); intro _))
local macro_rules | `(tactic| walk_at "subscriptTail Subscript Name Constant BinOp ref int") => `(tactic| (k_here; (with_reducible show wpAny _ _ (subscriptTail _ _ (Value.ref _) (Value.int _ _)) _ _ _); k_dflt (refine' fld_log ?k1 ?k2 ?k5 ?k6 ?_ ?k4; (case k1 => k_asm); (case k2 => walk_at "fld_in"); (case k5 => walk_at "ints"); (case k6 => walk_at "ints"); (case k4 => with_unfolding_all rfl); k_whole); intro _))
local macro_rules | `(tactic| walk_at "subscriptTail Subscript Name Constant Name ref int") => `(tactic| (k_here; (with_reducible show wpAny _ _ (subscriptTail _ _ (Value.ref _) (Value.int _ _)) _ _ _); k_dflt (refine' fld_log ?k1 ?k2 ?k5 ?k6 ?_ ?k4; (case k1 => k_asm); (case k2 => walk_at "fld_in"); (case k5 => walk_at "ints"); (case k6 => walk_at "ints"); (case k4 => with_unfolding_all rfl); k_whole); intro _))
local macro_rules | `(tactic| walk_at "subscriptTail Subscript Name Constant Subscript ref int") => `(tactic| (k_here; (with_reducible show wpAny _ _ (subscriptTail _ _ (Value.ref _) (Value.int _ _)) _ _ _); k_dflt (refine' fld_log ?k1 ?k2 ?k5 ?k6 ?_ ?k4; (case k1 => k_asm); (case k2 => walk_at "fld_in"); (case k5 => walk_at "ints"); (case k6 => walk_at "ints"); (case k4 => with_unfolding_all rfl); k_whole); intro _))

local macro_rules | `(tactic| walk_at "pyIter ref") => `(tactic| ((with_reducible show wpAny _ _ (pyIter (Value.ref _)) (fun it s₂ => LoopAtV _ _ _ _ _ _ _ _ _ it s₂) _ _); refine Stopped.out ?_))
local macro_rules | `(tactic| walk_at "exec For Name Call cons nil") => `(tactic| (k_here; (rename Fr _ _ _ _ => lF'); (with_unfolding_all refine' For_invVF lF' ?k1 ?k2 ?_; (case k1 => exact rfl); (case k2 => exact rfl); k_whole)))
local macro_rules | `(tactic| walk_at "exec For Name Name cons nil") => `(tactic| (k_here; (rename Fr _ _ _ _ => lF'); (with_unfolding_all refine' For_invVF lF' ?k1 ?k2 ?_; (case k1 => exact rfl); (case k2 => exact rfl); k_whole)))
local macro_rules | `(tactic| walk_at "call type:range") => `(tactic| (k_here; (with_reducible show wpAny _ _ (call (Value.type "range") [Value.int _ _]) _ _ _); k_dflt (refine' range1_K ?k1 ?k2 ?_; (case k1 => k_asm); (case k2 => k_asm); k_whole); intro r' h' u' v' tk' F' N' R'; (try k_sweep)))
local macro_rules | `(tactic| walk_at "call type:range") => `(tactic| (k_here; (with_reducible show wpAny _ _ (call (Value.type "range") [Value.int _ _, Value.int _ _]) _ _ _); k_dflt (refine' range2_K ?k1 ?k2 ?_; (case k1 => k_asm); (case k2 => k_asm); k_whole); intro r' h' v' tk' F' N' R'; (try k_sweep)))
local macro_rules | `(tactic| walk_at "room") => `(tactic| first | assumption | omega | ((simp only [depth_in1, depth_deeper, units_in1, units_deeper, Around.mark_units]); omega))

local macro_rules | `(tactic| is_list) => `(tactic| (refine' isList_of ?a ?b; (case a => k_asm); (case b => k_mem)))
local macro_rules | `(tactic| walk_at "call builtin:len") => `(tactic| (k_here; (with_reducible show wpAny _ _ (call (Value.builtin "len") [Value.ref _]) _ _ _); k_dflt (refine' len_L ?k2 ?k3 ?k4 ?_; (case k2 => k_asm); (case k3 => k_mem); (case k4 => walk_at "lens"); k_whole); intro t' tk'; (try k_sweep)))
local macro_rules | `(tactic| walk_at "binaryOp Add ref ref") => `(tactic| (k_here; (with_reducible show wpAny _ _ (binaryOp Operator.Add (Value.ref _) (Value.ref _)) _ _ _); k_dflt (refine' add_L ?k1 ?k2 ?k3 ?k4 ?k5 ?_; (case k1 => k_asm); (case k2 => k_asm); (case k3 => k_mem); (case k4 => k_mem); (case k5 => walk_at "lens"); k_whole); intro r' h' F' N' hl'; (have hl2' := hl'); (try k_lt hl2'); (try k_sweep)))

local macro_rules | `(tactic| walk_at "sub") => `(tactic| first | (refine' List.forall_mem_cons.mpr ⟨?a, ?b⟩; (case a => k_mem); (case b => walk_at "sub")) | (intro p hp; k_mem))

local macro_rules | `(tactic| walk_at "keep") => `(tactic| first | exact keep_base | exact keep_refl | (refine keep_x ?_; walk_at "keep") | (refine keep_upd (by decide) ?_; walk_at "keep") | (refine keep_in (by decide) ?_; walk_at "keep"))

local macro_rules | `(tactic| walk_at "CompSrc") => `(tactic| refine Stopped.out ?_)
local macro_rules | `(tactic| walk_at "my_enterC") => `(tactic| (refine wpAny_call ?_; k_dflt (refine' code_defC ?k1 ?k2 ?k3 ?k4 ?k5 ?kA ?kF ?kK ?k6 ?k7 ?k8 ?k9 ?kB ?kD ?_ ?c2 ?c3 ?c4; (case kA => exact rfl); (case kF => assumption); (case kK => assumption); (case k1 => k_asm); (case k2 => k_asm); (case k3 => k_asm); (case k4 => k_asm); (case k5 => k_asm); (case k6 => k_is); (case k7 => k_is); (case k8 => walk_at "room"); (case k9 => exact BindsTo.of_eq rfl); (case kB => exact rfl); (case kD => decide +kernel); (case c2 => exact rfl); (case c3 => exact rfl); (case c4 => exact rfl); k_whole; intro g' L' h' tk' cells' FG' F' N' Y' B' X' T' l1; k_cells Y'; (try simp only [List.cons_append, List.nil_append] at N'); (try dsimp only); (try k_fold))))

local macro_rules | `(tactic| walk_at "subscriptTail Name Slice ref ref") => `(tactic| (k_here; (with_reducible show wpAny _ _ (subscriptTail _ (PySem.Expr.Slice _ _ _ _) (Value.ref _) (Value.ref _)) _ _ _); k_dflt (refine' slice_LI ?zF ?zN ?zl ?zi ?zp ?zq ?zk ?zo ?zz ?_ ?zs; (case zF => k_asm); (case zN => k_asm); (case zl => k_mem); (case zi => assumption); (case zp => kmk_part); (case zq => kmk_part); (case zk => kmk_part); (case zo => decide); (case zz => walk_at "lens"); (case zs => with_unfolding_all rfl)); intro D' ws' h' F' N' l1 hI' hL'; (have l2' := l1); (try k_lt l2'); (try k_sweep)))
local macro_rules | `(tactic| walk_at "subscriptTail ListComp Slice ref ref") => `(tactic| (k_here; (with_reducible show wpAny _ _ (subscriptTail _ (PySem.Expr.Slice _ _ _ _) (Value.ref _) (Value.ref _)) _ _ _); k_dflt (refine' slice_LI ?zF ?zN ?zl ?zi ?zp ?zq ?zk ?zo ?zz ?_ ?zs; (case zF => k_asm); (case zN => k_asm); (case zl => k_mem); (case zi => assumption); (case zp => kmk_part); (case zq => kmk_part); (case zk => kmk_part); (case zo => decide); (case zz => walk_at "lens"); (case zs => with_unfolding_all rfl)); intro D' ws' h' F' N' l1 hI' hL'; (have l2' := l1); (try k_lt l2'); (try k_sweep)))
local macro_rules | `(tactic| walk_at "subscriptTail Subscript Slice ref ref") => `(tactic| (k_here; (with_reducible show wpAny _ _ (subscriptTail _ (PySem.Expr.Slice _ _ _ _) (Value.ref _) (Value.ref _)) _ _ _); k_dflt (refine' slice_LI ?zF ?zN ?zl ?zi ?zp ?zq ?zk ?zo ?zz ?_ ?zs; (case zF => k_asm); (case zN => k_asm); (case zl => k_mem); (case zi => assumption); (case zp => kmk_part); (case zq => kmk_part); (case zk => kmk_part); (case zo => decide); (case zz => walk_at "lens"); (case zs => with_unfolding_all rfl)); intro D' ws' h' F' N' l1 hI' hL'; (have l2' := l1); (try k_lt l2'); (try k_sweep)))
local macro_rules | `(tactic| walk_at "subscriptTail Attribute Slice ref ref") => `(tactic| (k_here; (with_reducible show wpAny _ _ (subscriptTail _ (PySem.Expr.Slice _ _ _ _) (Value.ref _) (Value.ref _)) _ _ _); k_dflt (refine' slice_LI ?zF ?zN ?zl ?zi ?zp ?zq ?zk ?zo ?zz ?_ ?zs; (case zF => k_asm); (case zN => k_asm); (case zl => k_mem); (case zi => assumption); (case zp => kmk_part); (case zq => kmk_part); (case zk => kmk_part); (case zo => decide); (case zz => walk_at "lens"); (case zs => with_unfolding_all rfl)); intro D' ws' h' F' N' l1 hI' hL'; (have l2' := l1); (try k_lt l2'); (try k_sweep)))
local macro_rules | `(tactic| walk_at "subscriptTail Name Name ref ref") => `(tactic| (k_here; (with_reducible show wpAny _ _ (subscriptTail _ _ (Value.ref _) (Value.ref _)) _ _ _); k_dflt (refine' slice_LI ?zF ?zN ?zl ?zi ?zp ?zq ?zk ?zo ?zz ?_ ?zs; (case zF => k_asm); (case zN => k_asm); (case zl => k_mem); (case zi => assumption); (case zp => kmk_part); (case zq => kmk_part); (case zk => kmk_part); (case zo => decide); (case zz => walk_at "lens"); (case zs => with_unfolding_all rfl)); intro D' ws' h' F' N' l1 hI' hL'; (have l2' := l1); (try k_lt l2'); (try k_sweep)))
local macro_rules | `(tactic| walk_at "subscriptTail Attribute Name ref ref") => `(tactic| (k_here; (with_reducible show wpAny _ _ (subscriptTail _ _ (Value.ref _) (Value.ref _)) _ _ _); k_dflt (refine' slice_LI ?zF ?zN ?zl ?zi ?zp ?zq ?zk ?zo ?zz ?_ ?zs; (case zF => k_asm); (case zN => k_asm); (case zl => k_mem); (case zi => assumption); (case zp => kmk_part); (case zq => kmk_part); (case zk => kmk_part); (case zo => decide); (case zz => walk_at "lens"); (case zs => with_unfolding_all rfl)); intro D' ws' h' F' N' l1 hI' hL'; (have l2' := l1); (try k_lt l2'); (try k_sweep)))

variable {w : World} {mean : ExcName → Option Value} {mg mb : Str → Option Value} {dp un : Nat} {gd : Option (List Code)} {A₀ : Around} {base h₀ : Heap} {env : Env} {outer : List Env} {L : Addr} {m : Str → Option Value} {s : Shared} {Q E : Value → Shared → Prop}
local macro_rules | `(tactic| walk_at "call builtin:list.append") => `(tactic| (k_here; (with_reducible show wpAny _ _ (call (Value.builtin "list.append") [Value.ref _, Value.int _ _]) _ _ _); k_dflt (refine' append_LI ?k1 ?k2 ?k3 ?k4 ?k5 ?_; (case k1 => k_asm); (case k2 => k_asm); (case k3 => k_upd); (case k4 => walk_at "lens"); (case k5 => assumption); k_whole); intro h' F' N' hI'; (try k_sweep)))

local macro_rules | `(tactic| walk_at "call ref") => `(tactic| (k_here; (with_reducible show wpAny _ _ (call (Value.ref 266) _) _ _ _); refine Stopped.out ?_))
set_option maxHeartbeats 4000000 in
theorem put_call {rest : List (Addr × Obj)} {x dx b : Addr} {vs : List Value} {ns : List Int} {n : Nat} {len num : Int} {k1 k2 tl tn t8 : Tok}
  (B : Below A₀ base outer h₀) (F : Fr h₀ L s.heap m) (X : (hd.heap_39 w.params).In h₀)
  (N : News h₀ L s.heap ((x, instObj 269 dx) :: (dx, W.dictOf [⟨PyData.keyHash w.params (Str.ofString "buffer"), .str (Str.ofString "buffer") k1, .ref b⟩, ⟨PyData.keyHash w.params (Str.ofString "length"), .str (Str.ofString "length") k2, .int len tl⟩] 2) :: (b, W.listOf vs.toArray n) :: rest)) (T : TopM mean mg mb h₀)
  (hf : env.frame = some L) (hk : env.scope.kind = .function) (hroom : dp + 2 < recursionLimit) (hun : un + 16 < cLine)
  (hi : IntsAre vs ns) (h0 : 0 ≤ len) (h1 : len ≤ 900) (h2 : len = 8 * (ns.length : Int)) (hnum : rng num)
  (hxd : @Ne Nat x dx) (hxb : @Ne Nat x b) (hdb : @Ne Nat dx b) (hr1 : ∀ p ∈ rest, p.1 ≠ dx) (hr2 : ∀ p ∈ rest, p.1 ≠ b)
  (hret : ∀ (h' : Heap) (tk' : Nat) (vs' : List Value) (n' : Nat) (t' : Tok), Fr h₀ L h' m → News h₀ L h' ((x, instObj 269 dx) :: (dx, W.dictOf [⟨PyData.keyHash w.params (Str.ofString "buffer"), .str (Str.ofString "buffer") k1, .ref b⟩, ⟨PyData.keyHash w.params (Str.ofString "length"), .str (Str.ofString "length") k2, .int (len + 8) t'⟩] 2) :: (b, W.listOf vs'.toArray n') :: rest) → IntsAre vs' (putZ ns len num 8) → Q .none { s with heap := h', toks := tk' }) :
  wpAny (model PP w) (AA dp un gd env outer) (call (.ref 252) [.ref x, .int num tn, .int 8 t8]) Q E s := by
  have hvl := hi.length
  walk_at "my_enter"
  walk_at "my_steps"
  refine ⟨?_⟩
  rename IsRange _ _ _ _ _ _ _ _ => R₁
  rename Fr _ _ _ _ => F₁
  rename News _ _ _ _ => N₁
  refine range_loopC 8 ["zz"] (fun i u nx => ∃ vs' n' t', nx = (x, instObj 269 dx) :: (dx, W.dictOf [⟨PyData.keyHash w.params (Str.ofString "buffer"), .str (Str.ofString "buffer") k1, .ref b⟩, ⟨PyData.keyHash w.params (Str.ofString "length"), .str (Str.ofString "length") k2, .int (len + i) t'⟩] 2) :: (b, W.listOf vs'.toArray n') :: rest ∧ IntsAre vs' (putZ ns len num i) ∧ ((putZ ns len num i).length : Int) = (len + i + 7) / 8)
    rfl R₁ (by decide) (by decide) (by decide) (by decide) (by decide) F₁ N₁ ⟨vs, n, tl, by simp, hi, by show (ns.length : Int) = _; omega⟩ ?_ ?_
  · rintro i k t I u nx h tk oi hi1 hkk hnx ⟨vs', n', t', rfl, q1, q2⟩ F₁ N₁
    have hkk : k = (i : Int) := by omega
    subst hkk
    have hn1 : x ≠ I := (List.forall_mem_cons.mp hnx).1
    have hn2 : dx ≠ I := (List.forall_mem_cons.mp (List.forall_mem_cons.mp hnx).2).1
    have hn3 : b ≠ I := (List.forall_mem_cons.mp (List.forall_mem_cons.mp (List.forall_mem_cons.mp hnx).2).2).1
    walk_at "my_steps"
    refine ⟨?_⟩
    k_dflt (refine' putbit_call (rest := (I, oi) :: rest) (x := x) (dx := dx) (b := b) (k1 := k1) (k2 := k2) (tl := t') (ns := putZ ns len num i) ?k1 ?k2 ?k3 ?k4 ?k5 ?k7 ?k8 ?ka ?kb q1 ?q1 ?q2 q2 hxd hxb hdb ?q3 ?q4 ?_)
    (case k1 => k_asm)
    (case k2 => k_asm)
    (case k3 => k_asm)
    (case k4 => exact news_sub (by k_asm) (by walk_at "sub"))
    (case k5 => k_asm)
    (case k7 => exact rfl)
    (case k8 => exact rfl)
    (case ka => walk_at "room")
    (case kb => walk_at "room")
    (case q1 => omega)
    (case q2 => omega)
    (case q3 => exact List.forall_mem_cons.mpr ⟨Ne.symm hn2, hr1⟩)
    (case q4 => exact List.forall_mem_cons.mpr ⟨Ne.symm hn3, hr2⟩)
    intro h9 tk9 vs9 n9 t9 F9 N9 q9
    walk_at "my_steps"
    rename Fr _ _ _ _ => F₂
    rename News _ _ _ _ => N₂
    refine tpost_next F₂ N₂ (by k_mem) (nx := (x, instObj 269 dx) :: (dx, W.dictOf [⟨PyData.keyHash w.params (Str.ofString "buffer"), .str (Str.ofString "buffer") k1, .ref b⟩, ⟨PyData.keyHash w.params (Str.ofString "length"), .str (Str.ofString "length") k2, .int (len + (i : Int) + 1) t9⟩] 2) :: (b, W.listOf vs9.toArray n9) :: rest) (by walk_at "sub") (List.forall_mem_cons.mpr ⟨hn1, List.forall_mem_cons.mpr ⟨hn2, List.forall_mem_cons.mpr ⟨hn3, ?_⟩⟩⟩) ⟨⟨vs9, n9, t9, ?_, ?_, ?_⟩, by walk_at "keep"⟩
    · exact (List.forall_mem_cons.mp (List.forall_mem_cons.mp (List.forall_mem_cons.mp hnx).2).2).2
    · rw [show len + ((i + 1 : Nat) : Int) = len + (i : Int) + 1 by omega]
    · rw [putZ_succ]; exact q9
    · rw [putZ_succ]
      have := putBit_len (bit := decide (Builtin.bitAnd (num.fdiv (2 ^ (8 - (i : Int) - 1).toNat)) 1 = 1)) (by omega) q2
      rw [this]; omega
  · rintro u nx h tk ⟨vs', n', t', rfl, q1, q2⟩ F₁ N₁
    walk_at "my_steps"
    rename Fr h₀ L _ m => kF
    rename News h₀ L _ _ => kN
    exact hret _ _ _ _ _ kF kN q1

end Mine
end

theorem Mine.anew_W12 : 1 = 1 := by
  w_top off
  first | walk1 | rfl

/-! part W12 -/
section
open PySem PySem.W PyProof.Rows PySem.Calls PySem.Spec
set_option Elab.async false
namespace Mine
set_option maxRecDepth 100000
theorem fill_W12 {w : World} {h : Heap} : (hd.heap_39 w.params).In h → Challenge.rw_bj0062_01.row.prog = Challenge.rw_bj0062_01.row.prog := by
  k_fill
  intro _
  rfl
local macro_rules | `(tactic| walk_at "my_enter") => `(tactic| (refine wpAny_call ?_; k_dflt (refine' code_def ?k1 ?k2 ?k3 ?k4 ?k5 ?kA ?kF ?kK ?k6 ?k7 ?k8 ?k9 ?kB ?_ ?c2 ?c3 ?c4 ?c5; (case kA => exact rfl); (case kF => assumption); (case kK => assumption); (case k1 => k_asm); (case k2 => k_asm); (case k3 => k_asm); (case k4 => k_asm); (case k5 => k_asm); (case k6 => k_is); (case k7 => k_is); (case k8 => walk_at "room"); (case k9 => exact BindsTo.of_eq rfl); (case c5 => decide); (case kB => exact locs rfl); (case c2 => exact rfl); (case c3 => exact rfl); (case c4 => exact rfl); k_whole; intro g' L' h' FG' F' N' B' X' T'; (try dsimp only); (try k_fold))))
local macro_rules | `(tactic| walk_at "my_steps") => `(tactic| repeat' (first | (k_unfold; (try dsimp only)) | walk1 | (dsimp only; walk1)))
local macro_rules | `(tactic| walk_at "setItem ref int") => `(tactic| (k_here; (with_reducible show wpAny _ _ (setItem (Value.ref _) (Value.int _ _) _) _ _ _); k_dflt (refine' set_listK ?k1 ?k2 ?k3 ?k5 ?k6 ?k7 ?_; (case k1 => k_asm); (case k2 => k_asm); (case k3 => k_upd); (case k5 => first | omega | ksa_idx); (case k6 => first | omega | (simp; done) | (simp; omega)); (case k7 => first | omega | ksa_idx); k_whole); intro h' F' N'; (try k_sweep)))
local macro_rules | `(tactic| k_ne) => `(tactic| first | assumption | exact Ne.symm (by assumption) | (refine neN ?_; (try dsimp only); omega))
local macro_rules | `(tactic| k_all) => `(tactic| first | assumption | exact lt_all_ne (by assumption) | exact lt_all_sub (by assumption) (by walk_at "sub") | exact ne_all_sub (by assumption) (by walk_at "sub") | exact allLt_ne (by assumption) | exact allLt_ne (And.right (by assumption)) | exact allLt_ne (And.right (And.right (by assumption))) | exact allLt_ne (And.right (And.right (And.right (by assumption)))) | exact allLt_ne (And.right (And.right (And.right (And.right (by assumption))))) | exact allLt_ne (And.right (And.right (And.right (And.right (And.right (by assumption)))))) | exact allLt_ne (And.right (And.right (And.right (And.right (And.right (And.right (by assumption))))))) | exact allLt_ne (And.right (And.right (And.right (And.right (And.right (And.right (And.right (by assumption)))))))) | exact allLt_ne (And.right (And.right (And.right (And.right (And.right (And.right (And.right (And.right (by assumption))))))))) | exact allLt_ne (And.right (And.right (And.right (And.right (And.right (And.right (And.right (And.right (And.right (by assumption)))))))))) | exact lt_all_off (by assumption) (by omega) | exact off1_sub (by assumption) (by walk_at "sub") | exact List.forall_mem_nil _ | (refine' List.forall_mem_cons.mpr ⟨?a, ?b⟩; (case a => k_ne); (case b => k_all)))
local macro_rules | `(tactic| walk_at "call builtin:list.append") => `(tactic| (k_here; (with_reducible show wpAny _ _ (call (Value.builtin "list.append") [Value.ref _, _]) _ _ _); k_dflt (refine' append_L ?k1 ?k2 ?k3 ?k4 ?_; (case k1 => k_asm); (case k2 => k_asm); (case k3 => k_upd); (case k4 => walk_at "lens"); k_whole); intro h' F' N'; (try k_sweep)))
local macro_rules | `(tactic| walk_at "lens") => `(tactic| first | assumption | omega | (simp only [List.length_append, List.length_cons, List.length_nil, List.length_map, List.length_range, List.length_replicate, List.length_set]; omega))
local macro_rules | `(tactic| walk_at "ints") => `(tactic| first | omega | (simp only [decide_eq_true_eq, decide_eq_false_iff_not, Bool.not_eq_true, beq_iff_eq, beq_eq_false_iff_ne, ne_eq] at *; omega) | (trace_state; fail "ints"))
local macro_rules | `(tactic| walk_at "fld_in") => `(tactic| first | assumption | exact FieldIn.tail (by assumption) | exact FieldIn.tail (FieldIn.tail (by assumption)) | exact FieldIn.tail (FieldIn.tail (FieldIn.tail (by assumption))) | exact FieldIn.tail (FieldIn.tail (FieldIn.tail (FieldIn.tail (by assumption)))) | exact FieldIn.tail (FieldIn.tail (FieldIn.tail (FieldIn.tail (FieldIn.tail (by assumption))))) | exact FieldIn.tail (FieldIn.tail (FieldIn.tail (FieldIn.tail (FieldIn.tail (FieldIn.tail (by assumption)))))) | exact FieldIn.tail (FieldIn.tail (FieldIn.tail (FieldIn.tail (FieldIn.tail (FieldIn.tail (FieldIn.tail (by assumption))))))) | exact FieldIn.tail (FieldIn.tail (FieldIn.tail (FieldIn.tail (FieldIn.tail (FieldIn.tail (FieldIn.tail (FieldIn.tail (by assumption)))))))) | exact FieldIn.tail (FieldIn.tail (FieldIn.tail (FieldIn.tail (FieldIn.tail (FieldIn.tail (FieldIn.tail (FieldIn.tail (FieldIn.tail (by assumption))))))))) | exact FieldIn.tail (FieldIn.tail (FieldIn.tail (FieldIn.tail (FieldIn.tail (FieldIn.tail (FieldIn.tail (FieldIn.tail (FieldIn.tail (FieldIn.tail (by assumption)))))))))) | exact FieldIn.tail (FieldIn.tail (FieldIn.tail (FieldIn.tail (FieldIn.tail (FieldIn.tail (FieldIn.tail (FieldIn.tail (FieldIn.tail (FieldIn.tail (FieldIn.tail (by assumption))))))))))) | exact FieldIn.tail (FieldIn.tail (FieldIn.tail (FieldIn.tail (FieldIn.tail (FieldIn.tail (FieldIn.tail (FieldIn.tail (FieldIn.tail (FieldIn.tail (FieldIn.tail (FieldIn.tail (by assumption)))))))))))))
local macro_rules | `(tactic| k_mem) => `(tactic| first | assumption | exact List.Mem.head _ | (refine' List.Mem.tail _ ?_; k_mem))
local macro_rules | `(tactic| walk_at "subscriptTail") => `(tactic| (k_here; (with_reducible show wpAny _ _ (subscriptTail _ _ (Value.ref _) (Value.int 0 _)) _ _ _); k_dflt (refine' fld_0 ?k1 ?k2 ?_ ?k4; (case k1 => k_asm); (case k2 => walk_at "fld_in"); (case k4 => with_unfolding_all rfl); k_whole)))
local macro_rules | `(tactic| walk_at "subscriptTail Name Constant ref int") => `(tactic| (k_here; (with_reducible show wpAny _ _ (subscriptTail _ _ (Value.ref _) (Value.int 0 _)) _ _ _); k_dflt (refine' fld_0 ?k1 ?k2 ?_ ?k4; (case k1 => k_asm); (case k2 => walk_at "fld_in"); (case k4 => with_unfolding_all rfl); k_whole)))
local macro_rules | `(tactic| walk_at "subscriptTail") => `(tactic| (k_here; (with_reducible show wpAny _ _ (subscriptTail _ _ (Value.ref _) (Value.int 1 _)) _ _ _); k_dflt (refine' fld_1 ?k1 ?k2 ?_ ?k4; (case k1 => k_asm); (case k2 => walk_at "fld_in"); (case k4 => with_unfolding_all rfl); k_whole)))
local macro_rules | `(tactic| walk_at "subscriptTail Name Constant ref int") => `(tactic| (k_here; (with_reducible show wpAny _ _ (subscriptTail _ _ (Value.ref _) (Value.int 1 _)) _ _ _); k_dflt (refine' fld_1 ?k1 ?k2 ?_ ?k4; (case k1 => k_asm); (case k2 => walk_at "fld_in"); (case k4 => with_unfolding_all rfl); k_whole)))
local macro_rules | `(tactic| walk_at "subscriptTail") => `(tactic| (k_here; (with_reducible show wpAny _ _ (subscriptTail _ _ (Value.ref _) (Value.int _ _)) _ _ _); k_dflt (refine' fld_pow ?k1 ?k2 ?k5 ?k6 ?_ ?k4; (case k1 => k_asm); (case k2 => walk_at "fld_in"); (case k5 => first | omega | exact (fmod255 _).1); (case k6 => first | omega | exact (fmod255 _).2); (case k4 => with_unfolding_all rfl); k_whole); intro _))
local macro_rules | `(tactic| walk_at "subscriptTail Subscript Name Constant BinOp ref int") => `(tactic| (k_here; (with_reducible show wpAny _ _ (subscriptTail _ _ (Value.ref _) (Value.int _ _)) _ _ _); k_dflt (refine' fld_pow ?k1 ?k2 ?k5 ?k6 ?_ ?k4; (case k1 => k_asm); (case k2 => walk_at "fld_in"); (case k5 => first | omega | exact (fmod255 _).1); (case k6 => first | omega | exact (fmod255 _).2); (case k4 => with_unfolding_all rfl); k_whole); intro _))
local macro_rules | `(tactic| walk_at "subscriptTail Subscript Name Constant Name ref int") => `(tactic| (k_here; (with_reducible show wpAny _ _ (subscriptTail _ _ (Value.ref _) (Value.int _ _)) _ _ _); k_dflt (refine' fld_pow ?k1 ?k2 ?k5 ?k6 ?_ ?k4; (case k1 => k_asm); (case k2 => walk_at "fld_in"); (case k5 => first | omega | exact (fmod255 _).1); (case k6 => first | omega | exact (fmod255 _).2); (case k4 => with_unfolding_all rfl); k_whole); intro _))
local macro_rules | `(tactic| walk_at "subscriptTail Subscript Name Constant Subscript ref int") => `(tactic| (k_here; (with_reducible show wpAny _ _ (subscriptTail _ _ (Value.ref _) (Value.int _ _)) _ _ _); k_dflt (refine' fld_pow ?k1 ?k2 ?k5 ?k6 ?_ ?k4; (case k1 => k_asm); (case k2 => walk_at "fld_in"); (case k5 => first | omega | exact (fmod255 _).1); (case k6 => first | omega | exact (fmod255 _).2); (case k4 => with_unfolding_all rfl); k_whole); intro _))
local macro_rules | `(tactic| walk_at "subscriptTail") => `(tactic| (k_here; (with_reducible show wpAny _ _ (subscriptTail _ _ (Value.ref _) (Value.int _ _)) _ _ _); k_dflt (refine' fld_log ?k1 ?k2 ?k5 ?k6 ?_ ?k4; (case k1 => k_asm); (case k2 => walk_at "fld_in"); (case k5 => walk_at "ints"); (case k6 => walk_at "ints"); (case k4 => with_unfolding_all rfl); k_whole); intro _))
local macro_rules | `(tactic| walk_at "subscriptTail Subscript Name Constant BinOp ref int") => `(tactic| (k_here; (with_reducible show wpAny _ _ (subscriptTail _ _ (Value.ref _) (Value.int _ _)) _ _ _); k_dflt (refine' fld_log ?k1 ?k2 ?k5 ?k6 ?_ ?k4; (case k1 => k_asm); (case k2 => walk_at "fld_in"); (case k5 => walk_at "ints"); (case k6 => walk_at "ints"); (case k4 => with_unfolding_all rfl); k_whole); intro _))
local macro_rules | `(tactic| walk_at "subscriptTail Subscript Name Constant Name ref int") => `(tactic| (k_here; (with_reducible show wpAny _ _ (subscriptTail _ _ (Value.ref _) (Value.int _ _)) _ _ _); k_dflt (refine' fld_log ?k1 ?k2 ?k5 ?k6 ?_ ?k4; (case k1 => k_asm); (case k2 => walk_at "fld_in"); (case k5 => walk_at "ints"); (case k6 => walk_at "ints"); (case k4 => with_unfolding_all rfl); k_whole); intro _))
local macro_rules | `(tactic| walk_at "subscriptTail Subscript Name Constant Subscript ref int") => `(tactic| (k_here; (with_reducible show wpAny _ _ (subscriptTail _ _ (Value.ref _) (Value.int _ _)) _ _ _); k_dflt (refine' fld_log ?k1 ?k2 ?k5 ?k6 ?_ ?k4; (case k1 => k_asm); (case k2 => walk_at "fld_in"); (case k5 => walk_at "ints"); (case k6 => walk_at "ints"); (case k4 => with_unfolding_all rfl); k_whole); intro _))

local macro_rules | `(tactic| walk_at "pyIter ref") => `(tactic| ((with_reducible show wpAny _ _ (pyIter (Value.ref _)) (fun it s₂ => LoopAtV _ _ _ _ _ _ _ _ _ it s₂) _ _); refine Stopped.out ?_))
local macro_rules | `(tactic| walk_at "exec For Name Call cons nil") => `(tactic| (k_here; (rename Fr _ _ _ _ => lF'); (with_unfolding_all refine' For_invVF lF' ?k1 ?k2 ?_; (case k1 => exact rfl); (case k2 => exact rfl); k_whole)))
local macro_rules | `(tactic| walk_at "exec For Name Name cons nil") => `(tactic| (k_here; (rename Fr _ _ _ _ => lF'); (with_unfolding_all refine' For_invVF lF' ?k1 ?k2 ?_; (case k1 => exact rfl); (case k2 => exact rfl); k_whole)))
local macro_rules | `(tactic| walk_at "call type:range") => `(tactic| (k_here; (with_reducible show wpAny _ _ (call (Value.type "range") [Value.int _ _]) _ _ _); k_dflt (refine' range1_K ?k1 ?k2 ?_; (case k1 => k_asm); (case k2 => k_asm); k_whole); intro r' h' u' v' tk' F' N' R'; (try k_sweep)))
local macro_rules | `(tactic| walk_at "call type:range") => `(tactic| (k_here; (with_reducible show wpAny _ _ (call (Value.type "range") [Value.int _ _, Value.int _ _]) _ _ _); k_dflt (refine' range2_K ?k1 ?k2 ?_; (case k1 => k_asm); (case k2 => k_asm); k_whole); intro r' h' v' tk' F' N' R'; (try k_sweep)))
local macro_rules | `(tactic| walk_at "room") => `(tactic| first | assumption | omega | ((simp only [depth_in1, depth_deeper, units_in1, units_deeper, Around.mark_units]); omega))

local macro_rules | `(tactic| is_list) => `(tactic| (refine' isList_of ?a ?b; (case a => k_asm); (case b => k_mem)))
local macro_rules | `(tactic| walk_at "call builtin:len") => `(tactic| (k_here; (with_reducible show wpAny _ _ (call (Value.builtin "len") [Value.ref _]) _ _ _); k_dflt (refine' len_L ?k2 ?k3 ?k4 ?_; (case k2 => k_asm); (case k3 => k_mem); (case k4 => walk_at "lens"); k_whole); intro t' tk'; (try k_sweep)))
local macro_rules | `(tactic| walk_at "binaryOp Add ref ref") => `(tactic| (k_here; (with_reducible show wpAny _ _ (binaryOp Operator.Add (Value.ref _) (Value.ref _)) _ _ _); k_dflt (refine' add_L ?k1 ?k2 ?k3 ?k4 ?k5 ?_; (case k1 => k_asm); (case k2 => k_asm); (case k3 => k_mem); (case k4 => k_mem); (case k5 => walk_at "lens"); k_whole); intro r' h' F' N' hl'; (have hl2' := hl'); (try k_lt hl2'); (try k_sweep)))

local macro_rules | `(tactic| walk_at "sub") => `(tactic| first | (refine' List.forall_mem_cons.mpr ⟨?a, ?b⟩; (case a => k_mem); (case b => walk_at "sub")) | (intro p hp; k_mem))

local macro_rules | `(tactic| walk_at "keep") => `(tactic| first | exact keep_base | exact keep_refl | (refine keep_x ?_; walk_at "keep") | (refine keep_upd (by decide) ?_; walk_at "keep") | (refine keep_in (by decide) ?_; walk_at "keep"))

local macro_rules | `(tactic| walk_at "CompSrc") => `(tactic| refine Stopped.out ?_)
local macro_rules | `(tactic| walk_at "my_enterC") => `(tactic| (refine wpAny_call ?_; k_dflt (refine' code_defC ?k1 ?k2 ?k3 ?k4 ?k5 ?kA ?kF ?kK ?k6 ?k7 ?k8 ?k9 ?kB ?kD ?_ ?c2 ?c3 ?c4; (case kA => exact rfl); (case kF => assumption); (case kK => assumption); (case k1 => k_asm); (case k2 => k_asm); (case k3 => k_asm); (case k4 => k_asm); (case k5 => k_asm); (case k6 => k_is); (case k7 => k_is); (case k8 => walk_at "room"); (case k9 => exact BindsTo.of_eq rfl); (case kB => exact rfl); (case kD => decide +kernel); (case c2 => exact rfl); (case c3 => exact rfl); (case c4 => exact rfl); k_whole; intro g' L' h' tk' cells' FG' F' N' Y' B' X' T' l1; k_cells Y'; (try simp only [List.cons_append, List.nil_append] at N'); (try dsimp only); (try k_fold))))

local macro_rules | `(tactic| walk_at "subscriptTail Name Slice ref ref") => `(tactic| (k_here; (with_reducible show wpAny _ _ (subscriptTail _ (PySem.Expr.Slice _ _ _ _) (Value.ref _) (Value.ref _)) _ _ _); k_dflt (refine' slice_LI ?zF ?zN ?zl ?zi ?zp ?zq ?zk ?zo ?zz ?_ ?zs; (case zF => k_asm); (case zN => k_asm); (case zl => k_mem); (case zi => assumption); (case zp => kmk_part); (case zq => kmk_part); (case zk => kmk_part); (case zo => decide); (case zz => walk_at "lens"); (case zs => with_unfolding_all rfl)); intro D' ws' h' F' N' l1 hI' hL'; (have l2' := l1); (try k_lt l2'); (try k_sweep)))
local macro_rules | `(tactic| walk_at "subscriptTail ListComp Slice ref ref") => `(tactic| (k_here; (with_reducible show wpAny _ _ (subscriptTail _ (PySem.Expr.Slice _ _ _ _) (Value.ref _) (Value.ref _)) _ _ _); k_dflt (refine' slice_LI ?zF ?zN ?zl ?zi ?zp ?zq ?zk ?zo ?zz ?_ ?zs; (case zF => k_asm); (case zN => k_asm); (case zl => k_mem); (case zi => assumption); (case zp => kmk_part); (case zq => kmk_part); (case zk => kmk_part); (case zo => decide); (case zz => walk_at "lens"); (case zs => with_unfolding_all rfl)); intro D' ws' h' F' N' l1 hI' hL'; (have l2' := l1); (try k_lt l2'); (try k_sweep)))
local macro_rules | `(tactic| walk_at "subscriptTail Subscript Slice ref ref") => `(tactic| (k_here; (with_reducible show wpAny _ _ (subscriptTail _ (PySem.Expr.Slice _ _ _ _) (Value.ref _) (Value.ref _)) _ _ _); k_dflt (refine' slice_LI ?zF ?zN ?zl ?zi ?zp ?zq ?zk ?zo ?zz ?_ ?zs; (case zF => k_asm); (case zN => k_asm); (case zl => k_mem); (case zi => assumption); (case zp => kmk_part); (case zq => kmk_part); (case zk => kmk_part); (case zo => decide); (case zz => walk_at "lens"); (case zs => with_unfolding_all rfl)); intro D' ws' h' F' N' l1 hI' hL'; (have l2' := l1); (try k_lt l2'); (try k_sweep)))
local macro_rules | `(tactic| walk_at "subscriptTail Attribute Slice ref ref") => `(tactic| (k_here; (with_reducible show wpAny _ _ (subscriptTail _ (PySem.Expr.Slice _ _ _ _) (Value.ref _) (Value.ref _)) _ _ _); k_dflt (refine' slice_LI ?zF ?zN ?zl ?zi ?zp ?zq ?zk ?zo ?zz ?_ ?zs; (case zF => k_asm); (case zN => k_asm); (case zl => k_mem); (case zi => assumption); (case zp => kmk_part); (case zq => kmk_part); (case zk => kmk_part); (case zo => decide); (case zz => walk_at "lens"); (case zs => with_unfolding_all rfl)); intro D' ws' h' F' N' l1 hI' hL'; (have l2' := l1); (try k_lt l2'); (try k_sweep)))
local macro_rules | `(tactic| walk_at "subscriptTail Name Name ref ref") => `(tactic| (k_here; (with_reducible show wpAny _ _ (subscriptTail _ _ (Value.ref _) (Value.ref _)) _ _ _); k_dflt (refine' slice_LI ?zF ?zN ?zl ?zi ?zp ?zq ?zk ?zo ?zz ?_ ?zs; (case zF => k_asm); (case zN => k_asm); (case zl => k_mem); (case zi => assumption); (case zp => kmk_part); (case zq => kmk_part); (case zk => kmk_part); (case zo => decide); (case zz => walk_at "lens"); (case zs => with_unfolding_all rfl)); intro D' ws' h' F' N' l1 hI' hL'; (have l2' := l1); (try k_lt l2'); (try k_sweep)))
local macro_rules | `(tactic| walk_at "subscriptTail Attribute Name ref ref") => `(tactic| (k_here; (with_reducible show wpAny _ _ (subscriptTail _ _ (Value.ref _) (Value.ref _)) _ _ _); k_dflt (refine' slice_LI ?zF ?zN ?zl ?zi ?zp ?zq ?zk ?zo ?zz ?_ ?zs; (case zF => k_asm); (case zN => k_asm); (case zl => k_mem); (case zi => assumption); (case zp => kmk_part); (case zq => kmk_part); (case zk => kmk_part); (case zo => decide); (case zz => walk_at "lens"); (case zs => with_unfolding_all rfl)); intro D' ws' h' F' N' l1 hI' hL'; (have l2' := l1); (try k_lt l2'); (try k_sweep)))

variable {w : World} {mean : ExcName → Option Value} {mg mb : Str → Option Value} {dp un : Nat} {gd : Option (List Code)} {A₀ : Around} {base h₀ : Heap} {env : Env} {outer : List Env} {L : Addr} {m : Str → Option Value} {s : Shared} {Q E : Value → Shared → Prop}
local macro_rules | `(tactic| walk_at "call builtin:list.append") => `(tactic| (k_here; (with_reducible show wpAny _ _ (call (Value.builtin "list.append") [Value.ref _, Value.int _ _]) _ _ _); k_dflt (refine' append_LI ?k1 ?k2 ?k3 ?k4 ?k5 ?_; (case k1 => k_asm); (case k2 => k_asm); (case k3 => k_upd); (case k4 => walk_at "lens"); (case k5 => assumption); k_whole); intro h' F' N' hI'; (try k_sweep)))

set_option maxHeartbeats 800000 in
theorem next_call {rest : List (Addr × Obj)} {st sl : Addr} {xs : List Value} {ns : List Int} {ep ep2 : Nat} {pos seed : Int} {t1 t2 : Tok} {n : Int} {tn : Tok}
  (B : Below A₀ base outer h₀) (F : Fr h₀ L s.heap m) (X : (hd.heap_39 w.params).In h₀) (N : News h₀ L s.heap ((st, W.listOf [.ref sl, .int pos t1, .int seed t2].toArray ep) :: (sl, W.listOf xs.toArray ep2) :: rest)) (T : TopM mean mg mb h₀)
  (hf : env.frame = some L) (hk : env.scope.kind = .function) (hroom : dp + 1 < recursionLimit) (hun : un + 8 < cLine)
  (hx : IntsAre xs ns) (hne : @Ne Nat st sl) (hr : ∀ p ∈ rest, p.1 ≠ st) (h0 : 0 ≤ pos) (h1 : pos ≤ ns.length) (h2 : ns.length ≤ 60) (hn : 0 < n) (hn2 : n < 1000)
  (hret : ∀ (t t1 t2 : Tok) (h' : Heap) (tk' : Nat) (x pos' seed' : Int), 0 ≤ x → x < n → 0 ≤ pos' → pos' ≤ ns.length → Fr h₀ L h' m → News h₀ L h' ((st, W.listOf [.ref sl, .int pos' t1, .int seed' t2].toArray ep) :: (sl, W.listOf xs.toArray ep2) :: rest) → Q (.int x t) { s with heap := h', toks := tk' }) :
  wpAny (model PP w) (AA dp un gd env outer) (call (.ref 285) [.ref st, .int n tn]) Q E s := by
  have hxl := hx.length
  walk_at "my_enter"
  walk_at "my_steps"
  all_goals (rename Fr h₀ L _ m => kF; rename News h₀ L _ _ => kN)
  · refine hret _ _ _ _ _ _ _ _ ?_ ?_ ?_ ?_ kF kN
    all_goals first | exact Int.fmod_nonneg_of_pos _ hn | exact Int.fmod_lt_of_pos _ hn | skip
    all_goals simp_all <;> omega
  · refine hret _ _ _ _ _ _ _ _ ?_ ?_ ?_ ?_ kF kN
    all_goals first | exact Int.fmod_nonneg_of_pos _ hn | exact Int.fmod_lt_of_pos _ hn | skip
    all_goals simp_all <;> omega

end Mine
end

theorem Mine.anew_WE : 1 = 1 := by
  w_top off
  first | walk1 | rfl

/-! part WE -/
section
open PySem PySem.W PyProof.Rows PySem.Calls PySem.Spec
set_option Elab.async false
namespace Mine
set_option maxRecDepth 100000
open PySem.Builtin
abbrev enumRec (it : Value) : Obj := { cls := .type "enumerate", data := .fields #[.none, .bool false, it, rawInt 0, .none, .none] }
section
variable {prog : Program} {w : World} {A : Around} {E : Value → Shared → Prop} {s : Shared}
set_option maxHeartbeats 1000000 in
theorem enum_any {v : Value} {Q : Value → Shared → Prop} (h : wpAny (model prog w) A.in1.in1 (pyIter v) (fun it s₁ => Q (.ref s₁.heap.objs.size) { s₁ with heap := s₁.heap.push (enumRec it) }) E s) :
    wpAny (model prog w) A (call (.type "enumerate") [v]) Q E s := by
  refine callType_codes (T := "enumerate") (Bi := Builtin.«object.__init__») (Q₁ := fun r s₁ => s₁.TypeIs r "enumerate" ∧ Q r s₁) PySem.F.called_enumerate (PySem.F.typeCall_enumerate_1 _) PySem.F.entry_object_init ?_ ?_
  · refine codeAny_of_tree ?_
    show wpAny _ A.in1.in1 (do checkBuiltinCall "enumerate.__new__" ⟨[.type "enumerate", v], []⟩; again (.builtin "enumerate.__new__" ⟨[.type "enumerate", v], []⟩)) _ _ s
    refine wpAny_bind (wpAny_of_eq (PySem.F.newCall_enumerate_1 _) (wpAny_pure ⟨plainId_quiet (by decide +kernel) _, codeAny_builtin PySem.F.entry_enumerate_new ?_⟩))
    rw [Around.under_plainId (by decide +kernel) _]
    obtain ⟨hp, g, d, tk, os⟩ := s
    have hsub := sub_enumerate
    have fin : ∀ (it : Value) (s₁ : Shared), Q (.ref s₁.heap.objs.size) { s₁ with heap := s₁.heap.push (enumRec it) } → (Shared.TypeIs { s₁ with heap := s₁.heap.push (enumRec it) } (.ref s₁.heap.objs.size) "enumerate" ∧ Q (.ref s₁.heap.objs.size) { s₁ with heap := s₁.heap.push (enumRec it) }) :=
      fun it s₁ hq => ⟨⟨_, Heap.get?_push_size _ rfl, rfl⟩, hq⟩
    have hIt : ∀ {Q' : Value → Shared → Prop}, (∀ (it : Value) (s₁ : Shared), Q (.ref s₁.heap.objs.size) { s₁ with heap := s₁.heap.push (enumRec it) } → Q' it s₁) →
        wpAny (model prog w) A.in1.in1 (pyIter v) Q' (fun e s' => wants (fun r s₁ => s₁.TypeIs r "enumerate" ∧ Q r s₁) E (Except.error e) s') ⟨hp, g, d, tk, os⟩ := fun h' => wpAny_mono h (fun it s₁ hq => h' it s₁ hq) fun _ _ y => y
    wp_walk
    refine wpAny_stack_any fun st => wpAny_pure ?_
    split
    · rename_i c _ _ _ _ _
      cases (c == Value.type "enumerate")
      · wp_walk using hIt
        rintro it ⟨hp', g', d', tk', os'⟩ hq
        wp_walk
        exact fin it _ hq
      · wp_walk using hIt
        rintro it ⟨hp', g', d', tk', os'⟩ hq
        wp_walk
        exact fin it _ hq
    · wp_walk using hIt
      rintro it ⟨hp', g', d', tk', os'⟩ hq
      wp_walk
      exact fin it _ hq
  · rintro obj s₁ ⟨hT, hq⟩
    exact ⟨hT, PySem.F.args_object_init_2 _ _, object_init_meets PySem.F.called_enumerate.init.lookup PySem.F.called_enumerate.made (by decide) prog w A.in1 _ s₁ ⟨hT, rfl, hq⟩⟩

abbrev zipRec (ti to : Addr) : Obj := { cls := .type "zip", data := .fields #[.none, .bool false, .bool false, .ref ti, .ref to] }
abbrev tup2 (a b : Value) : Obj := { cls := .type "tuple", data := .seq #[a, b] }
/-- the heap after zip has made its three objects -/
abbrev zipHeap (h : Heap) (i1 i2 : Value) : Heap := ((h.push (tup2 i1 i2)).push (tup2 .none .none)).push (zipRec h.objs.size (h.push (tup2 i1 i2)).objs.size)
set_option maxHeartbeats 1000000 in
theorem zip_any {v1 v2 : Value} {Q : Value → Shared → Prop} (h : wpAny (model prog w) A.in1.in1 (pyIter v1) (fun i1 s₁ => wpAny (model prog w) A.in1.in1 (pyIter v2) (fun i2 s₂ => Q (.ref (s₂.heap.objs.size + 2)) { s₂ with heap := zipHeap s₂.heap i1 i2 }) E s₁) E s) :
    wpAny (model prog w) A (call (.type "zip") [v1, v2]) Q E s := by
  refine callType_codes (T := "zip") (Bi := Builtin.«object.__init__») (Q₁ := fun r s₁ => s₁.TypeIs r "zip" ∧ Q r s₁) PySem.F.called_zip (PySem.F.typeCall_zip_2 _ _) PySem.F.entry_object_init ?_ ?_
  · refine codeAny_of_tree ?_
    show wpAny _ A.in1.in1 (do checkBuiltinCall "zip.__new__" ⟨[.type "zip", v1, v2], []⟩; again (.builtin "zip.__new__" ⟨[.type "zip", v1, v2], []⟩)) _ _ s
    refine wpAny_bind (wpAny_of_eq (PySem.F.newCall_zip_2 _ _) (wpAny_pure ⟨plainId_quiet (by decide +kernel) _, codeAny_builtin PySem.F.entry_zip_new ?_⟩))
    rw [Around.under_plainId (by decide +kernel) _]
    obtain ⟨hp, g, d, tk, os⟩ := s
    have hsub := sub_zip
    have hI1 : ∀ {Q' : Value → Shared → Prop}, (∀ (it : Value) (s₁ : Shared), wpAny (model prog w) A.in1.in1 (pyIter v2) (fun i2 s₂ => Q (.ref (s₂.heap.objs.size + 2)) { s₂ with heap := zipHeap s₂.heap it i2 }) E s₁ → Q' it s₁) →
        wpAny (model prog w) A.in1.in1 (pyIter v1) Q' (fun e s' => wants (fun r s₁ => s₁.TypeIs r "zip" ∧ Q r s₁) E (Except.error e) s') ⟨hp, g, d, tk, os⟩ := fun h' => wpAny_mono h (fun it s₁ hq => h' it s₁ hq) fun _ _ y => y
    wp_walk using hI1
    rintro it ⟨hp', g', d', tk', os'⟩ hq
    have hI2 : ∀ {Q' : Value → Shared → Prop}, (∀ (i2 : Value) (s₂ : Shared), Q (.ref (s₂.heap.objs.size + 2)) { s₂ with heap := zipHeap s₂.heap it i2 } → Q' i2 s₂) →
        wpAny (model prog w) A.in1.in1 (pyIter v2) Q' (fun e s' => wants (fun r s₁ => s₁.TypeIs r "zip" ∧ Q r s₁) E (Except.error e) s') ⟨hp', g', d', tk', os'⟩ := fun h' => wpAny_mono hq (fun it s₁ hq => h' it s₁ hq) fun _ _ y => y
    wp_walk using hI2
    rintro i2 ⟨hp2, g2, d2, tk2, os2⟩ hq2
    wp_walk
    have hz : ((hp2.push (tup2 it i2)).push (tup2 .none .none)).objs.size = hp2.objs.size + 2 := by rw [Heap.size_push, Heap.size_push]
    show Shared.TypeIs ⟨zipHeap hp2 it i2, g2, d2, tk2, os2⟩ (.ref ((hp2.push (tup2 it i2)).push (tup2 .none .none)).objs.size) "zip" ∧ Q (.ref ((hp2.push (tup2 it i2)).push (tup2 .none .none)).objs.size) ⟨zipHeap hp2 it i2, g2, d2, tk2, os2⟩
    refine ⟨⟨_, Heap.get?_push_size _ rfl, rfl⟩, ?_⟩
    rw [hz]
    exact hq2
  · rintro obj s₁ ⟨hT, hq⟩
    exact ⟨hT, PySem.F.args_object_init_3 _ _ _, object_init_meets PySem.F.called_zip.init.lookup PySem.F.called_zip.made (by decide) prog w A.in1 _ s₁ ⟨hT, rfl, hq⟩⟩
end
end Mine
end

theorem Mine.anew_WP : 1 = 1 := by
  w_top off
  first | walk1 | rfl

/-! part WP -/
section
open PySem PySem.W PyProof.Rows PySem.Calls PySem.Spec
set_option Elab.async false
namespace Mine
set_option maxRecDepth 100000
section
variable {prog : Program} {w : World} {A : Around} {E : Value → Shared → Prop} {s : Shared} {h₀ : Heap} {L l : Addr} {m : Str → Option Value} {news : List (Addr × Obj)} {vs : List Value} {ns : List Int} {n : Nat} {value slice : PySem.Expr} {vl vu : Value} {lo up : Option Int}
theorem slice_LJ {Q : Value → Shared → Prop} (F : Fr h₀ L s.heap m) (N : News h₀ L s.heap news) (hl : (l, W.listOf vs.toArray n) ∈ news) (hi : IntsAre vs ns) (pl : IsPart vl lo) (pu : IsPart vu up) (hz : vs.length ≤ 100000)
    (h : ∀ D ws h', Fr h₀ L h' m → News h₀ L h' ((D, W.listOf (List.toArray ws) 0) :: news) → (∀ p ∈ news, p.1 < D) → IntsAre ws (pickZ ns lo up none) → ws.length ≤ vs.length → Q (.ref D) { s with heap := h' })
    (hs : subscripted slice false (.ref l) (.ref s.heap.objs.size) = operate [.ref s.heap.objs.size, .ref l] (getItem (.ref l) (.ref s.heap.objs.size)) := by with_unfolding_all rfl) (ht : ∀ r, letTemporaryGo value (.ref l) r = pure ()) :
    wpAny (model prog w) A (subscriptTail value slice (.ref l) (.ref s.heap.objs.size)) Q E { s with heap := s.heap.push { cls := .type "slice", data := .fields #[vl, vu, .none] } } :=
  kmk_slice F N (isList_of N hl) pl pu (fun D h' F' N' l1 => h D (slicePick vs.toArray lo up none).toList h' F' (by rw [Array.toArray_toList]; exact N') l1 (pick_ints hi) pick_le) hs ht (by rw [sizeLine_eq, List.size_toArray]; omega)
end
def leadZ : List Int → Nat
  | [] => 0
  | [_] => 0
  | a :: b :: r => if a = 0 then leadZ (b :: r) + 1 else 0
/-- what Polynomial keeps of its words -/
def polyZ (ns : List Int) (sh : Nat) : List Int := ns.drop (leadZ ns) ++ List.replicate sh 0
theorem leadZ_at : ∀ {ns : List Int} {o : Nat}, o < ns.length → (∀ j, j < o → ns.getD j 0 = 0) → ns.getD o 0 ≠ 0 → leadZ ns = o
  | [], _, h, _, _ => absurd h (Nat.not_lt_zero _)
  | [a], o, h, _, _ => by
    have : o = 0 := by simp at h; exact h
    rw [this]; rfl
  | a :: b :: r, 0, _, _, h => by
    unfold leadZ; rw [if_neg (by simpa using h)]
  | a :: b :: r, o + 1, h, h1, h2 => by
    have ha : a = 0 := by simpa using h1 0 (Nat.succ_pos _)
    unfold leadZ
    rw [if_pos ha]
    congr 1
    exact leadZ_at (ns := b :: r) (by simpa using h) (fun j hj => by simpa using h1 (j + 1) (Nat.succ_lt_succ hj)) (by simpa using h2)
theorem leadZ_none : ∀ {ns : List Int}, (∀ j, j < ns.length → ns.getD j 0 = 0) → leadZ ns = ns.length - 1
  | [], _ => rfl
  | [a], _ => rfl
  | a :: b :: r, h => by
    have ha : a = 0 := by simpa using h 0 (by simp)
    unfold leadZ
    rw [if_pos ha, leadZ_none (ns := b :: r) (fun j hj => by simpa using h (j + 1) (by simpa using hj))]
    simp
theorem leadZ_lt : ∀ {ns : List Int}, ns ≠ [] → leadZ ns < ns.length
  | [], h => absurd rfl h
  | [a], _ => by simp [leadZ]
  | a :: b :: r, _ => by
    unfold leadZ
    have := leadZ_lt (ns := b :: r) (by simp)
    split
    · simp at this ⊢; omega
    · simp
theorem pickZ_from {α : Type} (xs : List α) (o : Nat) (h : o ≤ xs.length) : pickZ xs (some (o : Int)) none none = xs.drop o := by
  unfold pickZ
  have hb : sliceBounds (some (o : Int)) none none xs.length = ((o : Int), (xs.length : Int), 1) := by
    unfold sliceBounds; simp; omega
  rw [hb]
  have hr : sliceRange (o : Int) (xs.length : Int) 1 = (List.range (xs.length - o)).map (· + o) := by
    unfold sliceRange
    simp only [show ((1 : Int) > 0) by decide, if_true, Int.ediv_one]
    have hc : (if (xs.length : Int) > (o : Int) then (xs.length : Int) - o + 1 - 1 else 0).toNat = xs.length - o := by
      split <;> omega
    rw [hc]
    apply List.map_congr_left
    intro k hk
    omega
  rw [hr, List.filterMap_map]
  have h2 := fm_all (xs.drop o)
  rw [List.length_drop] at h2
  rw [← h2]
  congr 1
  funext i
  simp [Nat.add_comm]
theorem pickZ_neg {α : Type} (xs : List α) (d : Nat) (h : d ≤ xs.length) (h0 : 0 < d) : pickZ xs (some (-(d : Int))) none none = xs.drop (xs.length - d) := by
  rw [← pickZ_from xs (xs.length - d) (Nat.sub_le _ _)]
  unfold pickZ
  have hb : sliceBounds (some (-(d : Int))) none none xs.length = sliceBounds (some ((xs.length - d : Nat) : Int)) none none xs.length := by
    unfold sliceBounds; simp; omega
  rw [hb]
theorem fm_congr {α β : Type} {f g : α → Option β} : ∀ {l : List α}, (∀ i ∈ l, f i = g i) → l.filterMap f = l.filterMap g
  | [], _ => rfl
  | a :: r, h => by rw [List.filterMap_cons, List.filterMap_cons, h a (.head _), fm_congr fun i hi => h i (.tail _ hi)]
theorem pickZ_upto {α : Type} (xs : List α) (o : Nat) (h : o ≤ xs.length) : pickZ xs none (some (o : Int)) none = xs.take o := by
  unfold pickZ
  have hb : sliceBounds none (some (o : Int)) none xs.length = (0, (o : Int), 1) := by
    unfold sliceBounds; simp; omega
  rw [hb]
  have hr : sliceRange 0 (o : Int) 1 = List.range o := by
    unfold sliceRange
    simp only [show ((1 : Int) > 0) by decide, if_true, Int.ediv_one]
    have hc : (if (0 : Int) < (o : Int) then (o : Int) - 0 + 1 - 1 else 0).toNat = o := by
      split <;> omega
    rw [hc]
    conv => rhs; rw [← List.map_id (List.range o)]
    apply List.map_congr_left
    intro k hk
    dsimp only [id]
    omega
  rw [hr]
  have h2 := fm_all (xs.take o)
  rw [List.length_take, Nat.min_eq_left h] at h2
  rw [← h2]
  apply fm_congr
  intro i hi
  have := List.mem_range.mp hi
  simp [this]
end Mine
end

theorem Mine.anew_W13 : 1 = 1 := by
  w_top off
  first | walk1 | rfl

/-! part W13 -/
section
open PySem PySem.W PyProof.Rows PySem.Calls PySem.Spec
set_option Elab.async false
namespace Mine
set_option maxRecDepth 100000
theorem fill_W13 {w : World} {h : Heap} : (hd.heap_39 w.params).In h → Challenge.rw_bj0062_01.row.prog = Challenge.rw_bj0062_01.row.prog := by
  k_fill
  intro _
  rfl
local macro_rules | `(tactic| walk_at "my_enter") => `(tactic| (refine wpAny_call ?_; k_dflt (refine' code_def ?k1 ?k2 ?k3 ?k4 ?k5 ?kA ?kF ?kK ?k6 ?k7 ?k8 ?k9 ?kB ?_ ?c2 ?c3 ?c4 ?c5; (case kA => exact rfl); (case kF => assumption); (case kK => assumption); (case k1 => k_asm); (case k2 => k_asm); (case k3 => k_asm); (case k4 => k_asm); (case k5 => k_asm); (case k6 => k_is); (case k7 => k_is); (case k8 => walk_at "room"); (case k9 => exact BindsTo.of_eq rfl); (case c5 => decide); (case kB => exact locs rfl); (case c2 => exact rfl); (case c3 => exact rfl); (case c4 => exact rfl); k_whole; intro g' L' h' FG' F' N' B' X' T'; (try dsimp only); (try k_fold))))
local macro_rules | `(tactic| walk_at "my_steps") => `(tactic| repeat' (first | (k_unfold; (try dsimp only)) | walk1 | (dsimp only; walk1)))
local macro_rules | `(tactic| walk_at "setItem ref int") => `(tactic| (k_here; (with_reducible show wpAny _ _ (setItem (Value.ref _) (Value.int _ _) _) _ _ _); k_dflt (refine' set_listK ?k1 ?k2 ?k3 ?k5 ?k6 ?k7 ?_; (case k1 => k_asm); (case k2 => k_asm); (case k3 => k_upd); (case k5 => first | omega | ksa_idx); (case k6 => first | omega | (simp; done) | (simp; omega)); (case k7 => first | omega | ksa_idx); k_whole); intro h' F' N'; (try k_sweep)))
local macro_rules | `(tactic| k_ne) => `(tactic| first | assumption | exact Ne.symm (by assumption) | (refine neN ?_; (try dsimp only); omega))
local macro_rules | `(tactic| k_all) => `(tactic| first | assumption | exact lt_all_ne (by assumption) | exact lt_all_sub (by assumption) (by walk_at "sub") | exact ne_all_sub (by assumption) (by walk_at "sub") | exact allLt_ne (by assumption) | exact allLt_ne (And.right (by assumption)) | exact allLt_ne (And.right (And.right (by assumption))) | exact allLt_ne (And.right (And.right (And.right (by assumption)))) | exact allLt_ne (And.right (And.right (And.right (And.right (by assumption))))) | exact allLt_ne (And.right (And.right (And.right (And.right (And.right (by assumption)))))) | exact allLt_ne (And.right (And.right (And.right (And.right (And.right (And.right (by assumption))))))) | exact allLt_ne (And.right (And.right (And.right (And.right (And.right (And.right (And.right (by assumption)))))))) | exact allLt_ne (And.right (And.right (And.right (And.right (And.right (And.right (And.right (And.right (by assumption))))))))) | exact allLt_ne (And.right (And.right (And.right (And.right (And.right (And.right (And.right (And.right (And.right (by assumption)))))))))) | exact lt_all_off (by assumption) (by omega) | exact off1_sub (by assumption) (by walk_at "sub") | exact List.forall_mem_nil _ | (refine' List.forall_mem_cons.mpr ⟨?a, ?b⟩; (case a => k_ne); (case b => k_all)))
local macro_rules | `(tactic| walk_at "call builtin:list.append") => `(tactic| (k_here; (with_reducible show wpAny _ _ (call (Value.builtin "list.append") [Value.ref _, _]) _ _ _); k_dflt (refine' append_L ?k1 ?k2 ?k3 ?k4 ?_; (case k1 => k_asm); (case k2 => k_asm); (case k3 => k_upd); (case k4 => walk_at "lens"); k_whole); intro h' F' N'; (try k_sweep)))
local macro_rules | `(tactic| walk_at "lens") => `(tactic| first | assumption | omega | (simp only [List.length_append, List.length_cons, List.length_nil, List.length_map, List.length_range, List.length_replicate, List.length_set]; omega))
local macro_rules | `(tactic| walk_at "ints") => `(tactic| first | omega | (simp only [decide_eq_true_eq, decide_eq_false_iff_not, Bool.not_eq_true, beq_iff_eq, beq_eq_false_iff_ne, ne_eq] at *; omega) | (trace_state; fail "ints"))
local macro_rules | `(tactic| walk_at "fld_in") => `(tactic| first | assumption | exact FieldIn.tail (by assumption) | exact FieldIn.tail (FieldIn.tail (by assumption)) | exact FieldIn.tail (FieldIn.tail (FieldIn.tail (by assumption))) | exact FieldIn.tail (FieldIn.tail (FieldIn.tail (FieldIn.tail (by assumption)))) | exact FieldIn.tail (FieldIn.tail (FieldIn.tail (FieldIn.tail (FieldIn.tail (by assumption))))) | exact FieldIn.tail (FieldIn.tail (FieldIn.tail (FieldIn.tail (FieldIn.tail (FieldIn.tail (by assumption)))))) | exact FieldIn.tail (FieldIn.tail (FieldIn.tail (FieldIn.tail (FieldIn.tail (FieldIn.tail (FieldIn.tail (by assumption))))))) | exact FieldIn.tail (FieldIn.tail (FieldIn.tail (FieldIn.tail (FieldIn.tail (FieldIn.tail (FieldIn.tail (FieldIn.tail (by assumption)))))))) | exact FieldIn.tail (FieldIn.tail (FieldIn.tail (FieldIn.tail (FieldIn.tail (FieldIn.tail (FieldIn.tail (FieldIn.tail (FieldIn.tail (by assumption))))))))) | exact FieldIn.tail (FieldIn.tail (FieldIn.tail (FieldIn.tail (FieldIn.tail (FieldIn.tail (FieldIn.tail (FieldIn.tail (FieldIn.tail (FieldIn.tail (by assumption)))))))))) | exact FieldIn.tail (FieldIn.tail (FieldIn.tail (FieldIn.tail (FieldIn.tail (FieldIn.tail (FieldIn.tail (FieldIn.tail (FieldIn.tail (FieldIn.tail (FieldIn.tail (by assumption))))))))))) | exact FieldIn.tail (FieldIn.tail (FieldIn.tail (FieldIn.tail (FieldIn.tail (FieldIn.tail (FieldIn.tail (FieldIn.tail (FieldIn.tail (FieldIn.tail (FieldIn.tail (FieldIn.tail (by assumption)))))))))))))
local macro_rules | `(tactic| k_mem) => `(tactic| first | assumption | exact List.Mem.head _ | (refine' List.Mem.tail _ ?_; k_mem))
local macro_rules | `(tactic| walk_at "subscriptTail") => `(tactic| (k_here; (with_reducible show wpAny _ _ (subscriptTail _ _ (Value.ref _) (Value.int 0 _)) _ _ _); k_dflt (refine' fld_0 ?k1 ?k2 ?_ ?k4; (case k1 => k_asm); (case k2 => walk_at "fld_in"); (case k4 => with_unfolding_all rfl); k_whole)))
local macro_rules | `(tactic| walk_at "subscriptTail Name Constant ref int") => `(tactic| (k_here; (with_reducible show wpAny _ _ (subscriptTail _ _ (Value.ref _) (Value.int 0 _)) _ _ _); k_dflt (refine' fld_0 ?k1 ?k2 ?_ ?k4; (case k1 => k_asm); (case k2 => walk_at "fld_in"); (case k4 => with_unfolding_all rfl); k_whole)))
local macro_rules | `(tactic| walk_at "subscriptTail") => `(tactic| (k_here; (with_reducible show wpAny _ _ (subscriptTail _ _ (Value.ref _) (Value.int 1 _)) _ _ _); k_dflt (refine' fld_1 ?k1 ?k2 ?_ ?k4; (case k1 => k_asm); (case k2 => walk_at "fld_in"); (case k4 => with_unfolding_all rfl); k_whole)))
local macro_rules | `(tactic| walk_at "subscriptTail Name Constant ref int") => `(tactic| (k_here; (with_reducible show wpAny _ _ (subscriptTail _ _ (Value.ref _) (Value.int 1 _)) _ _ _); k_dflt (refine' fld_1 ?k1 ?k2 ?_ ?k4; (case k1 => k_asm); (case k2 => walk_at "fld_in"); (case k4 => with_unfolding_all rfl); k_whole)))
local macro_rules | `(tactic| walk_at "subscriptTail") => `(tactic| (k_here; (with_reducible show wpAny _ _ (subscriptTail _ _ (Value.ref _) (Value.int _ _)) _ _ _); k_dflt (refine' fld_pow ?k1 ?k2 ?k5 ?k6 ?_ ?k4; (case k1 => k_asm); (case k2 => walk_at "fld_in"); (case k5 => first | omega | exact (fmod255 _).1); (case k6 => first | omega | exact (fmod255 _).2); (case k4 => with_unfolding_all rfl); k_whole); intro _))
local macro_rules | `(tactic| walk_at "subscriptTail Subscript Name Constant BinOp ref int") => `(tactic| (k_here; (with_reducible show wpAny _ _ (subscriptTail _ _ (Value.ref _) (Value.int _ _)) _ _ _); k_dflt (refine' fld_pow ?k1 ?k2 ?k5 ?k6 ?_ ?k4; (case k1 => k_asm); (case k2 => walk_at "fld_in"); (case k5 => first | omega | exact (fmod255 _).1); (case k6 => first | omega | exact (fmod255 _).2); (case k4 => with_unfolding_all rfl); k_whole); intro _))
local macro_rules | `(tactic| walk_at "subscriptTail Subscript Name Constant Name ref int") => `(tactic| (k_here; (with_reducible show wpAny _ _ (subscriptTail _ _ (Value.ref _) (Value.int _ _)) _ _ _); k_dflt (refine' fld_pow ?k1 ?k2 ?k5 ?k6 ?_ ?k4; (case k1 => k_asm); (case k2 => walk_at "fld_in"); (case k5 => first | omega | exact (fmod255 _).1); (case k6 => first | omega | exact (fmod255 _).2); (case k4 => with_unfolding_all rfl); k_whole); intro _))
local macro_rules | `(tactic| walk_at "subscriptTail Subscript Name Constant Subscript ref int") => `(tactic| (k_here; (with_reducible show wpAny _ _ (subscriptTail _ _ (Value.ref _) (Value.int _ _)) _ _ _); k_dflt (refine' fld_pow ?k1 ?k2 ?k5 ?k6 ?_ ?k4; (case k1 => k_asm); (case k2 => walk_at "fld_in"); (case k5 => first | omega | exact (fmod255 _).1); (case k6 => first | omega | exact (fmod255 _).2); (case k4 => with_unfolding_all rfl); k_whole); intro _))
local macro_rules | `(tactic| walk_at "subscriptTail") => `(tactic| (k_here; (with_reducible show wpAny _ _ (subscriptTail _ _ (Value.ref _) (Value.int _ _)) _ _ _); k_dflt (refine' fld_log ?k1 ?k2 ?k5 ?k6 ?_ ?k4; (case k1 => k_asm); (case k2 => walk_at "fld_in"); (case k5 => walk_at "ints"); (case k6 => walk_at "ints"); (case k4 => with_unfolding_all rfl); k_whole); intro _))
local macro_rules | `(tactic| walk_at "subscriptTail Subscript Name Constant BinOp ref int") => `(tactic| (k_here; (with_reducible show wpAny _ _ (subscriptTail _ _ (Value.ref _) (Value.int _ _)) _ _ _); k_dflt (refine' fld_log ?k1 ?k2 ?k5 ?k6 ?_ ?k4; (case k1 => k_asm); (case k2 => walk_at "fld_in"); (case k5 => walk_at "ints"); (case k6 => walk_at "ints"); (case k4 => with_unfolding_all rfl); k_whole); intro _))
local macro_rules | `(tactic| walk_at "subscriptTail Subscript Name Constant Name ref int") => `(tactic| (k_here; (with_reducible show wpAny _ _ (subscriptTail _ _ (Value.ref _) (Value.int _ _)) _ _ _); k_dflt (refine' fld_log ?k1 ?k2 ?k5 ?k6 ?_ ?k4; (case k1 => k_asm); (case k2 => walk_at "fld_in"); (case k5 => walk_at "ints"); (case k6 => walk_at "ints"); (case k4 => with_unfolding_all rfl); k_whole); intro _))
local macro_rules | `(tactic| walk_at "subscriptTail Subscript Name Constant Subscript ref int") => `(tactic| (k_here; (with_reducible show wpAny _ _ (subscriptTail _ _ (Value.ref _) (Value.int _ _)) _ _ _); k_dflt (refine' fld_log ?k1 ?k2 ?k5 ?k6 ?_ ?k4; (case k1 => k_asm); (case k2 => walk_at "fld_in"); (case k5 => walk_at "ints"); (case k6 => walk_at "ints"); (case k4 => with_unfolding_all rfl); k_whole); intro _))

local macro_rules | `(tactic| walk_at "pyIter ref") => `(tactic| ((with_reducible show wpAny _ _ (pyIter (Value.ref _)) (fun it s₂ => LoopAtV _ _ _ _ _ _ _ _ _ it s₂) _ _); refine Stopped.out ?_))
local macro_rules | `(tactic| walk_at "exec For Name Call cons nil") => `(tactic| (k_here; (rename Fr _ _ _ _ => lF'); (with_unfolding_all refine' For_invVF lF' ?k1 ?k2 ?_; (case k1 => exact rfl); (case k2 => exact rfl); k_whole)))
local macro_rules | `(tactic| walk_at "exec For Name Name cons nil") => `(tactic| (k_here; (rename Fr _ _ _ _ => lF'); (with_unfolding_all refine' For_invVF lF' ?k1 ?k2 ?_; (case k1 => exact rfl); (case k2 => exact rfl); k_whole)))
local macro_rules | `(tactic| walk_at "call type:range") => `(tactic| (k_here; (with_reducible show wpAny _ _ (call (Value.type "range") [Value.int _ _]) _ _ _); k_dflt (refine' range1_K ?k1 ?k2 ?_; (case k1 => k_asm); (case k2 => k_asm); k_whole); intro r' h' u' v' tk' F' N' R'; (try k_sweep)))
local macro_rules | `(tactic| walk_at "call type:range") => `(tactic| (k_here; (with_reducible show wpAny _ _ (call (Value.type "range") [Value.int _ _, Value.int _ _]) _ _ _); k_dflt (refine' range2_K ?k1 ?k2 ?_; (case k1 => k_asm); (case k2 => k_asm); k_whole); intro r' h' v' tk' F' N' R'; (try k_sweep)))
local macro_rules | `(tactic| walk_at "room") => `(tactic| first | assumption | omega | ((simp only [depth_in1, depth_deeper, units_in1, units_deeper, Around.mark_units]); omega))

local macro_rules | `(tactic| is_list) => `(tactic| (refine' isList_of ?a ?b; (case a => k_asm); (case b => k_mem)))
local macro_rules | `(tactic| walk_at "call builtin:len") => `(tactic| (k_here; (with_reducible show wpAny _ _ (call (Value.builtin "len") [Value.ref _]) _ _ _); k_dflt (refine' len_L ?k2 ?k3 ?k4 ?_; (case k2 => k_asm); (case k3 => k_mem); (case k4 => walk_at "lens"); k_whole); intro t' tk'; (try k_sweep)))
local macro_rules | `(tactic| walk_at "binaryOp Add ref ref") => `(tactic| (k_here; (with_reducible show wpAny _ _ (binaryOp Operator.Add (Value.ref _) (Value.ref _)) _ _ _); k_dflt (refine' add_L ?k1 ?k2 ?k3 ?k4 ?k5 ?_; (case k1 => k_asm); (case k2 => k_asm); (case k3 => k_mem); (case k4 => k_mem); (case k5 => walk_at "lens"); k_whole); intro r' h' F' N' hl'; (have hl2' := hl'); (try k_lt hl2'); (try k_sweep)))

local macro_rules | `(tactic| walk_at "sub") => `(tactic| first | (refine' List.forall_mem_cons.mpr ⟨?a, ?b⟩; (case a => k_mem); (case b => walk_at "sub")) | (intro p hp; k_mem))

local macro_rules | `(tactic| walk_at "keep") => `(tactic| first | exact keep_base | exact keep_refl | (refine keep_x ?_; walk_at "keep") | (refine keep_upd (by decide) ?_; walk_at "keep") | (refine keep_in (by decide) ?_; walk_at "keep"))

local macro_rules | `(tactic| walk_at "CompSrc") => `(tactic| refine Stopped.out ?_)
local macro_rules | `(tactic| walk_at "my_enterC") => `(tactic| (refine wpAny_call ?_; k_dflt (refine' code_defC ?k1 ?k2 ?k3 ?k4 ?k5 ?kA ?kF ?kK ?k6 ?k7 ?k8 ?k9 ?kB ?kD ?_ ?c2 ?c3 ?c4; (case kA => exact rfl); (case kF => assumption); (case kK => assumption); (case k1 => k_asm); (case k2 => k_asm); (case k3 => k_asm); (case k4 => k_asm); (case k5 => k_asm); (case k6 => k_is); (case k7 => k_is); (case k8 => walk_at "room"); (case k9 => exact BindsTo.of_eq rfl); (case kB => exact rfl); (case kD => decide +kernel); (case c2 => exact rfl); (case c3 => exact rfl); (case c4 => exact rfl); k_whole; intro g' L' h' tk' cells' FG' F' N' Y' B' X' T' l1; k_cells Y'; (try simp only [List.cons_append, List.nil_append] at N'); (try dsimp only); (try k_fold))))

local macro_rules | `(tactic| walk_at "subscriptTail Name Slice ref ref") => `(tactic| (k_here; (with_reducible show wpAny _ _ (subscriptTail _ (PySem.Expr.Slice _ _ _ _) (Value.ref _) (Value.ref _)) _ _ _); k_dflt (refine' slice_LI ?zF ?zN ?zl ?zi ?zp ?zq ?zk ?zo ?zz ?_ ?zs; (case zF => k_asm); (case zN => k_asm); (case zl => k_mem); (case zi => assumption); (case zp => kmk_part); (case zq => kmk_part); (case zk => kmk_part); (case zo => decide); (case zz => walk_at "lens"); (case zs => with_unfolding_all rfl)); intro D' ws' h' F' N' l1 hI' hL'; (have l2' := l1); (try k_lt l2'); (try k_sweep)))
local macro_rules | `(tactic| walk_at "subscriptTail ListComp Slice ref ref") => `(tactic| (k_here; (with_reducible show wpAny _ _ (subscriptTail _ (PySem.Expr.Slice _ _ _ _) (Value.ref _) (Value.ref _)) _ _ _); k_dflt (refine' slice_LI ?zF ?zN ?zl ?zi ?zp ?zq ?zk ?zo ?zz ?_ ?zs; (case zF => k_asm); (case zN => k_asm); (case zl => k_mem); (case zi => assumption); (case zp => kmk_part); (case zq => kmk_part); (case zk => kmk_part); (case zo => decide); (case zz => walk_at "lens"); (case zs => with_unfolding_all rfl)); intro D' ws' h' F' N' l1 hI' hL'; (have l2' := l1); (try k_lt l2'); (try k_sweep)))
local macro_rules | `(tactic| walk_at "subscriptTail Subscript Slice ref ref") => `(tactic| (k_here; (with_reducible show wpAny _ _ (subscriptTail _ (PySem.Expr.Slice _ _ _ _) (Value.ref _) (Value.ref _)) _ _ _); k_dflt (refine' slice_LI ?zF ?zN ?zl ?zi ?zp ?zq ?zk ?zo ?zz ?_ ?zs; (case zF => k_asm); (case zN => k_asm); (case zl => k_mem); (case zi => assumption); (case zp => kmk_part); (case zq => kmk_part); (case zk => kmk_part); (case zo => decide); (case zz => walk_at "lens"); (case zs => with_unfolding_all rfl)); intro D' ws' h' F' N' l1 hI' hL'; (have l2' := l1); (try k_lt l2'); (try k_sweep)))
local macro_rules | `(tactic| walk_at "subscriptTail Attribute Slice ref ref") => `(tactic| (k_here; (with_reducible show wpAny _ _ (subscriptTail _ (PySem.Expr.Slice _ _ _ _) (Value.ref _) (Value.ref _)) _ _ _); k_dflt (refine' slice_LI ?zF ?zN ?zl ?zi ?zp ?zq ?zk ?zo ?zz ?_ ?zs; (case zF => k_asm); (case zN => k_asm); (case zl => k_mem); (case zi => assumption); (case zp => kmk_part); (case zq => kmk_part); (case zk => kmk_part); (case zo => decide); (case zz => walk_at "lens"); (case zs => with_unfolding_all rfl)); intro D' ws' h' F' N' l1 hI' hL'; (have l2' := l1); (try k_lt l2'); (try k_sweep)))
local macro_rules | `(tactic| walk_at "subscriptTail Name Name ref ref") => `(tactic| (k_here; (with_reducible show wpAny _ _ (subscriptTail _ _ (Value.ref _) (Value.ref _)) _ _ _); k_dflt (refine' slice_LI ?zF ?zN ?zl ?zi ?zp ?zq ?zk ?zo ?zz ?_ ?zs; (case zF => k_asm); (case zN => k_asm); (case zl => k_mem); (case zi => assumption); (case zp => kmk_part); (case zq => kmk_part); (case zk => kmk_part); (case zo => decide); (case zz => walk_at "lens"); (case zs => with_unfolding_all rfl)); intro D' ws' h' F' N' l1 hI' hL'; (have l2' := l1); (try k_lt l2'); (try k_sweep)))
local macro_rules | `(tactic| walk_at "subscriptTail Attribute Name ref ref") => `(tactic| (k_here; (with_reducible show wpAny _ _ (subscriptTail _ _ (Value.ref _) (Value.ref _)) _ _ _); k_dflt (refine' slice_LI ?zF ?zN ?zl ?zi ?zp ?zq ?zk ?zo ?zz ?_ ?zs; (case zF => k_asm); (case zN => k_asm); (case zl => k_mem); (case zi => assumption); (case zp => kmk_part); (case zq => kmk_part); (case zk => kmk_part); (case zo => decide); (case zz => walk_at "lens"); (case zs => with_unfolding_all rfl)); intro D' ws' h' F' N' l1 hI' hL'; (have l2' := l1); (try k_lt l2'); (try k_sweep)))

variable {w : World} {mean : ExcName → Option Value} {mg mb : Str → Option Value} {dp un : Nat} {gd : Option (List Code)} {A₀ : Around} {base h₀ : Heap} {env : Env} {outer : List Env} {L : Addr} {m : Str → Option Value} {s : Shared} {Q E : Value → Shared → Prop}
local macro_rules | `(tactic| walk_at "call builtin:list.append") => `(tactic| (k_here; (with_reducible show wpAny _ _ (call (Value.builtin "list.append") [Value.ref _, Value.int _ _]) _ _ _); k_dflt (refine' append_LI ?k1 ?k2 ?k3 ?k4 ?k5 ?_; (case k1 => k_asm); (case k2 => k_asm); (case k3 => k_upd); (case k4 => walk_at "lens"); (case k5 => assumption); k_whole); intro h' F' N' hI'; (try k_sweep)))
local macro_rules | `(tactic| walk_at "subscriptTail Name Slice ref ref") => `(tactic| (k_here; (with_reducible show wpAny _ _ (subscriptTail _ (PySem.Expr.Slice _ _ none _) (Value.ref _) (Value.ref _)) _ _ _); k_dflt (refine' slice_LJ ?zF ?zN ?zl ?zi ?zp ?zq ?zz ?_ ?zs ?zt; (case zF => k_asm); (case zN => k_asm); (case zl => k_mem); (case zi => assumption); (case zp => kmk_part); (case zq => kmk_part); (case zz => walk_at "lens"); (case zs => with_unfolding_all rfl); (case zt => kmk_pure)); intro D' ws' h' F' N' l1 hI' hL'; (have l2' := l1); (try k_lt l2'); (try k_sweep)))
local macro_rules | `(tactic| walk_at "subscriptTail ListComp Slice ref ref") => `(tactic| (k_here; (with_reducible show wpAny _ _ (subscriptTail _ (PySem.Expr.Slice _ _ none _) (Value.ref _) (Value.ref _)) _ _ _); k_dflt (refine' slice_LJ ?zF ?zN ?zl ?zi ?zp ?zq ?zz ?_ ?zs ?zt; (case zF => k_asm); (case zN => k_asm); (case zl => k_mem); (case zi => assumption); (case zp => kmk_part); (case zq => kmk_part); (case zz => walk_at "lens"); (case zs => with_unfolding_all rfl); (case zt => kmk_pure)); intro D' ws' h' F' N' l1 hI' hL'; (have l2' := l1); (try k_lt l2'); (try k_sweep)))
local macro_rules | `(tactic| walk_at "subscriptTail Subscript Slice ref ref") => `(tactic| (k_here; (with_reducible show wpAny _ _ (subscriptTail _ (PySem.Expr.Slice _ _ none _) (Value.ref _) (Value.ref _)) _ _ _); k_dflt (refine' slice_LJ ?zF ?zN ?zl ?zi ?zp ?zq ?zz ?_ ?zs ?zt; (case zF => k_asm); (case zN => k_asm); (case zl => k_mem); (case zi => assumption); (case zp => kmk_part); (case zq => kmk_part); (case zz => walk_at "lens"); (case zs => with_unfolding_all rfl); (case zt => kmk_pure)); intro D' ws' h' F' N' l1 hI' hL'; (have l2' := l1); (try k_lt l2'); (try k_sweep)))
local macro_rules | `(tactic| walk_at "subscriptTail Attribute Slice ref ref") => `(tactic| (k_here; (with_reducible show wpAny _ _ (subscriptTail _ (PySem.Expr.Slice _ _ none _) (Value.ref _) (Value.ref _)) _ _ _); k_dflt (refine' slice_LJ ?zF ?zN ?zl ?zi ?zp ?zq ?zz ?_ ?zs ?zt; (case zF => k_asm); (case zN => k_asm); (case zl => k_mem); (case zi => assumption); (case zp => kmk_part); (case zq => kmk_part); (case zz => walk_at "lens"); (case zs => with_unfolding_all rfl); (case zt => kmk_pure)); intro D' ws' h' F' N' l1 hI' hL'; (have l2' := l1); (try k_lt l2'); (try k_sweep)))
local macro_rules | `(tactic| walk_at "lens") => `(tactic| first | assumption | omega | (simp only [List.flatten_replicate_singleton, List.length_append, List.length_cons, List.length_nil, List.length_map, List.length_range, List.length_replicate, List.length_set]; omega))
local macro_rules | `(tactic| walk_at "sub") => `(tactic| first | exact List.forall_mem_nil _ | (refine' List.forall_mem_cons.mpr ⟨?a, ?b⟩; (case a => k_mem); (case b => walk_at "sub")) | (intro p hp; k_mem))


local macro_rules | `(tactic| walk_at "my_enterP") => `(tactic| (k_dflt (refine' code_def ?k1 ?k2 ?k3 ?k4 ?k5 ?kA ?kF ?kK ?k6 ?k7 ?k8 ?k9 ?kB ?_ ?c2 ?c3 ?c4 ?c5; (case kA => exact rfl); (case kF => assumption); (case kK => assumption); (case k1 => k_asm); (case k2 => k_asm); (case k3 => k_asm); (case k4 => k_asm); (case k5 => k_asm); (case k6 => k_is); (case k7 => k_is); (case k8 => walk_at "room"); (case k9 => exact BindsTo.of_eq rfl); (case c5 => decide); (case kB => exact locs rfl); (case c2 => exact rfl); (case c3 => exact rfl); (case c4 => exact rfl); k_whole; intro g' L' h' FG' F' N' B' X' T'; (try dsimp only); (try k_fold))))
set_option maxHeartbeats 1600000 in
theorem poly_call {news : List (Addr × Obj)} {l : Addr} {vs : List Value} {ns : List Int} {n : Nat} {sh : Int} {t : Tok}
  (B : Below A₀ base outer h₀) (F : Fr h₀ L s.heap m) (X : (hd.heap_39 w.params).In h₀) (N : News h₀ L s.heap news) (T : TopM mean mg mb h₀)
  (hf : env.frame = some L) (hk : env.scope.kind = .function) (hroom : dp + 2 < recursionLimit) (hun : un + 9 < cLine)
  (hl : (l, W.listOf vs.toArray n) ∈ news) (hi : IntsAre vs ns) (h0 : ns ≠ []) (h1 : ns.length ≤ 100) (hs0 : 0 ≤ sh) (hs1 : sh ≤ 100)
  (hret : ∀ (h' : Heap) (tk' : Nat) (x dx r : Addr) (k : Tok) (vr : List Value) (nr : Nat), Fr h₀ L h' m → News h₀ L h' ((x, instObj 144 dx) :: (dx, W.dictOf [⟨PyData.keyHash w.params (Str.ofString "num"), .str (Str.ofString "num") k, .ref r⟩] 1) :: (r, W.listOf vr.toArray nr) :: news) → (∀ p ∈ news, p.1 < x) → (∀ p ∈ news, p.1 < dx) → (∀ p ∈ news, p.1 < r) → IntsAre vr (polyZ ns sh.toNat) → Q (.ref x) { s with heap := h', toks := tk' }) :
  wpAny (model PP w) (AA dp un gd env outer) (call (.ref 144) [.ref l, .int sh t]) Q E s := by
  have hvl := hi.length
  k_dflt (refine' call_cls ?k1 ?k2 ?k3 ?k4 ?k5 ?k6 ?_)
  (case k1 => k_asm)
  (case k2 => k_asm)
  (case k3 => k_asm)
  (case k4 => k_is)
  (case k5 => k_is)
  (case k6 => k_is)
  k_whole
  intro x dx h' F' N' l1 l2
  have n1 : @Ne Nat x dx := Nat.ne_of_gt l2
  have n2 := lt_all_ne l1
  have hpos : 0 < ns.length := List.length_pos_iff.mpr h0
  rw [show (AA dp un gd env outer).under (.builtin "type.__call__" ⟨[.ref 144, .ref l, .int sh t], []⟩) = AA (dp + 1) (un + 1) gd env outer from rfl]
  walk_at "my_enterP"
  walk_at "my_steps"
  refine ⟨?_⟩
  rename_i g0 L0 h00 FG0 B0 X0 T0 tk0 h8 t7 tk9 rr u0 t8 v0 F₁ N₁ R₁
  refine range_loopC ns.length ["zz"] (fun i u nx => nx = (x, instObj 144 dx) :: (dx, dictOf [] 0) :: news ∧ (∀ j, j < i → ns.getD j 0 = 0) ∧ ∃ t, u (Str.ofString "offset") = some (.int ((i - 1 : Nat) : Int) t))
    rfl R₁ (by omega) (by decide) (by decide) (by omega) (by omega) F₁ N₁ ⟨rfl, (fun j hj => absurd hj (Nat.not_lt_zero _)), _, rfl⟩ ?_ ?_
  · rintro i k t I u nx h tk oi hi1 hkk hnx ⟨rfl, q1, e1⟩ F₁ N₁
    have hkk : k = (i : Int) := by omega
    subst hkk
    have n3 : dx ≠ I := (List.forall_mem_cons.mp (List.forall_mem_cons.mp hnx).2).1
    walk_at "my_steps"
    · dsimp only [TPost]
      have hq : leadZ ns = i := leadZ_at hi1 q1 (by assumption)
      walk_at "my_steps"
      rename Fr h₀ L _ m => kF
      rename News h₀ L _ _ => kN
      rename (_ ∧ _ ∧ _ ∧ _ ∧ _ ∧ _ ∧ AllLt _ _) => hq5
      rename IntsAre _ (pickZ _ _ _ _) => hq6
      rename IntsAre _ (List.flatten _) => hq7
      refine hret _ _ x dx _ _ _ _ kF (news_sub kN (by walk_at "sub")) (fun p hp => Nat.lt_trans (l1 p hp) l2) l1 (allLt_lt hq5.2.2.2.2.2.2) ?_
      unfold polyZ
      rw [hq, ← pickZ_from ns i (by omega)]
      exact hq6.append (show IntsAre _ _ from List.flatten_replicate_singleton (n := sh.toNat) (a := (0 : Int)) ▸ hq7)
    · rename Fr _ _ _ _ => F₂
      rename News _ _ _ _ => N₂
      refine tpost_next F₂ N₂ (by k_mem) (by walk_at "sub") hnx ⟨⟨rfl, ?_, _, rfl⟩, by walk_at "keep"⟩
      intro j hj
      by_cases e : j = i
      · rw [e]; assumption
      · exact q1 j (by omega)
  · rintro u nx h tk ⟨rfl, q1, t9, e1⟩ F₁ N₁
    have hq : leadZ ns = ns.length - 1 := leadZ_none q1
    replace F₁ := frx (a := "offset") F₁ (by exact e1)
    walk_at "my_steps"
    rename Fr h₀ L _ m => kF
    rename News h₀ L _ _ => kN
    rename (_ ∧ _ ∧ _ ∧ _ ∧ _ ∧ AllLt _ _) => hq5
    rename IntsAre _ (pickZ _ _ _ _) => hq6
    rename IntsAre _ (List.flatten _) => hq7
    refine hret _ _ x dx _ _ _ _ kF (news_sub kN (by walk_at "sub")) (fun p hp => Nat.lt_trans (l1 p hp) l2) l1 (allLt_lt hq5.2.2.2.2.2) ?_
    unfold polyZ
    rw [hq, ← pickZ_from ns (ns.length - 1) (by omega)]
    exact hq6.append (show IntsAre _ _ from List.flatten_replicate_singleton (n := sh.toNat) (a := (0 : Int)) ▸ hq7)

end Mine
end

theorem Mine.anew_W14 : 1 = 1 := by
  w_top off
  first | walk1 | rfl

/-! part W14 -/
section
open PySem PySem.W PyProof.Rows PySem.Calls PySem.Spec
set_option Elab.async false
namespace Mine
set_option maxRecDepth 100000
theorem fill_W14 {w : World} {h : Heap} : (hd.heap_39 w.params).In h → Challenge.rw_bj0062_01.row.prog = Challenge.rw_bj0062_01.row.prog := by
  k_fill
  intro _
  rfl
local macro_rules | `(tactic| walk_at "my_enter") => `(tactic| (refine wpAny_call ?_; k_dflt (refine' code_def ?k1 ?k2 ?k3 ?k4 ?k5 ?kA ?kF ?kK ?k6 ?k7 ?k8 ?k9 ?kB ?_ ?c2 ?c3 ?c4 ?c5; (case kA => exact rfl); (case kF => assumption); (case kK => assumption); (case k1 => k_asm); (case k2 => k_asm); (case k3 => k_asm); (case k4 => k_asm); (case k5 => k_asm); (case k6 => k_is); (case k7 => k_is); (case k8 => walk_at "room"); (case k9 => exact BindsTo.of_eq rfl); (case c5 => decide); (case kB => exact locs rfl); (case c2 => exact rfl); (case c3 => exact rfl); (case c4 => exact rfl); k_whole; intro g' L' h' FG' F' N' B' X' T'; (try dsimp only); (try k_fold))))
local macro_rules | `(tactic| walk_at "my_steps") => `(tactic| repeat' (first | (k_unfold; (try dsimp only)) | walk1 | (dsimp only; walk1)))
local macro_rules | `(tactic| walk_at "setItem ref int") => `(tactic| (k_here; (with_reducible show wpAny _ _ (setItem (Value.ref _) (Value.int _ _) _) _ _ _); k_dflt (refine' set_listK ?k1 ?k2 ?k3 ?k5 ?k6 ?k7 ?_; (case k1 => k_asm); (case k2 => k_asm); (case k3 => k_upd); (case k5 => first | omega | ksa_idx); (case k6 => first | omega | (simp; done) | (simp; omega)); (case k7 => first | omega | ksa_idx); k_whole); intro h' F' N'; (try k_sweep)))
local macro_rules | `(tactic| k_ne) => `(tactic| first | assumption | exact Ne.symm (by assumption) | (refine neN ?_; (try dsimp only); omega))
local macro_rules | `(tactic| k_all) => `(tactic| first | assumption | exact lt_all_ne (by assumption) | exact lt_all_sub (by assumption) (by walk_at "sub") | exact ne_all_sub (by assumption) (by walk_at "sub") | exact allLt_ne (by assumption) | exact allLt_ne (And.right (by assumption)) | exact allLt_ne (And.right (And.right (by assumption))) | exact allLt_ne (And.right (And.right (And.right (by assumption)))) | exact allLt_ne (And.right (And.right (And.right (And.right (by assumption))))) | exact allLt_ne (And.right (And.right (And.right (And.right (And.right (by assumption)))))) | exact allLt_ne (And.right (And.right (And.right (And.right (And.right (And.right (by assumption))))))) | exact allLt_ne (And.right (And.right (And.right (And.right (And.right (And.right (And.right (by assumption)))))))) | exact allLt_ne (And.right (And.right (And.right (And.right (And.right (And.right (And.right (And.right (by assumption))))))))) | exact allLt_ne (And.right (And.right (And.right (And.right (And.right (And.right (And.right (And.right (And.right (by assumption)))))))))) | exact lt_all_off (by assumption) (by omega) | exact off1_sub (by assumption) (by walk_at "sub") | exact List.forall_mem_nil _ | (refine' List.forall_mem_cons.mpr ⟨?a, ?b⟩; (case a => k_ne); (case b => k_all)))
local macro_rules | `(tactic| walk_at "call builtin:list.append") => `(tactic| (k_here; (with_reducible show wpAny _ _ (call (Value.builtin "list.append") [Value.ref _, _]) _ _ _); k_dflt (refine' append_L ?k1 ?k2 ?k3 ?k4 ?_; (case k1 => k_asm); (case k2 => k_asm); (case k3 => k_upd); (case k4 => walk_at "lens"); k_whole); intro h' F' N'; (try k_sweep)))
local macro_rules | `(tactic| walk_at "lens") => `(tactic| first | assumption | omega | (simp only [List.length_append, List.length_cons, List.length_nil, List.length_map, List.length_range, List.length_replicate, List.length_set]; omega))
local macro_rules | `(tactic| walk_at "ints") => `(tactic| first | omega | (simp only [decide_eq_true_eq, decide_eq_false_iff_not, Bool.not_eq_true, beq_iff_eq, beq_eq_false_iff_ne, ne_eq] at *; omega) | (trace_state; fail "ints"))
local macro_rules | `(tactic| walk_at "fld_in") => `(tactic| first | assumption | exact FieldIn.tail (by assumption) | exact FieldIn.tail (FieldIn.tail (by assumption)) | exact FieldIn.tail (FieldIn.tail (FieldIn.tail (by assumption))) | exact FieldIn.tail (FieldIn.tail (FieldIn.tail (FieldIn.tail (by assumption)))) | exact FieldIn.tail (FieldIn.tail (FieldIn.tail (FieldIn.tail (FieldIn.tail (by assumption))))) | exact FieldIn.tail (FieldIn.tail (FieldIn.tail (FieldIn.tail (FieldIn.tail (FieldIn.tail (by assumption)))))) | exact FieldIn.tail (FieldIn.tail (FieldIn.tail (FieldIn.tail (FieldIn.tail (FieldIn.tail (FieldIn.tail (by assumption))))))) | exact FieldIn.tail (FieldIn.tail (FieldIn.tail (FieldIn.tail (FieldIn.tail (FieldIn.tail (FieldIn.tail (FieldIn.tail (by assumption)))))))) | exact FieldIn.tail (FieldIn.tail (FieldIn.tail (FieldIn.tail (FieldIn.tail (FieldIn.tail (FieldIn.tail (FieldIn.tail (FieldIn.tail (by assumption))))))))) | exact FieldIn.tail (FieldIn.tail (FieldIn.tail (FieldIn.tail (FieldIn.tail (FieldIn.tail (FieldIn.tail (FieldIn.tail (FieldIn.tail (FieldIn.tail (by assumption)))))))))) | exact FieldIn.tail (FieldIn.tail (FieldIn.tail (FieldIn.tail (FieldIn.tail (FieldIn.tail (FieldIn.tail (FieldIn.tail (FieldIn.tail (FieldIn.tail (FieldIn.tail (by assumption))))))))))) | exact FieldIn.tail (FieldIn.tail (FieldIn.tail (FieldIn.tail (FieldIn.tail (FieldIn.tail (FieldIn.tail (FieldIn.tail (FieldIn.tail (FieldIn.tail (FieldIn.tail (FieldIn.tail (by assumption)))))))))))))
local macro_rules | `(tactic| k_mem) => `(tactic| first | assumption | exact List.Mem.head _ | (refine' List.Mem.tail _ ?_; k_mem))
local macro_rules | `(tactic| walk_at "subscriptTail") => `(tactic| (k_here; (with_reducible show wpAny _ _ (subscriptTail _ _ (Value.ref _) (Value.int 0 _)) _ _ _); k_dflt (refine' fld_0 ?k1 ?k2 ?_ ?k4; (case k1 => k_asm); (case k2 => walk_at "fld_in"); (case k4 => with_unfolding_all rfl); k_whole)))
local macro_rules | `(tactic| walk_at "subscriptTail Name Constant ref int") => `(tactic| (k_here; (with_reducible show wpAny _ _ (subscriptTail _ _ (Value.ref _) (Value.int 0 _)) _ _ _); k_dflt (refine' fld_0 ?k1 ?k2 ?_ ?k4; (case k1 => k_asm); (case k2 => walk_at "fld_in"); (case k4 => with_unfolding_all rfl); k_whole)))
local macro_rules | `(tactic| walk_at "subscriptTail") => `(tactic| (k_here; (with_reducible show wpAny _ _ (subscriptTail _ _ (Value.ref _) (Value.int 1 _)) _ _ _); k_dflt (refine' fld_1 ?k1 ?k2 ?_ ?k4; (case k1 => k_asm); (case k2 => walk_at "fld_in"); (case k4 => with_unfolding_all rfl); k_whole)))
local macro_rules | `(tactic| walk_at "subscriptTail Name Constant ref int") => `(tactic| (k_here; (with_reducible show wpAny _ _ (subscriptTail _ _ (Value.ref _) (Value.int 1 _)) _ _ _); k_dflt (refine' fld_1 ?k1 ?k2 ?_ ?k4; (case k1 => k_asm); (case k2 => walk_at "fld_in"); (case k4 => with_unfolding_all rfl); k_whole)))
local macro_rules | `(tactic| walk_at "subscriptTail") => `(tactic| (k_here; (with_reducible show wpAny _ _ (subscriptTail _ _ (Value.ref _) (Value.int _ _)) _ _ _); k_dflt (refine' fld_pow ?k1 ?k2 ?k5 ?k6 ?_ ?k4; (case k1 => k_asm); (case k2 => walk_at "fld_in"); (case k5 => first | omega | exact (fmod255 _).1); (case k6 => first | omega | exact (fmod255 _).2); (case k4 => with_unfolding_all rfl); k_whole); intro _))
local macro_rules | `(tactic| walk_at "subscriptTail Subscript Name Constant BinOp ref int") => `(tactic| (k_here; (with_reducible show wpAny _ _ (subscriptTail _ _ (Value.ref _) (Value.int _ _)) _ _ _); k_dflt (refine' fld_pow ?k1 ?k2 ?k5 ?k6 ?_ ?k4; (case k1 => k_asm); (case k2 => walk_at "fld_in"); (case k5 => first | omega | exact (fmod255 _).1); (case k6 => first | omega | exact (fmod255 _).2); (case k4 => with_unfolding_all rfl); k_whole); intro _))
local macro_rules | `(tactic| walk_at "subscriptTail Subscript Name Constant Name ref int") => `(tactic| (k_here; (with_reducible show wpAny _ _ (subscriptTail _ _ (Value.ref _) (Value.int _ _)) _ _ _); k_dflt (refine' fld_pow ?k1 ?k2 ?k5 ?k6 ?_ ?k4; (case k1 => k_asm); (case k2 => walk_at "fld_in"); (case k5 => first | omega | exact (fmod255 _).1); (case k6 => first | omega | exact (fmod255 _).2); (case k4 => with_unfolding_all rfl); k_whole); intro _))
local macro_rules | `(tactic| walk_at "subscriptTail Subscript Name Constant Subscript ref int") => `(tactic| (k_here; (with_reducible show wpAny _ _ (subscriptTail _ _ (Value.ref _) (Value.int _ _)) _ _ _); k_dflt (refine' fld_pow ?k1 ?k2 ?k5 ?k6 ?_ ?k4; (case k1 => k_asm); (case k2 => walk_at "fld_in"); (case k5 => first | omega | exact (fmod255 _).1); (case k6 => first | omega | exact (fmod255 _).2); (case k4 => with_unfolding_all rfl); k_whole); intro _))
local macro_rules | `(tactic| walk_at "subscriptTail") => `(tactic| (k_here; (with_reducible show wpAny _ _ (subscriptTail _ _ (Value.ref _) (Value.int _ _)) _ _ _); k_dflt (refine' fld_log ?k1 ?k2 ?k5 ?k6 ?_ ?k4; (case k1 => k_asm); (case k2 => walk_at "fld_in"); (case k5 => walk_at "ints"); (case k6 => walk_at "ints"); (case k4 => with_unfolding_all rfl); k_whole); intro _))
local macro_rules | `(tactic| walk_at "subscriptTail Subscript Name Constant BinOp ref int") => `(tactic| (k_here; (with_reducible show wpAny _ _ (subscriptTail _ _ (Value.ref _) (Value.int _ _)) _ _ _); k_dflt (refine' fld_log ?k1 ?k2 ?k5 ?k6 ?_ ?k4; (case k1 => k_asm); (case k2 => walk_at "fld_in"); (case k5 => walk_at "ints"); (case k6 => walk_at "ints"); (case k4 => with_unfolding_all rfl); k_whole); intro _))
local macro_rules | `(tactic| walk_at "subscriptTail Subscript Name Constant Name ref int") => `(tactic| (k_here; (with_reducible show wpAny _ _ (subscriptTail _ _ (Value.ref _) (Value.int _ _)) _ _ _); k_dflt (refine' fld_log ?k1 ?k2 ?k5 ?k6 ?_ ?k4; (case k1 => k_asm); (case k2 => walk_at "fld_in"); (case k5 => walk_at "ints"); (case k6 => walk_at "ints"); (case k4 => with_unfolding_all rfl); k_whole); intro _))
local macro_rules | `(tactic| walk_at "subscriptTail Subscript Name Constant Subscript ref int") => `(tactic| (k_here; (with_reducible show wpAny _ _ (subscriptTail _ _ (Value.ref _) (Value.int _ _)) _ _ _); k_dflt (refine' fld_log ?k1 ?k2 ?k5 ?k6 ?_ ?k4; (case k1 => k_asm); (case k2 => walk_at "fld_in"); (case k5 => walk_at "ints"); (case k6 => walk_at "ints"); (case k4 => with_unfolding_all rfl); k_whole); intro _))

local macro_rules | `(tactic| walk_at "pyIter ref") => `(tactic| ((with_reducible show wpAny _ _ (pyIter (Value.ref _)) (fun it s₂ => LoopAtV _ _ _ _ _ _ _ _ _ it s₂) _ _); refine Stopped.out ?_))
local macro_rules | `(tactic| walk_at "exec For Name Call cons nil") => `(tactic| (k_here; (rename Fr _ _ _ _ => lF'); (with_unfolding_all refine' For_invVF lF' ?k1 ?k2 ?_; (case k1 => exact rfl); (case k2 => exact rfl); k_whole)))
local macro_rules | `(tactic| walk_at "exec For Name Name cons nil") => `(tactic| (k_here; (rename Fr _ _ _ _ => lF'); (with_unfolding_all refine' For_invVF lF' ?k1 ?k2 ?_; (case k1 => exact rfl); (case k2 => exact rfl); k_whole)))
local macro_rules | `(tactic| walk_at "call type:range") => `(tactic| (k_here; (with_reducible show wpAny _ _ (call (Value.type "range") [Value.int _ _]) _ _ _); k_dflt (refine' range1_K ?k1 ?k2 ?_; (case k1 => k_asm); (case k2 => k_asm); k_whole); intro r' h' u' v' tk' F' N' R'; (try k_sweep)))
local macro_rules | `(tactic| walk_at "call type:range") => `(tactic| (k_here; (with_reducible show wpAny _ _ (call (Value.type "range") [Value.int _ _, Value.int _ _]) _ _ _); k_dflt (refine' range2_K ?k1 ?k2 ?_; (case k1 => k_asm); (case k2 => k_asm); k_whole); intro r' h' v' tk' F' N' R'; (try k_sweep)))
local macro_rules | `(tactic| walk_at "room") => `(tactic| first | assumption | omega | ((simp only [depth_in1, depth_deeper, units_in1, units_deeper, Around.mark_units]); omega))

local macro_rules | `(tactic| is_list) => `(tactic| (refine' isList_of ?a ?b; (case a => k_asm); (case b => k_mem)))
local macro_rules | `(tactic| walk_at "call builtin:len") => `(tactic| (k_here; (with_reducible show wpAny _ _ (call (Value.builtin "len") [Value.ref _]) _ _ _); k_dflt (refine' len_L ?k2 ?k3 ?k4 ?_; (case k2 => k_asm); (case k3 => k_mem); (case k4 => walk_at "lens"); k_whole); intro t' tk'; (try k_sweep)))
local macro_rules | `(tactic| walk_at "binaryOp Add ref ref") => `(tactic| (k_here; (with_reducible show wpAny _ _ (binaryOp Operator.Add (Value.ref _) (Value.ref _)) _ _ _); k_dflt (refine' add_L ?k1 ?k2 ?k3 ?k4 ?k5 ?_; (case k1 => k_asm); (case k2 => k_asm); (case k3 => k_mem); (case k4 => k_mem); (case k5 => walk_at "lens"); k_whole); intro r' h' F' N' hl'; (have hl2' := hl'); (try k_lt hl2'); (try k_sweep)))

local macro_rules | `(tactic| walk_at "sub") => `(tactic| first | (refine' List.forall_mem_cons.mpr ⟨?a, ?b⟩; (case a => k_mem); (case b => walk_at "sub")) | (intro p hp; k_mem))

local macro_rules | `(tactic| walk_at "keep") => `(tactic| first | exact keep_base | exact keep_refl | (refine keep_x ?_; walk_at "keep") | (refine keep_upd (by decide) ?_; walk_at "keep") | (refine keep_in (by decide) ?_; walk_at "keep"))

local macro_rules | `(tactic| walk_at "CompSrc") => `(tactic| refine Stopped.out ?_)
local macro_rules | `(tactic| walk_at "my_enterC") => `(tactic| (refine wpAny_call ?_; k_dflt (refine' code_defC ?k1 ?k2 ?k3 ?k4 ?k5 ?kA ?kF ?kK ?k6 ?k7 ?k8 ?k9 ?kB ?kD ?_ ?c2 ?c3 ?c4; (case kA => exact rfl); (case kF => assumption); (case kK => assumption); (case k1 => k_asm); (case k2 => k_asm); (case k3 => k_asm); (case k4 => k_asm); (case k5 => k_asm); (case k6 => k_is); (case k7 => k_is); (case k8 => walk_at "room"); (case k9 => exact BindsTo.of_eq rfl); (case kB => exact rfl); (case kD => decide +kernel); (case c2 => exact rfl); (case c3 => exact rfl); (case c4 => exact rfl); k_whole; intro g' L' h' tk' cells' FG' F' N' Y' B' X' T' l1; k_cells Y'; (try simp only [List.cons_append, List.nil_append] at N'); (try dsimp only); (try k_fold))))

local macro_rules | `(tactic| walk_at "subscriptTail Name Slice ref ref") => `(tactic| (k_here; (with_reducible show wpAny _ _ (subscriptTail _ (PySem.Expr.Slice _ _ _ _) (Value.ref _) (Value.ref _)) _ _ _); k_dflt (refine' slice_LI ?zF ?zN ?zl ?zi ?zp ?zq ?zk ?zo ?zz ?_ ?zs; (case zF => k_asm); (case zN => k_asm); (case zl => k_mem); (case zi => assumption); (case zp => kmk_part); (case zq => kmk_part); (case zk => kmk_part); (case zo => decide); (case zz => walk_at "lens"); (case zs => with_unfolding_all rfl)); intro D' ws' h' F' N' l1 hI' hL'; (have l2' := l1); (try k_lt l2'); (try k_sweep)))
local macro_rules | `(tactic| walk_at "subscriptTail ListComp Slice ref ref") => `(tactic| (k_here; (with_reducible show wpAny _ _ (subscriptTail _ (PySem.Expr.Slice _ _ _ _) (Value.ref _) (Value.ref _)) _ _ _); k_dflt (refine' slice_LI ?zF ?zN ?zl ?zi ?zp ?zq ?zk ?zo ?zz ?_ ?zs; (case zF => k_asm); (case zN => k_asm); (case zl => k_mem); (case zi => assumption); (case zp => kmk_part); (case zq => kmk_part); (case zk => kmk_part); (case zo => decide); (case zz => walk_at "lens"); (case zs => with_unfolding_all rfl)); intro D' ws' h' F' N' l1 hI' hL'; (have l2' := l1); (try k_lt l2'); (try k_sweep)))
local macro_rules | `(tactic| walk_at "subscriptTail Subscript Slice ref ref") => `(tactic| (k_here; (with_reducible show wpAny _ _ (subscriptTail _ (PySem.Expr.Slice _ _ _ _) (Value.ref _) (Value.ref _)) _ _ _); k_dflt (refine' slice_LI ?zF ?zN ?zl ?zi ?zp ?zq ?zk ?zo ?zz ?_ ?zs; (case zF => k_asm); (case zN => k_asm); (case zl => k_mem); (case zi => assumption); (case zp => kmk_part); (case zq => kmk_part); (case zk => kmk_part); (case zo => decide); (case zz => walk_at "lens"); (case zs => with_unfolding_all rfl)); intro D' ws' h' F' N' l1 hI' hL'; (have l2' := l1); (try k_lt l2'); (try k_sweep)))
local macro_rules | `(tactic| walk_at "subscriptTail Attribute Slice ref ref") => `(tactic| (k_here; (with_reducible show wpAny _ _ (subscriptTail _ (PySem.Expr.Slice _ _ _ _) (Value.ref _) (Value.ref _)) _ _ _); k_dflt (refine' slice_LI ?zF ?zN ?zl ?zi ?zp ?zq ?zk ?zo ?zz ?_ ?zs; (case zF => k_asm); (case zN => k_asm); (case zl => k_mem); (case zi => assumption); (case zp => kmk_part); (case zq => kmk_part); (case zk => kmk_part); (case zo => decide); (case zz => walk_at "lens"); (case zs => with_unfolding_all rfl)); intro D' ws' h' F' N' l1 hI' hL'; (have l2' := l1); (try k_lt l2'); (try k_sweep)))
local macro_rules | `(tactic| walk_at "subscriptTail Name Name ref ref") => `(tactic| (k_here; (with_reducible show wpAny _ _ (subscriptTail _ _ (Value.ref _) (Value.ref _)) _ _ _); k_dflt (refine' slice_LI ?zF ?zN ?zl ?zi ?zp ?zq ?zk ?zo ?zz ?_ ?zs; (case zF => k_asm); (case zN => k_asm); (case zl => k_mem); (case zi => assumption); (case zp => kmk_part); (case zq => kmk_part); (case zk => kmk_part); (case zo => decide); (case zz => walk_at "lens"); (case zs => with_unfolding_all rfl)); intro D' ws' h' F' N' l1 hI' hL'; (have l2' := l1); (try k_lt l2'); (try k_sweep)))
local macro_rules | `(tactic| walk_at "subscriptTail Attribute Name ref ref") => `(tactic| (k_here; (with_reducible show wpAny _ _ (subscriptTail _ _ (Value.ref _) (Value.ref _)) _ _ _); k_dflt (refine' slice_LI ?zF ?zN ?zl ?zi ?zp ?zq ?zk ?zo ?zz ?_ ?zs; (case zF => k_asm); (case zN => k_asm); (case zl => k_mem); (case zi => assumption); (case zp => kmk_part); (case zq => kmk_part); (case zk => kmk_part); (case zo => decide); (case zz => walk_at "lens"); (case zs => with_unfolding_all rfl)); intro D' ws' h' F' N' l1 hI' hL'; (have l2' := l1); (try k_lt l2'); (try k_sweep)))

variable {w : World} {mean : ExcName → Option Value} {mg mb : Str → Option Value} {dp un : Nat} {gd : Option (List Code)} {A₀ : Around} {base h₀ : Heap} {env : Env} {outer : List Env} {L : Addr} {m : Str → Option Value} {s : Shared} {Q E : Value → Shared → Prop}
local macro_rules | `(tactic| walk_at "call builtin:list.append") => `(tactic| (k_here; (with_reducible show wpAny _ _ (call (Value.builtin "list.append") [Value.ref _, Value.int _ _]) _ _ _); k_dflt (refine' append_LI ?k1 ?k2 ?k3 ?k4 ?k5 ?_; (case k1 => k_asm); (case k2 => k_asm); (case k3 => k_upd); (case k4 => walk_at "lens"); (case k5 => assumption); k_whole); intro h' F' N' hI'; (try k_sweep)))
local macro_rules | `(tactic| walk_at "subscriptTail Name Slice ref ref") => `(tactic| (k_here; (with_reducible show wpAny _ _ (subscriptTail _ (PySem.Expr.Slice _ _ none _) (Value.ref _) (Value.ref _)) _ _ _); k_dflt (refine' slice_LJ ?zF ?zN ?zl ?zi ?zp ?zq ?zz ?_ ?zs ?zt; (case zF => k_asm); (case zN => k_asm); (case zl => k_mem); (case zi => assumption); (case zp => kmk_part); (case zq => kmk_part); (case zz => walk_at "lens"); (case zs => with_unfolding_all rfl); (case zt => kmk_pure)); intro D' ws' h' F' N' l1 hI' hL'; (have l2' := l1); (try k_lt l2'); (try k_sweep)))
local macro_rules | `(tactic| walk_at "subscriptTail ListComp Slice ref ref") => `(tactic| (k_here; (with_reducible show wpAny _ _ (subscriptTail _ (PySem.Expr.Slice _ _ none _) (Value.ref _) (Value.ref _)) _ _ _); k_dflt (refine' slice_LJ ?zF ?zN ?zl ?zi ?zp ?zq ?zz ?_ ?zs ?zt; (case zF => k_asm); (case zN => k_asm); (case zl => k_mem); (case zi => assumption); (case zp => kmk_part); (case zq => kmk_part); (case zz => walk_at "lens"); (case zs => with_unfolding_all rfl); (case zt => kmk_pure)); intro D' ws' h' F' N' l1 hI' hL'; (have l2' := l1); (try k_lt l2'); (try k_sweep)))
local macro_rules | `(tactic| walk_at "subscriptTail Subscript Slice ref ref") => `(tactic| (k_here; (with_reducible show wpAny _ _ (subscriptTail _ (PySem.Expr.Slice _ _ none _) (Value.ref _) (Value.ref _)) _ _ _); k_dflt (refine' slice_LJ ?zF ?zN ?zl ?zi ?zp ?zq ?zz ?_ ?zs ?zt; (case zF => k_asm); (case zN => k_asm); (case zl => k_mem); (case zi => assumption); (case zp => kmk_part); (case zq => kmk_part); (case zz => walk_at "lens"); (case zs => with_unfolding_all rfl); (case zt => kmk_pure)); intro D' ws' h' F' N' l1 hI' hL'; (have l2' := l1); (try k_lt l2'); (try k_sweep)))
local macro_rules | `(tactic| walk_at "subscriptTail Attribute Slice ref ref") => `(tactic| (k_here; (with_reducible show wpAny _ _ (subscriptTail _ (PySem.Expr.Slice _ _ none _) (Value.ref _) (Value.ref _)) _ _ _); k_dflt (refine' slice_LJ ?zF ?zN ?zl ?zi ?zp ?zq ?zz ?_ ?zs ?zt; (case zF => k_asm); (case zN => k_asm); (case zl => k_mem); (case zi => assumption); (case zp => kmk_part); (case zq => kmk_part); (case zz => walk_at "lens"); (case zs => with_unfolding_all rfl); (case zt => kmk_pure)); intro D' ws' h' F' N' l1 hI' hL'; (have l2' := l1); (try k_lt l2'); (try k_sweep)))
local macro_rules | `(tactic| walk_at "lens") => `(tactic| first | assumption | omega | (simp only [List.flatten_replicate_singleton, List.length_append, List.length_cons, List.length_nil, List.length_map, List.length_range, List.length_replicate, List.length_set]; omega))
local macro_rules | `(tactic| walk_at "sub") => `(tactic| first | exact List.forall_mem_nil _ | (refine' List.forall_mem_cons.mpr ⟨?a, ?b⟩; (case a => k_mem); (case b => walk_at "sub")) | (intro p hp; k_mem))


section
variable {prog : Program} {A : Around} {K : Frag} {x C f l D : Addr} {ox : Obj} {od : Option Obj} {news : List (Addr × Obj)} {vs : List Value} {ns : List Int} {n : Nat} {vl vu : Value} {lo up : Option Int}
/-- an object whose class has a `__getitem__` of the text is asked in the way of the text -/
theorem getitem_own (F : Fr h₀ L s.heap m) (X₀ : K.In h₀) (I : InstAt s.heap x ox C od) (has : findIn K (.ref C) "__getitem__" = some (some (.ref f))) (fn : fnIn K f = true) :
    wpAny (model prog w) A (getitemInPython (.ref x)) (fun b s' => b = true ∧ s' = s) E s := by
  have here := X₀.keeps F.keep
  obtain ⟨c, d, g, sl, at_⟩ : ∃ c d g sl, K.lookup f = some ⟨c, d, .func g, sl⟩ := by
    unfold fnIn at fn
    split at fn
    · exact ⟨_, _, _, _, by assumption⟩
    · exact nomatch fn
  unfold getitemInPython
  apply wpAny_bind
  apply wpAny_bind
  apply I.type.here
  apply (looks_findIn here has).here
  apply wpAny_bind
  apply wpAny_load (here _ _ at_)
  exact wpAny_pure ⟨rfl, rfl⟩
theorem sub_KS {value slice : PySem.Expr} {i : Value} {Q : Value → Shared → Prop} (F : Fr h₀ L s.heap m) (X₀ : K.In h₀) (I : InstAt s.heap x ox C od) (has : findIn K (.ref C) "__getitem__" = some (some (.ref f))) (fn : fnIn K f = true) (is : isFn K (.ref f) = true) (nseq : noSeq K C = true)
    (body : wpAny (model prog w) A (call (.ref f) [.ref x, i]) Q E s) (road : subscripted slice true (.ref x) i = operate [i, .ref x] (getItem (.ref x) i) := by with_unfolding_all rfl) :
    wpAny (model prog w) A (subscriptTail value slice (.ref x) i) Q E s := by
  have item := getItem_K F X₀ I nseq has is (Q := fun v s' => wpAny (model prog w) A (letTemporaryGo value (.ref x) v) (fun _ => Q v) E s') (wpAny_mono body (fun v s' z => wpAny_letTemporaryGo z) fun _ _ e => e)
  apply wpAny_bind
  apply wpAny_mono (getitem_own F X₀ I has fn) ?_ fun _ _ e => e
  rintro _ _ ⟨rfl, rfl⟩
  rw [road]
  apply wpAny_bind
  apply wpAny_operateT
  apply wpAny_mono item ?_ fun _ _ e => e
  intro v s' z
  apply wpAny_bind
  exact wpAny_mono z (fun _ _ q => wpAny_pure q) fun _ _ e => e
theorem slice_LN {value slice : PySem.Expr} {Q : Value → Shared → Prop} (F : Fr h₀ L s.heap m) (N : News h₀ L s.heap news) (hD : (D, ({ cls := .type "slice", data := .fields #[vl, vu, .none] } : Obj)) ∈ news) (hl : (l, W.listOf vs.toArray n) ∈ news) (hi : IntsAre vs ns) (pl : IsPart vl lo) (pu : IsPart vu up) (hz : vs.length ≤ 100000)
    (h : ∀ D ws h', Fr h₀ L h' m → News h₀ L h' ((D, W.listOf (List.toArray ws) 0) :: news) → (∀ p ∈ news, p.1 < D) → IntsAre ws (pickZ ns lo up none) → ws.length ≤ vs.length → Q (.ref D) { s with heap := h' })
    (hs : subscripted slice false (.ref l) (.ref D) = operate [.ref l, .ref D] (getItem (.ref l) (.ref D))) :
    wpAny (model prog w) A (subscriptTail value slice (.ref l) (.ref D)) Q E s := by
  have hL := isList_of N hl
  refine tail_any (Heap.IsList.typeIs (s := s) hL) list_getitem_lookup
    (wpAny_getItem_list_slice hL ⟨_, (N _ hD).1, rfl, rfl⟩ pl pu IsPart.none (by decide) ?_ (by rw [sizeLine_eq, List.size_toArray]; omega)) hs
  have N1 := News.push F N { cls := .type "list", data := .seq (slicePick vs.toArray lo up none) }
  have e : slicePick vs.toArray lo up none = (slicePick vs.toArray lo up none).toList.toArray := by simp
  exact h _ (slicePick vs.toArray lo up none).toList _ (F.push _) (by rw [← e]; exact N1) (fun p hp => Heap.lt_size (N p hp).1) (pick_ints hi) pick_le
end
local macro_rules | `(tactic| walk_at "subscriptTail Name Name ref ref") => `(tactic| (k_here; (with_reducible show wpAny _ _ (subscriptTail _ _ (Value.ref _) (Value.ref _)) _ _ _); k_dflt (refine' slice_LN ?zF ?zN ?zd ?zl ?zi ?zp ?zq ?zz ?_ ?zs; (case zF => k_asm); (case zN => k_asm); (case zd => k_mem); (case zl => k_mem); (case zi => assumption); (case zp => first | assumption | kmk_part); (case zq => first | assumption | kmk_part); (case zz => walk_at "lens"); (case zs => with_unfolding_all rfl)); intro D' ws' h' F' N' l1 hI' hL'; (have l2' := l1); (try k_lt l2'); (try k_sweep)))
/-- a Polynomial of the words ns lies in the ledger -/
structure PolyIn (w : World) (news : List (Addr × Obj)) (x : Addr) (ns : List Int) : Prop where
  ex : ∃ dx r k vr nr, (x, instObj 144 dx) ∈ news ∧ (dx, W.dictOf [⟨PyData.keyHash w.params (Str.ofString "num"), .str (Str.ofString "num") k, .ref r⟩] 1) ∈ news ∧ (r, W.listOf vr.toArray nr) ∈ news ∧ IntsAre vr ns
theorem PolyIn.mono {news news' : List (Addr × Obj)} {x : Addr} {ns : List Int} (H : PolyIn w news x ns) (hs : ∀ p ∈ news, p ∈ news') : PolyIn w news' x ns := by
  obtain ⟨dx, r, k, vr, nr, a, b, c, d⟩ := H
  exact ⟨dx, r, k, vr, nr, hs _ a, hs _ b, hs _ c, d⟩
theorem PolyIn.tail {news : List (Addr × Obj)} {p : Addr × Obj} {x : Addr} {ns : List Int} (H : PolyIn w news x ns) : PolyIn w (p :: news) x ns := H.mono fun _ hp => .tail _ hp
set_option maxHeartbeats 1600000 in
theorem plen_call {news : List (Addr × Obj)} {x : Addr} {ns : List Int}
  (B : Below A₀ base outer h₀) (F : Fr h₀ L s.heap m) (X : (hd.heap_39 w.params).In h₀) (N : News h₀ L s.heap news) (T : TopM mean mg mb h₀)
  (hf : env.frame = some L) (hk : env.scope.kind = .function) (hroom : dp + 2 < recursionLimit) (hun : un + 16 < cLine)
  (H : PolyIn w news x ns) (h1 : ns.length ≤ 1000)
  (hret : ∀ (h' : Heap) (tk' : Nat) (t : Tok), Fr h₀ L h' m → News h₀ L h' news → Q (.int (ns.length : Int) t) { s with heap := h', toks := tk' }) :
  wpAny (model PP w) (AA dp un gd env outer) (call (.builtin "len") [.ref x]) Q E s := by
  obtain ⟨dx, r, k, vr, nr, a, b, c, d⟩ := H
  have hvl := d.length
  replace N : News h₀ L s.heap ((x, instObj 144 dx) :: (dx, W.dictOf [⟨PyData.keyHash w.params (Str.ofString "num"), .str (Str.ofString "num") k, .ref r⟩] 1) :: (r, W.listOf vr.toArray nr) :: news) := news_sub N (List.forall_mem_cons.mpr ⟨a, List.forall_mem_cons.mpr ⟨b, List.forall_mem_cons.mpr ⟨c, fun p hp => hp⟩⟩⟩)
  walk_at "my_steps"
  walk_at "my_enter"
  walk_at "my_steps"
  rename Fr h₀ L _ m => kF
  rename News h₀ L _ _ => kN
  rw [hvl]
  exact hret _ _ _ kF (news_sub kN fun p hp => .tail _ (.tail _ (.tail _ hp)))
set_option maxHeartbeats 1600000 in
theorem pitem_call {news : List (Addr × Obj)} {x : Addr} {ns : List Int} {i : Int} {u : Tok} {value slice : PySem.Expr}
  (B : Below A₀ base outer h₀) (F : Fr h₀ L s.heap m) (X : (hd.heap_39 w.params).In h₀) (N : News h₀ L s.heap news) (T : TopM mean mg mb h₀)
  (hf : env.frame = some L) (hk : env.scope.kind = .function) (hroom : dp + 2 < recursionLimit) (hun : un + 16 < cLine)
  (H : PolyIn w news x ns) (h1 : ns.length ≤ 1000) (i0 : 0 ≤ i) (i1 : i < ns.length)
  (hret : ∀ (h' : Heap) (tk' : Nat) (t : Tok), Fr h₀ L h' m → News h₀ L h' news → Q (.int (ns.getD i.toNat 0) t) { s with heap := h', toks := tk' })
  (hsl : subscripted slice true (.ref x) (.int i u) = runValue (.builtin "lifetime.subscript" ⟨[.ref x, .int i u], []⟩)) :
  wpAny (model PP w) (AA dp un gd env outer) (subscriptTail value slice (.ref x) (.int i u)) Q E s := by
  obtain ⟨dx, r, k, vr, nr, a, b, c, d⟩ := H
  have hvl := d.length
  replace N : News h₀ L s.heap ((x, instObj 144 dx) :: (dx, W.dictOf [⟨PyData.keyHash w.params (Str.ofString "num"), .str (Str.ofString "num") k, .ref r⟩] 1) :: (r, W.listOf vr.toArray nr) :: news) := news_sub N (List.forall_mem_cons.mpr ⟨a, List.forall_mem_cons.mpr ⟨b, List.forall_mem_cons.mpr ⟨c, fun p hp => hp⟩⟩⟩)
  k_dflt (refine' sub_K ?k1 ?k2 ?k3 ?k4 ?k5 ?k6 ?_ hsl)
  (case k1 => k_asm)
  (case k2 => k_asm)
  (case k3 => k_inst)
  (case k4 => k_is)
  (case k5 => k_is)
  (case k6 => k_is)
  k_whole
  walk_at "my_enter"
  walk_at "my_steps"
  rename Fr h₀ L _ m => kF
  rename News h₀ L _ _ => kN
  exact hret _ _ _ kF (news_sub kN fun p hp => .tail _ (.tail _ (.tail _ hp)))
set_option maxHeartbeats 1600000 in
theorem pslice_call {news : List (Addr × Obj)} {x : Addr} {ns : List Int} {vl vu : Value} {lo up : Option Int} {value slice : PySem.Expr}
  (B : Below A₀ base outer h₀) (F : Fr h₀ L s.heap m) (X : (hd.heap_39 w.params).In h₀) (N : News h₀ L s.heap news) (T : TopM mean mg mb h₀)
  (hf : env.frame = some L) (hk : env.scope.kind = .function) (hroom : dp + 2 < recursionLimit) (hun : un + 16 < cLine)
  (H : PolyIn w news x ns) (h1 : ns.length ≤ 1000) (pl : IsPart vl lo) (pu : IsPart vu up)
  (hret : ∀ (h' : Heap) (tk' : Nat) (D : Addr) (ws : List Value), Fr h₀ L h' m → News h₀ L h' ((D, W.listOf ws.toArray 0) :: news) → (∀ p ∈ news, p.1 < D) → IntsAre ws (pickZ ns lo up none) → Q (.ref D) { s with heap := h', toks := tk' })
  (hsl : subscripted slice true (.ref x) (.ref s.heap.objs.size) = operate [.ref s.heap.objs.size, .ref x] (getItem (.ref x) (.ref s.heap.objs.size))) :
  wpAny (model PP w) (AA dp un gd env outer) (subscriptTail value slice (.ref x) (.ref s.heap.objs.size)) Q E { s with heap := s.heap.push { cls := .type "slice", data := .fields #[vl, vu, .none] } } := by
  obtain ⟨dx, r, k, vr, nr, a, b, c, d⟩ := H
  have hvl := d.length
  have l0 : ∀ p ∈ news, p.1 < s.heap.objs.size := fun p hp => Heap.lt_size (N p hp).1
  replace N : News h₀ L s.heap ((x, instObj 144 dx) :: (dx, W.dictOf [⟨PyData.keyHash w.params (Str.ofString "num"), .str (Str.ofString "num") k, .ref r⟩] 1) :: (r, W.listOf vr.toArray nr) :: news) := news_sub N (List.forall_mem_cons.mpr ⟨a, List.forall_mem_cons.mpr ⟨b, List.forall_mem_cons.mpr ⟨c, fun p hp => hp⟩⟩⟩)
  have N2 := News.push F N { cls := .type "slice", data := .fields #[vl, vu, .none] }
  have F2 := F.push { cls := .type "slice", data := .fields #[vl, vu, .none] }
  obtain ⟨hp, g, dd, tk, os⟩ := s
  dsimp only at F2 N2 hsl l0 ⊢
  generalize hp.push { cls := .type "slice", data := .fields #[vl, vu, .none] } = hp2 at F2 N2 ⊢
  generalize hp.objs.size = S at N2 hsl l0 ⊢
  clear F N
  k_dflt (refine' sub_KS ?k1 ?k2 ?k3 ?k4 ?k5 ?k6 ?k7 ?_ hsl)
  (case k1 => k_asm)
  (case k2 => k_asm)
  (case k3 => k_inst)
  (case k4 => k_is)
  (case k5 => k_is)
  (case k6 => k_is)
  (case k7 => k_is)
  k_whole
  walk_at "my_enter"
  walk_at "my_steps"
  rename Fr h₀ L _ m => kF
  rename News h₀ L _ _ => kN
  rename IntsAre _ (pickZ _ _ _ _) => hq6
  rename (_ ∧ _ ∧ _ ∧ _ ∧ AllLt _ _) => hq5
  exact hret _ _ _ _ kF (news_sub kN (List.forall_mem_cons.mpr ⟨.head _, fun p hp => .tail _ (.tail _ (.tail _ (.tail _ (.tail _ hp))))⟩)) (allLt_lt hq5.2.2.2.2) hq6

end Mine
end

theorem Mine.anew_W15 : 1 = 1 := by
  w_top off
  first | walk1 | rfl

/-! part W15 -/
section
open PySem PySem.W PyProof.Rows PySem.Calls PySem.Spec
set_option Elab.async false
namespace Mine
set_option maxRecDepth 100000
theorem fill_W15 {w : World} {h : Heap} : (hd.heap_39 w.params).In h → Challenge.rw_bj0062_01.row.prog = Challenge.rw_bj0062_01.row.prog := by
  k_fill
  intro _
  rfl
local macro_rules | `(tactic| walk_at "my_enter") => `(tactic| (refine wpAny_call ?_; k_dflt (refine' code_def ?k1 ?k2 ?k3 ?k4 ?k5 ?kA ?kF ?kK ?k6 ?k7 ?k8 ?k9 ?kB ?_ ?c2 ?c3 ?c4 ?c5; (case kA => exact rfl); (case kF => assumption); (case kK => assumption); (case k1 => k_asm); (case k2 => k_asm); (case k3 => k_asm); (case k4 => k_asm); (case k5 => k_asm); (case k6 => k_is); (case k7 => k_is); (case k8 => walk_at "room"); (case k9 => exact BindsTo.of_eq rfl); (case c5 => decide); (case kB => exact locs rfl); (case c2 => exact rfl); (case c3 => exact rfl); (case c4 => exact rfl); k_whole; intro g' L' h' FG' F' N' B' X' T'; (try dsimp only); (try k_fold))))
local macro_rules | `(tactic| walk_at "my_steps") => `(tactic| repeat' (first | (k_unfold; (try dsimp only)) | walk1 | (dsimp only; walk1)))
local macro_rules | `(tactic| walk_at "setItem ref int") => `(tactic| (k_here; (with_reducible show wpAny _ _ (setItem (Value.ref _) (Value.int _ _) _) _ _ _); k_dflt (refine' set_listK ?k1 ?k2 ?k3 ?k5 ?k6 ?k7 ?_; (case k1 => k_asm); (case k2 => k_asm); (case k3 => k_upd); (case k5 => first | omega | ksa_idx); (case k6 => first | omega | (simp; done) | (simp; omega)); (case k7 => first | omega | ksa_idx); k_whole); intro h' F' N'; (try k_sweep)))
local macro_rules | `(tactic| k_ne) => `(tactic| first | assumption | exact Ne.symm (by assumption) | (refine neN ?_; (try dsimp only); omega))
local macro_rules | `(tactic| k_all) => `(tactic| first | assumption | exact lt_all_ne (by assumption) | exact lt_all_sub (by assumption) (by walk_at "sub") | exact ne_all_sub (by assumption) (by walk_at "sub") | exact allLt_ne (by assumption) | exact allLt_ne (And.right (by assumption)) | exact allLt_ne (And.right (And.right (by assumption))) | exact allLt_ne (And.right (And.right (And.right (by assumption)))) | exact allLt_ne (And.right (And.right (And.right (And.right (by assumption))))) | exact allLt_ne (And.right (And.right (And.right (And.right (And.right (by assumption)))))) | exact allLt_ne (And.right (And.right (And.right (And.right (And.right (And.right (by assumption))))))) | exact allLt_ne (And.right (And.right (And.right (And.right (And.right (And.right (And.right (by assumption)))))))) | exact allLt_ne (And.right (And.right (And.right (And.right (And.right (And.right (And.right (And.right (by assumption))))))))) | exact allLt_ne (And.right (And.right (And.right (And.right (And.right (And.right (And.right (And.right (And.right (by assumption)))))))))) | exact lt_all_off (by assumption) (by omega) | exact off1_sub (by assumption) (by walk_at "sub") | exact List.forall_mem_nil _ | (refine' List.forall_mem_cons.mpr ⟨?a, ?b⟩; (case a => k_ne); (case b => k_all)))
local macro_rules | `(tactic| walk_at "call builtin:list.append") => `(tactic| (k_here; (with_reducible show wpAny _ _ (call (Value.builtin "list.append") [Value.ref _, _]) _ _ _); k_dflt (refine' append_L ?k1 ?k2 ?k3 ?k4 ?_; (case k1 => k_asm); (case k2 => k_asm); (case k3 => k_upd); (case k4 => walk_at "lens"); k_whole); intro h' F' N'; (try k_sweep)))
local macro_rules | `(tactic| walk_at "lens") => `(tactic| first | assumption | omega | (simp only [List.length_append, List.length_cons, List.length_nil, List.length_map, List.length_range, List.length_replicate, List.length_set]; omega))
local macro_rules | `(tactic| walk_at "ints") => `(tactic| first | omega | (simp only [decide_eq_true_eq, decide_eq_false_iff_not, Bool.not_eq_true, beq_iff_eq, beq_eq_false_iff_ne, ne_eq] at *; omega) | (trace_state; fail "ints"))
local macro_rules | `(tactic| walk_at "fld_in") => `(tactic| first | assumption | exact FieldIn.tail (by assumption) | exact FieldIn.tail (FieldIn.tail (by assumption)) | exact FieldIn.tail (FieldIn.tail (FieldIn.tail (by assumption))) | exact FieldIn.tail (FieldIn.tail (FieldIn.tail (FieldIn.tail (by assumption)))) | exact FieldIn.tail (FieldIn.tail (FieldIn.tail (FieldIn.tail (FieldIn.tail (by assumption))))) | exact FieldIn.tail (FieldIn.tail (FieldIn.tail (FieldIn.tail (FieldIn.tail (FieldIn.tail (by assumption)))))) | exact FieldIn.tail (FieldIn.tail (FieldIn.tail (FieldIn.tail (FieldIn.tail (FieldIn.tail (FieldIn.tail (by assumption))))))) | exact FieldIn.tail (FieldIn.tail (FieldIn.tail (FieldIn.tail (FieldIn.tail (FieldIn.tail (FieldIn.tail (FieldIn.tail (by assumption)))))))) | exact FieldIn.tail (FieldIn.tail (FieldIn.tail (FieldIn.tail (FieldIn.tail (FieldIn.tail (FieldIn.tail (FieldIn.tail (FieldIn.tail (by assumption))))))))) | exact FieldIn.tail (FieldIn.tail (FieldIn.tail (FieldIn.tail (FieldIn.tail (FieldIn.tail (FieldIn.tail (FieldIn.tail (FieldIn.tail (FieldIn.tail (by assumption)))))))))) | exact FieldIn.tail (FieldIn.tail (FieldIn.tail (FieldIn.tail (FieldIn.tail (FieldIn.tail (FieldIn.tail (FieldIn.tail (FieldIn.tail (FieldIn.tail (FieldIn.tail (by assumption))))))))))) | exact FieldIn.tail (FieldIn.tail (FieldIn.tail (FieldIn.tail (FieldIn.tail (FieldIn.tail (FieldIn.tail (FieldIn.tail (FieldIn.tail (FieldIn.tail (FieldIn.tail (FieldIn.tail (by assumption)))))))))))))
local macro_rules | `(tactic| k_mem) => `(tactic| first | assumption | exact List.Mem.head _ | (refine' List.Mem.tail _ ?_; k_mem))
local macro_rules | `(tactic| walk_at "subscriptTail") => `(tactic| (k_here; (with_reducible show wpAny _ _ (subscriptTail _ _ (Value.ref _) (Value.int 0 _)) _ _ _); k_dflt (refine' fld_0 ?k1 ?k2 ?_ ?k4; (case k1 => k_asm); (case k2 => walk_at "fld_in"); (case k4 => with_unfolding_all rfl); k_whole)))
local macro_rules | `(tactic| walk_at "subscriptTail Name Constant ref int") => `(tactic| (k_here; (with_reducible show wpAny _ _ (subscriptTail _ _ (Value.ref _) (Value.int 0 _)) _ _ _); k_dflt (refine' fld_0 ?k1 ?k2 ?_ ?k4; (case k1 => k_asm); (case k2 => walk_at "fld_in"); (case k4 => with_unfolding_all rfl); k_whole)))
local macro_rules | `(tactic| walk_at "subscriptTail") => `(tactic| (k_here; (with_reducible show wpAny _ _ (subscriptTail _ _ (Value.ref _) (Value.int 1 _)) _ _ _); k_dflt (refine' fld_1 ?k1 ?k2 ?_ ?k4; (case k1 => k_asm); (case k2 => walk_at "fld_in"); (case k4 => with_unfolding_all rfl); k_whole)))
local macro_rules | `(tactic| walk_at "subscriptTail Name Constant ref int") => `(tactic| (k_here; (with_reducible show wpAny _ _ (subscriptTail _ _ (Value.ref _) (Value.int 1 _)) _ _ _); k_dflt (refine' fld_1 ?k1 ?k2 ?_ ?k4; (case k1 => k_asm); (case k2 => walk_at "fld_in"); (case k4 => with_unfolding_all rfl); k_whole)))
local macro_rules | `(tactic| walk_at "subscriptTail") => `(tactic| (k_here; (with_reducible show wpAny _ _ (subscriptTail _ _ (Value.ref _) (Value.int _ _)) _ _ _); k_dflt (refine' fld_pow ?k1 ?k2 ?k5 ?k6 ?_ ?k4; (case k1 => k_asm); (case k2 => walk_at "fld_in"); (case k5 => first | omega | exact (fmod255 _).1); (case k6 => first | omega | exact (fmod255 _).2); (case k4 => with_unfolding_all rfl); k_whole); intro _))
local macro_rules | `(tactic| walk_at "subscriptTail Subscript Name Constant BinOp ref int") => `(tactic| (k_here; (with_reducible show wpAny _ _ (subscriptTail _ _ (Value.ref _) (Value.int _ _)) _ _ _); k_dflt (refine' fld_pow ?k1 ?k2 ?k5 ?k6 ?_ ?k4; (case k1 => k_asm); (case k2 => walk_at "fld_in"); (case k5 => first | omega | exact (fmod255 _).1); (case k6 => first | omega | exact (fmod255 _).2); (case k4 => with_unfolding_all rfl); k_whole); intro _))
local macro_rules | `(tactic| walk_at "subscriptTail Subscript Name Constant Name ref int") => `(tactic| (k_here; (with_reducible show wpAny _ _ (subscriptTail _ _ (Value.ref _) (Value.int _ _)) _ _ _); k_dflt (refine' fld_pow ?k1 ?k2 ?k5 ?k6 ?_ ?k4; (case k1 => k_asm); (case k2 => walk_at "fld_in"); (case k5 => first | omega | exact (fmod255 _).1); (case k6 => first | omega | exact (fmod255 _).2); (case k4 => with_unfolding_all rfl); k_whole); intro _))
local macro_rules | `(tactic| walk_at "subscriptTail Subscript Name Constant Subscript ref int") => `(tactic| (k_here; (with_reducible show wpAny _ _ (subscriptTail _ _ (Value.ref _) (Value.int _ _)) _ _ _); k_dflt (refine' fld_pow ?k1 ?k2 ?k5 ?k6 ?_ ?k4; (case k1 => k_asm); (case k2 => walk_at "fld_in"); (case k5 => first | omega | exact (fmod255 _).1); (case k6 => first | omega | exact (fmod255 _).2); (case k4 => with_unfolding_all rfl); k_whole); intro _))
local macro_rules | `(tactic| walk_at "subscriptTail") => `(tactic| (k_here; (with_reducible show wpAny _ _ (subscriptTail _ _ (Value.ref _) (Value.int _ _)) _ _ _); k_dflt (refine' fld_log ?k1 ?k2 ?k5 ?k6 ?_ ?k4; (case k1 => k_asm); (case k2 => walk_at "fld_in"); (case k5 => walk_at "ints"); (case k6 => walk_at "ints"); (case k4 => with_unfolding_all rfl); k_whole); intro _))
local macro_rules | `(tactic| walk_at "subscriptTail Subscript Name Constant BinOp ref int") => `(tactic| (k_here; (with_reducible show wpAny _ _ (subscriptTail _ _ (Value.ref _) (Value.int _ _)) _ _ _); k_dflt (refine' fld_log ?k1 ?k2 ?k5 ?k6 ?_ ?k4; (case k1 => k_asm); (case k2 => walk_at "fld_in"); (case k5 => walk_at "ints"); (case k6 => walk_at "ints"); (case k4 => with_unfolding_all rfl); k_whole); intro _))
local macro_rules | `(tactic| walk_at "subscriptTail Subscript Name Constant Name ref int") => `(tactic| (k_here; (with_reducible show wpAny _ _ (subscriptTail _ _ (Value.ref _) (Value.int _ _)) _ _ _); k_dflt (refine' fld_log ?k1 ?k2 ?k5 ?k6 ?_ ?k4; (case k1 => k_asm); (case k2 => walk_at "fld_in"); (case k5 => walk_at "ints"); (case k6 => walk_at "ints"); (case k4 => with_unfolding_all rfl); k_whole); intro _))
local macro_rules | `(tactic| walk_at "subscriptTail Subscript Name Constant Subscript ref int") => `(tactic| (k_here; (with_reducible show wpAny _ _ (subscriptTail _ _ (Value.ref _) (Value.int _ _)) _ _ _); k_dflt (refine' fld_log ?k1 ?k2 ?k5 ?k6 ?_ ?k4; (case k1 => k_asm); (case k2 => walk_at "fld_in"); (case k5 => walk_at "ints"); (case k6 => walk_at "ints"); (case k4 => with_unfolding_all rfl); k_whole); intro _))

local macro_rules | `(tactic| walk_at "pyIter ref") => `(tactic| ((with_reducible show wpAny _ _ (pyIter (Value.ref _)) (fun it s₂ => LoopAtV _ _ _ _ _ _ _ _ _ it s₂) _ _); refine Stopped.out ?_))
local macro_rules | `(tactic| walk_at "exec For Name Call cons nil") => `(tactic| (k_here; (rename Fr _ _ _ _ => lF'); (with_unfolding_all refine' For_invVF lF' ?k1 ?k2 ?_; (case k1 => exact rfl); (case k2 => exact rfl); k_whole)))
local macro_rules | `(tactic| walk_at "exec For Name Name cons nil") => `(tactic| (k_here; (rename Fr _ _ _ _ => lF'); (with_unfolding_all refine' For_invVF lF' ?k1 ?k2 ?_; (case k1 => exact rfl); (case k2 => exact rfl); k_whole)))
local macro_rules | `(tactic| walk_at "call type:range") => `(tactic| (k_here; (with_reducible show wpAny _ _ (call (Value.type "range") [Value.int _ _]) _ _ _); k_dflt (refine' range1_K ?k1 ?k2 ?_; (case k1 => k_asm); (case k2 => k_asm); k_whole); intro r' h' u' v' tk' F' N' R'; (try k_sweep)))
local macro_rules | `(tactic| walk_at "call type:range") => `(tactic| (k_here; (with_reducible show wpAny _ _ (call (Value.type "range") [Value.int _ _, Value.int _ _]) _ _ _); k_dflt (refine' range2_K ?k1 ?k2 ?_; (case k1 => k_asm); (case k2 => k_asm); k_whole); intro r' h' v' tk' F' N' R'; (try k_sweep)))
local macro_rules | `(tactic| walk_at "room") => `(tactic| first | assumption | omega | ((simp only [depth_in1, depth_deeper, units_in1, units_deeper, Around.mark_units]); omega))

local macro_rules | `(tactic| is_list) => `(tactic| (refine' isList_of ?a ?b; (case a => k_asm); (case b => k_mem)))
local macro_rules | `(tactic| walk_at "call builtin:len") => `(tactic| (k_here; (with_reducible show wpAny _ _ (call (Value.builtin "len") [Value.ref _]) _ _ _); k_dflt (refine' len_L ?k2 ?k3 ?k4 ?_; (case k2 => k_asm); (case k3 => k_mem); (case k4 => walk_at "lens"); k_whole); intro t' tk'; (try k_sweep)))
local macro_rules | `(tactic| walk_at "binaryOp Add ref ref") => `(tactic| (k_here; (with_reducible show wpAny _ _ (binaryOp Operator.Add (Value.ref _) (Value.ref _)) _ _ _); k_dflt (refine' add_L ?k1 ?k2 ?k3 ?k4 ?k5 ?_; (case k1 => k_asm); (case k2 => k_asm); (case k3 => k_mem); (case k4 => k_mem); (case k5 => walk_at "lens"); k_whole); intro r' h' F' N' hl'; (have hl2' := hl'); (try k_lt hl2'); (try k_sweep)))

local macro_rules | `(tactic| walk_at "sub") => `(tactic| first | (refine' List.forall_mem_cons.mpr ⟨?a, ?b⟩; (case a => k_mem); (case b => walk_at "sub")) | (intro p hp; k_mem))

local macro_rules | `(tactic| walk_at "keep") => `(tactic| first | exact keep_base | exact keep_refl | (refine keep_x ?_; walk_at "keep") | (refine keep_upd (by decide) ?_; walk_at "keep") | (refine keep_in (by decide) ?_; walk_at "keep"))

local macro_rules | `(tactic| walk_at "CompSrc") => `(tactic| refine Stopped.out ?_)
local macro_rules | `(tactic| walk_at "my_enterC") => `(tactic| (refine wpAny_call ?_; k_dflt (refine' code_defC ?k1 ?k2 ?k3 ?k4 ?k5 ?kA ?kF ?kK ?k6 ?k7 ?k8 ?k9 ?kB ?kD ?_ ?c2 ?c3 ?c4; (case kA => exact rfl); (case kF => assumption); (case kK => assumption); (case k1 => k_asm); (case k2 => k_asm); (case k3 => k_asm); (case k4 => k_asm); (case k5 => k_asm); (case k6 => k_is); (case k7 => k_is); (case k8 => walk_at "room"); (case k9 => exact BindsTo.of_eq rfl); (case kB => exact rfl); (case kD => decide +kernel); (case c2 => exact rfl); (case c3 => exact rfl); (case c4 => exact rfl); k_whole; intro g' L' h' tk' cells' FG' F' N' Y' B' X' T' l1; k_cells Y'; (try simp only [List.cons_append, List.nil_append] at N'); (try dsimp only); (try k_fold))))

local macro_rules | `(tactic| walk_at "subscriptTail Name Slice ref ref") => `(tactic| (k_here; (with_reducible show wpAny _ _ (subscriptTail _ (PySem.Expr.Slice _ _ _ _) (Value.ref _) (Value.ref _)) _ _ _); k_dflt (refine' slice_LI ?zF ?zN ?zl ?zi ?zp ?zq ?zk ?zo ?zz ?_ ?zs; (case zF => k_asm); (case zN => k_asm); (case zl => k_mem); (case zi => assumption); (case zp => kmk_part); (case zq => kmk_part); (case zk => kmk_part); (case zo => decide); (case zz => walk_at "lens"); (case zs => with_unfolding_all rfl)); intro D' ws' h' F' N' l1 hI' hL'; (have l2' := l1); (try k_lt l2'); (try k_sweep)))
local macro_rules | `(tactic| walk_at "subscriptTail ListComp Slice ref ref") => `(tactic| (k_here; (with_reducible show wpAny _ _ (subscriptTail _ (PySem.Expr.Slice _ _ _ _) (Value.ref _) (Value.ref _)) _ _ _); k_dflt (refine' slice_LI ?zF ?zN ?zl ?zi ?zp ?zq ?zk ?zo ?zz ?_ ?zs; (case zF => k_asm); (case zN => k_asm); (case zl => k_mem); (case zi => assumption); (case zp => kmk_part); (case zq => kmk_part); (case zk => kmk_part); (case zo => decide); (case zz => walk_at "lens"); (case zs => with_unfolding_all rfl)); intro D' ws' h' F' N' l1 hI' hL'; (have l2' := l1); (try k_lt l2'); (try k_sweep)))
local macro_rules | `(tactic| walk_at "subscriptTail Subscript Slice ref ref") => `(tactic| (k_here; (with_reducible show wpAny _ _ (subscriptTail _ (PySem.Expr.Slice _ _ _ _) (Value.ref _) (Value.ref _)) _ _ _); k_dflt (refine' slice_LI ?zF ?zN ?zl ?zi ?zp ?zq ?zk ?zo ?zz ?_ ?zs; (case zF => k_asm); (case zN => k_asm); (case zl => k_mem); (case zi => assumption); (case zp => kmk_part); (case zq => kmk_part); (case zk => kmk_part); (case zo => decide); (case zz => walk_at "lens"); (case zs => with_unfolding_all rfl)); intro D' ws' h' F' N' l1 hI' hL'; (have l2' := l1); (try k_lt l2'); (try k_sweep)))
local macro_rules | `(tactic| walk_at "subscriptTail Attribute Slice ref ref") => `(tactic| (k_here; (with_reducible show wpAny _ _ (subscriptTail _ (PySem.Expr.Slice _ _ _ _) (Value.ref _) (Value.ref _)) _ _ _); k_dflt (refine' slice_LI ?zF ?zN ?zl ?zi ?zp ?zq ?zk ?zo ?zz ?_ ?zs; (case zF => k_asm); (case zN => k_asm); (case zl => k_mem); (case zi => assumption); (case zp => kmk_part); (case zq => kmk_part); (case zk => kmk_part); (case zo => decide); (case zz => walk_at "lens"); (case zs => with_unfolding_all rfl)); intro D' ws' h' F' N' l1 hI' hL'; (have l2' := l1); (try k_lt l2'); (try k_sweep)))
local macro_rules | `(tactic| walk_at "subscriptTail Name Name ref ref") => `(tactic| (k_here; (with_reducible show wpAny _ _ (subscriptTail _ _ (Value.ref _) (Value.ref _)) _ _ _); k_dflt (refine' slice_LI ?zF ?zN ?zl ?zi ?zp ?zq ?zk ?zo ?zz ?_ ?zs; (case zF => k_asm); (case zN => k_asm); (case zl => k_mem); (case zi => assumption); (case zp => kmk_part); (case zq => kmk_part); (case zk => kmk_part); (case zo => decide); (case zz => walk_at "lens"); (case zs => with_unfolding_all rfl)); intro D' ws' h' F' N' l1 hI' hL'; (have l2' := l1); (try k_lt l2'); (try k_sweep)))
local macro_rules | `(tactic| walk_at "subscriptTail Attribute Name ref ref") => `(tactic| (k_here; (with_reducible show wpAny _ _ (subscriptTail _ _ (Value.ref _) (Value.ref _)) _ _ _); k_dflt (refine' slice_LI ?zF ?zN ?zl ?zi ?zp ?zq ?zk ?zo ?zz ?_ ?zs; (case zF => k_asm); (case zN => k_asm); (case zl => k_mem); (case zi => assumption); (case zp => kmk_part); (case zq => kmk_part); (case zk => kmk_part); (case zo => decide); (case zz => walk_at "lens"); (case zs => with_unfolding_all rfl)); intro D' ws' h' F' N' l1 hI' hL'; (have l2' := l1); (try k_lt l2'); (try k_sweep)))

variable {w : World} {mean : ExcName → Option Value} {mg mb : Str → Option Value} {dp un : Nat} {gd : Option (List Code)} {A₀ : Around} {base h₀ : Heap} {env : Env} {outer : List Env} {L : Addr} {m : Str → Option Value} {s : Shared} {Q E : Value → Shared → Prop}
local macro_rules | `(tactic| walk_at "call builtin:list.append") => `(tactic| (k_here; (with_reducible show wpAny _ _ (call (Value.builtin "list.append") [Value.ref _, Value.int _ _]) _ _ _); k_dflt (refine' append_LI ?k1 ?k2 ?k3 ?k4 ?k5 ?_; (case k1 => k_asm); (case k2 => k_asm); (case k3 => k_upd); (case k4 => walk_at "lens"); (case k5 => assumption); k_whole); intro h' F' N' hI'; (try k_sweep)))
local macro_rules | `(tactic| walk_at "subscriptTail Name Slice ref ref") => `(tactic| (k_here; (with_reducible show wpAny _ _ (subscriptTail _ (PySem.Expr.Slice _ _ none _) (Value.ref _) (Value.ref _)) _ _ _); k_dflt (refine' slice_LJ ?zF ?zN ?zl ?zi ?zp ?zq ?zz ?_ ?zs ?zt; (case zF => k_asm); (case zN => k_asm); (case zl => k_mem); (case zi => assumption); (case zp => kmk_part); (case zq => kmk_part); (case zz => walk_at "lens"); (case zs => with_unfolding_all rfl); (case zt => kmk_pure)); intro D' ws' h' F' N' l1 hI' hL'; (have l2' := l1); (try k_lt l2'); (try k_sweep)))
local macro_rules | `(tactic| walk_at "subscriptTail ListComp Slice ref ref") => `(tactic| (k_here; (with_reducible show wpAny _ _ (subscriptTail _ (PySem.Expr.Slice _ _ none _) (Value.ref _) (Value.ref _)) _ _ _); k_dflt (refine' slice_LJ ?zF ?zN ?zl ?zi ?zp ?zq ?zz ?_ ?zs ?zt; (case zF => k_asm); (case zN => k_asm); (case zl => k_mem); (case zi => assumption); (case zp => kmk_part); (case zq => kmk_part); (case zz => walk_at "lens"); (case zs => with_unfolding_all rfl); (case zt => kmk_pure)); intro D' ws' h' F' N' l1 hI' hL'; (have l2' := l1); (try k_lt l2'); (try k_sweep)))
local macro_rules | `(tactic| walk_at "subscriptTail Subscript Slice ref ref") => `(tactic| (k_here; (with_reducible show wpAny _ _ (subscriptTail _ (PySem.Expr.Slice _ _ none _) (Value.ref _) (Value.ref _)) _ _ _); k_dflt (refine' slice_LJ ?zF ?zN ?zl ?zi ?zp ?zq ?zz ?_ ?zs ?zt; (case zF => k_asm); (case zN => k_asm); (case zl => k_mem); (case zi => assumption); (case zp => kmk_part); (case zq => kmk_part); (case zz => walk_at "lens"); (case zs => with_unfolding_all rfl); (case zt => kmk_pure)); intro D' ws' h' F' N' l1 hI' hL'; (have l2' := l1); (try k_lt l2'); (try k_sweep)))
local macro_rules | `(tactic| walk_at "subscriptTail Attribute Slice ref ref") => `(tactic| (k_here; (with_reducible show wpAny _ _ (subscriptTail _ (PySem.Expr.Slice _ _ none _) (Value.ref _) (Value.ref _)) _ _ _); k_dflt (refine' slice_LJ ?zF ?zN ?zl ?zi ?zp ?zq ?zz ?_ ?zs ?zt; (case zF => k_asm); (case zN => k_asm); (case zl => k_mem); (case zi => assumption); (case zp => kmk_part); (case zq => kmk_part); (case zz => walk_at "lens"); (case zs => with_unfolding_all rfl); (case zt => kmk_pure)); intro D' ws' h' F' N' l1 hI' hL'; (have l2' := l1); (try k_lt l2'); (try k_sweep)))
local macro_rules | `(tactic| walk_at "lens") => `(tactic| first | assumption | omega | (simp only [List.flatten_replicate_singleton, List.length_append, List.length_cons, List.length_nil, List.length_map, List.length_range, List.length_replicate, List.length_set]; omega))
local macro_rules | `(tactic| walk_at "sub") => `(tactic| first | exact List.forall_mem_nil _ | (refine' List.forall_mem_cons.mpr ⟨?a, ?b⟩; (case a => k_mem); (case b => walk_at "sub")) | (intro p hp; k_mem))


abbrev liObj (r : Addr) : Obj := { cls := .type "list_iterator", data := .fields #[.ref r, .int 0 0] }
section
variable {A : Around} {news : List (Addr × Obj)} {l : Addr} {vs : List Value} {n : Nat}
theorem iter_L (F : Fr h₀ L s.heap m) (N : News h₀ L s.heap news) (hm : (l, W.listOf vs.toArray n) ∈ news)
    (h : ∀ (I : Addr) h', Fr h₀ L h' m → News h₀ L h' ((I, liObj l) :: news) → (∀ p ∈ news, p.1 < I) → Q (.ref I) { s with heap := h' }) :
    wpAny (model PP w) A (call (.builtin "iter") [.ref l]) Q E s := by
  refine call_function_entry (by decide +kernel) (by decide +kernel) kdk_entry_iter (kdk_args_iter _) ?_
  unfold Builtin.«iter»
  refine wpAny_bind (m := someArgs "iter" 1 2 _) (wpAny_of_eq (a := [Value.ref l]) (by first | rfl | kernel_rfl!) ?_)
  show wpAny _ _ (pyIter (.ref l) >>= _) _ _ _
  refine wpAny_bind (wpAny_pyIter_list (isList_of N hm) ?_)
  exact wpAny_pure ⟨_, rfl, h _ _ (F.push _) (News.push F N _ rfl) (fun q hq => Heap.lt_size (N q hq).1)⟩
end
local macro_rules | `(tactic| walk_at "call builtin:iter") => `(tactic| (k_here; (with_reducible show wpAny _ _ (call (Value.builtin "iter") [Value.ref _]) _ _ _); k_dflt (refine' iter_L ?k1 ?k2 ?k3 ?_; (case k1 => k_asm); (case k2 => k_asm); (case k3 => k_mem); k_whole); intro D' h' F' N' l1; (have l2' := l1); (try k_lt l2'); (try k_sweep)))
set_option maxHeartbeats 1600000 in
theorem piter_call {news : List (Addr × Obj)} {x dx r : Addr} {k : Tok} {vr : List Value} {nr : Nat}
  (B : Below A₀ base outer h₀) (F : Fr h₀ L s.heap m) (X : (hd.heap_39 w.params).In h₀) (N : News h₀ L s.heap news) (T : TopM mean mg mb h₀)
  (hf : env.frame = some L) (hk : env.scope.kind = .function) (hroom : dp + 2 < recursionLimit) (hun : un + 16 < cLine)
  (a : (x, instObj 144 dx) ∈ news) (b : (dx, W.dictOf [⟨PyData.keyHash w.params (Str.ofString "num"), .str (Str.ofString "num") k, .ref r⟩] 1) ∈ news) (c : (r, W.listOf vr.toArray nr) ∈ news) 
  (hret : ∀ (h' : Heap) (tk' : Nat) (I : Addr), Fr h₀ L h' m → News h₀ L h' ((I, liObj r) :: news) → (∀ p ∈ news, p.1 < I) → Q (.ref I) { s with heap := h', toks := tk' }) :
  wpAny (model PP w) (AA dp un gd env outer) (pyIter (.ref x)) Q E s := by
  replace N : News h₀ L s.heap ((x, instObj 144 dx) :: (dx, W.dictOf [⟨PyData.keyHash w.params (Str.ofString "num"), .str (Str.ofString "num") k, .ref r⟩] 1) :: (r, W.listOf vr.toArray nr) :: news) := news_sub N (List.forall_mem_cons.mpr ⟨a, List.forall_mem_cons.mpr ⟨b, List.forall_mem_cons.mpr ⟨c, fun p hp => hp⟩⟩⟩)
  k_dflt (refine' owit_iter ?k1 ?k2 ?k3 ?k4 ?k5 ?_)
  (case k1 => k_asm)
  (case k2 => k_asm)
  (case k3 => k_inst)
  (case k4 => k_is)
  (case k5 => k_is)
  walk_at "my_enter"
  walk_at "my_steps"
  rename Fr h₀ L _ m => kF
  rename News h₀ L _ _ => kN
  rename (_ ∧ _ ∧ _ ∧ AllLt _ _) => hq5
  unfold OwitIt
  refine wpAny_specialOf (T := "list_iterator") (name := Str.ofString "__next__") ⟨_, (kN _ (.head _)).1, rfl⟩ slot_listiter_next.lookup ?_
  exact hret _ _ _ kF (news_sub kN (List.forall_mem_cons.mpr ⟨.head _, fun p hp => .tail _ (.tail _ (.tail _ (.tail _ hp)))⟩)) (allLt_lt hq5.2.2.2)

end Mine
end

theorem Mine.anew_WQ : 1 = 1 := by
  w_top off
  first | walk1 | rfl

/-! part WQ -/
section
open PySem PySem.W PyProof.Rows PySem.Calls PySem.Spec
set_option Elab.async false
namespace Mine
set_option maxRecDepth 100000
section
variable {prog : Program} {w : World} {A : Around} {E : Value → Shared → Prop} {s : Shared} {env : Env} {h₀ : Heap} {xi xc : Str} {body : List Stmt} {Q : Flow → Shared → Prop}
def PPost (h₀ : Heap) (L : Addr) (own : List (Addr × Obj)) (ad : List Addr) (Jn : (Str → Option Value) → List (Addr × Obj) → Prop) (s : Shared) (Q : Flow → Shared → Prop) (f : Flow) (s₂ : Shared) : Prop :=
  match f with
  | .ret v => Q (.ret v) s₂
  | .brk => Q .next s₂
  | _ => ∃ h' tk m' nx all, s₂ = { s with heap := h', toks := tk } ∧ Fr h₀ L h' m' ∧ News h₀ L h' all ∧ (∀ p ∈ own, p ∈ all) ∧ (∀ p ∈ nx, p ∈ all) ∧ nx.map (·.1) = ad ∧ Jn m' nx
theorem ppost_next {h₀ h' : Heap} {L : Addr} {own : List (Addr × Obj)} {ad : List Addr} {Jn : (Str → Option Value) → List (Addr × Obj) → Prop} {s : Shared} {Q : Flow → Shared → Prop} {m' : Str → Option Value} {nx all : List (Addr × Obj)} {tk : Nat}
    (F' : Fr h₀ L h' m') (N' : News h₀ L h' all) (ho : ∀ p ∈ own, p ∈ all) (hsub : ∀ p ∈ nx, p ∈ all) (hm : nx.map (·.1) = ad) (hJ : Jn m' nx) : PPost h₀ L own ad Jn s Q .next { s with heap := h', toks := tk } :=
  ⟨h', tk, m', nx, all, rfl, F', N', ho, hsub, hm, hJ⟩
theorem keep_map2 {ch : List Str} {xi xc : Str} {v v0 : Option Value} {m m₀ : Str → Option Value} (h : Keep (xi :: ch) xc m m₀) :
    (fun y => if y = xc then v else if y = xi then v0 else m y) = fun y => if y = xc then v else if y = xi then v0 else if ch.contains y then m y else m₀ y := by
  funext y
  by_cases e : y = xc
  · rw [if_pos e, if_pos e]
  · rw [if_neg e, if_neg e]
    by_cases e2 : y = xi
    · rw [if_pos e2, if_pos e2]
    · rw [if_neg e2, if_neg e2]
      cases hc : ch.contains y with
      | true => rfl
      | false =>
        refine h y e ?_
        rw [List.contains_cons, hc, Bool.or_false]
        exact beq_false_of_ne e2
theorem pair_loop {e it l : Addr} {vs : List Value} {nn : Nat} {m₀ : Str → Option Value} {news : List (Addr × Obj)} (ch : List Str) (J : Nat → (Str → Option Value) → List (Addr × Obj) → Prop)
    (hh : A.handled = none) (hei : e ≠ it) (hne : ∀ p ∈ news, p.1 ≠ e) (hni : ∀ p ∈ news, p.1 ≠ it) (hl : (l, W.listOf vs.toArray nn) ∈ news)
    (F : Fr h₀ env.locals s.heap m₀) (N : News h₀ env.locals s.heap ((e, enumRec (.ref it)) :: (it, { cls := .type "list_iterator", data := .fields #[.ref l, .int 0 0] }) :: news)) (hj : J 0 m₀ news)
    (turn : ∀ i v t u nx h tk own, vs[i]? = some v → (∀ p ∈ own, p.1 = e ∨ p.1 = it ∨ p.1 = l) → J i u nx → nx.map (·.1) = news.map (·.1) → Fr h₀ env.locals h (fun y => if y = xc then some v else if y = xi then some (.int (i : Nat) t) else if ch.contains y then u y else m₀ y) → News h₀ env.locals h (own ++ nx) →
      wpAny (model prog w) A (execs body env) (PPost h₀ env.locals own (news.map (·.1)) (fun m' nx' => J (i + 1) m' nx' ∧ Keep (xi :: ch) xc m' m₀) s Q) E { s with heap := h, toks := tk })
    (done : ∀ u nx h tk, J vs.length u nx → nx.map (·.1) = news.map (·.1) → Fr h₀ env.locals h (fun y => if y = xc then u xc else if (xi :: ch).contains y then u y else m₀ y) → News h₀ env.locals h nx → Q .next { s with heap := h, toks := tk }) :
    wpAny (model prog w) A (pyIter (.ref e)) (fun it s₂ => PairAt3 prog w A h₀ env xi xc body Q E it s₂) E s := by
  have he : s.heap.get? e = some (enumRec (.ref it)) := (N _ (.head _)).1
  have hit : s.heap.get? it = some _ := (N _ (.tail _ (.head _))).1
  have hls : s.heap.IsList l vs.toArray := ⟨_, (N _ (.tail _ (.tail _ hl))).1, rfl, nn, rfl⟩
  have hle : l ≠ e := hne _ hl
  have hli : l ≠ it := hni _ hl
  have hlen : vs.toArray.size = vs.length := by simp
  refine wpAny_pyIter_enum (it := it) (i := 0) (old := .none) he ?_
  have hW := WalksT.enumerate (prog := prog) (w := w) hh e it l hei hle hli vs.toArray
  refine ⟨e, [e, it, l], [e, it], vs.toArray.size, _, _, _, fun i v0 v1 => ∃ t, vs[i]? = some v1 ∧ v0 = .int i t, m₀, news, fun i m' nx' => J i m' nx' ∧ Keep (xi :: ch) xc m' m₀, rfl, hW, ?_, ?_, ?_, ?_, ⟨⟨_, he⟩, ⟨_, hit, rfl, rfl⟩, hls⟩, F, fun p hp => N p (.tail _ (.tail _ hp)), ⟨hj, keep_refl⟩, ?_, ?_⟩
  · rintro i vals ⟨t, x, hx, rfl⟩
    exact ⟨_, _, rfl, t, by simpa using hx, rfl⟩
  · intro hm
    rcases List.mem_cons.mp hm with q | hm
    · exact (N _ (.head _)).2.1 q.symm
    · rcases List.mem_cons.mp hm with q | hm
      · exact (N _ (.tail _ (.head _))).2.1 q.symm
      · exact (N _ (.tail _ (.tail _ hl))).2.1 (List.mem_singleton.mp hm).symm
  · intro b hb
    rcases List.mem_cons.mp hb with rfl | hb
    · exact (N _ (.head _)).2.2
    · rw [List.mem_singleton.mp hb]; exact (N _ (.tail _ (.head _))).2.2
  · intro p hp hb
    rcases List.mem_cons.mp hb with q | hb
    · exact hne p hp q
    · exact hni p hp (List.mem_singleton.mp hb)
  · rintro i v0 v1 m₁ nx s₁ own ⟨hp, tk, rfl⟩ hi ⟨t, hv, rfl⟩ ⟨hJ, hK⟩ ha hown F₁ N₁
    rw [keep_map2 hK] at F₁
    refine wpAny_mono (turn i v1 t m₁ nx hp tk own hv (fun p hp => ?_) hJ ha F₁ N₁) (fun f s₃ hq => ?_) fun _ _ e => e
    · have := hown p hp
      simpa using this
    · cases f with
      | ret v => exact hq
      | brk => exact hq
      | cont =>
        obtain ⟨h', tk', m', nx', all, rfl, F', N', a, b, c, d⟩ := hq
        exact ⟨rfl, h', tk', m', nx', rfl, F', fun p hp => (List.mem_append.mp hp).elim (fun z => N' p (a p z)) fun z => N' p (b p z), c.trans ha.symm, d⟩
      | next =>
        obtain ⟨h', tk', m', nx', all, rfl, F', N', a, b, c, d⟩ := hq
        exact ⟨rfl, h', tk', m', nx', rfl, F', fun p hp => (List.mem_append.mp hp).elim (fun z => N' p (a p z)) fun z => N' p (b p z), c.trans ha.symm, d⟩
  · rintro h' tk m' nx F' N' ha ⟨hJ, hK⟩
    refine done m' nx h' tk (hlen ▸ hJ) ha ?_ N'
    have e : m' = fun y => if y = xc then m' xc else m' y := by
      funext y
      by_cases e : y = xc
      · rw [if_pos e, e]
      · rw [if_neg e]
    rw [← keep_map hK, ← e]
    exact F'
end
end Mine
end

theorem Mine.anew_W16 : 1 = 1 := by
  w_top off
  first | walk1 | rfl

/-! part W16 -/
section
open PySem PySem.W PyProof.Rows PySem.Calls PySem.Spec
set_option Elab.async false
namespace Mine
set_option maxRecDepth 100000
theorem fill_W16 {w : World} {h : Heap} : (hd.heap_39 w.params).In h → Challenge.rw_bj0062_01.row.prog = Challenge.rw_bj0062_01.row.prog := by
  k_fill
  intro _
  rfl
local macro_rules | `(tactic| walk_at "my_enter") => `(tactic| (refine wpAny_call ?_; k_dflt (refine' code_def ?k1 ?k2 ?k3 ?k4 ?k5 ?kA ?kF ?kK ?k6 ?k7 ?k8 ?k9 ?kB ?_ ?c2 ?c3 ?c4 ?c5; (case kA => exact rfl); (case kF => assumption); (case kK => assumption); (case k1 => k_asm); (case k2 => k_asm); (case k3 => k_asm); (case k4 => k_asm); (case k5 => k_asm); (case k6 => k_is); (case k7 => k_is); (case k8 => walk_at "room"); (case k9 => exact BindsTo.of_eq rfl); (case c5 => decide); (case kB => exact locs rfl); (case c2 => exact rfl); (case c3 => exact rfl); (case c4 => exact rfl); k_whole; intro g' L' h' FG' F' N' B' X' T'; (try dsimp only); (try k_fold))))
local macro_rules | `(tactic| walk_at "my_steps") => `(tactic| repeat' (first | (k_unfold; (try dsimp only)) | walk1 | (dsimp only; walk1)))
local macro_rules | `(tactic| walk_at "setItem ref int") => `(tactic| (k_here; (with_reducible show wpAny _ _ (setItem (Value.ref _) (Value.int _ _) _) _ _ _); k_dflt (refine' set_listK ?k1 ?k2 ?k3 ?k5 ?k6 ?k7 ?_; (case k1 => k_asm); (case k2 => k_asm); (case k3 => k_upd); (case k5 => first | omega | ksa_idx); (case k6 => first | omega | (simp; done) | (simp; omega)); (case k7 => first | omega | ksa_idx); k_whole); intro h' F' N'; (try k_sweep)))
local macro_rules | `(tactic| k_ne) => `(tactic| first | assumption | exact Ne.symm (by assumption) | (refine neN ?_; (try dsimp only); omega))
local macro_rules | `(tactic| k_all) => `(tactic| first | assumption | exact lt_all_ne (by assumption) | exact lt_all_sub (by assumption) (by walk_at "sub") | exact ne_all_sub (by assumption) (by walk_at "sub") | exact allLt_ne (by assumption) | exact allLt_ne (And.right (by assumption)) | exact allLt_ne (And.right (And.right (by assumption))) | exact allLt_ne (And.right (And.right (And.right (by assumption)))) | exact allLt_ne (And.right (And.right (And.right (And.right (by assumption))))) | exact allLt_ne (And.right (And.right (And.right (And.right (And.right (by assumption)))))) | exact allLt_ne (And.right (And.right (And.right (And.right (And.right (And.right (by assumption))))))) | exact allLt_ne (And.right (And.right (And.right (And.right (And.right (And.right (And.right (by assumption)))))))) | exact allLt_ne (And.right (And.right (And.right (And.right (And.right (And.right (And.right (And.right (by assumption))))))))) | exact allLt_ne (And.right (And.right (And.right (And.right (And.right (And.right (And.right (And.right (And.right (by assumption)))))))))) | exact lt_all_off (by assumption) (by omega) | exact off1_sub (by assumption) (by walk_at "sub") | exact List.forall_mem_nil _ | (refine' List.forall_mem_cons.mpr ⟨?a, ?b⟩; (case a => k_ne); (case b => k_all)))
local macro_rules | `(tactic| walk_at "call builtin:list.append") => `(tactic| (k_here; (with_reducible show wpAny _ _ (call (Value.builtin "list.append") [Value.ref _, _]) _ _ _); k_dflt (refine' append_L ?k1 ?k2 ?k3 ?k4 ?_; (case k1 => k_asm); (case k2 => k_asm); (case k3 => k_upd); (case k4 => walk_at "lens"); k_whole); intro h' F' N'; (try k_sweep)))
local macro_rules | `(tactic| walk_at "lens") => `(tactic| first | assumption | omega | (simp only [List.length_append, List.length_cons, List.length_nil, List.length_map, List.length_range, List.length_replicate, List.length_set]; omega))
local macro_rules | `(tactic| walk_at "ints") => `(tactic| first | omega | (simp only [decide_eq_true_eq, decide_eq_false_iff_not, Bool.not_eq_true, beq_iff_eq, beq_eq_false_iff_ne, ne_eq] at *; omega) | (trace_state; fail "ints"))
local macro_rules | `(tactic| walk_at "fld_in") => `(tactic| first | assumption | exact FieldIn.tail (by assumption) | exact FieldIn.tail (FieldIn.tail (by assumption)) | exact FieldIn.tail (FieldIn.tail (FieldIn.tail (by assumption))) | exact FieldIn.tail (FieldIn.tail (FieldIn.tail (FieldIn.tail (by assumption)))) | exact FieldIn.tail (FieldIn.tail (FieldIn.tail (FieldIn.tail (FieldIn.tail (by assumption))))) | exact FieldIn.tail (FieldIn.tail (FieldIn.tail (FieldIn.tail (FieldIn.tail (FieldIn.tail (by assumption)))))) | exact FieldIn.tail (FieldIn.tail (FieldIn.tail (FieldIn.tail (FieldIn.tail (FieldIn.tail (FieldIn.tail (by assumption))))))) | exact FieldIn.tail (FieldIn.tail (FieldIn.tail (FieldIn.tail (FieldIn.tail (FieldIn.tail (FieldIn.tail (FieldIn.tail (by assumption)))))))) | exact FieldIn.tail (FieldIn.tail (FieldIn.tail (FieldIn.tail (FieldIn.tail (FieldIn.tail (FieldIn.tail (FieldIn.tail (FieldIn.tail (by assumption))))))))) | exact FieldIn.tail (FieldIn.tail (FieldIn.tail (FieldIn.tail (FieldIn.tail (FieldIn.tail (FieldIn.tail (FieldIn.tail (FieldIn.tail (FieldIn.tail (by assumption)))))))))) | exact FieldIn.tail (FieldIn.tail (FieldIn.tail (FieldIn.tail (FieldIn.tail (FieldIn.tail (FieldIn.tail (FieldIn.tail (FieldIn.tail (FieldIn.tail (FieldIn.tail (by assumption))))))))))) | exact FieldIn.tail (FieldIn.tail (FieldIn.tail (FieldIn.tail (FieldIn.tail (FieldIn.tail (FieldIn.tail (FieldIn.tail (FieldIn.tail (FieldIn.tail (FieldIn.tail (FieldIn.tail (by assumption)))))))))))))
local macro_rules | `(tactic| k_mem) => `(tactic| first | assumption | exact List.Mem.head _ | (refine' List.Mem.tail _ ?_; k_mem))
local macro_rules | `(tactic| walk_at "subscriptTail") => `(tactic| (k_here; (with_reducible show wpAny _ _ (subscriptTail _ _ (Value.ref _) (Value.int 0 _)) _ _ _); k_dflt (refine' fld_0 ?k1 ?k2 ?_ ?k4; (case k1 => k_asm); (case k2 => walk_at "fld_in"); (case k4 => with_unfolding_all rfl); k_whole)))
local macro_rules | `(tactic| walk_at "subscriptTail Name Constant ref int") => `(tactic| (k_here; (with_reducible show wpAny _ _ (subscriptTail _ _ (Value.ref _) (Value.int 0 _)) _ _ _); k_dflt (refine' fld_0 ?k1 ?k2 ?_ ?k4; (case k1 => k_asm); (case k2 => walk_at "fld_in"); (case k4 => with_unfolding_all rfl); k_whole)))
local macro_rules | `(tactic| walk_at "subscriptTail") => `(tactic| (k_here; (with_reducible show wpAny _ _ (subscriptTail _ _ (Value.ref _) (Value.int 1 _)) _ _ _); k_dflt (refine' fld_1 ?k1 ?k2 ?_ ?k4; (case k1 => k_asm); (case k2 => walk_at "fld_in"); (case k4 => with_unfolding_all rfl); k_whole)))
local macro_rules | `(tactic| walk_at "subscriptTail Name Constant ref int") => `(tactic| (k_here; (with_reducible show wpAny _ _ (subscriptTail _ _ (Value.ref _) (Value.int 1 _)) _ _ _); k_dflt (refine' fld_1 ?k1 ?k2 ?_ ?k4; (case k1 => k_asm); (case k2 => walk_at "fld_in"); (case k4 => with_unfolding_all rfl); k_whole)))
local macro_rules | `(tactic| walk_at "subscriptTail") => `(tactic| (k_here; (with_reducible show wpAny _ _ (subscriptTail _ _ (Value.ref _) (Value.int _ _)) _ _ _); k_dflt (refine' fld_pow ?k1 ?k2 ?k5 ?k6 ?_ ?k4; (case k1 => k_asm); (case k2 => walk_at "fld_in"); (case k5 => first | omega | exact (fmod255 _).1); (case k6 => first | omega | exact (fmod255 _).2); (case k4 => with_unfolding_all rfl); k_whole); intro _))
local macro_rules | `(tactic| walk_at "subscriptTail Subscript Name Constant BinOp ref int") => `(tactic| (k_here; (with_reducible show wpAny _ _ (subscriptTail _ _ (Value.ref _) (Value.int _ _)) _ _ _); k_dflt (refine' fld_pow ?k1 ?k2 ?k5 ?k6 ?_ ?k4; (case k1 => k_asm); (case k2 => walk_at "fld_in"); (case k5 => first | omega | exact (fmod255 _).1); (case k6 => first | omega | exact (fmod255 _).2); (case k4 => with_unfolding_all rfl); k_whole); intro _))
local macro_rules | `(tactic| walk_at "subscriptTail Subscript Name Constant Name ref int") => `(tactic| (k_here; (with_reducible show wpAny _ _ (subscriptTail _ _ (Value.ref _) (Value.int _ _)) _ _ _); k_dflt (refine' fld_pow ?k1 ?k2 ?k5 ?k6 ?_ ?k4; (case k1 => k_asm); (case k2 => walk_at "fld_in"); (case k5 => first | omega | exact (fmod255 _).1); (case k6 => first | omega | exact (fmod255 _).2); (case k4 => with_unfolding_all rfl); k_whole); intro _))
local macro_rules | `(tactic| walk_at "subscriptTail Subscript Name Constant Subscript ref int") => `(tactic| (k_here; (with_reducible show wpAny _ _ (subscriptTail _ _ (Value.ref _) (Value.int _ _)) _ _ _); k_dflt (refine' fld_pow ?k1 ?k2 ?k5 ?k6 ?_ ?k4; (case k1 => k_asm); (case k2 => walk_at "fld_in"); (case k5 => first | omega | exact (fmod255 _).1); (case k6 => first | omega | exact (fmod255 _).2); (case k4 => with_unfolding_all rfl); k_whole); intro _))
local macro_rules | `(tactic| walk_at "subscriptTail") => `(tactic| (k_here; (with_reducible show wpAny _ _ (subscriptTail _ _ (Value.ref _) (Value.int _ _)) _ _ _); k_dflt (refine' fld_log ?k1 ?k2 ?k5 ?k6 ?_ ?k4; (case k1 => k_asm); (case k2 => walk_at "fld_in"); (case k5 => walk_at "ints"); (case k6 => walk_at "ints"); (case k4 => with_unfolding_all rfl); k_whole); intro _))
local macro_rules | `(tactic| walk_at "subscriptTail Subscript Name Constant BinOp ref int") => `(tactic| (k_here; (with_reducible show wpAny _ _ (subscriptTail _ _ (Value.ref _) (Value.int _ _)) _ _ _); k_dflt (refine' fld_log ?k1 ?k2 ?k5 ?k6 ?_ ?k4; (case k1 => k_asm); (case k2 => walk_at "fld_in"); (case k5 => walk_at "ints"); (case k6 => walk_at "ints"); (case k4 => with_unfolding_all rfl); k_whole); intro _))
local macro_rules | `(tactic| walk_at "subscriptTail Subscript Name Constant Name ref int") => `(tactic| (k_here; (with_reducible show wpAny _ _ (subscriptTail _ _ (Value.ref _) (Value.int _ _)) _ _ _); k_dflt (refine' fld_log ?k1 ?k2 ?k5 ?k6 ?_ ?k4; (case k1 => k_asm); (case k2 => walk_at "fld_in"); (case k5 => walk_at "ints"); (case k6 => walk_at "ints"); (case k4 => with_unfolding_all rfl); k_whole); intro _))
local macro_rules | `(tactic| walk_at "subscriptTail Subscript Name Constant Subscript ref int") => `(tactic| (k_here; (with_reducible show wpAny _ _ (subscriptTail _ _ (Value.ref _) (Value.int _ _)) _ _ _); k_dflt (refine' fld_log ?k1 ?k2 ?k5 ?k6 ?_ ?k4; (case k1 => k_asm); (case k2 => walk_at "fld_in"); (case k5 => walk_at "ints"); (case k6 => walk_at "ints"); (case k4 => with_unfolding_all rfl); k_whole); intro _))

local macro_rules | `(tactic| walk_at "pyIter ref") => `(tactic| ((with_reducible show wpAny _ _ (pyIter (Value.ref _)) (fun it s₂ => LoopAtV _ _ _ _ _ _ _ _ _ it s₂) _ _); refine Stopped.out ?_))
local macro_rules | `(tactic| walk_at "exec For Name Call cons nil") => `(tactic| (k_here; (rename Fr _ _ _ _ => lF'); (with_unfolding_all refine' For_invVF lF' ?k1 ?k2 ?_; (case k1 => exact rfl); (case k2 => exact rfl); k_whole)))
local macro_rules | `(tactic| walk_at "exec For Name Name cons nil") => `(tactic| (k_here; (rename Fr _ _ _ _ => lF'); (with_unfolding_all refine' For_invVF lF' ?k1 ?k2 ?_; (case k1 => exact rfl); (case k2 => exact rfl); k_whole)))
local macro_rules | `(tactic| walk_at "call type:range") => `(tactic| (k_here; (with_reducible show wpAny _ _ (call (Value.type "range") [Value.int _ _]) _ _ _); k_dflt (refine' range1_K ?k1 ?k2 ?_; (case k1 => k_asm); (case k2 => k_asm); k_whole); intro r' h' u' v' tk' F' N' R'; (try k_sweep)))
local macro_rules | `(tactic| walk_at "call type:range") => `(tactic| (k_here; (with_reducible show wpAny _ _ (call (Value.type "range") [Value.int _ _, Value.int _ _]) _ _ _); k_dflt (refine' range2_K ?k1 ?k2 ?_; (case k1 => k_asm); (case k2 => k_asm); k_whole); intro r' h' v' tk' F' N' R'; (try k_sweep)))
local macro_rules | `(tactic| walk_at "room") => `(tactic| first | assumption | omega | ((simp only [depth_in1, depth_deeper, units_in1, units_deeper, Around.mark_units]); omega))

local macro_rules | `(tactic| is_list) => `(tactic| (refine' isList_of ?a ?b; (case a => k_asm); (case b => k_mem)))
local macro_rules | `(tactic| walk_at "call builtin:len") => `(tactic| (k_here; (with_reducible show wpAny _ _ (call (Value.builtin "len") [Value.ref _]) _ _ _); k_dflt (refine' len_L ?k2 ?k3 ?k4 ?_; (case k2 => k_asm); (case k3 => k_mem); (case k4 => walk_at "lens"); k_whole); intro t' tk'; (try k_sweep)))
local macro_rules | `(tactic| walk_at "binaryOp Add ref ref") => `(tactic| (k_here; (with_reducible show wpAny _ _ (binaryOp Operator.Add (Value.ref _) (Value.ref _)) _ _ _); k_dflt (refine' add_L ?k1 ?k2 ?k3 ?k4 ?k5 ?_; (case k1 => k_asm); (case k2 => k_asm); (case k3 => k_mem); (case k4 => k_mem); (case k5 => walk_at "lens"); k_whole); intro r' h' F' N' hl'; (have hl2' := hl'); (try k_lt hl2'); (try k_sweep)))

local macro_rules | `(tactic| walk_at "sub") => `(tactic| first | (refine' List.forall_mem_cons.mpr ⟨?a, ?b⟩; (case a => k_mem); (case b => walk_at "sub")) | (intro p hp; k_mem))

local macro_rules | `(tactic| walk_at "keep") => `(tactic| first | exact keep_base | exact keep_refl | (refine keep_x ?_; walk_at "keep") | (refine keep_upd (by decide) ?_; walk_at "keep") | (refine keep_in (by decide) ?_; walk_at "keep"))

local macro_rules | `(tactic| walk_at "CompSrc") => `(tactic| refine Stopped.out ?_)
local macro_rules | `(tactic| walk_at "my_enterC") => `(tactic| (refine wpAny_call ?_; k_dflt (refine' code_defC ?k1 ?k2 ?k3 ?k4 ?k5 ?kA ?kF ?kK ?k6 ?k7 ?k8 ?k9 ?kB ?kD ?_ ?c2 ?c3 ?c4; (case kA => exact rfl); (case kF => assumption); (case kK => assumption); (case k1 => k_asm); (case k2 => k_asm); (case k3 => k_asm); (case k4 => k_asm); (case k5 => k_asm); (case k6 => k_is); (case k7 => k_is); (case k8 => walk_at "room"); (case k9 => exact BindsTo.of_eq rfl); (case kB => exact rfl); (case kD => decide +kernel); (case c2 => exact rfl); (case c3 => exact rfl); (case c4 => exact rfl); k_whole; intro g' L' h' tk' cells' FG' F' N' Y' B' X' T' l1; k_cells Y'; (try simp only [List.cons_append, List.nil_append] at N'); (try dsimp only); (try k_fold))))

local macro_rules | `(tactic| walk_at "subscriptTail Name Slice ref ref") => `(tactic| (k_here; (with_reducible show wpAny _ _ (subscriptTail _ (PySem.Expr.Slice _ _ _ _) (Value.ref _) (Value.ref _)) _ _ _); k_dflt (refine' slice_LI ?zF ?zN ?zl ?zi ?zp ?zq ?zk ?zo ?zz ?_ ?zs; (case zF => k_asm); (case zN => k_asm); (case zl => k_mem); (case zi => assumption); (case zp => kmk_part); (case zq => kmk_part); (case zk => kmk_part); (case zo => decide); (case zz => walk_at "lens"); (case zs => with_unfolding_all rfl)); intro D' ws' h' F' N' l1 hI' hL'; (have l2' := l1); (try k_lt l2'); (try k_sweep)))
local macro_rules | `(tactic| walk_at "subscriptTail ListComp Slice ref ref") => `(tactic| (k_here; (with_reducible show wpAny _ _ (subscriptTail _ (PySem.Expr.Slice _ _ _ _) (Value.ref _) (Value.ref _)) _ _ _); k_dflt (refine' slice_LI ?zF ?zN ?zl ?zi ?zp ?zq ?zk ?zo ?zz ?_ ?zs; (case zF => k_asm); (case zN => k_asm); (case zl => k_mem); (case zi => assumption); (case zp => kmk_part); (case zq => kmk_part); (case zk => kmk_part); (case zo => decide); (case zz => walk_at "lens"); (case zs => with_unfolding_all rfl)); intro D' ws' h' F' N' l1 hI' hL'; (have l2' := l1); (try k_lt l2'); (try k_sweep)))
local macro_rules | `(tactic| walk_at "subscriptTail Subscript Slice ref ref") => `(tactic| (k_here; (with_reducible show wpAny _ _ (subscriptTail _ (PySem.Expr.Slice _ _ _ _) (Value.ref _) (Value.ref _)) _ _ _); k_dflt (refine' slice_LI ?zF ?zN ?zl ?zi ?zp ?zq ?zk ?zo ?zz ?_ ?zs; (case zF => k_asm); (case zN => k_asm); (case zl => k_mem); (case zi => assumption); (case zp => kmk_part); (case zq => kmk_part); (case zk => kmk_part); (case zo => decide); (case zz => walk_at "lens"); (case zs => with_unfolding_all rfl)); intro D' ws' h' F' N' l1 hI' hL'; (have l2' := l1); (try k_lt l2'); (try k_sweep)))
local macro_rules | `(tactic| walk_at "subscriptTail Attribute Slice ref ref") => `(tactic| (k_here; (with_reducible show wpAny _ _ (subscriptTail _ (PySem.Expr.Slice _ _ _ _) (Value.ref _) (Value.ref _)) _ _ _); k_dflt (refine' slice_LI ?zF ?zN ?zl ?zi ?zp ?zq ?zk ?zo ?zz ?_ ?zs; (case zF => k_asm); (case zN => k_asm); (case zl => k_mem); (case zi => assumption); (case zp => kmk_part); (case zq => kmk_part); (case zk => kmk_part); (case zo => decide); (case zz => walk_at "lens"); (case zs => with_unfolding_all rfl)); intro D' ws' h' F' N' l1 hI' hL'; (have l2' := l1); (try k_lt l2'); (try k_sweep)))
local macro_rules | `(tactic| walk_at "subscriptTail Name Name ref ref") => `(tactic| (k_here; (with_reducible show wpAny _ _ (subscriptTail _ _ (Value.ref _) (Value.ref _)) _ _ _); k_dflt (refine' slice_LI ?zF ?zN ?zl ?zi ?zp ?zq ?zk ?zo ?zz ?_ ?zs; (case zF => k_asm); (case zN => k_asm); (case zl => k_mem); (case zi => assumption); (case zp => kmk_part); (case zq => kmk_part); (case zk => kmk_part); (case zo => decide); (case zz => walk_at "lens"); (case zs => with_unfolding_all rfl)); intro D' ws' h' F' N' l1 hI' hL'; (have l2' := l1); (try k_lt l2'); (try k_sweep)))
local macro_rules | `(tactic| walk_at "subscriptTail Attribute Name ref ref") => `(tactic| (k_here; (with_reducible show wpAny _ _ (subscriptTail _ _ (Value.ref _) (Value.ref _)) _ _ _); k_dflt (refine' slice_LI ?zF ?zN ?zl ?zi ?zp ?zq ?zk ?zo ?zz ?_ ?zs; (case zF => k_asm); (case zN => k_asm); (case zl => k_mem); (case zi => assumption); (case zp => kmk_part); (case zq => kmk_part); (case zk => kmk_part); (case zo => decide); (case zz => walk_at "lens"); (case zs => with_unfolding_all rfl)); intro D' ws' h' F' N' l1 hI' hL'; (have l2' := l1); (try k_lt l2'); (try k_sweep)))

variable {w : World} {mean : ExcName → Option Value} {mg mb : Str → Option Value} {dp un : Nat} {gd : Option (List Code)} {A₀ : Around} {base h₀ : Heap} {env : Env} {outer : List Env} {L : Addr} {m : Str → Option Value} {s : Shared} {Q E : Value → Shared → Prop}
local macro_rules | `(tactic| walk_at "call builtin:list.append") => `(tactic| (k_here; (with_reducible show wpAny _ _ (call (Value.builtin "list.append") [Value.ref _, Value.int _ _]) _ _ _); k_dflt (refine' append_LI ?k1 ?k2 ?k3 ?k4 ?k5 ?_; (case k1 => k_asm); (case k2 => k_asm); (case k3 => k_upd); (case k4 => walk_at "lens"); (case k5 => assumption); k_whole); intro h' F' N' hI'; (try k_sweep)))
local macro_rules | `(tactic| walk_at "subscriptTail Name Slice ref ref") => `(tactic| (k_here; (with_reducible show wpAny _ _ (subscriptTail _ (PySem.Expr.Slice _ _ none _) (Value.ref _) (Value.ref _)) _ _ _); k_dflt (refine' slice_LJ ?zF ?zN ?zl ?zi ?zp ?zq ?zz ?_ ?zs ?zt; (case zF => k_asm); (case zN => k_asm); (case zl => k_mem); (case zi => assumption); (case zp => kmk_part); (case zq => kmk_part); (case zz => walk_at "lens"); (case zs => with_unfolding_all rfl); (case zt => kmk_pure)); intro D' ws' h' F' N' l1 hI' hL'; (have l2' := l1); (try k_lt l2'); (try k_sweep)))
local macro_rules | `(tactic| walk_at "subscriptTail ListComp Slice ref ref") => `(tactic| (k_here; (with_reducible show wpAny _ _ (subscriptTail _ (PySem.Expr.Slice _ _ none _) (Value.ref _) (Value.ref _)) _ _ _); k_dflt (refine' slice_LJ ?zF ?zN ?zl ?zi ?zp ?zq ?zz ?_ ?zs ?zt; (case zF => k_asm); (case zN => k_asm); (case zl => k_mem); (case zi => assumption); (case zp => kmk_part); (case zq => kmk_part); (case zz => walk_at "lens"); (case zs => with_unfolding_all rfl); (case zt => kmk_pure)); intro D' ws' h' F' N' l1 hI' hL'; (have l2' := l1); (try k_lt l2'); (try k_sweep)))
local macro_rules | `(tactic| walk_at "subscriptTail Subscript Slice ref ref") => `(tactic| (k_here; (with_reducible show wpAny _ _ (subscriptTail _ (PySem.Expr.Slice _ _ none _) (Value.ref _) (Value.ref _)) _ _ _); k_dflt (refine' slice_LJ ?zF ?zN ?zl ?zi ?zp ?zq ?zz ?_ ?zs ?zt; (case zF => k_asm); (case zN => k_asm); (case zl => k_mem); (case zi => assumption); (case zp => kmk_part); (case zq => kmk_part); (case zz => walk_at "lens"); (case zs => with_unfolding_all rfl); (case zt => kmk_pure)); intro D' ws' h' F' N' l1 hI' hL'; (have l2' := l1); (try k_lt l2'); (try k_sweep)))
local macro_rules | `(tactic| walk_at "subscriptTail Attribute Slice ref ref") => `(tactic| (k_here; (with_reducible show wpAny _ _ (subscriptTail _ (PySem.Expr.Slice _ _ none _) (Value.ref _) (Value.ref _)) _ _ _); k_dflt (refine' slice_LJ ?zF ?zN ?zl ?zi ?zp ?zq ?zz ?_ ?zs ?zt; (case zF => k_asm); (case zN => k_asm); (case zl => k_mem); (case zi => assumption); (case zp => kmk_part); (case zq => kmk_part); (case zz => walk_at "lens"); (case zs => with_unfolding_all rfl); (case zt => kmk_pure)); intro D' ws' h' F' N' l1 hI' hL'; (have l2' := l1); (try k_lt l2'); (try k_sweep)))
local macro_rules | `(tactic| walk_at "lens") => `(tactic| first | assumption | omega | (simp only [List.flatten_replicate_singleton, List.length_append, List.length_cons, List.length_nil, List.length_map, List.length_range, List.length_replicate, List.length_set]; omega))
local macro_rules | `(tactic| walk_at "sub") => `(tactic| first | exact List.forall_mem_nil _ | (refine' List.forall_mem_cons.mpr ⟨?a, ?b⟩; (case a => k_mem); (case b => walk_at "sub")) | (intro p hp; k_mem))


set_option maxHeartbeats 1600000 in
theorem penum_call {news news0 : List (Addr × Obj)} {x : Addr} {ns : List Int}
  (B : Below A₀ base outer h₀) (F : Fr h₀ L s.heap m) (X : (hd.heap_39 w.params).In h₀) (N : News h₀ L s.heap news) (T : TopM mean mg mb h₀)
  (hf : env.frame = some L) (hk : env.scope.kind = .function) (hroom : dp + 2 < recursionLimit) (hun : un + 24 < cLine)
  (H : PolyIn w news0 x ns) (hs : ∀ p ∈ news0, p ∈ news)
  (hret : ∀ (h' : Heap) (tk' : Nat) (e it r : Addr) (vr : List Value) (nr : Nat), (r, W.listOf vr.toArray nr) ∈ news0 → IntsAre vr ns → Fr h₀ L h' m → News h₀ L h' ((e, enumRec (.ref it)) :: (it, liObj r) :: news) → (∀ p ∈ news, p.1 < it) → it < e → (∀ p ∈ news, p.1 < e) → Q (.ref e) { s with heap := h', toks := tk' }) :
  wpAny (model PP w) (AA dp un gd env outer) (call (.type "enumerate") [.ref x]) Q E s := by
  obtain ⟨dx, r, k, vr, nr, a, b, c, d⟩ := H
  refine enum_any ?_
  refine piter_call (dp := dp) (un := un + 2) (gd := gd) (env := env) (outer := outer) B F X N T hf hk hroom (by omega) (hs _ a) (hs _ b) (hs _ c) ?_
  intro h' tk' I F' N' l1
  refine hret _ _ _ I r vr nr c d (F'.push _) (News.push F' N' _) l1 ?_ ?_
  · exact Heap.lt_size (N' _ (.head _)).1
  · exact fun p hp => Nat.lt_trans (l1 p hp) (Heap.lt_size (N' _ (.head _)).1)

set_option maxHeartbeats 1600000 in
theorem poly2_call {news : List (Addr × Obj)} {l : Addr} {vs : List Value} {ns : List Int} {n : Nat} {sh : Int} {t : Tok}
  (B : Below A₀ base outer h₀) (F : Fr h₀ L s.heap m) (X : (hd.heap_39 w.params).In h₀) (N : News h₀ L s.heap news) (T : TopM mean mg mb h₀)
  (hf : env.frame = some L) (hk : env.scope.kind = .function) (hroom : dp + 2 < recursionLimit) (hun : un + 9 < cLine)
  (hl : (l, W.listOf vs.toArray n) ∈ news) (hi : IntsAre vs ns) (h0 : ns ≠ []) (h1 : ns.length ≤ 100) (hs0 : 0 ≤ sh) (hs1 : sh ≤ 100)
  (hret : ∀ (h' : Heap) (tk' : Nat) (x dx r : Addr) (ox od or : Obj), Fr h₀ L h' m → News h₀ L h' ((x, ox) :: (dx, od) :: (r, or) :: news) → (∀ p ∈ news, p.1 < x) → (∀ p ∈ news, p.1 < dx) → (∀ p ∈ news, p.1 < r) → PolyIn w [(x, ox), (dx, od), (r, or)] x (polyZ ns sh.toNat) → Q (.ref x) { s with heap := h', toks := tk' }) :
  wpAny (model PP w) (AA dp un gd env outer) (call (.ref 144) [.ref l, .int sh t]) Q E s :=
  poly_call B F X N T hf hk hroom hun hl hi h0 h1 hs0 hs1 fun h' tk' x dx r k vr nr F' N' l1 l2 l3 q => hret h' tk' x dx r _ _ _ F' N' l1 l2 l3 ⟨dx, r, k, vr, nr, .head _, .tail _ (.head _), .tail _ (.tail _ (.head _)), q⟩

def mulCell (as bs w : List Int) (i j : Nat) : List Int := w.set (i + j) (xorZ (w.getD (i + j) 0) (gexpZ (glogZ (as.getD i 0) + glogZ (bs.getD j 0))))
def mulRow (as bs : List Int) (i : Nat) (w : List Int) (n : Nat) : List Int := (List.range n).foldl (fun w j => mulCell as bs w i j) w
def mulRows (as bs : List Int) (n : Nat) : List Int := (List.range n).foldl (fun w i => mulRow as bs i w bs.length) (List.replicate (as.length + bs.length - 1) 0)
theorem mulCell_len {as bs w : List Int} {i j : Nat} : (mulCell as bs w i j).length = w.length := by unfold mulCell; rw [List.length_set]
theorem mulRow_succ {as bs w : List Int} {i n : Nat} : mulRow as bs i w (n + 1) = mulCell as bs (mulRow as bs i w n) i n := by unfold mulRow; rw [List.range_succ, List.foldl_append]; rfl
theorem mulRow_len {as bs w : List Int} {i : Nat} : ∀ n, (mulRow as bs i w n).length = w.length
  | 0 => rfl
  | n + 1 => by rw [mulRow_succ, mulCell_len, mulRow_len n]
theorem mulRows_succ {as bs : List Int} {n : Nat} : mulRows as bs (n + 1) = mulRow as bs n (mulRows as bs n) bs.length := by unfold mulRows; rw [List.range_succ, List.foldl_append]; rfl
theorem mulRows_len {as bs : List Int} : ∀ n, (mulRows as bs n).length = as.length + bs.length - 1
  | 0 => by unfold mulRows; simp
  | n + 1 => by rw [mulRows_succ, mulRow_len, mulRows_len n]
/-- the words of a product of two Polynomials -/
def mulP (as bs : List Int) : List Int := polyZ (mulRows as bs as.length) 0

end Mine
end

theorem Mine.anew_W17 : 1 = 1 := by
  w_top off
  first | walk1 | rfl

/-! part W17 -/
section
open PySem PySem.W PyProof.Rows PySem.Calls PySem.Spec
set_option Elab.async false
namespace Mine
set_option maxRecDepth 100000
theorem fill_W17 {w : World} {h : Heap} : (hd.heap_39 w.params).In h → Challenge.rw_bj0062_01.row.prog = Challenge.rw_bj0062_01.row.prog := by
  k_fill
  intro _
  rfl
local macro_rules | `(tactic| walk_at "my_enter") => `(tactic| (refine wpAny_call ?_; k_dflt (refine' code_def ?k1 ?k2 ?k3 ?k4 ?k5 ?kA ?kF ?kK ?k6 ?k7 ?k8 ?k9 ?kB ?_ ?c2 ?c3 ?c4 ?c5; (case kA => exact rfl); (case kF => assumption); (case kK => assumption); (case k1 => k_asm); (case k2 => k_asm); (case k3 => k_asm); (case k4 => k_asm); (case k5 => k_asm); (case k6 => k_is); (case k7 => k_is); (case k8 => walk_at "room"); (case k9 => exact BindsTo.of_eq rfl); (case c5 => decide); (case kB => exact locs rfl); (case c2 => exact rfl); (case c3 => exact rfl); (case c4 => exact rfl); k_whole; intro g' L' h' FG' F' N' B' X' T'; (try dsimp only); (try k_fold))))
local macro_rules | `(tactic| walk_at "my_steps") => `(tactic| repeat' (first | (k_unfold; (try dsimp only)) | walk1 | (dsimp only; walk1)))
local macro_rules | `(tactic| walk_at "setItem ref int") => `(tactic| (k_here; (with_reducible show wpAny _ _ (setItem (Value.ref _) (Value.int _ _) _) _ _ _); k_dflt (refine' set_listK ?k1 ?k2 ?k3 ?k5 ?k6 ?k7 ?_; (case k1 => k_asm); (case k2 => k_asm); (case k3 => k_upd); (case k5 => first | omega | ksa_idx); (case k6 => first | omega | (simp; done) | (simp; omega)); (case k7 => first | omega | ksa_idx); k_whole); intro h' F' N'; (try k_sweep)))
local macro_rules | `(tactic| k_ne) => `(tactic| first | assumption | exact Ne.symm (by assumption) | (refine neN ?_; (try dsimp only); omega))
local macro_rules | `(tactic| k_all) => `(tactic| first | assumption | exact lt_all_ne (by assumption) | exact lt_all_sub (by assumption) (by walk_at "sub") | exact ne_all_sub (by assumption) (by walk_at "sub") | exact allLt_ne (by assumption) | exact allLt_ne (And.right (by assumption)) | exact allLt_ne (And.right (And.right (by assumption))) | exact allLt_ne (And.right (And.right (And.right (by assumption)))) | exact allLt_ne (And.right (And.right (And.right (And.right (by assumption))))) | exact allLt_ne (And.right (And.right (And.right (And.right (And.right (by assumption)))))) | exact allLt_ne (And.right (And.right (And.right (And.right (And.right (And.right (by assumption))))))) | exact allLt_ne (And.right (And.right (And.right (And.right (And.right (And.right (And.right (by assumption)))))))) | exact allLt_ne (And.right (And.right (And.right (And.right (And.right (And.right (And.right (And.right (by assumption))))))))) | exact allLt_ne (And.right (And.right (And.right (And.right (And.right (And.right (And.right (And.right (And.right (by assumption)))))))))) | exact lt_all_off (by assumption) (by omega) | exact off1_sub (by assumption) (by walk_at "sub") | exact List.forall_mem_nil _ | (refine' List.forall_mem_cons.mpr ⟨?a, ?b⟩; (case a => k_ne); (case b => k_all)))
local macro_rules | `(tactic| walk_at "call builtin:list.append") => `(tactic| (k_here; (with_reducible show wpAny _ _ (call (Value.builtin "list.append") [Value.ref _, _]) _ _ _); k_dflt (refine' append_L ?k1 ?k2 ?k3 ?k4 ?_; (case k1 => k_asm); (case k2 => k_asm); (case k3 => k_upd); (case k4 => walk_at "lens"); k_whole); intro h' F' N'; (try k_sweep)))
local macro_rules | `(tactic| walk_at "lens") => `(tactic| first | assumption | omega | (simp only [List.length_append, List.length_cons, List.length_nil, List.length_map, List.length_range, List.length_replicate, List.length_set]; omega))
local macro_rules | `(tactic| walk_at "ints") => `(tactic| first | omega | (simp only [decide_eq_true_eq, decide_eq_false_iff_not, Bool.not_eq_true, beq_iff_eq, beq_eq_false_iff_ne, ne_eq] at *; omega) | (trace_state; fail "ints"))
local macro_rules | `(tactic| walk_at "fld_in") => `(tactic| first | assumption | exact FieldIn.tail (by assumption) | exact FieldIn.tail (FieldIn.tail (by assumption)) | exact FieldIn.tail (FieldIn.tail (FieldIn.tail (by assumption))) | exact FieldIn.tail (FieldIn.tail (FieldIn.tail (FieldIn.tail (by assumption)))) | exact FieldIn.tail (FieldIn.tail (FieldIn.tail (FieldIn.tail (FieldIn.tail (by assumption))))) | exact FieldIn.tail (FieldIn.tail (FieldIn.tail (FieldIn.tail (FieldIn.tail (FieldIn.tail (by assumption)))))) | exact FieldIn.tail (FieldIn.tail (FieldIn.tail (FieldIn.tail (FieldIn.tail (FieldIn.tail (FieldIn.tail (by assumption))))))) | exact FieldIn.tail (FieldIn.tail (FieldIn.tail (FieldIn.tail (FieldIn.tail (FieldIn.tail (FieldIn.tail (FieldIn.tail (by assumption)))))))) | exact FieldIn.tail (FieldIn.tail (FieldIn.tail (FieldIn.tail (FieldIn.tail (FieldIn.tail (FieldIn.tail (FieldIn.tail (FieldIn.tail (by assumption))))))))) | exact FieldIn.tail (FieldIn.tail (FieldIn.tail (FieldIn.tail (FieldIn.tail (FieldIn.tail (FieldIn.tail (FieldIn.tail (FieldIn.tail (FieldIn.tail (by assumption)))))))))) | exact FieldIn.tail (FieldIn.tail (FieldIn.tail (FieldIn.tail (FieldIn.tail (FieldIn.tail (FieldIn.tail (FieldIn.tail (FieldIn.tail (FieldIn.tail (FieldIn.tail (by assumption))))))))))) | exact FieldIn.tail (FieldIn.tail (FieldIn.tail (FieldIn.tail (FieldIn.tail (FieldIn.tail (FieldIn.tail (FieldIn.tail (FieldIn.tail (FieldIn.tail (FieldIn.tail (FieldIn.tail (by assumption)))))))))))))
local macro_rules | `(tactic| k_mem) => `(tactic| first | assumption | exact List.Mem.head _ | (refine' List.Mem.tail _ ?_; k_mem))
local macro_rules | `(tactic| walk_at "subscriptTail") => `(tactic| (k_here; (with_reducible show wpAny _ _ (subscriptTail _ _ (Value.ref _) (Value.int 0 _)) _ _ _); k_dflt (refine' fld_0 ?k1 ?k2 ?_ ?k4; (case k1 => k_asm); (case k2 => walk_at "fld_in"); (case k4 => with_unfolding_all rfl); k_whole)))
local macro_rules | `(tactic| walk_at "subscriptTail Name Constant ref int") => `(tactic| (k_here; (with_reducible show wpAny _ _ (subscriptTail _ _ (Value.ref _) (Value.int 0 _)) _ _ _); k_dflt (refine' fld_0 ?k1 ?k2 ?_ ?k4; (case k1 => k_asm); (case k2 => walk_at "fld_in"); (case k4 => with_unfolding_all rfl); k_whole)))
local macro_rules | `(tactic| walk_at "subscriptTail") => `(tactic| (k_here; (with_reducible show wpAny _ _ (subscriptTail _ _ (Value.ref _) (Value.int 1 _)) _ _ _); k_dflt (refine' fld_1 ?k1 ?k2 ?_ ?k4; (case k1 => k_asm); (case k2 => walk_at "fld_in"); (case k4 => with_unfolding_all rfl); k_whole)))
local macro_rules | `(tactic| walk_at "subscriptTail Name Constant ref int") => `(tactic| (k_here; (with_reducible show wpAny _ _ (subscriptTail _ _ (Value.ref _) (Value.int 1 _)) _ _ _); k_dflt (refine' fld_1 ?k1 ?k2 ?_ ?k4; (case k1 => k_asm); (case k2 => walk_at "fld_in"); (case k4 => with_unfolding_all rfl); k_whole)))
local macro_rules | `(tactic| walk_at "subscriptTail") => `(tactic| (k_here; (with_reducible show wpAny _ _ (subscriptTail _ _ (Value.ref _) (Value.int _ _)) _ _ _); k_dflt (refine' fld_pow ?k1 ?k2 ?k5 ?k6 ?_ ?k4; (case k1 => k_asm); (case k2 => walk_at "fld_in"); (case k5 => first | omega | exact (fmod255 _).1); (case k6 => first | omega | exact (fmod255 _).2); (case k4 => with_unfolding_all rfl); k_whole); intro _))
local macro_rules | `(tactic| walk_at "subscriptTail Subscript Name Constant BinOp ref int") => `(tactic| (k_here; (with_reducible show wpAny _ _ (subscriptTail _ _ (Value.ref _) (Value.int _ _)) _ _ _); k_dflt (refine' fld_pow ?k1 ?k2 ?k5 ?k6 ?_ ?k4; (case k1 => k_asm); (case k2 => walk_at "fld_in"); (case k5 => first | omega | exact (fmod255 _).1); (case k6 => first | omega | exact (fmod255 _).2); (case k4 => with_unfolding_all rfl); k_whole); intro _))
local macro_rules | `(tactic| walk_at "subscriptTail Subscript Name Constant Name ref int") => `(tactic| (k_here; (with_reducible show wpAny _ _ (subscriptTail _ _ (Value.ref _) (Value.int _ _)) _ _ _); k_dflt (refine' fld_pow ?k1 ?k2 ?k5 ?k6 ?_ ?k4; (case k1 => k_asm); (case k2 => walk_at "fld_in"); (case k5 => first | omega | exact (fmod255 _).1); (case k6 => first | omega | exact (fmod255 _).2); (case k4 => with_unfolding_all rfl); k_whole); intro _))
local macro_rules | `(tactic| walk_at "subscriptTail Subscript Name Constant Subscript ref int") => `(tactic| (k_here; (with_reducible show wpAny _ _ (subscriptTail _ _ (Value.ref _) (Value.int _ _)) _ _ _); k_dflt (refine' fld_pow ?k1 ?k2 ?k5 ?k6 ?_ ?k4; (case k1 => k_asm); (case k2 => walk_at "fld_in"); (case k5 => first | omega | exact (fmod255 _).1); (case k6 => first | omega | exact (fmod255 _).2); (case k4 => with_unfolding_all rfl); k_whole); intro _))
local macro_rules | `(tactic| walk_at "subscriptTail") => `(tactic| (k_here; (with_reducible show wpAny _ _ (subscriptTail _ _ (Value.ref _) (Value.int _ _)) _ _ _); k_dflt (refine' fld_log ?k1 ?k2 ?k5 ?k6 ?_ ?k4; (case k1 => k_asm); (case k2 => walk_at "fld_in"); (case k5 => walk_at "ints"); (case k6 => walk_at "ints"); (case k4 => with_unfolding_all rfl); k_whole); intro _))
local macro_rules | `(tactic| walk_at "subscriptTail Subscript Name Constant BinOp ref int") => `(tactic| (k_here; (with_reducible show wpAny _ _ (subscriptTail _ _ (Value.ref _) (Value.int _ _)) _ _ _); k_dflt (refine' fld_log ?k1 ?k2 ?k5 ?k6 ?_ ?k4; (case k1 => k_asm); (case k2 => walk_at "fld_in"); (case k5 => walk_at "ints"); (case k6 => walk_at "ints"); (case k4 => with_unfolding_all rfl); k_whole); intro _))
local macro_rules | `(tactic| walk_at "subscriptTail Subscript Name Constant Name ref int") => `(tactic| (k_here; (with_reducible show wpAny _ _ (subscriptTail _ _ (Value.ref _) (Value.int _ _)) _ _ _); k_dflt (refine' fld_log ?k1 ?k2 ?k5 ?k6 ?_ ?k4; (case k1 => k_asm); (case k2 => walk_at "fld_in"); (case k5 => walk_at "ints"); (case k6 => walk_at "ints"); (case k4 => with_unfolding_all rfl); k_whole); intro _))
local macro_rules | `(tactic| walk_at "subscriptTail Subscript Name Constant Subscript ref int") => `(tactic| (k_here; (with_reducible show wpAny _ _ (subscriptTail _ _ (Value.ref _) (Value.int _ _)) _ _ _); k_dflt (refine' fld_log ?k1 ?k2 ?k5 ?k6 ?_ ?k4; (case k1 => k_asm); (case k2 => walk_at "fld_in"); (case k5 => walk_at "ints"); (case k6 => walk_at "ints"); (case k4 => with_unfolding_all rfl); k_whole); intro _))

local macro_rules | `(tactic| walk_at "pyIter ref") => `(tactic| ((with_reducible show wpAny _ _ (pyIter (Value.ref _)) (fun it s₂ => LoopAtV _ _ _ _ _ _ _ _ _ it s₂) _ _); refine Stopped.out ?_))
local macro_rules | `(tactic| walk_at "exec For Name Call cons nil") => `(tactic| (k_here; (rename Fr _ _ _ _ => lF'); (with_unfolding_all refine' For_invVF lF' ?k1 ?k2 ?_; (case k1 => exact rfl); (case k2 => exact rfl); k_whole)))
local macro_rules | `(tactic| walk_at "exec For Name Name cons nil") => `(tactic| (k_here; (rename Fr _ _ _ _ => lF'); (with_unfolding_all refine' For_invVF lF' ?k1 ?k2 ?_; (case k1 => exact rfl); (case k2 => exact rfl); k_whole)))
local macro_rules | `(tactic| walk_at "call type:range") => `(tactic| (k_here; (with_reducible show wpAny _ _ (call (Value.type "range") [Value.int _ _]) _ _ _); k_dflt (refine' range1_K ?k1 ?k2 ?_; (case k1 => k_asm); (case k2 => k_asm); k_whole); intro r' h' u' v' tk' F' N' R'; (try k_sweep)))
local macro_rules | `(tactic| walk_at "call type:range") => `(tactic| (k_here; (with_reducible show wpAny _ _ (call (Value.type "range") [Value.int _ _, Value.int _ _]) _ _ _); k_dflt (refine' range2_K ?k1 ?k2 ?_; (case k1 => k_asm); (case k2 => k_asm); k_whole); intro r' h' v' tk' F' N' R'; (try k_sweep)))
local macro_rules | `(tactic| walk_at "room") => `(tactic| first | assumption | omega | ((simp only [depth_in1, depth_deeper, units_in1, units_deeper, Around.mark_units]); omega))

local macro_rules | `(tactic| is_list) => `(tactic| (refine' isList_of ?a ?b; (case a => k_asm); (case b => k_mem)))
local macro_rules | `(tactic| walk_at "call builtin:len") => `(tactic| (k_here; (with_reducible show wpAny _ _ (call (Value.builtin "len") [Value.ref _]) _ _ _); k_dflt (refine' len_L ?k2 ?k3 ?k4 ?_; (case k2 => k_asm); (case k3 => k_mem); (case k4 => walk_at "lens"); k_whole); intro t' tk'; (try k_sweep)))
local macro_rules | `(tactic| walk_at "binaryOp Add ref ref") => `(tactic| (k_here; (with_reducible show wpAny _ _ (binaryOp Operator.Add (Value.ref _) (Value.ref _)) _ _ _); k_dflt (refine' add_L ?k1 ?k2 ?k3 ?k4 ?k5 ?_; (case k1 => k_asm); (case k2 => k_asm); (case k3 => k_mem); (case k4 => k_mem); (case k5 => walk_at "lens"); k_whole); intro r' h' F' N' hl'; (have hl2' := hl'); (try k_lt hl2'); (try k_sweep)))

local macro_rules | `(tactic| walk_at "sub") => `(tactic| first | (refine' List.forall_mem_cons.mpr ⟨?a, ?b⟩; (case a => k_mem); (case b => walk_at "sub")) | (intro p hp; k_mem))

local macro_rules | `(tactic| walk_at "keep") => `(tactic| first | exact keep_base | exact keep_refl | (refine keep_x ?_; walk_at "keep") | (refine keep_upd (by decide) ?_; walk_at "keep") | (refine keep_in (by decide) ?_; walk_at "keep"))

local macro_rules | `(tactic| walk_at "CompSrc") => `(tactic| refine Stopped.out ?_)
local macro_rules | `(tactic| walk_at "my_enterC") => `(tactic| (refine wpAny_call ?_; k_dflt (refine' code_defC ?k1 ?k2 ?k3 ?k4 ?k5 ?kA ?kF ?kK ?k6 ?k7 ?k8 ?k9 ?kB ?kD ?_ ?c2 ?c3 ?c4; (case kA => exact rfl); (case kF => assumption); (case kK => assumption); (case k1 => k_asm); (case k2 => k_asm); (case k3 => k_asm); (case k4 => k_asm); (case k5 => k_asm); (case k6 => k_is); (case k7 => k_is); (case k8 => walk_at "room"); (case k9 => exact BindsTo.of_eq rfl); (case kB => exact rfl); (case kD => decide +kernel); (case c2 => exact rfl); (case c3 => exact rfl); (case c4 => exact rfl); k_whole; intro g' L' h' tk' cells' FG' F' N' Y' B' X' T' l1; k_cells Y'; (try simp only [List.cons_append, List.nil_append] at N'); (try dsimp only); (try k_fold))))

local macro_rules | `(tactic| walk_at "subscriptTail Name Slice ref ref") => `(tactic| (k_here; (with_reducible show wpAny _ _ (subscriptTail _ (PySem.Expr.Slice _ _ _ _) (Value.ref _) (Value.ref _)) _ _ _); k_dflt (refine' slice_LI ?zF ?zN ?zl ?zi ?zp ?zq ?zk ?zo ?zz ?_ ?zs; (case zF => k_asm); (case zN => k_asm); (case zl => k_mem); (case zi => assumption); (case zp => kmk_part); (case zq => kmk_part); (case zk => kmk_part); (case zo => decide); (case zz => walk_at "lens"); (case zs => with_unfolding_all rfl)); intro D' ws' h' F' N' l1 hI' hL'; (have l2' := l1); (try k_lt l2'); (try k_sweep)))
local macro_rules | `(tactic| walk_at "subscriptTail ListComp Slice ref ref") => `(tactic| (k_here; (with_reducible show wpAny _ _ (subscriptTail _ (PySem.Expr.Slice _ _ _ _) (Value.ref _) (Value.ref _)) _ _ _); k_dflt (refine' slice_LI ?zF ?zN ?zl ?zi ?zp ?zq ?zk ?zo ?zz ?_ ?zs; (case zF => k_asm); (case zN => k_asm); (case zl => k_mem); (case zi => assumption); (case zp => kmk_part); (case zq => kmk_part); (case zk => kmk_part); (case zo => decide); (case zz => walk_at "lens"); (case zs => with_unfolding_all rfl)); intro D' ws' h' F' N' l1 hI' hL'; (have l2' := l1); (try k_lt l2'); (try k_sweep)))
local macro_rules | `(tactic| walk_at "subscriptTail Subscript Slice ref ref") => `(tactic| (k_here; (with_reducible show wpAny _ _ (subscriptTail _ (PySem.Expr.Slice _ _ _ _) (Value.ref _) (Value.ref _)) _ _ _); k_dflt (refine' slice_LI ?zF ?zN ?zl ?zi ?zp ?zq ?zk ?zo ?zz ?_ ?zs; (case zF => k_asm); (case zN => k_asm); (case zl => k_mem); (case zi => assumption); (case zp => kmk_part); (case zq => kmk_part); (case zk => kmk_part); (case zo => decide); (case zz => walk_at "lens"); (case zs => with_unfolding_all rfl)); intro D' ws' h' F' N' l1 hI' hL'; (have l2' := l1); (try k_lt l2'); (try k_sweep)))
local macro_rules | `(tactic| walk_at "subscriptTail Attribute Slice ref ref") => `(tactic| (k_here; (with_reducible show wpAny _ _ (subscriptTail _ (PySem.Expr.Slice _ _ _ _) (Value.ref _) (Value.ref _)) _ _ _); k_dflt (refine' slice_LI ?zF ?zN ?zl ?zi ?zp ?zq ?zk ?zo ?zz ?_ ?zs; (case zF => k_asm); (case zN => k_asm); (case zl => k_mem); (case zi => assumption); (case zp => kmk_part); (case zq => kmk_part); (case zk => kmk_part); (case zo => decide); (case zz => walk_at "lens"); (case zs => with_unfolding_all rfl)); intro D' ws' h' F' N' l1 hI' hL'; (have l2' := l1); (try k_lt l2'); (try k_sweep)))
local macro_rules | `(tactic| walk_at "subscriptTail Name Name ref ref") => `(tactic| (k_here; (with_reducible show wpAny _ _ (subscriptTail _ _ (Value.ref _) (Value.ref _)) _ _ _); k_dflt (refine' slice_LI ?zF ?zN ?zl ?zi ?zp ?zq ?zk ?zo ?zz ?_ ?zs; (case zF => k_asm); (case zN => k_asm); (case zl => k_mem); (case zi => assumption); (case zp => kmk_part); (case zq => kmk_part); (case zk => kmk_part); (case zo => decide); (case zz => walk_at "lens"); (case zs => with_unfolding_all rfl)); intro D' ws' h' F' N' l1 hI' hL'; (have l2' := l1); (try k_lt l2'); (try k_sweep)))
local macro_rules | `(tactic| walk_at "subscriptTail Attribute Name ref ref") => `(tactic| (k_here; (with_reducible show wpAny _ _ (subscriptTail _ _ (Value.ref _) (Value.ref _)) _ _ _); k_dflt (refine' slice_LI ?zF ?zN ?zl ?zi ?zp ?zq ?zk ?zo ?zz ?_ ?zs; (case zF => k_asm); (case zN => k_asm); (case zl => k_mem); (case zi => assumption); (case zp => kmk_part); (case zq => kmk_part); (case zk => kmk_part); (case zo => decide); (case zz => walk_at "lens"); (case zs => with_unfolding_all rfl)); intro D' ws' h' F' N' l1 hI' hL'; (have l2' := l1); (try k_lt l2'); (try k_sweep)))

variable {w : World} {mean : ExcName → Option Value} {mg mb : Str → Option Value} {dp un : Nat} {gd : Option (List Code)} {A₀ : Around} {base h₀ : Heap} {env : Env} {outer : List Env} {L : Addr} {m : Str → Option Value} {s : Shared} {Q E : Value → Shared → Prop}
local macro_rules | `(tactic| walk_at "call builtin:list.append") => `(tactic| (k_here; (with_reducible show wpAny _ _ (call (Value.builtin "list.append") [Value.ref _, Value.int _ _]) _ _ _); k_dflt (refine' append_LI ?k1 ?k2 ?k3 ?k4 ?k5 ?_; (case k1 => k_asm); (case k2 => k_asm); (case k3 => k_upd); (case k4 => walk_at "lens"); (case k5 => assumption); k_whole); intro h' F' N' hI'; (try k_sweep)))
local macro_rules | `(tactic| walk_at "subscriptTail Name Slice ref ref") => `(tactic| (k_here; (with_reducible show wpAny _ _ (subscriptTail _ (PySem.Expr.Slice _ _ none _) (Value.ref _) (Value.ref _)) _ _ _); k_dflt (refine' slice_LJ ?zF ?zN ?zl ?zi ?zp ?zq ?zz ?_ ?zs ?zt; (case zF => k_asm); (case zN => k_asm); (case zl => k_mem); (case zi => assumption); (case zp => kmk_part); (case zq => kmk_part); (case zz => walk_at "lens"); (case zs => with_unfolding_all rfl); (case zt => kmk_pure)); intro D' ws' h' F' N' l1 hI' hL'; (have l2' := l1); (try k_lt l2'); (try k_sweep)))
local macro_rules | `(tactic| walk_at "subscriptTail ListComp Slice ref ref") => `(tactic| (k_here; (with_reducible show wpAny _ _ (subscriptTail _ (PySem.Expr.Slice _ _ none _) (Value.ref _) (Value.ref _)) _ _ _); k_dflt (refine' slice_LJ ?zF ?zN ?zl ?zi ?zp ?zq ?zz ?_ ?zs ?zt; (case zF => k_asm); (case zN => k_asm); (case zl => k_mem); (case zi => assumption); (case zp => kmk_part); (case zq => kmk_part); (case zz => walk_at "lens"); (case zs => with_unfolding_all rfl); (case zt => kmk_pure)); intro D' ws' h' F' N' l1 hI' hL'; (have l2' := l1); (try k_lt l2'); (try k_sweep)))
local macro_rules | `(tactic| walk_at "subscriptTail Subscript Slice ref ref") => `(tactic| (k_here; (with_reducible show wpAny _ _ (subscriptTail _ (PySem.Expr.Slice _ _ none _) (Value.ref _) (Value.ref _)) _ _ _); k_dflt (refine' slice_LJ ?zF ?zN ?zl ?zi ?zp ?zq ?zz ?_ ?zs ?zt; (case zF => k_asm); (case zN => k_asm); (case zl => k_mem); (case zi => assumption); (case zp => kmk_part); (case zq => kmk_part); (case zz => walk_at "lens"); (case zs => with_unfolding_all rfl); (case zt => kmk_pure)); intro D' ws' h' F' N' l1 hI' hL'; (have l2' := l1); (try k_lt l2'); (try k_sweep)))
local macro_rules | `(tactic| walk_at "subscriptTail Attribute Slice ref ref") => `(tactic| (k_here; (with_reducible show wpAny _ _ (subscriptTail _ (PySem.Expr.Slice _ _ none _) (Value.ref _) (Value.ref _)) _ _ _); k_dflt (refine' slice_LJ ?zF ?zN ?zl ?zi ?zp ?zq ?zz ?_ ?zs ?zt; (case zF => k_asm); (case zN => k_asm); (case zl => k_mem); (case zi => assumption); (case zp => kmk_part); (case zq => kmk_part); (case zz => walk_at "lens"); (case zs => with_unfolding_all rfl); (case zt => kmk_pure)); intro D' ws' h' F' N' l1 hI' hL'; (have l2' := l1); (try k_lt l2'); (try k_sweep)))
local macro_rules | `(tactic| walk_at "lens") => `(tactic| first | assumption | omega | (simp only [List.flatten_replicate_singleton, List.length_append, List.length_cons, List.length_nil, List.length_map, List.length_range, List.length_replicate, List.length_set]; omega))
local macro_rules | `(tactic| walk_at "sub") => `(tactic| first | exact List.forall_mem_nil _ | (refine' List.forall_mem_cons.mpr ⟨?a, ?b⟩; (case a => k_mem); (case b => walk_at "sub")) | (intro p hp; k_mem))


local macro_rules | `(tactic| walk_at "rngs") => `(tactic| first | assumption | exact mulZ_rng.1 | exact mulZ_rng.2 | exact divZ_rng.1 | exact divZ_rng.2 | exact rng_lo (by assumption) | exact rng_hi (by assumption) | omega | exact (by assumption : _ → _ ∨ _) (by assumption))
local macro_rules | `(tactic| walk_at "poly_in") => `(tactic| first | assumption | exact PolyIn.mono (by assumption) (by walk_at "sub"))
local macro_rules | `(tactic| walk_at "call ref") => `(tactic| (k_here; (with_reducible show wpAny _ _ (call (Value.ref 94) _) _ _ _); k_dflt (refine' gexp_call ?k1 ?k2 ?k3 ?k4 ?k5 ?k7 ?k8 ?ka ?kb ?_; (case k1 => k_asm); (case k2 => k_asm); (case k3 => k_asm); (case k4 => k_asm); (case k5 => k_asm); (case k7 => exact rfl); (case k8 => exact rfl); (case ka => walk_at "room"); (case kb => walk_at "room"); k_whole); intro t9 h9 tk9 F9 N9; (try k_sweep)))
local macro_rules | `(tactic| walk_at "call ref") => `(tactic| (k_here; (with_reducible show wpAny _ _ (call (Value.ref 87) _) _ _ _); k_dflt (refine' glog_call ?k1 ?k2 ?k3 ?k4 ?k5 ?k7 ?k8 ?ka ?kb ?q0 ?q1 ?_; (case k1 => k_asm); (case k2 => k_asm); (case k3 => k_asm); (case k4 => k_asm); (case k5 => k_asm); (case k7 => exact rfl); (case k8 => exact rfl); (case ka => walk_at "room"); (case kb => walk_at "room"); (case q0 => walk_at "rngs"); (case q1 => walk_at "rngs"); k_whole); intro t9 h9 tk9 F9 N9; (try k_sweep)))
local macro_rules | `(tactic| walk_at "call builtin:len") => `(tactic| (k_here; (with_reducible show wpAny _ _ (call (Value.builtin "len") [Value.ref _]) _ _ _); k_dflt (refine' plen_call ?k1 ?k2 ?k3 ?k4 ?k5 ?k7 ?k8 ?ka ?kb ?q0 ?q1 ?_; (case k1 => k_asm); (case k2 => k_asm); (case k3 => k_asm); (case k4 => k_asm); (case k5 => k_asm); (case k7 => exact rfl); (case k8 => exact rfl); (case ka => walk_at "room"); (case kb => walk_at "room"); (case q0 => walk_at "poly_in"); (case q1 => walk_at "lens"); k_whole); intro h9 tk9 t9 F9 N9; (try k_sweep)))
local macro_rules | `(tactic| walk_at "call type:enumerate") => `(tactic| (k_here; (with_reducible show wpAny _ _ (call (Value.type "enumerate") [Value.ref _]) _ _ _); k_dflt (refine' penum_call ?k1 ?k2 ?k3 ?k4 ?k5 ?k7 ?k8 ?ka ?kb ?q0 ?q1 ?_; (case k1 => k_asm); (case k2 => k_asm); (case k3 => k_asm); (case k4 => k_asm); (case k5 => k_asm); (case k7 => exact rfl); (case k8 => exact rfl); (case ka => walk_at "room"); (case kb => walk_at "room"); (case q0 => assumption); (case q1 => walk_at "sub"); k_whole); intro h9 tk9 e9 it9 r9 vr9 nr9 m9 i9 F9 N9 l9 l8 l7; (have l92 := l9); (try k_lt l92); (have l72 := l7); (try k_lt l72); (try k_sweep)))
local macro_rules | `(tactic| walk_at "call ref") => `(tactic| (k_here; (with_reducible show wpAny _ _ (call (Value.ref 144) _) _ _ _); k_dflt (refine' poly2_call ?k1 ?k2 ?k3 ?k4 ?k5 ?k7 ?k8 ?ka ?kb ?q0 ?q1 ?q2 ?q3 ?q4 ?q5 ?_; (case k1 => k_asm); (case k2 => k_asm); (case k3 => k_asm); (case k4 => k_asm); (case k5 => k_asm); (case k7 => exact rfl); (case k8 => exact rfl); (case ka => walk_at "room"); (case kb => walk_at "room"); (case q0 => k_mem); (case q1 => first | assumption | exact .cons _ _ (.cons _ _ .nil) | exact .cons _ _ .nil); (case q2 => first | assumption | (refine List.ne_nil_of_length_pos ?_; walk_at "lens") | (intro hnil; cases hnil)); (case q3 => walk_at "lens"); (case q4 => omega); (case q5 => omega); k_whole); intro h9 tk9 x9 dx9 r9 ox9 od9 or9 F9 N9 l9 l8 l7 H9; (have l92 := l9); (try k_lt l92); (have l82 := l8); (try k_lt l82); (have l72 := l7); (try k_lt l72); (try k_sweep)))
local macro_rules | `(tactic| walk_at "pyIter ref") => `(tactic| ((with_reducible show wpAny _ _ (pyIter (Value.ref _)) (fun it s₂ => PairAt3 _ _ _ _ _ _ _ _ _ _ it s₂) _ _); refine Stopped.out ?_))

set_option maxHeartbeats 4000000 in
theorem mul_call {news : List (Addr × Obj)} {x y : Addr} {as bs : List Int}
  (B : Below A₀ base outer h₀) (F : Fr h₀ L s.heap m) (X : (hd.heap_39 w.params).In h₀) (N : News h₀ L s.heap news) (T : TopM mean mg mb h₀)
  (hf : env.frame = some L) (hk : env.scope.kind = .function) (hroom : dp + 4 < recursionLimit) (hun : un + 40 < cLine)
  (H1 : PolyIn w news x as) (H2 : PolyIn w news y bs) (ha : ∀ k ∈ as, 1 ≤ k ∧ k < 256) (hb : ∀ k ∈ bs, 1 ≤ k ∧ k < 256) (ha0 : 0 < as.length) (hb0 : 0 < bs.length) (ha1 : as.length ≤ 40) (hb1 : bs.length ≤ 40)
  (hret : ∀ (h' : Heap) (tk' : Nat) (x dx r : Addr) (ox od or : Obj), Fr h₀ L h' m → News h₀ L h' ((x, ox) :: (dx, od) :: (r, or) :: news) → (∀ p ∈ news, p.1 < x) → (∀ p ∈ news, p.1 < dx) → (∀ p ∈ news, p.1 < r) → PolyIn w [(x, ox), (dx, od), (r, or)] x (mulP as bs) → Q (.ref x) { s with heap := h', toks := tk' }) :
  wpAny (model PP w) (AA dp un gd env outer) (call (.ref 136) [.ref x, .ref y]) Q E s := by
  walk_at "my_enter"
  walk_at "my_steps"
  refine ⟨?_⟩
  rename_i D h1 i1 n1 s1 e1 e2 e3 lD h2 h9 tk9 e it r vr nr m9 i9 F9 N9 l9 l8 l7 l92 l72
  have hnD : ∀ p ∈ news, p.1 < D := allLt_lt lD.2
  have hDe : @Ne Nat D e := Nat.ne_of_lt l72.1
  have hDi : @Ne Nat D it := Nat.ne_of_lt l92.1
  have hDr : @Ne Nat r D := Nat.ne_of_lt (hnD _ m9)
  have hvl := i9.length
  have z1 : ((as.length : Int) + bs.length - 1).toNat = as.length + bs.length - 1 := by omega
  rw [List.flatten_replicate_singleton, List.flatten_replicate_singleton, z1] at i1
  rw [List.flatten_replicate_singleton, z1] at N9
  refine pair_loop ["j", "other_item", "zz"] (fun i u nx => ∃ wn kn, nx = (D, W.listOf wn.toArray kn) :: news ∧ IntsAre wn (mulRows as bs i)) rfl (Ne.symm (Nat.ne_of_lt l8)) (List.forall_mem_cons.mpr ⟨hDe, fun p hp => Nat.ne_of_lt (l7 p (.tail _ (.tail _ hp)))⟩) (List.forall_mem_cons.mpr ⟨hDi, fun p hp => Nat.ne_of_lt (l9 p (.tail _ (.tail _ hp)))⟩) (.tail _ m9) F9 (news_sub N9 (by walk_at "sub")) ⟨_, _, rfl, i1⟩ ?_ ?_
  · rintro i v t u nx h tk own hv hown ⟨wn, kn, rfl, q1⟩ hmap F₁ N₁
    obtain ⟨ka, ta, hka, rfl⟩ := ints_at i9 hv
    have hra := ha ka (List.mem_of_getElem? hka)
    have hi1 : i < as.length := (List.getElem?_eq_some_iff.mp hka).1
    have hr1 : ∀ p ∈ own ++ news, p.1 ≠ D := by
      intro p hp
      rcases List.mem_append.mp hp with hp | hp
      · rcases hown p hp with q | q | q
        · rw [q]; exact Ne.symm hDe
        · rw [q]; exact Ne.symm hDi
        · rw [q]; exact hDr
      · exact Nat.ne_of_lt (hnD p hp)
    have hsub1 : ∀ p ∈ news, p ∈ own ++ news := fun p hp => List.mem_append_right _ hp
    have hsub2 : ∀ p ∈ own, p ∈ own ++ news := fun p hp => List.mem_append_left _ hp
    replace N₁ : News _ _ _ ((D, W.listOf wn.toArray kn) :: (own ++ news)) := news_sub N₁ (by
      intro p hp
      rcases List.mem_cons.mp hp with rfl | hp
      · exact List.mem_append_right _ (.head _)
      · rcases List.mem_append.mp hp with hp | hp
        · exact List.mem_append_left _ hp
        · exact List.mem_append_right _ (.tail _ hp))
    have H2' : PolyIn w (own ++ news) y bs := H2.mono hsub1
    have H1' : PolyIn w (own ++ news) x as := H1.mono hsub1
    generalize own ++ news = rs at *
    clear H1 H2
    walk_at "my_steps"
    refine ⟨?_⟩
    rename_i h3 tk3 e3 it3 r3 vr3 nr3 m3 i3 F3 N3 k9 k8 k7 k92 k72
    have hDe3 : @Ne Nat D e3 := Nat.ne_of_lt k72.1
    have hDi3 : @Ne Nat D it3 := Nat.ne_of_lt k92.1
    have hDr3 : @Ne Nat r3 D := hr1 _ m3
    have hwl := q1.length
    rw [mulRows_len] at hwl
    refine pair_loop ["zz"] (fun j u nx => ∃ wn kn, nx = (D, W.listOf wn.toArray kn) :: rs ∧ IntsAre wn (mulRow as bs i (mulRows as bs i) j)) rfl (Ne.symm (Nat.ne_of_lt k8)) (List.forall_mem_cons.mpr ⟨hDe3, fun p hp => Nat.ne_of_lt (k7 p (.tail _ hp))⟩) (List.forall_mem_cons.mpr ⟨hDi3, fun p hp => Nat.ne_of_lt (k9 p (.tail _ hp))⟩) (.tail _ m3) F3 N3 ⟨_, _, rfl, q1⟩ ?_ ?_
    · rintro j v t2 u nx h tk own2 hv2 hown2 ⟨wn2, kn2, rfl, q2⟩ hmap2 F₁ N₁
      obtain ⟨kb, tb, hkb, rfl⟩ := ints_at i3 hv2
      have hrb := hb kb (List.mem_of_getElem? hkb)
      have hj1 : j < bs.length := (List.getElem?_eq_some_iff.mp hkb).1
      have hr2 : ∀ p ∈ own2 ++ rs, p.1 ≠ D := by
        intro p hp
        rcases List.mem_append.mp hp with hp | hp
        · rcases hown2 p hp with q | q | q
          · rw [q]; exact Ne.symm hDe3
          · rw [q]; exact Ne.symm hDi3
          · rw [q]; exact hDr3
        · exact hr1 p hp
      have hsub3 : ∀ p ∈ rs, p ∈ own2 ++ rs := fun p hp => List.mem_append_right _ hp
      have hsub4 : ∀ p ∈ own2, p ∈ own2 ++ rs := fun p hp => List.mem_append_left _ hp
      replace N₁ : News _ _ _ ((D, W.listOf wn2.toArray kn2) :: (own2 ++ rs)) := news_sub N₁ (by
        intro p hp
        rcases List.mem_cons.mp hp with rfl | hp
        · exact List.mem_append_right _ (.head _)
        · rcases List.mem_append.mp hp with hp | hp
          · exact List.mem_append_left _ hp
          · exact List.mem_append_right _ (.tail _ hp))
      generalize own2 ++ rs = rs2 at *
      have hwl2 := q2.length
      rw [mulRow_len, mulRows_len] at hwl2
      have ra1 := hra.1
      have ra2 := hra.2
      have rb1 := hrb.1
      have rb2 := hrb.2
      walk_at "my_steps"
      rename Fr _ _ _ _ => F₆
      rename News _ _ _ _ => N₆
      refine ppost_next F₆ N₆ (nx := (D, W.listOf _ kn2) :: rs) (fun p hp => .tail _ (hsub4 p hp)) (List.forall_mem_cons.mpr ⟨.head _, fun p hp => .tail _ (hsub3 p hp)⟩) rfl ⟨⟨_, kn2, rfl, ?_⟩, by walk_at "keep"⟩
      rw [mulRow_succ]
      unfold mulCell
      have w1 : as.getD i 0 = ka := by rw [List.getD_eq_getElem?_getD, hka]; rfl
      have w2 : bs.getD j 0 = kb := by rw [List.getD_eq_getElem?_getD, hkb]; rfl
      rw [w1, w2]
      have w3 : ((i : Int) + (j : Int)).toNat = i + j := by omega
      rw [← w3]
      exact ints_set q2 _
    · rintro u nx h tk ⟨wn2, kn2, rfl, q2⟩ hmap2 F₁ N₁
      have hvl3 := i3.length
      rw [hvl3, ← mulRows_succ] at q2
      walk_at "my_steps"
      rename Fr _ _ _ _ => F₆
      rename News _ _ _ _ => N₆
      refine ppost_next F₆ N₆ (nx := (D, W.listOf wn2.toArray kn2) :: news) (fun p hp => .tail _ (hsub2 p hp)) (List.forall_mem_cons.mpr ⟨.head _, fun p hp => .tail _ (hsub1 p hp)⟩) rfl ⟨⟨_, kn2, rfl, q2⟩, by walk_at "keep"⟩
  · rintro u nx h tk ⟨wn, kn, rfl, q1⟩ hmap F₁ N₁
    have hwl := q1.length
    rw [hvl, mulRows_len] at hwl
    have hml : (mulRows as bs vr.length).length = as.length + bs.length - 1 := mulRows_len _
    walk_at "my_steps"
    rename Fr h₀ L _ m => kF
    rename News h₀ L _ _ => kN
    rename PolyIn _ _ _ (polyZ _ _) => kH
    rename_i x9 dx9 r9 ox9 od9 or9 F9 N9 p9 p8 p7 p92 p82 p72 u1 u2
    refine hret _ _ _ _ _ _ _ _ kF (news_sub kN (by walk_at "sub")) (fun p hp => p9 p (.tail _ hp)) (fun p hp => p8 p (.tail _ hp)) (fun p hp => p7 p (.tail _ hp)) ?_
    rw [hvl] at kH
    exact kH

end Mine
end

theorem Mine.anew_WZ : 1 = 1 := by
  w_top off
  first | walk1 | rfl

/-! part WZ -/
section
open PySem PySem.W PyProof.Rows PySem.Calls PySem.Spec
set_option Elab.async false
namespace Mine
set_option maxRecDepth 100000
set_option maxHeartbeats 2000000
open LCg
section
variable {prog : Program} {w : World} {A : Around} {E : Value → Shared → Prop} {h₀ : Heap} {L : Addr} {m : Str → Option Value} {env : Env}
/-! what a step leaves as it was: all places outside `X` -/
def Same (X : Addr → Prop) (h h' : Heap) : Prop := ∀ b o, ¬ X b → h.get? b = some o → h'.get? b = some o
namespace Same
variable {X Y : Addr → Prop} {h h' h'' : Heap}
theorem trans (a : Same X h h') (b : Same X h' h'') : Same X h h'' := fun c o n e => b c o n (a c o n e)
theorem weak (xy : ∀ b, X b → Y b) (a : Same X h h') : Same Y h h' := fun b o n e => a b o (n ∘ xy b) e
theorem fr (a : Same X h h') (F : Fr h₀ L h m) (nl : ¬ X L) (x0 : ∀ b, X b → h₀.get? b = none) : Fr h₀ L h' m where
  ns := F.ns.at' fun o e => a L o nl e
  keep b o e := a b o (fun x => by rw [x0 b x] at e; exact nomatch e) (F.keep b o e)
  above := F.above
theorem led {news : List (Addr × Obj)} (a : Same X h h') (N : News h₀ L h news) (off : ∀ p ∈ news, ¬ X p.1) : News h₀ L h' news :=
  fun p hp => (N p hp).imp_left (a p.1 p.2 (off p hp))
end Same
/-! a place made now lies above all that stood -/
theorem below_new {h : Heap} {b D : Addr} {o : Obj} (hD : h.objs.size ≤ D) (e : h.get? b = some o) : b < D := Nat.lt_of_lt_of_le (Heap.lt_size e) hD
theorem base_none {h : Heap} {D : Addr} (F : Fr h₀ L h m) (hD : h.objs.size ≤ D) : h₀.get? D = none := by
  rcases e : h₀.get? D with _ | o
  · rfl
  · exact absurd (below_new hD (F.keep D o e)) (Nat.lt_irrefl D)
/-- the list `D` and the names' place `C` of a comprehension lie apart from what else is spoken of -/
structure Places (h₀ : Heap) (L : Addr) (fp : List Addr) (news : List (Addr × Obj)) (C D : Addr) : Prop where
  cf : C ∉ fp
  df : D ∉ fp
  cl : C ≠ L
  dl : D ≠ L
  cd : C ≠ D
  c0 : h₀.get? C = none
  d0 : h₀.get? D = none
  nc : ∀ p ∈ news, p.1 ≠ C
  nd : ∀ p ∈ news, p.1 ≠ D
theorem Places.of {h : Heap} {fp : List Addr} {news : List (Addr × Obj)} {C D : Addr} (F : Fr h₀ L h m) (N : News h₀ L h news) (hfp : ∀ b ∈ fp, b < h.objs.size) (hD : h.objs.size ≤ D) (hC : D < C) : Places h₀ L fp news C D :=
  have ud : ∀ b, b < h.objs.size → b ≠ D := fun _ hb => Nat.ne_of_lt (Nat.lt_of_lt_of_le hb hD)
  have uc : ∀ b, b < h.objs.size → b ≠ C := fun _ hb => Nat.ne_of_lt (Nat.lt_trans (Nat.lt_of_lt_of_le hb hD) hC)
  have nn : ∀ p ∈ news, p.1 < h.objs.size := fun p hp => Heap.lt_size (N p hp).1
  { cf := fun x => uc C (hfp C x) rfl
    df := fun x => ud D (hfp D x) rfl
    cl := fun x => uc L F.ns.lt x.symm
    dl := fun x => ud L F.ns.lt x.symm
    cd := Ne.symm (Nat.ne_of_lt hC)
    c0 := base_none F (Nat.le_of_lt (Nat.lt_of_le_of_lt hD hC))
    d0 := base_none F hD
    nc := fun p hp => uc _ (nn p hp)
    nd := fun p hp => ud _ (nn p hp) }
/-- a comprehension's list and names laid: both new, nothing else changed -/
theorem comp_open {s : Shared} {scope : Scope} {cl : List (Str × Addr)} {e : PySem.Expr} {it : Value} {RR : Value → Addr → Result → Shared → Prop} (nocell : ∀ y ∈ scope.names, y.2 ≠ .cell) (kind : scope.kind = .function)
    (go : ∀ (D C : Addr) (h : Heap) (tk : Nat) (mC : Str → Option Value), s.heap.objs.size ≤ D → D < C → Same (fun _ => False) s.heap h → h.get? D = some (lst []) → h.Ns C mC →
      codeAny (model prog w) A (.compStart e 0 it (.ref D) (compEnvC scope cl C env)) (RR (.ref D) C) { s with heap := h, toks := tk }) :
    wpAny (model prog w) A (newList []) (fun acc s₃ => wpAny (model prog w) A (newFunctionEnv scope env.globals cl [] env.qual none .none (some env)) (fun cenv s₄ =>
      codeAny (model prog w) A (.compStart e 0 it acc { cenv with scope := relabel scope env }) (RR acc cenv.locals) s₄) E s₃) E s := by
  apply wpAny_newObj_type (hd := by size_fits)
  apply wpAny_newFunctionEnv nocell (fun _ none => absurd none List.not_mem_nil) ?_ kind
  intro h ns same
  have sz : (s.heap.push (lst [])).objs.size = s.heap.objs.size + 1 := Heap.size_push ..
  have lt : s.heap.objs.size < (s.heap.push (lst [])).objs.size := by omega
  refine go s.heap.objs.size _ h _ _ (Nat.le_refl _) lt (fun b o _ e => ?_) ?_ ns
  · have b0 := Heap.lt_size e
    exact same.extBut b o (Nat.ne_of_lt (Nat.lt_trans b0 lt)) (Heap.get?_push_of_some _ (Heap.get?_push_of_some _ e))
  · exact same.extBut _ _ (Nat.ne_of_lt lt) (Heap.get?_push_of_some _ (Heap.get?_push_size _ rfl))
/-- where a comprehension stands after `i` turns -/
structure TurnAt (h₀ : Heap) (L : Addr) (m : Str → Option Value) (St : Nat → Heap → Prop) (J : Nat → List Value → Prop) (news : List (Addr × Obj)) (C D : Addr) (i : Nat) (ys : List Value) (h : Heap) : Prop where
  len : ys.length = i
  st : St i h
  fr : Fr h₀ L h m
  names : ∃ mC, h.Ns C mC
  led : News h₀ L h ((D, lst ys) :: news)
  inv : J i ys
/-- «[elt for a, b in it]» turn by turn, over any walk that hands out pairs -/
theorem pair_turns {elt iter : PySem.Expr} {a b : Str} {pa pb tp : Pos} {kk : Nat} {scope : Scope} {cl : List (Str × Addr)} {pos : Pos} {s : Shared} {I C D : Addr} {fp wr : List Addr} {n : Nat} {Pt : Nat → Array Value → Prop} {St : Nat → Heap → Prop} {Mid : Nat → Addr → Heap → Prop}
    {P2 : Nat → Value → Value → Prop} {news : List (Addr × Obj)} {J : Nat → List Value → Prop} {R : Result → Shared → Prop}
    (W : WalksT prog w A I fp wr n Pt St Mid) (two : ∀ i vals, Pt i vals → ∃ u v, vals = #[u, v] ∧ P2 i u v) (fits : n ≤ sizeLine) (kind : scope.kind = .function) (la : scope.names.lookup a = some .local) (lb : scope.names.lookup b = some .local) (ab : a ≠ b)
    (calm : A.handled = none) (lf : L ∉ fp) (w0 : ∀ b ∈ wr, h₀.get? b = none) (nw : ∀ p ∈ news, p.1 ∉ wr) (G : Places h₀ L fp news C D)
    (turn : ∀ i u v own oC mC ys h tk (E' : Value → Shared → Prop), i < n → P2 i u v → J i ys → NsObj oC mC → mC a = some u → mC b = some v → Fr h₀ L h m → News h₀ L h (own ++ (C, oC) :: (D, lst ys) :: news) →
      wpAny (model prog w) A (eval elt (compEnvC scope cl C env)) (fun y s' => ∃ h' tk', s' = { s with heap := h', toks := tk' } ∧ Fr h₀ L h' m ∧ News h₀ L h' (own ++ (C, oC) :: (D, lst ys) :: news) ∧ J (i + 1) (ys ++ [y])) E' { s with heap := h, toks := tk })
    (fin : ∀ ys h tk mC, Fr h₀ L h m → News h₀ L h ((D, lst ys) :: news) → h.Ns C mC → J n ys → R (.ok .next) { s with heap := h, toks := tk })
    {h : Heap} {tk : Nat} (S : TurnAt h₀ L m St J news C D 0 [] h) :
    codeAny (model prog w) A (.compLoop (.ListComp elt [⟨.Tuple [.Name a pa, .Name b pb] kk tp, iter, [], 0⟩] scope pos) 0 (.ref I) (.ref D) (compEnvC scope cl C env)) R { s with heap := h, toks := tk } := by
  have wl : ¬ L ∈ wr := fun x => lf (W.sub L x)
  have wc : ¬ C ∈ wr := fun x => G.cf (W.sub C x)
  have wd : ¬ D ∈ wr := fun x => G.df (W.sub D x)
  have offw : ∀ ys, ∀ p ∈ (D, lst ys) :: news, ¬ p.1 ∈ wr := fun ys => List.forall_mem_cons.mpr ⟨wd, nw⟩
  apply kcp_loop (fun k s' => ∃ i ys h tk, i ≤ n ∧ i + k = n ∧ s' = { s with heap := h, toks := tk } ∧ TurnAt h₀ L m St J news C D i ys h) ?_ n ⟨0, [], h, tk, by omega, by omega, rfl, S⟩
  rintro k _ ⟨i, ys, h, tk, le, ik, rfl, S⟩
  obtain ⟨mC, nC⟩ := S.names
  by_cases more : i < n
  · apply W.item i _ _ _ more S.st
    intro T vals h1 tk1 pt _ tup mid k1
    obtain ⟨u, v, rfl, uv⟩ := two i vals pt
    apply W.go _ _ _ i T _ _ _ mid
    intro h2 st2 k2
    have k12 : Same (· ∈ wr) h h2 := Same.trans k1 k2
    apply kcp_assign (env := compEnvC scope cl C env) (m := mC) calm (tup.at fun o e => k2 T o (W.apart i T h1 mid) e) (lookup_relabel_local la) (lookup_relabel_local lb) (by simp [compEnvC, relabel, kind]) (nC.at' fun o e => k12 C o wc e)
    intro h3 tk3 n3 k3
    have k3 : Same (· = C) h2 h3 := k3
    have k13 : Same (fun b => b ∈ wr ∨ b = C) h h3 := (k12.weak fun _ x => .inl x).trans fun b o x e => k3 b o (fun q => x (.inr q)) e
    obtain ⟨oC, eC, nsC⟩ := ns_obj n3
    have F3 : Fr h₀ L h3 m := k13.fr S.fr (fun x => x.elim wl fun q => G.cl q.symm) fun b x => x.elim (w0 b) fun q => q ▸ G.c0
    have N3 : News h₀ L h3 ((D, lst ys) :: news) := k13.led S.led fun p hp x => x.elim (offw ys p hp) (List.forall_mem_cons (p := fun p : Addr × Obj => p.1 ≠ C).mpr ⟨G.cd.symm, G.nc⟩ p hp)
    have all : News h₀ L h3 (ownOf h₀ fp h3 ++ (C, oC) :: (D, lst ys) :: news) := (news_ownOf lf).append (List.forall_mem_cons.mpr ⟨⟨eC, G.cl, G.c0⟩, N3⟩)
    have st3 : St (i + 1) h3 := W.frame _ h2 h3 st2 fun b hb o e => k3 b o (fun q => G.cf (q ▸ hb)) e
    apply wpAny_mono (turn i u v _ oC _ ys h3 tk3 _ more uv S.inv nsC ?_ ?_ F3 all) ?_ (fun _ _ e => e)
    · simp [ab]
    · simp
    rintro y _ ⟨h4, tk4, rfl, F4, N4, inv4⟩
    have at4 : ∀ p ∈ (C, oC) :: (D, lst ys) :: news, h4.get? p.1 = some p.2 ∧ p.1 ≠ L ∧ h₀.get? p.1 = none := fun p hp => N4 p (List.mem_append_right _ hp)
    have st4 : St (i + 1) h4 := W.frame _ h3 h4 st3 fun b hb o e => by
      rcases old : h₀.get? b with _ | o₀
      · exact (N4 (b, o) (List.mem_append_left _ (mem_ownOf hb old e))).1
      · cases (F3.keep b o₀ old).symm.trans e
        exact F4.keep b o old
    apply append_at (at4 _ (.tail _ (.head _))).1 ?_ (by rw [List.size_toArray, S.len]; omega)
    intro h5 k5 d5
    refine ⟨k - 1, by omega, i + 1, ys ++ [y], h5, tk4, more, by omega, rfl, ?_, ?_, ?_, ?_, ?_, inv4⟩
    · rw [List.length_append, S.len]; rfl
    · exact W.frame _ h4 h5 st4 fun b hb o e => k5.extBut b o (fun q => G.df (q ▸ hb)) e
    · exact F4.change k5 G.dl G.d0
    · exact ⟨_, (nsC.ns (at4 _ (.head _)).1).sameBut k5 G.cd⟩
    · refine List.forall_mem_cons.mpr ⟨⟨?_, G.dl, G.d0⟩, fun p hp => ?_⟩
      · rw [d5, lst_snoc]
      · have q := at4 p (.tail _ (.tail _ hp))
        exact ⟨k5.extBut _ _ (G.nd p hp) q.1, q.2⟩
  · cases Nat.le_antisymm le (Nat.le_of_not_lt more)
    apply W.done _ _ _ S.st
    intro h1 tk1 k1
    have k1 : Same (· ∈ wr) h h1 := k1
    exact fin ys h1 tk1 mC (k1.fr S.fr wl w0) (k1.led S.led (offw ys)) (nC.at' fun o e => k1 C o wc e) S.inv
end
end Mine
end

theorem Mine.anew_WY : 1 = 1 := by
  w_top off
  first | walk1 | rfl

/-! part WY -/
section
open PySem PySem.W PyProof.Rows PySem.Calls PySem.Spec
set_option Elab.async false
namespace Mine
set_option maxRecDepth 100000
set_option maxHeartbeats 2000000
open LCg
section
variable {prog : Program} {w : World} {A : Around} {E : Value → Shared → Prop} {s : Shared} {h₀ : Heap} {L : Addr} {m : Str → Option Value} {env : Env}
abbrev liObj0 (r : Addr) : Obj := { cls := .type "list_iterator", data := .fields #[.ref r, .int 0 0] }
/-- the source of a comprehension over «zip» of two lists: its objects, what a turn keeps, what stands behind the last turn -/
def ZipSrc (prog : Program) (w : World) (A : Around) (h₀ : Heap) (L : Addr) (m : Str → Option Value) (env : Env) (elt : PySem.Expr) (x x₂ : Str) (scope : Scope) (cl : List (Str × Addr)) (y : Str) (Q : Flow → Shared → Prop) (xv : Value) (s₁ : Shared) : Prop :=
  ∃ (z TI TO i1 i2 l1 l2 : Addr) (vs us : List Value) (nv nu : Nat) (news : List (Addr × Obj)) (J : Nat → List Value → Prop), xv = .ref z ∧ A.handled = none ∧ ZipApart z TI TO i1 i2 l1 l2 ∧ Fr h₀ L s₁.heap m ∧
    News h₀ L s₁.heap ((z, zipRec TI TO) :: (TO, tup2 .none .none) :: (TI, tup2 (.ref i1) (.ref i2)) :: (i2, liObj0 l2) :: (i1, liObj0 l1) :: news) ∧ (l1, W.listOf vs.toArray nv) ∈ news ∧ (l2, W.listOf us.toArray nu) ∈ news ∧
    (∀ p ∈ news, p.1 ∉ [z, TO, i1, i2]) ∧ vs.length ≤ 100000 ∧ J 0 [] ∧
    (∀ i v0 v1 own C oC D m₂ ys h tk (E' : Value → Shared → Prop), vs[i]? = some v0 → us[i]? = some v1 → J i ys → NsObj oC m₂ → m₂ x = some v0 → m₂ x₂ = some v1 → Fr h₀ L h m → News h₀ L h (own ++ (C, oC) :: (D, lst ys) :: news) →
      wpAny (model prog w) A (eval elt (compEnvC scope cl C env)) (fun y s' => ∃ h' tk', s' = { s₁ with heap := h', toks := tk' } ∧ Fr h₀ L h' m ∧ News h₀ L h' (own ++ (C, oC) :: (D, lst ys) :: news) ∧ J (i + 1) (ys ++ [y])) E' { s₁ with heap := h, toks := tk }) ∧
    (∀ ys, J (min vs.length us.length) ys → FinA h₀ L m s₁ y Q ys news)
theorem off1_apart {D : Addr} {l : List (Addr × Obj)} (x : ∀ p ∈ l, p.1 ≠ D) : Off1 D l := by
  induction l with
  | nil => trivial
  | cons p r ih => exact ⟨x p (.head r), ih fun q hq => x q (.tail p hq)⟩
/-- «y = [elt for target in iter]» comes down to the block with its end bound to `y` -/
theorem assign_comp {elt : PySem.Expr} {target iter : PySem.Expr} {y : Str} {py : Pos} {scope : Scope} {cl : List (Str × Addr)} {pos spos : Pos} {Q : Flow → Shared → Prop}
    (sw : swapsWith (.ListComp elt [⟨target, iter, [], 0⟩] scope pos) (some (.Name y py)) spos.line env = pure true) (plain : ∀ x, foldedSetIterable iter env x = pure x) (clos : closureFor scope env = pure cl) (kind : scope.kind = .function)
    (names : ∀ z ∈ scope.names, z.2 = .local → scope.names.lookup z.1 = some .local)
    (block : wpAny (model prog w) A (eval iter env) (fun x s₁ => wpAny (model prog w) A (pyIter x) (fun it s₂ => wpAny (model prog w) A (newList []) (fun acc s₃ =>
      wpAny (model prog w) A (newFunctionEnv scope env.globals cl [] env.qual none .none (some env)) (fun cenv s₄ => codeAny (model prog w) A (.compStart (.ListComp elt [⟨target, iter, [], 0⟩] scope pos) 0 it acc { cenv with scope := relabel scope env })
        (compPost (model prog w) A E (some (assign (.Name y py) env)) (fun _ => Q .next) acc cenv.locals) s₄) E s₃) E s₂) E s₁) E s) :
    wpAny (model prog w) A (exec (.Assign [.Name y py] (.ListComp elt [⟨target, iter, [], 0⟩] scope pos) spos) env) Q E s := by
  have run := fun at_ s₀ h => wpAny_comprehension_free (M := model prog w) (A := A) (E := E) (s := s₀) (env := env) (e := .ListComp elt [⟨target, iter, [], 0⟩] scope pos) (pos := at_) (newAcc := newList []) (first := eval iter env) (use := some (assign (.Name y py) env)) (Q := fun _ => Q .next) rfl plain clos kind names h
  rw [exec_Assign_Name_used y py _ spos sw]
  apply wpAny_bind
  apply wpAny_standAt
  apply wpAny_bind
  apply wpAny_bind
  apply wpAny_mono (run _ _ block) ?_ fun _ _ e => e
  intro _ _ q
  exact wpAny_pure (wpAny_pure q)
/-- the end of the block: the list is bound, the names' place may still change -/
theorem comp_bind {y : Str} {py : Pos} {Q : Flow → Shared → Prop} {news : List (Addr × Obj)} {fp : List Addr} {C D : Addr} {ys : List Value} {h : Heap} {tk : Nat} {mC : Str → Option Value} (G : Places h₀ env.locals fp news C D) (ky : env.kindOf y = some .local)
    (inner : (env.scope.kind == .class || (env.scope.kind == .module && env.locals != env.globals)) = false) (F : Fr h₀ env.locals h m) (N : News h₀ env.locals h ((D, lst ys) :: news)) (nC : h.Ns C mC) (fin : FinA h₀ env.locals m s y Q ys news) :
    compPost (model prog w) A E (some (assign (.Name y py) env)) (fun _ => Q .next) (.ref D) C (.ok .next) { s with heap := h, toks := tk } := by
  apply wpAny_assign_Name
  apply wpAny_storeName_local ky F.ns ?_ inner
  intro h1 n1 k1
  refine ⟨mC, nC.sameBut k1 G.cl, ?_⟩
  intro h2 k2
  have a1 : Same (· = env.locals) h h1 := k1.extBut
  have a2 : Same (· = C) h1 h2 := k2.extBut
  have a12 : Same (fun b => b = env.locals ∨ b = C) h h2 := (a1.weak fun _ => .inl).trans (a2.weak fun _ => .inr)
  have l0 : h₀.get? env.locals = none := Heap.get?_none_of_le F.above
  refine fin D h2 _ ?_ ?_ (off1_apart G.nd)
  · refine ⟨n1.at' fun o e => a2 _ o G.cl.symm e, fun b o e => a12 b o ?_ (F.keep b o e), F.above⟩
    rintro (q | q)
    · rw [q, l0] at e; exact nomatch e
    · rw [q, G.c0] at e; exact nomatch e
  · exact a12.led N fun p hp => not_or.mpr ⟨(N p hp).2.1, List.forall_mem_cons (p := fun p : Addr × Obj => p.1 ≠ C).mpr ⟨G.cd.symm, G.nc⟩ p hp⟩
theorem Assign_ListComp_Z {elt iter : PySem.Expr} {x x₂ y : Str} {px px₂ tp py : Pos} {tk} {scope : Scope} {cl : List (Str × Addr)} {pos spos : Pos} {Q : Flow → Shared → Prop} (_F₀ : Fr h₀ L s.heap m) (at_ : env.locals = L)
    (sw : swapsWith (.ListComp elt [⟨.Tuple [.Name x px, .Name x₂ px₂] tk tp, iter, [], 0⟩] scope pos) (some (.Name y py)) spos.line env = pure true) (clos : closureFor scope env = pure cl) (nocell : ∀ z ∈ scope.names, z.2 ≠ .cell) (kind : scope.kind = .function)
    (names : ∀ z ∈ scope.names, z.2 = .local → scope.names.lookup z.1 = some .local) (lx : scope.names.lookup x = some .local) (lx₂ : scope.names.lookup x₂ = some .local) (xx : x ≠ x₂) (ky : env.kindOf y = some .local)
    (inner : (env.scope.kind == .class || (env.scope.kind == .module && env.locals != env.globals)) = false) (src : wpAny (model prog w) A (eval iter env) (ZipSrc prog w A h₀ L m env elt x x₂ scope cl y Q) E s) (plain : ∀ x, foldedSetIterable iter env x = pure x := by intro _; rfl) :
    wpAny (model prog w) A (exec (.Assign [.Name y py] (.ListComp elt [⟨.Tuple [.Name x px, .Name x₂ px₂] tk tp, iter, [], 0⟩] scope pos) spos) env) Q E s := by
  cases at_
  apply assign_comp sw plain clos kind names
  apply wpAny_mono src ?_ fun _ _ e => e
  rintro _ s₁ ⟨z, TI, TO, i1, i2, l1, l2, vs, us, nv, nu, news, J, rfl, calm, ZA, F, N, m1, m2, nw, sz, j0, turn, fin⟩
  obtain ⟨nz, N⟩ := List.forall_mem_cons.mp N
  obtain ⟨nTO, N⟩ := List.forall_mem_cons.mp N
  obtain ⟨nTI, N⟩ := List.forall_mem_cons.mp N
  obtain ⟨ni2, N⟩ := List.forall_mem_cons.mp N
  obtain ⟨ni1, N⟩ := List.forall_mem_cons.mp N
  replace N : News h₀ env.locals s₁.heap news := N
  have c1 := N _ m1
  have c2 := N _ m2
  have live : ∀ b ∈ [z, TI, TO, i1, i2, l1, l2], b < s₁.heap.objs.size ∧ b ≠ env.locals := by
    simp only [List.forall_mem_cons, List.not_mem_nil, false_imp_iff, implies_true, and_true]
    exact ⟨⟨Heap.lt_size nz.1, nz.2.1⟩, ⟨Heap.lt_size nTI.1, nTI.2.1⟩, ⟨Heap.lt_size nTO.1, nTO.2.1⟩, ⟨Heap.lt_size ni1.1, ni1.2.1⟩, ⟨Heap.lt_size ni2.1, ni2.2.1⟩, ⟨Heap.lt_size c1.1, c1.2.1⟩, ⟨Heap.lt_size c2.1, c2.2.1⟩⟩
  have made : ∀ b ∈ [z, TO, i1, i2], h₀.get? b = none := by
    simp only [List.forall_mem_cons, List.not_mem_nil, false_imp_iff, implies_true, and_true]
    exact ⟨nz.2.2, nTO.2.2, ni1.2.2, ni2.2.2⟩
  have W := WalksT.zip2 (prog := prog) (w := w) calm z TI TO i1 i2 l1 l2 ZA vs.toArray us.toArray
  have small : min vs.toArray.size us.toArray.size = min vs.length us.length := by rw [List.size_toArray, List.size_toArray]
  apply wpAny_pyIter_zip (TI := TI) (TO := TO) (f0 := .none) nz.1
  apply comp_open nocell kind
  intro D C h tk₁ mC hD hC same list nC
  have up : ∀ b o, s₁.heap.get? b = some o → h.get? b = some o := fun b o => same b o id
  have G := Places.of F N (fun b hb => (live b hb).1) hD hC
  have st := W.frame 0 s₁.heap h ⟨nz.1, nTI.1, ⟨_, _, nTO.1⟩, ⟨_, ni1.1, rfl, rfl⟩, ⟨_, ni2.1, rfl, rfl⟩, ⟨_, c1.1, rfl, nv, rfl⟩, ⟨_, c2.1, rfl, nu, rfl⟩⟩ fun b _ => up b
  have loop := pair_turns (elt := elt) (iter := iter) (a := x) (b := x₂) (pa := px) (pb := px₂) (tp := tp) (kk := tk) (scope := scope) (cl := cl) (pos := pos) (s := s₁) (env := env) (tk := tk₁) (R := compPost (model prog w) A E (some (assign (.Name y py) env)) (fun _ => Q .next) (.ref D) C) W
    (P2 := fun i u v => vs[i]? = some u ∧ us[i]? = some v) (fun i vals ⟨u, v, hu, hv, e⟩ => ⟨u, v, e, by simpa using hu, by simpa using hv⟩) (by rw [small, sizeLine_eq]; omega) kind lx lx₂ xx calm (fun hb => (live _ hb).2 rfl) made nw G
    (fun i u v own oC mC ys h tk E' _ uv => turn i u v own C oC D mC ys h tk E' uv.1 uv.2) (fun ys h tk mC F N nC j => comp_bind G ky inner F N nC (fin ys (small ▸ j)))
    ⟨rfl, st, F.keeps up, ⟨mC, nC⟩, List.forall_mem_cons.mpr ⟨⟨list, G.dl, G.d0⟩, N.grown up⟩, j0⟩
  exact codeAny_compStart_list loop (W.self 0 _ _ _ st loop)
end
end Mine
end

theorem Mine.anew_W18 : 1 = 1 := by
  w_top off
  first | walk1 | rfl

/-! part W18 -/
section
open PySem PySem.W PyProof.Rows PySem.Calls PySem.Spec
set_option Elab.async false
namespace Mine
set_option maxRecDepth 100000
theorem fill_W18 {w : World} {h : Heap} : (hd.heap_39 w.params).In h → Challenge.rw_bj0062_01.row.prog = Challenge.rw_bj0062_01.row.prog := by
  k_fill
  intro _
  rfl
local macro_rules | `(tactic| walk_at "my_enter") => `(tactic| (refine wpAny_call ?_; k_dflt (refine' code_def ?k1 ?k2 ?k3 ?k4 ?k5 ?kA ?kF ?kK ?k6 ?k7 ?k8 ?k9 ?kB ?_ ?c2 ?c3 ?c4 ?c5; (case kA => exact rfl); (case kF => assumption); (case kK => assumption); (case k1 => k_asm); (case k2 => k_asm); (case k3 => k_asm); (case k4 => k_asm); (case k5 => k_asm); (case k6 => k_is); (case k7 => k_is); (case k8 => walk_at "room"); (case k9 => exact BindsTo.of_eq rfl); (case c5 => decide); (case kB => exact locs rfl); (case c2 => exact rfl); (case c3 => exact rfl); (case c4 => exact rfl); k_whole; intro g' L' h' FG' F' N' B' X' T'; (try dsimp only); (try k_fold))))
local macro_rules | `(tactic| walk_at "my_steps") => `(tactic| repeat' (first | (k_unfold; (try dsimp only)) | walk1 | (dsimp only; walk1)))
local macro_rules | `(tactic| walk_at "setItem ref int") => `(tactic| (k_here; (with_reducible show wpAny _ _ (setItem (Value.ref _) (Value.int _ _) _) _ _ _); k_dflt (refine' set_listK ?k1 ?k2 ?k3 ?k5 ?k6 ?k7 ?_; (case k1 => k_asm); (case k2 => k_asm); (case k3 => k_upd); (case k5 => first | omega | ksa_idx); (case k6 => first | omega | (simp; done) | (simp; omega)); (case k7 => first | omega | ksa_idx); k_whole); intro h' F' N'; (try k_sweep)))
local macro_rules | `(tactic| k_ne) => `(tactic| first | assumption | exact Ne.symm (by assumption) | (refine neN ?_; (try dsimp only); omega))
local macro_rules | `(tactic| k_all) => `(tactic| first | assumption | exact lt_all_ne (by assumption) | exact lt_all_sub (by assumption) (by walk_at "sub") | exact ne_all_sub (by assumption) (by walk_at "sub") | exact allLt_ne (by assumption) | exact allLt_ne (And.right (by assumption)) | exact allLt_ne (And.right (And.right (by assumption))) | exact allLt_ne (And.right (And.right (And.right (by assumption)))) | exact allLt_ne (And.right (And.right (And.right (And.right (by assumption))))) | exact allLt_ne (And.right (And.right (And.right (And.right (And.right (by assumption)))))) | exact allLt_ne (And.right (And.right (And.right (And.right (And.right (And.right (by assumption))))))) | exact allLt_ne (And.right (And.right (And.right (And.right (And.right (And.right (And.right (by assumption)))))))) | exact allLt_ne (And.right (And.right (And.right (And.right (And.right (And.right (And.right (And.right (by assumption))))))))) | exact allLt_ne (And.right (And.right (And.right (And.right (And.right (And.right (And.right (And.right (And.right (by assumption)))))))))) | exact lt_all_off (by assumption) (by omega) | exact off1_sub (by assumption) (by walk_at "sub") | exact List.forall_mem_nil _ | (refine' List.forall_mem_cons.mpr ⟨?a, ?b⟩; (case a => k_ne); (case b => k_all)))
local macro_rules | `(tactic| walk_at "call builtin:list.append") => `(tactic| (k_here; (with_reducible show wpAny _ _ (call (Value.builtin "list.append") [Value.ref _, _]) _ _ _); k_dflt (refine' append_L ?k1 ?k2 ?k3 ?k4 ?_; (case k1 => k_asm); (case k2 => k_asm); (case k3 => k_upd); (case k4 => walk_at "lens"); k_whole); intro h' F' N'; (try k_sweep)))
local macro_rules | `(tactic| walk_at "lens") => `(tactic| first | assumption | omega | (simp only [List.length_append, List.length_cons, List.length_nil, List.length_map, List.length_range, List.length_replicate, List.length_set]; omega))
local macro_rules | `(tactic| walk_at "ints") => `(tactic| first | omega | (simp only [decide_eq_true_eq, decide_eq_false_iff_not, Bool.not_eq_true, beq_iff_eq, beq_eq_false_iff_ne, ne_eq] at *; omega) | (trace_state; fail "ints"))
local macro_rules | `(tactic| walk_at "fld_in") => `(tactic| first | assumption | exact FieldIn.tail (by assumption) | exact FieldIn.tail (FieldIn.tail (by assumption)) | exact FieldIn.tail (FieldIn.tail (FieldIn.tail (by assumption))) | exact FieldIn.tail (FieldIn.tail (FieldIn.tail (FieldIn.tail (by assumption)))) | exact FieldIn.tail (FieldIn.tail (FieldIn.tail (FieldIn.tail (FieldIn.tail (by assumption))))) | exact FieldIn.tail (FieldIn.tail (FieldIn.tail (FieldIn.tail (FieldIn.tail (FieldIn.tail (by assumption)))))) | exact FieldIn.tail (FieldIn.tail (FieldIn.tail (FieldIn.tail (FieldIn.tail (FieldIn.tail (FieldIn.tail (by assumption))))))) | exact FieldIn.tail (FieldIn.tail (FieldIn.tail (FieldIn.tail (FieldIn.tail (FieldIn.tail (FieldIn.tail (FieldIn.tail (by assumption)))))))) | exact FieldIn.tail (FieldIn.tail (FieldIn.tail (FieldIn.tail (FieldIn.tail (FieldIn.tail (FieldIn.tail (FieldIn.tail (FieldIn.tail (by assumption))))))))) | exact FieldIn.tail (FieldIn.tail (FieldIn.tail (FieldIn.tail (FieldIn.tail (FieldIn.tail (FieldIn.tail (FieldIn.tail (FieldIn.tail (FieldIn.tail (by assumption)))))))))) | exact FieldIn.tail (FieldIn.tail (FieldIn.tail (FieldIn.tail (FieldIn.tail (FieldIn.tail (FieldIn.tail (FieldIn.tail (FieldIn.tail (FieldIn.tail (FieldIn.tail (by assumption))))))))))) | exact FieldIn.tail (FieldIn.tail (FieldIn.tail (FieldIn.tail (FieldIn.tail (FieldIn.tail (FieldIn.tail (FieldIn.tail (FieldIn.tail (FieldIn.tail (FieldIn.tail (FieldIn.tail (by assumption)))))))))))))
local macro_rules | `(tactic| k_mem) => `(tactic| first | assumption | exact List.Mem.head _ | (refine' List.Mem.tail _ ?_; k_mem))
local macro_rules | `(tactic| walk_at "subscriptTail") => `(tactic| (k_here; (with_reducible show wpAny _ _ (subscriptTail _ _ (Value.ref _) (Value.int 0 _)) _ _ _); k_dflt (refine' fld_0 ?k1 ?k2 ?_ ?k4; (case k1 => k_asm); (case k2 => walk_at "fld_in"); (case k4 => with_unfolding_all rfl); k_whole)))
local macro_rules | `(tactic| walk_at "subscriptTail Name Constant ref int") => `(tactic| (k_here; (with_reducible show wpAny _ _ (subscriptTail _ _ (Value.ref _) (Value.int 0 _)) _ _ _); k_dflt (refine' fld_0 ?k1 ?k2 ?_ ?k4; (case k1 => k_asm); (case k2 => walk_at "fld_in"); (case k4 => with_unfolding_all rfl); k_whole)))
local macro_rules | `(tactic| walk_at "subscriptTail") => `(tactic| (k_here; (with_reducible show wpAny _ _ (subscriptTail _ _ (Value.ref _) (Value.int 1 _)) _ _ _); k_dflt (refine' fld_1 ?k1 ?k2 ?_ ?k4; (case k1 => k_asm); (case k2 => walk_at "fld_in"); (case k4 => with_unfolding_all rfl); k_whole)))
local macro_rules | `(tactic| walk_at "subscriptTail Name Constant ref int") => `(tactic| (k_here; (with_reducible show wpAny _ _ (subscriptTail _ _ (Value.ref _) (Value.int 1 _)) _ _ _); k_dflt (refine' fld_1 ?k1 ?k2 ?_ ?k4; (case k1 => k_asm); (case k2 => walk_at "fld_in"); (case k4 => with_unfolding_all rfl); k_whole)))
local macro_rules | `(tactic| walk_at "subscriptTail") => `(tactic| (k_here; (with_reducible show wpAny _ _ (subscriptTail _ _ (Value.ref _) (Value.int _ _)) _ _ _); k_dflt (refine' fld_pow ?k1 ?k2 ?k5 ?k6 ?_ ?k4; (case k1 => k_asm); (case k2 => walk_at "fld_in"); (case k5 => first | omega | exact (fmod255 _).1); (case k6 => first | omega | exact (fmod255 _).2); (case k4 => with_unfolding_all rfl); k_whole); intro _))
local macro_rules | `(tactic| walk_at "subscriptTail Subscript Name Constant BinOp ref int") => `(tactic| (k_here; (with_reducible show wpAny _ _ (subscriptTail _ _ (Value.ref _) (Value.int _ _)) _ _ _); k_dflt (refine' fld_pow ?k1 ?k2 ?k5 ?k6 ?_ ?k4; (case k1 => k_asm); (case k2 => walk_at "fld_in"); (case k5 => first | omega | exact (fmod255 _).1); (case k6 => first | omega | exact (fmod255 _).2); (case k4 => with_unfolding_all rfl); k_whole); intro _))
local macro_rules | `(tactic| walk_at "subscriptTail Subscript Name Constant Name ref int") => `(tactic| (k_here; (with_reducible show wpAny _ _ (subscriptTail _ _ (Value.ref _) (Value.int _ _)) _ _ _); k_dflt (refine' fld_pow ?k1 ?k2 ?k5 ?k6 ?_ ?k4; (case k1 => k_asm); (case k2 => walk_at "fld_in"); (case k5 => first | omega | exact (fmod255 _).1); (case k6 => first | omega | exact (fmod255 _).2); (case k4 => with_unfolding_all rfl); k_whole); intro _))
local macro_rules | `(tactic| walk_at "subscriptTail Subscript Name Constant Subscript ref int") => `(tactic| (k_here; (with_reducible show wpAny _ _ (subscriptTail _ _ (Value.ref _) (Value.int _ _)) _ _ _); k_dflt (refine' fld_pow ?k1 ?k2 ?k5 ?k6 ?_ ?k4; (case k1 => k_asm); (case k2 => walk_at "fld_in"); (case k5 => first | omega | exact (fmod255 _).1); (case k6 => first | omega | exact (fmod255 _).2); (case k4 => with_unfolding_all rfl); k_whole); intro _))
local macro_rules | `(tactic| walk_at "subscriptTail") => `(tactic| (k_here; (with_reducible show wpAny _ _ (subscriptTail _ _ (Value.ref _) (Value.int _ _)) _ _ _); k_dflt (refine' fld_log ?k1 ?k2 ?k5 ?k6 ?_ ?k4; (case k1 => k_asm); (case k2 => walk_at "fld_in"); (case k5 => walk_at "ints"); (case k6 => walk_at "ints"); (case k4 => with_unfolding_all rfl); k_whole); intro _))
local macro_rules | `(tactic| walk_at "subscriptTail Subscript Name Constant BinOp ref int") => `(tactic| (k_here; (with_reducible show wpAny _ _ (subscriptTail _ _ (Value.ref _) (Value.int _ _)) _ _ _); k_dflt (refine' fld_log ?k1 ?k2 ?k5 ?k6 ?_ ?k4; (case k1 => k_asm); (case k2 => walk_at "fld_in"); (case k5 => walk_at "ints"); (case k6 => walk_at "ints"); (case k4 => with_unfolding_all rfl); k_whole); intro _))
local macro_rules | `(tactic| walk_at "subscriptTail Subscript Name Constant Name ref int") => `(tactic| (k_here; (with_reducible show wpAny _ _ (subscriptTail _ _ (Value.ref _) (Value.int _ _)) _ _ _); k_dflt (refine' fld_log ?k1 ?k2 ?k5 ?k6 ?_ ?k4; (case k1 => k_asm); (case k2 => walk_at "fld_in"); (case k5 => walk_at "ints"); (case k6 => walk_at "ints"); (case k4 => with_unfolding_all rfl); k_whole); intro _))
local macro_rules | `(tactic| walk_at "subscriptTail Subscript Name Constant Subscript ref int") => `(tactic| (k_here; (with_reducible show wpAny _ _ (subscriptTail _ _ (Value.ref _) (Value.int _ _)) _ _ _); k_dflt (refine' fld_log ?k1 ?k2 ?k5 ?k6 ?_ ?k4; (case k1 => k_asm); (case k2 => walk_at "fld_in"); (case k5 => walk_at "ints"); (case k6 => walk_at "ints"); (case k4 => with_unfolding_all rfl); k_whole); intro _))

local macro_rules | `(tactic| walk_at "pyIter ref") => `(tactic| ((with_reducible show wpAny _ _ (pyIter (Value.ref _)) (fun it s₂ => LoopAtV _ _ _ _ _ _ _ _ _ it s₂) _ _); refine Stopped.out ?_))
local macro_rules | `(tactic| walk_at "exec For Name Call cons nil") => `(tactic| (k_here; (rename Fr _ _ _ _ => lF'); (with_unfolding_all refine' For_invVF lF' ?k1 ?k2 ?_; (case k1 => exact rfl); (case k2 => exact rfl); k_whole)))
local macro_rules | `(tactic| walk_at "exec For Name Name cons nil") => `(tactic| (k_here; (rename Fr _ _ _ _ => lF'); (with_unfolding_all refine' For_invVF lF' ?k1 ?k2 ?_; (case k1 => exact rfl); (case k2 => exact rfl); k_whole)))
local macro_rules | `(tactic| walk_at "call type:range") => `(tactic| (k_here; (with_reducible show wpAny _ _ (call (Value.type "range") [Value.int _ _]) _ _ _); k_dflt (refine' range1_K ?k1 ?k2 ?_; (case k1 => k_asm); (case k2 => k_asm); k_whole); intro r' h' u' v' tk' F' N' R'; (try k_sweep)))
local macro_rules | `(tactic| walk_at "call type:range") => `(tactic| (k_here; (with_reducible show wpAny _ _ (call (Value.type "range") [Value.int _ _, Value.int _ _]) _ _ _); k_dflt (refine' range2_K ?k1 ?k2 ?_; (case k1 => k_asm); (case k2 => k_asm); k_whole); intro r' h' v' tk' F' N' R'; (try k_sweep)))
local macro_rules | `(tactic| walk_at "room") => `(tactic| first | assumption | omega | ((simp only [depth_in1, depth_deeper, units_in1, units_deeper, Around.mark_units]); omega))

local macro_rules | `(tactic| is_list) => `(tactic| (refine' isList_of ?a ?b; (case a => k_asm); (case b => k_mem)))
local macro_rules | `(tactic| walk_at "call builtin:len") => `(tactic| (k_here; (with_reducible show wpAny _ _ (call (Value.builtin "len") [Value.ref _]) _ _ _); k_dflt (refine' len_L ?k2 ?k3 ?k4 ?_; (case k2 => k_asm); (case k3 => k_mem); (case k4 => walk_at "lens"); k_whole); intro t' tk'; (try k_sweep)))
local macro_rules | `(tactic| walk_at "binaryOp Add ref ref") => `(tactic| (k_here; (with_reducible show wpAny _ _ (binaryOp Operator.Add (Value.ref _) (Value.ref _)) _ _ _); k_dflt (refine' add_L ?k1 ?k2 ?k3 ?k4 ?k5 ?_; (case k1 => k_asm); (case k2 => k_asm); (case k3 => k_mem); (case k4 => k_mem); (case k5 => walk_at "lens"); k_whole); intro r' h' F' N' hl'; (have hl2' := hl'); (try k_lt hl2'); (try k_sweep)))

local macro_rules | `(tactic| walk_at "sub") => `(tactic| first | (refine' List.forall_mem_cons.mpr ⟨?a, ?b⟩; (case a => k_mem); (case b => walk_at "sub")) | (intro p hp; k_mem))

local macro_rules | `(tactic| walk_at "keep") => `(tactic| first | exact keep_base | exact keep_refl | (refine keep_x ?_; walk_at "keep") | (refine keep_upd (by decide) ?_; walk_at "keep") | (refine keep_in (by decide) ?_; walk_at "keep"))

local macro_rules | `(tactic| walk_at "CompSrc") => `(tactic| refine Stopped.out ?_)
local macro_rules | `(tactic| walk_at "my_enterC") => `(tactic| (refine wpAny_call ?_; k_dflt (refine' code_defC ?k1 ?k2 ?k3 ?k4 ?k5 ?kA ?kF ?kK ?k6 ?k7 ?k8 ?k9 ?kB ?kD ?_ ?c2 ?c3 ?c4; (case kA => exact rfl); (case kF => assumption); (case kK => assumption); (case k1 => k_asm); (case k2 => k_asm); (case k3 => k_asm); (case k4 => k_asm); (case k5 => k_asm); (case k6 => k_is); (case k7 => k_is); (case k8 => walk_at "room"); (case k9 => exact BindsTo.of_eq rfl); (case kB => exact rfl); (case kD => decide +kernel); (case c2 => exact rfl); (case c3 => exact rfl); (case c4 => exact rfl); k_whole; intro g' L' h' tk' cells' FG' F' N' Y' B' X' T' l1; k_cells Y'; (try simp only [List.cons_append, List.nil_append] at N'); (try dsimp only); (try k_fold))))

local macro_rules | `(tactic| walk_at "subscriptTail Name Slice ref ref") => `(tactic| (k_here; (with_reducible show wpAny _ _ (subscriptTail _ (PySem.Expr.Slice _ _ _ _) (Value.ref _) (Value.ref _)) _ _ _); k_dflt (refine' slice_LI ?zF ?zN ?zl ?zi ?zp ?zq ?zk ?zo ?zz ?_ ?zs; (case zF => k_asm); (case zN => k_asm); (case zl => k_mem); (case zi => assumption); (case zp => kmk_part); (case zq => kmk_part); (case zk => kmk_part); (case zo => decide); (case zz => walk_at "lens"); (case zs => with_unfolding_all rfl)); intro D' ws' h' F' N' l1 hI' hL'; (have l2' := l1); (try k_lt l2'); (try k_sweep)))
local macro_rules | `(tactic| walk_at "subscriptTail ListComp Slice ref ref") => `(tactic| (k_here; (with_reducible show wpAny _ _ (subscriptTail _ (PySem.Expr.Slice _ _ _ _) (Value.ref _) (Value.ref _)) _ _ _); k_dflt (refine' slice_LI ?zF ?zN ?zl ?zi ?zp ?zq ?zk ?zo ?zz ?_ ?zs; (case zF => k_asm); (case zN => k_asm); (case zl => k_mem); (case zi => assumption); (case zp => kmk_part); (case zq => kmk_part); (case zk => kmk_part); (case zo => decide); (case zz => walk_at "lens"); (case zs => with_unfolding_all rfl)); intro D' ws' h' F' N' l1 hI' hL'; (have l2' := l1); (try k_lt l2'); (try k_sweep)))
local macro_rules | `(tactic| walk_at "subscriptTail Subscript Slice ref ref") => `(tactic| (k_here; (with_reducible show wpAny _ _ (subscriptTail _ (PySem.Expr.Slice _ _ _ _) (Value.ref _) (Value.ref _)) _ _ _); k_dflt (refine' slice_LI ?zF ?zN ?zl ?zi ?zp ?zq ?zk ?zo ?zz ?_ ?zs; (case zF => k_asm); (case zN => k_asm); (case zl => k_mem); (case zi => assumption); (case zp => kmk_part); (case zq => kmk_part); (case zk => kmk_part); (case zo => decide); (case zz => walk_at "lens"); (case zs => with_unfolding_all rfl)); intro D' ws' h' F' N' l1 hI' hL'; (have l2' := l1); (try k_lt l2'); (try k_sweep)))
local macro_rules | `(tactic| walk_at "subscriptTail Attribute Slice ref ref") => `(tactic| (k_here; (with_reducible show wpAny _ _ (subscriptTail _ (PySem.Expr.Slice _ _ _ _) (Value.ref _) (Value.ref _)) _ _ _); k_dflt (refine' slice_LI ?zF ?zN ?zl ?zi ?zp ?zq ?zk ?zo ?zz ?_ ?zs; (case zF => k_asm); (case zN => k_asm); (case zl => k_mem); (case zi => assumption); (case zp => kmk_part); (case zq => kmk_part); (case zk => kmk_part); (case zo => decide); (case zz => walk_at "lens"); (case zs => with_unfolding_all rfl)); intro D' ws' h' F' N' l1 hI' hL'; (have l2' := l1); (try k_lt l2'); (try k_sweep)))
local macro_rules | `(tactic| walk_at "subscriptTail Name Name ref ref") => `(tactic| (k_here; (with_reducible show wpAny _ _ (subscriptTail _ _ (Value.ref _) (Value.ref _)) _ _ _); k_dflt (refine' slice_LI ?zF ?zN ?zl ?zi ?zp ?zq ?zk ?zo ?zz ?_ ?zs; (case zF => k_asm); (case zN => k_asm); (case zl => k_mem); (case zi => assumption); (case zp => kmk_part); (case zq => kmk_part); (case zk => kmk_part); (case zo => decide); (case zz => walk_at "lens"); (case zs => with_unfolding_all rfl)); intro D' ws' h' F' N' l1 hI' hL'; (have l2' := l1); (try k_lt l2'); (try k_sweep)))
local macro_rules | `(tactic| walk_at "subscriptTail Attribute Name ref ref") => `(tactic| (k_here; (with_reducible show wpAny _ _ (subscriptTail _ _ (Value.ref _) (Value.ref _)) _ _ _); k_dflt (refine' slice_LI ?zF ?zN ?zl ?zi ?zp ?zq ?zk ?zo ?zz ?_ ?zs; (case zF => k_asm); (case zN => k_asm); (case zl => k_mem); (case zi => assumption); (case zp => kmk_part); (case zq => kmk_part); (case zk => kmk_part); (case zo => decide); (case zz => walk_at "lens"); (case zs => with_unfolding_all rfl)); intro D' ws' h' F' N' l1 hI' hL'; (have l2' := l1); (try k_lt l2'); (try k_sweep)))

variable {w : World} {mean : ExcName → Option Value} {mg mb : Str → Option Value} {dp un : Nat} {gd : Option (List Code)} {A₀ : Around} {base h₀ : Heap} {env : Env} {outer : List Env} {L : Addr} {m : Str → Option Value} {s : Shared} {Q E : Value → Shared → Prop}
local macro_rules | `(tactic| walk_at "call builtin:list.append") => `(tactic| (k_here; (with_reducible show wpAny _ _ (call (Value.builtin "list.append") [Value.ref _, Value.int _ _]) _ _ _); k_dflt (refine' append_LI ?k1 ?k2 ?k3 ?k4 ?k5 ?_; (case k1 => k_asm); (case k2 => k_asm); (case k3 => k_upd); (case k4 => walk_at "lens"); (case k5 => assumption); k_whole); intro h' F' N' hI'; (try k_sweep)))
local macro_rules | `(tactic| walk_at "subscriptTail Name Slice ref ref") => `(tactic| (k_here; (with_reducible show wpAny _ _ (subscriptTail _ (PySem.Expr.Slice _ _ none _) (Value.ref _) (Value.ref _)) _ _ _); k_dflt (refine' slice_LJ ?zF ?zN ?zl ?zi ?zp ?zq ?zz ?_ ?zs ?zt; (case zF => k_asm); (case zN => k_asm); (case zl => k_mem); (case zi => assumption); (case zp => kmk_part); (case zq => kmk_part); (case zz => walk_at "lens"); (case zs => with_unfolding_all rfl); (case zt => kmk_pure)); intro D' ws' h' F' N' l1 hI' hL'; (have l2' := l1); (try k_lt l2'); (try k_sweep)))
local macro_rules | `(tactic| walk_at "subscriptTail ListComp Slice ref ref") => `(tactic| (k_here; (with_reducible show wpAny _ _ (subscriptTail _ (PySem.Expr.Slice _ _ none _) (Value.ref _) (Value.ref _)) _ _ _); k_dflt (refine' slice_LJ ?zF ?zN ?zl ?zi ?zp ?zq ?zz ?_ ?zs ?zt; (case zF => k_asm); (case zN => k_asm); (case zl => k_mem); (case zi => assumption); (case zp => kmk_part); (case zq => kmk_part); (case zz => walk_at "lens"); (case zs => with_unfolding_all rfl); (case zt => kmk_pure)); intro D' ws' h' F' N' l1 hI' hL'; (have l2' := l1); (try k_lt l2'); (try k_sweep)))
local macro_rules | `(tactic| walk_at "subscriptTail Subscript Slice ref ref") => `(tactic| (k_here; (with_reducible show wpAny _ _ (subscriptTail _ (PySem.Expr.Slice _ _ none _) (Value.ref _) (Value.ref _)) _ _ _); k_dflt (refine' slice_LJ ?zF ?zN ?zl ?zi ?zp ?zq ?zz ?_ ?zs ?zt; (case zF => k_asm); (case zN => k_asm); (case zl => k_mem); (case zi => assumption); (case zp => kmk_part); (case zq => kmk_part); (case zz => walk_at "lens"); (case zs => with_unfolding_all rfl); (case zt => kmk_pure)); intro D' ws' h' F' N' l1 hI' hL'; (have l2' := l1); (try k_lt l2'); (try k_sweep)))
local macro_rules | `(tactic| walk_at "subscriptTail Attribute Slice ref ref") => `(tactic| (k_here; (with_reducible show wpAny _ _ (subscriptTail _ (PySem.Expr.Slice _ _ none _) (Value.ref _) (Value.ref _)) _ _ _); k_dflt (refine' slice_LJ ?zF ?zN ?zl ?zi ?zp ?zq ?zz ?_ ?zs ?zt; (case zF => k_asm); (case zN => k_asm); (case zl => k_mem); (case zi => assumption); (case zp => kmk_part); (case zq => kmk_part); (case zz => walk_at "lens"); (case zs => with_unfolding_all rfl); (case zt => kmk_pure)); intro D' ws' h' F' N' l1 hI' hL'; (have l2' := l1); (try k_lt l2'); (try k_sweep)))
local macro_rules | `(tactic| walk_at "lens") => `(tactic| first | assumption | omega | (simp only [List.flatten_replicate_singleton, List.length_append, List.length_cons, List.length_nil, List.length_map, List.length_range, List.length_replicate, List.length_set]; omega))
local macro_rules | `(tactic| walk_at "sub") => `(tactic| first | exact List.forall_mem_nil _ | (refine' List.forall_mem_cons.mpr ⟨?a, ?b⟩; (case a => k_mem); (case b => walk_at "sub")) | (intro p hp; k_mem))


set_option maxHeartbeats 1600000 in
theorem pzip_call {news : List (Addr × Obj)} {x y : Addr} {ns ms : List Int}
  (B : Below A₀ base outer h₀) (F : Fr h₀ L s.heap m) (X : (hd.heap_39 w.params).In h₀) (N : News h₀ L s.heap news) (T : TopM mean mg mb h₀)
  (hf : env.frame = some L) (hk : env.scope.kind = .function) (hroom : dp + 2 < recursionLimit) (hun : un + 24 < cLine)
  (H1 : PolyIn w news x ns) (H2 : PolyIn w news y ms)
  (hret : ∀ (h' : Heap) (tk' : Nat) (z TO TI i2 i1 r1 r2 : Addr) (v1 v2 : List Value) (n1 n2 : Nat), (r1, W.listOf v1.toArray n1) ∈ news → (r2, W.listOf v2.toArray n2) ∈ news → IntsAre v1 ns → IntsAre v2 ms → Fr h₀ L h' m →
    News h₀ L h' ((z, zipRec TI TO) :: (TO, tup2 .none .none) :: (TI, tup2 (.ref i1) (.ref i2)) :: (i2, liObj r2) :: (i1, liObj r1) :: news) → ZipApart z TI TO i1 i2 r1 r2 → (∀ p ∈ news, p.1 ∉ [z, TO, i1, i2]) → Q (.ref z) { s with heap := h', toks := tk' }) :
  wpAny (model PP w) (AA dp un gd env outer) (call (.type "zip") [.ref x, .ref y]) Q E s := by
  obtain ⟨dx, r, k, vr, nr, a, b, c, d⟩ := H1
  obtain ⟨dx2, r2, k2, vr2, nr2, a2, b2, c2, d2⟩ := H2
  refine zip_any ?_
  refine piter_call (dp := dp) (un := un + 2) (gd := gd) (env := env) (outer := outer) B F X N T hf hk hroom (by omega) a b c ?_
  intro h1 tk1 I1 F1 N1 l1
  refine piter_call (dp := dp) (un := un + 2) (gd := gd) (env := env) (outer := outer) B F1 X N1 T hf hk hroom (by omega) (.tail _ a2) (.tail _ b2) (.tail _ c2) ?_
  intro h2 tk2 I2 F2 N2 l2
  have F3 := F2.push (tup2 (.ref I1) (.ref I2))
  have N3 := News.push F2 N2 (tup2 (.ref I1) (.ref I2))
  have F4 := F3.push (tup2 .none .none)
  have N4 := News.push F3 N3 (tup2 .none .none)
  have F5 := F4.push (zipRec h2.objs.size (h2.push (tup2 (.ref I1) (.ref I2))).objs.size)
  have N5 := News.push F4 N4 (zipRec h2.objs.size (h2.push (tup2 (.ref I1) (.ref I2))).objs.size)
  have s1 : (h2.push (tup2 (.ref I1) (.ref I2))).objs.size = h2.objs.size + 1 := Heap.size_push ..
  have s2 : ((h2.push (tup2 (.ref I1) (.ref I2))).push (tup2 .none .none)).objs.size = h2.objs.size + 2 := by rw [Heap.size_push, Heap.size_push]
  have q1 : @LT.lt Nat _ I2 h2.objs.size := Heap.lt_size (N2 _ (.head _)).1
  have q2 : @LT.lt Nat _ I1 I2 := l2 _ (.head _)
  have q3 : @LT.lt Nat _ r I1 := l1 _ c
  have q4 : @LT.lt Nat _ r2 I1 := l1 _ c2
  rw [s2] at N5
  refine hret (zipHeap h2 (.ref I1) (.ref I2)) tk2 (h2.objs.size + 2) (h2.push (tup2 (.ref I1) (.ref I2))).objs.size h2.objs.size I2 I1 r r2 vr vr2 nr nr2 c c2 d d2 F5 N5 ?_ ?_
  · rw [s1]
    constructor <;> (refine neN ?_; omega)
  · intro p hp
    have q5 : @LT.lt Nat _ p.1 I1 := l1 p hp
    rw [s1]
    simp only [List.mem_cons, List.not_mem_nil, or_false, not_or]
    refine ⟨neN ?_, neN ?_, neN ?_, neN ?_⟩ <;> omega
section
variable {A : Around} {news : List (Addr × Obj)} {x y : Addr} {as bs : List Int}
theorem pmod_op (F : Fr h₀ L s.heap m) (X : (hd.heap_39 w.params).In h₀) (N : News h₀ L s.heap news) (H1 : PolyIn w news x as) (H2 : PolyIn w news y bs)
    (h : wpAny (model PP w) A (call (.ref 141) [.ref x, .ref y]) (W.CmpBack Q) E s) : wpAny (model PP w) A (binaryOp .Mod (.ref x) (.ref y)) Q E s := by
  obtain ⟨dx, r, k, vr, nr, a, b, c, d⟩ := H1
  obtain ⟨dx2, r2, k2, vr2, nr2, a2, b2, c2, d2⟩ := H2
  k_dflt (refine' binop_K ?k1 ?k2 ?k3 ?k4 ?k5 ?k6 ?k7 ?_)
  (case k1 => k_asm)
  (case k2 => k_asm)
  (case k3 => k_inst)
  (case k4 => k_typeOf)
  (case k5 => k_is)
  (case k6 => k_is)
  (case k7 => k_is)
  exact h
theorem pmul_op (F : Fr h₀ L s.heap m) (X : (hd.heap_39 w.params).In h₀) (N : News h₀ L s.heap news) (H1 : PolyIn w news x as) (H2 : PolyIn w news y bs)
    (h : wpAny (model PP w) A (call (.ref 136) [.ref x, .ref y]) (W.CmpBack Q) E s) : wpAny (model PP w) A (binaryOp .Mult (.ref x) (.ref y)) Q E s := by
  obtain ⟨dx, r, k, vr, nr, a, b, c, d⟩ := H1
  obtain ⟨dx2, r2, k2, vr2, nr2, a2, b2, c2, d2⟩ := H2
  k_dflt (refine' binop_K ?k1 ?k2 ?k3 ?k4 ?k5 ?k6 ?k7 ?_)
  (case k1 => k_asm)
  (case k2 => k_asm)
  (case k3 => k_inst)
  (case k4 => k_typeOf)
  (case k5 => k_is)
  (case k6 => k_is)
  (case k7 => k_is)
  exact h
end

end Mine
end

theorem Mine.anew_WM : 1 = 1 := by
  w_top off
  first | walk1 | rfl

/-! part WM -/
section
open PySem PySem.W PyProof.Rows PySem.Calls PySem.Spec
set_option Elab.async false
namespace Mine
set_option maxRecDepth 100000
def modStep (as bs : List Int) : List Int :=
  (List.range (min as.length bs.length)).map (fun i => xorZ (as.getD i 0) (gexpZ (glogZ (bs.getD i 0) + (glogZ (as.getD 0 0) - glogZ (bs.getD 0 0))))) ++ as.drop bs.length
/-- the rest that a division of Polynomials leaves -/
def modP : Nat → List Int → List Int → List Int
  | 0, as, _ => as
  | f + 1, as, bs => if as.length < bs.length then as else modP f (polyZ (modStep as bs) 0) bs
theorem gexp_glog {a : Int} (h0 : 1 ≤ a) (h1 : a < 256) : gexpZ (glogZ a) = a := by
  obtain ⟨e1, e2, e3⟩ := expT_log a.toNat (by omega) (by omega)
  unfold gexpZ glogZ
  rw [Int.fmod_eq_of_lt e1 e2, e3]
  exact Int.toNat_of_nonneg (by omega)
theorem polyZ_zero (ns : List Int) : polyZ ns 0 = ns.drop (leadZ ns) := by unfold polyZ; simp
theorem polyZ_rng {ns : List Int} (h : ∀ k ∈ ns, rng k) : ∀ k ∈ polyZ ns 0, rng k := by
  rw [polyZ_zero]; exact fun k hk => h k (List.mem_of_mem_drop hk)
theorem polyZ_pos {ns : List Int} (h : ns ≠ []) : 0 < (polyZ ns 0).length := by
  have := leadZ_lt h
  rw [polyZ_zero, List.length_drop]; omega
theorem leadZ_head : ∀ {ns : List Int}, leadZ ns = ns.length - 1 ∨ ns.getD (leadZ ns) 0 ≠ 0
  | [] => .inl rfl
  | [_] => .inl rfl
  | a :: b :: r => by
    unfold leadZ
    by_cases e : a = 0
    · rw [if_pos e]
      rcases leadZ_head (ns := b :: r) with h | h
      · left; rw [h]; simp
      · right; simpa using h
    · rw [if_neg e]; right; simpa using e
theorem polyZ_head {ns : List Int} (h : ns ≠ []) : (polyZ ns 0).length ≤ 1 ∨ (polyZ ns 0).getD 0 0 ≠ 0 := by
  rw [polyZ_zero]
  rcases leadZ_head (ns := ns) with e | e
  · left; rw [List.length_drop, e]; omega
  · right; simpa using e
theorem leadZ_pos : ∀ {ns : List Int}, 2 ≤ ns.length → ns.getD 0 0 = 0 → 1 ≤ leadZ ns
  | [], h, _ => absurd h (by decide)
  | [_], h, _ => absurd h (by simp)
  | a :: b :: r, _, e => by
    unfold leadZ
    rw [if_pos (by simpa using e)]; omega
theorem modStep_len {as bs : List Int} (h : bs.length ≤ as.length) : (modStep as bs).length = as.length := by
  unfold modStep; simp; omega
theorem modStep_head {as bs : List Int} (h : bs.length ≤ as.length) (hb : 0 < bs.length) (a0 : 1 ≤ as.getD 0 0) (a1 : as.getD 0 0 < 256) : (modStep as bs).getD 0 0 = 0 := by
  unfold modStep
  rw [List.getD_eq_getElem?_getD, List.getElem?_append_left (by simp; omega), List.getElem?_map, List.getElem?_range (by omega)]
  show xorZ (as.getD 0 0) (gexpZ (glogZ (bs.getD 0 0) + (glogZ (as.getD 0 0) - glogZ (bs.getD 0 0)))) = 0
  rw [show glogZ (bs.getD 0 0) + (glogZ (as.getD 0 0) - glogZ (bs.getD 0 0)) = glogZ (as.getD 0 0) by omega, gexp_glog a0 a1]
  generalize as.getD 0 0 = x at a0 a1
  have key : ∀ n : Nat, n < 256 → xorZ (n : Int) n = 0 := by decide +kernel
  have := key x.toNat (by omega)
  rwa [Int.toNat_of_nonneg (by omega)] at this
theorem gexp_rng (n : Int) : rng (gexpZ n) := by
  unfold gexpZ
  have h0 := Int.fmod_nonneg_of_pos n (show (0 : Int) < 255 by decide)
  have h1 := Int.fmod_lt_of_pos n (show (0 : Int) < 255 by decide)
  have h := expT_rng (n.fmod 255).toNat (by omega)
  exact ⟨by omega, h.2⟩
theorem modStep_rng {as bs : List Int} (ha : ∀ k ∈ as, rng k) : ∀ k ∈ modStep as bs, rng k := by
  intro k hk
  unfold modStep at hk
  rcases List.mem_append.mp hk with hk | hk
  · obtain ⟨i, _, rfl⟩ := List.mem_map.mp hk
    exact xorZ_rng (getD_rng ha i) (gexp_rng _)
  · exact ha k (List.mem_of_mem_drop hk)
end Mine
end

theorem Mine.anew_W19 : 1 = 1 := by
  w_top off
  first | walk1 | rfl

/-! part W19 -/
section
open PySem PySem.W PyProof.Rows PySem.Calls PySem.Spec
set_option Elab.async false
namespace Mine
set_option maxRecDepth 100000
theorem fill_W19 {w : World} {h : Heap} : (hd.heap_39 w.params).In h → Challenge.rw_bj0062_01.row.prog = Challenge.rw_bj0062_01.row.prog := by
  k_fill
  intro _
  rfl
local macro_rules | `(tactic| walk_at "my_enter") => `(tactic| (refine wpAny_call ?_; k_dflt (refine' code_def ?k1 ?k2 ?k3 ?k4 ?k5 ?kA ?kF ?kK ?k6 ?k7 ?k8 ?k9 ?kB ?_ ?c2 ?c3 ?c4 ?c5; (case kA => exact rfl); (case kF => assumption); (case kK => assumption); (case k1 => k_asm); (case k2 => k_asm); (case k3 => k_asm); (case k4 => k_asm); (case k5 => k_asm); (case k6 => k_is); (case k7 => k_is); (case k8 => walk_at "room"); (case k9 => exact BindsTo.of_eq rfl); (case c5 => decide); (case kB => exact locs rfl); (case c2 => exact rfl); (case c3 => exact rfl); (case c4 => exact rfl); k_whole; intro g' L' h' FG' F' N' B' X' T'; (try dsimp only); (try k_fold))))
local macro_rules | `(tactic| walk_at "my_steps") => `(tactic| repeat' (first | (k_unfold; (try dsimp only)) | walk1 | (dsimp only; walk1)))
local macro_rules | `(tactic| walk_at "setItem ref int") => `(tactic| (k_here; (with_reducible show wpAny _ _ (setItem (Value.ref _) (Value.int _ _) _) _ _ _); k_dflt (refine' set_listK ?k1 ?k2 ?k3 ?k5 ?k6 ?k7 ?_; (case k1 => k_asm); (case k2 => k_asm); (case k3 => k_upd); (case k5 => first | omega | ksa_idx); (case k6 => first | omega | (simp; done) | (simp; omega)); (case k7 => first | omega | ksa_idx); k_whole); intro h' F' N'; (try k_sweep)))
local macro_rules | `(tactic| k_ne) => `(tactic| first | assumption | exact Ne.symm (by assumption) | (refine neN ?_; (try dsimp only); omega))
local macro_rules | `(tactic| k_all) => `(tactic| first | assumption | exact lt_all_ne (by assumption) | exact lt_all_sub (by assumption) (by walk_at "sub") | exact ne_all_sub (by assumption) (by walk_at "sub") | exact allLt_ne (by assumption) | exact allLt_ne (And.right (by assumption)) | exact allLt_ne (And.right (And.right (by assumption))) | exact allLt_ne (And.right (And.right (And.right (by assumption)))) | exact allLt_ne (And.right (And.right (And.right (And.right (by assumption))))) | exact allLt_ne (And.right (And.right (And.right (And.right (And.right (by assumption)))))) | exact allLt_ne (And.right (And.right (And.right (And.right (And.right (And.right (by assumption))))))) | exact allLt_ne (And.right (And.right (And.right (And.right (And.right (And.right (And.right (by assumption)))))))) | exact allLt_ne (And.right (And.right (And.right (And.right (And.right (And.right (And.right (And.right (by assumption))))))))) | exact allLt_ne (And.right (And.right (And.right (And.right (And.right (And.right (And.right (And.right (And.right (by assumption)))))))))) | exact lt_all_off (by assumption) (by omega) | exact off1_sub (by assumption) (by walk_at "sub") | exact List.forall_mem_nil _ | (refine' List.forall_mem_cons.mpr ⟨?a, ?b⟩; (case a => k_ne); (case b => k_all)))
local macro_rules | `(tactic| walk_at "call builtin:list.append") => `(tactic| (k_here; (with_reducible show wpAny _ _ (call (Value.builtin "list.append") [Value.ref _, _]) _ _ _); k_dflt (refine' append_L ?k1 ?k2 ?k3 ?k4 ?_; (case k1 => k_asm); (case k2 => k_asm); (case k3 => k_upd); (case k4 => walk_at "lens"); k_whole); intro h' F' N'; (try k_sweep)))
local macro_rules | `(tactic| walk_at "lens") => `(tactic| first | assumption | omega | (simp only [List.length_append, List.length_cons, List.length_nil, List.length_map, List.length_range, List.length_replicate, List.length_set]; omega))
local macro_rules | `(tactic| walk_at "ints") => `(tactic| first | omega | (simp only [decide_eq_true_eq, decide_eq_false_iff_not, Bool.not_eq_true, beq_iff_eq, beq_eq_false_iff_ne, ne_eq] at *; omega) | (trace_state; fail "ints"))
local macro_rules | `(tactic| walk_at "fld_in") => `(tactic| first | assumption | exact FieldIn.tail (by assumption) | exact FieldIn.tail (FieldIn.tail (by assumption)) | exact FieldIn.tail (FieldIn.tail (FieldIn.tail (by assumption))) | exact FieldIn.tail (FieldIn.tail (FieldIn.tail (FieldIn.tail (by assumption)))) | exact FieldIn.tail (FieldIn.tail (FieldIn.tail (FieldIn.tail (FieldIn.tail (by assumption))))) | exact FieldIn.tail (FieldIn.tail (FieldIn.tail (FieldIn.tail (FieldIn.tail (FieldIn.tail (by assumption)))))) | exact FieldIn.tail (FieldIn.tail (FieldIn.tail (FieldIn.tail (FieldIn.tail (FieldIn.tail (FieldIn.tail (by assumption))))))) | exact FieldIn.tail (FieldIn.tail (FieldIn.tail (FieldIn.tail (FieldIn.tail (FieldIn.tail (FieldIn.tail (FieldIn.tail (by assumption)))))))) | exact FieldIn.tail (FieldIn.tail (FieldIn.tail (FieldIn.tail (FieldIn.tail (FieldIn.tail (FieldIn.tail (FieldIn.tail (FieldIn.tail (by assumption))))))))) | exact FieldIn.tail (FieldIn.tail (FieldIn.tail (FieldIn.tail (FieldIn.tail (FieldIn.tail (FieldIn.tail (FieldIn.tail (FieldIn.tail (FieldIn.tail (by assumption)))))))))) | exact FieldIn.tail (FieldIn.tail (FieldIn.tail (FieldIn.tail (FieldIn.tail (FieldIn.tail (FieldIn.tail (FieldIn.tail (FieldIn.tail (FieldIn.tail (FieldIn.tail (by assumption))))))))))) | exact FieldIn.tail (FieldIn.tail (FieldIn.tail (FieldIn.tail (FieldIn.tail (FieldIn.tail (FieldIn.tail (FieldIn.tail (FieldIn.tail (FieldIn.tail (FieldIn.tail (FieldIn.tail (by assumption)))))))))))))
local macro_rules | `(tactic| k_mem) => `(tactic| first | assumption | exact List.Mem.head _ | (refine' List.Mem.tail _ ?_; k_mem))
local macro_rules | `(tactic| walk_at "subscriptTail") => `(tactic| (k_here; (with_reducible show wpAny _ _ (subscriptTail _ _ (Value.ref _) (Value.int 0 _)) _ _ _); k_dflt (refine' fld_0 ?k1 ?k2 ?_ ?k4; (case k1 => k_asm); (case k2 => walk_at "fld_in"); (case k4 => with_unfolding_all rfl); k_whole)))
local macro_rules | `(tactic| walk_at "subscriptTail Name Constant ref int") => `(tactic| (k_here; (with_reducible show wpAny _ _ (subscriptTail _ _ (Value.ref _) (Value.int 0 _)) _ _ _); k_dflt (refine' fld_0 ?k1 ?k2 ?_ ?k4; (case k1 => k_asm); (case k2 => walk_at "fld_in"); (case k4 => with_unfolding_all rfl); k_whole)))
local macro_rules | `(tactic| walk_at "subscriptTail") => `(tactic| (k_here; (with_reducible show wpAny _ _ (subscriptTail _ _ (Value.ref _) (Value.int 1 _)) _ _ _); k_dflt (refine' fld_1 ?k1 ?k2 ?_ ?k4; (case k1 => k_asm); (case k2 => walk_at "fld_in"); (case k4 => with_unfolding_all rfl); k_whole)))
local macro_rules | `(tactic| walk_at "subscriptTail Name Constant ref int") => `(tactic| (k_here; (with_reducible show wpAny _ _ (subscriptTail _ _ (Value.ref _) (Value.int 1 _)) _ _ _); k_dflt (refine' fld_1 ?k1 ?k2 ?_ ?k4; (case k1 => k_asm); (case k2 => walk_at "fld_in"); (case k4 => with_unfolding_all rfl); k_whole)))
local macro_rules | `(tactic| walk_at "subscriptTail") => `(tactic| (k_here; (with_reducible show wpAny _ _ (subscriptTail _ _ (Value.ref _) (Value.int _ _)) _ _ _); k_dflt (refine' fld_pow ?k1 ?k2 ?k5 ?k6 ?_ ?k4; (case k1 => k_asm); (case k2 => walk_at "fld_in"); (case k5 => first | omega | exact (fmod255 _).1); (case k6 => first | omega | exact (fmod255 _).2); (case k4 => with_unfolding_all rfl); k_whole); intro _))
local macro_rules | `(tactic| walk_at "subscriptTail Subscript Name Constant BinOp ref int") => `(tactic| (k_here; (with_reducible show wpAny _ _ (subscriptTail _ _ (Value.ref _) (Value.int _ _)) _ _ _); k_dflt (refine' fld_pow ?k1 ?k2 ?k5 ?k6 ?_ ?k4; (case k1 => k_asm); (case k2 => walk_at "fld_in"); (case k5 => first | omega | exact (fmod255 _).1); (case k6 => first | omega | exact (fmod255 _).2); (case k4 => with_unfolding_all rfl); k_whole); intro _))
local macro_rules | `(tactic| walk_at "subscriptTail Subscript Name Constant Name ref int") => `(tactic| (k_here; (with_reducible show wpAny _ _ (subscriptTail _ _ (Value.ref _) (Value.int _ _)) _ _ _); k_dflt (refine' fld_pow ?k1 ?k2 ?k5 ?k6 ?_ ?k4; (case k1 => k_asm); (case k2 => walk_at "fld_in"); (case k5 => first | omega | exact (fmod255 _).1); (case k6 => first | omega | exact (fmod255 _).2); (case k4 => with_unfolding_all rfl); k_whole); intro _))
local macro_rules | `(tactic| walk_at "subscriptTail Subscript Name Constant Subscript ref int") => `(tactic| (k_here; (with_reducible show wpAny _ _ (subscriptTail _ _ (Value.ref _) (Value.int _ _)) _ _ _); k_dflt (refine' fld_pow ?k1 ?k2 ?k5 ?k6 ?_ ?k4; (case k1 => k_asm); (case k2 => walk_at "fld_in"); (case k5 => first | omega | exact (fmod255 _).1); (case k6 => first | omega | exact (fmod255 _).2); (case k4 => with_unfolding_all rfl); k_whole); intro _))
local macro_rules | `(tactic| walk_at "subscriptTail") => `(tactic| (k_here; (with_reducible show wpAny _ _ (subscriptTail _ _ (Value.ref _) (Value.int _ _)) _ _ _); k_dflt (refine' fld_log ?k1 ?k2 ?k5 ?k6 ?_ ?k4; (case k1 => k_asm); (case k2 => walk_at "fld_in"); (case k5 => walk_at "ints"); (case k6 => walk_at "ints"); (case k4 => with_unfolding_all rfl); k_whole); intro _))
local macro_rules | `(tactic| walk_at "subscriptTail Subscript Name Constant BinOp ref int") => `(tactic| (k_here; (with_reducible show wpAny _ _ (subscriptTail _ _ (Value.ref _) (Value.int _ _)) _ _ _); k_dflt (refine' fld_log ?k1 ?k2 ?k5 ?k6 ?_ ?k4; (case k1 => k_asm); (case k2 => walk_at "fld_in"); (case k5 => walk_at "ints"); (case k6 => walk_at "ints"); (case k4 => with_unfolding_all rfl); k_whole); intro _))
local macro_rules | `(tactic| walk_at "subscriptTail Subscript Name Constant Name ref int") => `(tactic| (k_here; (with_reducible show wpAny _ _ (subscriptTail _ _ (Value.ref _) (Value.int _ _)) _ _ _); k_dflt (refine' fld_log ?k1 ?k2 ?k5 ?k6 ?_ ?k4; (case k1 => k_asm); (case k2 => walk_at "fld_in"); (case k5 => walk_at "ints"); (case k6 => walk_at "ints"); (case k4 => with_unfolding_all rfl); k_whole); intro _))
local macro_rules | `(tactic| walk_at "subscriptTail Subscript Name Constant Subscript ref int") => `(tactic| (k_here; (with_reducible show wpAny _ _ (subscriptTail _ _ (Value.ref _) (Value.int _ _)) _ _ _); k_dflt (refine' fld_log ?k1 ?k2 ?k5 ?k6 ?_ ?k4; (case k1 => k_asm); (case k2 => walk_at "fld_in"); (case k5 => walk_at "ints"); (case k6 => walk_at "ints"); (case k4 => with_unfolding_all rfl); k_whole); intro _))

local macro_rules | `(tactic| walk_at "pyIter ref") => `(tactic| ((with_reducible show wpAny _ _ (pyIter (Value.ref _)) (fun it s₂ => LoopAtV _ _ _ _ _ _ _ _ _ it s₂) _ _); refine Stopped.out ?_))
local macro_rules | `(tactic| walk_at "exec For Name Call cons nil") => `(tactic| (k_here; (rename Fr _ _ _ _ => lF'); (with_unfolding_all refine' For_invVF lF' ?k1 ?k2 ?_; (case k1 => exact rfl); (case k2 => exact rfl); k_whole)))
local macro_rules | `(tactic| walk_at "exec For Name Name cons nil") => `(tactic| (k_here; (rename Fr _ _ _ _ => lF'); (with_unfolding_all refine' For_invVF lF' ?k1 ?k2 ?_; (case k1 => exact rfl); (case k2 => exact rfl); k_whole)))
local macro_rules | `(tactic| walk_at "call type:range") => `(tactic| (k_here; (with_reducible show wpAny _ _ (call (Value.type "range") [Value.int _ _]) _ _ _); k_dflt (refine' range1_K ?k1 ?k2 ?_; (case k1 => k_asm); (case k2 => k_asm); k_whole); intro r' h' u' v' tk' F' N' R'; (try k_sweep)))
local macro_rules | `(tactic| walk_at "call type:range") => `(tactic| (k_here; (with_reducible show wpAny _ _ (call (Value.type "range") [Value.int _ _, Value.int _ _]) _ _ _); k_dflt (refine' range2_K ?k1 ?k2 ?_; (case k1 => k_asm); (case k2 => k_asm); k_whole); intro r' h' v' tk' F' N' R'; (try k_sweep)))
local macro_rules | `(tactic| walk_at "room") => `(tactic| first | assumption | omega | ((simp only [depth_in1, depth_deeper, units_in1, units_deeper, Around.mark_units]); omega))

local macro_rules | `(tactic| is_list) => `(tactic| (refine' isList_of ?a ?b; (case a => k_asm); (case b => k_mem)))
local macro_rules | `(tactic| walk_at "call builtin:len") => `(tactic| (k_here; (with_reducible show wpAny _ _ (call (Value.builtin "len") [Value.ref _]) _ _ _); k_dflt (refine' len_L ?k2 ?k3 ?k4 ?_; (case k2 => k_asm); (case k3 => k_mem); (case k4 => walk_at "lens"); k_whole); intro t' tk'; (try k_sweep)))
local macro_rules | `(tactic| walk_at "binaryOp Add ref ref") => `(tactic| (k_here; (with_reducible show wpAny _ _ (binaryOp Operator.Add (Value.ref _) (Value.ref _)) _ _ _); k_dflt (refine' add_L ?k1 ?k2 ?k3 ?k4 ?k5 ?_; (case k1 => k_asm); (case k2 => k_asm); (case k3 => k_mem); (case k4 => k_mem); (case k5 => walk_at "lens"); k_whole); intro r' h' F' N' hl'; (have hl2' := hl'); (try k_lt hl2'); (try k_sweep)))

local macro_rules | `(tactic| walk_at "sub") => `(tactic| first | (refine' List.forall_mem_cons.mpr ⟨?a, ?b⟩; (case a => k_mem); (case b => walk_at "sub")) | (intro p hp; k_mem))

local macro_rules | `(tactic| walk_at "keep") => `(tactic| first | exact keep_base | exact keep_refl | (refine keep_x ?_; walk_at "keep") | (refine keep_upd (by decide) ?_; walk_at "keep") | (refine keep_in (by decide) ?_; walk_at "keep"))

local macro_rules | `(tactic| walk_at "CompSrc") => `(tactic| refine Stopped.out ?_)
local macro_rules | `(tactic| walk_at "my_enterC") => `(tactic| (refine wpAny_call ?_; k_dflt (refine' code_defC ?k1 ?k2 ?k3 ?k4 ?k5 ?kA ?kF ?kK ?k6 ?k7 ?k8 ?k9 ?kB ?kD ?_ ?c2 ?c3 ?c4; (case kA => exact rfl); (case kF => assumption); (case kK => assumption); (case k1 => k_asm); (case k2 => k_asm); (case k3 => k_asm); (case k4 => k_asm); (case k5 => k_asm); (case k6 => k_is); (case k7 => k_is); (case k8 => walk_at "room"); (case k9 => exact BindsTo.of_eq rfl); (case kB => exact rfl); (case kD => decide +kernel); (case c2 => exact rfl); (case c3 => exact rfl); (case c4 => exact rfl); k_whole; intro g' L' h' tk' cells' FG' F' N' Y' B' X' T' l1; k_cells Y'; (try simp only [List.cons_append, List.nil_append] at N'); (try dsimp only); (try k_fold))))

local macro_rules | `(tactic| walk_at "subscriptTail Name Slice ref ref") => `(tactic| (k_here; (with_reducible show wpAny _ _ (subscriptTail _ (PySem.Expr.Slice _ _ _ _) (Value.ref _) (Value.ref _)) _ _ _); k_dflt (refine' slice_LI ?zF ?zN ?zl ?zi ?zp ?zq ?zk ?zo ?zz ?_ ?zs; (case zF => k_asm); (case zN => k_asm); (case zl => k_mem); (case zi => assumption); (case zp => kmk_part); (case zq => kmk_part); (case zk => kmk_part); (case zo => decide); (case zz => walk_at "lens"); (case zs => with_unfolding_all rfl)); intro D' ws' h' F' N' l1 hI' hL'; (have l2' := l1); (try k_lt l2'); (try k_sweep)))
local macro_rules | `(tactic| walk_at "subscriptTail ListComp Slice ref ref") => `(tactic| (k_here; (with_reducible show wpAny _ _ (subscriptTail _ (PySem.Expr.Slice _ _ _ _) (Value.ref _) (Value.ref _)) _ _ _); k_dflt (refine' slice_LI ?zF ?zN ?zl ?zi ?zp ?zq ?zk ?zo ?zz ?_ ?zs; (case zF => k_asm); (case zN => k_asm); (case zl => k_mem); (case zi => assumption); (case zp => kmk_part); (case zq => kmk_part); (case zk => kmk_part); (case zo => decide); (case zz => walk_at "lens"); (case zs => with_unfolding_all rfl)); intro D' ws' h' F' N' l1 hI' hL'; (have l2' := l1); (try k_lt l2'); (try k_sweep)))
local macro_rules | `(tactic| walk_at "subscriptTail Subscript Slice ref ref") => `(tactic| (k_here; (with_reducible show wpAny _ _ (subscriptTail _ (PySem.Expr.Slice _ _ _ _) (Value.ref _) (Value.ref _)) _ _ _); k_dflt (refine' slice_LI ?zF ?zN ?zl ?zi ?zp ?zq ?zk ?zo ?zz ?_ ?zs; (case zF => k_asm); (case zN => k_asm); (case zl => k_mem); (case zi => assumption); (case zp => kmk_part); (case zq => kmk_part); (case zk => kmk_part); (case zo => decide); (case zz => walk_at "lens"); (case zs => with_unfolding_all rfl)); intro D' ws' h' F' N' l1 hI' hL'; (have l2' := l1); (try k_lt l2'); (try k_sweep)))
local macro_rules | `(tactic| walk_at "subscriptTail Attribute Slice ref ref") => `(tactic| (k_here; (with_reducible show wpAny _ _ (subscriptTail _ (PySem.Expr.Slice _ _ _ _) (Value.ref _) (Value.ref _)) _ _ _); k_dflt (refine' slice_LI ?zF ?zN ?zl ?zi ?zp ?zq ?zk ?zo ?zz ?_ ?zs; (case zF => k_asm); (case zN => k_asm); (case zl => k_mem); (case zi => assumption); (case zp => kmk_part); (case zq => kmk_part); (case zk => kmk_part); (case zo => decide); (case zz => walk_at "lens"); (case zs => with_unfolding_all rfl)); intro D' ws' h' F' N' l1 hI' hL'; (have l2' := l1); (try k_lt l2'); (try k_sweep)))
local macro_rules | `(tactic| walk_at "subscriptTail Name Name ref ref") => `(tactic| (k_here; (with_reducible show wpAny _ _ (subscriptTail _ _ (Value.ref _) (Value.ref _)) _ _ _); k_dflt (refine' slice_LI ?zF ?zN ?zl ?zi ?zp ?zq ?zk ?zo ?zz ?_ ?zs; (case zF => k_asm); (case zN => k_asm); (case zl => k_mem); (case zi => assumption); (case zp => kmk_part); (case zq => kmk_part); (case zk => kmk_part); (case zo => decide); (case zz => walk_at "lens"); (case zs => with_unfolding_all rfl)); intro D' ws' h' F' N' l1 hI' hL'; (have l2' := l1); (try k_lt l2'); (try k_sweep)))
local macro_rules | `(tactic| walk_at "subscriptTail Attribute Name ref ref") => `(tactic| (k_here; (with_reducible show wpAny _ _ (subscriptTail _ _ (Value.ref _) (Value.ref _)) _ _ _); k_dflt (refine' slice_LI ?zF ?zN ?zl ?zi ?zp ?zq ?zk ?zo ?zz ?_ ?zs; (case zF => k_asm); (case zN => k_asm); (case zl => k_mem); (case zi => assumption); (case zp => kmk_part); (case zq => kmk_part); (case zk => kmk_part); (case zo => decide); (case zz => walk_at "lens"); (case zs => with_unfolding_all rfl)); intro D' ws' h' F' N' l1 hI' hL'; (have l2' := l1); (try k_lt l2'); (try k_sweep)))

variable {w : World} {mean : ExcName → Option Value} {mg mb : Str → Option Value} {dp un : Nat} {gd : Option (List Code)} {A₀ : Around} {base h₀ : Heap} {env : Env} {outer : List Env} {L : Addr} {m : Str → Option Value} {s : Shared} {Q E : Value → Shared → Prop}
local macro_rules | `(tactic| walk_at "call builtin:list.append") => `(tactic| (k_here; (with_reducible show wpAny _ _ (call (Value.builtin "list.append") [Value.ref _, Value.int _ _]) _ _ _); k_dflt (refine' append_LI ?k1 ?k2 ?k3 ?k4 ?k5 ?_; (case k1 => k_asm); (case k2 => k_asm); (case k3 => k_upd); (case k4 => walk_at "lens"); (case k5 => assumption); k_whole); intro h' F' N' hI'; (try k_sweep)))
local macro_rules | `(tactic| walk_at "subscriptTail Name Slice ref ref") => `(tactic| (k_here; (with_reducible show wpAny _ _ (subscriptTail _ (PySem.Expr.Slice _ _ none _) (Value.ref _) (Value.ref _)) _ _ _); k_dflt (refine' slice_LJ ?zF ?zN ?zl ?zi ?zp ?zq ?zz ?_ ?zs ?zt; (case zF => k_asm); (case zN => k_asm); (case zl => k_mem); (case zi => assumption); (case zp => kmk_part); (case zq => kmk_part); (case zz => walk_at "lens"); (case zs => with_unfolding_all rfl); (case zt => kmk_pure)); intro D' ws' h' F' N' l1 hI' hL'; (have l2' := l1); (try k_lt l2'); (try k_sweep)))
local macro_rules | `(tactic| walk_at "subscriptTail ListComp Slice ref ref") => `(tactic| (k_here; (with_reducible show wpAny _ _ (subscriptTail _ (PySem.Expr.Slice _ _ none _) (Value.ref _) (Value.ref _)) _ _ _); k_dflt (refine' slice_LJ ?zF ?zN ?zl ?zi ?zp ?zq ?zz ?_ ?zs ?zt; (case zF => k_asm); (case zN => k_asm); (case zl => k_mem); (case zi => assumption); (case zp => kmk_part); (case zq => kmk_part); (case zz => walk_at "lens"); (case zs => with_unfolding_all rfl); (case zt => kmk_pure)); intro D' ws' h' F' N' l1 hI' hL'; (have l2' := l1); (try k_lt l2'); (try k_sweep)))
local macro_rules | `(tactic| walk_at "subscriptTail Subscript Slice ref ref") => `(tactic| (k_here; (with_reducible show wpAny _ _ (subscriptTail _ (PySem.Expr.Slice _ _ none _) (Value.ref _) (Value.ref _)) _ _ _); k_dflt (refine' slice_LJ ?zF ?zN ?zl ?zi ?zp ?zq ?zz ?_ ?zs ?zt; (case zF => k_asm); (case zN => k_asm); (case zl => k_mem); (case zi => assumption); (case zp => kmk_part); (case zq => kmk_part); (case zz => walk_at "lens"); (case zs => with_unfolding_all rfl); (case zt => kmk_pure)); intro D' ws' h' F' N' l1 hI' hL'; (have l2' := l1); (try k_lt l2'); (try k_sweep)))
local macro_rules | `(tactic| walk_at "subscriptTail Attribute Slice ref ref") => `(tactic| (k_here; (with_reducible show wpAny _ _ (subscriptTail _ (PySem.Expr.Slice _ _ none _) (Value.ref _) (Value.ref _)) _ _ _); k_dflt (refine' slice_LJ ?zF ?zN ?zl ?zi ?zp ?zq ?zz ?_ ?zs ?zt; (case zF => k_asm); (case zN => k_asm); (case zl => k_mem); (case zi => assumption); (case zp => kmk_part); (case zq => kmk_part); (case zz => walk_at "lens"); (case zs => with_unfolding_all rfl); (case zt => kmk_pure)); intro D' ws' h' F' N' l1 hI' hL'; (have l2' := l1); (try k_lt l2'); (try k_sweep)))
local macro_rules | `(tactic| walk_at "lens") => `(tactic| first | assumption | omega | (simp only [List.flatten_replicate_singleton, List.length_append, List.length_cons, List.length_nil, List.length_map, List.length_range, List.length_replicate, List.length_set]; omega))
local macro_rules | `(tactic| walk_at "sub") => `(tactic| first | exact List.forall_mem_nil _ | (refine' List.forall_mem_cons.mpr ⟨?a, ?b⟩; (case a => k_mem); (case b => walk_at "sub")) | (intro p hp; k_mem))


local macro_rules | `(tactic| walk_at "rngs") => `(tactic| first | assumption | exact mulZ_rng.1 | exact mulZ_rng.2 | exact divZ_rng.1 | exact divZ_rng.2 | exact rng_lo (by assumption) | exact rng_hi (by assumption) | omega | exact (by assumption : _ → _ ∨ _) (by assumption))
local macro_rules | `(tactic| walk_at "poly_in") => `(tactic| first | assumption | exact PolyIn.mono (by assumption) (by walk_at "sub"))
local macro_rules | `(tactic| walk_at "call ref") => `(tactic| (k_here; (with_reducible show wpAny _ _ (call (Value.ref 94) _) _ _ _); k_dflt (refine' gexp_call ?k1 ?k2 ?k3 ?k4 ?k5 ?k7 ?k8 ?ka ?kb ?_; (case k1 => k_asm); (case k2 => k_asm); (case k3 => k_asm); (case k4 => k_asm); (case k5 => k_asm); (case k7 => exact rfl); (case k8 => exact rfl); (case ka => walk_at "room"); (case kb => walk_at "room"); k_whole); intro t9 h9 tk9 F9 N9; (try k_sweep)))
local macro_rules | `(tactic| walk_at "call ref") => `(tactic| (k_here; (with_reducible show wpAny _ _ (call (Value.ref 87) _) _ _ _); k_dflt (refine' glog_call ?k1 ?k2 ?k3 ?k4 ?k5 ?k7 ?k8 ?ka ?kb ?q0 ?q1 ?_; (case k1 => k_asm); (case k2 => k_asm); (case k3 => k_asm); (case k4 => k_asm); (case k5 => k_asm); (case k7 => exact rfl); (case k8 => exact rfl); (case ka => walk_at "room"); (case kb => walk_at "room"); (case q0 => walk_at "rngs"); (case q1 => walk_at "rngs"); k_whole); intro t9 h9 tk9 F9 N9; (try k_sweep)))
local macro_rules | `(tactic| walk_at "call builtin:len") => `(tactic| (k_here; (with_reducible show wpAny _ _ (call (Value.builtin "len") [Value.ref _]) _ _ _); k_dflt (refine' plen_call ?k1 ?k2 ?k3 ?k4 ?k5 ?k7 ?k8 ?ka ?kb ?q0 ?q1 ?_; (case k1 => k_asm); (case k2 => k_asm); (case k3 => k_asm); (case k4 => k_asm); (case k5 => k_asm); (case k7 => exact rfl); (case k8 => exact rfl); (case ka => walk_at "room"); (case kb => walk_at "room"); (case q0 => walk_at "poly_in"); (case q1 => walk_at "lens"); k_whole); intro h9 tk9 t9 F9 N9; (try k_sweep)))
local macro_rules | `(tactic| walk_at "call ref") => `(tactic| (k_here; (with_reducible show wpAny _ _ (call (Value.ref 144) _) _ _ _); k_dflt (refine' poly2_call ?k1 ?k2 ?k3 ?k4 ?k5 ?k7 ?k8 ?ka ?kb ?q0 ?q1 ?q2 ?q3 ?q4 ?q5 ?_; (case k1 => k_asm); (case k2 => k_asm); (case k3 => k_asm); (case k4 => k_asm); (case k5 => k_asm); (case k7 => exact rfl); (case k8 => exact rfl); (case ka => walk_at "room"); (case kb => walk_at "room"); (case q0 => k_mem); (case q1 => first | assumption | exact .cons _ _ (.cons _ _ .nil) | exact .cons _ _ .nil); (case q2 => first | assumption | (refine List.ne_nil_of_length_pos ?_; walk_at "lens") | (intro hnil; cases hnil)); (case q3 => walk_at "lens"); (case q4 => omega); (case q5 => omega); k_whole); intro h9 tk9 x9 dx9 r9 ox9 od9 or9 F9 N9 l9 l8 l7 H9; (have l92 := l9); (try k_lt l92); (have l82 := l8); (try k_lt l82); (have l72 := l7); (try k_lt l72); (try k_sweep)))
local macro_rules | `(tactic| walk_at "call type:zip") => `(tactic| (k_here; (with_reducible show wpAny _ _ (call (Value.type "zip") [Value.ref _, Value.ref _]) _ _ _); k_dflt (refine' pzip_call ?k1 ?k2 ?k3 ?k4 ?k5 ?k7 ?k8 ?ka ?kb ?q0 ?q1 ?_; (case k1 => k_asm); (case k2 => k_asm); (case k3 => k_asm); (case k4 => k_asm); (case k5 => k_asm); (case k7 => exact rfl); (case k8 => exact rfl); (case ka => walk_at "room"); (case kb => walk_at "room"); (case q0 => walk_at "poly_in"); (case q1 => walk_at "poly_in"); k_whole); intro h9 tk9 z9 TO9 TI9 j9 i9 r9 r8 v9 v8 n9 n8 m9 m8 q9 q8 F9 N9 D9 O9; (try k_sweep)))
local macro_rules | `(tactic| walk_at "subscriptTail Name Constant ref int") => `(tactic| (k_here; (with_reducible show wpAny _ _ (subscriptTail _ _ (Value.ref _) (Value.int _ _)) _ _ _); k_dflt (refine' pitem_call ?k1 ?k2 ?k3 ?k4 ?k5 ?k7 ?k8 ?ka ?kb ?q0 ?q1 ?q2 ?q3 ?_ ?qs; (case k1 => k_asm); (case k2 => k_asm); (case k3 => k_asm); (case k4 => k_asm); (case k5 => k_asm); (case k7 => exact rfl); (case k8 => exact rfl); (case ka => walk_at "room"); (case kb => walk_at "room"); (case q0 => walk_at "poly_in"); (case q1 => walk_at "lens"); (case q2 => omega); (case q3 => omega); (case qs => with_unfolding_all rfl); k_whole); intro h9 tk9 t9 F9 N9; (try k_sweep)))
local macro_rules | `(tactic| walk_at "subscriptTail Name Slice ref ref") => `(tactic| (k_here; (with_reducible show wpAny _ _ (subscriptTail _ (PySem.Expr.Slice _ _ none _) (Value.ref _) (Value.ref _)) _ _ _); k_dflt (refine' pslice_call ?k1 ?k2 ?k3 ?k4 ?k5 ?k7 ?k8 ?ka ?kb ?q0 ?q1 ?q2 ?q3 ?_ ?qs; (case k1 => k_asm); (case k2 => k_asm); (case k3 => k_asm); (case k4 => k_asm); (case k5 => k_asm); (case k7 => exact rfl); (case k8 => exact rfl); (case ka => walk_at "room"); (case kb => walk_at "room"); (case q0 => walk_at "poly_in"); (case q1 => walk_at "lens"); (case q2 => kmk_part); (case q3 => kmk_part); (case qs => with_unfolding_all rfl); k_whole); intro h9 tk9 D9 w9 F9 N9 l9 i9; (have l92 := l9); (try k_lt l92); (try k_sweep)))

local macro_rules | `(tactic| walk_at "exec Assign cons ListComp") => `(tactic| (refine Stopped.out ?_))
local macro_rules | `(tactic| walk_at "call ref") => `(tactic| (k_here; (with_reducible show wpAny _ _ (call (Value.ref 141) _) _ _ _); refine Stopped.out ?_))
section
variable {A : Around} {news news' : List (Addr × Obj)} {D b : Addr} {vs us : List Value} {n n2 : Nat}
theorem extend_LL (F : Fr h₀ L s.heap m) (N : News h₀ L s.heap news) (hb : (b, W.listOf us.toArray n2) ∈ news) (hne : 0 < us.length) (U : Upd D (W.listOf vs.toArray n) (W.listOf (vs ++ us).toArray (n + 1)) news news') (hz : vs.length + us.length ≤ 100000)
    (h : ∀ h', Fr h₀ L h' m → News h₀ L h' news' → Q .none { s with heap := h' }) : wpAny (model PP w) A (call (.builtin "list.extend") [.ref D, .ref b]) Q E s := by
  refine kl_extend (l := vs ++ us) F N hb (by simp) (by simp; intro e; rw [e] at hne; exact absurd hne (by decide)) U ?_ ?_ ?_ h
  · unfold Builtin.List.listTooLong
    rw [List.size_toArray, List.size_toArray, sizeLine_eq]
    simp
    intro _
    omega
  · rw [sizeLine_eq]; simp; omega
  · rw [sizeLine_eq]; simp; omega
end
local macro_rules | `(tactic| walk_at "call builtin:list.extend") => `(tactic| (refine Stopped.out ?_))
set_option maxHeartbeats 4000000 in
theorem mod_call {bs : List Int} (hb : ∀ k ∈ bs, 1 ≤ k ∧ k < 256) (hb0 : 2 ≤ bs.length) (hb1 : bs.length ≤ 40) (f : Nat) : ∀ {w : World} {mean : ExcName → Option Value} {mg mb : Str → Option Value} {dp un : Nat} {gd : Option (List Code)} {A₀ : Around} {base h₀ : Heap} {env : Env} {outer : List Env} {L : Addr} {m : Str → Option Value} {s : Shared} {Q E : Value → Shared → Prop}
  {news : List (Addr × Obj)} {x y : Addr} {as : List Int}
  (_B : Below A₀ base outer h₀) (_F : Fr h₀ L s.heap m) (_X : (hd.heap_39 w.params).In h₀) (_N : News h₀ L s.heap news) (_T : TopM mean mg mb h₀)
  (_hf : env.frame = some L) (_hk : env.scope.kind = .function) (_hroom : dp + 4 + 2 * f < recursionLimit) (_hun : un + 40 + 16 * f < cLine)
  (_H1 : PolyIn w news x as) (_H2 : PolyIn w news y bs) (_ha : ∀ k ∈ as, rng k) (_ha0 : 0 < as.length) (_ha1 : as.length ≤ 60) (_hlead : as.length < bs.length ∨ as.getD 0 0 ≠ 0) (_hfuel : as.length < bs.length + f)
  (_hret : ∀ (h' : Heap) (tk' : Nat) (z : Addr) (ext : List (Addr × Obj)), Fr h₀ L h' m → News h₀ L h' (ext ++ news) → (∀ p ∈ ext, ∀ q ∈ news, q.1 ≠ p.1) → PolyIn w (ext ++ news) z (modP f as bs) → Q (.ref z) { s with heap := h', toks := tk' }),
  wpAny (model PP w) (AA dp un gd env outer) (call (.ref 141) [.ref x, .ref y]) Q E s := by
  induction f with
  | zero =>
    intro w mean mg mb dp un gd A₀ base h₀ env outer L m s Q E news x y as B F X N T hf hk hroom hun H1 H2 ha ha0 ha1 hlead hfuel hret
    walk_at "my_enterC"
    walk_at "my_steps"
    rename Fr h₀ L _ m => kF
    rename News h₀ L _ _ => kN
    refine hret _ _ x [] kF (news_sub kN fun p hp => .tail _ hp) (fun p hp => nomatch hp) H1
  | succ f ih =>
    intro w mean mg mb dp un gd A₀ base h₀ env outer L m s Q E news x y as B F X N T hf hk hroom hun H1 H2 ha ha0 ha1 hlead hfuel hret
    by_cases hlt : as.length < bs.length
    · walk_at "my_enterC"
      walk_at "my_steps"
      rename Fr h₀ L _ m => kF
      rename News h₀ L _ _ => kN
      refine hret _ _ x [] kF (news_sub kN fun p hp => .tail _ hp) (fun p hp => nomatch hp) ?_
      unfold modP
      rw [if_pos hlt]
      exact H1
    · have hl0 : as.getD 0 0 ≠ 0 := hlead.resolve_left hlt
      have hA := getD_rng ha (Int.toNat 0)
      have hA1 : 1 ≤ as.getD (Int.toNat 0) 0 := by
        have h1 := hA.1
        have h2 : as.getD (Int.toNat 0) 0 ≠ 0 := hl0
        omega
      have hA2 := hA.2
      have hBm : bs.getD (Int.toNat 0) 0 ∈ bs := by
        rw [List.getD_eq_getElem?_getD, List.getElem?_eq_getElem (show Int.toNat 0 < bs.length by show 0 < bs.length; omega)]
        exact List.getElem_mem _
      have hB1 := (hb _ hBm).1
      have hB2 := (hb _ hBm).2
      walk_at "my_enterC"
      rename_i g0 L0 hx0 tkx0 FG0 Fx0 Nx0 B0 X0 T0 lx0 o0 d0
      walk_at "my_steps"
      refine ⟨?_⟩
      rename Fr _ _ _ _ => F₁
      rename News _ _ _ _ => N₁
      rename_i oc tk1 dc dd
      k_dflt (refine Assign_ListComp_Z F₁ (by rfl) (by with_unfolding_all rfl) (by with_unfolding_all rfl) (by decide) (by rfl) (by decide) (by rfl) (by rfl) (by decide) (by rfl) (by rfl) ?_)
      walk_at "my_steps"
      rename_i h9 tk9 z TO TI j9 i9 r9 r8 v9 v8 n9 n8 m9 m8 q9 q8 F9 N9 D9 O9
      have hv9 := q9.length
      have hv8 := q8.length
      refine ⟨z, TI, TO, i9, j9, r9, r8, v9, v8, n9, n8, _, fun i ys => IntsAre ys ((List.range i).map (fun i => xorZ (as.getD i 0) (gexpZ (glogZ (bs.getD i 0) + (glogZ (as.getD 0 0) - glogZ (bs.getD 0 0)))))), rfl, rfl, D9, F9, N9, m9, m8, O9, by omega, .nil, ?_, ?_⟩
      · intro i v0 v1 own C oC D m₂ ys h tk E' hv0 hv1 hJ hC hx0 hx1 F' N'
        obtain ⟨ka, ta, hka, rfl⟩ := ints_at q9 hv0
        obtain ⟨kb, tb, hkb, rfl⟩ := ints_at q8 hv1
        have hrb := hb kb (List.mem_of_getElem? hkb)
        have rb1 := hrb.1
        have rb2 := hrb.2
        have hmm : ∀ p ∈ (L0 + 1, dc) :: news, p ∈ own ++ (C, oC) :: (D, LCg.lst ys) :: (L0 + 1, dc) :: news := fun p hp => List.mem_append_right _ (.tail _ (.tail _ hp))
        have hcc := hmm _ (.head _)
        have hCC : (C, oC) ∈ own ++ (C, oC) :: (D, LCg.lst ys) :: (L0 + 1, dc) :: news := List.mem_append_right _ (.head _)
        generalize own ++ (C, oC) :: (D, LCg.lst ys) :: (L0 + 1, dc) :: news = R at *
        replace N' := news_sub N' (List.forall_mem_cons.mpr ⟨hCC, List.forall_mem_cons.mpr ⟨hcc, fun p hp => hp⟩⟩)
        walk_at "my_steps"
        · rename Fr _ _ _ _ => F₆
          exact F₆
        · rename News _ _ _ _ => N₆
          exact news_sub N₆ fun p hp => .tail _ (.tail _ hp)
        · rw [List.range_succ, List.map_append]
          have w1 : as.getD i 0 = ka := by rw [List.getD_eq_getElem?_getD, hka]; rfl
          have w2 : bs.getD i 0 = kb := by rw [List.getD_eq_getElem?_getD, hkb]; rfl
          show IntsAre _ (_ ++ [xorZ (as.getD i 0) (gexpZ (glogZ (bs.getD i 0) + (glogZ (as.getD 0 0) - glogZ (bs.getD 0 0))))])
          rw [w1, w2]
          exact ints_snoc hJ
      · intro ys hJ D h tk F' N' off
        have hyl := hJ.length
        simp only [List.length_map, List.length_range] at hyl
        have off1 := off
        simp only [LCg.Off1] at off
        have hlen : ys.length = bs.length := by omega
        walk_at "my_steps"
        · refine ⟨?_⟩
          rename IntsAre _ (pickZ _ _ _ _) => hpk
          rename Fr _ _ _ _ => F₂
          rename News _ _ _ _ => N₂
          rename_i h7 tk7 D7 w7 l7 lx7
          have hpl := hpk.length
          have hdz : ((as.length : Int) - bs.length) = ((as.length - bs.length : Nat) : Int) := by omega
          rw [hdz, pickZ_neg as (as.length - bs.length) (by omega) (by omega), List.length_drop] at hpl
          rw [hdz, pickZ_neg as (as.length - bs.length) (by omega) (by omega), show as.length - (as.length - bs.length) = bs.length by omega] at hpk
          have hDD : @Ne Nat D7 D := Ne.symm (Nat.ne_of_lt lx7.1)
          k_dflt (refine' extend_LL ?zF ?zN ?zb ?zh ?zU ?zz ?_)
          (case zF => k_asm)
          (case zN => k_asm)
          (case zb => exact .head _)
          (case zh => omega)
          (case zU => k_upd)
          (case zz => omega)
          intro h6 F6 N6
          have hms := hJ.append hpk
          have hml : ((List.range (min v9.length v8.length)).map (fun i => xorZ (as.getD i 0) (gexpZ (glogZ (bs.getD i 0) + (glogZ (as.getD 0 0) - glogZ (bs.getD 0 0)))))) ++ as.drop bs.length = modStep as bs := by rw [hv9, hv8]; rfl
          rw [hml] at hms
          have hmsl := hms.length
          rw [List.length_append] at hmsl
          have hmpos : 0 < (modStep as bs).length := by omega
          have hmne := List.ne_nil_of_length_pos hmpos
          have hml3 : (modStep as bs).length = as.length := modStep_len (by omega)
          have hml4 := leadZ_pos (ns := modStep as bs) (by omega) (modStep_head (by omega) (by omega) hA1 hA2)
          have hml1 : (polyZ (modStep as bs) 0).length ≤ as.length - 1 := by rw [polyZ_zero, List.length_drop]; omega
          walk_at "my_steps"
          rename Fr _ _ _ _ => F8
          rename News _ _ _ _ => N8
          rename PolyIn _ _ _ (polyZ _ _) => H8
          refine pmod_op F8 (by assumption) N8 (by walk_at "poly_in") (by walk_at "poly_in") ?_
          refine ih (dp := dp + 1) (un := un + 3) (gd := gd) (by assumption) F8 (by assumption) N8 (by assumption) rfl rfl ?_ ?_ (H8.mono (by walk_at "sub")) (H2.mono (by walk_at "sub")) ?_ ?_ ?_ ?_ ?_ ?_
          · omega
          · omega
          · exact polyZ_rng (modStep_rng ha)
          · exact polyZ_pos hmne
          · exact Nat.le_trans hml1 (by omega)
          · exact (polyZ_head hmne).imp (fun z => by show (polyZ (modStep as bs) 0).length < _; omega) fun z => z
          · show (polyZ (modStep as bs) 0).length < _
            omega
          · intro h' tk' z ext F7 N7 hx H7
            dsimp only [W.CmpBack]
            walk_at "my_steps"
            rename Fr h₀ L _ m => kF
            rename News h₀ L _ _ => kN
            refine hret _ _ z (ext ++ [_, _, _, _, _, _]) kF (by rw [List.append_assoc]; exact kN) ?_ ?_
            · intro p hp q hq
              rcases List.mem_append.mp hp with hp | hp
              · exact hx p hp q (.tail _ (.tail _ (.tail _ (.tail _ (.tail _ (.tail _ hq))))))
              · rename (_ ∧ _ ∧ _ ∧ AllLt _ news) => g3
                rcases List.mem_cons.mp hp with rfl | hp
                · exact allLt_ne (And.right (And.right (And.right (by assumption)))) q hq
                rcases List.mem_cons.mp hp with rfl | hp
                · exact allLt_ne (And.right (And.right (And.right (by assumption)))) q hq
                rcases List.mem_cons.mp hp with rfl | hp
                · exact allLt_ne (And.right (And.right (And.right (by assumption)))) q hq
                rcases List.mem_cons.mp hp with rfl | hp
                · exact allLt_ne lx7.2.2 q hq
                rcases List.mem_cons.mp hp with rfl | hp
                · exact off1_sub off.2 (fun p hp => hp) q hq
                rcases List.mem_cons.mp hp with rfl | hp
                · have := T0 q hq
                  exact neN (Nat.ne_of_lt (Nat.lt_succ_of_lt this))
                · cases hp
            · rw [List.append_assoc]
              unfold modP
              rw [if_neg hlt]
              exact H7
        · have hz0 : (as.length : Int) - bs.length = 0 := by first | assumption | (simp_all; done)
          have hdl : as.drop bs.length = [] := List.drop_eq_nil_of_le (by omega)
          have hml : ((List.range (min v9.length v8.length)).map (fun i => xorZ (as.getD i 0) (gexpZ (glogZ (bs.getD i 0) + (glogZ (as.getD 0 0) - glogZ (bs.getD 0 0)))))) = modStep as bs := by
            unfold modStep
            rw [hv9, hv8, hdl, List.append_nil]
          have hml3 : (modStep as bs).length = as.length := modStep_len (by omega)
          have hmne := List.ne_nil_of_length_pos (show 0 < (modStep as bs).length by omega)
          have hml4 := leadZ_pos (ns := modStep as bs) (by omega) (modStep_head (by omega) (by omega) hA1 hA2)
          have hml1 : (polyZ (modStep as bs) 0).length ≤ as.length - 1 := by rw [polyZ_zero, List.length_drop]; omega
          rename Fr _ _ _ _ => F8
          rename News _ _ _ _ => N8
          rename PolyIn _ _ _ (polyZ _ _) => H8
          rw [hml] at H8
          refine pmod_op F8 (by assumption) N8 (by walk_at "poly_in") (by walk_at "poly_in") ?_
          refine ih (dp := dp + 1) (un := un + 3) (gd := gd) (by assumption) F8 (by assumption) N8 (by assumption) rfl rfl ?_ ?_ (H8.mono (by walk_at "sub")) (H2.mono (by walk_at "sub")) ?_ ?_ ?_ ?_ ?_ ?_
          · omega
          · omega
          · exact polyZ_rng (modStep_rng ha)
          · exact polyZ_pos hmne
          · exact Nat.le_trans hml1 (by omega)
          · exact (polyZ_head hmne).imp (fun z => by show (polyZ (modStep as bs) 0).length < _; omega) fun z => z
          · show (polyZ (modStep as bs) 0).length < _
            omega
          · intro h' tk' z ext F7 N7 hx H7
            dsimp only [W.CmpBack]
            walk_at "my_steps"
            rename Fr h₀ L _ m => kF
            rename News h₀ L _ _ => kN
            refine hret _ _ z (ext ++ [_, _, _, _, _]) kF (by rw [List.append_assoc]; exact kN) ?_ ?_
            · intro p hp q hq
              rcases List.mem_append.mp hp with hp | hp
              · exact hx p hp q (.tail _ (.tail _ (.tail _ (.tail _ (.tail _ hq)))))
              · rcases List.mem_cons.mp hp with rfl | hp
                · exact allLt_ne (And.right (And.right (by assumption))) q hq
                rcases List.mem_cons.mp hp with rfl | hp
                · exact allLt_ne (And.right (And.right (by assumption))) q hq
                rcases List.mem_cons.mp hp with rfl | hp
                · exact allLt_ne (And.right (And.right (by assumption))) q hq
                rcases List.mem_cons.mp hp with rfl | hp
                · exact off1_sub off.2 (fun p hp => hp) q hq
                rcases List.mem_cons.mp hp with rfl | hp
                · have := T0 q hq
                  exact neN (Nat.ne_of_lt (Nat.lt_succ_of_lt this))
                · cases hp
            · rw [List.append_assoc]
              unfold modP
              rw [if_neg hlt]
              exact H7

end Mine
end

theorem Mine.anew_W20 : 1 = 1 := by
  w_top off
  first | walk1 | rfl

/-! part W20 -/
section
open PySem PySem.W PyProof.Rows PySem.Calls PySem.Spec
set_option Elab.async false
namespace Mine
set_option maxRecDepth 100000
theorem fill_W20 {w : World} {h : Heap} : (hd.heap_39 w.params).In h → Challenge.rw_bj0062_01.row.prog = Challenge.rw_bj0062_01.row.prog := by
  k_fill
  intro _
  rfl
local macro_rules | `(tactic| walk_at "my_enter") => `(tactic| (refine wpAny_call ?_; k_dflt (refine' code_def ?k1 ?k2 ?k3 ?k4 ?k5 ?kA ?kF ?kK ?k6 ?k7 ?k8 ?k9 ?kB ?_ ?c2 ?c3 ?c4 ?c5; (case kA => exact rfl); (case kF => assumption); (case kK => assumption); (case k1 => k_asm); (case k2 => k_asm); (case k3 => k_asm); (case k4 => k_asm); (case k5 => k_asm); (case k6 => k_is); (case k7 => k_is); (case k8 => walk_at "room"); (case k9 => exact BindsTo.of_eq rfl); (case c5 => decide); (case kB => exact locs rfl); (case c2 => exact rfl); (case c3 => exact rfl); (case c4 => exact rfl); k_whole; intro g' L' h' FG' F' N' B' X' T'; (try dsimp only); (try k_fold))))
local macro_rules | `(tactic| walk_at "my_steps") => `(tactic| repeat' (first | (k_unfold; (try dsimp only)) | walk1 | (dsimp only; walk1)))
local macro_rules | `(tactic| walk_at "setItem ref int") => `(tactic| (k_here; (with_reducible show wpAny _ _ (setItem (Value.ref _) (Value.int _ _) _) _ _ _); k_dflt (refine' set_listK ?k1 ?k2 ?k3 ?k5 ?k6 ?k7 ?_; (case k1 => k_asm); (case k2 => k_asm); (case k3 => k_upd); (case k5 => first | omega | ksa_idx); (case k6 => first | omega | (simp; done) | (simp; omega)); (case k7 => first | omega | ksa_idx); k_whole); intro h' F' N'; (try k_sweep)))
local macro_rules | `(tactic| k_ne) => `(tactic| first | assumption | exact Ne.symm (by assumption) | (refine neN ?_; (try dsimp only); omega))
local macro_rules | `(tactic| k_all) => `(tactic| first | assumption | exact lt_all_ne (by assumption) | exact lt_all_sub (by assumption) (by walk_at "sub") | exact ne_all_sub (by assumption) (by walk_at "sub") | exact allLt_ne (by assumption) | exact allLt_ne (And.right (by assumption)) | exact allLt_ne (And.right (And.right (by assumption))) | exact allLt_ne (And.right (And.right (And.right (by assumption)))) | exact allLt_ne (And.right (And.right (And.right (And.right (by assumption))))) | exact allLt_ne (And.right (And.right (And.right (And.right (And.right (by assumption)))))) | exact allLt_ne (And.right (And.right (And.right (And.right (And.right (And.right (by assumption))))))) | exact allLt_ne (And.right (And.right (And.right (And.right (And.right (And.right (And.right (by assumption)))))))) | exact allLt_ne (And.right (And.right (And.right (And.right (And.right (And.right (And.right (And.right (by assumption))))))))) | exact allLt_ne (And.right (And.right (And.right (And.right (And.right (And.right (And.right (And.right (And.right (by assumption)))))))))) | exact lt_all_off (by assumption) (by omega) | exact off1_sub (by assumption) (by walk_at "sub") | exact List.forall_mem_nil _ | (refine' List.forall_mem_cons.mpr ⟨?a, ?b⟩; (case a => k_ne); (case b => k_all)))
local macro_rules | `(tactic| walk_at "call builtin:list.append") => `(tactic| (k_here; (with_reducible show wpAny _ _ (call (Value.builtin "list.append") [Value.ref _, _]) _ _ _); k_dflt (refine' append_L ?k1 ?k2 ?k3 ?k4 ?_; (case k1 => k_asm); (case k2 => k_asm); (case k3 => k_upd); (case k4 => walk_at "lens"); k_whole); intro h' F' N'; (try k_sweep)))
local macro_rules | `(tactic| walk_at "lens") => `(tactic| first | assumption | omega | (simp only [List.length_append, List.length_cons, List.length_nil, List.length_map, List.length_range, List.length_replicate, List.length_set]; omega))
local macro_rules | `(tactic| walk_at "ints") => `(tactic| first | omega | (simp only [decide_eq_true_eq, decide_eq_false_iff_not, Bool.not_eq_true, beq_iff_eq, beq_eq_false_iff_ne, ne_eq] at *; omega) | (trace_state; fail "ints"))
local macro_rules | `(tactic| walk_at "fld_in") => `(tactic| first | assumption | exact FieldIn.tail (by assumption) | exact FieldIn.tail (FieldIn.tail (by assumption)) | exact FieldIn.tail (FieldIn.tail (FieldIn.tail (by assumption))) | exact FieldIn.tail (FieldIn.tail (FieldIn.tail (FieldIn.tail (by assumption)))) | exact FieldIn.tail (FieldIn.tail (FieldIn.tail (FieldIn.tail (FieldIn.tail (by assumption))))) | exact FieldIn.tail (FieldIn.tail (FieldIn.tail (FieldIn.tail (FieldIn.tail (FieldIn.tail (by assumption)))))) | exact FieldIn.tail (FieldIn.tail (FieldIn.tail (FieldIn.tail (FieldIn.tail (FieldIn.tail (FieldIn.tail (by assumption))))))) | exact FieldIn.tail (FieldIn.tail (FieldIn.tail (FieldIn.tail (FieldIn.tail (FieldIn.tail (FieldIn.tail (FieldIn.tail (by assumption)))))))) | exact FieldIn.tail (FieldIn.tail (FieldIn.tail (FieldIn.tail (FieldIn.tail (FieldIn.tail (FieldIn.tail (FieldIn.tail (FieldIn.tail (by assumption))))))))) | exact FieldIn.tail (FieldIn.tail (FieldIn.tail (FieldIn.tail (FieldIn.tail (FieldIn.tail (FieldIn.tail (FieldIn.tail (FieldIn.tail (FieldIn.tail (by assumption)))))))))) | exact FieldIn.tail (FieldIn.tail (FieldIn.tail (FieldIn.tail (FieldIn.tail (FieldIn.tail (FieldIn.tail (FieldIn.tail (FieldIn.tail (FieldIn.tail (FieldIn.tail (by assumption))))))))))) | exact FieldIn.tail (FieldIn.tail (FieldIn.tail (FieldIn.tail (FieldIn.tail (FieldIn.tail (FieldIn.tail (FieldIn.tail (FieldIn.tail (FieldIn.tail (FieldIn.tail (FieldIn.tail (by assumption)))))))))))))
local macro_rules | `(tactic| k_mem) => `(tactic| first | assumption | exact List.Mem.head _ | (refine' List.Mem.tail _ ?_; k_mem))
local macro_rules | `(tactic| walk_at "subscriptTail") => `(tactic| (k_here; (with_reducible show wpAny _ _ (subscriptTail _ _ (Value.ref _) (Value.int 0 _)) _ _ _); k_dflt (refine' fld_0 ?k1 ?k2 ?_ ?k4; (case k1 => k_asm); (case k2 => walk_at "fld_in"); (case k4 => with_unfolding_all rfl); k_whole)))
local macro_rules | `(tactic| walk_at "subscriptTail Name Constant ref int") => `(tactic| (k_here; (with_reducible show wpAny _ _ (subscriptTail _ _ (Value.ref _) (Value.int 0 _)) _ _ _); k_dflt (refine' fld_0 ?k1 ?k2 ?_ ?k4; (case k1 => k_asm); (case k2 => walk_at "fld_in"); (case k4 => with_unfolding_all rfl); k_whole)))
local macro_rules | `(tactic| walk_at "subscriptTail") => `(tactic| (k_here; (with_reducible show wpAny _ _ (subscriptTail _ _ (Value.ref _) (Value.int 1 _)) _ _ _); k_dflt (refine' fld_1 ?k1 ?k2 ?_ ?k4; (case k1 => k_asm); (case k2 => walk_at "fld_in"); (case k4 => with_unfolding_all rfl); k_whole)))
local macro_rules | `(tactic| walk_at "subscriptTail Name Constant ref int") => `(tactic| (k_here; (with_reducible show wpAny _ _ (subscriptTail _ _ (Value.ref _) (Value.int 1 _)) _ _ _); k_dflt (refine' fld_1 ?k1 ?k2 ?_ ?k4; (case k1 => k_asm); (case k2 => walk_at "fld_in"); (case k4 => with_unfolding_all rfl); k_whole)))
local macro_rules | `(tactic| walk_at "subscriptTail") => `(tactic| (k_here; (with_reducible show wpAny _ _ (subscriptTail _ _ (Value.ref _) (Value.int _ _)) _ _ _); k_dflt (refine' fld_pow ?k1 ?k2 ?k5 ?k6 ?_ ?k4; (case k1 => k_asm); (case k2 => walk_at "fld_in"); (case k5 => first | omega | exact (fmod255 _).1); (case k6 => first | omega | exact (fmod255 _).2); (case k4 => with_unfolding_all rfl); k_whole); intro _))
local macro_rules | `(tactic| walk_at "subscriptTail Subscript Name Constant BinOp ref int") => `(tactic| (k_here; (with_reducible show wpAny _ _ (subscriptTail _ _ (Value.ref _) (Value.int _ _)) _ _ _); k_dflt (refine' fld_pow ?k1 ?k2 ?k5 ?k6 ?_ ?k4; (case k1 => k_asm); (case k2 => walk_at "fld_in"); (case k5 => first | omega | exact (fmod255 _).1); (case k6 => first | omega | exact (fmod255 _).2); (case k4 => with_unfolding_all rfl); k_whole); intro _))
local macro_rules | `(tactic| walk_at "subscriptTail Subscript Name Constant Name ref int") => `(tactic| (k_here; (with_reducible show wpAny _ _ (subscriptTail _ _ (Value.ref _) (Value.int _ _)) _ _ _); k_dflt (refine' fld_pow ?k1 ?k2 ?k5 ?k6 ?_ ?k4; (case k1 => k_asm); (case k2 => walk_at "fld_in"); (case k5 => first | omega | exact (fmod255 _).1); (case k6 => first | omega | exact (fmod255 _).2); (case k4 => with_unfolding_all rfl); k_whole); intro _))
local macro_rules | `(tactic| walk_at "subscriptTail Subscript Name Constant Subscript ref int") => `(tactic| (k_here; (with_reducible show wpAny _ _ (subscriptTail _ _ (Value.ref _) (Value.int _ _)) _ _ _); k_dflt (refine' fld_pow ?k1 ?k2 ?k5 ?k6 ?_ ?k4; (case k1 => k_asm); (case k2 => walk_at "fld_in"); (case k5 => first | omega | exact (fmod255 _).1); (case k6 => first | omega | exact (fmod255 _).2); (case k4 => with_unfolding_all rfl); k_whole); intro _))
local macro_rules | `(tactic| walk_at "subscriptTail") => `(tactic| (k_here; (with_reducible show wpAny _ _ (subscriptTail _ _ (Value.ref _) (Value.int _ _)) _ _ _); k_dflt (refine' fld_log ?k1 ?k2 ?k5 ?k6 ?_ ?k4; (case k1 => k_asm); (case k2 => walk_at "fld_in"); (case k5 => walk_at "ints"); (case k6 => walk_at "ints"); (case k4 => with_unfolding_all rfl); k_whole); intro _))
local macro_rules | `(tactic| walk_at "subscriptTail Subscript Name Constant BinOp ref int") => `(tactic| (k_here; (with_reducible show wpAny _ _ (subscriptTail _ _ (Value.ref _) (Value.int _ _)) _ _ _); k_dflt (refine' fld_log ?k1 ?k2 ?k5 ?k6 ?_ ?k4; (case k1 => k_asm); (case k2 => walk_at "fld_in"); (case k5 => walk_at "ints"); (case k6 => walk_at "ints"); (case k4 => with_unfolding_all rfl); k_whole); intro _))
local macro_rules | `(tactic| walk_at "subscriptTail Subscript Name Constant Name ref int") => `(tactic| (k_here; (with_reducible show wpAny _ _ (subscriptTail _ _ (Value.ref _) (Value.int _ _)) _ _ _); k_dflt (refine' fld_log ?k1 ?k2 ?k5 ?k6 ?_ ?k4; (case k1 => k_asm); (case k2 => walk_at "fld_in"); (case k5 => walk_at "ints"); (case k6 => walk_at "ints"); (case k4 => with_unfolding_all rfl); k_whole); intro _))
local macro_rules | `(tactic| walk_at "subscriptTail Subscript Name Constant Subscript ref int") => `(tactic| (k_here; (with_reducible show wpAny _ _ (subscriptTail _ _ (Value.ref _) (Value.int _ _)) _ _ _); k_dflt (refine' fld_log ?k1 ?k2 ?k5 ?k6 ?_ ?k4; (case k1 => k_asm); (case k2 => walk_at "fld_in"); (case k5 => walk_at "ints"); (case k6 => walk_at "ints"); (case k4 => with_unfolding_all rfl); k_whole); intro _))

local macro_rules | `(tactic| walk_at "pyIter ref") => `(tactic| ((with_reducible show wpAny _ _ (pyIter (Value.ref _)) (fun it s₂ => LoopAtV _ _ _ _ _ _ _ _ _ it s₂) _ _); refine Stopped.out ?_))
local macro_rules | `(tactic| walk_at "exec For Name Call cons nil") => `(tactic| (k_here; (rename Fr _ _ _ _ => lF'); (with_unfolding_all refine' For_invVF lF' ?k1 ?k2 ?_; (case k1 => exact rfl); (case k2 => exact rfl); k_whole)))
local macro_rules | `(tactic| walk_at "exec For Name Name cons nil") => `(tactic| (k_here; (rename Fr _ _ _ _ => lF'); (with_unfolding_all refine' For_invVF lF' ?k1 ?k2 ?_; (case k1 => exact rfl); (case k2 => exact rfl); k_whole)))
local macro_rules | `(tactic| walk_at "call type:range") => `(tactic| (k_here; (with_reducible show wpAny _ _ (call (Value.type "range") [Value.int _ _]) _ _ _); k_dflt (refine' range1_K ?k1 ?k2 ?_; (case k1 => k_asm); (case k2 => k_asm); k_whole); intro r' h' u' v' tk' F' N' R'; (try k_sweep)))
local macro_rules | `(tactic| walk_at "call type:range") => `(tactic| (k_here; (with_reducible show wpAny _ _ (call (Value.type "range") [Value.int _ _, Value.int _ _]) _ _ _); k_dflt (refine' range2_K ?k1 ?k2 ?_; (case k1 => k_asm); (case k2 => k_asm); k_whole); intro r' h' v' tk' F' N' R'; (try k_sweep)))
local macro_rules | `(tactic| walk_at "room") => `(tactic| first | assumption | omega | ((simp only [depth_in1, depth_deeper, units_in1, units_deeper, Around.mark_units]); omega))

local macro_rules | `(tactic| is_list) => `(tactic| (refine' isList_of ?a ?b; (case a => k_asm); (case b => k_mem)))
local macro_rules | `(tactic| walk_at "call builtin:len") => `(tactic| (k_here; (with_reducible show wpAny _ _ (call (Value.builtin "len") [Value.ref _]) _ _ _); k_dflt (refine' len_L ?k2 ?k3 ?k4 ?_; (case k2 => k_asm); (case k3 => k_mem); (case k4 => walk_at "lens"); k_whole); intro t' tk'; (try k_sweep)))
local macro_rules | `(tactic| walk_at "binaryOp Add ref ref") => `(tactic| (k_here; (with_reducible show wpAny _ _ (binaryOp Operator.Add (Value.ref _) (Value.ref _)) _ _ _); k_dflt (refine' add_L ?k1 ?k2 ?k3 ?k4 ?k5 ?_; (case k1 => k_asm); (case k2 => k_asm); (case k3 => k_mem); (case k4 => k_mem); (case k5 => walk_at "lens"); k_whole); intro r' h' F' N' hl'; (have hl2' := hl'); (try k_lt hl2'); (try k_sweep)))

local macro_rules | `(tactic| walk_at "sub") => `(tactic| first | (refine' List.forall_mem_cons.mpr ⟨?a, ?b⟩; (case a => k_mem); (case b => walk_at "sub")) | (intro p hp; k_mem))

local macro_rules | `(tactic| walk_at "keep") => `(tactic| first | exact keep_base | exact keep_refl | (refine keep_x ?_; walk_at "keep") | (refine keep_upd (by decide) ?_; walk_at "keep") | (refine keep_in (by decide) ?_; walk_at "keep"))

local macro_rules | `(tactic| walk_at "CompSrc") => `(tactic| refine Stopped.out ?_)
local macro_rules | `(tactic| walk_at "my_enterC") => `(tactic| (refine wpAny_call ?_; k_dflt (refine' code_defC ?k1 ?k2 ?k3 ?k4 ?k5 ?kA ?kF ?kK ?k6 ?k7 ?k8 ?k9 ?kB ?kD ?_ ?c2 ?c3 ?c4; (case kA => exact rfl); (case kF => assumption); (case kK => assumption); (case k1 => k_asm); (case k2 => k_asm); (case k3 => k_asm); (case k4 => k_asm); (case k5 => k_asm); (case k6 => k_is); (case k7 => k_is); (case k8 => walk_at "room"); (case k9 => exact BindsTo.of_eq rfl); (case kB => exact rfl); (case kD => decide +kernel); (case c2 => exact rfl); (case c3 => exact rfl); (case c4 => exact rfl); k_whole; intro g' L' h' tk' cells' FG' F' N' Y' B' X' T' l1; k_cells Y'; (try simp only [List.cons_append, List.nil_append] at N'); (try dsimp only); (try k_fold))))

local macro_rules | `(tactic| walk_at "subscriptTail Name Slice ref ref") => `(tactic| (k_here; (with_reducible show wpAny _ _ (subscriptTail _ (PySem.Expr.Slice _ _ _ _) (Value.ref _) (Value.ref _)) _ _ _); k_dflt (refine' slice_LI ?zF ?zN ?zl ?zi ?zp ?zq ?zk ?zo ?zz ?_ ?zs; (case zF => k_asm); (case zN => k_asm); (case zl => k_mem); (case zi => assumption); (case zp => kmk_part); (case zq => kmk_part); (case zk => kmk_part); (case zo => decide); (case zz => walk_at "lens"); (case zs => with_unfolding_all rfl)); intro D' ws' h' F' N' l1 hI' hL'; (have l2' := l1); (try k_lt l2'); (try k_sweep)))
local macro_rules | `(tactic| walk_at "subscriptTail ListComp Slice ref ref") => `(tactic| (k_here; (with_reducible show wpAny _ _ (subscriptTail _ (PySem.Expr.Slice _ _ _ _) (Value.ref _) (Value.ref _)) _ _ _); k_dflt (refine' slice_LI ?zF ?zN ?zl ?zi ?zp ?zq ?zk ?zo ?zz ?_ ?zs; (case zF => k_asm); (case zN => k_asm); (case zl => k_mem); (case zi => assumption); (case zp => kmk_part); (case zq => kmk_part); (case zk => kmk_part); (case zo => decide); (case zz => walk_at "lens"); (case zs => with_unfolding_all rfl)); intro D' ws' h' F' N' l1 hI' hL'; (have l2' := l1); (try k_lt l2'); (try k_sweep)))
local macro_rules | `(tactic| walk_at "subscriptTail Subscript Slice ref ref") => `(tactic| (k_here; (with_reducible show wpAny _ _ (subscriptTail _ (PySem.Expr.Slice _ _ _ _) (Value.ref _) (Value.ref _)) _ _ _); k_dflt (refine' slice_LI ?zF ?zN ?zl ?zi ?zp ?zq ?zk ?zo ?zz ?_ ?zs; (case zF => k_asm); (case zN => k_asm); (case zl => k_mem); (case zi => assumption); (case zp => kmk_part); (case zq => kmk_part); (case zk => kmk_part); (case zo => decide); (case zz => walk_at "lens"); (case zs => with_unfolding_all rfl)); intro D' ws' h' F' N' l1 hI' hL'; (have l2' := l1); (try k_lt l2'); (try k_sweep)))
local macro_rules | `(tactic| walk_at "subscriptTail Attribute Slice ref ref") => `(tactic| (k_here; (with_reducible show wpAny _ _ (subscriptTail _ (PySem.Expr.Slice _ _ _ _) (Value.ref _) (Value.ref _)) _ _ _); k_dflt (refine' slice_LI ?zF ?zN ?zl ?zi ?zp ?zq ?zk ?zo ?zz ?_ ?zs; (case zF => k_asm); (case zN => k_asm); (case zl => k_mem); (case zi => assumption); (case zp => kmk_part); (case zq => kmk_part); (case zk => kmk_part); (case zo => decide); (case zz => walk_at "lens"); (case zs => with_unfolding_all rfl)); intro D' ws' h' F' N' l1 hI' hL'; (have l2' := l1); (try k_lt l2'); (try k_sweep)))
local macro_rules | `(tactic| walk_at "subscriptTail Name Name ref ref") => `(tactic| (k_here; (with_reducible show wpAny _ _ (subscriptTail _ _ (Value.ref _) (Value.ref _)) _ _ _); k_dflt (refine' slice_LI ?zF ?zN ?zl ?zi ?zp ?zq ?zk ?zo ?zz ?_ ?zs; (case zF => k_asm); (case zN => k_asm); (case zl => k_mem); (case zi => assumption); (case zp => kmk_part); (case zq => kmk_part); (case zk => kmk_part); (case zo => decide); (case zz => walk_at "lens"); (case zs => with_unfolding_all rfl)); intro D' ws' h' F' N' l1 hI' hL'; (have l2' := l1); (try k_lt l2'); (try k_sweep)))
local macro_rules | `(tactic| walk_at "subscriptTail Attribute Name ref ref") => `(tactic| (k_here; (with_reducible show wpAny _ _ (subscriptTail _ _ (Value.ref _) (Value.ref _)) _ _ _); k_dflt (refine' slice_LI ?zF ?zN ?zl ?zi ?zp ?zq ?zk ?zo ?zz ?_ ?zs; (case zF => k_asm); (case zN => k_asm); (case zl => k_mem); (case zi => assumption); (case zp => kmk_part); (case zq => kmk_part); (case zk => kmk_part); (case zo => decide); (case zz => walk_at "lens"); (case zs => with_unfolding_all rfl)); intro D' ws' h' F' N' l1 hI' hL'; (have l2' := l1); (try k_lt l2'); (try k_sweep)))

variable {w : World} {mean : ExcName → Option Value} {mg mb : Str → Option Value} {dp un : Nat} {gd : Option (List Code)} {A₀ : Around} {base h₀ : Heap} {env : Env} {outer : List Env} {L : Addr} {m : Str → Option Value} {s : Shared} {Q E : Value → Shared → Prop}
local macro_rules | `(tactic| walk_at "call builtin:list.append") => `(tactic| (k_here; (with_reducible show wpAny _ _ (call (Value.builtin "list.append") [Value.ref _, Value.int _ _]) _ _ _); k_dflt (refine' append_LI ?k1 ?k2 ?k3 ?k4 ?k5 ?_; (case k1 => k_asm); (case k2 => k_asm); (case k3 => k_upd); (case k4 => walk_at "lens"); (case k5 => assumption); k_whole); intro h' F' N' hI'; (try k_sweep)))
local macro_rules | `(tactic| walk_at "subscriptTail Name Slice ref ref") => `(tactic| (k_here; (with_reducible show wpAny _ _ (subscriptTail _ (PySem.Expr.Slice _ _ none _) (Value.ref _) (Value.ref _)) _ _ _); k_dflt (refine' slice_LJ ?zF ?zN ?zl ?zi ?zp ?zq ?zz ?_ ?zs ?zt; (case zF => k_asm); (case zN => k_asm); (case zl => k_mem); (case zi => assumption); (case zp => kmk_part); (case zq => kmk_part); (case zz => walk_at "lens"); (case zs => with_unfolding_all rfl); (case zt => kmk_pure)); intro D' ws' h' F' N' l1 hI' hL'; (have l2' := l1); (try k_lt l2'); (try k_sweep)))
local macro_rules | `(tactic| walk_at "subscriptTail ListComp Slice ref ref") => `(tactic| (k_here; (with_reducible show wpAny _ _ (subscriptTail _ (PySem.Expr.Slice _ _ none _) (Value.ref _) (Value.ref _)) _ _ _); k_dflt (refine' slice_LJ ?zF ?zN ?zl ?zi ?zp ?zq ?zz ?_ ?zs ?zt; (case zF => k_asm); (case zN => k_asm); (case zl => k_mem); (case zi => assumption); (case zp => kmk_part); (case zq => kmk_part); (case zz => walk_at "lens"); (case zs => with_unfolding_all rfl); (case zt => kmk_pure)); intro D' ws' h' F' N' l1 hI' hL'; (have l2' := l1); (try k_lt l2'); (try k_sweep)))
local macro_rules | `(tactic| walk_at "subscriptTail Subscript Slice ref ref") => `(tactic| (k_here; (with_reducible show wpAny _ _ (subscriptTail _ (PySem.Expr.Slice _ _ none _) (Value.ref _) (Value.ref _)) _ _ _); k_dflt (refine' slice_LJ ?zF ?zN ?zl ?zi ?zp ?zq ?zz ?_ ?zs ?zt; (case zF => k_asm); (case zN => k_asm); (case zl => k_mem); (case zi => assumption); (case zp => kmk_part); (case zq => kmk_part); (case zz => walk_at "lens"); (case zs => with_unfolding_all rfl); (case zt => kmk_pure)); intro D' ws' h' F' N' l1 hI' hL'; (have l2' := l1); (try k_lt l2'); (try k_sweep)))
local macro_rules | `(tactic| walk_at "subscriptTail Attribute Slice ref ref") => `(tactic| (k_here; (with_reducible show wpAny _ _ (subscriptTail _ (PySem.Expr.Slice _ _ none _) (Value.ref _) (Value.ref _)) _ _ _); k_dflt (refine' slice_LJ ?zF ?zN ?zl ?zi ?zp ?zq ?zz ?_ ?zs ?zt; (case zF => k_asm); (case zN => k_asm); (case zl => k_mem); (case zi => assumption); (case zp => kmk_part); (case zq => kmk_part); (case zz => walk_at "lens"); (case zs => with_unfolding_all rfl); (case zt => kmk_pure)); intro D' ws' h' F' N' l1 hI' hL'; (have l2' := l1); (try k_lt l2'); (try k_sweep)))
local macro_rules | `(tactic| walk_at "lens") => `(tactic| first | assumption | omega | (simp only [List.flatten_replicate_singleton, List.length_append, List.length_cons, List.length_nil, List.length_map, List.length_range, List.length_replicate, List.length_set]; omega))
local macro_rules | `(tactic| walk_at "sub") => `(tactic| first | exact List.forall_mem_nil _ | (refine' List.forall_mem_cons.mpr ⟨?a, ?b⟩; (case a => k_mem); (case b => walk_at "sub")) | (intro p hp; k_mem))


theorem meta_tupleZ : typeOf (.type "tuple") = pure (.type "type") := by kernel_rfl
local macro_rules | `(tactic| walk_at "getMethod type:tuple") => `(tactic| (k_here; refine' method_type ?F ?X ?m (by decide +kernel) ?e ?h ?_; (case F => k_asm); (case X => k_asm); (case m => exact meta_tupleZ); (case e => k_dflt k_is); (case h => k_handed)))
abbrev rsObj (dx : Addr) (a : Int) (ta : Tok) (b : Int) (tb : Tok) : Obj := { cls := .ref 216, dict := some dx, data := .seq #[.int a ta, .int b tb] }
theorem rs_made {hh : Heap} (X : (hd.heap_39 w.params).In hh) : Looks (model PP w) hh (mroOf (.ref 216)) [.ref 216, .type "tuple", .type "object"] ∧ Looks (model PP w) hh (Bind.madeBy (.ref 216)) none := by
  have cc1 : ∃ cd, clsIn (hd.heap_39 w.params) 216 = some cd ∧ cd.mro = [.ref 216, .type "tuple", .type "object"] := ⟨_, by k_is, rfl⟩
  obtain ⟨cd, hcd, hmro⟩ := cc1
  have hm : Looks (model PP w) hh (mroOf (.ref 216)) [.ref 216, .type "tuple", .type "object"] := hmro ▸ (looks_clsIn X hcd).andThen .now
  have hC := X 216 _ rfl
  refine ⟨hm, ?_⟩
  intro A Q E s k q
  unfold Bind.madeBy
  refine wpAny_bind (hm A _ E s k ?_)
  rw [List.forIn_cons]
  refine wpAny_bind (wpAny_bind (wpAny_bind (wpAny_bind (wpAny_loadPart (k _ _ hC) (wpAny_pure ?_)))))
  exact wpAny_pure (wpAny_pure (wpAny_pure q))
section
variable {news : List (Addr × Obj)} {a b : Int} {ta tb : Tok} {A : Around}
def RsBack (K : Frag) (Q : Value → Shared → Prop) (v : Value) (s : Shared) : Prop := ∃ x dx a ta b tb, v = .ref x ∧ K.In s.heap ∧ s.heap.get? x = some (rsObj dx a ta b tb) ∧ Q v s
theorem rs_core (F : Fr h₀ L s.heap m) (X₀ : (hd.heap_39 w.params).In h₀)
  (h : wpAny (model PP w) (A.under (Code.builtin "type.__call__" ⟨[.ref 216, .int a ta, .int b tb], []⟩)) (call (.ref 166) [.ref 216, .int a ta, .int b tb]) (RsBack (hd.heap_39 w.params) Q) E { s with toks := s.toks + 1 }) :
  wpAny (model PP w) A (call (.ref 216) [.int a ta, .int b tb]) Q E s := by
  have X := X₀.keeps F.keep
  have call1 := looks_specialIn (M := model PP w) X (v := .ref 216) (name := "__call__") (r := some (.builtin "type.__call__")) (by k_is)
  have typ1 := looks_instIn (M := model PP w) X (v := .ref 216) (base := .type "type") (r := true) (by k_is)
  obtain ⟨hh, g, d, t, os⟩ := s
  have hC := X 216 _ rfl
  obtain ⟨hm, made⟩ := rs_made (w := w) X
  refine wpAny_call ?_
  refine codeAny_of_tree ?_
  show wpAny _ _ (callAny (.ref 216) _) _ _ _
  refine nd_load hC ?_
  show wpAny _ _ (callAny.viaDunder (.ref 216) _) _ _ _
  unfold callAny.viaDunder
  refine wpAny_bind (call1.at ?_)
  dsimp only
  rw [tc_bind]
  refine wpAny_bind (wpAny_pure (wpAny_bind (wpAny_pure ?_)))
  refine wpAny_pure (a := Fin.again (.call (.builtin "type.__call__") ⟨_, _⟩)) (And.intro rfl ?_)
  refine codeAny_call_builtin_at (Code.quiet_builtin _ (by decide +kernel)) entry_typeCall (check_slot tc_kind tc_split typ1 (tc_args _ _ _) ?_)
  unfold Builtin.«type.__call__»
  iterate 9 lk
  refine cls_sm (h₀ := h₀) (L := L) (m := m) (K := hd.heap_39 w.params) (p := 217) (mc := .type "type") (f := .ref 166) (rest := []) ?F0 ?X0 ?h1 ?h2 ?h3 ?h4 ?h5 ?_
  (case F0 => exact F)
  (case X0 => exact X₀)
  (case h1 => k_is)
  (case h2 => k_is)
  (case h3 => k_is)
  (case h4 => k_is)
  (case h5 => k_handed)
  iterate 2 lk
  refine wpAny_mono h (fun v s' z => ?_) (fun _ _ z => z)
  obtain ⟨x, dx, a', ta', b', tb', rfl, X2, hx, hq⟩ := z
  clear call1 typ1 hC hm made h X F
  obtain ⟨h2, g2, d2, t2, os2⟩ := s'
  have t1 : Looks (model PP w) h2 (typeOf (.ref x)) (.ref 216) := (Looks.ld hx).andThen .now
  have s1 := looks_mroIn (M := model PP w) X2 (C := 216) (base := .ref 216) (r := true) (by k_is)
  have i1 := looks_findIn (M := model PP w) X2 (t := .ref 216) (name := "__init__") (r := some (.builtin "object.__init__")) (by k_is)
  have b1 : Looks (model PP w) h2 (bindSpecial (.builtin "object.__init__") (.ref x)) (.builtin "object.__init__", [.ref x]) := Looks.of_pure (oi_bind _)
  have top := looks_mroIn (M := model PP w) X2 (C := 216) (base := .type "object") (r := true) (by k_is)
  have made := (rs_made (w := w) X2).2
  unfold isInstance callSpecial? specialOf
  repeat (first | with_reducible refine wpAny_call ?_ | lk)
  have t2 : Looks (model PP w) h2 (isInstance (.ref x) (.type "object")) true := t1.andThen top
  refine codeAny_call_builtin oi_plain entry_oi (@check_slot (model PP w) _ _ _ "object.__init__" "object" "__init__" (.ref x) [.int a ta, .int b tb] [] _ oi_kind oi_split t2 (by unfold argsOk; kernel_rfl) ?_)
  unfold Builtin.«object.__init__»
  repeat lk
  exact hq
end
section
variable {news : List (Addr × Obj)} {a b : Int} {ta tb : Tok} {A : Around} {D : Addr}
theorem rs_here {hh : Heap} (X : (hd.heap_39 w.params).In hh) : Looks (model PP w) hh (Bind.staticBase (.ref 216)) (.type "tuple") ∧ Looks (model PP w) hh (Bind.madeBy (.type "tuple")) (some "tuple.__new__") ∧ Looks (model PP w) hh (Bind.madeHere "tuple.__new__" (.ref 216)) () := by
  obtain ⟨hm, made⟩ := rs_made (w := w) X
  have cc1 : ∃ cd, clsIn (hd.heap_39 w.params) 216 = some cd ∧ cd.bases = [.type "tuple"] := ⟨_, by k_is, rfl⟩
  obtain ⟨cd, hcd, hb⟩ := cc1
  have hc := looks_clsIn (M := model PP w) X hcd
  have bb : Looks (model PP w) hh (Builtin.Slots.bestBase [.type "tuple"]) (.type "tuple") := Looks.of_pure (by kernel_rfl)
  have mt : Looks (model PP w) hh (Bind.madeBy (.type "tuple")) (some "tuple.__new__") := Looks.of_pure F.called_tuple.made
  have sb : Looks (model PP w) hh (Bind.staticBase (.ref 216)) (.type "tuple") := by
    intro A Q E s k q
    unfold Bind.staticBase
    refine wpAny_bind (hm A _ E s k ?_)
    rw [List.forIn_cons]
    refine wpAny_bind (wpAny_bind (wpAny_bind (made A _ E s k ?_)))
    refine wpAny_bind (hc A _ E s k ?_)
    rw [hb]
    refine wpAny_bind (bb A _ E s k (wpAny_pure ?_))
    dsimp only
    rw [List.forIn_cons]
    refine wpAny_bind (wpAny_bind (mt A _ E s k (wpAny_pure (wpAny_pure ?_))))
    exact wpAny_pure q
  refine ⟨sb, mt, sb.andThen (mt.andThen ?_)⟩
  simp only [Option.map_some, bne_self_eq_false, Bool.false_eq_true, if_false]
  exact .now
theorem rs_tuple_new (F : Fr h₀ L s.heap m) (X₀ : (hd.heap_39 w.params).In h₀) (N : News h₀ L s.heap news) (hD : (D, ({ cls := .type "tuple", data := .seq #[.int a ta, .int b tb] } : Obj)) ∈ news)
    (h : ∀ (x dx : Addr) h', Fr h₀ L h' m → News h₀ L h' ((x, rsObj dx a ta b tb) :: (dx, emptyDict) :: news) → (∀ p ∈ news, p.1 < x) → (∀ p ∈ news, p.1 < dx) → Q (.ref x) { s with heap := h' }) :
    wpAny (model PP w) A (call (.builtin "tuple.__new__") [.ref 216, .ref D]) Q E s := by
  have X := X₀.keeps F.keep
  obtain ⟨sb, mt, here⟩ := rs_here X
  have hC := X 216 _ rfl
  have s1 := looks_mroIn (M := model PP w) X (C := 216) (base := .type "tuple") (r := true) (by k_is)
  have i1 := looks_findIn (M := model PP w) X (t := .ref 216) (name := "__init__") (r := some (.builtin "object.__init__")) (by k_is)
  have typ1 := looks_instIn (M := model PP w) X (v := .ref 216) (base := .type "type") (r := true) (by k_is)
  have ho := (N _ hD).1
  obtain ⟨hh, g, d, t, os⟩ := s
  refine wpAny_call (codeAny_call_builtin (id := "tuple.__new__") (by decide +kernel) PySem.F.entry_tuple_new ?_)
  have t1 : builtinKind "tuple.__new__" = some .builtinFn := by decide +kernel
  have t2 : splitId "tuple.__new__" = some ("tuple", "__new__") := by decide +kernel
  simp only [checkBuiltinCall, t1, t2]
  have ck : ∀ (A : Around) (Q' : List Value → Shared → Prop) (E : Value → Shared → Prop), (∀ h', (∀ b o', hh.get? b = some o' → h'.get? b = some o') → Q' [.int a ta, .int b tb] ⟨h', g, d, t, os⟩) → wpAny (model PP w) A (collect (.ref D)) Q' E ⟨hh, g, d, t, os⟩ :=
    fun A Q' E hq => wpAny_collect_seq (s := ⟨hh, g, d, t, os⟩) D (.inr rfl) ho rfl rfl hq (by rw [sizeLine_eq]; show 2 ≤ 16777216; decide)
  repeat (first | with_reducible refine ck _ _ _ ?_ | simp only [bne_self_eq_false, Bool.false_eq_true, if_false, beq_self_eq_true, if_true] | lk)
  intro h' hk
  have F' : Fr h₀ L h' m := F.keptAll hk
  have N' : News h₀ L h' news := fun p hp => ⟨hk _ _ (N p hp).1, (N p hp).2⟩
  have F1 := F'.push emptyDict
  have N1 := News.push F' N' emptyDict
  have F2 := F1.push (rsObj h'.objs.size a ta b tb)
  have N2 := News.push F1 N1 (rsObj h'.objs.size a ta b tb)
  have hq := h _ _ _ F2 N2 (fun p hp => Heap.lt_size (N1 p (.tail _ hp)).1) (fun p hp => Heap.lt_size (N' p hp).1)
  have hC' := Heap.get?_push_of_some (rsObj h'.objs.size a ta b tb) (Heap.get?_push_of_some emptyDict (hk _ _ hC))
  clear ck h F N F' N' F1 F2 N1 N2 hk
  repeat lk
  exact hq
end
set_option maxHeartbeats 1600000 in
theorem rs_call {news : List (Addr × Obj)} {a b : Int} {ta tb : Tok}
  (B : Below A₀ base outer h₀) (F : Fr h₀ L s.heap m) (X : (hd.heap_39 w.params).In h₀) (N : News h₀ L s.heap news) (T : TopM mean mg mb h₀)
  (hf : env.frame = some L) (hk : env.scope.kind = .function) (hroom : dp + 2 < recursionLimit) (hun : un + 9 < cLine)
  (hret : ∀ (h' : Heap) (tk' : Nat) (x dx : Addr), Fr h₀ L h' m → News h₀ L h' ((x, rsObj dx a ta b tb) :: (dx, emptyDict) :: news) → (∀ p ∈ news, p.1 < x) → (∀ p ∈ news, p.1 < dx) → Q (.ref x) { s with heap := h', toks := tk' }) :
  wpAny (model PP w) (AA dp un gd env outer) (call (.ref 216) [.int a ta, .int b tb]) Q E s := by
  refine rs_core F X ?_
  rw [show (AA dp un gd env outer).under (.builtin "type.__call__" ⟨[.ref 216, .int a ta, .int b tb], []⟩) = AA (dp + 1) (un + 1) gd env outer from rfl]
  walk_at "my_enter"
  walk_at "my_steps"
  rename Fr _ _ _ _ => F2
  rename News _ _ _ _ => N2
  refine rs_tuple_new F2 (by assumption) N2 (.head _) ?_
  intro x dx h' F3 N3 l1 l2
  walk_at "my_steps"
  rename Fr h₀ L _ m => kF
  rename News h₀ L _ _ => kN
  refine ⟨x, dx, a, ta, b, tb, rfl, Frag.In.keeps X kF.keep, (kN _ (.head _)).1, ?_⟩
  exact hret _ _ x dx kF (news_sub kN (by walk_at "sub")) (fun p hp => l1 p (.tail _ hp)) fun p hp => l2 p (.tail _ hp)

end Mine
end

theorem Mine.anew_W21 : 1 = 1 := by
  w_top off
  first | walk1 | rfl

/-! part W21 -/
section
open PySem PySem.W PyProof.Rows PySem.Calls PySem.Spec
set_option Elab.async false
namespace Mine
set_option maxRecDepth 100000
theorem fill_W21 {w : World} {h : Heap} : (hd.heap_39 w.params).In h → Challenge.rw_bj0062_01.row.prog = Challenge.rw_bj0062_01.row.prog := by
  k_fill
  intro _
  rfl
local macro_rules | `(tactic| walk_at "my_enter") => `(tactic| (refine wpAny_call ?_; k_dflt (refine' code_def ?k1 ?k2 ?k3 ?k4 ?k5 ?kA ?kF ?kK ?k6 ?k7 ?k8 ?k9 ?kB ?_ ?c2 ?c3 ?c4 ?c5; (case kA => exact rfl); (case kF => assumption); (case kK => assumption); (case k1 => k_asm); (case k2 => k_asm); (case k3 => k_asm); (case k4 => k_asm); (case k5 => k_asm); (case k6 => k_is); (case k7 => k_is); (case k8 => walk_at "room"); (case k9 => exact BindsTo.of_eq rfl); (case c5 => decide); (case kB => exact locs rfl); (case c2 => exact rfl); (case c3 => exact rfl); (case c4 => exact rfl); k_whole; intro g' L' h' FG' F' N' B' X' T'; (try dsimp only); (try k_fold))))
local macro_rules | `(tactic| walk_at "my_steps") => `(tactic| repeat' (first | (k_unfold; (try dsimp only)) | walk1 | (dsimp only; walk1)))
local macro_rules | `(tactic| walk_at "setItem ref int") => `(tactic| (k_here; (with_reducible show wpAny _ _ (setItem (Value.ref _) (Value.int _ _) _) _ _ _); k_dflt (refine' set_listK ?k1 ?k2 ?k3 ?k5 ?k6 ?k7 ?_; (case k1 => k_asm); (case k2 => k_asm); (case k3 => k_upd); (case k5 => first | omega | ksa_idx); (case k6 => first | omega | (simp; done) | (simp; omega)); (case k7 => first | omega | ksa_idx); k_whole); intro h' F' N'; (try k_sweep)))
local macro_rules | `(tactic| k_ne) => `(tactic| first | assumption | exact Ne.symm (by assumption) | (refine neN ?_; (try dsimp only); omega))
local macro_rules | `(tactic| k_all) => `(tactic| first | assumption | exact lt_all_ne (by assumption) | exact lt_all_sub (by assumption) (by walk_at "sub") | exact ne_all_sub (by assumption) (by walk_at "sub") | exact allLt_ne (by assumption) | exact allLt_ne (And.right (by assumption)) | exact allLt_ne (And.right (And.right (by assumption))) | exact allLt_ne (And.right (And.right (And.right (by assumption)))) | exact allLt_ne (And.right (And.right (And.right (And.right (by assumption))))) | exact allLt_ne (And.right (And.right (And.right (And.right (And.right (by assumption)))))) | exact allLt_ne (And.right (And.right (And.right (And.right (And.right (And.right (by assumption))))))) | exact allLt_ne (And.right (And.right (And.right (And.right (And.right (And.right (And.right (by assumption)))))))) | exact allLt_ne (And.right (And.right (And.right (And.right (And.right (And.right (And.right (And.right (by assumption))))))))) | exact allLt_ne (And.right (And.right (And.right (And.right (And.right (And.right (And.right (And.right (And.right (by assumption)))))))))) | exact lt_all_off (by assumption) (by omega) | exact off1_sub (by assumption) (by walk_at "sub") | exact List.forall_mem_nil _ | (refine' List.forall_mem_cons.mpr ⟨?a, ?b⟩; (case a => k_ne); (case b => k_all)))
local macro_rules | `(tactic| walk_at "call builtin:list.append") => `(tactic| (k_here; (with_reducible show wpAny _ _ (call (Value.builtin "list.append") [Value.ref _, _]) _ _ _); k_dflt (refine' append_L ?k1 ?k2 ?k3 ?k4 ?_; (case k1 => k_asm); (case k2 => k_asm); (case k3 => k_upd); (case k4 => walk_at "lens"); k_whole); intro h' F' N'; (try k_sweep)))
local macro_rules | `(tactic| walk_at "lens") => `(tactic| first | assumption | omega | (simp only [List.length_append, List.length_cons, List.length_nil, List.length_map, List.length_range, List.length_replicate, List.length_set]; omega))
local macro_rules | `(tactic| walk_at "ints") => `(tactic| first | omega | (simp only [decide_eq_true_eq, decide_eq_false_iff_not, Bool.not_eq_true, beq_iff_eq, beq_eq_false_iff_ne, ne_eq] at *; omega) | (trace_state; fail "ints"))
local macro_rules | `(tactic| walk_at "fld_in") => `(tactic| first | assumption | exact FieldIn.tail (by assumption) | exact FieldIn.tail (FieldIn.tail (by assumption)) | exact FieldIn.tail (FieldIn.tail (FieldIn.tail (by assumption))) | exact FieldIn.tail (FieldIn.tail (FieldIn.tail (FieldIn.tail (by assumption)))) | exact FieldIn.tail (FieldIn.tail (FieldIn.tail (FieldIn.tail (FieldIn.tail (by assumption))))) | exact FieldIn.tail (FieldIn.tail (FieldIn.tail (FieldIn.tail (FieldIn.tail (FieldIn.tail (by assumption)))))) | exact FieldIn.tail (FieldIn.tail (FieldIn.tail (FieldIn.tail (FieldIn.tail (FieldIn.tail (FieldIn.tail (by assumption))))))) | exact FieldIn.tail (FieldIn.tail (FieldIn.tail (FieldIn.tail (FieldIn.tail (FieldIn.tail (FieldIn.tail (FieldIn.tail (by assumption)))))))) | exact FieldIn.tail (FieldIn.tail (FieldIn.tail (FieldIn.tail (FieldIn.tail (FieldIn.tail (FieldIn.tail (FieldIn.tail (FieldIn.tail (by assumption))))))))) | exact FieldIn.tail (FieldIn.tail (FieldIn.tail (FieldIn.tail (FieldIn.tail (FieldIn.tail (FieldIn.tail (FieldIn.tail (FieldIn.tail (FieldIn.tail (by assumption)))))))))) | exact FieldIn.tail (FieldIn.tail (FieldIn.tail (FieldIn.tail (FieldIn.tail (FieldIn.tail (FieldIn.tail (FieldIn.tail (FieldIn.tail (FieldIn.tail (FieldIn.tail (by assumption))))))))))) | exact FieldIn.tail (FieldIn.tail (FieldIn.tail (FieldIn.tail (FieldIn.tail (FieldIn.tail (FieldIn.tail (FieldIn.tail (FieldIn.tail (FieldIn.tail (FieldIn.tail (FieldIn.tail (by assumption)))))))))))))
local macro_rules | `(tactic| k_mem) => `(tactic| first | assumption | exact List.Mem.head _ | (refine' List.Mem.tail _ ?_; k_mem))
local macro_rules | `(tactic| walk_at "subscriptTail") => `(tactic| (k_here; (with_reducible show wpAny _ _ (subscriptTail _ _ (Value.ref _) (Value.int 0 _)) _ _ _); k_dflt (refine' fld_0 ?k1 ?k2 ?_ ?k4; (case k1 => k_asm); (case k2 => walk_at "fld_in"); (case k4 => with_unfolding_all rfl); k_whole)))
local macro_rules | `(tactic| walk_at "subscriptTail Name Constant ref int") => `(tactic| (k_here; (with_reducible show wpAny _ _ (subscriptTail _ _ (Value.ref _) (Value.int 0 _)) _ _ _); k_dflt (refine' fld_0 ?k1 ?k2 ?_ ?k4; (case k1 => k_asm); (case k2 => walk_at "fld_in"); (case k4 => with_unfolding_all rfl); k_whole)))
local macro_rules | `(tactic| walk_at "subscriptTail") => `(tactic| (k_here; (with_reducible show wpAny _ _ (subscriptTail _ _ (Value.ref _) (Value.int 1 _)) _ _ _); k_dflt (refine' fld_1 ?k1 ?k2 ?_ ?k4; (case k1 => k_asm); (case k2 => walk_at "fld_in"); (case k4 => with_unfolding_all rfl); k_whole)))
local macro_rules | `(tactic| walk_at "subscriptTail Name Constant ref int") => `(tactic| (k_here; (with_reducible show wpAny _ _ (subscriptTail _ _ (Value.ref _) (Value.int 1 _)) _ _ _); k_dflt (refine' fld_1 ?k1 ?k2 ?_ ?k4; (case k1 => k_asm); (case k2 => walk_at "fld_in"); (case k4 => with_unfolding_all rfl); k_whole)))
local macro_rules | `(tactic| walk_at "subscriptTail") => `(tactic| (k_here; (with_reducible show wpAny _ _ (subscriptTail _ _ (Value.ref _) (Value.int _ _)) _ _ _); k_dflt (refine' fld_pow ?k1 ?k2 ?k5 ?k6 ?_ ?k4; (case k1 => k_asm); (case k2 => walk_at "fld_in"); (case k5 => first | omega | exact (fmod255 _).1); (case k6 => first | omega | exact (fmod255 _).2); (case k4 => with_unfolding_all rfl); k_whole); intro _))
local macro_rules | `(tactic| walk_at "subscriptTail Subscript Name Constant BinOp ref int") => `(tactic| (k_here; (with_reducible show wpAny _ _ (subscriptTail _ _ (Value.ref _) (Value.int _ _)) _ _ _); k_dflt (refine' fld_pow ?k1 ?k2 ?k5 ?k6 ?_ ?k4; (case k1 => k_asm); (case k2 => walk_at "fld_in"); (case k5 => first | omega | exact (fmod255 _).1); (case k6 => first | omega | exact (fmod255 _).2); (case k4 => with_unfolding_all rfl); k_whole); intro _))
local macro_rules | `(tactic| walk_at "subscriptTail Subscript Name Constant Name ref int") => `(tactic| (k_here; (with_reducible show wpAny _ _ (subscriptTail _ _ (Value.ref _) (Value.int _ _)) _ _ _); k_dflt (refine' fld_pow ?k1 ?k2 ?k5 ?k6 ?_ ?k4; (case k1 => k_asm); (case k2 => walk_at "fld_in"); (case k5 => first | omega | exact (fmod255 _).1); (case k6 => first | omega | exact (fmod255 _).2); (case k4 => with_unfolding_all rfl); k_whole); intro _))
local macro_rules | `(tactic| walk_at "subscriptTail Subscript Name Constant Subscript ref int") => `(tactic| (k_here; (with_reducible show wpAny _ _ (subscriptTail _ _ (Value.ref _) (Value.int _ _)) _ _ _); k_dflt (refine' fld_pow ?k1 ?k2 ?k5 ?k6 ?_ ?k4; (case k1 => k_asm); (case k2 => walk_at "fld_in"); (case k5 => first | omega | exact (fmod255 _).1); (case k6 => first | omega | exact (fmod255 _).2); (case k4 => with_unfolding_all rfl); k_whole); intro _))
local macro_rules | `(tactic| walk_at "subscriptTail") => `(tactic| (k_here; (with_reducible show wpAny _ _ (subscriptTail _ _ (Value.ref _) (Value.int _ _)) _ _ _); k_dflt (refine' fld_log ?k1 ?k2 ?k5 ?k6 ?_ ?k4; (case k1 => k_asm); (case k2 => walk_at "fld_in"); (case k5 => walk_at "ints"); (case k6 => walk_at "ints"); (case k4 => with_unfolding_all rfl); k_whole); intro _))
local macro_rules | `(tactic| walk_at "subscriptTail Subscript Name Constant BinOp ref int") => `(tactic| (k_here; (with_reducible show wpAny _ _ (subscriptTail _ _ (Value.ref _) (Value.int _ _)) _ _ _); k_dflt (refine' fld_log ?k1 ?k2 ?k5 ?k6 ?_ ?k4; (case k1 => k_asm); (case k2 => walk_at "fld_in"); (case k5 => walk_at "ints"); (case k6 => walk_at "ints"); (case k4 => with_unfolding_all rfl); k_whole); intro _))
local macro_rules | `(tactic| walk_at "subscriptTail Subscript Name Constant Name ref int") => `(tactic| (k_here; (with_reducible show wpAny _ _ (subscriptTail _ _ (Value.ref _) (Value.int _ _)) _ _ _); k_dflt (refine' fld_log ?k1 ?k2 ?k5 ?k6 ?_ ?k4; (case k1 => k_asm); (case k2 => walk_at "fld_in"); (case k5 => walk_at "ints"); (case k6 => walk_at "ints"); (case k4 => with_unfolding_all rfl); k_whole); intro _))
local macro_rules | `(tactic| walk_at "subscriptTail Subscript Name Constant Subscript ref int") => `(tactic| (k_here; (with_reducible show wpAny _ _ (subscriptTail _ _ (Value.ref _) (Value.int _ _)) _ _ _); k_dflt (refine' fld_log ?k1 ?k2 ?k5 ?k6 ?_ ?k4; (case k1 => k_asm); (case k2 => walk_at "fld_in"); (case k5 => walk_at "ints"); (case k6 => walk_at "ints"); (case k4 => with_unfolding_all rfl); k_whole); intro _))

local macro_rules | `(tactic| walk_at "pyIter ref") => `(tactic| ((with_reducible show wpAny _ _ (pyIter (Value.ref _)) (fun it s₂ => LoopAtV _ _ _ _ _ _ _ _ _ it s₂) _ _); refine Stopped.out ?_))
local macro_rules | `(tactic| walk_at "exec For Name Call cons nil") => `(tactic| (k_here; (rename Fr _ _ _ _ => lF'); (with_unfolding_all refine' For_invVF lF' ?k1 ?k2 ?_; (case k1 => exact rfl); (case k2 => exact rfl); k_whole)))
local macro_rules | `(tactic| walk_at "exec For Name Name cons nil") => `(tactic| (k_here; (rename Fr _ _ _ _ => lF'); (with_unfolding_all refine' For_invVF lF' ?k1 ?k2 ?_; (case k1 => exact rfl); (case k2 => exact rfl); k_whole)))
local macro_rules | `(tactic| walk_at "call type:range") => `(tactic| (k_here; (with_reducible show wpAny _ _ (call (Value.type "range") [Value.int _ _]) _ _ _); k_dflt (refine' range1_K ?k1 ?k2 ?_; (case k1 => k_asm); (case k2 => k_asm); k_whole); intro r' h' u' v' tk' F' N' R'; (try k_sweep)))
local macro_rules | `(tactic| walk_at "call type:range") => `(tactic| (k_here; (with_reducible show wpAny _ _ (call (Value.type "range") [Value.int _ _, Value.int _ _]) _ _ _); k_dflt (refine' range2_K ?k1 ?k2 ?_; (case k1 => k_asm); (case k2 => k_asm); k_whole); intro r' h' v' tk' F' N' R'; (try k_sweep)))
local macro_rules | `(tactic| walk_at "room") => `(tactic| first | assumption | omega | ((simp only [depth_in1, depth_deeper, units_in1, units_deeper, Around.mark_units]); omega))

local macro_rules | `(tactic| is_list) => `(tactic| (refine' isList_of ?a ?b; (case a => k_asm); (case b => k_mem)))
local macro_rules | `(tactic| walk_at "call builtin:len") => `(tactic| (k_here; (with_reducible show wpAny _ _ (call (Value.builtin "len") [Value.ref _]) _ _ _); k_dflt (refine' len_L ?k2 ?k3 ?k4 ?_; (case k2 => k_asm); (case k3 => k_mem); (case k4 => walk_at "lens"); k_whole); intro t' tk'; (try k_sweep)))
local macro_rules | `(tactic| walk_at "binaryOp Add ref ref") => `(tactic| (k_here; (with_reducible show wpAny _ _ (binaryOp Operator.Add (Value.ref _) (Value.ref _)) _ _ _); k_dflt (refine' add_L ?k1 ?k2 ?k3 ?k4 ?k5 ?_; (case k1 => k_asm); (case k2 => k_asm); (case k3 => k_mem); (case k4 => k_mem); (case k5 => walk_at "lens"); k_whole); intro r' h' F' N' hl'; (have hl2' := hl'); (try k_lt hl2'); (try k_sweep)))

local macro_rules | `(tactic| walk_at "sub") => `(tactic| first | (refine' List.forall_mem_cons.mpr ⟨?a, ?b⟩; (case a => k_mem); (case b => walk_at "sub")) | (intro p hp; k_mem))

local macro_rules | `(tactic| walk_at "keep") => `(tactic| first | exact keep_base | exact keep_refl | (refine keep_x ?_; walk_at "keep") | (refine keep_upd (by decide) ?_; walk_at "keep") | (refine keep_in (by decide) ?_; walk_at "keep"))

local macro_rules | `(tactic| walk_at "CompSrc") => `(tactic| refine Stopped.out ?_)
local macro_rules | `(tactic| walk_at "my_enterC") => `(tactic| (refine wpAny_call ?_; k_dflt (refine' code_defC ?k1 ?k2 ?k3 ?k4 ?k5 ?kA ?kF ?kK ?k6 ?k7 ?k8 ?k9 ?kB ?kD ?_ ?c2 ?c3 ?c4; (case kA => exact rfl); (case kF => assumption); (case kK => assumption); (case k1 => k_asm); (case k2 => k_asm); (case k3 => k_asm); (case k4 => k_asm); (case k5 => k_asm); (case k6 => k_is); (case k7 => k_is); (case k8 => walk_at "room"); (case k9 => exact BindsTo.of_eq rfl); (case kB => exact rfl); (case kD => decide +kernel); (case c2 => exact rfl); (case c3 => exact rfl); (case c4 => exact rfl); k_whole; intro g' L' h' tk' cells' FG' F' N' Y' B' X' T' l1; k_cells Y'; (try simp only [List.cons_append, List.nil_append] at N'); (try dsimp only); (try k_fold))))

local macro_rules | `(tactic| walk_at "subscriptTail Name Slice ref ref") => `(tactic| (k_here; (with_reducible show wpAny _ _ (subscriptTail _ (PySem.Expr.Slice _ _ _ _) (Value.ref _) (Value.ref _)) _ _ _); k_dflt (refine' slice_LI ?zF ?zN ?zl ?zi ?zp ?zq ?zk ?zo ?zz ?_ ?zs; (case zF => k_asm); (case zN => k_asm); (case zl => k_mem); (case zi => assumption); (case zp => kmk_part); (case zq => kmk_part); (case zk => kmk_part); (case zo => decide); (case zz => walk_at "lens"); (case zs => with_unfolding_all rfl)); intro D' ws' h' F' N' l1 hI' hL'; (have l2' := l1); (try k_lt l2'); (try k_sweep)))
local macro_rules | `(tactic| walk_at "subscriptTail ListComp Slice ref ref") => `(tactic| (k_here; (with_reducible show wpAny _ _ (subscriptTail _ (PySem.Expr.Slice _ _ _ _) (Value.ref _) (Value.ref _)) _ _ _); k_dflt (refine' slice_LI ?zF ?zN ?zl ?zi ?zp ?zq ?zk ?zo ?zz ?_ ?zs; (case zF => k_asm); (case zN => k_asm); (case zl => k_mem); (case zi => assumption); (case zp => kmk_part); (case zq => kmk_part); (case zk => kmk_part); (case zo => decide); (case zz => walk_at "lens"); (case zs => with_unfolding_all rfl)); intro D' ws' h' F' N' l1 hI' hL'; (have l2' := l1); (try k_lt l2'); (try k_sweep)))
local macro_rules | `(tactic| walk_at "subscriptTail Subscript Slice ref ref") => `(tactic| (k_here; (with_reducible show wpAny _ _ (subscriptTail _ (PySem.Expr.Slice _ _ _ _) (Value.ref _) (Value.ref _)) _ _ _); k_dflt (refine' slice_LI ?zF ?zN ?zl ?zi ?zp ?zq ?zk ?zo ?zz ?_ ?zs; (case zF => k_asm); (case zN => k_asm); (case zl => k_mem); (case zi => assumption); (case zp => kmk_part); (case zq => kmk_part); (case zk => kmk_part); (case zo => decide); (case zz => walk_at "lens"); (case zs => with_unfolding_all rfl)); intro D' ws' h' F' N' l1 hI' hL'; (have l2' := l1); (try k_lt l2'); (try k_sweep)))
local macro_rules | `(tactic| walk_at "subscriptTail Attribute Slice ref ref") => `(tactic| (k_here; (with_reducible show wpAny _ _ (subscriptTail _ (PySem.Expr.Slice _ _ _ _) (Value.ref _) (Value.ref _)) _ _ _); k_dflt (refine' slice_LI ?zF ?zN ?zl ?zi ?zp ?zq ?zk ?zo ?zz ?_ ?zs; (case zF => k_asm); (case zN => k_asm); (case zl => k_mem); (case zi => assumption); (case zp => kmk_part); (case zq => kmk_part); (case zk => kmk_part); (case zo => decide); (case zz => walk_at "lens"); (case zs => with_unfolding_all rfl)); intro D' ws' h' F' N' l1 hI' hL'; (have l2' := l1); (try k_lt l2'); (try k_sweep)))
local macro_rules | `(tactic| walk_at "subscriptTail Name Name ref ref") => `(tactic| (k_here; (with_reducible show wpAny _ _ (subscriptTail _ _ (Value.ref _) (Value.ref _)) _ _ _); k_dflt (refine' slice_LI ?zF ?zN ?zl ?zi ?zp ?zq ?zk ?zo ?zz ?_ ?zs; (case zF => k_asm); (case zN => k_asm); (case zl => k_mem); (case zi => assumption); (case zp => kmk_part); (case zq => kmk_part); (case zk => kmk_part); (case zo => decide); (case zz => walk_at "lens"); (case zs => with_unfolding_all rfl)); intro D' ws' h' F' N' l1 hI' hL'; (have l2' := l1); (try k_lt l2'); (try k_sweep)))
local macro_rules | `(tactic| walk_at "subscriptTail Attribute Name ref ref") => `(tactic| (k_here; (with_reducible show wpAny _ _ (subscriptTail _ _ (Value.ref _) (Value.ref _)) _ _ _); k_dflt (refine' slice_LI ?zF ?zN ?zl ?zi ?zp ?zq ?zk ?zo ?zz ?_ ?zs; (case zF => k_asm); (case zN => k_asm); (case zl => k_mem); (case zi => assumption); (case zp => kmk_part); (case zq => kmk_part); (case zk => kmk_part); (case zo => decide); (case zz => walk_at "lens"); (case zs => with_unfolding_all rfl)); intro D' ws' h' F' N' l1 hI' hL'; (have l2' := l1); (try k_lt l2'); (try k_sweep)))

variable {w : World} {mean : ExcName → Option Value} {mg mb : Str → Option Value} {dp un : Nat} {gd : Option (List Code)} {A₀ : Around} {base h₀ : Heap} {env : Env} {outer : List Env} {L : Addr} {m : Str → Option Value} {s : Shared} {Q E : Value → Shared → Prop}
local macro_rules | `(tactic| walk_at "call builtin:list.append") => `(tactic| (k_here; (with_reducible show wpAny _ _ (call (Value.builtin "list.append") [Value.ref _, Value.int _ _]) _ _ _); k_dflt (refine' append_LI ?k1 ?k2 ?k3 ?k4 ?k5 ?_; (case k1 => k_asm); (case k2 => k_asm); (case k3 => k_upd); (case k4 => walk_at "lens"); (case k5 => assumption); k_whole); intro h' F' N' hI'; (try k_sweep)))
local macro_rules | `(tactic| walk_at "subscriptTail Name Slice ref ref") => `(tactic| (k_here; (with_reducible show wpAny _ _ (subscriptTail _ (PySem.Expr.Slice _ _ none _) (Value.ref _) (Value.ref _)) _ _ _); k_dflt (refine' slice_LJ ?zF ?zN ?zl ?zi ?zp ?zq ?zz ?_ ?zs ?zt; (case zF => k_asm); (case zN => k_asm); (case zl => k_mem); (case zi => assumption); (case zp => kmk_part); (case zq => kmk_part); (case zz => walk_at "lens"); (case zs => with_unfolding_all rfl); (case zt => kmk_pure)); intro D' ws' h' F' N' l1 hI' hL'; (have l2' := l1); (try k_lt l2'); (try k_sweep)))
local macro_rules | `(tactic| walk_at "subscriptTail ListComp Slice ref ref") => `(tactic| (k_here; (with_reducible show wpAny _ _ (subscriptTail _ (PySem.Expr.Slice _ _ none _) (Value.ref _) (Value.ref _)) _ _ _); k_dflt (refine' slice_LJ ?zF ?zN ?zl ?zi ?zp ?zq ?zz ?_ ?zs ?zt; (case zF => k_asm); (case zN => k_asm); (case zl => k_mem); (case zi => assumption); (case zp => kmk_part); (case zq => kmk_part); (case zz => walk_at "lens"); (case zs => with_unfolding_all rfl); (case zt => kmk_pure)); intro D' ws' h' F' N' l1 hI' hL'; (have l2' := l1); (try k_lt l2'); (try k_sweep)))
local macro_rules | `(tactic| walk_at "subscriptTail Subscript Slice ref ref") => `(tactic| (k_here; (with_reducible show wpAny _ _ (subscriptTail _ (PySem.Expr.Slice _ _ none _) (Value.ref _) (Value.ref _)) _ _ _); k_dflt (refine' slice_LJ ?zF ?zN ?zl ?zi ?zp ?zq ?zz ?_ ?zs ?zt; (case zF => k_asm); (case zN => k_asm); (case zl => k_mem); (case zi => assumption); (case zp => kmk_part); (case zq => kmk_part); (case zz => walk_at "lens"); (case zs => with_unfolding_all rfl); (case zt => kmk_pure)); intro D' ws' h' F' N' l1 hI' hL'; (have l2' := l1); (try k_lt l2'); (try k_sweep)))
local macro_rules | `(tactic| walk_at "subscriptTail Attribute Slice ref ref") => `(tactic| (k_here; (with_reducible show wpAny _ _ (subscriptTail _ (PySem.Expr.Slice _ _ none _) (Value.ref _) (Value.ref _)) _ _ _); k_dflt (refine' slice_LJ ?zF ?zN ?zl ?zi ?zp ?zq ?zz ?_ ?zs ?zt; (case zF => k_asm); (case zN => k_asm); (case zl => k_mem); (case zi => assumption); (case zp => kmk_part); (case zq => kmk_part); (case zz => walk_at "lens"); (case zs => with_unfolding_all rfl); (case zt => kmk_pure)); intro D' ws' h' F' N' l1 hI' hL'; (have l2' := l1); (try k_lt l2'); (try k_sweep)))
local macro_rules | `(tactic| walk_at "lens") => `(tactic| first | assumption | omega | (simp only [List.flatten_replicate_singleton, List.length_append, List.length_cons, List.length_nil, List.length_map, List.length_range, List.length_replicate, List.length_set]; omega))
local macro_rules | `(tactic| walk_at "sub") => `(tactic| first | exact List.forall_mem_nil _ | (refine' List.forall_mem_cons.mpr ⟨?a, ?b⟩; (case a => k_mem); (case b => walk_at "sub")) | (intro p hp; k_mem))


local macro_rules | `(tactic| walk_at "my_enterD") => `(tactic| (refine wpAny_call ?_; k_dflt (refine' code_def ?k1 ?k2 ?k3 ?k4 ?k5 ?kA ?kF ?kK ?k6 ?k7 ?k8 ?k9 ?kB ?_ ?c2 ?c3 ?c4 ?c5; (case kA => exact rfl); (case kF => assumption); (case kK => assumption); (case k1 => k_asm); (case k2 => k_asm); (case k3 => k_asm); (case k4 => k_asm); (case k5 => k_asm); (case k6 => k_is); (case k7 => k_is); (case k8 => walk_at "room"); (case k9 => exact binds_K (by k_in) rfl (by k_is) rfl rfl rfl); (case c5 => decide); (case kB => exact locs rfl); (case c2 => exact rfl); (case c3 => exact rfl); (case c4 => exact rfl); k_whole; intro g' L' h' FG' F' N' B' X' T'; (try dsimp only); (try k_fold))))
theorem rs_cls : (clsIn (hd.heap_39 w.params) 216).isSome = true := by
  have : ∃ cd, clsIn (hd.heap_39 w.params) 216 = some cd := ⟨_, by k_is⟩
  obtain ⟨cd, h⟩ := this
  rw [h]; rfl
theorem stopCall {M : Model} {A : Around} {f : Value} {args : List Value} {kw : List (Str × Value)} (h : Stopped (wpAny M A (call f args kw) Q E s)) : wpAny M A (call f args kw) Q E s := h.out
section
variable {A : Around} {x dx : Addr} {a b : Int} {ta tb : Tok} {expr : Bool} {name : Str} {g : Addr}
theorem rs_getattr (X : (hd.heap_39 w.params).In s.heap) (hx : s.heap.get? x = some (rsObj dx a ta b tb)) (hdx : s.heap.get? dx = some emptyDict)
    (hf : findObj (hd.heap_39 w.params) 216 (some emptyDict) name = some (.bind (.ref 57) (.ref g)))
    (h : wpAny (model PP w) A.in1 (call (.ref 57) [.ref g, .ref x, .ref 216]) (fun v s' => ∃ k t, v = .int k t ∧ Q v s') (fun _ _ => False) { s with toks := s.toks + 1 }) :
    wpAny (model PP w) A (getAttr (.ref x) name expr) Q E s := by
  have I : InstAt s.heap x (rsObj dx a ta b tb) 216 (some emptyDict) := ⟨hx, rfl, rfl, hdx⟩
  have L0 := I.type (M := model PP w)
  have L1 := looks_findIn (M := model PP w) X (t := .ref 216) (name := "__getattribute__") (r := some (.builtin "tuple.__getattribute__")) (by k_is)
  have L2 := looks_findIn (M := model PP w) X (t := .ref 216) (name := "__getattr__") (r := none) (by k_is)
  have L3 := looks_find (M := model PP w) X I hf
  have s1 := looks_mroIn (M := model PP w) X (C := 216) (base := .type "tuple") (r := true) (by k_is)
  obtain ⟨hh, gg, d, t, os⟩ := s
  have t2 : Looks (model PP w) hh (isInstance (.ref x) (.type "tuple")) true := L0.andThen s1
  unfold getAttr getAttrBy
  repeat lk
  refine wpAny_attempt (wpAny_holding ?_)
  unfold callGetattribute
  rw [show (expr && onTheHeap (Value.builtin "tuple.__getattribute__")) = false by cases expr <;> rfl]
  rw [if_neg (by decide)]
  unfold boundAndCalled
  have b1 : Looks (model PP w) hh (bindSpecial (.builtin "tuple.__getattribute__") (.ref x)) (.builtin "tuple.__getattribute__", [.ref x]) := Looks.of_pure (PySem.F.slot_tuple_getattribute.bind _)
  refine wpAny_bind (b1.at ?_)
  dsimp only
  refine wpAny_call (codeAny_call_builtin (id := "tuple.__getattribute__") (by decide +kernel) (b := Builtin.«object.__getattribute__») PySem.F.entry_tuple_ga ?_)
  refine @check_slot (model PP w) _ _ _ "tuple.__getattribute__" "tuple" "__getattribute__" (.ref x) [.str name t] [] _ (by decide +kernel) (by decide +kernel) t2 (PySem.F.args_tuple_getattribute_2 _ _) ?_
  unfold Builtin.«object.__getattribute__»
  repeat (first | with_reducible refine stopCall ?_ | lk)
  refine ⟨wpAny_mono h (fun v s' z => ?_) fun _ _ z => z.elim⟩
  obtain ⟨k, tk, rfl, hq⟩ := z
  exact wpAny_pure (wpAny_pure hq)
end

section
variable {A : Around} {x dx : Addr} {a b : Int} {ta tb : Tok} {news : List (Addr × Obj)}
theorem rs_type (N : News h₀ L s.heap news) (hx : (x, rsObj dx a ta b tb) ∈ news) (hdx : (dx, emptyDict) ∈ news) (h : Q (.ref 216) s) : wpAny (model PP w) A (call (.type "type") [.ref x]) Q E s :=
  kto_own (ox := rsObj dx a ta b tb) (od := some emptyDict) ⟨(N _ hx).1, rfl, rfl, (N _ hdx).1⟩ h
theorem rs_subM (w : World) : Meets (Builtin.«issubclass» ⟨[.ref 216, .type "tuple"], []⟩) (fun _ R s => (hd.heap_39 w.params).In s.heap ∧ R (.ok (.ret (.bool true))) s) := by
  intro prog w' A R s hs
  obtain ⟨X, h⟩ := hs
  have hC := X 216 _ rfl
  have s1 := looks_mroIn (M := model prog w') X (C := 216) (base := .type "tuple") (r := true) (by k_is)
  obtain ⟨hh, g, d, t, os⟩ := s
  have y1 : Looks (model prog w') hh (isType (.ref 216)) true := (Looks.ld (part := none) hC).andThen .now
  have y2 : Looks (model prog w') hh (isType (.type "tuple")) true := Looks.of_pure (by kernel_rfl)
  have y3 : Looks (model prog w') hh (typeOf (.type "tuple")) (.type "type") := Looks.of_pure meta_tupleZ
  refine issubclass_outer ?_
  unfold Builtin.«issubclass.nested»
  k_delta "plainIsSubclass"
  repeat lk
  exact h
theorem rs_sub (F : Fr h₀ L s.heap m) (X₀ : (hd.heap_39 w.params).In h₀) (h : Q (.bool true) s) : wpAny (model PP w) A (call (.builtin "issubclass") [.ref 216, .type "tuple"]) Q E s :=
  call_issubclass (rs_subM w) ⟨X₀.keeps F.keep, h⟩
theorem rs_item (F : Fr h₀ L s.heap m) (X₀ : (hd.heap_39 w.params).In h₀) (N : News h₀ L s.heap news) (hx : (x, rsObj dx a ta b tb) ∈ news) {i : Int} {ti : Tok} (hi : i = 0 ∨ i = 1) (h : Q (if i = 0 then .int a ta else .int b tb) s) : wpAny (model PP w) A (call (.builtin "tuple.__getitem__") [.ref x, .int i ti]) Q E s := by
  have X := X₀.keeps F.keep
  have hX := (N _ hx).1
  have s1 := looks_mroIn (M := model PP w) X (C := 216) (base := .type "tuple") (r := true) (by k_is)
  obtain ⟨hh, g, d, t, os⟩ := s
  have L0 : Looks (model PP w) hh (typeOf (.ref x)) (.ref 216) := (Looks.ld hX).andThen .now
  have t2 : Looks (model PP w) hh (isInstance (.ref x) (.type "tuple")) true := L0.andThen s1
  refine wpAny_call (codeAny_call_builtin (id := "tuple.__getitem__") (by decide +kernel) PySem.F.entry_tuple_getitem ?_)
  refine @check_slot (model PP w) _ _ _ "tuple.__getitem__" "tuple" "__getitem__" (.ref x) [.int i ti] [] _ (by decide +kernel) (by decide +kernel) t2 (PySem.F.args_tuple_getitem_2 _ _) ?_
  unfold Builtin.«tuple.__getitem__»
  rcases hi with rfl | rfl
  · repeat lk
    exact h
  · repeat lk
    exact h
end
local macro_rules | `(tactic| walk_at "getMethod type:tuple") => `(tactic| (k_here; refine' method_type ?F ?X ?m (by decide +kernel) ?e ?h ?_; (case F => k_asm); (case X => k_asm); (case m => exact meta_tupleZ); (case e => k_dflt k_is); (case h => k_handed)))
local macro_rules | `(tactic| walk_at "call type:type") => `(tactic| (k_here; (with_reducible show wpAny _ _ (call (Value.type "type") [Value.ref _]) _ _ _); k_dflt (refine' rs_type ?zN ?zx ?zd ?_; (case zN => k_asm); (case zx => k_mem); (case zd => k_mem); k_whole)))
local macro_rules | `(tactic| walk_at "call builtin:issubclass") => `(tactic| (k_here; (with_reducible show wpAny _ _ (call (Value.builtin "issubclass") [Value.ref _, Value.type _]) _ _ _); k_dflt (refine' rs_sub ?zF ?zX ?_; (case zF => k_asm); (case zX => k_asm); k_whole)))
local macro_rules | `(tactic| walk_at "call builtin:tuple.__getitem__") => `(tactic| (k_here; (with_reducible show wpAny _ _ (call (Value.builtin "tuple.__getitem__") [Value.ref _, Value.int _ _]) _ _ _); k_dflt (refine' rs_item ?zF ?zX ?zN ?zx ?zi ?_; (case zF => k_asm); (case zX => k_asm); (case zN => k_asm); (case zx => k_mem); (case zi => decide); k_whole)))
set_option maxHeartbeats 1600000 in
theorem rs_get1 {news : List (Addr × Obj)} {x dx : Addr} {a b : Int} {ta tb : Tok} {expr : Bool}
  (B : Below A₀ base outer h₀) (F : Fr h₀ L s.heap m) (X : (hd.heap_39 w.params).In h₀) (N : News h₀ L s.heap news) (T : TopM mean mg mb h₀)
  (hf : env.frame = some L) (hk : env.scope.kind = .function) (hroom : dp + 2 < recursionLimit) (hun : un + 9 < cLine)
  (hx : (x, rsObj dx a ta b tb) ∈ news) (hdx : (dx, emptyDict) ∈ news)
  (hret : ∀ (h' : Heap) (tk' : Nat) (t : Tok), Fr h₀ L h' m → News h₀ L h' news → Q (.int b t) { s with heap := h', toks := tk' }) :
  wpAny (model PP w) (AA dp un gd env outer) (getAttr (.ref x) (Str.ofString "data_count") expr) Q E s := by
  refine rs_getattr (g := 211) (X.keeps F.keep) (N _ hx).1 (N _ hdx).1 (findObj_data rs_cls (by k_is) (by k_is) (by k_is)) ?_
  rw [show (AA dp un gd env outer).in1 = AA dp (un + 1) gd env outer from rfl]
  walk_at "my_enterD"
  walk_at "my_steps"
  rename Fr h₀ L _ m => kF
  rename News h₀ L _ _ => kN
  exact hret _ _ _ kF kN
set_option maxHeartbeats 1600000 in
theorem rs_get0 {news : List (Addr × Obj)} {x dx : Addr} {a b : Int} {ta tb : Tok} {expr : Bool}
  (B : Below A₀ base outer h₀) (F : Fr h₀ L s.heap m) (X : (hd.heap_39 w.params).In h₀) (N : News h₀ L s.heap news) (T : TopM mean mg mb h₀)
  (hf : env.frame = some L) (hk : env.scope.kind = .function) (hroom : dp + 2 < recursionLimit) (hun : un + 9 < cLine)
  (hx : (x, rsObj dx a ta b tb) ∈ news) (hdx : (dx, emptyDict) ∈ news)
  (hret : ∀ (h' : Heap) (tk' : Nat) (t : Tok), Fr h₀ L h' m → News h₀ L h' news → Q (.int a t) { s with heap := h', toks := tk' }) :
  wpAny (model PP w) (AA dp un gd env outer) (getAttr (.ref x) (Str.ofString "total_count") expr) Q E s := by
  refine rs_getattr (g := 208) (X.keeps F.keep) (N _ hx).1 (N _ hdx).1 (findObj_data rs_cls (by k_is) (by k_is) (by k_is)) ?_
  rw [show (AA dp un gd env outer).in1 = AA dp (un + 1) gd env outer from rfl]
  walk_at "my_enterD"
  walk_at "my_steps"
  rename Fr h₀ L _ m => kF
  rename News h₀ L _ _ => kN
  exact hret _ _ _ kF kN

end Mine
end

theorem Mine.anew_W22 : 1 = 1 := by
  w_top off
  first | walk1 | rfl

/-! part W22 -/
section
open PySem PySem.W PyProof.Rows PySem.Calls PySem.Spec
set_option Elab.async false
namespace Mine
set_option maxRecDepth 100000
/-! the words for mending, as the text reckons them -/
def LUT7 : List Int := [1, 127, 122, 154, 164, 11, 68, 117]
def LUT10 : List Int := [1, 216, 194, 159, 111, 199, 94, 95, 113, 157, 193]
def genZ : Nat → List Int
  | 0 => polyZ [1] 0
  | i + 1 => mulP (genZ i) (polyZ [1, gexpZ (i : Int)] 0)
def genP (e : Nat) : List Int := if e = 7 then LUT7 else if e = 10 then LUT10 else genZ e
def ecs (m : List Int) (e i : Nat) : List Int := (List.range i).map fun (k : Nat) => if 0 ≤ (k : Int) + ((m.length : Int) - e) then m.getD ((k : Int) + ((m.length : Int) - e)).toNat 0 else 0
def modM (e : Nat) (row : List Int) : List Int := modP 15 (polyZ row e) (genP e)
def ecZ (e : Nat) (row : List Int) : List Int := ecs (modM e row) e e
def okE (e : Nat) : Bool := [2, 3, 4, 5, 6, 7, 8, 10].contains e
def goodRow (l : List Int) : Bool := l.all fun k => decide (1 ≤ k) && decide (k < 256)
theorem goodRow_is {l : List Int} (h : goodRow l = true) : ∀ k ∈ l, 1 ≤ k ∧ k < 256 := fun k hk => by
  have := List.all_eq_true.mp h k hk
  simpa using this
theorem genZ_good : ∀ i : Nat, i ≤ 10 → goodRow (genZ i) = true ∧ (genZ i).length = i + 1 := by
  have key : ∀ i : Nat, i < 11 → (goodRow (genZ i) && decide ((genZ i).length = i + 1)) = true := by decide +kernel
  intro i hi
  have := key i (by omega)
  simpa using this
theorem genP_good {e : Nat} (h : okE e = true) : goodRow (genP e) = true ∧ (genP e).length = e + 1 ∧ 2 ≤ e ∧ e ≤ 10 := by
  have key : ∀ i : Nat, i < 11 → okE i = true → (goodRow (genP i) && decide ((genP i).length = i + 1) && decide (2 ≤ i)) = true := by decide +kernel
  have h10 : e < 11 := by
    unfold okE at h
    simp at h
    omega
  have := key e h10 h
  simp only [Bool.and_eq_true, decide_eq_true_eq] at this
  exact ⟨this.1.1, this.1.2, this.2, by omega⟩
/-- rows lie in the ledger behind a list of references -/
inductive RowsIn (news : List (Addr × Obj)) : List Value → List (List Int) → Prop where
  | nil : RowsIn news [] []
  | cons {a : Addr} {vs : List Value} {n : Nat} {r : List Int} {l : List Value} {rs : List (List Int)} : (a, W.listOf vs.toArray n) ∈ news → IntsAre vs r → RowsIn news l rs → RowsIn news (.ref a :: l) (r :: rs)
theorem RowsIn.mono {news news' : List (Addr × Obj)} {l : List Value} {rs : List (List Int)} (h : RowsIn news l rs) (hs : ∀ p ∈ news, p ∈ news') : RowsIn news' l rs := by
  induction h with
  | nil => exact .nil
  | cons a b _ ih => exact .cons (hs _ a) b ih
theorem RowsIn.length {news : List (Addr × Obj)} {l : List Value} {rs : List (List Int)} (h : RowsIn news l rs) : l.length = rs.length := by
  induction h with
  | nil => rfl
  | cons a b _ ih => simp [ih]
theorem RowsIn.snoc {news : List (Addr × Obj)} {l : List Value} {rs : List (List Int)} (h : RowsIn news l rs) {a : Addr} {vs : List Value} {n : Nat} {r : List Int} (ha : (a, W.listOf vs.toArray n) ∈ news) (hi : IntsAre vs r) : RowsIn news (l ++ [.ref a]) (rs ++ [r]) := by
  induction h with
  | nil => exact .cons ha hi .nil
  | cons a b _ ih => exact .cons a b ih
theorem RowsIn.get {news : List (Addr × Obj)} {l : List Value} {rs : List (List Int)} (h : RowsIn news l rs) : ∀ {i : Nat} {v : Value}, l[i]? = some v → ∃ a vs n r, v = .ref a ∧ rs[i]? = some r ∧ (a, W.listOf vs.toArray n) ∈ news ∧ IntsAre vs r := by
  induction h with
  | nil => intro i v e; simp at e
  | cons a b _ ih =>
    intro i v e
    cases i with
    | zero => exact ⟨_, _, _, _, by simpa using e.symm, rfl, a, b⟩
    | succ i => exact ih (by simpa using e)
abbrev rsObj' (dx : Addr) (a : Int) (ta : Tok) (b : Int) (tb : Tok) : Obj := { cls := .ref 216, dict := some dx, data := .seq #[.int a ta, .int b tb] }
/-- the blocks' tuples lie in the ledger -/
inductive BlkIn (news : List (Addr × Obj)) (e : Nat) : List Value → List (List Int) → Prop where
  | nil : BlkIn news e [] []
  | cons {x dx : Addr} {ta tb : Tok} {r : List Int} {l : List Value} {rs : List (List Int)} : (x, rsObj' dx ((r.length : Int) + e) ta r.length tb) ∈ news → (dx, emptyDict) ∈ news → BlkIn news e l rs → BlkIn news e (.ref x :: l) (r :: rs)
theorem BlkIn.mono {news news' : List (Addr × Obj)} {e : Nat} {l : List Value} {rs : List (List Int)} (h : BlkIn news e l rs) (hs : ∀ p ∈ news, p ∈ news') : BlkIn news' e l rs := by
  induction h with
  | nil => exact .nil
  | cons a b _ ih => exact .cons (hs _ a) (hs _ b) ih
theorem BlkIn.length {news : List (Addr × Obj)} {e : Nat} {l : List Value} {rs : List (List Int)} (h : BlkIn news e l rs) : l.length = rs.length := by
  induction h with
  | nil => rfl
  | cons a b _ ih => simp [ih]
theorem BlkIn.snoc {news : List (Addr × Obj)} {e : Nat} {l : List Value} {rs : List (List Int)} (h : BlkIn news e l rs) {x dx : Addr} {ta tb : Tok} {r : List Int} (ha : (x, rsObj' dx ((r.length : Int) + e) ta r.length tb) ∈ news) (hb : (dx, emptyDict) ∈ news) : BlkIn news e (l ++ [.ref x]) (rs ++ [r]) := by
  induction h with
  | nil => exact .cons ha hb .nil
  | cons a b _ ih => exact .cons a b ih
theorem BlkIn.get {news : List (Addr × Obj)} {e : Nat} {l : List Value} {rs : List (List Int)} (h : BlkIn news e l rs) : ∀ {i : Nat} {v : Value}, l[i]? = some v → ∃ x dx ta tb r, v = .ref x ∧ rs[i]? = some r ∧ (x, rsObj' dx ((r.length : Int) + e) ta r.length tb) ∈ news ∧ (dx, emptyDict) ∈ news := by
  induction h with
  | nil => intro i v e; simp at e
  | cons a b _ ih =>
    intro i v e
    cases i with
    | zero => exact ⟨_, _, _, _, _, by simpa using e.symm, rfl, a, b⟩
    | succ i => exact ih (by simpa using e)
/-- the words of all rows, dealt out -/
def dealRow (rs : List (List Int)) (i : Nat) : List Int := rs.flatMap fun r => if i < r.length then [r.getD i 0] else []
def dealOut (rs : List (List Int)) (n : Nat) : List Int := (List.range n).flatMap (dealRow rs)
def maxLen (rs : List (List Int)) : Nat := rs.foldl (fun m r => max m r.length) 0
theorem dealOut_succ (rs : List (List Int)) (n : Nat) : dealOut rs (n + 1) = dealOut rs n ++ dealRow rs n := by
  unfold dealOut; rw [List.range_succ, List.flatMap_append]; simp
theorem dealRow_len {rs : List (List Int)} {i : Nat} : (dealRow rs i).length ≤ rs.length := by
  unfold dealRow
  induction rs with
  | nil => exact Nat.le_refl _
  | cons r rs ih => rw [List.flatMap_cons, List.length_append, List.length_cons]; split <;> (simp only [List.length_cons, List.length_nil]; omega)
theorem dealOut_len {rs : List (List Int)} (n : Nat) : (dealOut rs n).length ≤ n * rs.length := by
  induction n with
  | zero => simp [dealOut]
  | succ n ih => rw [dealOut_succ, List.length_append, Nat.succ_mul]; have := dealRow_len (rs := rs) (i := n); omega
end Mine
end

theorem Mine.anew_W24 : 1 = 1 := by
  w_top off
  first | walk1 | rfl

/-! part W24 -/
section
open PySem PySem.W PyProof.Rows PySem.Calls PySem.Spec
set_option Elab.async false
namespace Mine
set_option maxRecDepth 100000
theorem fill_W24 {w : World} {h : Heap} : (hd.heap_39 w.params).In h → Challenge.rw_bj0062_01.row.prog = Challenge.rw_bj0062_01.row.prog := by
  k_fill
  intro _
  rfl
local macro_rules | `(tactic| walk_at "my_enter") => `(tactic| (refine wpAny_call ?_; k_dflt (refine' code_def ?k1 ?k2 ?k3 ?k4 ?k5 ?kA ?kF ?kK ?k6 ?k7 ?k8 ?k9 ?kB ?_ ?c2 ?c3 ?c4 ?c5; (case kA => exact rfl); (case kF => assumption); (case kK => assumption); (case k1 => k_asm); (case k2 => k_asm); (case k3 => k_asm); (case k4 => k_asm); (case k5 => k_asm); (case k6 => k_is); (case k7 => k_is); (case k8 => walk_at "room"); (case k9 => exact BindsTo.of_eq rfl); (case c5 => decide); (case kB => exact locs rfl); (case c2 => exact rfl); (case c3 => exact rfl); (case c4 => exact rfl); k_whole; intro g' L' h' FG' F' N' B' X' T'; (try dsimp only); (try k_fold))))
local macro_rules | `(tactic| walk_at "my_steps") => `(tactic| repeat' (first | (k_unfold; (try dsimp only)) | walk1 | (dsimp only; walk1)))
local macro_rules | `(tactic| walk_at "setItem ref int") => `(tactic| (k_here; (with_reducible show wpAny _ _ (setItem (Value.ref _) (Value.int _ _) _) _ _ _); k_dflt (refine' set_listK ?k1 ?k2 ?k3 ?k5 ?k6 ?k7 ?_; (case k1 => k_asm); (case k2 => k_asm); (case k3 => k_upd); (case k5 => first | omega | ksa_idx); (case k6 => first | omega | (simp; done) | (simp; omega)); (case k7 => first | omega | ksa_idx); k_whole); intro h' F' N'; (try k_sweep)))
local macro_rules | `(tactic| k_ne) => `(tactic| first | assumption | exact Ne.symm (by assumption) | (refine neN ?_; (try dsimp only); omega))
local macro_rules | `(tactic| k_all) => `(tactic| first | assumption | exact lt_all_ne (by assumption) | exact lt_all_sub (by assumption) (by walk_at "sub") | exact ne_all_sub (by assumption) (by walk_at "sub") | exact allLt_ne (by assumption) | exact allLt_ne (And.right (by assumption)) | exact allLt_ne (And.right (And.right (by assumption))) | exact allLt_ne (And.right (And.right (And.right (by assumption)))) | exact allLt_ne (And.right (And.right (And.right (And.right (by assumption))))) | exact allLt_ne (And.right (And.right (And.right (And.right (And.right (by assumption)))))) | exact allLt_ne (And.right (And.right (And.right (And.right (And.right (And.right (by assumption))))))) | exact allLt_ne (And.right (And.right (And.right (And.right (And.right (And.right (And.right (by assumption)))))))) | exact allLt_ne (And.right (And.right (And.right (And.right (And.right (And.right (And.right (And.right (by assumption))))))))) | exact allLt_ne (And.right (And.right (And.right (And.right (And.right (And.right (And.right (And.right (And.right (by assumption)))))))))) | exact lt_all_off (by assumption) (by omega) | exact off1_sub (by assumption) (by walk_at "sub") | exact List.forall_mem_nil _ | (refine' List.forall_mem_cons.mpr ⟨?a, ?b⟩; (case a => k_ne); (case b => k_all)))
local macro_rules | `(tactic| walk_at "call builtin:list.append") => `(tactic| (k_here; (with_reducible show wpAny _ _ (call (Value.builtin "list.append") [Value.ref _, _]) _ _ _); k_dflt (refine' append_L ?k1 ?k2 ?k3 ?k4 ?_; (case k1 => k_asm); (case k2 => k_asm); (case k3 => k_upd); (case k4 => walk_at "lens"); k_whole); intro h' F' N'; (try k_sweep)))
local macro_rules | `(tactic| walk_at "lens") => `(tactic| first | assumption | omega | (simp only [List.length_append, List.length_cons, List.length_nil, List.length_map, List.length_range, List.length_replicate, List.length_set]; omega))
local macro_rules | `(tactic| walk_at "ints") => `(tactic| first | omega | (simp only [decide_eq_true_eq, decide_eq_false_iff_not, Bool.not_eq_true, beq_iff_eq, beq_eq_false_iff_ne, ne_eq] at *; omega) | (trace_state; fail "ints"))
local macro_rules | `(tactic| walk_at "fld_in") => `(tactic| first | assumption | exact FieldIn.tail (by assumption) | exact FieldIn.tail (FieldIn.tail (by assumption)) | exact FieldIn.tail (FieldIn.tail (FieldIn.tail (by assumption))) | exact FieldIn.tail (FieldIn.tail (FieldIn.tail (FieldIn.tail (by assumption)))) | exact FieldIn.tail (FieldIn.tail (FieldIn.tail (FieldIn.tail (FieldIn.tail (by assumption))))) | exact FieldIn.tail (FieldIn.tail (FieldIn.tail (FieldIn.tail (FieldIn.tail (FieldIn.tail (by assumption)))))) | exact FieldIn.tail (FieldIn.tail (FieldIn.tail (FieldIn.tail (FieldIn.tail (FieldIn.tail (FieldIn.tail (by assumption))))))) | exact FieldIn.tail (FieldIn.tail (FieldIn.tail (FieldIn.tail (FieldIn.tail (FieldIn.tail (FieldIn.tail (FieldIn.tail (by assumption)))))))) | exact FieldIn.tail (FieldIn.tail (FieldIn.tail (FieldIn.tail (FieldIn.tail (FieldIn.tail (FieldIn.tail (FieldIn.tail (FieldIn.tail (by assumption))))))))) | exact FieldIn.tail (FieldIn.tail (FieldIn.tail (FieldIn.tail (FieldIn.tail (FieldIn.tail (FieldIn.tail (FieldIn.tail (FieldIn.tail (FieldIn.tail (by assumption)))))))))) | exact FieldIn.tail (FieldIn.tail (FieldIn.tail (FieldIn.tail (FieldIn.tail (FieldIn.tail (FieldIn.tail (FieldIn.tail (FieldIn.tail (FieldIn.tail (FieldIn.tail (by assumption))))))))))) | exact FieldIn.tail (FieldIn.tail (FieldIn.tail (FieldIn.tail (FieldIn.tail (FieldIn.tail (FieldIn.tail (FieldIn.tail (FieldIn.tail (FieldIn.tail (FieldIn.tail (FieldIn.tail (by assumption)))))))))))))
local macro_rules | `(tactic| k_mem) => `(tactic| first | assumption | exact List.Mem.head _ | (refine' List.Mem.tail _ ?_; k_mem))
local macro_rules | `(tactic| walk_at "subscriptTail") => `(tactic| (k_here; (with_reducible show wpAny _ _ (subscriptTail _ _ (Value.ref _) (Value.int 0 _)) _ _ _); k_dflt (refine' fld_0 ?k1 ?k2 ?_ ?k4; (case k1 => k_asm); (case k2 => walk_at "fld_in"); (case k4 => with_unfolding_all rfl); k_whole)))
local macro_rules | `(tactic| walk_at "subscriptTail Name Constant ref int") => `(tactic| (k_here; (with_reducible show wpAny _ _ (subscriptTail _ _ (Value.ref _) (Value.int 0 _)) _ _ _); k_dflt (refine' fld_0 ?k1 ?k2 ?_ ?k4; (case k1 => k_asm); (case k2 => walk_at "fld_in"); (case k4 => with_unfolding_all rfl); k_whole)))
local macro_rules | `(tactic| walk_at "subscriptTail") => `(tactic| (k_here; (with_reducible show wpAny _ _ (subscriptTail _ _ (Value.ref _) (Value.int 1 _)) _ _ _); k_dflt (refine' fld_1 ?k1 ?k2 ?_ ?k4; (case k1 => k_asm); (case k2 => walk_at "fld_in"); (case k4 => with_unfolding_all rfl); k_whole)))
local macro_rules | `(tactic| walk_at "subscriptTail Name Constant ref int") => `(tactic| (k_here; (with_reducible show wpAny _ _ (subscriptTail _ _ (Value.ref _) (Value.int 1 _)) _ _ _); k_dflt (refine' fld_1 ?k1 ?k2 ?_ ?k4; (case k1 => k_asm); (case k2 => walk_at "fld_in"); (case k4 => with_unfolding_all rfl); k_whole)))
local macro_rules | `(tactic| walk_at "subscriptTail") => `(tactic| (k_here; (with_reducible show wpAny _ _ (subscriptTail _ _ (Value.ref _) (Value.int _ _)) _ _ _); k_dflt (refine' fld_pow ?k1 ?k2 ?k5 ?k6 ?_ ?k4; (case k1 => k_asm); (case k2 => walk_at "fld_in"); (case k5 => first | omega | exact (fmod255 _).1); (case k6 => first | omega | exact (fmod255 _).2); (case k4 => with_unfolding_all rfl); k_whole); intro _))
local macro_rules | `(tactic| walk_at "subscriptTail Subscript Name Constant BinOp ref int") => `(tactic| (k_here; (with_reducible show wpAny _ _ (subscriptTail _ _ (Value.ref _) (Value.int _ _)) _ _ _); k_dflt (refine' fld_pow ?k1 ?k2 ?k5 ?k6 ?_ ?k4; (case k1 => k_asm); (case k2 => walk_at "fld_in"); (case k5 => first | omega | exact (fmod255 _).1); (case k6 => first | omega | exact (fmod255 _).2); (case k4 => with_unfolding_all rfl); k_whole); intro _))
local macro_rules | `(tactic| walk_at "subscriptTail Subscript Name Constant Name ref int") => `(tactic| (k_here; (with_reducible show wpAny _ _ (subscriptTail _ _ (Value.ref _) (Value.int _ _)) _ _ _); k_dflt (refine' fld_pow ?k1 ?k2 ?k5 ?k6 ?_ ?k4; (case k1 => k_asm); (case k2 => walk_at "fld_in"); (case k5 => first | omega | exact (fmod255 _).1); (case k6 => first | omega | exact (fmod255 _).2); (case k4 => with_unfolding_all rfl); k_whole); intro _))
local macro_rules | `(tactic| walk_at "subscriptTail Subscript Name Constant Subscript ref int") => `(tactic| (k_here; (with_reducible show wpAny _ _ (subscriptTail _ _ (Value.ref _) (Value.int _ _)) _ _ _); k_dflt (refine' fld_pow ?k1 ?k2 ?k5 ?k6 ?_ ?k4; (case k1 => k_asm); (case k2 => walk_at "fld_in"); (case k5 => first | omega | exact (fmod255 _).1); (case k6 => first | omega | exact (fmod255 _).2); (case k4 => with_unfolding_all rfl); k_whole); intro _))
local macro_rules | `(tactic| walk_at "subscriptTail") => `(tactic| (k_here; (with_reducible show wpAny _ _ (subscriptTail _ _ (Value.ref _) (Value.int _ _)) _ _ _); k_dflt (refine' fld_log ?k1 ?k2 ?k5 ?k6 ?_ ?k4; (case k1 => k_asm); (case k2 => walk_at "fld_in"); (case k5 => walk_at "ints"); (case k6 => walk_at "ints"); (case k4 => with_unfolding_all rfl); k_whole); intro _))
local macro_rules | `(tactic| walk_at "subscriptTail Subscript Name Constant BinOp ref int") => `(tactic| (k_here; (with_reducible show wpAny _ _ (subscriptTail _ _ (Value.ref _) (Value.int _ _)) _ _ _); k_dflt (refine' fld_log ?k1 ?k2 ?k5 ?k6 ?_ ?k4; (case k1 => k_asm); (case k2 => walk_at "fld_in"); (case k5 => walk_at "ints"); (case k6 => walk_at "ints"); (case k4 => with_unfolding_all rfl); k_whole); intro _))
local macro_rules | `(tactic| walk_at "subscriptTail Subscript Name Constant Name ref int") => `(tactic| (k_here; (with_reducible show wpAny _ _ (subscriptTail _ _ (Value.ref _) (Value.int _ _)) _ _ _); k_dflt (refine' fld_log ?k1 ?k2 ?k5 ?k6 ?_ ?k4; (case k1 => k_asm); (case k2 => walk_at "fld_in"); (case k5 => walk_at "ints"); (case k6 => walk_at "ints"); (case k4 => with_unfolding_all rfl); k_whole); intro _))
local macro_rules | `(tactic| walk_at "subscriptTail Subscript Name Constant Subscript ref int") => `(tactic| (k_here; (with_reducible show wpAny _ _ (subscriptTail _ _ (Value.ref _) (Value.int _ _)) _ _ _); k_dflt (refine' fld_log ?k1 ?k2 ?k5 ?k6 ?_ ?k4; (case k1 => k_asm); (case k2 => walk_at "fld_in"); (case k5 => walk_at "ints"); (case k6 => walk_at "ints"); (case k4 => with_unfolding_all rfl); k_whole); intro _))

local macro_rules | `(tactic| walk_at "pyIter ref") => `(tactic| ((with_reducible show wpAny _ _ (pyIter (Value.ref _)) (fun it s₂ => LoopAtV _ _ _ _ _ _ _ _ _ it s₂) _ _); refine Stopped.out ?_))
local macro_rules | `(tactic| walk_at "exec For Name Call cons nil") => `(tactic| (k_here; (rename Fr _ _ _ _ => lF'); (with_unfolding_all refine' For_invVF lF' ?k1 ?k2 ?_; (case k1 => exact rfl); (case k2 => exact rfl); k_whole)))
local macro_rules | `(tactic| walk_at "exec For Name Name cons nil") => `(tactic| (k_here; (rename Fr _ _ _ _ => lF'); (with_unfolding_all refine' For_invVF lF' ?k1 ?k2 ?_; (case k1 => exact rfl); (case k2 => exact rfl); k_whole)))
local macro_rules | `(tactic| walk_at "call type:range") => `(tactic| (k_here; (with_reducible show wpAny _ _ (call (Value.type "range") [Value.int _ _]) _ _ _); k_dflt (refine' range1_K ?k1 ?k2 ?_; (case k1 => k_asm); (case k2 => k_asm); k_whole); intro r' h' u' v' tk' F' N' R'; (try k_sweep)))
local macro_rules | `(tactic| walk_at "call type:range") => `(tactic| (k_here; (with_reducible show wpAny _ _ (call (Value.type "range") [Value.int _ _, Value.int _ _]) _ _ _); k_dflt (refine' range2_K ?k1 ?k2 ?_; (case k1 => k_asm); (case k2 => k_asm); k_whole); intro r' h' v' tk' F' N' R'; (try k_sweep)))
local macro_rules | `(tactic| walk_at "room") => `(tactic| first | assumption | omega | ((simp only [depth_in1, depth_deeper, units_in1, units_deeper, Around.mark_units]); omega))

local macro_rules | `(tactic| is_list) => `(tactic| (refine' isList_of ?a ?b; (case a => k_asm); (case b => k_mem)))
local macro_rules | `(tactic| walk_at "call builtin:len") => `(tactic| (k_here; (with_reducible show wpAny _ _ (call (Value.builtin "len") [Value.ref _]) _ _ _); k_dflt (refine' len_L ?k2 ?k3 ?k4 ?_; (case k2 => k_asm); (case k3 => k_mem); (case k4 => walk_at "lens"); k_whole); intro t' tk'; (try k_sweep)))
local macro_rules | `(tactic| walk_at "binaryOp Add ref ref") => `(tactic| (k_here; (with_reducible show wpAny _ _ (binaryOp Operator.Add (Value.ref _) (Value.ref _)) _ _ _); k_dflt (refine' add_L ?k1 ?k2 ?k3 ?k4 ?k5 ?_; (case k1 => k_asm); (case k2 => k_asm); (case k3 => k_mem); (case k4 => k_mem); (case k5 => walk_at "lens"); k_whole); intro r' h' F' N' hl'; (have hl2' := hl'); (try k_lt hl2'); (try k_sweep)))

local macro_rules | `(tactic| walk_at "sub") => `(tactic| first | (refine' List.forall_mem_cons.mpr ⟨?a, ?b⟩; (case a => k_mem); (case b => walk_at "sub")) | (intro p hp; k_mem))

local macro_rules | `(tactic| walk_at "keep") => `(tactic| first | exact keep_base | exact keep_refl | (refine keep_x ?_; walk_at "keep") | (refine keep_upd (by decide) ?_; walk_at "keep") | (refine keep_in (by decide) ?_; walk_at "keep"))

local macro_rules | `(tactic| walk_at "CompSrc") => `(tactic| refine Stopped.out ?_)
local macro_rules | `(tactic| walk_at "my_enterC") => `(tactic| (refine wpAny_call ?_; k_dflt (refine' code_defC ?k1 ?k2 ?k3 ?k4 ?k5 ?kA ?kF ?kK ?k6 ?k7 ?k8 ?k9 ?kB ?kD ?_ ?c2 ?c3 ?c4; (case kA => exact rfl); (case kF => assumption); (case kK => assumption); (case k1 => k_asm); (case k2 => k_asm); (case k3 => k_asm); (case k4 => k_asm); (case k5 => k_asm); (case k6 => k_is); (case k7 => k_is); (case k8 => walk_at "room"); (case k9 => exact BindsTo.of_eq rfl); (case kB => exact rfl); (case kD => decide +kernel); (case c2 => exact rfl); (case c3 => exact rfl); (case c4 => exact rfl); k_whole; intro g' L' h' tk' cells' FG' F' N' Y' B' X' T' l1; k_cells Y'; (try simp only [List.cons_append, List.nil_append] at N'); (try dsimp only); (try k_fold))))

local macro_rules | `(tactic| walk_at "subscriptTail Name Slice ref ref") => `(tactic| (k_here; (with_reducible show wpAny _ _ (subscriptTail _ (PySem.Expr.Slice _ _ _ _) (Value.ref _) (Value.ref _)) _ _ _); k_dflt (refine' slice_LI ?zF ?zN ?zl ?zi ?zp ?zq ?zk ?zo ?zz ?_ ?zs; (case zF => k_asm); (case zN => k_asm); (case zl => k_mem); (case zi => assumption); (case zp => kmk_part); (case zq => kmk_part); (case zk => kmk_part); (case zo => decide); (case zz => walk_at "lens"); (case zs => with_unfolding_all rfl)); intro D' ws' h' F' N' l1 hI' hL'; (have l2' := l1); (try k_lt l2'); (try k_sweep)))
local macro_rules | `(tactic| walk_at "subscriptTail ListComp Slice ref ref") => `(tactic| (k_here; (with_reducible show wpAny _ _ (subscriptTail _ (PySem.Expr.Slice _ _ _ _) (Value.ref _) (Value.ref _)) _ _ _); k_dflt (refine' slice_LI ?zF ?zN ?zl ?zi ?zp ?zq ?zk ?zo ?zz ?_ ?zs; (case zF => k_asm); (case zN => k_asm); (case zl => k_mem); (case zi => assumption); (case zp => kmk_part); (case zq => kmk_part); (case zk => kmk_part); (case zo => decide); (case zz => walk_at "lens"); (case zs => with_unfolding_all rfl)); intro D' ws' h' F' N' l1 hI' hL'; (have l2' := l1); (try k_lt l2'); (try k_sweep)))
local macro_rules | `(tactic| walk_at "subscriptTail Subscript Slice ref ref") => `(tactic| (k_here; (with_reducible show wpAny _ _ (subscriptTail _ (PySem.Expr.Slice _ _ _ _) (Value.ref _) (Value.ref _)) _ _ _); k_dflt (refine' slice_LI ?zF ?zN ?zl ?zi ?zp ?zq ?zk ?zo ?zz ?_ ?zs; (case zF => k_asm); (case zN => k_asm); (case zl => k_mem); (case zi => assumption); (case zp => kmk_part); (case zq => kmk_part); (case zk => kmk_part); (case zo => decide); (case zz => walk_at "lens"); (case zs => with_unfolding_all rfl)); intro D' ws' h' F' N' l1 hI' hL'; (have l2' := l1); (try k_lt l2'); (try k_sweep)))
local macro_rules | `(tactic| walk_at "subscriptTail Attribute Slice ref ref") => `(tactic| (k_here; (with_reducible show wpAny _ _ (subscriptTail _ (PySem.Expr.Slice _ _ _ _) (Value.ref _) (Value.ref _)) _ _ _); k_dflt (refine' slice_LI ?zF ?zN ?zl ?zi ?zp ?zq ?zk ?zo ?zz ?_ ?zs; (case zF => k_asm); (case zN => k_asm); (case zl => k_mem); (case zi => assumption); (case zp => kmk_part); (case zq => kmk_part); (case zk => kmk_part); (case zo => decide); (case zz => walk_at "lens"); (case zs => with_unfolding_all rfl)); intro D' ws' h' F' N' l1 hI' hL'; (have l2' := l1); (try k_lt l2'); (try k_sweep)))
local macro_rules | `(tactic| walk_at "subscriptTail Name Name ref ref") => `(tactic| (k_here; (with_reducible show wpAny _ _ (subscriptTail _ _ (Value.ref _) (Value.ref _)) _ _ _); k_dflt (refine' slice_LI ?zF ?zN ?zl ?zi ?zp ?zq ?zk ?zo ?zz ?_ ?zs; (case zF => k_asm); (case zN => k_asm); (case zl => k_mem); (case zi => assumption); (case zp => kmk_part); (case zq => kmk_part); (case zk => kmk_part); (case zo => decide); (case zz => walk_at "lens"); (case zs => with_unfolding_all rfl)); intro D' ws' h' F' N' l1 hI' hL'; (have l2' := l1); (try k_lt l2'); (try k_sweep)))
local macro_rules | `(tactic| walk_at "subscriptTail Attribute Name ref ref") => `(tactic| (k_here; (with_reducible show wpAny _ _ (subscriptTail _ _ (Value.ref _) (Value.ref _)) _ _ _); k_dflt (refine' slice_LI ?zF ?zN ?zl ?zi ?zp ?zq ?zk ?zo ?zz ?_ ?zs; (case zF => k_asm); (case zN => k_asm); (case zl => k_mem); (case zi => assumption); (case zp => kmk_part); (case zq => kmk_part); (case zk => kmk_part); (case zo => decide); (case zz => walk_at "lens"); (case zs => with_unfolding_all rfl)); intro D' ws' h' F' N' l1 hI' hL'; (have l2' := l1); (try k_lt l2'); (try k_sweep)))

variable {w : World} {mean : ExcName → Option Value} {mg mb : Str → Option Value} {dp un : Nat} {gd : Option (List Code)} {A₀ : Around} {base h₀ : Heap} {env : Env} {outer : List Env} {L : Addr} {m : Str → Option Value} {s : Shared} {Q E : Value → Shared → Prop}
local macro_rules | `(tactic| walk_at "call builtin:list.append") => `(tactic| (k_here; (with_reducible show wpAny _ _ (call (Value.builtin "list.append") [Value.ref _, Value.int _ _]) _ _ _); k_dflt (refine' append_LI ?k1 ?k2 ?k3 ?k4 ?k5 ?_; (case k1 => k_asm); (case k2 => k_asm); (case k3 => k_upd); (case k4 => walk_at "lens"); (case k5 => assumption); k_whole); intro h' F' N' hI'; (try k_sweep)))
local macro_rules | `(tactic| walk_at "subscriptTail Name Slice ref ref") => `(tactic| (k_here; (with_reducible show wpAny _ _ (subscriptTail _ (PySem.Expr.Slice _ _ none _) (Value.ref _) (Value.ref _)) _ _ _); k_dflt (refine' slice_LJ ?zF ?zN ?zl ?zi ?zp ?zq ?zz ?_ ?zs ?zt; (case zF => k_asm); (case zN => k_asm); (case zl => k_mem); (case zi => assumption); (case zp => kmk_part); (case zq => kmk_part); (case zz => walk_at "lens"); (case zs => with_unfolding_all rfl); (case zt => kmk_pure)); intro D' ws' h' F' N' l1 hI' hL'; (have l2' := l1); (try k_lt l2'); (try k_sweep)))
local macro_rules | `(tactic| walk_at "subscriptTail ListComp Slice ref ref") => `(tactic| (k_here; (with_reducible show wpAny _ _ (subscriptTail _ (PySem.Expr.Slice _ _ none _) (Value.ref _) (Value.ref _)) _ _ _); k_dflt (refine' slice_LJ ?zF ?zN ?zl ?zi ?zp ?zq ?zz ?_ ?zs ?zt; (case zF => k_asm); (case zN => k_asm); (case zl => k_mem); (case zi => assumption); (case zp => kmk_part); (case zq => kmk_part); (case zz => walk_at "lens"); (case zs => with_unfolding_all rfl); (case zt => kmk_pure)); intro D' ws' h' F' N' l1 hI' hL'; (have l2' := l1); (try k_lt l2'); (try k_sweep)))
local macro_rules | `(tactic| walk_at "subscriptTail Subscript Slice ref ref") => `(tactic| (k_here; (with_reducible show wpAny _ _ (subscriptTail _ (PySem.Expr.Slice _ _ none _) (Value.ref _) (Value.ref _)) _ _ _); k_dflt (refine' slice_LJ ?zF ?zN ?zl ?zi ?zp ?zq ?zz ?_ ?zs ?zt; (case zF => k_asm); (case zN => k_asm); (case zl => k_mem); (case zi => assumption); (case zp => kmk_part); (case zq => kmk_part); (case zz => walk_at "lens"); (case zs => with_unfolding_all rfl); (case zt => kmk_pure)); intro D' ws' h' F' N' l1 hI' hL'; (have l2' := l1); (try k_lt l2'); (try k_sweep)))
local macro_rules | `(tactic| walk_at "subscriptTail Attribute Slice ref ref") => `(tactic| (k_here; (with_reducible show wpAny _ _ (subscriptTail _ (PySem.Expr.Slice _ _ none _) (Value.ref _) (Value.ref _)) _ _ _); k_dflt (refine' slice_LJ ?zF ?zN ?zl ?zi ?zp ?zq ?zz ?_ ?zs ?zt; (case zF => k_asm); (case zN => k_asm); (case zl => k_mem); (case zi => assumption); (case zp => kmk_part); (case zq => kmk_part); (case zz => walk_at "lens"); (case zs => with_unfolding_all rfl); (case zt => kmk_pure)); intro D' ws' h' F' N' l1 hI' hL'; (have l2' := l1); (try k_lt l2'); (try k_sweep)))
local macro_rules | `(tactic| walk_at "lens") => `(tactic| first | assumption | omega | (simp only [List.flatten_replicate_singleton, List.length_append, List.length_cons, List.length_nil, List.length_map, List.length_range, List.length_replicate, List.length_set]; omega))
local macro_rules | `(tactic| walk_at "sub") => `(tactic| first | exact List.forall_mem_nil _ | (refine' List.forall_mem_cons.mpr ⟨?a, ?b⟩; (case a => k_mem); (case b => walk_at "sub")) | (intro p hp; k_mem))


section
variable {A : Around} {news : List (Addr × Obj)} {l : Addr} {vs : List Value} {ns : List Int} {lo up : Option Int} {vl vu : Value}
theorem lut_map {h : Heap} (X : (hd.heap_39 w.params).In h) : ∃ f, h.MapOf (PySem.intKind PP w) 22 f ∧ f 7 = some (.ref 23) ∧ f 10 = some (.ref 24) ∧ f 2 = none ∧ f 3 = none ∧ f 4 = none ∧ f 5 = none ∧ f 6 = none ∧ f 8 = none := by
  refine ⟨_, ⟨_, _, _, X 22 _ rfl, ⟨rfl, rfl, rfl⟩, rfl, ?_, fun k => rfl⟩, rfl, rfl, rfl, rfl, rfl, rfl, rfl, rfl⟩
  intro e he
  simp only [List.mem_toArray, List.mem_cons, List.not_mem_nil, or_false] at he
  rcases he with rfl | rfl | rfl | rfl | rfl | rfl | rfl | rfl | rfl | rfl | rfl | rfl | rfl <;> exact ⟨_, intKind_is _ _ _ _, rfl⟩
theorem in_lut_t {k : Int} {u : Tok} (F : Fr h₀ L s.heap m) (X : (hd.heap_39 w.params).In h₀) (hk : k = 7 ∨ k = 10) (h : Q (.bool true) { s with toks := s.toks + 1 }) : wpAny (model PP w) A (compareOp .In (.int k u) (.ref 22)) Q E s := by
  obtain ⟨f, hm, f7, f10, _⟩ := lut_map (X.keeps F.keep)
  refine wpAny_in_of (intKind_is _ _ _ _) (by decide) hm ?_
  rcases hk with rfl | rfl
  · rw [f7]; exact h
  · rw [f10]; exact h
theorem in_lut_f {k : Int} {u : Tok} (F : Fr h₀ L s.heap m) (X : (hd.heap_39 w.params).In h₀) (hk : k = 2 ∨ k = 3 ∨ k = 4 ∨ k = 5 ∨ k = 6 ∨ k = 8) (h : Q (.bool false) { s with toks := s.toks + 1 }) : wpAny (model PP w) A (compareOp .In (.int k u) (.ref 22)) Q E s := by
  obtain ⟨f, hm, f7, f10, f2, f3, f4, f5, f6, f8⟩ := lut_map (X.keeps F.keep)
  refine wpAny_in_of (intKind_is _ _ _ _) (by decide) hm ?_
  rcases hk with rfl | rfl | rfl | rfl | rfl | rfl
  · rw [f2]; exact h
  · rw [f3]; exact h
  · rw [f4]; exact h
  · rw [f5]; exact h
  · rw [f6]; exact h
  · rw [f8]; exact h
theorem lut_item {value slice : PySem.Expr} {k : Int} {u : Tok} {a : Addr} (F : Fr h₀ L s.heap m) (X : (hd.heap_39 w.params).In h₀) (hk : (k = 7 ∧ a = 23) ∨ (k = 10 ∧ a = 24)) (h : Q (.ref a) { s with toks := s.toks + 1 })
    (hs : subscripted slice false (.ref 22) (.int k u) = operate [.ref 22, .int k u] (getItem (.ref 22) (.int k u)) := by with_unfolding_all rfl) (hg : ∀ r, letTemporaryGo value (.ref 22) r = pure () := by intro _; with_unfolding_all rfl) :
    wpAny (model PP w) A (subscriptTail value slice (.ref 22) (.int k u)) Q E s := by
  obtain ⟨f, hm, f7, f10, _⟩ := lut_map (X.keeps F.keep)
  have ht : s.TypeIs (.ref 22) "dict" := ⟨_, (X.keeps F.keep) 22 _ rfl, rfl⟩
  refine subscriptTail_builtin ht slot_dict_getitem.lookup ?_ hs hg
  rcases hk with ⟨rfl, rfl⟩ | ⟨rfl, rfl⟩
  · exact wpAny_getItem_of (intKind_is _ _ _ _) hm f7 h
  · exact wpAny_getItem_of (intKind_is _ _ _ _) hm f10 h
theorem slice_LK {value slice : PySem.Expr} (F : Fr h₀ L s.heap m) (N : News h₀ L s.heap news) (hl : s.heap.IsList l vs.toArray) (hi : IntsAre vs ns) (pl : IsPart vl lo) (pu : IsPart vu up) (hz : vs.length ≤ 100000)
    (h : ∀ D ws h', Fr h₀ L h' m → News h₀ L h' ((D, W.listOf (List.toArray ws) 0) :: news) → (∀ p ∈ news, p.1 < D) → IntsAre ws (pickZ ns lo up none) → ws.length ≤ vs.length → Q (.ref D) { s with heap := h' })
    (hs : subscripted slice false (.ref l) (.ref s.heap.objs.size) = operate [.ref s.heap.objs.size, .ref l] (getItem (.ref l) (.ref s.heap.objs.size)) := by with_unfolding_all rfl) (ht : ∀ r, letTemporaryGo value (.ref l) r = pure ()) :
    wpAny (model PP w) A (subscriptTail value slice (.ref l) (.ref s.heap.objs.size)) Q E { s with heap := s.heap.push { cls := .type "slice", data := .fields #[vl, vu, .none] } } :=
  kmk_slice F N hl pl pu (fun D h' F' N' l1 => h D (slicePick vs.toArray lo up none).toList h' F' (by rw [Array.toArray_toList]; exact N') l1 (pick_ints hi) pick_le) hs ht (by rw [sizeLine_eq, List.size_toArray]; omega)
end
local macro_rules | `(tactic| walk_at "my_enterP") => `(tactic| (k_dflt (refine' code_def ?k1 ?k2 ?k3 ?k4 ?k5 ?kA ?kF ?kK ?k6 ?k7 ?k8 ?k9 ?kB ?_ ?c2 ?c3 ?c4 ?c5; (case kA => exact rfl); (case kF => assumption); (case kK => assumption); (case k1 => k_asm); (case k2 => k_asm); (case k3 => k_asm); (case k4 => k_asm); (case k5 => k_asm); (case k6 => k_is); (case k7 => k_is); (case k8 => walk_at "room"); (case k9 => exact BindsTo.of_eq rfl); (case c5 => decide); (case kB => exact locs rfl); (case c2 => exact rfl); (case c3 => exact rfl); (case c4 => exact rfl); k_whole; intro g' L' h' FG' F' N' B' X' T'; (try dsimp only); (try k_fold))))
theorem lK {l : Addr} {vs : List Value} {n : Nat} (hK : (hd.heap_39 w.params).lookup l = some (W.listOf vs.toArray n)) (X : (hd.heap_39 w.params).In h₀) (F : Fr h₀ L s.heap m) : s.heap.IsList l vs.toArray := ⟨_, X.keeps F.keep _ _ hK, rfl, n, rfl⟩
section
variable {A : Around} {l : Addr} {vs : List Value} {ns : List Int} {n : Nat}
theorem truthy_LK {Q : Bool → Shared → Prop} (F : Fr h₀ L s.heap m) (X : (hd.heap_39 w.params).In h₀) (hK : (hd.heap_39 w.params).lookup l = some (W.listOf vs.toArray n)) (h0 : 0 < vs.length) (hz : vs.length ≤ 1000) (h : ∀ tk, Q true { s with toks := tk }) : wpAny (model PP w) A (truthy (.ref l)) Q E s := by
  refine wpAny_truthy_list (lK hK X F) (by rw [List.size_toArray]; omega) ?_
  have : (!vs.toArray.isEmpty) = true := by cases vs <;> simp at h0 ⊢
  rw [this]; exact h _
theorem len_LK (F : Fr h₀ L s.heap m) (X : (hd.heap_39 w.params).In h₀) (hK : (hd.heap_39 w.params).lookup l = some (W.listOf vs.toArray n)) (hz : vs.length ≤ 1000) (h : ∀ t tk, Q (.int (vs.length : Int) t) { s with toks := tk }) : wpAny (model PP w) A (call (.builtin "len") [.ref l]) Q E s :=
  len_list (lK hK X F) (by rw [List.size_toArray]; omega) (by rw [List.size_toArray]; exact h _ _)
end
local macro_rules | `(tactic| walk_at "truthy ref") => `(tactic| (k_here; (with_reducible show wpAny _ _ (truthy (Value.ref _)) _ _ _); k_dflt (refine' truthy_LK ?zF ?zX ?zK ?z0 ?zz ?_; (case zF => k_asm); (case zX => k_asm); (case zK => assumption); (case z0 => omega); (case zz => omega); k_whole); intro tk'))
local macro_rules | `(tactic| walk_at "call builtin:len") => `(tactic| (k_here; (with_reducible show wpAny _ _ (call (Value.builtin "len") [Value.ref _]) _ _ _); k_dflt (refine' len_LK ?zF ?zX ?zK ?zz ?_; (case zF => k_asm); (case zX => k_asm); (case zK => assumption); (case zz => omega); k_whole); intro t' tk'; (try k_sweep)))
local macro_rules | `(tactic| walk_at "subscriptTail") => `(tactic| (k_here; (with_reducible show wpAny _ _ (subscriptTail _ _ (Value.ref _) (Value.int _ _)) _ _ _); k_dflt (refine' item_anyK ?zl ?zi ?z0 ?z1 ?zf ?_ ?zs; (case zl => exact lK (by assumption) (by k_asm) (by k_asm)); (case zi => assumption); (case z0 => omega); (case z1 => omega); (case zf => omega); (case zs => with_unfolding_all rfl); k_whole); intro t'))
local macro_rules | `(tactic| walk_at "subscriptTail Name Slice ref ref") => `(tactic| (k_here; (with_reducible show wpAny _ _ (subscriptTail _ (PySem.Expr.Slice _ _ none _) (Value.ref _) (Value.ref _)) _ _ _); k_dflt (refine' slice_LK ?zF ?zN ?zl ?zi ?zp ?zq ?zz ?_ ?zs ?zt; (case zF => k_asm); (case zN => k_asm); (case zl => exact lK (by assumption) (by k_asm) (by k_asm)); (case zi => assumption); (case zp => kmk_part); (case zq => kmk_part); (case zz => omega); (case zs => with_unfolding_all rfl); (case zt => kmk_pure)); intro D' ws' h' F' N' l1 hI' hL'; (have l2' := l1); (try k_lt l2'); (try k_sweep)))
set_option maxHeartbeats 1600000 in
theorem polyK_call {news : List (Addr × Obj)} {t : Tok} {l : Addr} {vs : List Value} {ns : List Int} {n : Nat}
  (B : Below A₀ base outer h₀) (F : Fr h₀ L s.heap m) (X : (hd.heap_39 w.params).In h₀) (N : News h₀ L s.heap news) (T : TopM mean mg mb h₀)
  (hf : env.frame = some L) (hk : env.scope.kind = .function) (hroom : dp + 2 < recursionLimit) (hun : un + 9 < cLine)
  (hK : (hd.heap_39 w.params).lookup l = some (W.listOf vs.toArray n)) (hi : IntsAre vs ns) (h0 : 0 < vs.length) (h1 : vs.length ≤ 100) (hn0 : ns.getD (Int.toNat 0) 0 ≠ 0)
  (hret : ∀ (h' : Heap) (tk' : Nat) (x dx r : Addr) (ox od or : Obj), Fr h₀ L h' m → News h₀ L h' ((x, ox) :: (dx, od) :: (r, or) :: news) → (∀ p ∈ news, p.1 < x) → (∀ p ∈ news, p.1 < dx) → (∀ p ∈ news, p.1 < r) → PolyIn w [(x, ox), (dx, od), (r, or)] x ns → Q (.ref x) { s with heap := h', toks := tk' }) :
  wpAny (model PP w) (AA dp un gd env outer) (call (.ref 144) [.ref l, .int 0 t]) Q E s := by
  have hvl := hi.length
  k_dflt (refine' call_cls ?k1 ?k2 ?k3 ?k4 ?k5 ?k6 ?_)
  (case k1 => k_asm)
  (case k2 => k_asm)
  (case k3 => k_asm)
  (case k4 => k_is)
  (case k5 => k_is)
  (case k6 => k_is)
  k_whole
  intro x dx h' F' N' l1 l2
  have n1 : @Ne Nat x dx := Nat.ne_of_gt l2
  have n2 := lt_all_ne l1
  rw [show (AA dp un gd env outer).under (.builtin "type.__call__" ⟨[.ref 144, .ref l, .int 0 t], []⟩) = AA (dp + 1) (un + 1) gd env outer from rfl]
  walk_at "my_enterP"
  walk_at "my_steps"
  refine ⟨?_⟩
  rename IsRange _ _ _ _ _ _ _ _ => R₁
  rename Fr _ _ _ _ => F₁
  rename News _ _ _ _ => N₁
  refine range_loopC vs.length ["zz"] (fun i u nx => nx = (x, instObj 144 dx) :: (dx, dictOf [] 0) :: news ∧ i = 0)
    rfl R₁ (by omega) (by decide) (by decide) (by omega) (by omega) F₁ N₁ ⟨rfl, rfl⟩ ?_ ?_
  · rintro i k t I u nx h tk oi hi1 hkk hnx ⟨rfl, rfl⟩ F₁ N₁
    have hkk : k = 0 := by omega
    subst hkk
    have n3 : dx ≠ I := (List.forall_mem_cons.mp (List.forall_mem_cons.mp hnx).2).1
    walk_at "my_steps"
    · dsimp only [TPost]
      walk_at "my_steps"
      rename Fr h₀ L _ m => kF
      rename News h₀ L _ _ => kN
      rename IntsAre _ (pickZ _ _ _ _) => hq6
      rename (_ ∧ _ ∧ _ ∧ _ ∧ _ ∧ _ ∧ AllLt _ _) => hq5
      rename IntsAre _ (List.flatten _) => hq7
      refine hret _ _ x dx _ _ _ _ kF (news_sub kN (by walk_at "sub")) (fun p hp => Nat.lt_trans (l1 p hp) l2) l1 (allLt_lt hq5.2.2.2.2.2.2) ⟨⟨dx, _, _, _, _, .head _, .tail _ (.head _), .tail _ (.tail _ (.head _)), ?_⟩⟩
      have h8 := hq6.append hq7
      have e0 : pickZ ns (some 0) none none = ns := pickZ_from ns 0 (by omega)
      rw [e0] at h8
      have e1 : (List.replicate (Int.toNat 0) [(0 : Int)]).flatten = [] := rfl
      rw [e1, List.append_nil] at h8
      exact h8
    · exact absurd (by assumption) hn0
  · rintro u nx h tk ⟨rfl, hv⟩ F₁ N₁
    exact absurd hv (by omega)

theorem ints23 : ∃ vs, (hd.heap_39 w.params).lookup 23 = some (W.listOf vs.toArray 0) ∧ IntsAre vs LUT7 := ⟨_, rfl, .cons _ _ (.cons _ _ (.cons _ _ (.cons _ _ (.cons _ _ (.cons _ _ (.cons _ _ (.cons _ _ .nil)))))))⟩
theorem ints24 : ∃ vs, (hd.heap_39 w.params).lookup 24 = some (W.listOf vs.toArray 0) ∧ IntsAre vs LUT10 := ⟨_, rfl, .cons _ _ (.cons _ _ (.cons _ _ (.cons _ _ (.cons _ _ (.cons _ _ (.cons _ _ (.cons _ _ (.cons _ _ (.cons _ _ (.cons _ _ .nil))))))))))⟩

end Mine
end

theorem Mine.anew_W23 : 1 = 1 := by
  w_top off
  first | walk1 | rfl

/-! part W23 -/
section
open PySem PySem.W PyProof.Rows PySem.Calls PySem.Spec
set_option Elab.async false
namespace Mine
set_option maxRecDepth 100000
theorem fill_W23 {w : World} {h : Heap} : (hd.heap_39 w.params).In h → Challenge.rw_bj0062_01.row.prog = Challenge.rw_bj0062_01.row.prog := by
  k_fill
  intro _
  rfl
local macro_rules | `(tactic| walk_at "my_enter") => `(tactic| (refine wpAny_call ?_; k_dflt (refine' code_def ?k1 ?k2 ?k3 ?k4 ?k5 ?kA ?kF ?kK ?k6 ?k7 ?k8 ?k9 ?kB ?_ ?c2 ?c3 ?c4 ?c5; (case kA => exact rfl); (case kF => assumption); (case kK => assumption); (case k1 => k_asm); (case k2 => k_asm); (case k3 => k_asm); (case k4 => k_asm); (case k5 => k_asm); (case k6 => k_is); (case k7 => k_is); (case k8 => walk_at "room"); (case k9 => exact BindsTo.of_eq rfl); (case c5 => decide); (case kB => exact locs rfl); (case c2 => exact rfl); (case c3 => exact rfl); (case c4 => exact rfl); k_whole; intro g' L' h' FG' F' N' B' X' T'; (try dsimp only); (try k_fold))))
local macro_rules | `(tactic| walk_at "my_steps") => `(tactic| repeat' (first | (k_unfold; (try dsimp only)) | walk1 | (dsimp only; walk1)))
local macro_rules | `(tactic| walk_at "setItem ref int") => `(tactic| (k_here; (with_reducible show wpAny _ _ (setItem (Value.ref _) (Value.int _ _) _) _ _ _); k_dflt (refine' set_listK ?k1 ?k2 ?k3 ?k5 ?k6 ?k7 ?_; (case k1 => k_asm); (case k2 => k_asm); (case k3 => k_upd); (case k5 => first | omega | ksa_idx); (case k6 => first | omega | (simp; done) | (simp; omega)); (case k7 => first | omega | ksa_idx); k_whole); intro h' F' N'; (try k_sweep)))
local macro_rules | `(tactic| k_ne) => `(tactic| first | assumption | exact Ne.symm (by assumption) | (refine neN ?_; (try dsimp only); omega))
local macro_rules | `(tactic| k_all) => `(tactic| first | assumption | exact lt_all_ne (by assumption) | exact lt_all_sub (by assumption) (by walk_at "sub") | exact ne_all_sub (by assumption) (by walk_at "sub") | exact allLt_ne (by assumption) | exact allLt_ne (And.right (by assumption)) | exact allLt_ne (And.right (And.right (by assumption))) | exact allLt_ne (And.right (And.right (And.right (by assumption)))) | exact allLt_ne (And.right (And.right (And.right (And.right (by assumption))))) | exact allLt_ne (And.right (And.right (And.right (And.right (And.right (by assumption)))))) | exact allLt_ne (And.right (And.right (And.right (And.right (And.right (And.right (by assumption))))))) | exact allLt_ne (And.right (And.right (And.right (And.right (And.right (And.right (And.right (by assumption)))))))) | exact allLt_ne (And.right (And.right (And.right (And.right (And.right (And.right (And.right (And.right (by assumption))))))))) | exact allLt_ne (And.right (And.right (And.right (And.right (And.right (And.right (And.right (And.right (And.right (by assumption)))))))))) | exact lt_all_off (by assumption) (by omega) | exact off1_sub (by assumption) (by walk_at "sub") | exact List.forall_mem_nil _ | (refine' List.forall_mem_cons.mpr ⟨?a, ?b⟩; (case a => k_ne); (case b => k_all)))
local macro_rules | `(tactic| walk_at "call builtin:list.append") => `(tactic| (k_here; (with_reducible show wpAny _ _ (call (Value.builtin "list.append") [Value.ref _, _]) _ _ _); k_dflt (refine' append_L ?k1 ?k2 ?k3 ?k4 ?_; (case k1 => k_asm); (case k2 => k_asm); (case k3 => k_upd); (case k4 => walk_at "lens"); k_whole); intro h' F' N'; (try k_sweep)))
local macro_rules | `(tactic| walk_at "lens") => `(tactic| first | assumption | omega | (simp only [List.length_append, List.length_cons, List.length_nil, List.length_map, List.length_range, List.length_replicate, List.length_set]; omega))
local macro_rules | `(tactic| walk_at "ints") => `(tactic| first | omega | (simp only [decide_eq_true_eq, decide_eq_false_iff_not, Bool.not_eq_true, beq_iff_eq, beq_eq_false_iff_ne, ne_eq] at *; omega) | (trace_state; fail "ints"))
local macro_rules | `(tactic| walk_at "fld_in") => `(tactic| first | assumption | exact FieldIn.tail (by assumption) | exact FieldIn.tail (FieldIn.tail (by assumption)) | exact FieldIn.tail (FieldIn.tail (FieldIn.tail (by assumption))) | exact FieldIn.tail (FieldIn.tail (FieldIn.tail (FieldIn.tail (by assumption)))) | exact FieldIn.tail (FieldIn.tail (FieldIn.tail (FieldIn.tail (FieldIn.tail (by assumption))))) | exact FieldIn.tail (FieldIn.tail (FieldIn.tail (FieldIn.tail (FieldIn.tail (FieldIn.tail (by assumption)))))) | exact FieldIn.tail (FieldIn.tail (FieldIn.tail (FieldIn.tail (FieldIn.tail (FieldIn.tail (FieldIn.tail (by assumption))))))) | exact FieldIn.tail (FieldIn.tail (FieldIn.tail (FieldIn.tail (FieldIn.tail (FieldIn.tail (FieldIn.tail (FieldIn.tail (by assumption)))))))) | exact FieldIn.tail (FieldIn.tail (FieldIn.tail (FieldIn.tail (FieldIn.tail (FieldIn.tail (FieldIn.tail (FieldIn.tail (FieldIn.tail (by assumption))))))))) | exact FieldIn.tail (FieldIn.tail (FieldIn.tail (FieldIn.tail (FieldIn.tail (FieldIn.tail (FieldIn.tail (FieldIn.tail (FieldIn.tail (FieldIn.tail (by assumption)))))))))) | exact FieldIn.tail (FieldIn.tail (FieldIn.tail (FieldIn.tail (FieldIn.tail (FieldIn.tail (FieldIn.tail (FieldIn.tail (FieldIn.tail (FieldIn.tail (FieldIn.tail (by assumption))))))))))) | exact FieldIn.tail (FieldIn.tail (FieldIn.tail (FieldIn.tail (FieldIn.tail (FieldIn.tail (FieldIn.tail (FieldIn.tail (FieldIn.tail (FieldIn.tail (FieldIn.tail (FieldIn.tail (by assumption)))))))))))))
local macro_rules | `(tactic| k_mem) => `(tactic| first | assumption | exact List.Mem.head _ | (refine' List.Mem.tail _ ?_; k_mem))
local macro_rules | `(tactic| walk_at "subscriptTail") => `(tactic| (k_here; (with_reducible show wpAny _ _ (subscriptTail _ _ (Value.ref _) (Value.int 0 _)) _ _ _); k_dflt (refine' fld_0 ?k1 ?k2 ?_ ?k4; (case k1 => k_asm); (case k2 => walk_at "fld_in"); (case k4 => with_unfolding_all rfl); k_whole)))
local macro_rules | `(tactic| walk_at "subscriptTail Name Constant ref int") => `(tactic| (k_here; (with_reducible show wpAny _ _ (subscriptTail _ _ (Value.ref _) (Value.int 0 _)) _ _ _); k_dflt (refine' fld_0 ?k1 ?k2 ?_ ?k4; (case k1 => k_asm); (case k2 => walk_at "fld_in"); (case k4 => with_unfolding_all rfl); k_whole)))
local macro_rules | `(tactic| walk_at "subscriptTail") => `(tactic| (k_here; (with_reducible show wpAny _ _ (subscriptTail _ _ (Value.ref _) (Value.int 1 _)) _ _ _); k_dflt (refine' fld_1 ?k1 ?k2 ?_ ?k4; (case k1 => k_asm); (case k2 => walk_at "fld_in"); (case k4 => with_unfolding_all rfl); k_whole)))
local macro_rules | `(tactic| walk_at "subscriptTail Name Constant ref int") => `(tactic| (k_here; (with_reducible show wpAny _ _ (subscriptTail _ _ (Value.ref _) (Value.int 1 _)) _ _ _); k_dflt (refine' fld_1 ?k1 ?k2 ?_ ?k4; (case k1 => k_asm); (case k2 => walk_at "fld_in"); (case k4 => with_unfolding_all rfl); k_whole)))
local macro_rules | `(tactic| walk_at "subscriptTail") => `(tactic| (k_here; (with_reducible show wpAny _ _ (subscriptTail _ _ (Value.ref _) (Value.int _ _)) _ _ _); k_dflt (refine' fld_pow ?k1 ?k2 ?k5 ?k6 ?_ ?k4; (case k1 => k_asm); (case k2 => walk_at "fld_in"); (case k5 => first | omega | exact (fmod255 _).1); (case k6 => first | omega | exact (fmod255 _).2); (case k4 => with_unfolding_all rfl); k_whole); intro _))
local macro_rules | `(tactic| walk_at "subscriptTail Subscript Name Constant BinOp ref int") => `(tactic| (k_here; (with_reducible show wpAny _ _ (subscriptTail _ _ (Value.ref _) (Value.int _ _)) _ _ _); k_dflt (refine' fld_pow ?k1 ?k2 ?k5 ?k6 ?_ ?k4; (case k1 => k_asm); (case k2 => walk_at "fld_in"); (case k5 => first | omega | exact (fmod255 _).1); (case k6 => first | omega | exact (fmod255 _).2); (case k4 => with_unfolding_all rfl); k_whole); intro _))
local macro_rules | `(tactic| walk_at "subscriptTail Subscript Name Constant Name ref int") => `(tactic| (k_here; (with_reducible show wpAny _ _ (subscriptTail _ _ (Value.ref _) (Value.int _ _)) _ _ _); k_dflt (refine' fld_pow ?k1 ?k2 ?k5 ?k6 ?_ ?k4; (case k1 => k_asm); (case k2 => walk_at "fld_in"); (case k5 => first | omega | exact (fmod255 _).1); (case k6 => first | omega | exact (fmod255 _).2); (case k4 => with_unfolding_all rfl); k_whole); intro _))
local macro_rules | `(tactic| walk_at "subscriptTail Subscript Name Constant Subscript ref int") => `(tactic| (k_here; (with_reducible show wpAny _ _ (subscriptTail _ _ (Value.ref _) (Value.int _ _)) _ _ _); k_dflt (refine' fld_pow ?k1 ?k2 ?k5 ?k6 ?_ ?k4; (case k1 => k_asm); (case k2 => walk_at "fld_in"); (case k5 => first | omega | exact (fmod255 _).1); (case k6 => first | omega | exact (fmod255 _).2); (case k4 => with_unfolding_all rfl); k_whole); intro _))
local macro_rules | `(tactic| walk_at "subscriptTail") => `(tactic| (k_here; (with_reducible show wpAny _ _ (subscriptTail _ _ (Value.ref _) (Value.int _ _)) _ _ _); k_dflt (refine' fld_log ?k1 ?k2 ?k5 ?k6 ?_ ?k4; (case k1 => k_asm); (case k2 => walk_at "fld_in"); (case k5 => walk_at "ints"); (case k6 => walk_at "ints"); (case k4 => with_unfolding_all rfl); k_whole); intro _))
local macro_rules | `(tactic| walk_at "subscriptTail Subscript Name Constant BinOp ref int") => `(tactic| (k_here; (with_reducible show wpAny _ _ (subscriptTail _ _ (Value.ref _) (Value.int _ _)) _ _ _); k_dflt (refine' fld_log ?k1 ?k2 ?k5 ?k6 ?_ ?k4; (case k1 => k_asm); (case k2 => walk_at "fld_in"); (case k5 => walk_at "ints"); (case k6 => walk_at "ints"); (case k4 => with_unfolding_all rfl); k_whole); intro _))
local macro_rules | `(tactic| walk_at "subscriptTail Subscript Name Constant Name ref int") => `(tactic| (k_here; (with_reducible show wpAny _ _ (subscriptTail _ _ (Value.ref _) (Value.int _ _)) _ _ _); k_dflt (refine' fld_log ?k1 ?k2 ?k5 ?k6 ?_ ?k4; (case k1 => k_asm); (case k2 => walk_at "fld_in"); (case k5 => walk_at "ints"); (case k6 => walk_at "ints"); (case k4 => with_unfolding_all rfl); k_whole); intro _))
local macro_rules | `(tactic| walk_at "subscriptTail Subscript Name Constant Subscript ref int") => `(tactic| (k_here; (with_reducible show wpAny _ _ (subscriptTail _ _ (Value.ref _) (Value.int _ _)) _ _ _); k_dflt (refine' fld_log ?k1 ?k2 ?k5 ?k6 ?_ ?k4; (case k1 => k_asm); (case k2 => walk_at "fld_in"); (case k5 => walk_at "ints"); (case k6 => walk_at "ints"); (case k4 => with_unfolding_all rfl); k_whole); intro _))

local macro_rules | `(tactic| walk_at "pyIter ref") => `(tactic| ((with_reducible show wpAny _ _ (pyIter (Value.ref _)) (fun it s₂ => LoopAtV _ _ _ _ _ _ _ _ _ it s₂) _ _); refine Stopped.out ?_))
local macro_rules | `(tactic| walk_at "exec For Name Call cons nil") => `(tactic| (k_here; (rename Fr _ _ _ _ => lF'); (with_unfolding_all refine' For_invVF lF' ?k1 ?k2 ?_; (case k1 => exact rfl); (case k2 => exact rfl); k_whole)))
local macro_rules | `(tactic| walk_at "exec For Name Name cons nil") => `(tactic| (k_here; (rename Fr _ _ _ _ => lF'); (with_unfolding_all refine' For_invVF lF' ?k1 ?k2 ?_; (case k1 => exact rfl); (case k2 => exact rfl); k_whole)))
local macro_rules | `(tactic| walk_at "call type:range") => `(tactic| (k_here; (with_reducible show wpAny _ _ (call (Value.type "range") [Value.int _ _]) _ _ _); k_dflt (refine' range1_K ?k1 ?k2 ?_; (case k1 => k_asm); (case k2 => k_asm); k_whole); intro r' h' u' v' tk' F' N' R'; (try k_sweep)))
local macro_rules | `(tactic| walk_at "call type:range") => `(tactic| (k_here; (with_reducible show wpAny _ _ (call (Value.type "range") [Value.int _ _, Value.int _ _]) _ _ _); k_dflt (refine' range2_K ?k1 ?k2 ?_; (case k1 => k_asm); (case k2 => k_asm); k_whole); intro r' h' v' tk' F' N' R'; (try k_sweep)))
local macro_rules | `(tactic| walk_at "room") => `(tactic| first | assumption | omega | ((simp only [depth_in1, depth_deeper, units_in1, units_deeper, Around.mark_units]); omega))

local macro_rules | `(tactic| is_list) => `(tactic| (refine' isList_of ?a ?b; (case a => k_asm); (case b => k_mem)))
local macro_rules | `(tactic| walk_at "call builtin:len") => `(tactic| (k_here; (with_reducible show wpAny _ _ (call (Value.builtin "len") [Value.ref _]) _ _ _); k_dflt (refine' len_L ?k2 ?k3 ?k4 ?_; (case k2 => k_asm); (case k3 => k_mem); (case k4 => walk_at "lens"); k_whole); intro t' tk'; (try k_sweep)))
local macro_rules | `(tactic| walk_at "binaryOp Add ref ref") => `(tactic| (k_here; (with_reducible show wpAny _ _ (binaryOp Operator.Add (Value.ref _) (Value.ref _)) _ _ _); k_dflt (refine' add_L ?k1 ?k2 ?k3 ?k4 ?k5 ?_; (case k1 => k_asm); (case k2 => k_asm); (case k3 => k_mem); (case k4 => k_mem); (case k5 => walk_at "lens"); k_whole); intro r' h' F' N' hl'; (have hl2' := hl'); (try k_lt hl2'); (try k_sweep)))

local macro_rules | `(tactic| walk_at "sub") => `(tactic| first | (refine' List.forall_mem_cons.mpr ⟨?a, ?b⟩; (case a => k_mem); (case b => walk_at "sub")) | (intro p hp; k_mem))

local macro_rules | `(tactic| walk_at "keep") => `(tactic| first | exact keep_base | exact keep_refl | (refine keep_x ?_; walk_at "keep") | (refine keep_upd (by decide) ?_; walk_at "keep") | (refine keep_in (by decide) ?_; walk_at "keep"))

local macro_rules | `(tactic| walk_at "CompSrc") => `(tactic| refine Stopped.out ?_)
local macro_rules | `(tactic| walk_at "my_enterC") => `(tactic| (refine wpAny_call ?_; k_dflt (refine' code_defC ?k1 ?k2 ?k3 ?k4 ?k5 ?kA ?kF ?kK ?k6 ?k7 ?k8 ?k9 ?kB ?kD ?_ ?c2 ?c3 ?c4; (case kA => exact rfl); (case kF => assumption); (case kK => assumption); (case k1 => k_asm); (case k2 => k_asm); (case k3 => k_asm); (case k4 => k_asm); (case k5 => k_asm); (case k6 => k_is); (case k7 => k_is); (case k8 => walk_at "room"); (case k9 => exact BindsTo.of_eq rfl); (case kB => exact rfl); (case kD => decide +kernel); (case c2 => exact rfl); (case c3 => exact rfl); (case c4 => exact rfl); k_whole; intro g' L' h' tk' cells' FG' F' N' Y' B' X' T' l1; k_cells Y'; (try simp only [List.cons_append, List.nil_append] at N'); (try dsimp only); (try k_fold))))

local macro_rules | `(tactic| walk_at "subscriptTail Name Slice ref ref") => `(tactic| (k_here; (with_reducible show wpAny _ _ (subscriptTail _ (PySem.Expr.Slice _ _ _ _) (Value.ref _) (Value.ref _)) _ _ _); k_dflt (refine' slice_LI ?zF ?zN ?zl ?zi ?zp ?zq ?zk ?zo ?zz ?_ ?zs; (case zF => k_asm); (case zN => k_asm); (case zl => k_mem); (case zi => assumption); (case zp => kmk_part); (case zq => kmk_part); (case zk => kmk_part); (case zo => decide); (case zz => walk_at "lens"); (case zs => with_unfolding_all rfl)); intro D' ws' h' F' N' l1 hI' hL'; (have l2' := l1); (try k_lt l2'); (try k_sweep)))
local macro_rules | `(tactic| walk_at "subscriptTail ListComp Slice ref ref") => `(tactic| (k_here; (with_reducible show wpAny _ _ (subscriptTail _ (PySem.Expr.Slice _ _ _ _) (Value.ref _) (Value.ref _)) _ _ _); k_dflt (refine' slice_LI ?zF ?zN ?zl ?zi ?zp ?zq ?zk ?zo ?zz ?_ ?zs; (case zF => k_asm); (case zN => k_asm); (case zl => k_mem); (case zi => assumption); (case zp => kmk_part); (case zq => kmk_part); (case zk => kmk_part); (case zo => decide); (case zz => walk_at "lens"); (case zs => with_unfolding_all rfl)); intro D' ws' h' F' N' l1 hI' hL'; (have l2' := l1); (try k_lt l2'); (try k_sweep)))
local macro_rules | `(tactic| walk_at "subscriptTail Subscript Slice ref ref") => `(tactic| (k_here; (with_reducible show wpAny _ _ (subscriptTail _ (PySem.Expr.Slice _ _ _ _) (Value.ref _) (Value.ref _)) _ _ _); k_dflt (refine' slice_LI ?zF ?zN ?zl ?zi ?zp ?zq ?zk ?zo ?zz ?_ ?zs; (case zF => k_asm); (case zN => k_asm); (case zl => k_mem); (case zi => assumption); (case zp => kmk_part); (case zq => kmk_part); (case zk => kmk_part); (case zo => decide); (case zz => walk_at "lens"); (case zs => with_unfolding_all rfl)); intro D' ws' h' F' N' l1 hI' hL'; (have l2' := l1); (try k_lt l2'); (try k_sweep)))
local macro_rules | `(tactic| walk_at "subscriptTail Attribute Slice ref ref") => `(tactic| (k_here; (with_reducible show wpAny _ _ (subscriptTail _ (PySem.Expr.Slice _ _ _ _) (Value.ref _) (Value.ref _)) _ _ _); k_dflt (refine' slice_LI ?zF ?zN ?zl ?zi ?zp ?zq ?zk ?zo ?zz ?_ ?zs; (case zF => k_asm); (case zN => k_asm); (case zl => k_mem); (case zi => assumption); (case zp => kmk_part); (case zq => kmk_part); (case zk => kmk_part); (case zo => decide); (case zz => walk_at "lens"); (case zs => with_unfolding_all rfl)); intro D' ws' h' F' N' l1 hI' hL'; (have l2' := l1); (try k_lt l2'); (try k_sweep)))
local macro_rules | `(tactic| walk_at "subscriptTail Name Name ref ref") => `(tactic| (k_here; (with_reducible show wpAny _ _ (subscriptTail _ _ (Value.ref _) (Value.ref _)) _ _ _); k_dflt (refine' slice_LI ?zF ?zN ?zl ?zi ?zp ?zq ?zk ?zo ?zz ?_ ?zs; (case zF => k_asm); (case zN => k_asm); (case zl => k_mem); (case zi => assumption); (case zp => kmk_part); (case zq => kmk_part); (case zk => kmk_part); (case zo => decide); (case zz => walk_at "lens"); (case zs => with_unfolding_all rfl)); intro D' ws' h' F' N' l1 hI' hL'; (have l2' := l1); (try k_lt l2'); (try k_sweep)))
local macro_rules | `(tactic| walk_at "subscriptTail Attribute Name ref ref") => `(tactic| (k_here; (with_reducible show wpAny _ _ (subscriptTail _ _ (Value.ref _) (Value.ref _)) _ _ _); k_dflt (refine' slice_LI ?zF ?zN ?zl ?zi ?zp ?zq ?zk ?zo ?zz ?_ ?zs; (case zF => k_asm); (case zN => k_asm); (case zl => k_mem); (case zi => assumption); (case zp => kmk_part); (case zq => kmk_part); (case zk => kmk_part); (case zo => decide); (case zz => walk_at "lens"); (case zs => with_unfolding_all rfl)); intro D' ws' h' F' N' l1 hI' hL'; (have l2' := l1); (try k_lt l2'); (try k_sweep)))

variable {w : World} {mean : ExcName → Option Value} {mg mb : Str → Option Value} {dp un : Nat} {gd : Option (List Code)} {A₀ : Around} {base h₀ : Heap} {env : Env} {outer : List Env} {L : Addr} {m : Str → Option Value} {s : Shared} {Q E : Value → Shared → Prop}
local macro_rules | `(tactic| walk_at "call builtin:list.append") => `(tactic| (k_here; (with_reducible show wpAny _ _ (call (Value.builtin "list.append") [Value.ref _, Value.int _ _]) _ _ _); k_dflt (refine' append_LI ?k1 ?k2 ?k3 ?k4 ?k5 ?_; (case k1 => k_asm); (case k2 => k_asm); (case k3 => k_upd); (case k4 => walk_at "lens"); (case k5 => assumption); k_whole); intro h' F' N' hI'; (try k_sweep)))
local macro_rules | `(tactic| walk_at "subscriptTail Name Slice ref ref") => `(tactic| (k_here; (with_reducible show wpAny _ _ (subscriptTail _ (PySem.Expr.Slice _ _ none _) (Value.ref _) (Value.ref _)) _ _ _); k_dflt (refine' slice_LJ ?zF ?zN ?zl ?zi ?zp ?zq ?zz ?_ ?zs ?zt; (case zF => k_asm); (case zN => k_asm); (case zl => k_mem); (case zi => assumption); (case zp => kmk_part); (case zq => kmk_part); (case zz => walk_at "lens"); (case zs => with_unfolding_all rfl); (case zt => kmk_pure)); intro D' ws' h' F' N' l1 hI' hL'; (have l2' := l1); (try k_lt l2'); (try k_sweep)))
local macro_rules | `(tactic| walk_at "subscriptTail ListComp Slice ref ref") => `(tactic| (k_here; (with_reducible show wpAny _ _ (subscriptTail _ (PySem.Expr.Slice _ _ none _) (Value.ref _) (Value.ref _)) _ _ _); k_dflt (refine' slice_LJ ?zF ?zN ?zl ?zi ?zp ?zq ?zz ?_ ?zs ?zt; (case zF => k_asm); (case zN => k_asm); (case zl => k_mem); (case zi => assumption); (case zp => kmk_part); (case zq => kmk_part); (case zz => walk_at "lens"); (case zs => with_unfolding_all rfl); (case zt => kmk_pure)); intro D' ws' h' F' N' l1 hI' hL'; (have l2' := l1); (try k_lt l2'); (try k_sweep)))
local macro_rules | `(tactic| walk_at "subscriptTail Subscript Slice ref ref") => `(tactic| (k_here; (with_reducible show wpAny _ _ (subscriptTail _ (PySem.Expr.Slice _ _ none _) (Value.ref _) (Value.ref _)) _ _ _); k_dflt (refine' slice_LJ ?zF ?zN ?zl ?zi ?zp ?zq ?zz ?_ ?zs ?zt; (case zF => k_asm); (case zN => k_asm); (case zl => k_mem); (case zi => assumption); (case zp => kmk_part); (case zq => kmk_part); (case zz => walk_at "lens"); (case zs => with_unfolding_all rfl); (case zt => kmk_pure)); intro D' ws' h' F' N' l1 hI' hL'; (have l2' := l1); (try k_lt l2'); (try k_sweep)))
local macro_rules | `(tactic| walk_at "subscriptTail Attribute Slice ref ref") => `(tactic| (k_here; (with_reducible show wpAny _ _ (subscriptTail _ (PySem.Expr.Slice _ _ none _) (Value.ref _) (Value.ref _)) _ _ _); k_dflt (refine' slice_LJ ?zF ?zN ?zl ?zi ?zp ?zq ?zz ?_ ?zs ?zt; (case zF => k_asm); (case zN => k_asm); (case zl => k_mem); (case zi => assumption); (case zp => kmk_part); (case zq => kmk_part); (case zz => walk_at "lens"); (case zs => with_unfolding_all rfl); (case zt => kmk_pure)); intro D' ws' h' F' N' l1 hI' hL'; (have l2' := l1); (try k_lt l2'); (try k_sweep)))
local macro_rules | `(tactic| walk_at "lens") => `(tactic| first | assumption | omega | (simp only [List.flatten_replicate_singleton, List.length_append, List.length_cons, List.length_nil, List.length_map, List.length_range, List.length_replicate, List.length_set]; omega))
local macro_rules | `(tactic| walk_at "sub") => `(tactic| first | exact List.forall_mem_nil _ | (refine' List.forall_mem_cons.mpr ⟨?a, ?b⟩; (case a => k_mem); (case b => walk_at "sub")) | (intro p hp; k_mem))


local macro_rules | `(tactic| walk_at "rngs") => `(tactic| first | assumption | exact mulZ_rng.1 | exact mulZ_rng.2 | exact divZ_rng.1 | exact divZ_rng.2 | exact rng_lo (by assumption) | exact rng_hi (by assumption) | omega | exact (by assumption : _ → _ ∨ _) (by assumption))
local macro_rules | `(tactic| walk_at "poly_in") => `(tactic| first | assumption | exact PolyIn.mono (by assumption) (by walk_at "sub"))

theorem pmulop_call {news : List (Addr × Obj)} {x y : Addr} {as bs : List Int}
  (B : Below A₀ base outer h₀) (F : Fr h₀ L s.heap m) (X : (hd.heap_39 w.params).In h₀) (N : News h₀ L s.heap news) (T : TopM mean mg mb h₀)
  (hf : env.frame = some L) (hk : env.scope.kind = .function) (hroom : dp + 4 < recursionLimit) (hun : un + 40 < cLine)
  (H1 : PolyIn w news x as) (H2 : PolyIn w news y bs) (ha : ∀ k ∈ as, 1 ≤ k ∧ k < 256) (hb : ∀ k ∈ bs, 1 ≤ k ∧ k < 256) (ha0 : 0 < as.length) (hb0 : 0 < bs.length) (ha1 : as.length ≤ 40) (hb1 : bs.length ≤ 40)
  (hret : ∀ (h' : Heap) (tk' : Nat) (x dx r : Addr) (ox od or : Obj), Fr h₀ L h' m → News h₀ L h' ((x, ox) :: (dx, od) :: (r, or) :: news) → (∀ p ∈ news, p.1 < x) → (∀ p ∈ news, p.1 < dx) → (∀ p ∈ news, p.1 < r) → PolyIn w [(x, ox), (dx, od), (r, or)] x (mulP as bs) → Q (.ref x) { s with heap := h', toks := tk' }) :
  wpAny (model PP w) (AA dp un gd env outer) (binaryOp .Mult (.ref x) (.ref y)) Q E s :=
  pmul_op F X N H1 H2 (mul_call B F X N T hf hk hroom hun H1 H2 ha hb ha0 hb0 ha1 hb1 hret)
theorem pmodop_call {news : List (Addr × Obj)} {x y : Addr} {as bs : List Int}
  (B : Below A₀ base outer h₀) (F : Fr h₀ L s.heap m) (X : (hd.heap_39 w.params).In h₀) (N : News h₀ L s.heap news) (T : TopM mean mg mb h₀)
  (hf : env.frame = some L) (hk : env.scope.kind = .function) (hroom : dp + 40 < recursionLimit) (hun : un + 300 < cLine)
  (hb : ∀ k ∈ bs, 1 ≤ k ∧ k < 256) (hb0 : 2 ≤ bs.length) (hb1 : bs.length ≤ 40)
  (H1 : PolyIn w news x as) (H2 : PolyIn w news y bs) (ha : ∀ k ∈ as, rng k) (ha0 : 0 < as.length) (ha1 : as.length ≤ 60) (hlead : as.length < bs.length ∨ as.getD 0 0 ≠ 0) (hfuel : as.length < bs.length + 15)
  (hret : ∀ (h' : Heap) (tk' : Nat) (z : Addr) (ext : List (Addr × Obj)), Fr h₀ L h' m → News h₀ L h' (ext ++ news) → (∀ p ∈ ext, ∀ q ∈ news, q.1 ≠ p.1) → PolyIn w (ext ++ news) z (modP 15 as bs) → Q (.ref z) { s with heap := h', toks := tk' }) :
  wpAny (model PP w) (AA dp un gd env outer) (binaryOp .Mod (.ref x) (.ref y)) Q E s :=
  pmod_op F X N H1 H2 (mod_call hb hb0 hb1 15 B F X N T hf hk (by omega) (by omega) H1 H2 ha ha0 ha1 hlead hfuel hret)
local macro_rules | `(tactic| walk_at "call ref") => `(tactic| (k_here; (with_reducible show wpAny _ _ (call (Value.ref 94) _) _ _ _); k_dflt (refine' gexp_call ?k1 ?k2 ?k3 ?k4 ?k5 ?k7 ?k8 ?ka ?kb ?_; (case k1 => k_asm); (case k2 => k_asm); (case k3 => k_asm); (case k4 => k_asm); (case k5 => k_asm); (case k7 => exact rfl); (case k8 => exact rfl); (case ka => walk_at "room"); (case kb => walk_at "room"); k_whole); intro t9 h9 tk9 F9 N9; (try k_sweep)))
local macro_rules | `(tactic| walk_at "call builtin:len") => `(tactic| (k_here; (with_reducible show wpAny _ _ (call (Value.builtin "len") [Value.ref _]) _ _ _); k_dflt (refine' plen_call ?k1 ?k2 ?k3 ?k4 ?k5 ?k7 ?k8 ?ka ?kb ?q0 ?q1 ?_; (case k1 => k_asm); (case k2 => k_asm); (case k3 => k_asm); (case k4 => k_asm); (case k5 => k_asm); (case k7 => exact rfl); (case k8 => exact rfl); (case ka => walk_at "room"); (case kb => walk_at "room"); (case q0 => walk_at "poly_in"); (case q1 => walk_at "lens"); k_whole); intro h9 tk9 t9 F9 N9; (try k_sweep)))
local macro_rules | `(tactic| walk_at "call ref") => `(tactic| (k_here; (with_reducible show wpAny _ _ (call (Value.ref 144) _) _ _ _); k_dflt (refine' poly2_call ?k1 ?k2 ?k3 ?k4 ?k5 ?k7 ?k8 ?ka ?kb ?q0 ?q1 ?q2 ?q3 ?q4 ?q5 ?_; (case k1 => k_asm); (case k2 => k_asm); (case k3 => k_asm); (case k4 => k_asm); (case k5 => k_asm); (case k7 => exact rfl); (case k8 => exact rfl); (case ka => walk_at "room"); (case kb => walk_at "room"); (case q0 => k_mem); (case q1 => first | assumption | exact .cons _ _ (.cons _ _ .nil) | exact .cons _ _ .nil); (case q2 => first | assumption | (refine List.ne_nil_of_length_pos ?_; walk_at "lens") | (intro hnil; cases hnil)); (case q3 => walk_at "lens"); (case q4 => omega); (case q5 => omega); k_whole); intro h9 tk9 x9 dx9 r9 ox9 od9 or9 F9 N9 l9 l8 l7 H9; (have l92 := l9); (try k_lt l92); (have l82 := l8); (try k_lt l82); (have l72 := l7); (try k_lt l72); (try k_sweep)))
local macro_rules | `(tactic| walk_at "call ref") => `(tactic| (k_here; (with_reducible show wpAny _ _ (call (Value.ref 144) [Value.ref 23, _]) _ _ _); k_dflt (refine' polyK_call ?k1 ?k2 ?k3 ?k4 ?k5 ?k7 ?k8 ?ka ?kb ?q0 ?q1 ?q2 ?q3 ?q4 ?_; (case k1 => k_asm); (case k2 => k_asm); (case k3 => k_asm); (case k4 => k_asm); (case k5 => k_asm); (case k7 => exact rfl); (case k8 => exact rfl); (case ka => walk_at "room"); (case kb => walk_at "room"); (case q0 => assumption); (case q1 => assumption); (case q2 => omega); (case q3 => omega); (case q4 => decide); k_whole); intro h9 tk9 x9 dx9 r9 ox9 od9 or9 F9 N9 l9 l8 l7 H9; (have l92 := l9); (try k_lt l92); (have l82 := l8); (try k_lt l82); (have l72 := l7); (try k_lt l72); (try k_sweep)))
local macro_rules | `(tactic| walk_at "call ref") => `(tactic| (k_here; (with_reducible show wpAny _ _ (call (Value.ref 144) [Value.ref 24, _]) _ _ _); k_dflt (refine' polyK_call ?k1 ?k2 ?k3 ?k4 ?k5 ?k7 ?k8 ?ka ?kb ?q0 ?q1 ?q2 ?q3 ?q4 ?_; (case k1 => k_asm); (case k2 => k_asm); (case k3 => k_asm); (case k4 => k_asm); (case k5 => k_asm); (case k7 => exact rfl); (case k8 => exact rfl); (case ka => walk_at "room"); (case kb => walk_at "room"); (case q0 => assumption); (case q1 => assumption); (case q2 => omega); (case q3 => omega); (case q4 => decide); k_whole); intro h9 tk9 x9 dx9 r9 ox9 od9 or9 F9 N9 l9 l8 l7 H9; (have l92 := l9); (try k_lt l92); (have l82 := l8); (try k_lt l82); (have l72 := l7); (try k_lt l72); (try k_sweep)))
local macro_rules | `(tactic| walk_at "subscriptTail Name Name ref int") => `(tactic| (k_here; (with_reducible show wpAny _ _ (subscriptTail _ _ (Value.ref _) (Value.int _ _)) _ _ _); k_dflt (refine' pitem_call ?k1 ?k2 ?k3 ?k4 ?k5 ?k7 ?k8 ?ka ?kb ?q0 ?q1 ?q2 ?q3 ?_ ?qs; (case k1 => k_asm); (case k2 => k_asm); (case k3 => k_asm); (case k4 => k_asm); (case k5 => k_asm); (case k7 => exact rfl); (case k8 => exact rfl); (case ka => walk_at "room"); (case kb => walk_at "room"); (case q0 => walk_at "poly_in"); (case q1 => walk_at "lens"); (case q2 => omega); (case q3 => omega); (case qs => with_unfolding_all rfl); k_whole); intro h9 tk9 t9 F9 N9; (try k_sweep)))
local macro_rules | `(tactic| walk_at "getAttr ref") => `(tactic| (k_here; (with_reducible show wpAny _ _ (getAttr (Value.ref _) (Str.ofString "data_count") _) _ _ _); k_dflt (refine' rs_get1 ?k1 ?k2 ?k3 ?k4 ?k5 ?k7 ?k8 ?ka ?kb ?q0 ?q1 ?_; (case k1 => k_asm); (case k2 => k_asm); (case k3 => k_asm); (case k4 => k_asm); (case k5 => k_asm); (case k7 => exact rfl); (case k8 => exact rfl); (case ka => walk_at "room"); (case kb => walk_at "room"); (case q0 => k_mem); (case q1 => k_mem); k_whole); intro h9 tk9 t9 F9 N9; (try k_sweep)))
local macro_rules | `(tactic| walk_at "getAttr ref") => `(tactic| (k_here; (with_reducible show wpAny _ _ (getAttr (Value.ref _) (Str.ofString "total_count") _) _ _ _); k_dflt (refine' rs_get0 ?k1 ?k2 ?k3 ?k4 ?k5 ?k7 ?k8 ?ka ?kb ?q0 ?q1 ?_; (case k1 => k_asm); (case k2 => k_asm); (case k3 => k_asm); (case k4 => k_asm); (case k5 => k_asm); (case k7 => exact rfl); (case k8 => exact rfl); (case ka => walk_at "room"); (case kb => walk_at "room"); (case q0 => k_mem); (case q1 => k_mem); k_whole); intro h9 tk9 t9 F9 N9; (try k_sweep)))
local macro_rules | `(tactic| walk_at "binaryOp Mult ref ref") => `(tactic| (k_here; (with_reducible show wpAny _ _ (binaryOp Operator.Mult (Value.ref _) (Value.ref _)) _ _ _); k_dflt (refine' pmulop_call ?k1 ?k2 ?k3 ?k4 ?k5 ?k7 ?k8 ?ka ?kb ?q0 ?q1 ?q2 ?q3 ?q4 ?q5 ?q6 ?q7 ?_; (case k1 => k_asm); (case k2 => k_asm); (case k3 => k_asm); (case k4 => k_asm); (case k5 => k_asm); (case k7 => exact rfl); (case k8 => exact rfl); (case ka => walk_at "room"); (case kb => walk_at "room"); (case q0 => walk_at "poly_in"); (case q1 => walk_at "poly_in"); (case q2 => assumption); (case q3 => assumption); (case q4 => omega); (case q5 => omega); (case q6 => omega); (case q7 => omega); k_whole); intro h9 tk9 x9 dx9 r9 ox9 od9 or9 F9 N9 l9 l8 l7 H9; (have l92 := l9); (try k_lt l92); (have l82 := l8); (try k_lt l82); (have l72 := l7); (try k_lt l72); (try k_sweep)))
local macro_rules | `(tactic| walk_at "binaryOp Mod ref ref") => `(tactic| (k_here; (with_reducible show wpAny _ _ (binaryOp Operator.Mod (Value.ref _) (Value.ref _)) _ _ _); k_dflt (refine' pmodop_call ?k1 ?k2 ?k3 ?k4 ?k5 ?k7 ?k8 ?ka ?kb ?q0 ?q1 ?q2 ?q3 ?q4 ?q5 ?q6 ?q7 ?q8 ?q9 ?_; (case k1 => k_asm); (case k2 => k_asm); (case k3 => k_asm); (case k4 => k_asm); (case k5 => k_asm); (case k7 => exact rfl); (case k8 => exact rfl); (case ka => walk_at "room"); (case kb => walk_at "room"); (case q0 => assumption); (case q1 => omega); (case q2 => omega); (case q3 => walk_at "poly_in"); (case q4 => walk_at "poly_in"); (case q5 => assumption); (case q6 => omega); (case q7 => omega); (case q8 => assumption); (case q9 => omega); k_whole); intro h9 tk9 z9 ext9 F9 N9 ap9 H9; (try k_sweep)))
local macro_rules | `(tactic| walk_at "compareOp In int ref") => `(tactic| (k_here; (with_reducible show wpAny _ _ (compareOp CmpOp.In (Value.int _ _) (Value.ref 22)) _ _ _); k_dflt (first | (refine' in_lut_t ?zF ?zX ?zk ?_; (case zF => k_asm); (case zX => k_asm); (case zk => omega)) | (refine' in_lut_f ?zF ?zX ?zk ?_; (case zF => k_asm); (case zX => k_asm); (case zk => omega))); k_whole))
local macro_rules | `(tactic| walk_at "subscriptTail Name Name ref int") => `(tactic| (k_here; (with_reducible show wpAny _ _ (subscriptTail _ _ (Value.ref 22) (Value.int _ _)) _ _ _); k_dflt (first | (refine' lut_item (a := 23) ?zF ?zX ?zk ?_ ?zs ?zg; (case zF => k_asm); (case zX => k_asm); (case zk => first | exact .inl ⟨by omega, rfl⟩ | exact .inr ⟨by omega, rfl⟩); (case zs => with_unfolding_all rfl); (case zg => kmk_pure)) | (refine' lut_item (a := 24) ?zF ?zX ?zk ?_ ?zs ?zg; (case zF => k_asm); (case zX => k_asm); (case zk => first | exact .inl ⟨by omega, rfl⟩ | exact .inr ⟨by omega, rfl⟩); (case zs => with_unfolding_all rfl); (case zg => kmk_pure))); k_whole))

structure GoIn : Prop where
  ok : True
def IfPost (g0 : Heap) (L0 : Addr) (M : Str → Option Value) (led : List (Addr × Obj)) (w : World) (e : Nat) (s : Shared) (f : Flow) (s₂ : Shared) : Prop :=
  f = .next ∧ ∃ h' tk' own z u, s₂ = { s with heap := h', toks := tk' } ∧ Fr g0 L0 h' (fun y => if y = Str.ofString "rsPoly" then some (.ref z) else if y = Str.ofString "i" then u else M y) ∧ News g0 L0 h' (own ++ led) ∧ (∀ p ∈ own, ∀ q ∈ led, q.1 ≠ p.1) ∧ PolyIn w own z (genP e)
theorem if_cut {A : Around} {g0 : Heap} {L0 : Addr} {M : Str → Option Value} {led : List (Addr × Obj)} {e : Nat} {t : Sem Flow} {Q : Flow → Shared → Prop} (F : Fr g0 L0 s.heap M) (N : News g0 L0 s.heap led)
    (h1 : ∀ led', led' = led → Fr g0 L0 s.heap M → News g0 L0 s.heap led → GoIn → wpAny (model PP w) A t (IfPost g0 L0 M led' w e s) E s)
    (h2 : ∀ h' tk' own z u, Fr g0 L0 h' (fun y => if y = Str.ofString "rsPoly" then some (.ref z) else if y = Str.ofString "i" then u else M y) → News g0 L0 h' (own ++ led) → (∀ p ∈ own, ∀ q ∈ led, q.1 ≠ p.1) → PolyIn w own z (genP e) → Q .next { s with heap := h', toks := tk' }) : wpAny (model PP w) A t Q E s :=
  wpAny_mono (h1 _ rfl F N ⟨trivial⟩) (fun f s₂ q => by obtain ⟨rfl, h', tk', own, z, u, rfl, a, b, c, d⟩ := q; exact h2 h' tk' own z u a b c d) fun _ _ e => e
theorem fr_id {g0 h : Heap} {L0 : Addr} {M : Str → Option Value} {a b : Str} {v : Option Value} (F : Fr g0 L0 h (fun y => if y = a then v else M y)) : Fr g0 L0 h (fun y => if y = a then v else if y = b then M b else M y) := by
  have q : (fun y => if y = a then v else if y = b then M b else M y) = (fun y => if y = a then v else M y) := by
    funext y
    by_cases e : y = b
    · rw [if_pos e, e]
    · rw [if_neg e]
  rw [q]; exact F
theorem fr_conv {g0 h : Heap} {L0 : Addr} {M u : Str → Option Value} {a b : Str} {v w0 z : Option Value} (hab : a ≠ b) (F : Fr g0 L0 h (fun y => if y = b then v else if [a].contains y = true then u y else if y = a then w0 else M y)) (hu : u a = z) : Fr g0 L0 h (fun y => if y = a then z else if y = b then v else M y) := by
  have q : (fun y => if y = a then z else if y = b then v else M y) = (fun y => if y = b then v else if [a].contains y = true then u y else if y = a then w0 else M y) := by
    funext y
    by_cases e : y = a
    · subst e
      rw [if_pos rfl, if_neg hab, if_pos (by simp), hu]
    · rw [if_neg e, if_neg e]
      have : [a].contains y = false := by simp [e]
      rw [if_neg (show ¬ [a].contains y = true by rw [this]; decide)]
  rw [q]; exact F
theorem if_done {g0 h' : Heap} {L0 x dx r : Addr} {M : Str → Option Value} {led : List (Addr × Obj)} {e tk' : Nat} {ox od or : Obj} {ns : List Int} {u : Option Value} (hg : genP e = ns)
    (F : Fr g0 L0 h' (fun y => if y = Str.ofString "rsPoly" then some (.ref x) else if y = Str.ofString "i" then u else M y)) (N : News g0 L0 h' ((x, ox) :: (dx, od) :: (r, or) :: led)) (l1 : ∀ p ∈ led, p.1 < x) (l2 : ∀ p ∈ led, p.1 < dx) (l3 : ∀ p ∈ led, p.1 < r)
    (H : PolyIn w [(x, ox), (dx, od), (r, or)] x ns) : IfPost g0 L0 M led w e s .next { s with heap := h', toks := tk' } := by
  refine ⟨rfl, h', tk', [(x, ox), (dx, od), (r, or)], x, u, rfl, F, N, ?_, hg ▸ H⟩
  intro p hp q hq
  rcases List.mem_cons.mp hp with rfl | hp
  · exact Nat.ne_of_lt (l1 q hq)
  rcases List.mem_cons.mp hp with rfl | hp
  · exact Nat.ne_of_lt (l2 q hq)
  rcases List.mem_cons.mp hp with rfl | hp
  · exact Nat.ne_of_lt (l3 q hq)
  cases hp
theorem gexp1_good (j : Int) (h0 : 0 ≤ j) (h1 : j ≤ 20) : goodRow (polyZ [1, gexpZ j] 0) = true ∧ (polyZ [1, gexpZ j] 0).length = 2 := by
  have key : ∀ k : Nat, k < 21 → (goodRow (polyZ [1, gexpZ (k : Int)] 0) && decide ((polyZ [1, gexpZ (k : Int)] 0).length = 2)) = true := by decide +kernel
  have := key j.toNat (by omega)
  rw [Int.toNat_of_nonneg h0] at this
  simpa using this
local macro_rules | `(tactic| walk_at "loadName") => `(tactic| (k_here; k_dflt (refine' loadX_C ?zN ?zc ?zm ?zd ?_ ?za ?zb; (case za => rfl); (case zb => rfl); (case zN => k_asm); (case zc => rfl); (case zm => k_mem); (case zd => k_asm); k_whole)))
local macro_rules | `(tactic| walk_at "exec If") => `(tactic| ((fail_if_success (with_reducible rename GoIn => hgo1)); (with_reducible show wpAny _ _ (exec (Stmt.If (PySem.Expr.Compare _ [CmpOp.In] _ _) _ _ _) _) _ _ _); refine Stopped.out ?_))
abbrev bufObj (w : World) (k1 k2 tl : Tok) (len : Int) (b : Addr) : Obj := W.dictOf [⟨PyData.keyHash w.params (Str.ofString "buffer"), .str (Str.ofString "buffer") k1, .ref b⟩, ⟨PyData.keyHash w.params (Str.ofString "length"), .str (Str.ofString "length") k2, .int len tl⟩] 2
theorem flat_le {rows : List (List Int)} {i : Nat} {r : List Int} (h : rows[i]? = some r) : (rows.take i).flatten.length + r.length ≤ rows.flatten.length := by
  obtain ⟨hi, e⟩ := List.getElem?_eq_some_iff.mp h
  have : rows = rows.take i ++ r :: rows.drop (i + 1) := by rw [← e, ← List.drop_eq_getElem_cons hi, List.take_append_drop]
  have h2 : rows.flatten.length = (rows.take i ++ r :: rows.drop (i + 1)).flatten.length := by rw [← this]
  rw [List.flatten_append, List.flatten_cons, List.length_append, List.length_append] at h2
  omega
theorem flat_get {rows : List (List Int)} {i : Nat} {r : List Int} (h : rows[i]? = some r) {k : Nat} (hk : k < r.length) : rows.flatten.getD ((rows.take i).flatten.length + k) 0 = r.getD k 0 := by
  obtain ⟨hi, e⟩ := List.getElem?_eq_some_iff.mp h
  have : rows = rows.take i ++ r :: rows.drop (i + 1) := by rw [← e, ← List.drop_eq_getElem_cons hi, List.take_append_drop]
  have h2 : rows.flatten = (rows.take i ++ r :: rows.drop (i + 1)).flatten := by rw [← this]
  rw [h2, List.flatten_append, List.flatten_cons, List.getD_eq_getElem?_getD, List.getD_eq_getElem?_getD, List.getElem?_append_right (by omega), List.getElem?_append_left (by omega)]
  congr 2
  omega
theorem flat_len {rows : List (List Int)} (h : ∀ r ∈ rows, r.length ≤ 5) (h3 : rows.length ≤ 3) : rows.flatten.length ≤ 15 := by
  have key : ∀ rows : List (List Int), (∀ r ∈ rows, r.length ≤ 5) → rows.flatten.length ≤ 5 * rows.length := by
    intro rows
    induction rows with
    | nil => intro _; simp
    | cons r rs ih =>
      intro h
      have a := ih fun r hr => h r (.tail _ hr)
      have b := h r (.head _)
      rw [List.flatten_cons, List.length_append, List.length_cons]; omega
  have := key rows h
  omega
theorem bitAnd255 {k : Int} (h : rng k) : Builtin.bitAnd 255 k = k := by
  have key : ∀ n : Nat, n < 256 → Builtin.bitAnd 255 (n : Int) = n := by decide +kernel
  have h0 := h.1
  have h1 := h.2
  have := key k.toNat (by omega)
  rwa [Int.toNat_of_nonneg h0] at this
theorem leadZ_nz : ∀ {ns : List Int}, (∃ k ∈ ns, k ≠ 0) → ns.getD (leadZ ns) 0 ≠ 0
  | [], h => by obtain ⟨k, hk, _⟩ := h; cases hk
  | [a], h => by
    obtain ⟨k, hk, h0⟩ := h
    rw [List.mem_singleton.mp hk] at h0
    exact h0
  | a :: b :: r, h => by
    unfold leadZ
    by_cases e : a = 0
    · rw [if_pos e]
      have : ∃ k ∈ b :: r, k ≠ 0 := by
        obtain ⟨k, hk, h0⟩ := h
        rcases List.mem_cons.mp hk with q | hk
        · exact absurd (q.trans e) h0
        · exact ⟨k, hk, h0⟩
      simpa using leadZ_nz this
    · rw [if_neg e]; simpa using e
theorem polyZ_facts {r : List Int} {e : Nat} (h : ∀ k ∈ r, rng k) (hn : ∃ k ∈ r, k ≠ 0) : (∀ k ∈ polyZ r e, rng k) ∧ 0 < (polyZ r e).length ∧ (polyZ r e).length ≤ r.length + e ∧ (polyZ r e).getD 0 0 ≠ 0 := by
  have hne : r ≠ [] := by obtain ⟨k, hk, _⟩ := hn; intro e; rw [e] at hk; cases hk
  have hl := leadZ_lt hne
  unfold polyZ
  refine ⟨?_, ?_, ?_, ?_⟩
  · intro k hk
    rcases List.mem_append.mp hk with hk | hk
    · exact h k (List.mem_of_mem_drop hk)
    · rw [(List.mem_replicate.mp hk).2]; exact rng0
  · rw [List.length_append, List.length_drop]; omega
  · rw [List.length_append, List.length_drop, List.length_replicate]; omega
  · have := leadZ_nz hn
    rw [List.getD_eq_getElem?_getD, List.getElem?_append_left (by rw [List.length_drop]; omega), List.getElem?_drop]
    rw [List.getD_eq_getElem?_getD] at this
    simpa using this
theorem modP_len {bs : List Int} : ∀ (f : Nat) {as : List Int}, (modP f as bs).length ≤ as.length
  | 0, _ => Nat.le_refl _
  | f + 1, as => by
    unfold modP
    split
    · exact Nat.le_refl _
    · refine Nat.le_trans (modP_len f) ?_
      rw [polyZ_zero, List.length_drop, modStep_len (by omega)]
      omega
theorem ecs_succ (m : List Int) (e j : Nat) : ecs m e (j + 1) = ecs m e j ++ [if 0 ≤ (j : Int) + ((m.length : Int) - e) then m.getD ((j : Int) + ((m.length : Int) - e)).toNat 0 else 0] := by
  unfold ecs; rw [List.range_succ, List.map_append]; rfl
theorem sub_re {E D I D2 D1 C1 C2 a b c : Addr × Obj} {ext rs : List (Addr × Obj)} : ∀ p ∈ E :: D :: I :: D2 :: D1 :: C1 :: C2 :: (ext ++ a :: b :: c :: rs), p ∈ E :: (ext ++ a :: b :: c :: D :: I :: D2 :: D1 :: C1 :: C2 :: rs) := by
  intro p hp
  simp only [List.mem_cons, List.mem_append] at *
  grind
theorem ne_re {a b c : Addr × Obj} {ext rs : List (Addr × Obj)} {X : Addr} (h1 : ∀ p ∈ ext, p.1 ≠ X) (ha : a.1 ≠ X) (hb : b.1 ≠ X) (hc : c.1 ≠ X) (h2 : ∀ p ∈ rs, p.1 ≠ X) : ∀ p ∈ ext ++ a :: b :: c :: rs, p.1 ≠ X := by
  intro p hp
  rcases List.mem_append.mp hp with hp | hp
  · exact h1 p hp
  rcases List.mem_cons.mp hp with rfl | hp
  · exact ha
  rcases List.mem_cons.mp hp with rfl | hp
  · exact hb
  rcases List.mem_cons.mp hp with rfl | hp
  · exact hc
  exact h2 p hp
theorem maxLen_le {rows : List (List Int)} {k : Nat} (h : ∀ r ∈ rows, r.length ≤ k) : maxLen rows ≤ k := by
  have key : ∀ (rows : List (List Int)) (m : Nat), m ≤ k → (∀ r ∈ rows, r.length ≤ k) → rows.foldl (fun m r => max m r.length) m ≤ k := by
    intro rows
    induction rows with
    | nil => intro m hm _; exact hm
    | cons r rs ih => intro m hm h; exact ih _ (Nat.max_le.mpr ⟨hm, h r (.head _)⟩) fun r hr => h r (.tail _ hr)
  exact key rows 0 (Nat.zero_le _) h
set_option maxHeartbeats 8000000 in
theorem create_call {news : List (Addr × Obj)} {x dx b bl : Addr} {vs bs : List Value} {n nb : Nat} {len : Int} {k1 k2 tl : Tok} {rows : List (List Int)} {e : Nat}
  (B : Below A₀ base outer h₀) (F : Fr h₀ L s.heap m) (X : (hd.heap_39 w.params).In h₀) (N : News h₀ L s.heap news) (T : TopM mean mg mb h₀)
  (hf : env.frame = some L) (hk : env.scope.kind = .function) (hroom : dp + 60 < recursionLimit) (hun : un + 400 < cLine)
  (hx : (x, instObj 269 dx) ∈ news) (hdx : (dx, bufObj w k1 k2 tl len b) ∈ news) (hb : (b, W.listOf vs.toArray n) ∈ news) (hi : IntsAre vs rows.flatten)
  (hbl : (bl, W.listOf bs.toArray nb) ∈ news) (hB : BlkIn news e bs rows) (he : okE e = true) (hr : ∀ r ∈ rows, r.length ≤ 5 ∧ (∀ k ∈ r, rng k) ∧ ∃ k ∈ r, k ≠ 0) (hr0 : 0 < rows.length) (hrl : rows.length ≤ 3)
  (hret : ∀ (h' : Heap) (tk' : Nat) (r : Addr) (vr : List Value) (nr : Nat), Fr h₀ L h' m → News h₀ L h' ((r, W.listOf vr.toArray nr) :: news) → (∀ p ∈ news, p.1 < r) → IntsAre vr (dealOut rows (maxLen rows) ++ dealOut (rows.map (ecZ e)) e) → Q (.ref r) { s with heap := h', toks := tk' }) :
  wpAny (model PP w) (AA dp un gd env outer) (call (.ref 278) [.ref x, .ref bl]) Q E s := by
  have hbs := hB.length
  walk_at "my_enterC"
  walk_at "my_steps"
  refine ⟨?_⟩
  rename_i g0 L0 h9 tk9 FG0 B0 X0 T0 l0 o1 o2 d1 d2 h8 oo d0 h7 h6 D1 h5 w1 h4 D2 h3 q2 h2 F₁ N₁
  have c2 : o2.data = .cell (some (.ref x)) := d2
  clear d1 d2
  have ho0 : L0 + 1 + 1 < D2 := q2.2.1
  refine list_loopC ["dcCount", "ecCount", "maxDcCount", "maxEcCount", "current_dc", "rsPoly", "i", "rawPoly", "modPoly", "current_ec", "mod_offset", "modIndex", "zz"]
    (fun i u nx => ∃ own oc v1 v2 n1 n2 t0 t1 t2, nx = (D2, W.listOf v2.toArray n2) :: (D1, W.listOf v1.toArray n1) :: (L0 + 1 + 1, oc) :: (L0 + 1, o2) :: (own ++ news) ∧ (∀ p ∈ own, p.1 ≠ D2 ∧ p.1 ≠ D1 ∧ p.1 ≠ L0 + 1 + 1) ∧ oc.data = .cell (some (.int ((rows.take i).flatten.length : Int) t0)) ∧
      RowsIn own v1 (rows.take i) ∧ RowsIn own v2 ((rows.take i).map (ecZ e)) ∧ u "maxDcCount" = some (.int (maxLen (rows.take i) : Int) t1) ∧ u "maxEcCount" = some (.int (if i = 0 then 0 else (e : Int)) t2))
    rfl (.tail _ (.tail _ (.tail _ (.tail _ hbl)))) ?_ F₁ N₁ ⟨[], oo, [], [], 0, 0, _, _, _, rfl, (fun p hp => nomatch hp), d0, .nil, .nil, rfl, rfl⟩ ?_ ?_
  · rintro i m nx ⟨own, oc, v1, v2, n1, n2, t0, t1, t2, rfl, _⟩
    exact .tail _ (.tail _ (.tail _ (.tail _ (List.mem_append_right _ hbl))))
  · rintro i v I u nx h tk oi hv hnx ⟨own, oc, v1, v2, n1, n2, t0, t1, t2, rfl, hown, hoc, r1, r2, e1, e2⟩ F₁ N₁
    replace F₁ := frx (a := "maxDcCount") (frx (a := "maxEcCount") F₁ (by exact e2)) (by exact e1)
    obtain ⟨y, dy, ta, tb, r, rfl, hri, hy, hdy⟩ := hB.get hv
    have hn1 : D2 ≠ I := (List.forall_mem_cons.mp hnx).1
    have hn2 : D1 ≠ I := (List.forall_mem_cons.mp (List.forall_mem_cons.mp hnx).2).1
    have hn3 : L0 + 1 + 1 ≠ I := (List.forall_mem_cons.mp (List.forall_mem_cons.mp (List.forall_mem_cons.mp hnx).2).2).1
    have hq1 : ∀ p ∈ own ++ news, p.1 ≠ D2 := by
      intro p hp
      rcases List.mem_append.mp hp with hp | hp
      · exact (hown p hp).1
      · exact allLt_ne q2.2.2.2 p hp
    have hq2 : ∀ p ∈ own ++ news, p.1 ≠ D1 := by
      intro p hp
      rcases List.mem_append.mp hp with hp | hp
      · exact (hown p hp).2.1
      · exact allLt_ne w1.2.2 p hp
    have hq3 : ∀ p ∈ own ++ news, p.1 ≠ L0 + 1 + 1 := by
      intro p hp
      rcases List.mem_append.mp hp with hp | hp
      · exact (hown p hp).2.2
      · exact Nat.ne_of_lt (Nat.lt_trans (l0 p hp) (Nat.lt_succ_of_lt (Nat.lt_succ_self _)))
    have hs1 : ∀ p ∈ news, p ∈ own ++ news := fun p hp => List.mem_append_right _ hp
    have hs2 : ∀ p ∈ own, p ∈ own ++ news := fun p hp => List.mem_append_left _ hp
    have hy' := hs1 _ hy
    have hdy' := hs1 _ hdy
    have hx' := hs1 _ hx
    have hdx' := hs1 _ hdx
    have hb' := hs1 _ hb
    generalize own ++ news = rs at *
    clear hx hdx hb hy hdy hbl
    have hrr := hr r (List.mem_of_getElem? hri)
    have hrl5 := hrr.1
    have hfl : (rows.take i).flatten.length + r.length ≤ rows.flatten.length := flat_le hri
    have hfg : ∀ k, k < r.length → rows.flatten.getD ((rows.take i).flatten.length + k) 0 = r.getD k 0 := fun k hk => flat_get hri hk
    have hvl := hi.length
    have hfb : rows.flatten.length ≤ 15 := flat_len (fun r hr' => (hr r hr').1) hrl
    walk_at "my_steps"
    refine ⟨?_⟩
    rename IsRange _ _ _ _ _ _ _ _ => R₂
    rename Fr _ _ _ _ => F₂
    rename News _ _ _ _ => N₂
    refine comp_range r.length (fun i ys nx => nx = _ ∧ IntsAre ys (r.take i))
      rfl R₂ (by omega) (by decide) (by decide) (by omega) (by omega) F₂ N₂ ⟨rfl, .nil⟩ ?_ ?_
    · rintro j k t I₂ oI C oC D m₂ ys nx h tk E' hj1 hkk ⟨rfl, q1⟩ hC hx F₂ N₂ off ne
      have hkk : k = (j : Int) := by omega
      subst hkk
      have hgj := hfg j hj1
      walk_at "my_steps"
      rename Fr _ _ _ _ => F₃
      rename News _ _ _ _ => N₃
      refine cend F₃ N₃ (by k_mem) (by k_mem) (by k_mem) (by walk_at "sub") off ⟨rfl, ?_⟩
      have z1 : ((j : Int) + ((rows.take i).flatten.length : Int)).toNat = (rows.take i).flatten.length + j := by omega
      rw [z1, hgj, bitAnd255 (getD_rng hrr.2.1 j), List.take_add_one]
      have z2 : r[j]?.toList = [r.getD j 0] := by rw [List.getD_eq_getElem?_getD, List.getElem?_eq_getElem hj1]; rfl
      rw [z2]
      exact ints_snoc q1
    · rintro g ys nx ⟨rfl, q1⟩ D h tk F₂ N₂ off
      have off1 := off
      simp only [LCg.Off1] at off
      have hyl := q1.length
      rw [List.take_length] at q1
      have hec : (r.length : Int) + e - r.length = e := by omega
      walk_at "my_steps"
      refine ⟨?_⟩
      rename Fr _ _ _ _ => F₃
      rename News _ _ _ _ => N₃
      rename_i hX0 oc9 hoc9
      rw [hec] at F₃
      refine if_cut (e := e) F₃ N₃ ?_ ?_
      · clear F₃ N₃
        intro led hled F₄ N₄ hgo
        obtain ⟨v7, hK7, hI7⟩ := ints23 (w := w)
        obtain ⟨v10, hK10, hI10⟩ := ints24 (w := w)
        have hl7 : v7.length = 8 := hI7.length
        have hl10 : v10.length = 11 := hI10.length
        by_cases c7 : e = 7
        · walk_at "my_steps"
          rename Fr _ _ _ _ => F9
          rename News _ _ _ _ => N9
          rename_i x9 dx9 r9 ox9 od9 or9 l9 l8 l7 H9 l92 l82 l72 h8
          rw [hled]
          exact if_done (by unfold genP; rw [if_pos c7]) (fr_id F9) N9 l9 l8 l7 H9
        · by_cases c10 : e = 10
          · walk_at "my_steps"
            rename Fr _ _ _ _ => F9
            rename News _ _ _ _ => N9
            rename_i x9 dx9 r9 ox9 od9 or9 l9 l8 l7 H9 l92 l82 l72 h8
            rw [hled]
            exact if_done (by unfold genP; rw [if_neg c7, if_pos c10]) (fr_id F9) N9 l9 l8 l7 H9
          · have c28 : (e : Int) = 2 ∨ (e : Int) = 3 ∨ (e : Int) = 4 ∨ (e : Int) = 5 ∨ (e : Int) = 6 ∨ (e : Int) = 8 := by
              unfold okE at he
              simp at he
              omega
            walk_at "my_steps"
            refine ⟨?_⟩
            rename IsRange _ _ _ _ _ _ _ _ => R₅
            rename Fr _ _ _ _ => F₅
            rename News _ _ _ _ => N₅
            rename_i x9 dx9 r9 ox9 od9 or9 l9 l8 l7 H9 l92 l82 l72 h8 r5 h5 u5 v5 tk5
            replace N₅ := news_sub (news' := (x9, ox9) :: (dx9, od9) :: (r9, or9) :: led) N₅ (by rw [hled]; walk_at "sub")
            replace l9 : ∀ p ∈ led, p.1 < x9 := by rw [hled]; exact fun p hp => l9 p (.tail _ hp)
            replace l8 : ∀ p ∈ led, p.1 < dx9 := by rw [hled]; exact fun p hp => l8 p (.tail _ hp)
            replace l7 : ∀ p ∈ led, p.1 < r9 := by rw [hled]; exact fun p hp => l7 p (.tail _ hp)
            clear hled
            refine range_loopC e ["rsPoly"] (fun j u nx => ∃ x dx r ox od or, nx = (x, ox) :: (dx, od) :: (r, or) :: led ∧ (∀ p ∈ led, p.1 < x) ∧ (∀ p ∈ led, p.1 < dx) ∧ (∀ p ∈ led, p.1 < r) ∧ PolyIn w [(x, ox), (dx, od), (r, or)] x (genZ j) ∧ u "rsPoly" = some (.ref x))
              rfl R₅ (by omega) (by decide) (by decide) (by omega) (by omega) F₅ N₅ ⟨x9, dx9, r9, ox9, od9, or9, rfl, l9, l8, l7, H9, rfl⟩ ?_ ?_
            · rintro j k t I₅ u nx h tk oi₅ hj1 hkk hnx₅ ⟨x1, dx1, r1, ox1, od1, or1, rfl, p1, p2, p3, H1, e1⟩ F₁ N₁
              have hkk : k = (j : Int) := by omega
              subst hkk
              replace F₁ := frx (a := "rsPoly") F₁ (by exact e1)
              have hgz := genZ_good j (by omega)
              have hgz1 := goodRow_is hgz.1
              have hgz2 := hgz.2
              have hgg := gexp1_good (j : Int) (by omega) (by omega)
              have hgg1 : ∀ k ∈ polyZ [1, gexpZ (j : Int)] (Int.toNat 0), 1 ≤ k ∧ k < 256 := goodRow_is hgg.1
              have hgg2 : (polyZ [1, gexpZ (j : Int)] (Int.toNat 0)).length = 2 := hgg.2
              walk_at "my_steps"
              rename Fr _ _ _ _ => F6
              rename News _ _ _ _ => N6
              rename_i x2 dx2 r2 ox2 od2 or2 F9 N9 l9 l8 l7 H9 l92 l82 l72 h8
              refine tpost_next F6 N6 (by k_mem) (nx := (x2, ox2) :: (dx2, od2) :: (r2, or2) :: led) (by walk_at "sub")
                (List.forall_mem_cons.mpr ⟨Ne.symm (Nat.ne_of_lt (l9 (I₅, oi₅) (by k_mem))), List.forall_mem_cons.mpr ⟨Ne.symm (Nat.ne_of_lt (l8 (I₅, oi₅) (by k_mem))), List.forall_mem_cons.mpr ⟨Ne.symm (Nat.ne_of_lt (l7 (I₅, oi₅) (by k_mem))), fun p hp => hnx₅ p (.tail _ (.tail _ (.tail _ hp)))⟩⟩⟩)
                ⟨⟨x2, dx2, r2, ox2, od2, or2, rfl, fun p hp => l9 p (by k_mem), fun p hp => l8 p (by k_mem), fun p hp => l7 p (by k_mem), H9, rfl⟩, by walk_at "keep"⟩
            · rintro u nx h tk ⟨x1, dx1, r1, ox1, od1, or1, rfl, p1, p2, p3, H1, e1⟩ F₁ N₁
              replace F₁ := fr_conv (by decide) F₁ e1
              walk_at "my_steps"
              exact if_done (by unfold genP; rw [if_neg c7, if_neg c10]) F₁ N₁ p1 p2 p3 H1
      · clear F₃ N₃
        intro h' tk' own2 z u2 F₄ N₄ hap Hz
        have hp1 : ∀ p ∈ own2 ++ rs, p.1 ≠ D2 := by
          intro p hp
          rcases List.mem_append.mp hp with hp | hp
          · exact Ne.symm (hap p hp _ (.tail _ (.tail _ (.head _))))
          · exact hq1 p hp
        have hp2 : ∀ p ∈ own2 ++ rs, p.1 ≠ D1 := by
          intro p hp
          rcases List.mem_append.mp hp with hp | hp
          · exact Ne.symm (hap p hp _ (.tail _ (.tail _ (.tail _ (.head _)))))
          · exact hq2 p hp
        have hp3 : ∀ p ∈ own2 ++ rs, p.1 ≠ L0 + 1 + 1 := by
          intro p hp
          rcases List.mem_append.mp hp with hp | hp
          · exact Ne.symm (hap p hp _ (.tail _ (.tail _ (.tail _ (.tail _ (.head _))))))
          · exact hq3 p hp
        have hsr : ∀ p ∈ rs, p ∈ own2 ++ rs := fun p hp => List.mem_append_right _ hp
        have hso : ∀ p ∈ own2, p ∈ own2 ++ rs := fun p hp => List.mem_append_left _ hp
        have N₅ := news_sub (news' := (D, LCg.lst ys) :: (I, oi) :: (D2, W.listOf v2.toArray n2) :: (D1, W.listOf v1.toArray n1) :: (L0 + 1 + 1, oc9) :: (L0 + 1, o2) :: (own2 ++ rs)) N₄ (by
          intro p hp
          rcases List.mem_cons.mp hp with rfl | hp
          · exact List.mem_append_right _ (.head _)
          rcases List.mem_cons.mp hp with rfl | hp
          · exact List.mem_append_right _ (.tail _ (.head _))
          rcases List.mem_cons.mp hp with rfl | hp
          · exact List.mem_append_right _ (.tail _ (.tail _ (.head _)))
          rcases List.mem_cons.mp hp with rfl | hp
          · exact List.mem_append_right _ (.tail _ (.tail _ (.tail _ (.head _))))
          rcases List.mem_cons.mp hp with rfl | hp
          · exact List.mem_append_right _ (.tail _ (.tail _ (.tail _ (.tail _ (.head _)))))
          rcases List.mem_cons.mp hp with rfl | hp
          · exact List.mem_append_right _ (.tail _ (.tail _ (.tail _ (.tail _ (.tail _ (.head _))))))
          rcases List.mem_append.mp hp with hp | hp
          · exact List.mem_append_left _ hp
          · exact List.mem_append_right _ (.tail _ (.tail _ (.tail _ (.tail _ (.tail _ (.tail _ hp)))))))
        replace Hz := Hz.mono hso
        clear N₄ hap
        generalize own2 ++ rs = rs2 at *
        have hgp := genP_good he
        have hgp1 := goodRow_is hgp.1
        have hgp2 := hgp.2.1
        have he2 := hgp.2.2.1
        have he10 := hgp.2.2.2
        have hrp : 0 < r.length := by
          obtain ⟨k, hk, _⟩ := hrr.2.2
          exact List.length_pos_of_mem hk
        have hrne := List.ne_nil_of_length_pos hrp
        have hsh : (((genP e).length : Int) - 1).toNat = e := by omega
        have hpz := polyZ_facts (e := e) hrr.2.1 hrr.2.2
        have hz1 : ∀ k ∈ polyZ r (((genP e).length : Int) - 1).toNat, rng k := by rw [hsh]; exact hpz.1
        have hz2 : 0 < (polyZ r (((genP e).length : Int) - 1).toNat).length := by rw [hsh]; exact hpz.2.1
        have hz3 : (polyZ r (((genP e).length : Int) - 1).toNat).length ≤ r.length + e := by rw [hsh]; exact hpz.2.2.1
        have hz4 : (polyZ r (((genP e).length : Int) - 1).toNat).length < (genP e).length ∨ (polyZ r (((genP e).length : Int) - 1).toNat).getD 0 0 ≠ 0 := by rw [hsh]; exact .inr hpz.2.2.2
        have hml : (modP 15 (polyZ r (((genP e).length : Int) - 1).toNat) (genP e)).length ≤ 20 := Nat.le_trans (modP_len 15) (by omega)
        have hmm : modP 15 (polyZ r (((genP e).length : Int) - 1).toNat) (genP e) = modM e r := by unfold modM; rw [hsh]
        walk_at "my_steps"
        refine ⟨?_⟩
        rename IsRange _ _ _ _ _ _ _ _ => R₆
        rename Fr _ _ _ _ => F₆
        rename News _ _ _ _ => N₆
        rename_i x9 dx9 r9 ox9 od9 or9 l9 l8 l7 H8 l92 l82 l72 h1 tk1 h2 tk2 z9 ext9 ap9 H9 h3 E9 h4 lE h5 tk3 h6 tk4 t4 h7 r6 h8 u6 v6 tk6
        obtain ⟨tl, htl⟩ : ∃ tl, tl = ext9 ++ (x9, ox9) :: (dx9, od9) :: (r9, or9) :: (D, LCg.lst ys) :: (I, oi) :: (D2, W.listOf v2.toArray n2) :: (D1, W.listOf v1.toArray n1) :: (L0 + 1 + 1, oc9) :: (L0 + 1, o2) :: rs2 := ⟨_, rfl⟩
        rw [← htl] at H9 N₆ lE
        rw [hmm] at H9 F₆ hml
        refine range_loopC e ["modIndex", "zz"] (fun j u nx => ∃ ve ne, nx = (E9, W.listOf ve.toArray ne) :: tl ∧ IntsAre ve (ecs (modM e r) e j))
          rfl R₆ (by omega) (by decide) (by decide) (by omega) (by omega) F₆ N₆ ⟨[], 0, rfl, .nil⟩ ?_ ?_
        · rintro j k t I₆ u nx h tk oi₆ hj1 hkk hnx₆ ⟨ve, ne, rfl, qe⟩ F₁ N₁
          have hkk : k = (j : Int) := by omega
          subst hkk
          have hn6 : E9 ≠ I₆ := (List.forall_mem_cons.mp hnx₆).1
          have hn7 : ∀ p ∈ tl, p.1 ≠ E9 := lt_all_ne lE
          have hel := qe.length
          have hel2 : (ecs (modM e r) e j).length = j := by unfold ecs; simp
          clear lE htl
          walk_at "my_steps"
          all_goals
            rename Fr _ _ _ _ => F7
            rename News _ _ _ _ => N7
          · refine tpost_next F7 N7 (by k_mem) (nx := (E9, W.listOf (ve ++ [_]).toArray (ne + 1)) :: tl) (by walk_at "sub") (List.forall_mem_cons.mpr ⟨hn6, (List.forall_mem_cons.mp hnx₆).2⟩) ⟨⟨_, _, rfl, ?_⟩, by walk_at "keep"⟩
            rw [ecs_succ, if_pos (by omega)]
            exact ints_snoc qe
          · refine tpost_next F7 N7 (by k_mem) (nx := (E9, W.listOf (ve ++ [_]).toArray (ne + 1)) :: tl) (by walk_at "sub") (List.forall_mem_cons.mpr ⟨hn6, (List.forall_mem_cons.mp hnx₆).2⟩) ⟨⟨_, _, rfl, ?_⟩, by walk_at "keep"⟩
            rw [ecs_succ, if_neg (by omega)]
            exact ints_snoc qe
        · rintro u nx h tk ⟨ve, ne, rfl, qe⟩ F₁ N₁
          have hE : ∀ p ∈ tl, p.1 ≠ E9 := lt_all_ne lE
          subst htl
          have hED : D ≠ E9 := hE (D, LCg.lst ys) (List.mem_append_right _ (.tail _ (.tail _ (.tail _ (.head _)))))
          have hED2 : D2 ≠ E9 := hE (D2, _) (List.mem_append_right _ (.tail _ (.tail _ (.tail _ (.tail _ (.tail _ (.head _)))))))
          have hED1 : D1 ≠ E9 := hE (D1, _) (List.mem_append_right _ (.tail _ (.tail _ (.tail _ (.tail _ (.tail _ (.tail _ (.head _))))))))
          have hEC : L0 + 1 + 1 ≠ E9 := hE (L0 + 1 + 1, _) (List.mem_append_right _ (.tail _ (.tail _ (.tail _ (.tail _ (.tail _ (.tail _ (.tail _ (.head _)))))))))
          have hEI : I ≠ E9 := hE (I, _) (List.mem_append_right _ (.tail _ (.tail _ (.tail _ (.tail _ (.head _))))))
          have hDD2 : D2 ≠ D := off.2.1
          have hDD1 : D1 ≠ D := off.2.2.1
          have hDC : L0 + 1 + 1 ≠ D := off.2.2.2.1
          have hDI : I ≠ D := off.1
          have hD12 : D1 ≠ D2 := neN (Nat.ne_of_lt q2.1)
          have hC2 : L0 + 1 + 1 ≠ D2 := neN (Nat.ne_of_lt ho0)
          have hC1 : L0 + 1 + 1 ≠ D1 := neN (Nat.ne_of_lt w1.1)
          have hC12 : L0 + 1 ≠ D2 := neN (Nat.ne_of_lt q2.2.2.1)
          have hC11 : L0 + 1 ≠ D1 := neN (Nat.ne_of_lt w1.2.1)
          have N₂ := news_sub N₁ sub_re
          have hz2' := ne_re (X := D2) (fun p hp => Ne.symm (ap9 p hp (D2, _) (.tail _ (.tail _ (.tail _ (.tail _ (.tail _ (.head _)))))))) (Ne.symm (Nat.ne_of_lt (l9 (D2, _) (.tail _ (.tail _ (.head _)))))) (Ne.symm (Nat.ne_of_lt (l8 (D2, _) (.tail _ (.tail _ (.head _)))))) (Ne.symm (Nat.ne_of_lt (l7 (D2, _) (.tail _ (.tail _ (.head _)))))) hp1 (a := (x9, ox9)) (b := (dx9, od9)) (c := (r9, or9))
          have hz1' := ne_re (X := D1) (fun p hp => Ne.symm (ap9 p hp (D1, _) (.tail _ (.tail _ (.tail _ (.tail _ (.tail _ (.tail _ (.head _))))))))) (Ne.symm (Nat.ne_of_lt (l9 (D1, _) (.tail _ (.tail _ (.tail _ (.head _))))))) (Ne.symm (Nat.ne_of_lt (l8 (D1, _) (.tail _ (.tail _ (.tail _ (.head _))))))) (Ne.symm (Nat.ne_of_lt (l7 (D1, _) (.tail _ (.tail _ (.tail _ (.head _))))))) hp2 (a := (x9, ox9)) (b := (dx9, od9)) (c := (r9, or9))
          have hsz : ∀ p ∈ rs2, p ∈ ext9 ++ (x9, ox9) :: (dx9, od9) :: (r9, or9) :: rs2 := fun p hp => List.mem_append_right _ (.tail _ (.tail _ (.tail _ hp)))
          clear N₁ hE lE ap9 l9 l8 l7 l92 l82 l72 H9
          generalize ext9 ++ (x9, ox9) :: (dx9, od9) :: (r9, or9) :: rs2 = rs3 at *
          have hv1 := r1.length
          have hv2 := r2.length
          simp only [List.length_map, List.length_take] at hv1 hv2
          walk_at "my_steps"
          rename Fr _ _ _ _ => F8
          rename News _ _ _ _ => N8
          have htk : rows.take (i + 1) = rows.take i ++ [r] := by rw [List.take_add_one, hri]; rfl
          have hfl' : ((rows.take (i + 1)).flatten.length : Int) = ((rows.take i).flatten.length : Int) + r.length := by rw [htk, List.flatten_append, List.length_append]; simp
          have hmx : (if (r.length : Int) > (maxLen (rows.take i) : Int) then (r.length : Int) else (maxLen (rows.take i) : Int)) = (maxLen (rows.take (i + 1)) : Int) := by
            have : maxLen (rows.take (i + 1)) = max (maxLen (rows.take i)) r.length := by unfold maxLen; rw [htk, List.foldl_append]; rfl
            rw [this]; split <;> omega
          have hmy : (if (e : Int) > (if i = 0 then 0 else (e : Int)) then (e : Int) else if i = 0 then 0 else (e : Int)) = (if i + 1 = 0 then 0 else (e : Int)) := by
            rw [if_neg (Nat.succ_ne_zero i)]; split <;> split <;> omega
          refine tpost_next F8 N8 (by k_mem) (nx := (D2, W.listOf (v2 ++ [Value.ref E9]).toArray (n2 + 1)) :: (D1, W.listOf (v1 ++ [Value.ref D]).toArray (n1 + 1)) :: (L0 + 1 + 1, oc9) :: (L0 + 1, o2) :: (((E9, W.listOf ve.toArray ne) :: (D, LCg.lst ys) :: own) ++ news)) ?_ ?_
            ⟨⟨(E9, W.listOf ve.toArray ne) :: (D, LCg.lst ys) :: own, oc9, v1 ++ [.ref D], v2 ++ [.ref E9], n1 + 1, n2 + 1, _, _, _, rfl, ?_, by rw [hfl']; exact hoc9, ?_, ?_, by rw [← hmx]; rfl, by rw [← hmy]; rfl⟩, by walk_at "keep"⟩
          · refine List.forall_mem_cons.mpr ⟨by k_mem, List.forall_mem_cons.mpr ⟨by k_mem, List.forall_mem_cons.mpr ⟨by k_mem, List.forall_mem_cons.mpr ⟨by k_mem, ?_⟩⟩⟩⟩
            refine List.forall_mem_cons.mpr ⟨by k_mem, List.forall_mem_cons.mpr ⟨by k_mem, ?_⟩⟩
            intro p hp
            refine .tail _ (.tail _ (.tail _ (.tail _ (.tail _ (.tail _ (.tail _ (hsz p (hsr p ?_))))))))
            rcases List.mem_append.mp hp with hp | hp
            · exact hs2 p hp
            · exact hs1 p hp
          · refine List.forall_mem_cons.mpr ⟨hn1, List.forall_mem_cons.mpr ⟨hn2, List.forall_mem_cons.mpr ⟨hn3, List.forall_mem_cons.mpr ⟨hnx (L0 + 1, o2) (.tail _ (.tail _ (.tail _ (.head _)))), ?_⟩⟩⟩⟩
            refine List.forall_mem_cons.mpr ⟨Ne.symm hEI, List.forall_mem_cons.mpr ⟨Ne.symm hDI, ?_⟩⟩
            intro p hp
            refine hnx p (.tail _ (.tail _ (.tail _ (.tail _ ?_))))
            rcases List.mem_append.mp hp with hp | hp
            · exact hs2 p hp
            · exact hs1 p hp
          · exact List.forall_mem_cons.mpr ⟨⟨Ne.symm hED2, Ne.symm hED1, Ne.symm hEC⟩, List.forall_mem_cons.mpr ⟨⟨Ne.symm hDD2, Ne.symm hDD1, Ne.symm hDC⟩, hown⟩⟩
          · rw [htk]
            exact (r1.mono fun p hp => .tail _ (.tail _ hp)).snoc (.tail _ (.head _)) q1
          · rw [htk, List.map_append]
            exact (r2.mono fun p hp => .tail _ (.tail _ hp)).snoc (.head _) qe
  · rintro u nx h tk ⟨own, oc, v1, v2, n1, n2, t0, t1, t2, rfl, hown, hoc, r1, r2, e1, e2⟩ F₁ N₁
    rw [hbs, List.take_length] at r1 r2 e1
    rw [if_neg (by omega)] at e2
    replace F₁ := frx (a := "maxDcCount") (frx (a := "maxEcCount") F₁ (by exact e2)) (by exact e1)
    have hD2 : (D2, W.listOf v2.toArray n2) ∈ (D2, W.listOf v2.toArray n2) :: (D1, W.listOf v1.toArray n1) :: (L0 + 1 + 1, oc) :: (L0 + 1, o2) :: (own ++ news) := .head _
    have hD1 : (D1, W.listOf v1.toArray n1) ∈ (D2, W.listOf v2.toArray n2) :: (D1, W.listOf v1.toArray n1) :: (L0 + 1 + 1, oc) :: (L0 + 1, o2) :: (own ++ news) := .tail _ (.head _)
    replace r1 := r1.mono (news' := (D2, W.listOf v2.toArray n2) :: (D1, W.listOf v1.toArray n1) :: (L0 + 1 + 1, oc) :: (L0 + 1, o2) :: (own ++ news)) fun p hp => .tail _ (.tail _ (.tail _ (.tail _ (List.mem_append_left _ hp))))
    replace r2 := r2.mono (news' := (D2, W.listOf v2.toArray n2) :: (D1, W.listOf v1.toArray n1) :: (L0 + 1 + 1, oc) :: (L0 + 1, o2) :: (own ++ news)) fun p hp => .tail _ (.tail _ (.tail _ (.tail _ (List.mem_append_left _ hp))))
    have hnw : ∀ p ∈ news, p ∈ (D2, W.listOf v2.toArray n2) :: (D1, W.listOf v1.toArray n1) :: (L0 + 1 + 1, oc) :: (L0 + 1, o2) :: (own ++ news) := fun p hp => .tail _ (.tail _ (.tail _ (.tail _ (List.mem_append_right _ hp))))
    generalize (D2, W.listOf v2.toArray n2) :: (D1, W.listOf v1.toArray n1) :: (L0 + 1 + 1, oc) :: (L0 + 1, o2) :: (own ++ news) = tl at *
    have hmL : maxLen rows ≤ 5 := maxLen_le fun r hr' => (hr r hr').1
    have he10 := (genP_good he).2.2.2
    walk_at "my_steps"
    refine ⟨?_⟩
    rename IsRange _ _ _ _ _ _ _ _ => R7
    rename Fr _ _ _ _ => F7
    rename News _ _ _ _ => N7
    rename_i DD h11 Fo No lD h12 r7 h13 u7 v7 tk7
    clear Fo No
    have hnD : ∀ p ∈ tl, p.1 ≠ DD := lt_all_ne lD
    have hrows : ∀ r ∈ rows, r.length ≤ 100 := fun r hr' => Nat.le_trans (hr r hr').1 (by decide)
    have hecs : ∀ r ∈ rows.map (ecZ e), r.length ≤ 100 := by
      intro r hr'
      obtain ⟨q, _, rfl⟩ := List.mem_map.mp hr'
      unfold ecZ ecs
      simp; omega
    refine range_loopC (maxLen rows) ["dc", "ec", "zz"] (fun i u nx => ∃ vd nd, nx = (DD, W.listOf vd.toArray nd) :: tl ∧ IntsAre vd (dealOut rows i))
      rfl R7 (by omega) (by decide) (by decide) (by omega) (by omega) F7 N7 ⟨_, _, rfl, by first | exact .nil | (show IntsAre _ (_ ++ []); rw [List.append_nil]; assumption)⟩ ?_ ?_
    · rintro i k t I u nx h tk oi hi1 hkk hnx ⟨vd, nd, rfl, qd⟩ F₁ N₁
      have hkk : k = (i : Int) := by omega
      subst hkk
      have hn1 : DD ≠ I := (List.forall_mem_cons.mp hnx).1
      have hnI : ∀ p ∈ tl, p.1 ≠ I := (List.forall_mem_cons.mp hnx).2
      walk_at "my_steps"
      refine ⟨?_⟩
      rename Fr _ _ _ _ => F₂
      rename News _ _ _ _ => N₂
      refine list_loopC ["zz"] (fun j u nx => ∃ vd nd, nx = (DD, W.listOf vd.toArray nd) :: (I, oi) :: tl ∧ IntsAre vd ((dealOut rows i) ++ dealRow ((rows).take j) i))
        rfl (l := D1) (vs := v1) (nn := n1) (.tail _ (.tail _ hD1)) ?_ F₂ (news_sub N₂ (by walk_at "sub")) ⟨vd, nd, rfl, by rw [List.take_zero]; show IntsAre _ (_ ++ []); rw [List.append_nil]; exact qd⟩ ?_ ?_
      · rintro j m nx ⟨vd, nd, rfl, _⟩
        exact .tail _ (.tail _ hD1)
      · rintro j v I2 u nx h tk oi2 hv hnx2 ⟨vd2, nd2, rfl, qd2⟩ F₁ N₁
        obtain ⟨a, va, na, rr, rfl, hrj, ha, hia⟩ := r1.get hv
        have hn2 : DD ≠ I2 := (List.forall_mem_cons.mp hnx2).1
        have hn3 : I ≠ I2 := (List.forall_mem_cons.mp (List.forall_mem_cons.mp hnx2).2).1
        have hl2 := qd2.length
        have hdl : ((dealOut rows i) ++ dealRow ((rows).take j) i).length ≤ 1000 := by
          have a1 := dealOut_len (rs := rows) i
          have a2 := dealRow_len (rs := (rows).take j) (i := i)
          have a3 : i * (rows).length ≤ 10 * 3 := Nat.mul_le_mul (by omega) (by first | exact hrl | (rw [List.length_map]; exact hrl))
          have a4 : ((rows).take j).length ≤ (rows).length := by rw [List.length_take]; omega
          have a5 : (rows).length ≤ 3 := by first | exact hrl | (rw [List.length_map]; exact hrl)
          first | (rw [List.length_append]; omega) | (rw [List.length_append, List.length_append]; have := dealOut_len (rs := rows) (maxLen rows); have a6 : maxLen rows * rows.length ≤ 5 * 3 := Nat.mul_le_mul hmL hrl; omega)
        have hal := hia.length
        have har : rr.length ≤ 100 := hrows rr (List.mem_of_getElem? hrj)
        have htj : (rows).take (j + 1) = (rows).take j ++ [rr] := by rw [List.take_add_one, hrj]; rfl
        have hdr : dealRow ((rows).take (j + 1)) i = dealRow ((rows).take j) i ++ (if i < rr.length then [rr.getD i 0] else []) := by unfold dealRow; rw [htj, List.flatMap_append]; simp
        walk_at "my_steps"
        all_goals
          rename Fr _ _ _ _ => F₆
          rename News _ _ _ _ => N₆
        · refine tpost_next F₆ N₆ (by k_mem) (nx := (DD, W.listOf (vd2 ++ [_]).toArray (nd2 + 1)) :: (I, oi) :: tl) (by walk_at "sub") (List.forall_mem_cons.mpr ⟨hn2, (List.forall_mem_cons.mp hnx2).2⟩) ⟨⟨_, _, rfl, ?_⟩, by walk_at "keep"⟩
          rw [hdr, if_pos (by omega), ← List.append_assoc]
          exact ints_snoc qd2
        · refine tpost_next F₆ N₆ (by k_mem) (nx := (DD, W.listOf vd2.toArray nd2) :: (I, oi) :: tl) (by walk_at "sub") hnx2 ⟨⟨_, _, rfl, ?_⟩, by walk_at "keep"⟩
          rw [hdr, if_neg (by omega), List.append_nil]
          exact qd2
      · rintro u nx h tk ⟨vd2, nd2, rfl, qd2⟩ F₁ N₁
        walk_at "my_steps"
        rename Fr _ _ _ _ => F₆
        rename News _ _ _ _ => N₆
        refine tpost_next F₆ N₆ (by k_mem) (nx := (DD, W.listOf vd2.toArray nd2) :: tl) (by walk_at "sub") (List.forall_mem_cons.mpr ⟨hn1, hnI⟩) ⟨⟨_, _, rfl, ?_⟩, by walk_at "keep"⟩
        rw [r1.length, List.take_length] at qd2
        rw [dealOut_succ]
        first | exact qd2 | (rw [← List.append_assoc]; exact qd2)
    · rintro u nx h tk ⟨vd, nd, rfl, qd⟩ F₁ N₁
      walk_at "my_steps"
      refine ⟨?_⟩
      rename IsRange _ _ _ _ _ _ _ _ => R8
      rename Fr _ _ _ _ => F8
      rename News _ _ _ _ => N8
      refine range_loopC e ["dc", "ec", "zz"] (fun i u nx => ∃ vd nd, nx = (DD, W.listOf vd.toArray nd) :: tl ∧ IntsAre vd (dealOut rows (maxLen rows) ++ dealOut (rows.map (ecZ e)) i))
        rfl R8 (by omega) (by decide) (by decide) (by omega) (by omega) F8 N8 ⟨_, _, rfl, by first | exact .nil | (show IntsAre _ (_ ++ []); rw [List.append_nil]; assumption)⟩ ?_ ?_
      · rintro i k t I u nx h tk oi hi1 hkk hnx ⟨vd, nd, rfl, qd⟩ F₁ N₁
        have hkk : k = (i : Int) := by omega
        subst hkk
        have hn1 : DD ≠ I := (List.forall_mem_cons.mp hnx).1
        have hnI : ∀ p ∈ tl, p.1 ≠ I := (List.forall_mem_cons.mp hnx).2
        walk_at "my_steps"
        refine ⟨?_⟩
        rename Fr _ _ _ _ => F₂
        rename News _ _ _ _ => N₂
        refine list_loopC ["zz"] (fun j u nx => ∃ vd nd, nx = (DD, W.listOf vd.toArray nd) :: (I, oi) :: tl ∧ IntsAre vd ((dealOut rows (maxLen rows) ++ dealOut (rows.map (ecZ e)) i) ++ dealRow ((rows.map (ecZ e)).take j) i))
          rfl (l := D2) (vs := v2) (nn := n2) (.tail _ (.tail _ hD2)) ?_ F₂ (news_sub N₂ (by walk_at "sub")) ⟨vd, nd, rfl, by rw [List.take_zero]; show IntsAre _ (_ ++ []); rw [List.append_nil]; exact qd⟩ ?_ ?_
        · rintro j m nx ⟨vd, nd, rfl, _⟩
          exact .tail _ (.tail _ hD2)
        · rintro j v I2 u nx h tk oi2 hv hnx2 ⟨vd2, nd2, rfl, qd2⟩ F₁ N₁
          obtain ⟨a, va, na, rr, rfl, hrj, ha, hia⟩ := r2.get hv
          have hn2 : DD ≠ I2 := (List.forall_mem_cons.mp hnx2).1
          have hn3 : I ≠ I2 := (List.forall_mem_cons.mp (List.forall_mem_cons.mp hnx2).2).1
          have hl2 := qd2.length
          have hdl : ((dealOut rows (maxLen rows) ++ dealOut (rows.map (ecZ e)) i) ++ dealRow ((rows.map (ecZ e)).take j) i).length ≤ 1000 := by
            have a1 := dealOut_len (rs := rows.map (ecZ e)) i
            have a2 := dealRow_len (rs := (rows.map (ecZ e)).take j) (i := i)
            have a3 : i * (rows.map (ecZ e)).length ≤ 10 * 3 := Nat.mul_le_mul (by omega) (by first | exact hrl | (rw [List.length_map]; exact hrl))
            have a4 : ((rows.map (ecZ e)).take j).length ≤ (rows.map (ecZ e)).length := by rw [List.length_take]; omega
            have a5 : (rows.map (ecZ e)).length ≤ 3 := by first | exact hrl | (rw [List.length_map]; exact hrl)
            first | (rw [List.length_append]; omega) | (rw [List.length_append, List.length_append]; have := dealOut_len (rs := rows) (maxLen rows); have a6 : maxLen rows * rows.length ≤ 5 * 3 := Nat.mul_le_mul hmL hrl; omega)
          have hal := hia.length
          have har : rr.length ≤ 100 := hecs rr (List.mem_of_getElem? hrj)
          have htj : (rows.map (ecZ e)).take (j + 1) = (rows.map (ecZ e)).take j ++ [rr] := by rw [List.take_add_one, hrj]; rfl
          have hdr : dealRow ((rows.map (ecZ e)).take (j + 1)) i = dealRow ((rows.map (ecZ e)).take j) i ++ (if i < rr.length then [rr.getD i 0] else []) := by unfold dealRow; rw [htj, List.flatMap_append]; simp
          walk_at "my_steps"
          all_goals
            rename Fr _ _ _ _ => F₆
            rename News _ _ _ _ => N₆
          · refine tpost_next F₆ N₆ (by k_mem) (nx := (DD, W.listOf (vd2 ++ [_]).toArray (nd2 + 1)) :: (I, oi) :: tl) (by walk_at "sub") (List.forall_mem_cons.mpr ⟨hn2, (List.forall_mem_cons.mp hnx2).2⟩) ⟨⟨_, _, rfl, ?_⟩, by walk_at "keep"⟩
            rw [hdr, if_pos (by omega), ← List.append_assoc]
            exact ints_snoc qd2
          · refine tpost_next F₆ N₆ (by k_mem) (nx := (DD, W.listOf vd2.toArray nd2) :: (I, oi) :: tl) (by walk_at "sub") hnx2 ⟨⟨_, _, rfl, ?_⟩, by walk_at "keep"⟩
            rw [hdr, if_neg (by omega), List.append_nil]
            exact qd2
        · rintro u nx h tk ⟨vd2, nd2, rfl, qd2⟩ F₁ N₁
          walk_at "my_steps"
          rename Fr _ _ _ _ => F₆
          rename News _ _ _ _ => N₆
          refine tpost_next F₆ N₆ (by k_mem) (nx := (DD, W.listOf vd2.toArray nd2) :: tl) (by walk_at "sub") (List.forall_mem_cons.mpr ⟨hn1, hnI⟩) ⟨⟨_, _, rfl, ?_⟩, by walk_at "keep"⟩
          rw [r2.length, List.take_length] at qd2
          rw [dealOut_succ]
          first | exact qd2 | (rw [← List.append_assoc]; exact qd2)
      · rintro u nx h tk ⟨vd, nd, rfl, qd⟩ F₁ N₁
        walk_at "my_steps"
        rename Fr h₀ L _ m => kF
        rename News h₀ L _ _ => kN
        refine hret _ _ DD _ _ kF (news_sub kN (List.forall_mem_cons.mpr ⟨.head _, fun p hp => .tail _ (hnw p hp)⟩)) (fun p hp => lD p (hnw p hp)) qd

end Mine
end

theorem Mine.anew_WD : 1 = 1 := by
  w_top off
  first | walk1 | rfl

/-! part WD -/
section
open PySem PySem.W PyProof.Rows PySem.Calls PySem.Spec
set_option Elab.async false
namespace Mine
set_option maxRecDepth 100000
/-- rows, each in a list of its own, apart from one another -/
inductive DRows : List (Addr × Obj) → List Value → List (List Int) → Prop where
  | nil : DRows [] [] []
  | snoc {own : List (Addr × Obj)} {l : List Value} {rs : List (List Int)} {a : Addr} {xs : List Value} {n : Nat} {r : List Int} : DRows own l rs → IntsAre xs r → (∀ p ∈ own, p.1 ≠ a) → DRows (own ++ [(a, W.listOf xs.toArray n)]) (l ++ [.ref a]) (rs ++ [r])
theorem DRows.length {own : List (Addr × Obj)} {l : List Value} {rs : List (List Int)} (h : DRows own l rs) : l.length = rs.length := by
  induction h with
  | nil => rfl
  | snoc _ _ _ ih => simp [ih]
theorem DRows.rows {own : List (Addr × Obj)} {l : List Value} {rs : List (List Int)} (h : DRows own l rs) : RowsIn own l rs := by
  induction h with
  | nil => exact .nil
  | snoc _ hi _ ih => exact (ih.mono fun p hp => List.mem_append_left _ hp).snoc (List.mem_append_right _ (.head _)) hi
theorem DRows.split {own : List (Addr × Obj)} {l : List Value} {rs : List (List Int)} (h : DRows own l rs) : ∀ {i : Nat} {v : Value}, l[i]? = some v → ∃ pre post a xs n r, own = pre ++ (a, W.listOf xs.toArray n) :: post ∧ v = .ref a ∧ rs[i]? = some r ∧ IntsAre xs r ∧ (∀ p ∈ pre, p.1 ≠ a) ∧ (∀ p ∈ post, p.1 ≠ a) ∧
    ∀ xs' n' r', IntsAre xs' r' → DRows (pre ++ (a, W.listOf xs'.toArray n') :: post) l (rs.set i r') := by
  induction h with
  | nil => intro i v e; simp at e
  | @snoc own l rs a xs n r hd hi hne ih =>
    intro i v e
    have hlen := hd.length
    by_cases hlt : i < l.length
    · rw [List.getElem?_append_left hlt] at e
      obtain ⟨pre, post, b, ys, k, q, rfl, rfl, h1, h2, h3, h4, h5⟩ := ih e
      have hba : b ≠ a := hne (b, _) (List.mem_append_right _ (.head _))
      refine ⟨pre, post ++ [(a, W.listOf xs.toArray n)], b, ys, k, q, by simp, rfl, by rw [List.getElem?_append_left (by omega)]; exact h1, h2, h3, ?_, ?_⟩
      · intro p hp
        rcases List.mem_append.mp hp with hp | hp
        · exact h4 p hp
        · rw [List.mem_singleton.mp hp]; exact Ne.symm hba
      · intro xs' n' r' hi'
        have := DRows.snoc (a := a) (n := n) (h5 xs' n' r' hi') hi (by
          intro p hp
          rcases List.mem_append.mp hp with hp | hp
          · exact hne p (List.mem_append_left _ hp)
          · rcases List.mem_cons.mp hp with rfl | hp
            · exact hba
            · exact hne p (List.mem_append_right _ (.tail _ hp)))
        rw [List.set_append_left i r' (show i < rs.length by omega)]
        simpa using this
    · have hi2 : i = l.length := by
        have := (List.getElem?_eq_some_iff.mp e).1
        simp at this; omega
      subst hi2
      have hv : v = .ref a := by simpa using e.symm
      refine ⟨own, [], a, xs, n, r, rfl, hv, by rw [hlen]; simp, hi, hne, (fun p hp => nomatch hp), ?_⟩
      intro xs' n' r' hi'
      have e2 : (rs ++ [r]).set l.length r' = rs ++ [r'] := by
        rw [hlen, List.set_append_right rs.length r' (Nat.le_refl _)]; simp
      rw [e2]
      exact .snoc hd hi' hne
theorem off3_of {I C D : Addr} : ∀ {l : List (Addr × Obj)}, (∀ p ∈ l, p.1 ≠ I ∧ p.1 ≠ C ∧ p.1 ≠ D) → LCg.Off3 I C D l
  | [], _ => trivial
  | p :: r, h => ⟨h p (.head _), off3_of fun q hq => h q (.tail _ hq)⟩
theorem off1_of {D : Addr} : ∀ {l : List (Addr × Obj)}, (∀ p ∈ l, p.1 ≠ D) → LCg.Off1 D l
  | [], _ => trivial
  | p :: r, h => ⟨h p (.head _), off1_of fun q hq => h q (.tail _ hq)⟩
section
variable {prog : Program} {w : World} {A : Around} {E : Value → Shared → Prop} {s : Shared} {h₀ : Heap} {L l : Addr} {m : Str → Option Value} {news : List (Addr × Obj)} {vs : List Value} {n : Nat} {k : Int} {u : Tok} {v : Value}
theorem item_V {value slice : PySem.Expr} {Q : Value → Shared → Prop} (N : News h₀ L s.heap news) (hl : (l, W.listOf vs.toArray n) ∈ news) (hx : vs[k.toNat]? = some v) (h0 : 0 ≤ k) (hz : k < 2 ^ 63) (h : Q v s)
    (hs : subscripted slice false (.ref l) (.int k u) = operate [.ref l, .int k u] (getItem (.ref l) (.int k u)) := by with_unfolding_all rfl) :
    wpAny (model prog w) A (subscriptTail value slice (.ref l) (.int k u)) Q E s :=
  tail_any (isList_of N hl).typeIs slot_list_getitem.lookup (wpAny_getItem_list (isList_of N hl) h0 hz (by simpa using hx) h) hs
end
end Mine
end

theorem Mine.anew_WD2 : 1 = 1 := by
  w_top off
  first | walk1 | rfl

/-! part WD2 -/
section
open PySem PySem.W PyProof.Rows PySem.Calls PySem.Spec
set_option Elab.async false
namespace Mine
set_option maxRecDepth 100000
theorem maxLen_ge {rows : List (List Int)} : ∀ r ∈ rows, r.length ≤ maxLen rows := by
  have mono : ∀ (rows : List (List Int)) (m : Nat), m ≤ rows.foldl (fun m r => max m r.length) m := by
    intro rows
    induction rows with
    | nil => intro m; exact Nat.le_refl _
    | cons r rs ih => intro m; exact Nat.le_trans (Nat.le_max_left _ _) (ih _)
  have key : ∀ (rows : List (List Int)) (m : Nat), ∀ r ∈ rows, r.length ≤ rows.foldl (fun m r => max m r.length) m := by
    intro rows
    induction rows with
    | nil => intro m r hr; cases hr
    | cons q rs ih =>
      intro m r hr
      rcases List.mem_cons.mp hr with rfl | hr
      · exact Nat.le_trans (Nat.le_max_right _ _) (mono rs _)
      · exact ih _ r hr
  exact key rows 0
theorem maxLen_int {rows : List (List Int)} {M : Int} (a : M ∈ rows.map fun r => (r.length : Int)) (b : ∀ a ∈ rows.map fun r => (r.length : Int), a ≤ M) : M = (maxLen rows : Int) := by
  obtain ⟨r, hr, rfl⟩ := List.mem_map.mp a
  have h1 := maxLen_ge r hr
  have h2 : maxLen rows ≤ r.length := maxLen_le fun q hq => by
    have := b _ (List.mem_map.mpr ⟨q, hq, rfl⟩)
    omega
  omega
def stR (rows : List (List Int)) (k i : Nat) : List (List Int) := (rows.take i).map (·.take (k + 1)) ++ (rows.drop i).map (·.take k)
theorem stR_zero (rows : List (List Int)) (k : Nat) : stR rows k 0 = rows.map (·.take k) := by unfold stR; simp
theorem stR_full (rows : List (List Int)) (k : Nat) : stR rows k rows.length = rows.map (·.take (k + 1)) := by unfold stR; simp
theorem stR_split {rows : List (List Int)} {k i : Nat} {r : List Int} (h : rows[i]? = some r) : stR rows k i = (rows.take i).map (·.take (k + 1)) ++ r.take k :: (rows.drop (i + 1)).map (·.take k) := by
  obtain ⟨hi, e⟩ := List.getElem?_eq_some_iff.mp h
  unfold stR
  rw [List.drop_eq_getElem_cons hi, e]; rfl
theorem stR_next {rows : List (List Int)} {k i : Nat} {r : List Int} (h : rows[i]? = some r) : stR rows k (i + 1) = (rows.take i).map (·.take (k + 1)) ++ r.take (k + 1) :: (rows.drop (i + 1)).map (·.take k) := by
  unfold stR
  rw [List.take_add_one, h, List.map_append]
  simp
theorem stR_len {rows : List (List Int)} {k i : Nat} (hi : i ≤ rows.length) : ((rows.take i).map (·.take (k + 1))).length = i := by simp; omega
theorem stR_set {rows : List (List Int)} {k i : Nat} {r : List Int} (h : rows[i]? = some r) : (stR rows k i).set i (r.take (k + 1)) = stR rows k (i + 1) := by
  have hi := (List.getElem?_eq_some_iff.mp h).1
  have hl := stR_len (rows := rows) (k := k) (i := i) (by omega)
  rw [stR_split h, stR_next h, List.set_append_right i _ (by omega), hl, Nat.sub_self]; rfl
theorem stR_get {rows : List (List Int)} {k i : Nat} {r : List Int} (h : rows[i]? = some r) : (stR rows k i)[i]? = some (r.take k) := by
  have hi := (List.getElem?_eq_some_iff.mp h).1
  have hl := stR_len (rows := rows) (k := k) (i := i) (by omega)
  rw [stR_split h, List.getElem?_append_right (by omega), hl, Nat.sub_self]; rfl
theorem stR_skip {rows : List (List Int)} {k i : Nat} {r : List Int} (h : rows[i]? = some r) (hk : r.length ≤ k) : stR rows k (i + 1) = stR rows k i := by
  rw [stR_split h, stR_next h, List.take_of_length_le (l := r) (show r.length ≤ k + 1 by omega), List.take_of_length_le (l := r) hk]
theorem dealOut_prefix (rows : List (List Int)) (n d : Nat) : ∃ rest, dealOut rows (n + d) = dealOut rows n ++ rest := by
  induction d with
  | zero => exact ⟨[], by simp⟩
  | succ d ih =>
    obtain ⟨rest, e⟩ := ih
    exact ⟨rest ++ dealRow rows (n + d), by rw [← Nat.add_assoc, dealOut_succ, e, List.append_assoc]⟩
theorem dealRow_split {rows : List (List Int)} {k i : Nat} {r : List Int} (h : rows[i]? = some r) : dealRow rows k = dealRow (rows.take i) k ++ ((if k < r.length then [r.getD k 0] else []) ++ dealRow (rows.drop (i + 1)) k) := by
  obtain ⟨hi, e⟩ := List.getElem?_eq_some_iff.mp h
  have : rows = rows.take i ++ r :: rows.drop (i + 1) := by rw [← e, ← List.drop_eq_getElem_cons hi, List.take_append_drop]
  have h2 : dealRow rows k = dealRow (rows.take i ++ r :: rows.drop (i + 1)) k := by rw [← this]
  rw [h2]
  unfold dealRow
  rw [List.flatMap_append, List.flatMap_cons]
theorem dealRow_step {rows : List (List Int)} {k i : Nat} {r : List Int} (h : rows[i]? = some r) : dealRow (rows.take (i + 1)) k = dealRow (rows.take i) k ++ (if k < r.length then [r.getD k 0] else []) := by
  rw [List.take_add_one, h]
  unfold dealRow
  rw [List.flatMap_append]; simp
theorem deal_at {rows : List (List Int)} {tail : List Int} {k i : Nat} {r : List Int} (h : rows[i]? = some r) (hk : k < r.length) :
    (dealOut rows (maxLen rows) ++ tail).getD (dealOut rows k ++ dealRow (rows.take i) k).length 0 = r.getD k 0 ∧ (dealOut rows k ++ dealRow (rows.take i) k).length < (dealOut rows (maxLen rows) ++ tail).length := by
  have hm := maxLen_ge r (List.mem_of_getElem? h)
  obtain ⟨rest, e⟩ := dealOut_prefix rows (k + 1) (maxLen rows - (k + 1))
  rw [show k + 1 + (maxLen rows - (k + 1)) = maxLen rows by omega, dealOut_succ, dealRow_split h, if_pos hk] at e
  rw [e]
  have e2 : dealOut rows k ++ (dealRow (rows.take i) k ++ ([r.getD k 0] ++ dealRow (rows.drop (i + 1)) k)) ++ rest ++ tail = (dealOut rows k ++ dealRow (rows.take i) k) ++ (r.getD k 0 :: (dealRow (rows.drop (i + 1)) k ++ rest ++ tail)) := by simp
  rw [e2]
  generalize dealOut rows k ++ dealRow (rows.take i) k = P
  constructor
  · rw [List.getD_eq_getElem?_getD, List.getElem?_append_right (Nat.le_refl _), Nat.sub_self]; rfl
  · rw [List.length_append, List.length_cons]; omega
theorem dealRow_even {es : List (List Int)} {e c : Nat} (h : ∀ r ∈ es, r.length = e) (hc : c < e) : dealRow es c = es.map (·.getD c 0) := by
  unfold dealRow
  induction es with
  | nil => rfl
  | cons r rs ih =>
    rw [List.flatMap_cons, List.map_cons, ih fun q hq => h q (.tail _ hq), if_pos (by rw [h r (.head _)]; exact hc)]; rfl
theorem dealOut_even {es : List (List Int)} {e : Nat} (h : ∀ r ∈ es, r.length = e) : ∀ c, c ≤ e → (dealOut es c).length = c * es.length
  | 0, _ => by simp [dealOut]
  | c + 1, hc => by rw [dealOut_succ, List.length_append, dealOut_even h c (by omega), dealRow_even h (by omega), List.length_map, Nat.succ_mul]
theorem deal_tail {es : List (List Int)} {e c i : Nat} (h : ∀ r ∈ es, r.length = e) (hc : c < e) (hi : i < es.length) : (dealOut es e)[c * es.length + i]? = some (es[i].getD c 0) := by
  obtain ⟨rest, q⟩ := dealOut_prefix es (c + 1) (e - (c + 1))
  rw [show c + 1 + (e - (c + 1)) = e by omega, dealOut_succ, dealRow_even h hc] at q
  have hl := dealOut_even h c (by omega)
  rw [q, List.append_assoc, List.getElem?_append_right (by omega), hl, show c * es.length + i - c * es.length = i by omega, List.getElem?_append_left (by simpa using hi)]
  simp [hi]
theorem filterMap_all {α β : Type} {f : α → Option β} {g : α → β} : ∀ {l : List α}, (∀ a ∈ l, f a = some (g a)) → l.filterMap f = l.map g
  | [], _ => rfl
  | a :: l, h => by rw [List.filterMap_cons, h a (.head _), List.map_cons, filterMap_all fun b hb => h b (.tail _ hb)]
theorem slice_deal {P : List Int} {es : List (List Int)} {e i : Nat} (h : ∀ r ∈ es, r.length = e) (hi : i < es.length) :
    pickZ (P ++ dealOut es e) (some ((P.length : Int) + i)) none (some (es.length : Int)) = es[i] := by
  have hl := dealOut_even h e (Nat.le_refl _)
  have hei : es[i].length = e := h _ (List.getElem_mem hi)
  have hn : (P ++ dealOut es e).length = P.length + e * es.length := by rw [List.length_append, hl]
  unfold pickZ
  have hb : sliceBounds (some ((P.length : Int) + i)) none (some (es.length : Int)) (P ++ dealOut es e).length = (min ((P.length : Int) + i) ((P.length + e * es.length : Nat) : Int), ((P.length + e * es.length : Nat) : Int), (es.length : Int)) := by
    unfold sliceBounds
    rw [hn]
    simp only [Option.getD_some]
    rw [if_neg (show ¬ ((P.length : Int) + i < 0) by omega), if_pos (show (es.length : Int) > 0 by omega), if_pos (show (es.length : Int) > 0 by omega), Int.max_eq_right (by omega)]
  rw [hb]
  have hr : sliceRange (min ((P.length : Int) + i) ((P.length + e * es.length : Nat) : Int)) ((P.length + e * es.length : Nat) : Int) (es.length : Int) = (List.range e).map fun c => P.length + (c * es.length + i) := by
    unfold sliceRange
    rw [if_pos (show (es.length : Int) > 0 by omega)]
    by_cases h0 : e = 0
    · subst h0
      rw [if_neg (by omega)]; rfl
    · have h1 : es.length ≤ e * es.length := Nat.le_mul_of_pos_left _ (by omega)
      rw [Int.min_eq_left (by omega), if_pos (by omega)]
      have hc : ((((P.length + e * es.length : Nat) : Int) - ((P.length : Int) + i) + es.length - 1) / (es.length : Int)) = (e : Int) := by
        have e1 : (((P.length + e * es.length : Nat) : Int) - ((P.length : Int) + i) + es.length - 1) = (((es.length - 1 - i) + es.length * e : Nat) : Int) := by
          rw [Nat.mul_comm es.length e]; omega
        rw [e1, ← Int.natCast_ediv, Nat.add_mul_div_left _ _ (by omega), Nat.div_eq_of_lt (by omega)]
        simp
      rw [hc]
      dsimp only
      rw [Int.toNat_natCast]
      apply List.map_congr_left
      intro c _
      have : ((es.length : Int) * (c : Int)) = ((c * es.length : Nat) : Int) := by rw [Nat.mul_comm]; simp
      rw [this]; omega
  rw [hr, List.filterMap_map]
  rw [filterMap_all (g := fun c => es[i].getD c 0)]
  · apply List.ext_getElem
    · simp [hei]
    · intro c h1 h2
      simp at h1 ⊢
      rw [List.getElem?_eq_getElem (by omega)]; rfl
  · intro c hc
    have hc := List.mem_range.mp hc
    show (P ++ dealOut es e)[P.length + (c * es.length + i)]? = _
    rw [List.getElem?_append_right (by omega), show P.length + (c * es.length + i) - P.length = c * es.length + i by omega]
    exact deal_tail h hc hi
end Mine
end

theorem Mine.anew_W25 : 1 = 1 := by
  w_top off
  first | walk1 | rfl

/-! part W25 -/
section
open PySem PySem.W PyProof.Rows PySem.Calls PySem.Spec
set_option Elab.async false
namespace Mine
set_option maxRecDepth 100000
theorem fill_W25 {w : World} {h : Heap} : (hd.heap_39 w.params).In h → Challenge.rw_bj0062_01.row.prog = Challenge.rw_bj0062_01.row.prog := by
  k_fill
  intro _
  rfl
local macro_rules | `(tactic| walk_at "my_enter") => `(tactic| (refine wpAny_call ?_; k_dflt (refine' code_def ?k1 ?k2 ?k3 ?k4 ?k5 ?kA ?kF ?kK ?k6 ?k7 ?k8 ?k9 ?kB ?_ ?c2 ?c3 ?c4 ?c5; (case kA => exact rfl); (case kF => assumption); (case kK => assumption); (case k1 => k_asm); (case k2 => k_asm); (case k3 => k_asm); (case k4 => k_asm); (case k5 => k_asm); (case k6 => k_is); (case k7 => k_is); (case k8 => walk_at "room"); (case k9 => exact BindsTo.of_eq rfl); (case c5 => decide); (case kB => exact locs rfl); (case c2 => exact rfl); (case c3 => exact rfl); (case c4 => exact rfl); k_whole; intro g' L' h' FG' F' N' B' X' T'; (try dsimp only); (try k_fold))))
local macro_rules | `(tactic| walk_at "my_steps") => `(tactic| repeat' (first | (k_unfold; (try dsimp only)) | walk1 | (dsimp only; walk1)))
local macro_rules | `(tactic| walk_at "setItem ref int") => `(tactic| (k_here; (with_reducible show wpAny _ _ (setItem (Value.ref _) (Value.int _ _) _) _ _ _); k_dflt (refine' set_listK ?k1 ?k2 ?k3 ?k5 ?k6 ?k7 ?_; (case k1 => k_asm); (case k2 => k_asm); (case k3 => k_upd); (case k5 => first | omega | ksa_idx); (case k6 => first | omega | (simp; done) | (simp; omega)); (case k7 => first | omega | ksa_idx); k_whole); intro h' F' N'; (try k_sweep)))
local macro_rules | `(tactic| k_ne) => `(tactic| first | assumption | exact Ne.symm (by assumption) | (refine neN ?_; (try dsimp only); omega))
local macro_rules | `(tactic| k_all) => `(tactic| first | assumption | exact lt_all_ne (by assumption) | exact lt_all_sub (by assumption) (by walk_at "sub") | exact ne_all_sub (by assumption) (by walk_at "sub") | exact allLt_ne (by assumption) | exact allLt_ne (And.right (by assumption)) | exact allLt_ne (And.right (And.right (by assumption))) | exact allLt_ne (And.right (And.right (And.right (by assumption)))) | exact allLt_ne (And.right (And.right (And.right (And.right (by assumption))))) | exact allLt_ne (And.right (And.right (And.right (And.right (And.right (by assumption)))))) | exact allLt_ne (And.right (And.right (And.right (And.right (And.right (And.right (by assumption))))))) | exact allLt_ne (And.right (And.right (And.right (And.right (And.right (And.right (And.right (by assumption)))))))) | exact allLt_ne (And.right (And.right (And.right (And.right (And.right (And.right (And.right (And.right (by assumption))))))))) | exact allLt_ne (And.right (And.right (And.right (And.right (And.right (And.right (And.right (And.right (And.right (by assumption)))))))))) | exact lt_all_off (by assumption) (by omega) | exact off1_sub (by assumption) (by walk_at "sub") | exact List.forall_mem_nil _ | (refine' List.forall_mem_cons.mpr ⟨?a, ?b⟩; (case a => k_ne); (case b => k_all)))
local macro_rules | `(tactic| walk_at "call builtin:list.append") => `(tactic| (k_here; (with_reducible show wpAny _ _ (call (Value.builtin "list.append") [Value.ref _, _]) _ _ _); k_dflt (refine' append_L ?k1 ?k2 ?k3 ?k4 ?_; (case k1 => k_asm); (case k2 => k_asm); (case k3 => k_upd); (case k4 => walk_at "lens"); k_whole); intro h' F' N'; (try k_sweep)))
local macro_rules | `(tactic| walk_at "lens") => `(tactic| first | assumption | omega | (simp only [List.length_append, List.length_cons, List.length_nil, List.length_map, List.length_range, List.length_replicate, List.length_set]; omega))
local macro_rules | `(tactic| walk_at "ints") => `(tactic| first | omega | (simp only [decide_eq_true_eq, decide_eq_false_iff_not, Bool.not_eq_true, beq_iff_eq, beq_eq_false_iff_ne, ne_eq] at *; omega) | (trace_state; fail "ints"))
local macro_rules | `(tactic| walk_at "fld_in") => `(tactic| first | assumption | exact FieldIn.tail (by assumption) | exact FieldIn.tail (FieldIn.tail (by assumption)) | exact FieldIn.tail (FieldIn.tail (FieldIn.tail (by assumption))) | exact FieldIn.tail (FieldIn.tail (FieldIn.tail (FieldIn.tail (by assumption)))) | exact FieldIn.tail (FieldIn.tail (FieldIn.tail (FieldIn.tail (FieldIn.tail (by assumption))))) | exact FieldIn.tail (FieldIn.tail (FieldIn.tail (FieldIn.tail (FieldIn.tail (FieldIn.tail (by assumption)))))) | exact FieldIn.tail (FieldIn.tail (FieldIn.tail (FieldIn.tail (FieldIn.tail (FieldIn.tail (FieldIn.tail (by assumption))))))) | exact FieldIn.tail (FieldIn.tail (FieldIn.tail (FieldIn.tail (FieldIn.tail (FieldIn.tail (FieldIn.tail (FieldIn.tail (by assumption)))))))) | exact FieldIn.tail (FieldIn.tail (FieldIn.tail (FieldIn.tail (FieldIn.tail (FieldIn.tail (FieldIn.tail (FieldIn.tail (FieldIn.tail (by assumption))))))))) | exact FieldIn.tail (FieldIn.tail (FieldIn.tail (FieldIn.tail (FieldIn.tail (FieldIn.tail (FieldIn.tail (FieldIn.tail (FieldIn.tail (FieldIn.tail (by assumption)))))))))) | exact FieldIn.tail (FieldIn.tail (FieldIn.tail (FieldIn.tail (FieldIn.tail (FieldIn.tail (FieldIn.tail (FieldIn.tail (FieldIn.tail (FieldIn.tail (FieldIn.tail (by assumption))))))))))) | exact FieldIn.tail (FieldIn.tail (FieldIn.tail (FieldIn.tail (FieldIn.tail (FieldIn.tail (FieldIn.tail (FieldIn.tail (FieldIn.tail (FieldIn.tail (FieldIn.tail (FieldIn.tail (by assumption)))))))))))))
local macro_rules | `(tactic| k_mem) => `(tactic| first | assumption | exact List.Mem.head _ | (refine' List.Mem.tail _ ?_; k_mem))
local macro_rules | `(tactic| walk_at "subscriptTail") => `(tactic| (k_here; (with_reducible show wpAny _ _ (subscriptTail _ _ (Value.ref _) (Value.int 0 _)) _ _ _); k_dflt (refine' fld_0 ?k1 ?k2 ?_ ?k4; (case k1 => k_asm); (case k2 => walk_at "fld_in"); (case k4 => with_unfolding_all rfl); k_whole)))
local macro_rules | `(tactic| walk_at "subscriptTail Name Constant ref int") => `(tactic| (k_here; (with_reducible show wpAny _ _ (subscriptTail _ _ (Value.ref _) (Value.int 0 _)) _ _ _); k_dflt (refine' fld_0 ?k1 ?k2 ?_ ?k4; (case k1 => k_asm); (case k2 => walk_at "fld_in"); (case k4 => with_unfolding_all rfl); k_whole)))
local macro_rules | `(tactic| walk_at "subscriptTail") => `(tactic| (k_here; (with_reducible show wpAny _ _ (subscriptTail _ _ (Value.ref _) (Value.int 1 _)) _ _ _); k_dflt (refine' fld_1 ?k1 ?k2 ?_ ?k4; (case k1 => k_asm); (case k2 => walk_at "fld_in"); (case k4 => with_unfolding_all rfl); k_whole)))
local macro_rules | `(tactic| walk_at "subscriptTail Name Constant ref int") => `(tactic| (k_here; (with_reducible show wpAny _ _ (subscriptTail _ _ (Value.ref _) (Value.int 1 _)) _ _ _); k_dflt (refine' fld_1 ?k1 ?k2 ?_ ?k4; (case k1 => k_asm); (case k2 => walk_at "fld_in"); (case k4 => with_unfolding_all rfl); k_whole)))
local macro_rules | `(tactic| walk_at "subscriptTail") => `(tactic| (k_here; (with_reducible show wpAny _ _ (subscriptTail _ _ (Value.ref _) (Value.int _ _)) _ _ _); k_dflt (refine' fld_pow ?k1 ?k2 ?k5 ?k6 ?_ ?k4; (case k1 => k_asm); (case k2 => walk_at "fld_in"); (case k5 => first | omega | exact (fmod255 _).1); (case k6 => first | omega | exact (fmod255 _).2); (case k4 => with_unfolding_all rfl); k_whole); intro _))
local macro_rules | `(tactic| walk_at "subscriptTail Subscript Name Constant BinOp ref int") => `(tactic| (k_here; (with_reducible show wpAny _ _ (subscriptTail _ _ (Value.ref _) (Value.int _ _)) _ _ _); k_dflt (refine' fld_pow ?k1 ?k2 ?k5 ?k6 ?_ ?k4; (case k1 => k_asm); (case k2 => walk_at "fld_in"); (case k5 => first | omega | exact (fmod255 _).1); (case k6 => first | omega | exact (fmod255 _).2); (case k4 => with_unfolding_all rfl); k_whole); intro _))
local macro_rules | `(tactic| walk_at "subscriptTail Subscript Name Constant Name ref int") => `(tactic| (k_here; (with_reducible show wpAny _ _ (subscriptTail _ _ (Value.ref _) (Value.int _ _)) _ _ _); k_dflt (refine' fld_pow ?k1 ?k2 ?k5 ?k6 ?_ ?k4; (case k1 => k_asm); (case k2 => walk_at "fld_in"); (case k5 => first | omega | exact (fmod255 _).1); (case k6 => first | omega | exact (fmod255 _).2); (case k4 => with_unfolding_all rfl); k_whole); intro _))
local macro_rules | `(tactic| walk_at "subscriptTail Subscript Name Constant Subscript ref int") => `(tactic| (k_here; (with_reducible show wpAny _ _ (subscriptTail _ _ (Value.ref _) (Value.int _ _)) _ _ _); k_dflt (refine' fld_pow ?k1 ?k2 ?k5 ?k6 ?_ ?k4; (case k1 => k_asm); (case k2 => walk_at "fld_in"); (case k5 => first | omega | exact (fmod255 _).1); (case k6 => first | omega | exact (fmod255 _).2); (case k4 => with_unfolding_all rfl); k_whole); intro _))
local macro_rules | `(tactic| walk_at "subscriptTail") => `(tactic| (k_here; (with_reducible show wpAny _ _ (subscriptTail _ _ (Value.ref _) (Value.int _ _)) _ _ _); k_dflt (refine' fld_log ?k1 ?k2 ?k5 ?k6 ?_ ?k4; (case k1 => k_asm); (case k2 => walk_at "fld_in"); (case k5 => walk_at "ints"); (case k6 => walk_at "ints"); (case k4 => with_unfolding_all rfl); k_whole); intro _))
local macro_rules | `(tactic| walk_at "subscriptTail Subscript Name Constant BinOp ref int") => `(tactic| (k_here; (with_reducible show wpAny _ _ (subscriptTail _ _ (Value.ref _) (Value.int _ _)) _ _ _); k_dflt (refine' fld_log ?k1 ?k2 ?k5 ?k6 ?_ ?k4; (case k1 => k_asm); (case k2 => walk_at "fld_in"); (case k5 => walk_at "ints"); (case k6 => walk_at "ints"); (case k4 => with_unfolding_all rfl); k_whole); intro _))
local macro_rules | `(tactic| walk_at "subscriptTail Subscript Name Constant Name ref int") => `(tactic| (k_here; (with_reducible show wpAny _ _ (subscriptTail _ _ (Value.ref _) (Value.int _ _)) _ _ _); k_dflt (refine' fld_log ?k1 ?k2 ?k5 ?k6 ?_ ?k4; (case k1 => k_asm); (case k2 => walk_at "fld_in"); (case k5 => walk_at "ints"); (case k6 => walk_at "ints"); (case k4 => with_unfolding_all rfl); k_whole); intro _))
local macro_rules | `(tactic| walk_at "subscriptTail Subscript Name Constant Subscript ref int") => `(tactic| (k_here; (with_reducible show wpAny _ _ (subscriptTail _ _ (Value.ref _) (Value.int _ _)) _ _ _); k_dflt (refine' fld_log ?k1 ?k2 ?k5 ?k6 ?_ ?k4; (case k1 => k_asm); (case k2 => walk_at "fld_in"); (case k5 => walk_at "ints"); (case k6 => walk_at "ints"); (case k4 => with_unfolding_all rfl); k_whole); intro _))

local macro_rules | `(tactic| walk_at "pyIter ref") => `(tactic| ((with_reducible show wpAny _ _ (pyIter (Value.ref _)) (fun it s₂ => LoopAtV _ _ _ _ _ _ _ _ _ it s₂) _ _); refine Stopped.out ?_))
local macro_rules | `(tactic| walk_at "exec For Name Call cons nil") => `(tactic| (k_here; (rename Fr _ _ _ _ => lF'); (with_unfolding_all refine' For_invVF lF' ?k1 ?k2 ?_; (case k1 => exact rfl); (case k2 => exact rfl); k_whole)))
local macro_rules | `(tactic| walk_at "exec For Name Name cons nil") => `(tactic| (k_here; (rename Fr _ _ _ _ => lF'); (with_unfolding_all refine' For_invVF lF' ?k1 ?k2 ?_; (case k1 => exact rfl); (case k2 => exact rfl); k_whole)))
local macro_rules | `(tactic| walk_at "call type:range") => `(tactic| (k_here; (with_reducible show wpAny _ _ (call (Value.type "range") [Value.int _ _]) _ _ _); k_dflt (refine' range1_K ?k1 ?k2 ?_; (case k1 => k_asm); (case k2 => k_asm); k_whole); intro r' h' u' v' tk' F' N' R'; (try k_sweep)))
local macro_rules | `(tactic| walk_at "call type:range") => `(tactic| (k_here; (with_reducible show wpAny _ _ (call (Value.type "range") [Value.int _ _, Value.int _ _]) _ _ _); k_dflt (refine' range2_K ?k1 ?k2 ?_; (case k1 => k_asm); (case k2 => k_asm); k_whole); intro r' h' v' tk' F' N' R'; (try k_sweep)))
local macro_rules | `(tactic| walk_at "room") => `(tactic| first | assumption | omega | ((simp only [depth_in1, depth_deeper, units_in1, units_deeper, Around.mark_units]); omega))

local macro_rules | `(tactic| is_list) => `(tactic| (refine' isList_of ?a ?b; (case a => k_asm); (case b => k_mem)))
local macro_rules | `(tactic| walk_at "call builtin:len") => `(tactic| (k_here; (with_reducible show wpAny _ _ (call (Value.builtin "len") [Value.ref _]) _ _ _); k_dflt (refine' len_L ?k2 ?k3 ?k4 ?_; (case k2 => k_asm); (case k3 => k_mem); (case k4 => walk_at "lens"); k_whole); intro t' tk'; (try k_sweep)))
local macro_rules | `(tactic| walk_at "binaryOp Add ref ref") => `(tactic| (k_here; (with_reducible show wpAny _ _ (binaryOp Operator.Add (Value.ref _) (Value.ref _)) _ _ _); k_dflt (refine' add_L ?k1 ?k2 ?k3 ?k4 ?k5 ?_; (case k1 => k_asm); (case k2 => k_asm); (case k3 => k_mem); (case k4 => k_mem); (case k5 => walk_at "lens"); k_whole); intro r' h' F' N' hl'; (have hl2' := hl'); (try k_lt hl2'); (try k_sweep)))

local macro_rules | `(tactic| walk_at "sub") => `(tactic| first | (refine' List.forall_mem_cons.mpr ⟨?a, ?b⟩; (case a => k_mem); (case b => walk_at "sub")) | (intro p hp; k_mem))

local macro_rules | `(tactic| walk_at "keep") => `(tactic| first | exact keep_base | exact keep_refl | (refine keep_x ?_; walk_at "keep") | (refine keep_upd (by decide) ?_; walk_at "keep") | (refine keep_in (by decide) ?_; walk_at "keep"))

local macro_rules | `(tactic| walk_at "CompSrc") => `(tactic| refine Stopped.out ?_)
local macro_rules | `(tactic| walk_at "my_enterC") => `(tactic| (refine wpAny_call ?_; k_dflt (refine' code_defC ?k1 ?k2 ?k3 ?k4 ?k5 ?kA ?kF ?kK ?k6 ?k7 ?k8 ?k9 ?kB ?kD ?_ ?c2 ?c3 ?c4; (case kA => exact rfl); (case kF => assumption); (case kK => assumption); (case k1 => k_asm); (case k2 => k_asm); (case k3 => k_asm); (case k4 => k_asm); (case k5 => k_asm); (case k6 => k_is); (case k7 => k_is); (case k8 => walk_at "room"); (case k9 => exact BindsTo.of_eq rfl); (case kB => exact rfl); (case kD => decide +kernel); (case c2 => exact rfl); (case c3 => exact rfl); (case c4 => exact rfl); k_whole; intro g' L' h' tk' cells' FG' F' N' Y' B' X' T' l1; k_cells Y'; (try simp only [List.cons_append, List.nil_append] at N'); (try dsimp only); (try k_fold))))

local macro_rules | `(tactic| walk_at "subscriptTail Name Slice ref ref") => `(tactic| (k_here; (with_reducible show wpAny _ _ (subscriptTail _ (PySem.Expr.Slice _ _ _ _) (Value.ref _) (Value.ref _)) _ _ _); k_dflt (refine' slice_LI ?zF ?zN ?zl ?zi ?zp ?zq ?zk ?zo ?zz ?_ ?zs; (case zF => k_asm); (case zN => k_asm); (case zl => k_mem); (case zi => assumption); (case zp => kmk_part); (case zq => kmk_part); (case zk => kmk_part); (case zo => decide); (case zz => walk_at "lens"); (case zs => with_unfolding_all rfl)); intro D' ws' h' F' N' l1 hI' hL'; (have l2' := l1); (try k_lt l2'); (try k_sweep)))
local macro_rules | `(tactic| walk_at "subscriptTail ListComp Slice ref ref") => `(tactic| (k_here; (with_reducible show wpAny _ _ (subscriptTail _ (PySem.Expr.Slice _ _ _ _) (Value.ref _) (Value.ref _)) _ _ _); k_dflt (refine' slice_LI ?zF ?zN ?zl ?zi ?zp ?zq ?zk ?zo ?zz ?_ ?zs; (case zF => k_asm); (case zN => k_asm); (case zl => k_mem); (case zi => assumption); (case zp => kmk_part); (case zq => kmk_part); (case zk => kmk_part); (case zo => decide); (case zz => walk_at "lens"); (case zs => with_unfolding_all rfl)); intro D' ws' h' F' N' l1 hI' hL'; (have l2' := l1); (try k_lt l2'); (try k_sweep)))
local macro_rules | `(tactic| walk_at "subscriptTail Subscript Slice ref ref") => `(tactic| (k_here; (with_reducible show wpAny _ _ (subscriptTail _ (PySem.Expr.Slice _ _ _ _) (Value.ref _) (Value.ref _)) _ _ _); k_dflt (refine' slice_LI ?zF ?zN ?zl ?zi ?zp ?zq ?zk ?zo ?zz ?_ ?zs; (case zF => k_asm); (case zN => k_asm); (case zl => k_mem); (case zi => assumption); (case zp => kmk_part); (case zq => kmk_part); (case zk => kmk_part); (case zo => decide); (case zz => walk_at "lens"); (case zs => with_unfolding_all rfl)); intro D' ws' h' F' N' l1 hI' hL'; (have l2' := l1); (try k_lt l2'); (try k_sweep)))
local macro_rules | `(tactic| walk_at "subscriptTail Attribute Slice ref ref") => `(tactic| (k_here; (with_reducible show wpAny _ _ (subscriptTail _ (PySem.Expr.Slice _ _ _ _) (Value.ref _) (Value.ref _)) _ _ _); k_dflt (refine' slice_LI ?zF ?zN ?zl ?zi ?zp ?zq ?zk ?zo ?zz ?_ ?zs; (case zF => k_asm); (case zN => k_asm); (case zl => k_mem); (case zi => assumption); (case zp => kmk_part); (case zq => kmk_part); (case zk => kmk_part); (case zo => decide); (case zz => walk_at "lens"); (case zs => with_unfolding_all rfl)); intro D' ws' h' F' N' l1 hI' hL'; (have l2' := l1); (try k_lt l2'); (try k_sweep)))
local macro_rules | `(tactic| walk_at "subscriptTail Name Name ref ref") => `(tactic| (k_here; (with_reducible show wpAny _ _ (subscriptTail _ _ (Value.ref _) (Value.ref _)) _ _ _); k_dflt (refine' slice_LI ?zF ?zN ?zl ?zi ?zp ?zq ?zk ?zo ?zz ?_ ?zs; (case zF => k_asm); (case zN => k_asm); (case zl => k_mem); (case zi => assumption); (case zp => kmk_part); (case zq => kmk_part); (case zk => kmk_part); (case zo => decide); (case zz => walk_at "lens"); (case zs => with_unfolding_all rfl)); intro D' ws' h' F' N' l1 hI' hL'; (have l2' := l1); (try k_lt l2'); (try k_sweep)))
local macro_rules | `(tactic| walk_at "subscriptTail Attribute Name ref ref") => `(tactic| (k_here; (with_reducible show wpAny _ _ (subscriptTail _ _ (Value.ref _) (Value.ref _)) _ _ _); k_dflt (refine' slice_LI ?zF ?zN ?zl ?zi ?zp ?zq ?zk ?zo ?zz ?_ ?zs; (case zF => k_asm); (case zN => k_asm); (case zl => k_mem); (case zi => assumption); (case zp => kmk_part); (case zq => kmk_part); (case zk => kmk_part); (case zo => decide); (case zz => walk_at "lens"); (case zs => with_unfolding_all rfl)); intro D' ws' h' F' N' l1 hI' hL'; (have l2' := l1); (try k_lt l2'); (try k_sweep)))

variable {w : World} {mean : ExcName → Option Value} {mg mb : Str → Option Value} {dp un : Nat} {gd : Option (List Code)} {A₀ : Around} {base h₀ : Heap} {env : Env} {outer : List Env} {L : Addr} {m : Str → Option Value} {s : Shared} {Q E : Value → Shared → Prop}
local macro_rules | `(tactic| walk_at "call builtin:list.append") => `(tactic| (k_here; (with_reducible show wpAny _ _ (call (Value.builtin "list.append") [Value.ref _, Value.int _ _]) _ _ _); k_dflt (refine' append_LI ?k1 ?k2 ?k3 ?k4 ?k5 ?_; (case k1 => k_asm); (case k2 => k_asm); (case k3 => k_upd); (case k4 => walk_at "lens"); (case k5 => assumption); k_whole); intro h' F' N' hI'; (try k_sweep)))
local macro_rules | `(tactic| walk_at "subscriptTail Name Slice ref ref") => `(tactic| (k_here; (with_reducible show wpAny _ _ (subscriptTail _ (PySem.Expr.Slice _ _ none _) (Value.ref _) (Value.ref _)) _ _ _); k_dflt (refine' slice_LJ ?zF ?zN ?zl ?zi ?zp ?zq ?zz ?_ ?zs ?zt; (case zF => k_asm); (case zN => k_asm); (case zl => k_mem); (case zi => assumption); (case zp => kmk_part); (case zq => kmk_part); (case zz => walk_at "lens"); (case zs => with_unfolding_all rfl); (case zt => kmk_pure)); intro D' ws' h' F' N' l1 hI' hL'; (have l2' := l1); (try k_lt l2'); (try k_sweep)))
local macro_rules | `(tactic| walk_at "subscriptTail ListComp Slice ref ref") => `(tactic| (k_here; (with_reducible show wpAny _ _ (subscriptTail _ (PySem.Expr.Slice _ _ none _) (Value.ref _) (Value.ref _)) _ _ _); k_dflt (refine' slice_LJ ?zF ?zN ?zl ?zi ?zp ?zq ?zz ?_ ?zs ?zt; (case zF => k_asm); (case zN => k_asm); (case zl => k_mem); (case zi => assumption); (case zp => kmk_part); (case zq => kmk_part); (case zz => walk_at "lens"); (case zs => with_unfolding_all rfl); (case zt => kmk_pure)); intro D' ws' h' F' N' l1 hI' hL'; (have l2' := l1); (try k_lt l2'); (try k_sweep)))
local macro_rules | `(tactic| walk_at "subscriptTail Subscript Slice ref ref") => `(tactic| (k_here; (with_reducible show wpAny _ _ (subscriptTail _ (PySem.Expr.Slice _ _ none _) (Value.ref _) (Value.ref _)) _ _ _); k_dflt (refine' slice_LJ ?zF ?zN ?zl ?zi ?zp ?zq ?zz ?_ ?zs ?zt; (case zF => k_asm); (case zN => k_asm); (case zl => k_mem); (case zi => assumption); (case zp => kmk_part); (case zq => kmk_part); (case zz => walk_at "lens"); (case zs => with_unfolding_all rfl); (case zt => kmk_pure)); intro D' ws' h' F' N' l1 hI' hL'; (have l2' := l1); (try k_lt l2'); (try k_sweep)))
local macro_rules | `(tactic| walk_at "subscriptTail Attribute Slice ref ref") => `(tactic| (k_here; (with_reducible show wpAny _ _ (subscriptTail _ (PySem.Expr.Slice _ _ none _) (Value.ref _) (Value.ref _)) _ _ _); k_dflt (refine' slice_LJ ?zF ?zN ?zl ?zi ?zp ?zq ?zz ?_ ?zs ?zt; (case zF => k_asm); (case zN => k_asm); (case zl => k_mem); (case zi => assumption); (case zp => kmk_part); (case zq => kmk_part); (case zz => walk_at "lens"); (case zs => with_unfolding_all rfl); (case zt => kmk_pure)); intro D' ws' h' F' N' l1 hI' hL'; (have l2' := l1); (try k_lt l2'); (try k_sweep)))
local macro_rules | `(tactic| walk_at "lens") => `(tactic| first | assumption | omega | (simp only [List.flatten_replicate_singleton, List.length_append, List.length_cons, List.length_nil, List.length_map, List.length_range, List.length_replicate, List.length_set]; omega))
local macro_rules | `(tactic| walk_at "sub") => `(tactic| first | exact List.forall_mem_nil _ | (refine' List.forall_mem_cons.mpr ⟨?a, ?b⟩; (case a => k_mem); (case b => walk_at "sub")) | (intro p hp; k_mem))


local macro_rules | `(tactic| walk_at "rngs") => `(tactic| first | assumption | exact mulZ_rng.1 | exact mulZ_rng.2 | exact divZ_rng.1 | exact divZ_rng.2 | exact rng_lo (by assumption) | exact rng_hi (by assumption) | omega | exact (by assumption : _ → _ ∨ _) (by assumption))

def Sep (D L0 : Addr) (news own : List (Addr × Obj)) : Prop := ∀ p ∈ own, p.1 ≠ D ∧ p.1 ≠ L0 + 1 + 1 + 1 + 1 ∧ p.1 ≠ L0 + 1 + 1 + 1 ∧ (∀ q ∈ news, q.1 ≠ p.1) ∧ p.1 ≠ L0 + 1 + 1 ∧ p.1 ≠ L0 + 1
local macro_rules | `(tactic| walk_at "loadName") => `(tactic| (k_here; k_dflt (refine' loadX_C ?zN ?zc ?zm ?zd ?_ ?za ?zb; (case za => rfl); (case zb => rfl); (case zN => k_asm); (case zc => rfl); (case zm => k_mem); (case zd => k_asm); k_whole)))
section
variable {A : Around} {news : List (Addr × Obj)} {l : Addr} {vs : List Value} {ns : List Int} {n : Nat} {k : Int} {u : Tok}
theorem item_I {value slice : PySem.Expr} (N : News h₀ L s.heap news) (hl : (l, W.listOf vs.toArray n) ∈ news) (hi : IntsAre vs ns) (h0 : 0 ≤ k) (h1 : k < ns.length) (hz : k < 2 ^ 63) (h : ∀ t, Q (.int (ns.getD k.toNat 0) t) s)
    (hs : subscripted slice false (.ref l) (.int k u) = operate [.ref l, .int k u] (getItem (.ref l) (.int k u)) := by with_unfolding_all rfl) :
    wpAny (model PP w) A (subscriptTail value slice (.ref l) (.int k u)) Q E s := item_anyK (isList_of N hl) hi h0 h1 hz h hs
end
local macro_rules | `(tactic| walk_at "subscriptTail Name Name ref int") => `(tactic| (k_here; (with_reducible show wpAny _ _ (subscriptTail _ _ (Value.ref _) (Value.int _ _)) _ _ _); k_dflt (refine' item_I ?zN ?zl ?zi ?z0 ?z1 ?zz ?_ ?zs; (case zN => k_asm); (case zl => k_mem); (case zi => assumption); (case z0 => omega); (case z1 => omega); (case zz => omega); (case zs => with_unfolding_all rfl); k_whole); intro t'))
local macro_rules | `(tactic| walk_at "subscriptTail Name Name ref int") => `(tactic| (k_here; (with_reducible show wpAny _ _ (subscriptTail _ _ (Value.ref _) (Value.int _ _)) _ _ _); k_dflt (refine' item_V ?zN ?zl ?zx ?z0 ?zz ?_ ?zs; (case zN => k_asm); (case zl => k_mem); (case zx => assumption); (case z0 => omega); (case zz => omega); (case zs => with_unfolding_all rfl); k_whole)))
local macro_rules | `(tactic| walk_at "subscriptTail Name Slice ref ref") => `(tactic| (k_here; (with_reducible show wpAny _ _ (subscriptTail _ (PySem.Expr.Slice _ none (some _) _) (Value.ref _) (Value.ref _)) _ _ _); k_dflt (refine' slice_LI ?zF ?zN ?zl ?zi ?zp ?zq ?zk ?zo ?zz ?_ ?zs; (case zF => k_asm); (case zN => k_asm); (case zl => k_mem); (case zi => assumption); (case zp => kmk_part); (case zq => kmk_part); (case zk => kmk_part); (case zo => (intro h0; have h1 := Option.some.inj h0; omega)); (case zz => walk_at "lens"); (case zs => with_unfolding_all rfl)); intro D' ws' h' F' N' l1 hI' hL'; (have l2' := l1); (try k_lt l2'); (try k_sweep)))
set_option maxHeartbeats 8000000 in
theorem dealt_call {news : List (Addr × Obj)} {ta ba : Addr} {vt vb : List Value} {nt nb : Nat} {rows es : List (List Int)} {e : Nat}
  (B : Below A₀ base outer h₀) (F : Fr h₀ L s.heap m) (X : (hd.heap_39 w.params).In h₀) (N : News h₀ L s.heap news) (T : TopM mean mg mb h₀)
  (hf : env.frame = some L) (hk : env.scope.kind = .function) (hroom : dp + 4 < recursionLimit) (hun : un + 40 < cLine)
  (ht : (ta, W.listOf vt.toArray nt) ∈ news) (hit : IntsAre vt (dealOut rows (maxLen rows) ++ dealOut es e)) (hb : (ba, W.listOf vb.toArray nb) ∈ news) (hib : IntsAre vb (rows.map fun r => (r.length : Int)))
  (hr : ∀ r ∈ rows, r.length ≤ 5) (hes : ∀ r ∈ es, r.length = e) (hel : es.length = rows.length) (hr0 : 0 < rows.length) (hrl : rows.length ≤ 3) (he : e ≤ 10)
  (hret : ∀ (h' : Heap) (tk' : Nat) (r : Addr) (vr : List Value) (nr : Nat) (own : List (Addr × Obj)), Fr h₀ L h' m → News h₀ L h' ((r, W.listOf vr.toArray nr) :: (own ++ news)) → (∀ p ∈ (r, W.listOf vr.toArray nr) :: own, ∀ q ∈ news, q.1 ≠ p.1) → RowsIn own vr (List.zipWith (· ++ ·) rows es) → Q (.ref r) { s with heap := h', toks := tk' }) :
  wpAny (model PP w) (AA dp un gd env outer) (call (.ref 330) [.ref ta, .ref ba]) Q E s := by
  have htl := hit.length
  have hbl := hib.length
  rw [List.length_map] at hbl
  walk_at "my_enterC"
  walk_at "my_steps"
  refine ⟨?_⟩
  rename_i g0 L0 h9 tk9 FG0 F0 B0 X0 T0 l0 o1 o2 o3 o4 d1 d2 d3 d4 N0
  have c3 : o3.data = .cell (some (.ref ba)) := d3
  have c4 : o4.data = .cell (some (.ref ta)) := d4
  have c2 : o2.data = .cell none := d2
  have c1 : o1.data = .cell none := d1
  clear d1 d2 d3 d4
  refine comp_list (l := ba) (vs := vb) (nn := nb) (fun i ys nx => ∃ own, nx = own ++ ((L0 + 1 + 1 + 1 + 1, o1) :: (L0 + 1 + 1 + 1, o2) :: (L0 + 1 + 1, o3) :: (L0 + 1, o4) :: news) ∧ DRows own ys (List.replicate i []) ∧ (∀ p ∈ own, ∀ q ∈ (L0 + 1 + 1 + 1 + 1, o1) :: (L0 + 1 + 1 + 1, o2) :: (L0 + 1 + 1, o3) :: (L0 + 1, o4) :: news, q.1 ≠ p.1))
    rfl (by omega) (.tail _ (.tail _ (.tail _ (.tail _ hb)))) ?_ F0 N0 ⟨[], rfl, .nil, fun p hp => nomatch hp⟩ ?_ ?_
  · rintro i ys nx ⟨own, rfl, _⟩
    exact List.mem_append_right _ (.tail _ (.tail _ (.tail _ (.tail _ hb))))
  · rintro i v I oI C oC D m₂ ys nx h tk E' hv ⟨own, rfl, hd, hne⟩ hC hx F₁ N₁ off ne
    walk_at "my_steps"
    rename Fr _ _ _ _ => F₃
    rename News _ _ _ _ => N₃
    rename_i l7 h7 q7
    have q8 := allLt_lt q7.2.2.2
    refine cend F₃ N₃ (by k_mem) (by k_mem) (by k_mem) (nx := (own ++ [(l7, W.listOf [].toArray 0)]) ++ ((L0 + 1 + 1 + 1 + 1, o1) :: (L0 + 1 + 1 + 1, o2) :: (L0 + 1 + 1, o3) :: (L0 + 1, o4) :: news)) ?_ ?_ ⟨_, rfl, ?_, ?_⟩
    · intro p hp
      rcases List.mem_append.mp hp with hp | hp
      · rcases List.mem_append.mp hp with hp | hp
        · exact .tail _ (.tail _ (.tail _ (.tail _ (List.mem_append_left _ hp))))
        · rw [List.mem_singleton.mp hp]; exact .head _
      · exact .tail _ (.tail _ (.tail _ (.tail _ (List.mem_append_right _ hp))))
    · refine off3_of fun p hp => ?_
      rcases List.mem_append.mp hp with hp | hp
      · rcases List.mem_append.mp hp with hp | hp
        · exact off.mem p (List.mem_append_left _ hp)
        · rw [List.mem_singleton.mp hp]
          exact ⟨Ne.symm (Nat.ne_of_lt q7.1), Ne.symm (Nat.ne_of_lt q7.2.1), Ne.symm (Nat.ne_of_lt q7.2.2.1)⟩
      · exact off.mem p (List.mem_append_right _ hp)
    · rw [List.replicate_succ']
      exact .snoc hd .nil fun p hp => Nat.ne_of_lt (q8 p (List.mem_append_left _ hp))
    · intro p hp q hq
      rcases List.mem_append.mp hp with hp | hp
      · exact hne p hp q hq
      · rw [List.mem_singleton.mp hp]
        exact Nat.ne_of_lt (q8 q (List.mem_append_right _ hq))
  · rintro g ys nx ⟨own, rfl, hd, hne⟩ D h tk F₁ N₁ off
    have hoD : ∀ p ∈ own ++ ((L0 + 1 + 1 + 1 + 1, o1) :: (L0 + 1 + 1 + 1, o2) :: (L0 + 1 + 1, o3) :: (L0 + 1, o4) :: news), p.1 ≠ D := off1_sub off fun p hp => hp
    have hD4 : L0 + 1 + 1 + 1 + 1 ≠ D := hoD (L0 + 1 + 1 + 1 + 1, o1) (List.mem_append_right _ (.head _))
    have hD3 : L0 + 1 + 1 + 1 ≠ D := hoD (L0 + 1 + 1 + 1, o2) (List.mem_append_right _ (.tail _ (.head _)))
    have hsep : Sep D L0 news own := fun p hp => ⟨hoD p (List.mem_append_left _ hp), Ne.symm (hne p hp _ (.head _)), Ne.symm (hne p hp _ (.tail _ (.head _))), (fun q hq => hne p hp q (.tail _ (.tail _ (.tail _ (.tail _ hq))))), Ne.symm (hne p hp _ (.tail _ (.tail _ (.head _)))), Ne.symm (hne p hp _ (.tail _ (.tail _ (.tail _ (.head _)))))⟩
    replace N₁ := news_sub (news' := (D, LCg.lst ys) :: (L0 + 1 + 1 + 1 + 1, o1) :: (L0 + 1 + 1 + 1, o2) :: (L0 + 1 + 1, o3) :: (L0 + 1, o4) :: (own ++ news)) N₁ (by
      intro p hp
      simp only [List.mem_cons, List.mem_append] at hp ⊢
      rcases hp with hp | hp | hp | hp | hp | hp | hp <;> simp [hp])
    have hnw : ∀ p ∈ own ++ news, p.1 ≠ D ∧ p.1 ≠ L0 + 1 + 1 + 1 + 1 ∧ p.1 ≠ L0 + 1 + 1 + 1 := by
      intro p hp
      rcases List.mem_append.mp hp with hp | hp
      · exact ⟨(hsep p hp).1, (hsep p hp).2.1, (hsep p hp).2.2.1⟩
      · have := l0 p hp
        exact ⟨hoD p (List.mem_append_right _ (.tail _ (.tail _ (.tail _ (.tail _ hp))))), neN (Nat.ne_of_lt (Nat.lt_of_lt_of_le this (by omega))), neN (Nat.ne_of_lt (Nat.lt_of_lt_of_le this (by omega)))⟩
    have hw1 : ∀ p ∈ own ++ news, p.1 ≠ D := fun p hp => (hnw p hp).1
    have hw2 : ∀ p ∈ own ++ news, p.1 ≠ L0 + 1 + 1 + 1 + 1 := fun p hp => (hnw p hp).2.1
    have hw3 : ∀ p ∈ own ++ news, p.1 ≠ L0 + 1 + 1 + 1 := fun p hp => (hnw p hp).2.2
    have hsb : ∀ p ∈ news, p ∈ own ++ news := fun p hp => List.mem_append_right _ hp
    have hb' := hsb _ hb
    have ht' := hsb _ ht
    obtain ⟨tl, htl2⟩ : ∃ tl, tl = own ++ news := ⟨_, rfl⟩
    rw [← htl2] at N₁ hw1 hw2 hw3 hb' ht'
    have hml : 0 < (rows.map fun r => (r.length : Int)).length := by rw [List.length_map]; exact hr0
    walk_at "my_steps"
    refine ⟨?_⟩
    rename IsRange _ _ _ _ _ _ _ _ => R₂
    rename Fr _ _ _ _ => F₂
    rename News _ _ _ _ => N₂
    rename_i TT h1 q1 h2 h3 oR hR h4 oA hA h5 M tM kM aM bM r6 h6 u6 v6 tk6
    have hMM := maxLen_int aM bM
    clear aM bM
    subst hMM
    have hmL : maxLen rows ≤ 5 := maxLen_le fun r hr' => hr r hr'
    subst htl2
    have hyl := hd.length
    rw [List.length_replicate] at hyl
    have hyl2 : ys.length = rows.length := by omega
    refine range_loopC (maxLen rows) ["i", "zz"] (fun k u nx => ∃ own oa t0, nx = (D, LCg.lst ys) :: (L0 + 1 + 1 + 1 + 1, oa) :: (L0 + 1 + 1 + 1, oR) :: (L0 + 1 + 1, o3) :: (L0 + 1, o4) :: (own ++ news) ∧ DRows own ys (rows.map (·.take k)) ∧ Sep D L0 news own ∧ oa.data = .cell (some (.int ((dealOut rows k).length : Int) t0)))
      rfl R₂ (by omega) (by decide) (by decide) (by omega) (by omega) F₂ (news_sub N₂ fun p hp => .tail _ hp) ⟨own, oA, _, rfl, by rw [hbl] at hd; simpa [List.map_const'] using hd, hsep, hA⟩ ?_ ?_
    · rintro k kk t I u nx h tk oi hk1 hkk hnx ⟨own, oa, t0, rfl, hdr, hsp, hoa⟩ F₁ N₁
      have hkk : kk = (k : Int) := by omega
      subst hkk
      have hI1 : D ≠ I := (List.forall_mem_cons.mp hnx).1
      have hI2 : L0 + 1 + 1 + 1 + 1 ≠ I := hnx (L0 + 1 + 1 + 1 + 1, oa) (.tail _ (.head _))
      have hI3 : ∀ p ∈ own ++ news, p.1 ≠ I := fun p hp => hnx p (.tail _ (.tail _ (.tail _ (.tail _ (.tail _ hp)))))
      have hb2 : (ba, W.listOf vb.toArray nb) ∈ own ++ news := List.mem_append_right _ hb
      walk_at "my_steps"
      refine ⟨?_⟩
      rename IsRange _ _ _ _ _ _ _ _ => R₃
      rename Fr _ _ _ _ => F₃
      rename News _ _ _ _ => N₃
      refine range_loopC rows.length ["zz"] (fun i u nx => ∃ own oa t0, nx = (I, oi) :: (D, LCg.lst ys) :: (L0 + 1 + 1 + 1 + 1, oa) :: (L0 + 1 + 1 + 1, oR) :: (L0 + 1 + 1, o3) :: (L0 + 1, o4) :: (own ++ news) ∧ DRows own ys (stR rows k i) ∧ Sep D L0 news own ∧ (∀ p ∈ own, p.1 ≠ I) ∧ oa.data = .cell (some (.int ((dealOut rows k ++ dealRow (rows.take i) k).length : Int) t0)))
        rfl R₃ (by omega) (by decide) (by decide) (by omega) (by omega) F₃ N₃ ⟨own, oa, t0, rfl, by rw [stR_zero]; exact hdr, hsp, fun p hp => hI3 p (List.mem_append_left _ hp), by rw [List.take_zero]; show oa.data = .cell (some (.int ((dealOut rows k ++ []).length : Int) t0)); rw [List.append_nil]; exact hoa⟩ ?_ ?_
      · rintro i ii t2 I2 u nx h tk oi2 hi1 hii hnx2 ⟨own, oa, t0, rfl, hdr, hsp, hoI, hoa⟩ F₁ N₁
        have hii : ii = (i : Int) := by omega
        subst hii
        obtain ⟨r, hri⟩ : ∃ r, rows[i]? = some r := ⟨rows[i], by simp [hi1]⟩
        obtain ⟨v, hv⟩ : ∃ v, ys[i]? = some v := ⟨ys[i]'(by omega), by simp [hyl2, hi1]⟩
        obtain ⟨pre, post, a, xs, n, q, rfl, rfl, hq, hix, hp1, hp2, hset⟩ := hdr.split hv
        rw [stR_get hri] at hq
        cases hq
        have haown : (a, W.listOf xs.toArray n) ∈ pre ++ (a, W.listOf xs.toArray n) :: post := List.mem_append_right _ (.head _)
        have ha1 := (hsp _ haown).1
        have ha2 := (hsp _ haown).2.1
        have ha3 := (hsp _ haown).2.2.1
        have ha4 := (hsp _ haown).2.2.2.2.1
        have ha5 := (hsp _ haown).2.2.2.2.2
        have haI := hoI _ haown
        have haI2 : a ≠ I2 := hnx2 (a, _) (.tail _ (.tail _ (.tail _ (.tail _ (.tail _ (.tail _ (List.mem_append_left _ haown)))))))
        have hDI2 : D ≠ I2 := hnx2 (D, _) (.tail _ (.head _))
        have hAI2 : L0 + 1 + 1 + 1 + 1 ≠ I2 := hnx2 (L0 + 1 + 1 + 1 + 1, _) (.tail _ (.tail _ (.head _)))
        have hII2 : I ≠ I2 := hnx2 (I, _) (.head _)
        have hap : ∀ p ∈ pre ++ post ++ news, p.1 ≠ a := by
          intro p hp
          rcases List.mem_append.mp hp with hp | hp
          · rcases List.mem_append.mp hp with hp | hp
            · exact hp1 p hp
            · exact hp2 p hp
          · exact (hsp _ haown).2.2.2.1 p hp
        have hap4 : ∀ p ∈ pre ++ post ++ news, p.1 ≠ L0 + 1 + 1 + 1 + 1 := by
          intro p hp
          rcases List.mem_append.mp hp with hp | hp
          · rcases List.mem_append.mp hp with hp | hp
            · exact (hsp p (List.mem_append_left _ hp)).2.1
            · exact (hsp p (List.mem_append_right _ (.tail _ hp))).2.1
          · exact neN (Nat.ne_of_lt (Nat.lt_of_lt_of_le (l0 p hp) (by omega)))
        have hsb : ∀ p ∈ news, p ∈ pre ++ post ++ news := fun p hp => List.mem_append_right _ hp
        have hb' := hsb _ hb
        have ht' := hsb _ ht
        replace N₁ := news_sub (news' := (a, W.listOf xs.toArray n) :: (I2, oi2) :: (I, oi) :: (D, LCg.lst ys) :: (L0 + 1 + 1 + 1 + 1, oa) :: (L0 + 1 + 1 + 1, oR) :: (L0 + 1 + 1, o3) :: (L0 + 1, o4) :: (pre ++ post ++ news)) N₁ (by
          intro p hp
          simp only [List.mem_cons, List.mem_append] at hp ⊢
          grind)
        have hml2 : (rows.map fun r => (r.length : Int)).length = rows.length := List.length_map _
        have hbi : (rows.map fun r => (r.length : Int)).getD ((i : Int)).toNat 0 = (r.length : Int) := by
          rw [List.getD_eq_getElem?_getD, Int.toNat_natCast, List.getElem?_map, hri]; rfl
        have hvi : ys[((i : Int)).toNat]? = some (Value.ref a) := hv
        have hxl := hix.length
        have hxl2 : xs.length ≤ 10 := by rw [hxl, List.length_take]; omega
        have hrl5 := hr r (List.mem_of_getElem? hri)
        have hpre : ∃ tl, tl = pre ++ post ++ news := ⟨_, rfl⟩
        obtain ⟨tl, htl2⟩ := hpre
        rw [← htl2] at N₁ hap hap4 hb' ht'
        by_cases hkr : k < r.length
        · have hda := deal_at (tail := dealOut es e) hri hkr
          have hTB : (dealOut rows (maxLen rows) ++ dealOut es e).length ≤ 100 := by
            have b1 := dealOut_len (rs := rows) (maxLen rows)
            have b2 := dealOut_len (rs := es) e
            have b3 : maxLen rows * rows.length ≤ 5 * 3 := Nat.mul_le_mul hmL hrl
            have b4 : e * es.length ≤ 10 * 3 := Nat.mul_le_mul he (by omega)
            rw [List.length_append]; omega
          generalize hAT : (dealOut rows k ++ dealRow (rows.take i) k).length = AT at *
          have hd1 := hda.1
          have hd2 := hda.2
          clear hda
          walk_at "my_steps"
          rename Fr _ _ _ _ => F₆
          rename News _ _ _ _ => N₆
          rename_i t9 h7 Fo No hI9 h8 oa' hoa'
          have e1 : ((dealOut rows k ++ dealRow (rows.take (i + 1)) k).length : Int) = (AT : Int) + 1 := by
            rw [dealRow_step hri, if_pos hkr, ← List.append_assoc, List.length_append, hAT]; rfl
          obtain ⟨t0', ht0⟩ : ∃ t0', oa'.data = .cell (some (.int ((dealOut rows k ++ dealRow (rows.take (i + 1)) k).length : Int) t0')) := ⟨_, by rw [e1]; exact hoa'⟩
          subst htl2
          refine tpost_next F₆ N₆ (by k_mem) (nx := (I, oi) :: (D, LCg.lst ys) :: (L0 + 1 + 1 + 1 + 1, oa') :: (L0 + 1 + 1 + 1, oR) :: (L0 + 1 + 1, o3) :: (L0 + 1, o4) :: ((pre ++ (a, W.listOf (xs ++ [Value.int ((dealOut rows (maxLen rows) ++ dealOut es e).getD ((AT : Int)).toNat 0) t9]).toArray (n + 1)) :: post) ++ news)) ?_ ?_ ⟨⟨_, oa', t0', rfl, ?_, ?_, ?_, ?_⟩, by walk_at "keep"⟩
          · intro p hp
            simp only [List.mem_cons, List.mem_append] at hp ⊢
            rcases hp with hp | hp | hp | hp | hp | hp | (hp | hp | hp) | hp <;> simp [hp]
          · intro p hp
            simp only [List.mem_cons, List.mem_append] at hp
            rcases hp with rfl | rfl | rfl | rfl | rfl | rfl | (hp | rfl | hp) | hp
            · exact hII2
            · exact hDI2
            · exact hAI2
            · exact hnx2 (L0 + 1 + 1 + 1, oR) (.tail _ (.tail _ (.tail _ (.head _))))
            · exact hnx2 (L0 + 1 + 1, o3) (.tail _ (.tail _ (.tail _ (.tail _ (.head _)))))
            · exact hnx2 (L0 + 1, o4) (.tail _ (.tail _ (.tail _ (.tail _ (.tail _ (.head _))))))
            · exact hnx2 p (.tail _ (.tail _ (.tail _ (.tail _ (.tail _ (.tail _ (List.mem_append_left _ (List.mem_append_left _ hp))))))))
            · exact haI2
            · exact hnx2 p (.tail _ (.tail _ (.tail _ (.tail _ (.tail _ (.tail _ (List.mem_append_left _ (List.mem_append_right _ (.tail _ hp)))))))))
            · exact hnx2 p (.tail _ (.tail _ (.tail _ (.tail _ (.tail _ (.tail _ (List.mem_append_right _ hp)))))))
          · rw [← stR_set hri]
            refine hset _ _ _ ?_
            have e1 : r.take (k + 1) = r.take k ++ [r.getD k 0] := by
              rw [List.take_add_one, List.getD_eq_getElem?_getD, List.getElem?_eq_getElem hkr]; rfl
            rw [e1, Int.toNat_natCast, hd1]
            exact ints_snoc hix
          · intro p hp
            rcases List.mem_append.mp hp with hp | hp
            · exact hsp p (List.mem_append_left _ hp)
            · rcases List.mem_cons.mp hp with rfl | hp
              · exact hsp (a, W.listOf xs.toArray n) haown
              · exact hsp p (List.mem_append_right _ (.tail _ hp))
          · intro p hp
            rcases List.mem_append.mp hp with hp | hp
            · exact hoI p (List.mem_append_left _ hp)
            · rcases List.mem_cons.mp hp with rfl | hp
              · exact haI
              · exact hoI p (List.mem_append_right _ (.tail _ hp))
          · exact ht0
        · walk_at "my_steps"
          rename Fr _ _ _ _ => F₆
          rename News _ _ _ _ => N₆
          subst htl2
          refine tpost_next F₆ N₆ (by k_mem) (nx := (I, oi) :: (D, LCg.lst ys) :: (L0 + 1 + 1 + 1 + 1, oa) :: (L0 + 1 + 1 + 1, oR) :: (L0 + 1 + 1, o3) :: (L0 + 1, o4) :: ((pre ++ (a, W.listOf xs.toArray n) :: post) ++ news)) ?_ hnx2 ⟨⟨_, oa, t0, rfl, ?_, hsp, hoI, ?_⟩, by walk_at "keep"⟩
          · intro p hp
            simp only [List.mem_cons, List.mem_append] at hp ⊢
            grind
          · rw [stR_skip hri (by omega)]; exact hdr
          · rw [dealRow_step hri, if_neg hkr, List.append_nil]; exact hoa
      · rintro u nx h tk ⟨own, oa, t0, rfl, hdr, hsp, hoI, hoa⟩ F₁ N₁
        walk_at "my_steps"
        rename Fr _ _ _ _ => F₆
        rename News _ _ _ _ => N₆
        refine tpost_next F₆ N₆ (by k_mem) (nx := (D, LCg.lst ys) :: (L0 + 1 + 1 + 1 + 1, oa) :: (L0 + 1 + 1 + 1, oR) :: (L0 + 1 + 1, o3) :: (L0 + 1, o4) :: (own ++ news)) (by walk_at "sub") ?_ ⟨⟨own, oa, t0, rfl, ?_, hsp, ?_⟩, by walk_at "keep"⟩
        · refine List.forall_mem_cons.mpr ⟨hI1, List.forall_mem_cons.mpr ⟨hI2, List.forall_mem_cons.mpr ⟨hnx (L0 + 1 + 1 + 1, oR) (.tail _ (.tail _ (.head _))), List.forall_mem_cons.mpr ⟨hnx (L0 + 1 + 1, o3) (.tail _ (.tail _ (.tail _ (.head _)))), List.forall_mem_cons.mpr ⟨hnx (L0 + 1, o4) (.tail _ (.tail _ (.tail _ (.tail _ (.head _))))), ?_⟩⟩⟩⟩⟩
          intro p hp
          rcases List.mem_append.mp hp with hp | hp
          · exact hoI p hp
          · exact hI3 p (List.mem_append_right _ hp)
        · rw [← stR_full]; exact hdr
        · rw [dealOut_succ]
          rw [List.take_length] at hoa
          exact hoa
    · rintro u nx h tk ⟨own, oa, t0, rfl, hdr, hsp, hoa⟩ F₁ N₁
      have hfull : rows.map (·.take (maxLen rows)) = rows := by
        have : rows.map (·.take (maxLen rows)) = rows.map id := List.map_congr_left fun r hr' => List.take_of_length_le (maxLen_ge r hr')
        rw [this, List.map_id]
      rw [hfull] at hdr
      have hb2 : (ba, W.listOf vb.toArray nb) ∈ own ++ news := List.mem_append_right _ hb
      walk_at "my_steps"
      refine ⟨?_⟩
      rename IsRange _ _ _ _ _ _ _ _ => R₇
      rename Fr _ _ _ _ => F₇
      rename News _ _ _ _ => N₇
      have hro := hdr.rows
      have m1 : (D, LCg.lst ys) ∈ (D, LCg.lst ys) :: (L0 + 1 + 1 + 1 + 1, oa) :: (L0 + 1 + 1 + 1, oR) :: (L0 + 1 + 1, o3) :: (L0 + 1, o4) :: (own ++ news) := .head _
      have m2 : (L0 + 1 + 1 + 1 + 1, oa) ∈ (D, LCg.lst ys) :: (L0 + 1 + 1 + 1 + 1, oa) :: (L0 + 1 + 1 + 1, oR) :: (L0 + 1 + 1, o3) :: (L0 + 1, o4) :: (own ++ news) := .tail _ (.head _)
      have m3 : (L0 + 1 + 1 + 1, oR) ∈ (D, LCg.lst ys) :: (L0 + 1 + 1 + 1 + 1, oa) :: (L0 + 1 + 1 + 1, oR) :: (L0 + 1 + 1, o3) :: (L0 + 1, o4) :: (own ++ news) := .tail _ (.tail _ (.head _))
      have m4 : (L0 + 1 + 1, o3) ∈ (D, LCg.lst ys) :: (L0 + 1 + 1 + 1 + 1, oa) :: (L0 + 1 + 1 + 1, oR) :: (L0 + 1 + 1, o3) :: (L0 + 1, o4) :: (own ++ news) := .tail _ (.tail _ (.tail _ (.head _)))
      have m5 : (L0 + 1, o4) ∈ (D, LCg.lst ys) :: (L0 + 1 + 1 + 1 + 1, oa) :: (L0 + 1 + 1 + 1, oR) :: (L0 + 1 + 1, o3) :: (L0 + 1, o4) :: (own ++ news) := .tail _ (.tail _ (.tail _ (.tail _ (.head _))))
      have m6 : ∀ p ∈ news, p ∈ (D, LCg.lst ys) :: (L0 + 1 + 1 + 1 + 1, oa) :: (L0 + 1 + 1 + 1, oR) :: (L0 + 1 + 1, o3) :: (L0 + 1, o4) :: (own ++ news) := fun p hp => .tail _ (.tail _ (.tail _ (.tail _ (.tail _ (List.mem_append_right _ hp)))))
      have m7 : ∀ p ∈ own, p ∈ (D, LCg.lst ys) :: (L0 + 1 + 1 + 1 + 1, oa) :: (L0 + 1 + 1 + 1, oR) :: (L0 + 1 + 1, o3) :: (L0 + 1, o4) :: (own ++ news) := fun p hp => .tail _ (.tail _ (.tail _ (.tail _ (.tail _ (List.mem_append_left _ hp)))))
      have m8 := m6 _ ht
      have m9 := m6 _ hb
      generalize (D, LCg.lst ys) :: (L0 + 1 + 1 + 1 + 1, oa) :: (L0 + 1 + 1 + 1, oR) :: (L0 + 1 + 1, o3) :: (L0 + 1, o4) :: (own ++ news) = tl1 at *
      refine comp_range vb.length (fun i zs nx => ∃ own2, nx = own2 ++ tl1 ∧ RowsIn own2 zs ((List.zipWith (· ++ ·) rows es).take i) ∧ (∀ p ∈ own2, ∀ q ∈ tl1, q.1 ≠ p.1))
        rfl R₇ (by omega) (by decide) (by decide) (by omega) (by omega) F₇ N₇ ⟨[], rfl, .nil, fun p hp => nomatch hp⟩ ?_ ?_
      · rintro i k t I oI C oC D2 m₂ zs nx h tk E' hi1 hkk ⟨own2, rfl, hr2, hs2⟩ hC hx F₁ N₁ off ne
        have hkk : k = (i : Int) := by omega
        subst hkk
        obtain ⟨v, hv⟩ : ∃ v, ys[i]? = some v := ⟨ys[i]'(by omega), by simp <;> omega⟩
        obtain ⟨a, xs, n, r, rfl, hri, hma, hix⟩ := hro.get hv
        have hvi : ys[((i : Int)).toNat]? = some (Value.ref a) := hv
        have n1 : (D, LCg.lst ys) ∈ own2 ++ tl1 := List.mem_append_right _ m1
        have n2 : (L0 + 1 + 1 + 1 + 1, oa) ∈ own2 ++ tl1 := List.mem_append_right _ m2
        have n3 : (L0 + 1 + 1 + 1, oR) ∈ own2 ++ tl1 := List.mem_append_right _ m3
        have n4 : (L0 + 1 + 1, o3) ∈ own2 ++ tl1 := List.mem_append_right _ m4
        have n5 : (L0 + 1, o4) ∈ own2 ++ tl1 := List.mem_append_right _ m5
        have n6 : (a, W.listOf xs.toArray n) ∈ own2 ++ tl1 := List.mem_append_right _ (m7 _ hma)
        have n8 : (ta, W.listOf vt.toArray nt) ∈ own2 ++ tl1 := List.mem_append_right _ m8
        have n9 : (ba, W.listOf vb.toArray nb) ∈ own2 ++ tl1 := List.mem_append_right _ m9
        obtain ⟨R, hR⟩ : ∃ R, R = own2 ++ tl1 := ⟨_, rfl⟩
        have hxl := hix.length
        have hrl5 := hr r (List.mem_of_getElem? hri)
        have hTB : (dealOut rows (maxLen rows) ++ dealOut es e).length ≤ 100 := by
          have b1 := dealOut_len (rs := rows) (maxLen rows)
          have b2 := dealOut_len (rs := es) e
          have b3 : maxLen rows * rows.length ≤ 5 * 3 := Nat.mul_le_mul hmL hrl
          have b4 : e * es.length ≤ 10 * 3 := Nat.mul_le_mul he (by omega)
          rw [List.length_append]; omega
        have hvt : vt.length ≤ 100 := by omega
        rw [← hR] at N₁ n1 n2 n3 n4 n5 n6 n8 n9
        walk_at "my_steps"
        rename Fr _ _ _ _ => F₆
        rename News _ _ _ _ => N₆
        rename_i t7 tk7 D7 w7 h7 l7 hI7 hL7 q7 r7 h8 l8 q8
        have q9 := allLt_lt q8.2.2.2.2
        subst hR
        have hes2 : es[i]? = some (es[i]'(by omega)) := List.getElem?_eq_getElem (by omega)
        rw [show (vb.length : Int) = (es.length : Int) by omega, slice_deal hes (by omega)] at hI7
        refine cend F₆ N₆ (by k_mem) (by k_mem) (by k_mem) (nx := (own2 ++ [(r7, W.listOf (xs ++ w7).toArray 0)]) ++ tl1) ?_ ?_ ⟨_, rfl, ?_, ?_⟩
        · intro p hp
          simp only [List.mem_cons, List.mem_append, List.not_mem_nil, or_false] at hp ⊢
          rcases hp with (hp | hp) | hp <;> simp [hp]
        · refine off3_of fun p hp => ?_
          rcases List.mem_append.mp hp with hp | hp
          · rcases List.mem_append.mp hp with hp | hp
            · exact off.mem p (List.mem_append_left _ hp)
            · rw [List.mem_singleton.mp hp]
              exact ⟨Ne.symm (Nat.ne_of_lt q8.2.1), Ne.symm (Nat.ne_of_lt q8.2.2.1), Ne.symm (Nat.ne_of_lt q8.2.2.2.1)⟩
          · exact off.mem p (List.mem_append_right _ hp)
        · have hz : (List.zipWith (· ++ ·) rows es)[i]? = some (r ++ es[i]'(by omega)) := by
            rw [List.getElem?_zipWith, hri, hes2]
          rw [List.take_add_one, hz]
          exact (hr2.mono fun p hp => List.mem_append_left _ hp).snoc (List.mem_append_right _ (.head _)) (hix.append hI7)
        · intro p hp q hq
          rcases List.mem_append.mp hp with hp | hp
          · exact hs2 p hp q hq
          · rw [List.mem_singleton.mp hp]
            exact Nat.ne_of_lt (q9 q (List.mem_append_right _ hq))
      · rintro g zs nx ⟨own2, rfl, hr2, hs2⟩ D2 h tk F₁ N₁ off
        have hoD2 : ∀ p ∈ own2 ++ tl1, p.1 ≠ D2 := off1_sub off fun p hp => hp
        walk_at "my_steps"
        rename Fr h₀ L _ m => kF
        rename News h₀ L _ _ => kN
        refine hret _ _ D2 zs zs.length own2 kF (news_sub kN ?_) ?_ ?_
        · refine List.forall_mem_cons.mpr ⟨.head _, fun p hp => .tail _ ?_⟩
          rcases List.mem_append.mp hp with hp | hp
          · exact List.mem_append_left _ hp
          · exact List.mem_append_right _ (m6 _ hp)
        · refine List.forall_mem_cons.mpr ⟨fun q hq => hoD2 q (List.mem_append_right _ (m6 _ hq)), fun p hp q hq => hs2 p hp q (m6 _ hq)⟩
        · rw [List.take_of_length_le (by rw [List.length_zipWith] <;> omega)] at hr2
          exact hr2

end Mine
end

theorem Mine.anew_W26 : 1 = 1 := by
  w_top off
  first | walk1 | rfl

/-! part W26 -/
section
open PySem PySem.W PyProof.Rows PySem.Calls PySem.Spec
set_option Elab.async false
namespace Mine
set_option maxRecDepth 100000
theorem fill_W26 {w : World} {h : Heap} : (hd.heap_39 w.params).In h → Challenge.rw_bj0062_01.row.prog = Challenge.rw_bj0062_01.row.prog := by
  k_fill
  intro _
  rfl
local macro_rules | `(tactic| walk_at "my_enter") => `(tactic| (refine wpAny_call ?_; k_dflt (refine' code_def ?k1 ?k2 ?k3 ?k4 ?k5 ?kA ?kF ?kK ?k6 ?k7 ?k8 ?k9 ?kB ?_ ?c2 ?c3 ?c4 ?c5; (case kA => exact rfl); (case kF => assumption); (case kK => assumption); (case k1 => k_asm); (case k2 => k_asm); (case k3 => k_asm); (case k4 => k_asm); (case k5 => k_asm); (case k6 => k_is); (case k7 => k_is); (case k8 => walk_at "room"); (case k9 => exact BindsTo.of_eq rfl); (case c5 => decide); (case kB => exact locs rfl); (case c2 => exact rfl); (case c3 => exact rfl); (case c4 => exact rfl); k_whole; intro g' L' h' FG' F' N' B' X' T'; (try dsimp only); (try k_fold))))
local macro_rules | `(tactic| walk_at "my_steps") => `(tactic| repeat' (first | (k_unfold; (try dsimp only)) | walk1 | (dsimp only; walk1)))
local macro_rules | `(tactic| walk_at "setItem ref int") => `(tactic| (k_here; (with_reducible show wpAny _ _ (setItem (Value.ref _) (Value.int _ _) _) _ _ _); k_dflt (refine' set_listK ?k1 ?k2 ?k3 ?k5 ?k6 ?k7 ?_; (case k1 => k_asm); (case k2 => k_asm); (case k3 => k_upd); (case k5 => first | omega | ksa_idx); (case k6 => first | omega | (simp; done) | (simp; omega)); (case k7 => first | omega | ksa_idx); k_whole); intro h' F' N'; (try k_sweep)))
local macro_rules | `(tactic| k_ne) => `(tactic| first | assumption | exact Ne.symm (by assumption) | (refine neN ?_; (try dsimp only); omega))
local macro_rules | `(tactic| k_all) => `(tactic| first | assumption | exact lt_all_ne (by assumption) | exact lt_all_sub (by assumption) (by walk_at "sub") | exact ne_all_sub (by assumption) (by walk_at "sub") | exact allLt_ne (by assumption) | exact allLt_ne (And.right (by assumption)) | exact allLt_ne (And.right (And.right (by assumption))) | exact allLt_ne (And.right (And.right (And.right (by assumption)))) | exact allLt_ne (And.right (And.right (And.right (And.right (by assumption))))) | exact allLt_ne (And.right (And.right (And.right (And.right (And.right (by assumption)))))) | exact allLt_ne (And.right (And.right (And.right (And.right (And.right (And.right (by assumption))))))) | exact allLt_ne (And.right (And.right (And.right (And.right (And.right (And.right (And.right (by assumption)))))))) | exact allLt_ne (And.right (And.right (And.right (And.right (And.right (And.right (And.right (And.right (by assumption))))))))) | exact allLt_ne (And.right (And.right (And.right (And.right (And.right (And.right (And.right (And.right (And.right (by assumption)))))))))) | exact lt_all_off (by assumption) (by omega) | exact off1_sub (by assumption) (by walk_at "sub") | exact List.forall_mem_nil _ | (refine' List.forall_mem_cons.mpr ⟨?a, ?b⟩; (case a => k_ne); (case b => k_all)))
local macro_rules | `(tactic| walk_at "call builtin:list.append") => `(tactic| (k_here; (with_reducible show wpAny _ _ (call (Value.builtin "list.append") [Value.ref _, _]) _ _ _); k_dflt (refine' append_L ?k1 ?k2 ?k3 ?k4 ?_; (case k1 => k_asm); (case k2 => k_asm); (case k3 => k_upd); (case k4 => walk_at "lens"); k_whole); intro h' F' N'; (try k_sweep)))
local macro_rules | `(tactic| walk_at "lens") => `(tactic| first | assumption | omega | (simp only [List.length_append, List.length_cons, List.length_nil, List.length_map, List.length_range, List.length_replicate, List.length_set]; omega))
local macro_rules | `(tactic| walk_at "ints") => `(tactic| first | omega | (simp only [decide_eq_true_eq, decide_eq_false_iff_not, Bool.not_eq_true, beq_iff_eq, beq_eq_false_iff_ne, ne_eq] at *; omega) | (trace_state; fail "ints"))
local macro_rules | `(tactic| walk_at "fld_in") => `(tactic| first | assumption | exact FieldIn.tail (by assumption) | exact FieldIn.tail (FieldIn.tail (by assumption)) | exact FieldIn.tail (FieldIn.tail (FieldIn.tail (by assumption))) | exact FieldIn.tail (FieldIn.tail (FieldIn.tail (FieldIn.tail (by assumption)))) | exact FieldIn.tail (FieldIn.tail (FieldIn.tail (FieldIn.tail (FieldIn.tail (by assumption))))) | exact FieldIn.tail (FieldIn.tail (FieldIn.tail (FieldIn.tail (FieldIn.tail (FieldIn.tail (by assumption)))))) | exact FieldIn.tail (FieldIn.tail (FieldIn.tail (FieldIn.tail (FieldIn.tail (FieldIn.tail (FieldIn.tail (by assumption))))))) | exact FieldIn.tail (FieldIn.tail (FieldIn.tail (FieldIn.tail (FieldIn.tail (FieldIn.tail (FieldIn.tail (FieldIn.tail (by assumption)))))))) | exact FieldIn.tail (FieldIn.tail (FieldIn.tail (FieldIn.tail (FieldIn.tail (FieldIn.tail (FieldIn.tail (FieldIn.tail (FieldIn.tail (by assumption))))))))) | exact FieldIn.tail (FieldIn.tail (FieldIn.tail (FieldIn.tail (FieldIn.tail (FieldIn.tail (FieldIn.tail (FieldIn.tail (FieldIn.tail (FieldIn.tail (by assumption)))))))))) | exact FieldIn.tail (FieldIn.tail (FieldIn.tail (FieldIn.tail (FieldIn.tail (FieldIn.tail (FieldIn.tail (FieldIn.tail (FieldIn.tail (FieldIn.tail (FieldIn.tail (by assumption))))))))))) | exact FieldIn.tail (FieldIn.tail (FieldIn.tail (FieldIn.tail (FieldIn.tail (FieldIn.tail (FieldIn.tail (FieldIn.tail (FieldIn.tail (FieldIn.tail (FieldIn.tail (FieldIn.tail (by assumption)))))))))))))
local macro_rules | `(tactic| k_mem) => `(tactic| first | assumption | exact List.Mem.head _ | (refine' List.Mem.tail _ ?_; k_mem))
local macro_rules | `(tactic| walk_at "subscriptTail") => `(tactic| (k_here; (with_reducible show wpAny _ _ (subscriptTail _ _ (Value.ref _) (Value.int 0 _)) _ _ _); k_dflt (refine' fld_0 ?k1 ?k2 ?_ ?k4; (case k1 => k_asm); (case k2 => walk_at "fld_in"); (case k4 => with_unfolding_all rfl); k_whole)))
local macro_rules | `(tactic| walk_at "subscriptTail Name Constant ref int") => `(tactic| (k_here; (with_reducible show wpAny _ _ (subscriptTail _ _ (Value.ref _) (Value.int 0 _)) _ _ _); k_dflt (refine' fld_0 ?k1 ?k2 ?_ ?k4; (case k1 => k_asm); (case k2 => walk_at "fld_in"); (case k4 => with_unfolding_all rfl); k_whole)))
local macro_rules | `(tactic| walk_at "subscriptTail") => `(tactic| (k_here; (with_reducible show wpAny _ _ (subscriptTail _ _ (Value.ref _) (Value.int 1 _)) _ _ _); k_dflt (refine' fld_1 ?k1 ?k2 ?_ ?k4; (case k1 => k_asm); (case k2 => walk_at "fld_in"); (case k4 => with_unfolding_all rfl); k_whole)))
local macro_rules | `(tactic| walk_at "subscriptTail Name Constant ref int") => `(tactic| (k_here; (with_reducible show wpAny _ _ (subscriptTail _ _ (Value.ref _) (Value.int 1 _)) _ _ _); k_dflt (refine' fld_1 ?k1 ?k2 ?_ ?k4; (case k1 => k_asm); (case k2 => walk_at "fld_in"); (case k4 => with_unfolding_all rfl); k_whole)))
local macro_rules | `(tactic| walk_at "subscriptTail") => `(tactic| (k_here; (with_reducible show wpAny _ _ (subscriptTail _ _ (Value.ref _) (Value.int _ _)) _ _ _); k_dflt (refine' fld_pow ?k1 ?k2 ?k5 ?k6 ?_ ?k4; (case k1 => k_asm); (case k2 => walk_at "fld_in"); (case k5 => first | omega | exact (fmod255 _).1); (case k6 => first | omega | exact (fmod255 _).2); (case k4 => with_unfolding_all rfl); k_whole); intro _))
local macro_rules | `(tactic| walk_at "subscriptTail Subscript Name Constant BinOp ref int") => `(tactic| (k_here; (with_reducible show wpAny _ _ (subscriptTail _ _ (Value.ref _) (Value.int _ _)) _ _ _); k_dflt (refine' fld_pow ?k1 ?k2 ?k5 ?k6 ?_ ?k4; (case k1 => k_asm); (case k2 => walk_at "fld_in"); (case k5 => first | omega | exact (fmod255 _).1); (case k6 => first | omega | exact (fmod255 _).2); (case k4 => with_unfolding_all rfl); k_whole); intro _))
local macro_rules | `(tactic| walk_at "subscriptTail Subscript Name Constant Name ref int") => `(tactic| (k_here; (with_reducible show wpAny _ _ (subscriptTail _ _ (Value.ref _) (Value.int _ _)) _ _ _); k_dflt (refine' fld_pow ?k1 ?k2 ?k5 ?k6 ?_ ?k4; (case k1 => k_asm); (case k2 => walk_at "fld_in"); (case k5 => first | omega | exact (fmod255 _).1); (case k6 => first | omega | exact (fmod255 _).2); (case k4 => with_unfolding_all rfl); k_whole); intro _))
local macro_rules | `(tactic| walk_at "subscriptTail Subscript Name Constant Subscript ref int") => `(tactic| (k_here; (with_reducible show wpAny _ _ (subscriptTail _ _ (Value.ref _) (Value.int _ _)) _ _ _); k_dflt (refine' fld_pow ?k1 ?k2 ?k5 ?k6 ?_ ?k4; (case k1 => k_asm); (case k2 => walk_at "fld_in"); (case k5 => first | omega | exact (fmod255 _).1); (case k6 => first | omega | exact (fmod255 _).2); (case k4 => with_unfolding_all rfl); k_whole); intro _))
local macro_rules | `(tactic| walk_at "subscriptTail") => `(tactic| (k_here; (with_reducible show wpAny _ _ (subscriptTail _ _ (Value.ref _) (Value.int _ _)) _ _ _); k_dflt (refine' fld_log ?k1 ?k2 ?k5 ?k6 ?_ ?k4; (case k1 => k_asm); (case k2 => walk_at "fld_in"); (case k5 => walk_at "ints"); (case k6 => walk_at "ints"); (case k4 => with_unfolding_all rfl); k_whole); intro _))
local macro_rules | `(tactic| walk_at "subscriptTail Subscript Name Constant BinOp ref int") => `(tactic| (k_here; (with_reducible show wpAny _ _ (subscriptTail _ _ (Value.ref _) (Value.int _ _)) _ _ _); k_dflt (refine' fld_log ?k1 ?k2 ?k5 ?k6 ?_ ?k4; (case k1 => k_asm); (case k2 => walk_at "fld_in"); (case k5 => walk_at "ints"); (case k6 => walk_at "ints"); (case k4 => with_unfolding_all rfl); k_whole); intro _))
local macro_rules | `(tactic| walk_at "subscriptTail Subscript Name Constant Name ref int") => `(tactic| (k_here; (with_reducible show wpAny _ _ (subscriptTail _ _ (Value.ref _) (Value.int _ _)) _ _ _); k_dflt (refine' fld_log ?k1 ?k2 ?k5 ?k6 ?_ ?k4; (case k1 => k_asm); (case k2 => walk_at "fld_in"); (case k5 => walk_at "ints"); (case k6 => walk_at "ints"); (case k4 => with_unfolding_all rfl); k_whole); intro _))
local macro_rules | `(tactic| walk_at "subscriptTail Subscript Name Constant Subscript ref int") => `(tactic| (k_here; (with_reducible show wpAny _ _ (subscriptTail _ _ (Value.ref _) (Value.int _ _)) _ _ _); k_dflt (refine' fld_log ?k1 ?k2 ?k5 ?k6 ?_ ?k4; (case k1 => k_asm); (case k2 => walk_at "fld_in"); (case k5 => walk_at "ints"); (case k6 => walk_at "ints"); (case k4 => with_unfolding_all rfl); k_whole); intro _))

local macro_rules | `(tactic| walk_at "pyIter ref") => `(tactic| ((with_reducible show wpAny _ _ (pyIter (Value.ref _)) (fun it s₂ => LoopAtV _ _ _ _ _ _ _ _ _ it s₂) _ _); refine Stopped.out ?_))
local macro_rules | `(tactic| walk_at "exec For Name Call cons nil") => `(tactic| (k_here; (rename Fr _ _ _ _ => lF'); (with_unfolding_all refine' For_invVF lF' ?k1 ?k2 ?_; (case k1 => exact rfl); (case k2 => exact rfl); k_whole)))
local macro_rules | `(tactic| walk_at "exec For Name Name cons nil") => `(tactic| (k_here; (rename Fr _ _ _ _ => lF'); (with_unfolding_all refine' For_invVF lF' ?k1 ?k2 ?_; (case k1 => exact rfl); (case k2 => exact rfl); k_whole)))
local macro_rules | `(tactic| walk_at "call type:range") => `(tactic| (k_here; (with_reducible show wpAny _ _ (call (Value.type "range") [Value.int _ _]) _ _ _); k_dflt (refine' range1_K ?k1 ?k2 ?_; (case k1 => k_asm); (case k2 => k_asm); k_whole); intro r' h' u' v' tk' F' N' R'; (try k_sweep)))
local macro_rules | `(tactic| walk_at "call type:range") => `(tactic| (k_here; (with_reducible show wpAny _ _ (call (Value.type "range") [Value.int _ _, Value.int _ _]) _ _ _); k_dflt (refine' range2_K ?k1 ?k2 ?_; (case k1 => k_asm); (case k2 => k_asm); k_whole); intro r' h' v' tk' F' N' R'; (try k_sweep)))
local macro_rules | `(tactic| walk_at "room") => `(tactic| first | assumption | omega | ((simp only [depth_in1, depth_deeper, units_in1, units_deeper, Around.mark_units]); omega))

local macro_rules | `(tactic| is_list) => `(tactic| (refine' isList_of ?a ?b; (case a => k_asm); (case b => k_mem)))
local macro_rules | `(tactic| walk_at "call builtin:len") => `(tactic| (k_here; (with_reducible show wpAny _ _ (call (Value.builtin "len") [Value.ref _]) _ _ _); k_dflt (refine' len_L ?k2 ?k3 ?k4 ?_; (case k2 => k_asm); (case k3 => k_mem); (case k4 => walk_at "lens"); k_whole); intro t' tk'; (try k_sweep)))
local macro_rules | `(tactic| walk_at "binaryOp Add ref ref") => `(tactic| (k_here; (with_reducible show wpAny _ _ (binaryOp Operator.Add (Value.ref _) (Value.ref _)) _ _ _); k_dflt (refine' add_L ?k1 ?k2 ?k3 ?k4 ?k5 ?_; (case k1 => k_asm); (case k2 => k_asm); (case k3 => k_mem); (case k4 => k_mem); (case k5 => walk_at "lens"); k_whole); intro r' h' F' N' hl'; (have hl2' := hl'); (try k_lt hl2'); (try k_sweep)))

local macro_rules | `(tactic| walk_at "sub") => `(tactic| first | (refine' List.forall_mem_cons.mpr ⟨?a, ?b⟩; (case a => k_mem); (case b => walk_at "sub")) | (intro p hp; k_mem))

local macro_rules | `(tactic| walk_at "keep") => `(tactic| first | exact keep_base | exact keep_refl | (refine keep_x ?_; walk_at "keep") | (refine keep_upd (by decide) ?_; walk_at "keep") | (refine keep_in (by decide) ?_; walk_at "keep"))

local macro_rules | `(tactic| walk_at "CompSrc") => `(tactic| refine Stopped.out ?_)
local macro_rules | `(tactic| walk_at "my_enterC") => `(tactic| (refine wpAny_call ?_; k_dflt (refine' code_defC ?k1 ?k2 ?k3 ?k4 ?k5 ?kA ?kF ?kK ?k6 ?k7 ?k8 ?k9 ?kB ?kD ?_ ?c2 ?c3 ?c4; (case kA => exact rfl); (case kF => assumption); (case kK => assumption); (case k1 => k_asm); (case k2 => k_asm); (case k3 => k_asm); (case k4 => k_asm); (case k5 => k_asm); (case k6 => k_is); (case k7 => k_is); (case k8 => walk_at "room"); (case k9 => exact BindsTo.of_eq rfl); (case kB => exact rfl); (case kD => decide +kernel); (case c2 => exact rfl); (case c3 => exact rfl); (case c4 => exact rfl); k_whole; intro g' L' h' tk' cells' FG' F' N' Y' B' X' T' l1; k_cells Y'; (try simp only [List.cons_append, List.nil_append] at N'); (try dsimp only); (try k_fold))))

local macro_rules | `(tactic| walk_at "subscriptTail Name Slice ref ref") => `(tactic| (k_here; (with_reducible show wpAny _ _ (subscriptTail _ (PySem.Expr.Slice _ _ _ _) (Value.ref _) (Value.ref _)) _ _ _); k_dflt (refine' slice_LI ?zF ?zN ?zl ?zi ?zp ?zq ?zk ?zo ?zz ?_ ?zs; (case zF => k_asm); (case zN => k_asm); (case zl => k_mem); (case zi => assumption); (case zp => kmk_part); (case zq => kmk_part); (case zk => kmk_part); (case zo => decide); (case zz => walk_at "lens"); (case zs => with_unfolding_all rfl)); intro D' ws' h' F' N' l1 hI' hL'; (have l2' := l1); (try k_lt l2'); (try k_sweep)))
local macro_rules | `(tactic| walk_at "subscriptTail ListComp Slice ref ref") => `(tactic| (k_here; (with_reducible show wpAny _ _ (subscriptTail _ (PySem.Expr.Slice _ _ _ _) (Value.ref _) (Value.ref _)) _ _ _); k_dflt (refine' slice_LI ?zF ?zN ?zl ?zi ?zp ?zq ?zk ?zo ?zz ?_ ?zs; (case zF => k_asm); (case zN => k_asm); (case zl => k_mem); (case zi => assumption); (case zp => kmk_part); (case zq => kmk_part); (case zk => kmk_part); (case zo => decide); (case zz => walk_at "lens"); (case zs => with_unfolding_all rfl)); intro D' ws' h' F' N' l1 hI' hL'; (have l2' := l1); (try k_lt l2'); (try k_sweep)))
local macro_rules | `(tactic| walk_at "subscriptTail Subscript Slice ref ref") => `(tactic| (k_here; (with_reducible show wpAny _ _ (subscriptTail _ (PySem.Expr.Slice _ _ _ _) (Value.ref _) (Value.ref _)) _ _ _); k_dflt (refine' slice_LI ?zF ?zN ?zl ?zi ?zp ?zq ?zk ?zo ?zz ?_ ?zs; (case zF => k_asm); (case zN => k_asm); (case zl => k_mem); (case zi => assumption); (case zp => kmk_part); (case zq => kmk_part); (case zk => kmk_part); (case zo => decide); (case zz => walk_at "lens"); (case zs => with_unfolding_all rfl)); intro D' ws' h' F' N' l1 hI' hL'; (have l2' := l1); (try k_lt l2'); (try k_sweep)))
local macro_rules | `(tactic| walk_at "subscriptTail Attribute Slice ref ref") => `(tactic| (k_here; (with_reducible show wpAny _ _ (subscriptTail _ (PySem.Expr.Slice _ _ _ _) (Value.ref _) (Value.ref _)) _ _ _); k_dflt (refine' slice_LI ?zF ?zN ?zl ?zi ?zp ?zq ?zk ?zo ?zz ?_ ?zs; (case zF => k_asm); (case zN => k_asm); (case zl => k_mem); (case zi => assumption); (case zp => kmk_part); (case zq => kmk_part); (case zk => kmk_part); (case zo => decide); (case zz => walk_at "lens"); (case zs => with_unfolding_all rfl)); intro D' ws' h' F' N' l1 hI' hL'; (have l2' := l1); (try k_lt l2'); (try k_sweep)))
local macro_rules | `(tactic| walk_at "subscriptTail Name Name ref ref") => `(tactic| (k_here; (with_reducible show wpAny _ _ (subscriptTail _ _ (Value.ref _) (Value.ref _)) _ _ _); k_dflt (refine' slice_LI ?zF ?zN ?zl ?zi ?zp ?zq ?zk ?zo ?zz ?_ ?zs; (case zF => k_asm); (case zN => k_asm); (case zl => k_mem); (case zi => assumption); (case zp => kmk_part); (case zq => kmk_part); (case zk => kmk_part); (case zo => decide); (case zz => walk_at "lens"); (case zs => with_unfolding_all rfl)); intro D' ws' h' F' N' l1 hI' hL'; (have l2' := l1); (try k_lt l2'); (try k_sweep)))
local macro_rules | `(tactic| walk_at "subscriptTail Attribute Name ref ref") => `(tactic| (k_here; (with_reducible show wpAny _ _ (subscriptTail _ _ (Value.ref _) (Value.ref _)) _ _ _); k_dflt (refine' slice_LI ?zF ?zN ?zl ?zi ?zp ?zq ?zk ?zo ?zz ?_ ?zs; (case zF => k_asm); (case zN => k_asm); (case zl => k_mem); (case zi => assumption); (case zp => kmk_part); (case zq => kmk_part); (case zk => kmk_part); (case zo => decide); (case zz => walk_at "lens"); (case zs => with_unfolding_all rfl)); intro D' ws' h' F' N' l1 hI' hL'; (have l2' := l1); (try k_lt l2'); (try k_sweep)))

variable {w : World} {mean : ExcName → Option Value} {mg mb : Str → Option Value} {dp un : Nat} {gd : Option (List Code)} {A₀ : Around} {base h₀ : Heap} {env : Env} {outer : List Env} {L : Addr} {m : Str → Option Value} {s : Shared} {Q E : Value → Shared → Prop}
local macro_rules | `(tactic| walk_at "call builtin:list.append") => `(tactic| (k_here; (with_reducible show wpAny _ _ (call (Value.builtin "list.append") [Value.ref _, Value.int _ _]) _ _ _); k_dflt (refine' append_LI ?k1 ?k2 ?k3 ?k4 ?k5 ?_; (case k1 => k_asm); (case k2 => k_asm); (case k3 => k_upd); (case k4 => walk_at "lens"); (case k5 => assumption); k_whole); intro h' F' N' hI'; (try k_sweep)))
local macro_rules | `(tactic| walk_at "subscriptTail Name Slice ref ref") => `(tactic| (k_here; (with_reducible show wpAny _ _ (subscriptTail _ (PySem.Expr.Slice _ _ none _) (Value.ref _) (Value.ref _)) _ _ _); k_dflt (refine' slice_LJ ?zF ?zN ?zl ?zi ?zp ?zq ?zz ?_ ?zs ?zt; (case zF => k_asm); (case zN => k_asm); (case zl => k_mem); (case zi => assumption); (case zp => kmk_part); (case zq => kmk_part); (case zz => walk_at "lens"); (case zs => with_unfolding_all rfl); (case zt => kmk_pure)); intro D' ws' h' F' N' l1 hI' hL'; (have l2' := l1); (try k_lt l2'); (try k_sweep)))
local macro_rules | `(tactic| walk_at "subscriptTail ListComp Slice ref ref") => `(tactic| (k_here; (with_reducible show wpAny _ _ (subscriptTail _ (PySem.Expr.Slice _ _ none _) (Value.ref _) (Value.ref _)) _ _ _); k_dflt (refine' slice_LJ ?zF ?zN ?zl ?zi ?zp ?zq ?zz ?_ ?zs ?zt; (case zF => k_asm); (case zN => k_asm); (case zl => k_mem); (case zi => assumption); (case zp => kmk_part); (case zq => kmk_part); (case zz => walk_at "lens"); (case zs => with_unfolding_all rfl); (case zt => kmk_pure)); intro D' ws' h' F' N' l1 hI' hL'; (have l2' := l1); (try k_lt l2'); (try k_sweep)))
local macro_rules | `(tactic| walk_at "subscriptTail Subscript Slice ref ref") => `(tactic| (k_here; (with_reducible show wpAny _ _ (subscriptTail _ (PySem.Expr.Slice _ _ none _) (Value.ref _) (Value.ref _)) _ _ _); k_dflt (refine' slice_LJ ?zF ?zN ?zl ?zi ?zp ?zq ?zz ?_ ?zs ?zt; (case zF => k_asm); (case zN => k_asm); (case zl => k_mem); (case zi => assumption); (case zp => kmk_part); (case zq => kmk_part); (case zz => walk_at "lens"); (case zs => with_unfolding_all rfl); (case zt => kmk_pure)); intro D' ws' h' F' N' l1 hI' hL'; (have l2' := l1); (try k_lt l2'); (try k_sweep)))
local macro_rules | `(tactic| walk_at "subscriptTail Attribute Slice ref ref") => `(tactic| (k_here; (with_reducible show wpAny _ _ (subscriptTail _ (PySem.Expr.Slice _ _ none _) (Value.ref _) (Value.ref _)) _ _ _); k_dflt (refine' slice_LJ ?zF ?zN ?zl ?zi ?zp ?zq ?zz ?_ ?zs ?zt; (case zF => k_asm); (case zN => k_asm); (case zl => k_mem); (case zi => assumption); (case zp => kmk_part); (case zq => kmk_part); (case zz => walk_at "lens"); (case zs => with_unfolding_all rfl); (case zt => kmk_pure)); intro D' ws' h' F' N' l1 hI' hL'; (have l2' := l1); (try k_lt l2'); (try k_sweep)))
local macro_rules | `(tactic| walk_at "lens") => `(tactic| first | assumption | omega | (simp only [List.flatten_replicate_singleton, List.length_append, List.length_cons, List.length_nil, List.length_map, List.length_range, List.length_replicate, List.length_set]; omega))
local macro_rules | `(tactic| walk_at "sub") => `(tactic| first | exact List.forall_mem_nil _ | (refine' List.forall_mem_cons.mpr ⟨?a, ?b⟩; (case a => k_mem); (case b => walk_at "sub")) | (intro p hp; k_mem))


abbrev stObj (sl : Addr) (pos : Int) (t1 : Tok) (seed : Int) (t2 : Tok) (ep : Nat) : Obj := W.listOf [.ref sl, .int pos t1, .int seed t2].toArray ep
theorem next_callU {news : List (Addr × Obj)} {g : Obj → List (Addr × Obj)} {st sl : Addr} {xs : List Value} {ns : List Int} {ep ep2 : Nat} {pos seed : Int} {t1 t2 : Tok} {n : Int} {tn : Tok}
  (B : Below A₀ base outer h₀) (F : Fr h₀ L s.heap m) (X : (hd.heap_39 w.params).In h₀) (N : News h₀ L s.heap news) (T : TopM mean mg mb h₀)
  (hf : env.frame = some L) (hk : env.scope.kind = .function) (hroom : dp + 1 < recursionLimit) (hun : un + 8 < cLine)
  (U : UpdF st (stObj sl pos t1 seed t2 ep) news g) (hsl : (sl, W.listOf xs.toArray ep2) ∈ news)
  (hx : IntsAre xs ns) (h0 : 0 ≤ pos) (h1 : pos ≤ ns.length) (h2 : ns.length ≤ 60) (hn : 0 < n) (hn2 : n < 1000)
  (hret : ∀ (t t1 t2 : Tok) (h' : Heap) (tk' : Nat) (x pos' seed' : Int), 0 ≤ x → x < n → 0 ≤ pos' → pos' ≤ ns.length → Fr h₀ L h' m → News h₀ L h' (g (stObj sl pos' t1 seed' t2 ep)) → Q (.int x t) { s with heap := h', toks := tk' }) :
  wpAny (model PP w) (AA dp un gd env outer) (call (.ref 285) [.ref st, .int n tn]) Q E s := by
  obtain ⟨pre, post, rfl, hg, a, b⟩ := U.split
  have hst : ((st, stObj sl pos t1 seed t2 ep) : Addr × Obj) ∈ pre ++ (st, stObj sl pos t1 seed t2 ep) :: post := List.mem_append_right _ (.head _)
  have hne : @Ne Nat st sl := by
    intro e
    have e1 := (N _ hst).1
    have e2 := (N _ hsl).1
    rw [← e] at e2
    rw [e1] at e2
    have e3 := congrArg (fun o => o.map fun o => match o.data with | .seq xs _ => xs.toList | _ => []) e2
    have e4 : [Value.ref sl, .int pos t1, .int seed t2] = xs := by simpa using e3
    rw [← e4] at hx
    cases hx
  have hsl2 : (sl, W.listOf xs.toArray ep2) ∈ pre ++ post := by
    rcases List.mem_append.mp hsl with h | h
    · exact List.mem_append_left _ h
    · rcases List.mem_cons.mp h with h | h
      · exact absurd (congrArg Prod.fst h).symm hne
      · exact List.mem_append_right _ h
  have hall : ∀ p ∈ pre ++ post, p.1 ≠ st := by
    intro p hp
    rcases List.mem_append.mp hp with hp | hp
    · exact a p hp
    · exact b p hp
  refine next_call (rest := pre ++ post) (st := st) (sl := sl) (xs := xs) (ep := ep) (ep2 := ep2) (pos := pos) (seed := seed) (t1 := t1) (t2 := t2) B F X (news_sub N ?_) T hf hk hroom hun hx hne hall h0 h1 h2 hn hn2 ?_
  · refine List.forall_mem_cons.mpr ⟨hst, List.forall_mem_cons.mpr ⟨hsl, fun p hp => ?_⟩⟩
    rcases List.mem_append.mp hp with hp | hp
    · exact List.mem_append_left _ hp
    · exact List.mem_append_right _ (.tail _ hp)
  · intro t t1' t2' h' tk' x pos' seed' x0 x1 p0 p1 F' N'
    refine hret t t1' t2' h' tk' x pos' seed' x0 x1 p0 p1 F' (news_sub N' ?_)
    rw [hg]
    intro p hp
    rcases List.mem_append.mp hp with hp | hp
    · exact .tail _ (.tail _ (List.mem_append_left _ hp))
    · rcases List.mem_cons.mp hp with rfl | hp
      · exact .head _
      · exact .tail _ (.tail _ (List.mem_append_right _ hp))
def wz (num : Int) (i : Nat) : Int := (List.range i).foldl (fun v (i : Nat) => if Builtin.bitAnd (num.fdiv (2 ^ (8 - (i : Int) - 1).toNat)) 1 = 1 then Builtin.bitOr v ((128 : Int).fdiv (2 ^ i)) else v) 0
theorem putBit_at0 {ns : List Int} {b : Bool} : putBitZ ns (8 * (ns.length : Int) + ((0 : Nat) : Int)) b = ns ++ [if b = true then Builtin.bitOr 0 ((128 : Int).fdiv (2 ^ 0)) else 0] := by
  have e1 : (8 * (ns.length : Int) + ((0 : Nat) : Int)).fdiv 8 = (ns.length : Int) := by rw [Int.fdiv_eq_ediv_of_nonneg _ (by decide)]; omega
  have e2 : (8 * (ns.length : Int) + ((0 : Nat) : Int)).fmod 8 = 0 := by rw [Int.fmod_eq_emod_of_nonneg _ (by decide)]; omega
  cases b
  · rw [putBit_tf (by omega) rfl]; rfl
  · rw [putBit_tt (by omega) rfl, e1, e2, Int.toNat_natCast]
    simp
theorem putBit_at {ns : List Int} {v : Int} {b : Bool} {i : Nat} (h1 : 1 ≤ i) (h2 : i < 8) : putBitZ (ns ++ [v]) (8 * (ns.length : Int) + (i : Int)) b = ns ++ [if b = true then Builtin.bitOr v ((128 : Int).fdiv (2 ^ i)) else v] := by
  have e1 : (8 * (ns.length : Int) + (i : Int)).fdiv 8 = (ns.length : Int) := by rw [Int.fdiv_eq_ediv_of_nonneg _ (by decide)]; omega
  have e2 : (8 * (ns.length : Int) + (i : Int)).fmod 8 = (i : Int) := by rw [Int.fmod_eq_emod_of_nonneg _ (by decide)]; omega
  have hl : ¬ (((ns ++ [v]).length : Int) ≤ (8 * (ns.length : Int) + (i : Int)).fdiv 8) := by rw [e1, List.length_append, List.length_singleton]; omega
  cases b
  · rw [putBit_ff hl rfl]; rfl
  · rw [putBit_ft hl rfl, e1, e2, Int.toNat_natCast, Int.toNat_natCast, List.getD_eq_getElem?_getD, List.getElem?_append_right (Nat.le_refl _), Nat.sub_self, List.set_append_right _ _ (Nat.le_refl _), Nat.sub_self]
    rfl
theorem putZ_wz {ns : List Int} {num : Int} : ∀ i : Nat, 1 ≤ i → i ≤ 8 → putZ ns (8 * (ns.length : Int)) num i = ns ++ [wz num i]
  | 0, h, _ => absurd h (by decide)
  | 1, _, _ => by
    rw [putZ_succ]
    show putBitZ ns (8 * (ns.length : Int) + ((0 : Nat) : Int)) _ = _
    rw [putBit_at0]
    unfold wz
    simp
  | i + 2, _, h => by
    rw [putZ_succ, putZ_wz (i + 1) (by omega) (by omega), putBit_at (by omega) (by omega)]
    unfold wz
    rw [List.range_succ (n := i + 1), List.foldl_append]
    simp only [List.foldl_cons, List.foldl_nil, decide_eq_true_eq]
theorem putZ_word {ns : List Int} {num : Int} (h : rng num) : putZ ns (8 * (ns.length : Int)) num 8 = ns ++ [num] := by
  have key : ∀ k : Nat, k < 256 → wz (k : Int) 8 = k := by decide +kernel
  have h0 := h.1
  have h1 := h.2
  have := key num.toNat (by omega)
  rw [Int.toNat_of_nonneg h0] at this
  rw [putZ_wz 8 (by decide) (by decide), this]
def endsL : List Int := [2, 3, 4, 5, 6, 7, 8, 10]
theorem ends_ok {x : Int} (h0 : 0 ≤ x) (h1 : x < 8) : ∃ e : Nat, okE e = true ∧ endsL.getD x.toNat 0 = (e : Int) := by
  have key : ∀ k : Nat, k < 8 → okE (endsL.getD k 0).toNat = true ∧ endsL.getD k 0 = (((endsL.getD k 0).toNat : Nat) : Int) := by decide +kernel
  exact ⟨_, key x.toNat (by omega)⟩
local macro_rules | `(tactic| walk_at "my_enterP") => `(tactic| (k_dflt (refine' code_def ?k1 ?k2 ?k3 ?k4 ?k5 ?kA ?kF ?kK ?k6 ?k7 ?k8 ?k9 ?kB ?_ ?c2 ?c3 ?c4 ?c5; (case kA => exact rfl); (case kF => assumption); (case kK => assumption); (case k1 => k_asm); (case k2 => k_asm); (case k3 => k_asm); (case k4 => k_asm); (case k5 => k_asm); (case k6 => k_is); (case k7 => k_is); (case k8 => walk_at "room"); (case k9 => exact BindsTo.of_eq rfl); (case c5 => decide); (case kB => exact locs rfl); (case c2 => exact rfl); (case c3 => exact rfl); (case c4 => exact rfl); k_whole; intro g' L' h' FG' F' N' B' X' T'; (try dsimp only); (try k_fold))))
set_option maxHeartbeats 1600000 in
theorem bit_call {news : List (Addr × Obj)}
  (B : Below A₀ base outer h₀) (F : Fr h₀ L s.heap m) (X : (hd.heap_39 w.params).In h₀) (N : News h₀ L s.heap news) (T : TopM mean mg mb h₀)
  (hf : env.frame = some L) (hk : env.scope.kind = .function) (hroom : dp + 2 < recursionLimit) (hun : un + 9 < cLine)
  (hret : ∀ (h' : Heap) (tk' : Nat) (x dx b : Addr) (k1 k2 tl : Tok), Fr h₀ L h' m → News h₀ L h' ((x, instObj 269 dx) :: (dx, bufObj w k1 k2 tl 0 b) :: (b, W.listOf (List.toArray []) 0) :: news) → (∀ p ∈ news, p.1 < x) → (∀ p ∈ news, p.1 < dx) → (∀ p ∈ news, p.1 < b) → @LT.lt Nat _ dx x → @LT.lt Nat _ x b → Q (.ref x) { s with heap := h', toks := tk' }) :
  wpAny (model PP w) (AA dp un gd env outer) (call (.ref 269) []) Q E s := by
  k_dflt (refine' call_cls ?k1 ?k2 ?k3 ?k4 ?k5 ?k6 ?_)
  (case k1 => k_asm)
  (case k2 => k_asm)
  (case k3 => k_asm)
  (case k4 => k_is)
  (case k5 => k_is)
  (case k6 => k_is)
  k_whole
  intro x dx h' F' N' l1 l2
  have n1 : @Ne Nat x dx := Nat.ne_of_gt l2
  have n2 := lt_all_ne l1
  rw [show (AA dp un gd env outer).under (.builtin "type.__call__" ⟨[.ref 269], []⟩) = AA (dp + 1) (un + 1) gd env outer from rfl]
  walk_at "my_enterP"
  walk_at "my_steps"
  rename Fr h₀ L _ m => kF
  rename News h₀ L _ _ => kN
  rename (_ ∧ _ ∧ AllLt _ news) => q
  exact hret _ _ x dx _ _ _ _ kF (news_sub kN (by walk_at "sub")) (fun p hp => Nat.lt_trans (l1 p hp) l2) l1 (allLt_lt q.2.2) l2 q.1

end Mine
end

theorem Mine.anew_WD3 : 1 = 1 := by
  w_top off
  first | walk1 | rfl

/-! part WD3 -/
section
open PySem PySem.W PyProof.Rows PySem.Calls PySem.Spec
set_option Elab.async false
namespace Mine
set_option maxRecDepth 100000
def sumL (rs : List (List Int)) (n : Nat) : Nat := (rs.map fun r => min r.length n).sum
theorem sumL_succ (rs : List (List Int)) (n : Nat) : sumL rs (n + 1) = sumL rs n + (dealRow rs n).length := by
  unfold sumL dealRow
  induction rs with
  | nil => rfl
  | cons r rs ih =>
    rw [List.map_cons, List.map_cons, List.sum_cons, List.sum_cons, ih, List.flatMap_cons, List.length_append]
    split <;> simp only [List.length_cons, List.length_nil] <;> omega
theorem sumL_deal (rs : List (List Int)) : ∀ n, (dealOut rs n).length = sumL rs n
  | 0 => by
    unfold sumL dealOut
    induction rs with
    | nil => rfl
    | cons r rs ih => rw [List.map_cons, List.sum_cons, ← ih]; simp
  | n + 1 => by rw [dealOut_succ, List.length_append, sumL_succ, sumL_deal rs n]
theorem deal_total {rs es : List (List Int)} {e : Nat} (hes : ∀ r ∈ es, r.length = e) (hl : es.length = rs.length) : ((dealOut rs (maxLen rs) ++ dealOut es e).length : Int) = (rs.map fun r => (r.length : Int) + e).sum := by
  rw [List.length_append, sumL_deal rs, dealOut_even hes e (Nat.le_refl _), hl]
  have hm : ∀ r ∈ rs, r.length ≤ maxLen rs := maxLen_ge
  generalize maxLen rs = M at hm
  clear hl hes
  unfold sumL
  induction rs with
  | nil => simp
  | cons r rs ih =>
    have h1 := ih fun q hq => hm q (.tail _ hq)
    have h2 := hm r (.head _)
    rw [List.map_cons, List.map_cons, List.sum_cons, List.sum_cons, ← h1, Nat.min_eq_left h2, List.length_cons, Nat.mul_succ]
    simp only [Int.natCast_add]
    omega
end Mine
end

theorem Mine.anew_WD4 : 1 = 1 := by
  w_top off
  first | walk1 | rfl

/-! part WD4 -/
section
open PySem PySem.W PyProof.Rows PySem.Calls PySem.Spec
set_option Elab.async false
namespace Mine
set_option maxRecDepth 100000
/-- in how many places two rows differ -/
def ndiff (a b : List Int) : Nat := ((List.range b.length).filter fun i => decide (a.getD i 0 ≠ b.getD i 0)).length
theorem ndiff_self (b : List Int) : ndiff b b = 0 := by
  unfold ndiff
  rw [List.length_eq_zero_iff, List.filter_eq_nil_iff]
  intro i _
  simp
theorem getD_set_ne {l : List Int} {i j : Nat} {x : Int} (h : i ≠ j) : (l.set i x).getD j 0 = l.getD j 0 := by
  rw [List.getD_eq_getElem?_getD, List.getD_eq_getElem?_getD, List.getElem?_set_ne h]
theorem filter_le {p q : Nat → Bool} {k : Nat} (h : ∀ i, i ≠ k → p i = q i) : ∀ {l : List Nat}, l.Nodup → (l.filter p).length ≤ (l.filter q).length + 1
  | [], _ => Nat.zero_le _
  | a :: l, hn => by
    have hn' := List.nodup_cons.mp hn
    by_cases e : a = k
    · have he : l.filter p = l.filter q := List.filter_congr fun b hb => h b fun e2 => hn'.1 (e.trans e2.symm ▸ hb)
      rw [List.filter_cons, List.filter_cons, he]
      split <;> split <;> (try simp only [List.length_cons]) <;> omega
    · have ih := filter_le h hn'.2
      rw [List.filter_cons, List.filter_cons, h a e]
      split <;> (try simp only [List.length_cons]) <;> omega
theorem ndiff_set {a b : List Int} {k : Nat} {x : Int} : ndiff (a.set k x) b ≤ ndiff a b + 1 := by
  unfold ndiff
  refine filter_le (k := k) (fun i hi => ?_) List.nodup_range
  rw [getD_set_ne (Ne.symm hi)]
end Mine
end

theorem Mine.anew_MA : 1 = 1 := by
  w_top off
  first | walk1 | rfl

/-! part MA -/
section
open PySem PySem.W PyProof.Rows PySem.Calls PySem.Spec
set_option Elab.async false
namespace Mine
set_option maxRecDepth 100000
/-! the mathematics over a field (a commutative ring, with what else is asked said at each theorem) -/
section
variable {F : Type} [Lean.Grind.CommRing F]
/-- a sum over a list -/
def lsum {α : Type} (f : α → F) : List α → F
  | [] => 0
  | a :: l => f a + lsum f l
theorem lsum_add {α : Type} (f g : α → F) (l : List α) : lsum (fun a => f a + g a) l = lsum f l + lsum g l := by
  induction l with
  | nil => show (0 : F) = 0 + 0; grind
  | cons a l ih => show f a + g a + lsum _ l = (f a + lsum f l) + (g a + lsum g l); rw [ih]; grind
theorem lsum_mul {α : Type} (c : F) (f : α → F) (l : List α) : lsum (fun a => c * f a) l = c * lsum f l := by
  induction l with
  | nil => show (0 : F) = c * 0; grind
  | cons a l ih => show c * f a + lsum _ l = c * (f a + lsum f l); rw [ih]; grind
theorem lsum_zero {α : Type} {f : α → F} {l : List α} (h : ∀ a ∈ l, f a = 0) : lsum f l = 0 := by
  induction l with
  | nil => rfl
  | cons a l ih => show f a + lsum f l = 0; rw [ih fun b hb => h b (.tail _ hb), h a (.head _)]; grind
theorem lsum_congr {α : Type} {f g : α → F} {l : List α} (h : ∀ a ∈ l, f a = g a) : lsum f l = lsum g l := by
  induction l with
  | nil => rfl
  | cons a l ih => show f a + lsum f l = g a + lsum g l; rw [ih fun b hb => h b (.tail _ hb), h a (.head _)]
theorem lsum_swap {α β : Type} (f : α → β → F) (l : List α) (l' : List β) : lsum (fun a => lsum (fun b => f a b) l') l = lsum (fun b => lsum (fun a => f a b) l) l' := by
  induction l with
  | nil => exact (lsum_zero fun _ _ => rfl).symm
  | cons a l ih => show lsum (fun b => f a b) l' + lsum _ l = _; rw [ih, ← lsum_add]; rfl
theorem lsum_append {α : Type} (f : α → F) (l l' : List α) : lsum f (l ++ l') = lsum f l + lsum f l' := by
  induction l with
  | nil => show lsum f l' = 0 + lsum f l'; grind
  | cons a l ih => show f a + lsum f (l ++ l') = f a + lsum f l + lsum f l'; rw [ih]; grind
theorem lsum_map {α β : Type} (f : β → F) (g : α → β) (l : List α) : lsum f (l.map g) = lsum (fun a => f (g a)) l := by
  induction l with
  | nil => rfl
  | cons a l ih => show f (g a) + lsum f (l.map g) = f (g a) + _; rw [ih]
theorem lsum_one {α : Type} {f : α → F} {l : List α} {j : α} (hn : l.Nodup) (hj : j ∈ l) (h : ∀ a ∈ l, a ≠ j → f a = 0) : lsum f l = f j := by
  induction l with
  | nil => cases hj
  | cons a l ih =>
    have hn' := List.nodup_cons.mp hn
    show f a + lsum f l = f j
    rcases List.mem_cons.mp hj with e | hj
    · subst e
      rw [lsum_zero fun b hb => h b (.tail _ hb) fun e => hn'.1 (e ▸ hb)]; grind
    · rw [ih hn'.2 hj fun b hb => h b (.tail _ hb), h a (.head _) fun e => hn'.1 (e ▸ hj)]; grind
theorem lsum_filter {α : Type} {f : α → F} {p : α → Bool} {l : List α} (h : ∀ a ∈ l, p a = false → f a = 0) : lsum f (l.filter p) = lsum f l := by
  induction l with
  | nil => rfl
  | cons a l ih =>
    have ih := ih fun b hb => h b (.tail _ hb)
    rw [List.filter_cons]
    split
    · show f a + lsum f _ = f a + lsum f l; rw [ih]
    · rename_i hp
      show lsum f _ = f a + lsum f l
      rw [ih, h a (.head _) (by simpa using hp)]; grind
/-- a sum over the numbers below n -/
def sm (f : Nat → F) (n : Nat) : F := lsum f (List.range n)
theorem sm_zero (f : Nat → F) : sm f 0 = 0 := rfl
theorem sm_succ (f : Nat → F) (n : Nat) : sm f (n + 1) = sm f n + f n := by
  unfold sm; rw [List.range_succ, lsum_append]; show _ + (f n + 0) = _; grind
theorem sm_succ' (f : Nat → F) (n : Nat) : sm f (n + 1) = f 0 + sm (fun k => f (k + 1)) n := by
  unfold sm; rw [List.range_succ_eq_map]; show f 0 + lsum f _ = _; rw [lsum_map]
theorem sm_congr {f g : Nat → F} {n : Nat} (h : ∀ k, k < n → f k = g k) : sm f n = sm g n := lsum_congr fun k hk => h k (List.mem_range.mp hk)
theorem sm_null {f : Nat → F} {n : Nat} (h : ∀ k, k < n → f k = 0) : sm f n = 0 := lsum_zero fun k hk => h k (List.mem_range.mp hk)
theorem sm_ext {f : Nat → F} {n : Nat} (d : Nat) (h : ∀ k, n ≤ k → f k = 0) : sm f (n + d) = sm f n := by
  induction d with
  | zero => rfl
  | succ d ih => rw [← Nat.add_assoc, sm_succ, ih, h _ (by omega)]; grind
theorem sm_ext' {f : Nat → F} {n M : Nat} (hM : n ≤ M) (h : ∀ k, n ≤ k → f k = 0) : sm f M = sm f n := by
  have := sm_ext (M - n) h
  rwa [show n + (M - n) = M by omega] at this
theorem sm_shift {f : Nat → F} (m : Nat) (n : Nat) (h : ∀ k, k < m → f k = 0) : sm f (m + n) = sm (fun k => f (k + m)) n := by
  induction n with
  | zero => exact sm_null h
  | succ n ih => rw [← Nat.add_assoc, sm_succ, ih, sm_succ, Nat.add_comm m n]
/-- the product of two rows, as of two power series -/
def cv (f g : Nat → F) (n : Nat) : F := sm (fun k => f k * g (n - k)) (n + 1)
def gx (g : Nat → F) (n k : Nat) : F := if k ≤ n then g (n - k) else 0
theorem cv_big (f g : Nat → F) {n M : Nat} (h : n < M) : cv f g n = sm (fun k => f k * gx g n k) M := by
  rw [sm_ext' (n := n + 1) h fun k hk => by unfold gx; rw [if_neg (by omega)]; grind]
  exact sm_congr fun k hk => by unfold gx; rw [if_pos (by omega)]
theorem cv_left (f g h : Nat → F) (n : Nat) : cv f (cv g h) n = sm (fun k => sm (fun j => f k * (g j * (if k + j ≤ n then h (n - k - j) else 0))) (n + 1)) (n + 1) := by
  unfold cv
  refine sm_congr fun k hk => ?_
  show f k * cv g h (n - k) = _
  rw [cv_big g h (show n - k < n + 1 by omega), show sm (fun j => f k * (g j * (if k + j ≤ n then h (n - k - j) else 0))) (n + 1) = f k * sm (fun j => g j * (if k + j ≤ n then h (n - k - j) else 0)) (n + 1) from lsum_mul ..]
  refine congrArg _ (sm_congr fun j hj => ?_)
  unfold gx
  by_cases e : k + j ≤ n
  · rw [if_pos e, if_pos (by omega)]
  · rw [if_neg e, if_neg (by omega)]
theorem cv_comm3 (f g h : Nat → F) (n : Nat) : cv f (cv g h) n = cv g (cv f h) n := by
  rw [cv_left, cv_left]
  unfold sm
  rw [lsum_swap]
  refine lsum_congr fun j _ => lsum_congr fun k _ => ?_
  rw [show j + k = k + j from Nat.add_comm _ _, show n - j - k = n - k - j by omega]
  grind
theorem cv_add (f f' g : Nat → F) (n : Nat) : cv (fun k => f k + f' k) g n = cv f g n + cv f' g n := by
  unfold cv sm
  rw [← lsum_add]
  exact lsum_congr fun k _ => by grind
theorem cv_mul (c : F) (f g : Nat → F) (n : Nat) : cv (fun k => c * f k) g n = c * cv f g n := by
  unfold cv sm
  rw [← lsum_mul]
  exact lsum_congr fun k _ => by grind
theorem cv_shift_lt {f g : Nat → F} {m n : Nat} (h : n < m) : cv (fun k => if k < m then 0 else f (k - m)) g n = 0 :=
  sm_null fun k hk => by dsimp only; rw [if_pos (by omega)]; grind
theorem cv_shift {f g : Nat → F} {m n : Nat} (h : m ≤ n) : cv (fun k => if k < m then 0 else f (k - m)) g n = cv f g (n - m) := by
  unfold cv
  rw [show n + 1 = m + (n - m + 1) by omega, sm_shift m _ fun k hk => by dsimp only; rw [if_pos hk]; grind]
  refine sm_congr fun k hk => ?_
  dsimp only
  rw [if_neg (by omega), show k + m - m = k by omega, show n - (k + m) = n - m - k by omega]
/-- two shift registers for one row: the sizes (Massey) -/
theorem massey {C C' S : Nat → F} {N L L' : Nat} (hC : ∀ k, L < k → C k = 0) (hC' : ∀ k, L' < k → C' k = 0) (h1 : C' 0 = 1)
    (g : ∀ i, L ≤ i → i < N → cv C S i = 0) (d : cv C S N ≠ 0) (g' : ∀ i, L' ≤ i → i ≤ N → cv C' S i = 0) : N + 1 ≤ L + L' := by
  refine Nat.le_of_not_lt fun hlt => d ?_
  have a : cv C' (cv C S) N = cv C S N := by
    show sm (fun k => C' k * cv C S (N - k)) (N + 1) = _
    rw [sm_succ', h1, sm_null (n := N)]
    · grind
    · intro k hk
      by_cases e : k + 1 ≤ L'
      · rw [g (N - (k + 1)) (by omega) (by omega)]; grind
      · rw [hC' _ (by omega)]; grind
  rw [← a, cv_comm3]
  refine sm_null fun k hk => ?_
  by_cases e : k ≤ L
  · rw [g' (N - k) (by omega) (by omega)]; grind
  · rw [hC _ (by omega)]; grind

/-- what holds of the register at turn N -/
structure BMI (S : Nat → F) (nu N L LB m : Nat) (C B : Nat → F) (b : F) : Prop where
  c0 : C 0 = 1
  cz : ∀ k, L < k → C k = 0
  bz : ∀ k, LB < k → B k = 0
  hb : b ≠ 0
  gen : ∀ i, L ≤ i → i < N → cv C S i = 0
  bgen : ∀ i, LB ≤ i → i + m < N → cv B S i = 0
  bm : ∀ i, i + m = N → cv B S i = b
  sum : L + LB + m = N + 1
  m1 : 1 ≤ m
  hL : L ≤ nu
theorem bmi_skip {S : Nat → F} {nu N L LB m : Nat} {C B : Nat → F} {b : F} (H : BMI S nu N L LB m C B b) (h : cv C S N = 0) : BMI S nu (N + 1) L LB (m + 1) C B b where
  c0 := H.c0
  cz := H.cz
  bz := H.bz
  hb := H.hb
  gen := fun i h1 h2 => if e : i = N then e ▸ h else H.gen i h1 (by omega)
  bgen := fun i h1 h2 => H.bgen i h1 (by omega)
  bm := fun i h1 => H.bm i (by omega)
  sum := by have := H.sum; omega
  m1 := by omega
  hL := H.hL
def upd (C B : Nat → F) (s : F) (m : Nat) : Nat → F := fun k => C k + s * (if k < m then 0 else B (k - m))
theorem upd_cv {S C B : Nat → F} {s : F} {m n : Nat} : cv (upd C B s m) S n = cv C S n + s * (if n < m then 0 else cv B S (n - m)) := by
  unfold upd
  rw [cv_add, cv_mul]
  split
  · rw [cv_shift_lt (by assumption)]
  · rw [cv_shift (by omega)]
theorem upd_gen {S : Nat → F} {nu N L LB m : Nat} {C B : Nat → F} {b s : F} (H : BMI S nu N L LB m C B b) (hs : cv C S N + s * b = 0) {L' : Nat} (h1 : L ≤ L') (h2 : N + 1 - L ≤ L') :
    (∀ i, L' ≤ i → i < N + 1 → cv (upd C B s m) S i = 0) ∧ upd C B s m 0 = 1 ∧ ∀ k, L' < k → upd C B s m k = 0 := by
  have hsum := H.sum
  have hm := H.m1
  refine ⟨fun i h3 h4 => ?_, ?_, fun k hk => ?_⟩
  · rw [upd_cv]
    by_cases e : i = N
    · subst e
      by_cases e2 : i < m
      · omega
      · rw [if_neg e2, H.bm (i - m) (by omega)]; exact hs
    · rw [H.gen i (by omega) (by omega)]
      split
      · grind
      · rw [H.bgen (i - m) (by omega) (by omega)]; grind
  · unfold upd; rw [if_pos (by omega), H.c0]; grind
  · unfold upd
    rw [H.cz k (by omega)]
    split
    · grind
    · rw [H.bz (k - m) (by omega)]; grind
theorem bmi_grow {S : Nat → F} {nu N L LB m : Nat} {C B : Nat → F} {b s : F} (H : BMI S nu N L LB m C B b) (hd : cv C S N ≠ 0) (hs : cv C S N + s * b = 0) (hnu : N + 1 ≤ L + nu) (h2 : 2 * L ≤ N) :
    BMI S nu (N + 1) (N + 1 - L) L 1 (upd C B s m) C (cv C S N) :=
  have u := upd_gen H hs (L' := N + 1 - L) (by omega) (by omega)
  { c0 := u.2.1, cz := u.2.2, bz := H.cz, hb := hd, gen := u.1, bgen := fun i h1 h2 => H.gen i h1 (by omega), bm := fun i h1 => by rw [show i = N by omega], sum := by omega, m1 := by omega, hL := by omega }
theorem bmi_stay {S : Nat → F} {nu N L LB m : Nat} {C B : Nat → F} {b s : F} (H : BMI S nu N L LB m C B b) (hs : cv C S N + s * b = 0) (h2 : ¬ 2 * L ≤ N) :
    BMI S nu (N + 1) L LB (m + 1) (upd C B s m) B b :=
  have u := upd_gen H hs (L' := L) (by omega) (by omega)
  { c0 := u.2.1, cz := u.2.2, bz := H.bz, hb := H.hb, gen := u.1, bgen := fun i h1 h2 => H.bgen i h1 (by omega), bm := fun i h1 => H.bm i (by omega), sum := by have := H.sum; omega, m1 := by omega, hL := H.hL }

/-! Horner's values -/
def hv (f : Nat → F) (x : F) : Nat → F
  | 0 => f 0
  | i + 1 => x * hv f x i + f (i + 1)
theorem hv_sm (f : Nat → F) (x : F) : ∀ i, hv f x i = sm (fun k => f k * x ^ (i - k)) (i + 1)
  | 0 => by rw [sm_succ, sm_zero]; show f 0 = 0 + f 0 * x ^ 0; grind
  | i + 1 => by
    rw [sm_succ]
    show x * hv f x i + f (i + 1) = _
    rw [hv_sm f x i, show i + 1 - (i + 1) = 0 by omega]
    have : sm (fun k => f k * x ^ (i + 1 - k)) (i + 1) = x * sm (fun k => f k * x ^ (i - k)) (i + 1) := by
      unfold sm
      rw [← lsum_mul]
      refine lsum_congr fun k hk => ?_
      have := List.mem_range.mp hk
      rw [show i + 1 - k = (i - k) + 1 by omega, Lean.Grind.Semiring.pow_succ]
      grind
    rw [this]
    grind
theorem hv_tail {f : Nat → F} {x : F} {L : Nat} (hf : ∀ k, L < k → f k = 0) (t : Nat) : hv f x (L + t) = x ^ t * hv f x L := by
  induction t with
  | zero => grind
  | succ t ih => show x * hv f x (L + t) + f (L + t + 1) = _; rw [ih, hf _ (by omega), Lean.Grind.Semiring.pow_succ]; grind
/-- the row of sums that errors e at places X leave -/
def syn (js : List Nat) (e X : Nat → F) (k : Nat) : F := lsum (fun j => e j * X j ^ k) js
theorem cv_syn (f : Nat → F) (js : List Nat) (e X : Nat → F) (i : Nat) : cv f (syn js e X) i = lsum (fun j => e j * hv f (X j) i) js := by
  unfold cv syn sm
  have : ∀ k, f k * lsum (fun j => e j * X j ^ (i - k)) js = lsum (fun j => e j * (f k * X j ^ (i - k))) js := fun k => by
    rw [← lsum_mul]; exact lsum_congr fun j _ => by grind
  simp only [this]
  rw [lsum_swap]
  refine lsum_congr fun j _ => ?_
  rw [lsum_mul, hv_sm]
  rfl
theorem hv_hv (f : Nat → F) (x y : F) : ∀ i, (x - y) * hv (hv f x) y i = hv f x (i + 1) - hv f y (i + 1)
  | 0 => by show (x - y) * f 0 = (x * f 0 + f 1) - (y * f 0 + f 1); grind
  | i + 1 => by
    show (x - y) * (y * hv (hv f x) y i + hv f x (i + 1)) = (x * hv f x (i + 1) + f (i + 2)) - (y * hv f y (i + 1) + f (i + 2))
    have := hv_hv f x y i
    grind
/-- the locator of places -/
def loc (X : Nat → F) : List Nat → Nat → F
  | [] => fun k => if k = 0 then 1 else 0
  | j :: js => fun k => loc X js k - X j * (if k < 1 then 0 else loc X js (k - 1))
theorem loc_zero (X : Nat → F) : ∀ js, loc X js 0 = 1
  | [] => rfl
  | j :: js => by show loc X js 0 - X j * (if 0 < 1 then 0 else loc X js (0 - 1)) = 1; rw [loc_zero X js, if_pos (by omega)]; grind
theorem loc_deg (X : Nat → F) : ∀ js k, js.length < k → loc X js k = 0
  | [], k, h => by show (if k = 0 then (1 : F) else 0) = 0; rw [if_neg (by simp at h; omega)]
  | j :: js, k, h => by
    rw [List.length_cons] at h
    show loc X js k - X j * (if k < 1 then 0 else loc X js (k - 1)) = 0
    rw [loc_deg X js k (by omega), loc_deg X js (k - 1) (by omega)]
    split <;> grind
theorem loc_hv (X : Nat → F) (j : Nat) (js : List Nat) (x : F) : ∀ i, hv (loc X (j :: js)) x (i + 1) = hv (loc X js) x (i + 1) - X j * hv (loc X js) x i
  | 0 => by
    show x * (loc X js 0 - X j * (if 0 < 1 then 0 else loc X js (0 - 1))) + (loc X js 1 - X j * (if 1 < 1 then 0 else loc X js (1 - 1))) = (x * loc X js 0 + loc X js 1) - X j * loc X js 0
    rw [if_pos (by omega), if_neg (by omega)]; grind
  | i + 1 => by
    show x * hv (loc X (j :: js)) x (i + 1) + (loc X js (i + 2) - X j * (if i + 2 < 1 then 0 else loc X js (i + 2 - 1))) = (x * hv (loc X js) x (i + 1) + loc X js (i + 2)) - X j * (x * hv (loc X js) x i + loc X js (i + 1))
    rw [loc_hv X j js x i, if_neg (by omega), show i + 2 - 1 = i + 1 by omega]
    grind
theorem loc_ann (X : Nat → F) : ∀ (js : List Nat) (j : Nat), j ∈ js → ∀ i, js.length ≤ i → hv (loc X js) (X j) i = 0
  | [], _, h, _, _ => nomatch h
  | a :: js, j, h, i, hi => by
    rw [List.length_cons] at hi
    obtain ⟨i, rfl⟩ : ∃ i', i = i' + 1 := ⟨i - 1, by omega⟩
    rw [loc_hv]
    rcases List.mem_cons.mp h with e | h
    · subst e
      show (X j * hv (loc X js) (X j) i + loc X js (i + 1)) - X j * hv (loc X js) (X j) i = 0
      rw [loc_deg X js (i + 1) (by omega)]; grind
    · rw [loc_ann X js j h i (by omega), loc_ann X js j h (i + 1) (by omega)]; grind
theorem loc_syn (X e : Nat → F) (js : List Nat) (i : Nat) (h : js.length ≤ i) : cv (loc X js) (syn js e X) i = 0 := by
  rw [cv_syn]
  exact lsum_zero fun j hj => by rw [loc_ann X js j hj i h]; grind
variable (hz : ∀ a b : F, a * b = 0 → a = 0 ∨ b = 0)
include hz
/-- sums of powers that vanish -/
theorem vander (X : Nat → F) : ∀ (js : List Nat) (z : Nat → F), js.Nodup → (∀ i ∈ js, ∀ j ∈ js, X i = X j → i = j) → (∀ t, t < js.length → lsum (fun j => z j * X j ^ t) js = 0) → ∀ j ∈ js, z j = 0
  | [], _, _, _, _ => fun _ h => nomatch h
  | a :: js, z, hn, hX, h => by
    have hn' := List.nodup_cons.mp hn
    have ih := vander X js (fun j => z j * (X j - X a)) hn'.2 (fun i hi j hj => hX i (.tail _ hi) j (.tail _ hj)) fun t ht => by
      have h1 := h t (by simp; omega)
      have h2 := h (t + 1) (by simp; omega)
      have e : lsum (fun j => z j * (X j - X a) * X j ^ t) js = lsum (fun j => z j * X j ^ (t + 1)) js - X a * lsum (fun j => z j * X j ^ t) js := by
        have q : lsum (fun j => z j * X j ^ (t + 1)) js = lsum (fun j => z j * (X j - X a) * X j ^ t + X a * (z j * X j ^ t)) js := lsum_congr fun j _ => by rw [Lean.Grind.Semiring.pow_succ]; grind
        rw [q, lsum_add, lsum_mul]; grind
      rw [e]
      replace h1 : z a * X a ^ t + lsum (fun j => z j * X j ^ t) js = 0 := h1
      replace h2 : z a * X a ^ (t + 1) + lsum (fun j => z j * X j ^ (t + 1)) js = 0 := h2
      rw [Lean.Grind.Semiring.pow_succ] at h2
      grind
    have hr : ∀ j ∈ js, z j = 0 := fun j hj => by
      rcases hz _ _ (ih j hj) with e | e
      · exact e
      · exact absurd (hX j (.tail _ hj) a (.head _) (by grind)) fun e => hn'.1 (e ▸ hj)
    have h0 : z a * X a ^ 0 + lsum (fun j => z j * X j ^ 0) js = 0 := h 0 (by simp)
    rw [lsum_zero fun j hj => by rw [hr j hj]; grind] at h0
    intro j hj
    rcases List.mem_cons.mp hj with e | hj
    · rw [e]; grind
    · exact hr j hj
/-- no more roots than the size says -/
theorem roots (h10 : (1 : F) ≠ 0) (X : Nat → F) : ∀ (js : List Nat) (C : Nat → F) (L : Nat), js.Nodup → (∀ i ∈ js, ∀ j ∈ js, X i = X j → i = j) → C 0 = 1 → (∀ k, L < k → C k = 0) → (∀ j ∈ js, hv C (X j) L = 0) → js.length ≤ L
  | [], _, _, _, _, _, _, _ => Nat.zero_le _
  | a :: js, C, 0, hn, hX, h1, hC, hr => absurd ((h1.symm).trans (hr a (.head _))) h10
  | a :: js, C, L + 1, hn, hX, h1, hC, hr => by
    have hn' := List.nodup_cons.mp hn
    have := roots h10 X js (hv C (X a)) L hn'.2 (fun i hi j hj => hX i (.tail _ hi) j (.tail _ hj)) h1 (fun k hk => by
      rw [show k = (L + 1) + (k - (L + 1)) by omega, hv_tail hC, hr a (.head _)]; grind) fun j hj => by
      have q := hv_hv C (X a) (X j) L
      rw [hr a (.head _), hr j (.tail _ hj)] at q
      rcases hz _ _ (q.trans (by grind)) with e | e
      · exact absurd (hX a (.head _) j (.tail _ hj) (by grind)) fun e => hn'.1 (e ▸ hj)
      · exact e
    rw [List.length_cons]; omega
end
end Mine
end

theorem Mine.anew_MA2 : 1 = 1 := by
  w_top off
  first | walk1 | rfl

/-! part MA2 -/
section
open PySem PySem.W PyProof.Rows PySem.Calls PySem.Spec
set_option Elab.async false
namespace Mine
set_option maxRecDepth 100000
section
variable {F : Type} [Lean.Grind.CommRing F]
open Lean.Grind.Semiring (pow_succ pow_zero pow_add)
theorem pw_inv {x y : F} (h : y * x = 1) : ∀ i : Nat, y ^ i * x ^ i = 1
  | 0 => by rw [pow_zero, pow_zero]; grind
  | i + 1 => by
    have := pw_inv h i
    rw [pow_succ, pow_succ]; grind
/-- a row's value, low places first -/
def pv (C : Nat → F) (y : F) (n : Nat) : F := sm (fun k => C k * y ^ k) n
theorem pv_succ (C : Nat → F) (y : F) (n : Nat) : pv C y (n + 1) = pv C y n + C n * y ^ n := sm_succ _ _
theorem pv_hv {C : Nat → F} {x y : F} (h : y * x = 1) : ∀ i, y ^ i * hv C x i = pv C y (i + 1)
  | 0 => by rw [pv_succ]; show y ^ 0 * C 0 = pv C y 0 + C 0 * y ^ 0; have : pv C y 0 = 0 := rfl; rw [this]; grind
  | i + 1 => by
    have := pv_hv (C := C) h i
    rw [pv_succ, ← this]
    show y ^ (i + 1) * (x * hv C x i + C (i + 1)) = _
    rw [pow_succ]; grind
theorem pv_root {C : Nat → F} {x y : F} (h : y * x = 1) (i : Nat) : pv C y (i + 1) = 0 ↔ hv C x i = 0 := by
  rw [← pv_hv h]
  constructor
  · intro q
    have := pw_inv h i
    have : x ^ i * (y ^ i * hv C x i) = hv C x i := by grind
    rw [← this, q]; grind
  · intro q; rw [q]; grind
theorem pv_ext {C : Nat → F} {y : F} {n M : Nat} (h1 : n ≤ M) (h : ∀ k, n ≤ k → C k = 0) : pv C y M = pv C y n := sm_ext' h1 fun k hk => by rw [h k hk]; grind
theorem geo (C : Nat → F) (x y : F) : ∀ i, (1 - x * y) * pv (hv C x) y (i + 1) = pv C y (i + 1) - x * hv C x i * y ^ (i + 1)
  | 0 => by
    rw [pv_succ, pv_succ]
    have a : pv C y 0 = 0 := rfl
    have b : pv (hv C x) y 0 = 0 := rfl
    rw [a, b, pow_succ, pow_zero]
    show (1 - x * y) * (0 + C 0 * 1) = 0 + C 0 * 1 - x * C 0 * (1 * y)
    grind
  | i + 1 => by
    have ih := geo C x y i
    rw [pv_succ (hv C x) y (i + 1), pv_succ C y (i + 1)]
    have e1 : hv C x (i + 1) = x * hv C x i + C (i + 1) := rfl
    have e2 : y ^ (i + 1 + 1) = y ^ (i + 1) * y := pow_succ _ _
    rw [e1, e2]
    grind
def od (C : Nat → F) (y : F) (n : Nat) : F := sm (fun k => if k % 2 = 1 then C k * y ^ k else 0) n
def ev (C : Nat → F) (y : F) (n : Nat) : F := sm (fun k => if k % 2 = 1 then 0 else C k * y ^ k) n
theorem pv_split (C : Nat → F) (y : F) (n : Nat) : pv C y n = ev C y n + od C y n := by
  unfold pv ev od sm
  rw [← lsum_add]
  exact lsum_congr fun k _ => by split <;> grind
/-- twice a thing is nought -/
theorem qsum {C : Nat → F} {x y : F} (h2 : ∀ a : F, a + a = 0) (h : y * x = 1) : ∀ n, pv (hv C x) y n = if n % 2 = 0 then od C y n else ev C y n
  | 0 => rfl
  | n + 1 => by
    have ih := qsum (C := C) h2 h n
    have e : hv C x n * y ^ n = pv C y (n + 1) := by rw [← pv_hv h]; grind
    rw [pv_succ, e, ih, pv_split]
    have o1 : od C y (n + 1) = od C y n + (if n % 2 = 1 then C n * y ^ n else 0) := sm_succ _ _
    have v1 : ev C y (n + 1) = ev C y n + (if n % 2 = 1 then 0 else C n * y ^ n) := sm_succ _ _
    rcases Nat.mod_two_eq_zero_or_one n with hn | hn
    · rw [if_pos hn, if_neg (show ¬ (n + 1) % 2 = 0 by omega)]
      rw [if_neg (show ¬ n % 2 = 1 by omega)] at o1
      have := h2 (od C y n)
      rw [o1]; grind
    · rw [if_neg (show ¬ n % 2 = 0 by omega), if_pos (show (n + 1) % 2 = 0 by omega)]
      rw [if_pos hn] at v1
      have := h2 (ev C y n)
      rw [v1]; grind
theorem qsum_root {C : Nat → F} {x y : F} (h2 : ∀ a : F, a + a = 0) (h : y * x = 1) {n : Nat} (hp : pv C y n = 0) : pv (hv C x) y n = od C y n := by
  rw [qsum h2 h]
  rw [pv_split] at hp
  have := h2 (od C y n)
  split
  · rfl
  · grind
variable (hz : ∀ a b : F, a * b = 0 → a = 0 ∨ b = 0) (h10 : (1 : F) ≠ 0) (h2 : ∀ a : F, a + a = 0)
include hz
structure Dec (N n : Nat) (js : List Nat) (e X C : Nat → F) (L : Nat) : Prop where
  nd : js.Nodup
  sub : ∀ j ∈ js, j < N
  e0 : ∀ j ∈ js, e j ≠ 0
  inj : ∀ i j, i < N → j < N → X i = X j → i = j
  half : 2 * js.length ≤ n
  c0 : C 0 = 1
  cz : ∀ k, L < k → C k = 0
  hL : L ≤ js.length
  gen : ∀ i, L ≤ i → i < n → cv C (syn js e X) i = 0
variable {N n L : Nat} {js : List Nat} {e X C : Nat → F}
theorem dec_root (D : Dec N n js e X C L) : ∀ j ∈ js, hv C (X j) L = 0 := by
  intro j hj
  have h := vander hz X js (fun j => e j * hv C (X j) L) D.nd (fun i hi j hj q => D.inj i j (D.sub i hi) (D.sub j hj) q) (fun t ht => by
    have := D.gen (L + t) (by omega) (by have := D.half; have := D.hL; omega)
    rw [cv_syn] at this
    rw [← this]
    refine lsum_congr fun j _ => ?_
    rw [hv_tail D.cz]; grind) j hj
  rcases hz _ _ h with q | q
  · exact absurd q (D.e0 j hj)
  · exact q
include h10
theorem dec_place (D : Dec N n js e X C L) {a : Nat} (ha : a < N) (h : hv C (X a) L = 0) : a ∈ js := by
  by_cases hm : a ∈ js
  · exact hm
  · have := roots hz h10 X (a :: js) C L (List.nodup_cons.mpr ⟨hm, D.nd⟩) (fun i hi j hj q => by
      have s : ∀ i ∈ a :: js, i < N := fun i hi => by
        rcases List.mem_cons.mp hi with e | hi
        · rw [e]; exact ha
        · exact D.sub i hi
      exact D.inj i j (s i hi) (s j hj) q) D.c0 D.cz (fun j hj => by
      rcases List.mem_cons.mp hj with e | hj
      · rw [e]; exact h
      · exact dec_root hz D j hj)
    have := D.hL
    rw [List.length_cons] at *
    omega
theorem dec_slope (D : Dec N n js e X C L) {j : Nat} (hj : j ∈ js) {y : F} (hy : y * X j = 1) : pv (hv C (X j)) y n ≠ 0 := by
  intro q
  have hr := dec_root hz D
  have hl : 0 < js.length := List.length_pos_of_mem hj
  have hh := D.half
  have hLn := D.hL
  obtain ⟨L', rfl⟩ : ∃ L', L = L' + 1 := by
    cases L with
    | zero => exact absurd (D.c0.symm.trans (hr j hj)) h10
    | succ L' => exact ⟨L', rfl⟩
  have gz : ∀ k, L' < k → hv C (X j) k = 0 := fun k hk => by
    rw [show k = (L' + 1) + (k - (L' + 1)) by omega, hv_tail D.cz, hr j hj]; grind
  have g1 : hv (hv C (X j)) (X j) L' = 0 := by
    have a := (pv_root (C := hv C (X j)) hy (n - 1)).mp (by rw [show n - 1 + 1 = n by omega]; exact q)
    rw [show n - 1 = L' + (n - 1 - L') by omega, hv_tail gz] at a
    have b := pw_inv hy (n - 1 - L')
    have : y ^ (n - 1 - L') * (X j ^ (n - 1 - L') * hv (hv C (X j)) (X j) L') = hv (hv C (X j)) (X j) L' := by grind
    rw [← this, a]; grind
  have := roots hz h10 X js (hv C (X j)) L' D.nd (fun i hi j hj q => D.inj i j (D.sub i hi) (D.sub j hj) q) D.c0 gz (fun i hi => by
    by_cases e : i = j
    · rw [e]; exact g1
    · have q := hv_hv C (X j) (X i) L'
      rw [hr j hj, hr i hi] at q
      rcases hz _ _ (q.trans (by grind)) with q | q
      · exact absurd (D.inj i j (D.sub i hi) (D.sub j hj) (by grind)) e
      · exact q)
  omega
theorem dec_forney (D : Dec N n js e X C L) {j : Nat} (hj : j ∈ js) {y : F} (hy : y * X j = 1) : pv (cv C (syn js e X)) y n = e j * pv (hv C (X j)) y n := by
  have hr := dec_root hz D
  have hl : 0 < js.length := List.length_pos_of_mem hj
  have hh := D.half
  have hLn := D.hL
  have hp : pv C y n = 0 := by
    have := (pv_root hy L).mpr (hr j hj)
    rw [← this]
    exact pv_ext (by omega) fun k hk => D.cz k (by omega)
  have e1 : pv (cv C (syn js e X)) y n = lsum (fun l => e l * pv (hv C (X l)) y n) js := by
    unfold pv sm
    have : ∀ i, cv C (syn js e X) i * y ^ i = lsum (fun l => e l * (hv C (X l) i * y ^ i)) js := fun i => by
      rw [cv_syn]
      have : lsum (fun j => e j * hv C (X j) i) js * y ^ i = y ^ i * lsum (fun j => e j * hv C (X j) i) js := by grind
      rw [this, ← lsum_mul]
      exact lsum_congr fun l _ => by grind
    simp only [this]
    rw [lsum_swap]
    exact lsum_congr fun l _ => lsum_mul ..
  rw [e1]
  refine lsum_one D.nd hj fun l hl' hlj => ?_
  have g := geo C (X l) y (n - 1)
  rw [show n - 1 + 1 = n by omega, hp] at g
  have z : hv C (X l) (n - 1) = 0 := by rw [show n - 1 = L + (n - 1 - L) by omega, hv_tail D.cz, hr l hl']; grind
  rw [z] at g
  rcases hz _ _ (g.trans (by grind)) with q | q
  · refine absurd (D.inj l j (D.sub l hl') (D.sub j hj) ?_) hlj
    have : X l * (y * X j) = X j := by grind
    rw [hy] at this; grind
  · rw [q]; grind
include h2
/-- the quotient is the error -/
theorem dec_share (D : Dec N n js e X C L) {j : Nat} (hj : j ∈ js) {y s V : F} (hy : y * X j = 1) (hV : y * V = od C y n) (hs : s * V = pv (cv C (syn js e X)) y n) : V ≠ 0 ∧ s * X j = e j := by
  have hl : 0 < js.length := List.length_pos_of_mem hj
  have hh := D.half
  have hLn := D.hL
  have hp : pv C y n = 0 := by
    have := (pv_root hy L).mpr (dec_root hz D j hj)
    rw [← this]
    exact pv_ext (by omega) fun k hk => D.cz k (by omega)
  have hq := qsum_root h2 hy hp
  have hne := dec_slope hz h10 D hj hy
  rw [hq, ← hV] at hne
  have hV0 : V ≠ 0 := fun q => hne (by rw [q]; grind)
  refine ⟨hV0, ?_⟩
  rw [dec_forney hz h10 D hj hy, hq, ← hV] at hs
  have : (s - e j * y) * V = 0 := by grind
  rcases hz _ _ this with q | q
  · have : s = e j * y := by grind
    rw [this]; grind
  · exact absurd q hV0
end
end Mine
end

theorem Mine.anew_MB : 1 = 1 := by
  w_top off
  first | walk1 | rfl

/-! part MB -/
section
open PySem PySem.W PyProof.Rows PySem.Calls PySem.Spec
set_option Elab.async false
namespace Mine
set_option maxRecDepth 100000
/-! the words as a field -/
abbrev GF := { a : Int // rng a }
theorem bitXor_nat {a b : Int} (ha : rng a) (hb : rng b) : xorZ a b = ((a.toNat ^^^ b.toNat : Nat) : Int) := by
  obtain ⟨x, rfl, _⟩ := rng_nat ha
  obtain ⟨y, rfl, _⟩ := rng_nat hb
  show Builtin.bitXor _ _ = _
  rw [bitXor_cast, Int.toNat_natCast, Int.toNat_natCast]
theorem xor_comm' {a b : Int} (ha : rng a) (hb : rng b) : xorZ a b = xorZ b a := by rw [bitXor_nat ha hb, bitXor_nat hb ha, Nat.xor_comm]
theorem xor_assoc' {a b c : Int} (ha : rng a) (hb : rng b) (hc : rng c) : xorZ (xorZ a b) c = xorZ a (xorZ b c) := by
  rw [bitXor_nat (xorZ_rng ha hb) hc, bitXor_nat ha (xorZ_rng hb hc), bitXor_nat ha hb, bitXor_nat hb hc, Int.toNat_natCast, Int.toNat_natCast, Nat.xor_assoc]
theorem xor_self' {a : Int} (ha : rng a) : xorZ a a = 0 := by rw [bitXor_nat ha ha, Nat.xor_self]; rfl
theorem xor_zero' {a : Int} (ha : rng a) : xorZ a 0 = a := by
  rw [bitXor_nat ha rng0]
  have := ha.1
  show ((a.toNat ^^^ 0 : Nat) : Int) = a
  rw [Nat.xor_zero]; omega
/-- every word but nought is a power -/
theorem is_pow {a : Int} (h : rng a) (h0 : a ≠ 0) : ∃ k, k < 255 ∧ a = powZ k ∧ logZ a = (k : Int) := by
  obtain ⟨k, hk, e, hp⟩ := logZ_is (by have := h.1; omega) h.2
  exact ⟨k, hk, hp.symm, e⟩
theorem powZ_255 : powZ 255 = 1 := by decide +kernel
theorem powZ_add255 : ∀ k, powZ (k + 255) = powZ k
  | 0 => powZ_255
  | k + 1 => by rw [show k + 1 + 255 = (k + 255) + 1 by omega]; show dblZ (powZ (k + 255)) = dblZ (powZ k); rw [powZ_add255 k]
theorem powZ_mod (k : Nat) : powZ (k % 255) = powZ k := by
  induction k using Nat.strongRecOn with
  | ind k ih =>
    by_cases h : k < 255
    · rw [Nat.mod_eq_of_lt h]
    · have h1 := ih (k - 255) (by omega)
      have h2 := powZ_add255 (k - 255)
      rw [show k - 255 + 255 = k by omega] at h2
      rw [h2, ← h1]
      congr 1
      omega
theorem powZ_rng' (k : Nat) : rng (powZ k) := by
  rw [← powZ_mod]
  have := powZ_rng (k := k % 255) (by omega)
  exact ⟨by omega, this.2⟩
theorem powZ_ne (k : Nat) : powZ k ≠ 0 := by
  rw [← powZ_mod]
  have := powZ_rng (k := k % 255) (by omega)
  omega
theorem powsT_getI {x : Int} (h0 : 0 ≤ x) : powsT.getD (x.fmod 255).toNat 0 = powZ x.toNat := by
  have h := fmod255 x
  rw [powsT_get (by omega), ← powZ_mod x.toNat]
  congr 1
  rw [Int.fmod_eq_emod_of_nonneg _ (by decide)]
  omega
theorem mul_pow {i j : Nat} (hi : i < 255) (hj : j < 255) : mulZ (powZ i) (powZ j) = powZ (i + j) := by
  have li : logZ (powZ i) = (i : Int) := by
    obtain ⟨k, hk, e, l⟩ := is_pow (powZ_rng' i) (powZ_ne i)
    rw [l, powZ_inj hi hk e]
  have lj : logZ (powZ j) = (j : Int) := by
    obtain ⟨k, hk, e, l⟩ := is_pow (powZ_rng' j) (powZ_ne j)
    rw [l, powZ_inj hj hk e]
  unfold mulZ
  rw [if_neg (by intro h; rcases h with h | h; exact powZ_ne i h; exact powZ_ne j h), li, lj, powsT_getI (by omega)]
  congr 1
theorem mul_pow' (i j : Nat) : mulZ (powZ i) (powZ j) = powZ (i + j) := by
  rw [← powZ_mod i, ← powZ_mod j, mul_pow (Nat.mod_lt _ (by decide)) (Nat.mod_lt _ (by decide)), ← powZ_mod (i + j), ← powZ_mod (i % 255 + j % 255)]
  congr 1
  omega
theorem mul_zero_l (a : Int) : mulZ 0 a = 0 := by unfold mulZ; rw [if_pos (.inl rfl)]
theorem mul_zero_r (a : Int) : mulZ a 0 = 0 := by unfold mulZ; rw [if_pos (.inr rfl)]
theorem mul_comm' (a b : Int) : mulZ a b = mulZ b a := by
  unfold mulZ
  rw [Int.add_comm (logZ a) (logZ b)]
  by_cases h : a = 0 ∨ b = 0
  · rw [if_pos h, if_pos h.symm]
  · rw [if_neg h, if_neg fun q => h q.symm]
theorem mul_assoc' {a b c : Int} (ha : rng a) (hb : rng b) (hc : rng c) : mulZ (mulZ a b) c = mulZ a (mulZ b c) := by
  by_cases h1 : a = 0
  · subst h1; rw [mul_zero_l, mul_zero_l, mul_zero_l]
  by_cases h2 : b = 0
  · subst h2; rw [mul_zero_r, mul_zero_l, mul_zero_r]
  by_cases h3 : c = 0
  · subst h3; rw [mul_zero_r, mul_zero_r, mul_zero_r]
  obtain ⟨i, _, rfl, _⟩ := is_pow ha h1
  obtain ⟨j, _, rfl, _⟩ := is_pow hb h2
  obtain ⟨k, _, rfl, _⟩ := is_pow hc h3
  rw [mul_pow', mul_pow', mul_pow', mul_pow', Nat.add_assoc]
theorem mul_one' {a : Int} (ha : rng a) : mulZ a 1 = a := by
  by_cases h1 : a = 0
  · subst h1; rw [mul_zero_l]
  obtain ⟨i, _, rfl, _⟩ := is_pow ha h1
  have := mul_pow' i 0
  exact this
/-- doubling is additive -/
theorem dbl_nat {a : Nat} (h : a < 256) : dblZ (a : Int) = (((a <<< 1) ^^^ (if a.testBit 7 then 285 else 0) : Nat) : Int) := by
  have key : ∀ a : Nat, a < 256 → dblZ (a : Int) = (((a <<< 1) ^^^ (if a.testBit 7 then 285 else 0) : Nat) : Int) := by decide +kernel
  exact key a h
theorem dbl_xor {a b : Int} (ha : rng a) (hb : rng b) : dblZ (xorZ a b) = xorZ (dblZ a) (dblZ b) := by
  obtain ⟨x, rfl, hx⟩ := rng_nat ha
  obtain ⟨y, rfl, hy⟩ := rng_nat hb
  have hxy : x ^^^ y < 256 := Nat.xor_lt_two_pow (n := 8) hx hy
  show dblZ (Builtin.bitXor _ _) = Builtin.bitXor _ _
  rw [bitXor_cast, dbl_nat hxy, dbl_nat hx, dbl_nat hy, bitXor_cast, Nat.testBit_xor, Nat.shiftLeft_xor_distrib]
  congr 1
  generalize x <<< 1 = X
  generalize y <<< 1 = Y
  have hc : 285 ^^^ (Y ^^^ 285) = Y := by rw [Nat.xor_comm Y 285, ← Nat.xor_assoc, Nat.xor_self, Nat.zero_xor]
  cases x.testBit 7 <;> cases y.testBit 7 <;> simp only [Bool.false_xor, Bool.true_xor, Bool.not_false, Bool.false_eq_true, if_true, if_false, Nat.xor_zero, bne_self_eq_false]
  · rw [Nat.xor_assoc]
  · rw [Nat.xor_assoc, Nat.xor_assoc, Nat.xor_comm 285 Y]
  · rw [Nat.xor_assoc, hc]
theorem dbl_rng {a : Int} (h : rng a) : rng (dblZ a) := by
  have key : ∀ a : Nat, a < 256 → 0 ≤ dblZ (a : Int) ∧ dblZ (a : Int) < 256 := by decide +kernel
  obtain ⟨x, rfl, hx⟩ := rng_nat h
  exact key x hx
theorem mul_dbl {a : Int} (ha : rng a) (k : Nat) : mulZ a (powZ (k + 1)) = dblZ (mulZ a (powZ k)) := by
  by_cases h1 : a = 0
  · subst h1; rw [mul_zero_l, mul_zero_l]; decide +kernel
  obtain ⟨i, _, rfl, _⟩ := is_pow ha h1
  rw [mul_pow', mul_pow']; rfl
theorem distrib' {a b c : Int} (ha : rng a) (hb : rng b) (hc : rng c) : mulZ (xorZ a b) c = xorZ (mulZ a c) (mulZ b c) := by
  by_cases h3 : c = 0
  · subst h3; rw [mul_zero_r, mul_zero_r, mul_zero_r, xor_zero' rng0]
  obtain ⟨k, hk1, rfl, hk2⟩ := is_pow hc h3
  clear h3 hc hk1 hk2
  induction k with
  | zero => show mulZ _ 1 = xorZ (mulZ a 1) (mulZ b 1); rw [mul_one' (xorZ_rng ha hb), mul_one' ha, mul_one' hb]
  | succ k ih => rw [mul_dbl (xorZ_rng ha hb), mul_dbl ha, mul_dbl hb, ih, dbl_xor mulZ_rng mulZ_rng]
abbrev gfS : Lean.Grind.Semiring GF where
  add a b := ⟨xorZ a.1 b.1, xorZ_rng a.2 b.2⟩
  mul a b := ⟨mulZ a.1 b.1, mulZ_rng⟩
  natCast := ⟨fun n => if n % 2 = 0 then ⟨0, rng0⟩ else ⟨1, ⟨by decide, by decide⟩⟩⟩
  ofNat := fun n => ⟨if n % 2 = 0 then ⟨0, rng0⟩ else ⟨1, ⟨by decide, by decide⟩⟩⟩
  nsmul := ⟨fun n a => if n % 2 = 0 then ⟨0, rng0⟩ else a⟩
  npow := ⟨fun a n => Nat.rec ⟨1, ⟨by decide, by decide⟩⟩ (fun _ r => ⟨mulZ r.1 a.1, mulZ_rng⟩) n⟩
  add_zero a := Subtype.ext (xor_zero' a.2)
  add_comm a b := Subtype.ext (xor_comm' a.2 b.2)
  add_assoc a b c := Subtype.ext (xor_assoc' a.2 b.2 c.2)
  mul_assoc a b c := Subtype.ext (mul_assoc' a.2 b.2 c.2)
  mul_one a := Subtype.ext (mul_one' a.2)
  one_mul a := Subtype.ext ((mul_comm' _ _).trans (mul_one' a.2))
  left_distrib a b c := Subtype.ext (by
    show mulZ a.1 (xorZ b.1 c.1) = xorZ (mulZ a.1 b.1) (mulZ a.1 c.1)
    rw [mul_comm', distrib' b.2 c.2 a.2, mul_comm' b.1, mul_comm' c.1])
  right_distrib a b c := Subtype.ext (distrib' a.2 b.2 c.2)
  zero_mul a := Subtype.ext (mul_zero_l a.1)
  mul_zero a := Subtype.ext (mul_zero_r a.1)
  pow_zero a := rfl
  pow_succ a n := rfl
  ofNat_succ n := by
    refine Subtype.ext ?_
    show ((if (n + 1) % 2 = 0 then (⟨0, rng0⟩ : GF) else ⟨1, ⟨by decide, by decide⟩⟩) : GF).1 = xorZ ((if n % 2 = 0 then (⟨0, rng0⟩ : GF) else ⟨1, ⟨by decide, by decide⟩⟩) : GF).1 1
    rcases Nat.mod_two_eq_zero_or_one n with h | h
    · rw [if_pos h, if_neg (show ¬ (n + 1) % 2 = 0 by omega)]; decide +kernel
    · rw [if_neg (show ¬ n % 2 = 0 by omega), if_pos (show (n + 1) % 2 = 0 by omega)]; decide +kernel
  ofNat_eq_natCast n := rfl
  nsmul_eq_natCast_mul n a := by
    refine Subtype.ext ?_
    show ((if n % 2 = 0 then (⟨0, rng0⟩ : GF) else a) : GF).1 = mulZ ((if n % 2 = 0 then (⟨0, rng0⟩ : GF) else ⟨1, ⟨by decide, by decide⟩⟩) : GF).1 a.1
    split
    · exact (mul_zero_l a.1).symm
    · exact ((mul_comm' _ _).trans (mul_one' a.2)).symm
abbrev gfR : Lean.Grind.CommRing GF where
  toSemiring := gfS
  neg a := a
  sub a b := ⟨xorZ a.1 b.1, xorZ_rng a.2 b.2⟩
  intCast := ⟨fun i => if i % 2 = 0 then ⟨0, rng0⟩ else ⟨1, ⟨by decide, by decide⟩⟩⟩
  zsmul := ⟨fun i a => if i % 2 = 0 then ⟨0, rng0⟩ else a⟩
  neg_add_cancel a := Subtype.ext (xor_self' a.2)
  sub_eq_add_neg a b := rfl
  neg_zsmul i a := by
    show (if (-i) % 2 = 0 then (⟨0, rng0⟩ : GF) else a) = (if i % 2 = 0 then (⟨0, rng0⟩ : GF) else a)
    by_cases h : i % 2 = 0
    · rw [if_pos h, if_pos (show (-i) % 2 = 0 by omega)]
    · rw [if_neg h, if_neg (show ¬ (-i) % 2 = 0 by omega)]
  zsmul_natCast_eq_nsmul n a := by
    show (if ((n : Int)) % 2 = 0 then (⟨0, rng0⟩ : GF) else a) = (if n % 2 = 0 then (⟨0, rng0⟩ : GF) else a)
    by_cases h : n % 2 = 0
    · rw [if_pos h, if_pos (show (n : Int) % 2 = 0 by omega)]
    · rw [if_neg h, if_neg (show ¬ (n : Int) % 2 = 0 by omega)]
  intCast_ofNat n := by
    show (if ((n : Int)) % 2 = 0 then (⟨0, rng0⟩ : GF) else ⟨1, ⟨by decide, by decide⟩⟩) = (if n % 2 = 0 then (⟨0, rng0⟩ : GF) else ⟨1, ⟨by decide, by decide⟩⟩)
    by_cases h : n % 2 = 0
    · rw [if_pos h, if_pos (show (n : Int) % 2 = 0 by omega)]
    · rw [if_neg h, if_neg (show ¬ (n : Int) % 2 = 0 by omega)]
  intCast_neg i := by
    show (if (-i) % 2 = 0 then (⟨0, rng0⟩ : GF) else ⟨1, ⟨by decide, by decide⟩⟩) = (if i % 2 = 0 then (⟨0, rng0⟩ : GF) else ⟨1, ⟨by decide, by decide⟩⟩)
    by_cases h : i % 2 = 0
    · rw [if_pos h, if_pos (show (-i) % 2 = 0 by omega)]
    · rw [if_neg h, if_neg (show ¬ (-i) % 2 = 0 by omega)]
  mul_comm a b := Subtype.ext (mul_comm' _ _)
end Mine
end

theorem Mine.anew_MD : 1 = 1 := by
  w_top off
  first | walk1 | rfl

/-! part MD -/
section
open PySem PySem.W PyProof.Rows PySem.Calls PySem.Spec
set_option Elab.async false
namespace Mine
set_option maxRecDepth 100000
section
variable {F : Type} [Lean.Grind.CommRing F]
open Lean.Grind.Semiring (pow_succ pow_zero pow_add)
/-- the words, carried into a field -/
structure Hom (φ : Int → F) : Prop where
  add : ∀ {a b}, rng a → rng b → φ (xorZ a b) = φ a + φ b
  mul : ∀ {a b}, rng a → rng b → φ (mulZ a b) = φ a * φ b
  div : ∀ {a b}, rng a → rng b → b ≠ 0 → φ (divZ a b) * φ b = φ a
  zero : φ 0 = 0
  one : φ 1 = 1
  inj : ∀ {a b}, rng a → rng b → φ a = φ b → a = b
  hz : ∀ a b : F, a * b = 0 → a = 0 ∨ b = 0
  h10 : (1 : F) ≠ 0
  h2 : ∀ a : F, a + a = 0
variable {φ : Int → F}
def co (φ : Int → F) (l : List Int) (k : Nat) : F := φ (l.getD k 0)
theorem co_out (H : Hom φ) {l : List Int} {k : Nat} (h : l.length ≤ k) : co φ l k = 0 := by
  unfold co; rw [List.getD_eq_getElem?_getD, List.getElem?_eq_none h]; exact H.zero
theorem value_snoc (l : List Int) (a x : Int) : valueZ (l ++ [a]) x = xorZ (mulZ (valueZ l x) x) a := by unfold valueZ; rw [List.foldl_append]; rfl
theorem pv_cons (C : Nat → F) (y : F) (n : Nat) : pv C y (n + 1) = C 0 + y * pv (fun k => C (k + 1)) y n := by
  unfold pv
  rw [sm_succ']
  have : sm (fun k => C (k + 1) * y ^ (k + 1)) n = y * sm (fun k => C (k + 1) * y ^ k) n := by
    unfold sm; rw [← lsum_mul]; exact lsum_congr fun k _ => by rw [pow_succ]; grind
  rw [this, pow_zero]; grind
theorem value_rev (H : Hom φ) {x : Int} (hx : rng x) : ∀ {l : List Int}, (∀ k ∈ l, rng k) → φ (valueZ l.reverse x) = pv (co φ l) (φ x) l.length
  | [], _ => H.zero
  | a :: l, h => by
    have hl : ∀ k ∈ l, rng k := fun k hk => h k (.tail _ hk)
    have hv : rng (valueZ l.reverse x) := valueZ_rng fun k hk => hl k (List.mem_reverse.mp hk)
    rw [List.reverse_cons, value_snoc, H.add mulZ_rng (h a (.head _)), H.mul hv hx, value_rev H hx hl, List.length_cons, pv_cons]
    show pv (co φ l) (φ x) l.length * φ x + φ a = φ a + φ x * pv (co φ l) (φ x) l.length
    grind
/-! the register -/
theorem foldx (H : Hom φ) {f : Nat → Int} (hf : ∀ k, rng (f k)) : ∀ (n : Nat) (a : Int), rng a → φ ((List.range n).foldl (fun r k => xorZ r (f k)) a) = φ a + sm (fun k => φ (f k)) n ∧ rng ((List.range n).foldl (fun r k => xorZ r (f k)) a)
  | 0, a, ha => ⟨by show φ a = φ a + 0; grind, ha⟩
  | n + 1, a, ha => by
    have ih := foldx H hf n a ha
    rw [List.range_succ, List.foldl_append]
    show φ (xorZ _ (f n)) = _ ∧ rng (xorZ _ (f n))
    rw [H.add ih.2 (hf n), ih.1, sm_succ]
    exact ⟨by grind, xorZ_rng ih.2 (hf n)⟩
theorem miss_cv (H : Hom φ) {reg sums : List Int} {n L : Nat} {S : Nat → F} (hr : ∀ k ∈ reg, rng k) (hs : ∀ k ∈ sums, rng k) (hS : ∀ k, k ≤ n → co φ sums k = S k) (h0 : co φ reg 0 = 1) (hz : ∀ k, L < k → co φ reg k = 0) (hl : 1 ≤ reg.length) (hL : L ≤ n) :
    φ (missZ reg sums n (L : Int)) = cv (co φ reg) S n := by
  unfold missZ
  have hm : (min ((L : Int) + 1) (reg.length : Int) - 1).toNat = min (L + 1) reg.length - 1 := by omega
  rw [hm, (foldx H (f := fun j => mulZ (reg.getD (j + 1) 0) (sums.getD (n - (j + 1)) 0)) (fun k => mulZ_rng) _ _ (getD_rng hs n)).1]
  have hc : cv (co φ reg) S n = sm (fun k => co φ reg k * S (n - k)) (min (L + 1) reg.length) := by
    unfold cv
    exact sm_ext' (by omega) fun k hk => by
      by_cases q : L < k
      · rw [hz k q]; grind
      · rw [co_out H (by omega)]; grind
  rw [hc]
  obtain ⟨t, ht⟩ : ∃ t, min (L + 1) reg.length = t + 1 := ⟨min (L + 1) reg.length - 1, by omega⟩
  rw [ht, sm_succ', h0]
  have e0 : φ (sums.getD n 0) = S n := hS n (Nat.le_refl _)
  rw [e0]
  have e1 : sm (fun k => φ (mulZ (reg.getD (k + 1) 0) (sums.getD (n - (k + 1)) 0))) t = sm (fun k => co φ reg (k + 1) * S (n - (k + 1))) t := sm_congr fun k hk => by
    rw [H.mul (getD_rng hr _) (getD_rng hs _), ← hS (n - (k + 1)) (by omega)]; rfl
  rw [show t + 1 - 1 = t from rfl, e1]
  show S n + _ = 1 * S (n - 0) + _
  rw [Nat.sub_zero]; grind
theorem getD_set_eq {l : List Int} {i : Nat} {x : Int} (h : i < l.length) : (l.set i x).getD i 0 = x := by
  rw [List.getD_eq_getElem?_getD, List.getElem?_set_self h]; rfl
theorem adds_getD {former : List Int} {gap : Nat} {share : Int} : ∀ (n : Nat) (r : List Int), n + gap ≤ r.length → ∀ k,
    ((List.range n).foldl (fun r k => r.set (k + gap) (xorZ (r.getD (k + gap) 0) (mulZ share (former.getD k 0)))) r).getD k 0 = (if gap ≤ k ∧ k < n + gap then xorZ (r.getD k 0) (mulZ share (former.getD (k - gap) 0)) else r.getD k 0) ∧
    ((List.range n).foldl (fun r k => r.set (k + gap) (xorZ (r.getD (k + gap) 0) (mulZ share (former.getD k 0)))) r).length = r.length
  | 0, r, _, k => ⟨by rw [if_neg (by omega)]; rfl, rfl⟩
  | n + 1, r, h, k => by
    have ih := adds_getD (former := former) (gap := gap) (share := share) n r (by omega)
    rw [List.range_succ, List.foldl_append]
    generalize hR : (List.range n).foldl (fun r k => r.set (k + gap) (xorZ (r.getD (k + gap) 0) (mulZ share (former.getD k 0)))) r = R at ih
    show (R.set (n + gap) (xorZ (R.getD (n + gap) 0) (mulZ share (former.getD n 0)))).getD k 0 = _ ∧ (R.set (n + gap) _).length = _
    have hl := (ih k).2
    refine ⟨?_, by rw [List.length_set, hl]⟩
    by_cases e : k = n + gap
    · subst e
      rw [getD_set_eq (by omega), if_pos (by omega), (ih _).1, if_neg (by omega), show n + gap - gap = n by omega]
    · rw [getD_set_ne (Ne.symm e), (ih k).1]
      by_cases q : gap ≤ k ∧ k < n + gap
      · rw [if_pos q, if_pos (by omega)]
      · rw [if_neg q, if_neg (by omega)]
theorem pad_getD (reg : List Int) (m : Int) (k : Nat) : (padZ reg m).getD k 0 = reg.getD k 0 := by
  unfold padZ
  rw [List.getD_eq_getElem?_getD, List.getD_eq_getElem?_getD]
  by_cases h : k < reg.length
  · rw [List.getElem?_append_left h]
  · rw [List.getElem?_append_right (by omega), List.getElem?_eq_none (l := reg) (by omega)]
    by_cases q : k - reg.length < (m - reg.length).toNat
    · rw [List.getElem?_replicate, if_pos q]; rfl
    · rw [List.getElem?_replicate, if_neg q]
theorem adds_upd (H : Hom φ) {reg former : List Int} {gap : Nat} {share : Int} (hr : ∀ k ∈ reg, rng k) (hf : ∀ k ∈ former, rng k) (hs : rng share) : co φ (addsZ (padZ reg ((former.length : Int) + gap)) former gap share) = upd (co φ reg) (co φ former) (φ share) gap := by
  funext k
  have hpl := padZ_len (reg := reg) (k := (former.length : Int) + gap)
  have a := (adds_getD (former := former) (gap := gap) (share := share) former.length (padZ reg ((former.length : Int) + gap)) (by omega) k).1
  show φ ((addsZ _ _ _ _).getD k 0) = _
  unfold addsZ
  rw [a, pad_getD]
  unfold upd
  by_cases q : gap ≤ k ∧ k < former.length + gap
  · rw [if_pos q, if_neg (by omega), H.add (getD_rng hr _) mulZ_rng, H.mul hs (getD_rng hf _)]; rfl
  · rw [if_neg q]
    by_cases q2 : k < gap
    · rw [if_pos q2]; show co φ reg k = _; grind
    · rw [if_neg q2, co_out H (l := former) (by omega)]; show co φ reg k = _; grind
theorem bm_run (H : Hom φ) {sums : List Int} {S : Nat → F} {nu : Nat} {lc : Nat → F} (hs : ∀ k ∈ sums, rng k) (hS : ∀ k, k < sums.length → co φ sums k = S k)
    (hl0 : lc 0 = 1) (hlz : ∀ k, nu < k → lc k = 0) (hla : ∀ i, nu ≤ i → cv lc S i = 0) : ∀ N, N ≤ sums.length →
    ∃ (L LB m : Nat), (bmZ sums N).size = (L : Int) ∧ (bmZ sums N).gap = (m : Int) ∧ BMI S nu N L LB m (co φ (bmZ sums N).reg) (co φ (bmZ sums N).former) (φ (bmZ sums N).last)
  | 0, _ => by
    have c1 : ∀ k, 0 < k → co φ [1] k = 0 := fun k hk => co_out H (by simp; omega)
    refine ⟨0, 0, 1, rfl, rfl, ?_⟩
    exact { c0 := H.one, cz := c1, bz := c1, hb := by show φ 1 ≠ 0; rw [H.one]; exact H.h10, gen := fun i _ h => absurd h (by omega), bgen := fun i _ h => absurd h (by omega), bm := fun i h => absurd h (by omega), sum := rfl, m1 := Nat.le_refl _, hL := Nat.zero_le _ }
  | N + 1, hN => by
    obtain ⟨L, LB, m, e1, e2, I⟩ := bm_run H hs hS hl0 hlz hla N (by omega)
    have ok := bmZ_ok hs N
    rw [bmZ_succ]
    generalize hb : bmZ sums N = b at *
    have hLN : L ≤ N := by have := ok.s1; omega
    have hm1 := ok.g1
    have hmiss := miss_cv H ok.reg hs (fun k hk => hS k (by omega)) I.c0 I.cz ok.r1 hLN (n := N) (S := S)
    have hmr := missZ_rng (reg := b.reg) (n := N) (size := b.size) hs
    unfold stepZ
    rw [e1] at hmr ⊢
    dsimp only
    by_cases h0 : missZ b.reg sums N (L : Int) = 0
    · rw [if_pos h0]
      refine ⟨L, LB, m + 1, rfl, by show b.gap + 1 = _; omega, ?_⟩
      exact bmi_skip I (by rw [← hmiss, h0]; exact H.zero)
    · rw [if_neg h0]
      have hlast : rng b.last := ⟨by have := ok.l1; omega, ok.l2⟩
      have hl1 := ok.l1
      have hdiv := H.div hmr hlast (by omega)
      have hd : cv (co φ b.reg) S N ≠ 0 := by
        rw [← hmiss]
        intro q
        exact h0 (H.inj hmr rng0 (q.trans H.zero.symm))
      have hsb : cv (co φ b.reg) S N + φ (divZ (missZ b.reg sums N (L : Int)) b.last) * φ b.last = 0 := by rw [hdiv, ← hmiss]; exact H.h2 _
      have hgap : b.gap.toNat = m := by omega
      have hup := adds_upd H ok.reg ok.former (gap := m) (share := divZ (missZ b.reg sums N (L : Int)) b.last) divZ_rng
      rw [e2, Int.toNat_natCast]
      by_cases h2 : 2 * (L : Int) ≤ (N : Int)
      · rw [if_pos h2]
        refine ⟨N + 1 - L, L, 1, by show (N : Int) + 1 - L = _; omega, rfl, ?_⟩
        show BMI S nu (N + 1) (N + 1 - L) L 1 (co φ _) (co φ b.reg) (φ (missZ b.reg sums N (L : Int)))
        rw [hup, hmiss]
        exact bmi_grow I hd hsb (massey I.cz hlz hl0 I.gen hd fun i h1 h2 => hla i h1) (by omega)
      · rw [if_neg h2]
        refine ⟨L, LB, m + 1, rfl, by show (m : Int) + 1 = _; omega, ?_⟩
        show BMI S nu (N + 1) L LB (m + 1) (co φ _) (co φ b.former) (φ b.last)
        rw [hup]
        exact bmi_stay I hsb (by omega)
end
end Mine
end

theorem Mine.anew_MD2 : 1 = 1 := by
  w_top off
  first | walk1 | rfl

/-! part MD2 -/
section
open PySem PySem.W PyProof.Rows PySem.Calls PySem.Spec
set_option Elab.async false
namespace Mine
set_option maxRecDepth 100000
section
variable {F : Type} [Lean.Grind.CommRing F]
open Lean.Grind.Semiring (pow_succ pow_zero pow_add)
variable {φ : Int → F}
theorem sm_rev : ∀ (n : Nat) (f : Nat → F), sm f n = sm (fun p => f (n - 1 - p)) n
  | 0, _ => rfl
  | n + 1, f => by
    rw [sm_succ', sm_succ (fun p => f (n + 1 - 1 - p)), sm_rev n (fun k => f (k + 1))]
    have : sm (fun p => f (n - 1 - p + 1)) n = sm (fun p => f (n + 1 - 1 - p)) n := sm_congr fun k hk => by
      rw [show n - 1 - k + 1 = n + 1 - 1 - k by omega]
    rw [this, show n + 1 - 1 - n = 0 by omega]; grind
theorem rest_cv (H : Hom φ) {reg sums : List Int} {n : Nat} {S : Nat → F} (hr : ∀ k ∈ reg, rng k) (hs : ∀ k ∈ sums, rng k) (hS : ∀ k, k ≤ n → co φ sums k = S k) : φ (restZ reg sums n) = cv (co φ reg) S n := by
  unfold restZ
  rw [(foldx H (f := fun k => mulZ (reg.getD k 0) (sums.getD (n - k) 0)) (fun k => mulZ_rng) _ _ rng0).1, H.zero]
  have hc : cv (co φ reg) S n = sm (fun k => co φ reg k * S (n - k)) (min (n + 1) reg.length) := by
    unfold cv
    by_cases w : reg.length ≤ n + 1
    · rw [show min (n + 1) reg.length = reg.length by omega]
      exact sm_ext' w fun k hk => by rw [co_out H hk]; grind
    · rw [show min (n + 1) reg.length = n + 1 by omega]
  have e1 : sm (fun k => φ (mulZ (reg.getD k 0) (sums.getD (n - k) 0))) (min (n + 1) reg.length) = sm (fun k => co φ reg k * S (n - k)) (min (n + 1) reg.length) := sm_congr fun k hk => by
    rw [H.mul (getD_rng hr _) (getD_rng hs _), ← hS (n - k) (by omega)]; rfl
  rw [hc, e1]; grind
theorem slope_od (H : Hom φ) {reg : List Int} {b : Int} (hr : ∀ k ∈ reg, rng k) (hb : rng b) (hl : 1 ≤ reg.length) : φ b * φ (valueZ (slopesZ reg) b) = od (co φ reg) (φ b) reg.length := by
  have hsl : ∀ k ∈ (List.range reg.length).map (slopeZ reg), rng k := fun k hk => by
    obtain ⟨j, _, rfl⟩ := List.mem_map.mp hk
    unfold slopeZ
    split
    · exact getD_rng hr _
    · exact rng0
  unfold slopesZ
  rw [value_rev H hb fun k hk => hsl k (List.mem_of_mem_drop hk)]
  have hlen : (((List.range reg.length).map (slopeZ reg)).drop 1).length = reg.length - 1 := by simp
  have hsh : co φ (((List.range reg.length).map (slopeZ reg)).drop 1) = fun k => co φ ((List.range reg.length).map (slopeZ reg)) (k + 1) := by
    funext k
    unfold co
    rw [List.getD_eq_getElem?_getD, List.getD_eq_getElem?_getD, List.getElem?_drop, Nat.add_comm 1 k]
  have hc := pv_cons (co φ ((List.range reg.length).map (slopeZ reg))) (φ b) (reg.length - 1)
  rw [show reg.length - 1 + 1 = reg.length by omega] at hc
  have hget : ∀ k, k < reg.length → co φ ((List.range reg.length).map (slopeZ reg)) k = φ (slopeZ reg k) := fun k hk => by
    unfold co; rw [List.getD_eq_getElem?_getD, List.getElem?_map, List.getElem?_range hk]; rfl
  have h0 : co φ ((List.range reg.length).map (slopeZ reg)) 0 = 0 := by
    rw [hget 0 (by omega)]; exact H.zero
  rw [h0] at hc
  rw [hlen, hsh]
  have : φ b * pv (fun k => co φ ((List.range reg.length).map (slopeZ reg)) (k + 1)) (φ b) (reg.length - 1) = pv (co φ ((List.range reg.length).map (slopeZ reg))) (φ b) reg.length := by rw [hc]; grind
  rw [this]
  unfold pv od
  refine sm_congr fun k hk => ?_
  rw [hget k hk]
  unfold slopeZ
  have hm : ((k : Int).fmod 2 = 1) ↔ k % 2 = 1 := by rw [Int.fmod_eq_emod_of_nonneg _ (by decide)]; omega
  by_cases q : k % 2 = 1
  · rw [if_pos (hm.mpr q), if_pos q]; rfl
  · rw [if_neg fun z => q (hm.mp z), if_neg q, H.zero]; grind
theorem fold_set {P : Nat → Bool} {v : Nat → Int} : ∀ (n : Nat) (l : List Int), n ≤ l.length → ∀ k, ((List.range n).foldl (fun md p => if P p = true then md.set p (v p) else md) l).getD k 0 = (if k < n ∧ P k = true then v k else l.getD k 0) ∧ ((List.range n).foldl (fun md p => if P p = true then md.set p (v p) else md) l).length = l.length
  | 0, l, _, k => ⟨by rw [if_neg (by omega)]; rfl, rfl⟩
  | n + 1, l, h, k => by
    have ih := fold_set (P := P) (v := v) n l (by omega) k
    rw [List.range_succ, List.foldl_append]
    generalize (List.range n).foldl (fun md p => if P p = true then md.set p (v p) else md) l = R at ih
    show (if P n = true then R.set n (v n) else R).getD k 0 = _ ∧ (if P n = true then R.set n (v n) else R).length = _
    by_cases hp : P n = true
    · rw [if_pos hp]
      refine ⟨?_, by rw [List.length_set, ih.2]⟩
      by_cases e : k = n
      · subst e
        rw [getD_set_eq (by omega), if_pos ⟨by omega, hp⟩]
      · rw [getD_set_ne (Ne.symm e), ih.1]
        by_cases q : k < n ∧ P k = true
        · rw [if_pos q, if_pos ⟨by omega, q.2⟩]
        · rw [if_neg q, if_neg fun z => q ⟨by omega, z.2⟩]
    · rw [if_neg hp]
      refine ⟨?_, ih.2⟩
      rw [ih.1]
      by_cases q : k < n ∧ P k = true
      · rw [if_pos q, if_pos ⟨by omega, q.2⟩]
      · rw [if_neg q, if_neg fun z => q ⟨by
          by_cases e : k = n
          · subst e; exact absurd z.2 hp
          · omega, z.2⟩]
theorem pow_hom (H : Hom φ) (i : Nat) : ∀ j : Nat, φ (powZ i) ^ j = φ (powZ (i * j))
  | 0 => by rw [pow_zero, Nat.mul_zero]; exact H.one.symm
  | j + 1 => by rw [pow_succ, pow_hom H i j, ← H.mul (powZ_rng' _) (powZ_rng' _), mul_pow', Nat.mul_succ]
theorem back_inv (H : Hom φ) {a : Nat} (ha : a < 255) : φ (backZ (a : Int)) * φ (powZ a) = 1 := by
  rw [← H.mul backZ_rng (powZ_rng' _)]
  have e : backZ (a : Int) = powZ ((255 - a) % 255) := by
    unfold backZ
    have h := fmod255 (-(a : Int))
    rw [powsT_get (by omega)]
    congr 1
    have : (-(a : Int)).fmod 255 = (-(a : Int)) % 255 := Int.fmod_eq_emod_of_nonneg _ (by decide)
    rw [this]; omega
  rw [e, powZ_mod, mul_pow', show 255 - a + a = 255 by omega, powZ_255]
  exact H.one
theorem places_inj (H : Hom φ) {i j : Nat} (hi : i < 255) (hj : j < 255) (h : φ (powZ i) = φ (powZ j)) : i = j := powZ_inj hi hj (H.inj (powZ_rng' i) (powZ_rng' j) h)
theorem dec_V {N n L : Nat} {js : List Nat} {e X C : Nat → F} (H : Hom φ) (D : Dec N n js e X C L) {j : Nat} (hj : j ∈ js) {y V : F} (hy : y * X j = 1) (hV : y * V = od C y n) : V ≠ 0 := by
  have hl : 0 < js.length := List.length_pos_of_mem hj
  have hh := D.half
  have hLn := D.hL
  have hp : pv C y n = 0 := by
    have := (pv_root hy L).mpr (dec_root H.hz D j hj)
    rw [← this]
    exact pv_ext (by omega) fun k hk => D.cz k (by omega)
  have hne := dec_slope H.hz H.h10 D hj hy
  rw [qsum_root H.h2 hy hp, ← hV] at hne
  exact fun q => hne (by rw [q]; grind)
end
end Mine
end

theorem Mine.anew_ME : 1 = 1 := by
  w_top off
  first | walk1 | rfl

/-! part ME -/
section
open PySem PySem.W PyProof.Rows PySem.Calls PySem.Spec
set_option Elab.async false
namespace Mine
set_option maxRecDepth 100000
section
variable {F : Type} [Lean.Grind.CommRing F]
open Lean.Grind.Semiring (pow_succ pow_zero pow_add)
variable {φ : Int → F}
theorem value_app (H : Hom φ) {x : Int} (hx : rng x) : ∀ (m : List Int) (t : Int), rng t → (∀ k ∈ m, rng k) → φ (m.foldl (fun t w => xorZ (mulZ t x) w) t) = φ t * φ x ^ m.length + φ (valueZ m x)
  | [], t, _, _ => by show φ t = φ t * φ x ^ 0 + φ 0; rw [H.zero, pow_zero]; grind
  | w :: m, t, ht, h => by
    have hw := h w (.head _)
    have hm : ∀ k ∈ m, rng k := fun k hk => h k (.tail _ hk)
    have a := value_app H hx m (xorZ (mulZ t x) w) (xorZ_rng mulZ_rng hw) hm
    have b := value_app H hx m (xorZ (mulZ 0 x) w) (xorZ_rng mulZ_rng hw) hm
    show φ (m.foldl _ (xorZ (mulZ t x) w)) = φ t * φ x ^ (m.length + 1) + φ (m.foldl (fun t w => xorZ (mulZ t x) w) (xorZ (mulZ 0 x) w))
    rw [a, b, H.add mulZ_rng hw, H.add mulZ_rng hw, H.mul ht hx, mul_zero_l, H.zero, pow_succ]
    grind
theorem value_append (H : Hom φ) {x : Int} (hx : rng x) {l m : List Int} (hl : ∀ k ∈ l, rng k) (hm : ∀ k ∈ m, rng k) : φ (valueZ (l ++ m) x) = φ (valueZ l x) * φ x ^ m.length + φ (valueZ m x) := by
  rw [← value_app H hx m (valueZ l x) (valueZ_rng hl) hm]
  unfold valueZ; rw [List.foldl_append]
theorem value_cons0 (l : List Int) (x : Int) : valueZ (0 :: l) x = valueZ l x := by
  show l.foldl _ (xorZ (mulZ 0 x) 0) = _
  rw [mul_zero_l, xor_zero' rng0]; rfl
theorem value_lead (x : Int) : ∀ l : List Int, valueZ (l.drop (leadZ l)) x = valueZ l x
  | [] => rfl
  | [_] => rfl
  | a :: b :: r => by
    unfold leadZ
    by_cases e : a = 0
    · rw [if_pos e, e, value_cons0]
      exact value_lead x (b :: r)
    · rw [if_neg e]; rfl
theorem value_zeros (x : Int) : ∀ (n : Nat) (l : List Int), valueZ (List.replicate n 0 ++ l) x = valueZ l x
  | 0, l => rfl
  | n + 1, l => by rw [List.replicate_succ, List.cons_append, value_cons0, value_zeros x n l]
theorem co_rev {l : List Int} {i : Nat} (h : i < l.length) : co φ l.reverse (l.length - 1 - i) = co φ l i := by
  unfold co
  rw [List.getD_eq_getElem?_getD, List.getD_eq_getElem?_getD, List.getElem?_reverse (by omega), show l.length - 1 - (l.length - 1 - i) = i by omega]
theorem value_sm (H : Hom φ) {x : Int} (hx : rng x) {l : List Int} (hl : ∀ k ∈ l, rng k) : φ (valueZ l x) = sm (fun i => co φ l i * φ x ^ (l.length - 1 - i)) l.length := by
  have := value_rev H hx (l := l.reverse) fun k hk => hl k (List.mem_reverse.mp hk)
  rw [List.reverse_reverse, List.length_reverse] at this
  rw [this]
  unfold pv
  rw [sm_rev]
  exact sm_congr fun k hk => by rw [co_rev hk]
theorem gexp_pow (n : Int) : gexpZ n = powZ (n.fmod 255).toNat := by
  have h := fmod255 n
  unfold gexpZ
  rw [powZ_eq _ (by omega)]
theorem gexp_add {b : Int} (h0 : 1 ≤ b) (h1 : b < 256) (t : Int) : gexpZ (glogZ b + t) = mulZ b (gexpZ t) := by
  obtain ⟨j, hj, e, l⟩ := is_pow (a := b) ⟨by omega, h1⟩ (by omega)
  have hl : glogZ b = (j : Int) := by rw [← l, logZ_eq h0 h1]; rfl
  rw [gexp_pow, gexp_pow, hl]
  rw [e, mul_pow', ← powZ_mod, ← powZ_mod (j + _)]
  congr 1
  rw [Int.fmod_eq_emod_of_nonneg _ (by decide), Int.fmod_eq_emod_of_nonneg _ (by decide)]
  omega
theorem step_co (H : Hom φ) {as bs : List Int} (ha : ∀ k ∈ as, rng k) (hb : goodRow bs = true) (hl : bs.length ≤ as.length) (i : Nat) : co φ (modStep as bs) i = co φ as i + (if i < bs.length then φ (gexpZ (glogZ (as.getD 0 0) - glogZ (bs.getD 0 0))) * co φ bs i else 0) := by
  unfold co modStep
  by_cases q : i < bs.length
  · rw [if_pos q, List.getD_eq_getElem?_getD, List.getElem?_append_left (by simp; omega), List.getElem?_map, List.getElem?_range (by omega)]
    show φ (xorZ (as.getD i 0) (gexpZ (glogZ (bs.getD i 0) + _))) = _
    have hm : bs.getD i 0 ∈ bs := by
      rw [List.getD_eq_getElem?_getD, List.getElem?_eq_getElem q]; exact List.getElem_mem q
    have hg := goodRow_is hb _ hm
    rw [gexp_add hg.1 hg.2, H.add (getD_rng ha _) mulZ_rng, H.mul ⟨by omega, hg.2⟩ (gexp_rng _)]
    grind
  · rw [if_neg q, List.getD_eq_getElem?_getD, List.getElem?_append_right (by simp; omega), List.getElem?_drop]
    rw [show bs.length + (i - ((List.range (min as.length bs.length)).map (fun i => xorZ (as.getD i 0) (gexpZ (glogZ (bs.getD i 0) + (glogZ (as.getD 0 0) - glogZ (bs.getD 0 0)))))).length) = i by simp; omega, ← List.getD_eq_getElem?_getD]
    grind
theorem step_value (H : Hom φ) {as bs : List Int} {x : Int} (hx : rng x) (ha : ∀ k ∈ as, rng k) (hb : goodRow bs = true) (hl : bs.length ≤ as.length) (hr : φ (valueZ bs x) = 0) : φ (valueZ (modStep as bs) x) = φ (valueZ as x) := by
  have hbr : ∀ k ∈ bs, rng k := fun k hk => by have := goodRow_is hb k hk; exact ⟨by omega, this.2⟩
  rw [value_sm H hx (modStep_rng ha), value_sm H hx ha, modStep_len hl]
  rw [value_sm H hx hbr] at hr
  generalize hc : φ (gexpZ (glogZ (as.getD 0 0) - glogZ (bs.getD 0 0))) = c
  have e1 : sm (fun i => co φ (modStep as bs) i * φ x ^ (as.length - 1 - i)) as.length = sm (fun i => co φ as i * φ x ^ (as.length - 1 - i)) as.length + sm (fun i => (if i < bs.length then c * co φ bs i else 0) * φ x ^ (as.length - 1 - i)) as.length := by
    unfold sm
    rw [← lsum_add]
    exact lsum_congr fun k _ => by rw [step_co H ha hb hl, hc]; grind
  have e2 : sm (fun i => (if i < bs.length then c * co φ bs i else 0) * φ x ^ (as.length - 1 - i)) as.length = (c * φ x ^ (as.length - bs.length)) * sm (fun i => co φ bs i * φ x ^ (bs.length - 1 - i)) bs.length := by
    rw [sm_ext' hl fun k hk => by rw [if_neg (by omega)]; grind]
    unfold sm
    rw [← lsum_mul]
    refine lsum_congr fun k hk => ?_
    have := List.mem_range.mp hk
    rw [if_pos this, show as.length - 1 - k = (as.length - bs.length) + (bs.length - 1 - k) by omega, pow_add]
    grind
  rw [e1, e2, hr]; grind
theorem modP_value (H : Hom φ) {bs : List Int} {x : Int} (hx : rng x) (hb : goodRow bs = true) (hr : φ (valueZ bs x) = 0) : ∀ (f : Nat) {as : List Int}, (∀ k ∈ as, rng k) → φ (valueZ (modP f as bs) x) = φ (valueZ as x) ∧ ∀ k ∈ modP f as bs, rng k
  | 0, as, h => ⟨rfl, h⟩
  | f + 1, as, h => by
    unfold modP
    split
    · exact ⟨rfl, h⟩
    · have ih := modP_value H hx hb hr f (as := polyZ (modStep as bs) 0) (polyZ_rng (modStep_rng h))
      refine ⟨?_, ih.2⟩
      rw [ih.1, polyZ_zero, value_lead, step_value H hx h hb (by omega) hr]
theorem modP_short {bs : List Int} (hb : 2 ≤ bs.length) : ∀ (f : Nat) {as : List Int}, (∀ k ∈ as, rng k) → as.length < bs.length + f → (as.length ≤ 1 ∨ as.getD 0 0 ≠ 0) → (modP f as bs).length < bs.length
  | 0, as, _, h, _ => h
  | f + 1, as, hr, h, h0 => by
    unfold modP
    split
    · assumption
    · have hl : bs.length ≤ as.length := by omega
      have hh : as.getD 0 0 ≠ 0 := by rcases h0 with q | q; omega; exact q
      have hg := getD_rng hr 0
      have hz := modStep_head hl (by omega) (by have := hg.1; omega) hg.2
      have hlen := modStep_len hl
      have hp := leadZ_pos (by omega) hz
      refine modP_short hb f (polyZ_rng (modStep_rng hr)) ?_ (polyZ_head ?_)
      · rw [polyZ_zero, List.length_drop]; omega
      · intro e; rw [e] at hlen; simp at hlen; omega
theorem ecs_pad {m : List Int} {e : Nat} (h : m.length ≤ e) : ecs m e e = List.replicate (e - m.length) 0 ++ m := by
  refine List.ext_getElem? fun i => ?_
  unfold ecs
  rw [List.getElem?_map]
  by_cases hi : i < e
  · rw [List.getElem?_range hi]
    by_cases q : e - m.length ≤ i
    · rw [List.getElem?_append_right (by simp; omega), List.length_replicate]
      dsimp only [Option.map_some]
      rw [if_pos (by omega), List.getD_eq_getElem?_getD, show ((i : Int) + ((m.length : Int) - e)).toNat = i - (e - m.length) by omega, List.getElem?_eq_getElem (by omega)]
      rfl
    · rw [List.getElem?_append_left (by simp; omega), List.getElem?_replicate, if_pos (by omega)]
      dsimp only [Option.map_some]
      rw [if_neg (by omega)]
  · rw [List.getElem?_eq_none (by simp; omega), List.getElem?_eq_none (by simp; omega)]; rfl
/-- the product by the two tables, quicker for the kernel to reckon -/
def mulT (a b : Int) : Int := if a = 0 ∨ b = 0 then 0 else EXPT.getD ((LOGT.getD a.toNat 0 + LOGT.getD b.toNat 0).fmod 255).toNat 0
def valueT (row : List Int) (x : Int) : Int := row.foldl (fun t w => xorZ (mulT t x) w) 0
theorem mulZ_tab {a b : Int} (ha : rng a) (hb : rng b) : mulZ a b = mulT a b := by
  unfold mulZ mulT
  split
  · rfl
  · rename_i h
    have a0 := ha.1; have a1 := ha.2; have b0 := hb.1; have b1 := hb.2
    have f := fmod255 (LOGT.getD a.toNat 0 + LOGT.getD b.toNat 0)
    rw [logZ_eq (by omega) a1, logZ_eq (by omega) b1, powsT_get (by omega), powZ_eq _ (by omega)]
theorem value_tab {x : Int} (hx : rng x) {row : List Int} (hr : ∀ k ∈ row, rng k) : valueZ row x = valueT row x := by
  have key : ∀ (row : List Int) (t : Int), (∀ k ∈ row, rng k) → rng t → row.foldl (fun t w => xorZ (mulZ t x) w) t = row.foldl (fun t w => xorZ (mulT t x) w) t := by
    intro row
    induction row with
    | nil => intro t _ _; rfl
    | cons w r ih =>
      intro t hr ht
      simp only [List.foldl_cons]
      rw [← mulZ_tab ht hx]
      exact ih _ (fun k hk => hr k (.tail _ hk)) (xorZ_rng mulZ_rng (hr w (.head _)))
  exact key row 0 hr rng0
theorem genP_root {e k : Nat} (he : okE e = true) (hk : k < e) : valueZ (genP e) (powZ k) = 0 := by
  have key : ∀ e : Nat, e < 11 → okE e = true → ∀ k : Nat, k < e → valueT (genP e) (EXPT.getD k 0) = 0 := by decide +kernel
  obtain ⟨g1, g2, g3, g4⟩ := genP_good he
  have hr : ∀ k ∈ genP e, rng k := fun k hk => ⟨by have := goodRow_is g1 k hk; omega, (goodRow_is g1 k hk).2⟩
  rw [value_tab (powZ_rng' k) hr, powZ_eq k (by omega)]
  exact key e (by omega) he k hk
theorem code_value (H : Hom φ) {e k : Nat} {r : List Int} (he : okE e = true) (h5 : r.length ≤ 5) (hr : ∀ k ∈ r, rng k) (hn : ∃ k ∈ r, k ≠ 0) (hk : k < e) : φ (valueZ (r ++ ecZ e r) (powZ k)) = 0 := by
  have hx := powZ_rng' k
  obtain ⟨g1, g2, g3, g4⟩ := genP_good he
  have pf := polyZ_facts (e := e) hr hn
  have hroot : φ (valueZ (genP e) (powZ k)) = 0 := by rw [genP_root he hk]; exact H.zero
  have mv := modP_value H hx g1 hroot 15 pf.1
  have ms := modP_short (by omega) 15 pf.1 (by omega) (.inr pf.2.2.2) (bs := genP e)
  have hec : ecZ e r = List.replicate (e - (modM e r).length) 0 ++ modM e r := ecs_pad (by unfold modM; omega)
  have hel : (ecZ e r).length = e := by unfold ecZ ecs; simp
  have her : ∀ k ∈ ecZ e r, rng k := fun k hk => by
    rw [hec] at hk
    rcases List.mem_append.mp hk with hk | hk
    · rw [(List.mem_replicate.mp hk).2]; exact rng0
    · exact mv.2 k hk
  rw [value_append H hx hr her, hel, hec, value_zeros]
  have hv : φ (valueZ (modM e r) (powZ k)) = φ (valueZ (polyZ r e) (powZ k)) := mv.1
  have hp : φ (valueZ (polyZ r e) (powZ k)) = φ (valueZ r (powZ k)) * φ (powZ k) ^ e := by
    unfold polyZ
    rw [value_append H hx (fun k hk => hr k (List.mem_of_mem_drop hk)) (fun k hk => by rw [(List.mem_replicate.mp hk).2]; exact rng0), value_lead, List.length_replicate]
    have := value_zeros (powZ k) e []
    rw [List.append_nil] at this
    rw [this]
    show _ + φ 0 = _
    rw [H.zero]; grind
  rw [hv, hp]; exact H.h2 _
end
end Mine
end

theorem Mine.anew_MF : 1 = 1 := by
  w_top off
  first | walk1 | rfl

/-! part MF -/
section
open PySem PySem.W PyProof.Rows PySem.Calls PySem.Spec
set_option Elab.async false
namespace Mine
set_option maxRecDepth 100000
section
variable {F : Type} [Lean.Grind.CommRing F]
open Lean.Grind.Semiring (pow_succ pow_zero pow_add)
variable {φ : Int → F}
/-- the places where two rows differ, told from the end -/
def diffs (dm cw : List Int) : List Nat := ((List.range cw.length).filter fun i => decide (dm.getD i 0 ≠ cw.getD i 0)).map fun p => cw.length - 1 - p
theorem diffs_mem {dm cw : List Int} {p : Nat} (hp : p < cw.length) : cw.length - 1 - p ∈ diffs dm cw ↔ dm.getD p 0 ≠ cw.getD p 0 := by
  unfold diffs
  rw [List.mem_map]
  constructor
  · rintro ⟨q, hq, e⟩
    obtain ⟨h1, h2⟩ := List.mem_filter.mp hq
    have h1 := List.mem_range.mp h1
    have : q = p := by omega
    subst this
    exact of_decide_eq_true h2
  · intro h
    exact ⟨p, List.mem_filter.mpr ⟨List.mem_range.mpr hp, decide_eq_true h⟩, rfl⟩
theorem diffs_sub {dm cw : List Int} {j : Nat} (h : j ∈ diffs dm cw) : j < cw.length := by
  obtain ⟨q, hq, e⟩ := List.mem_map.mp h
  have := List.mem_range.mp (List.mem_filter.mp hq).1
  omega
theorem diffs_nd (dm cw : List Int) : (diffs dm cw).Nodup := by
  unfold diffs
  refine List.pairwise_map.mpr ?_
  have h : ((List.range cw.length).filter fun i => decide (dm.getD i 0 ≠ cw.getD i 0)).Pairwise (· < ·) := List.Pairwise.filter _ List.pairwise_lt_range
  refine h.imp_of_mem fun {a b} ha hb hab => ?_
  have h1 := List.mem_range.mp (List.mem_filter.mp ha).1
  have h2 := List.mem_range.mp (List.mem_filter.mp hb).1
  omega
theorem diffs_len (dm cw : List Int) : (diffs dm cw).length = ndiff dm cw := by unfold diffs ndiff; rw [List.length_map]
def er (φ : Int → F) (dm cw : List Int) (j : Nat) : F := co φ dm (cw.length - 1 - j) + co φ cw (cw.length - 1 - j)
def pl (φ : Int → F) (j : Nat) : F := φ (powZ j)
theorem syn_sums (H : Hom φ) {dm cw : List Int} {k : Nat} (hl : dm.length = cw.length) (hd : ∀ k ∈ dm, rng k) (hc : ∀ k ∈ cw, rng k) (hv : φ (valueZ cw (powZ k)) = 0) : φ (valueZ dm (powZ k)) = syn (diffs dm cw) (er φ dm cw) (pl φ) k := by
  have e0 : φ (valueZ dm (powZ k)) = φ (valueZ dm (powZ k)) + φ (valueZ cw (powZ k)) := by rw [hv]; grind
  rw [e0, value_sm H (powZ_rng' k) hd, value_sm H (powZ_rng' k) hc, hl]
  unfold syn diffs
  rw [lsum_map, lsum_filter]
  · unfold sm
    rw [← lsum_add]
    refine lsum_congr fun p hp => ?_
    have hp := List.mem_range.mp hp
    unfold er pl
    rw [show cw.length - 1 - (cw.length - 1 - p) = p by omega, pow_hom H, pow_hom H, Nat.mul_comm k]
    grind
  · intro p hp h
    have hp := List.mem_range.mp hp
    have h : dm.getD p 0 = cw.getD p 0 := Classical.not_not.mp (of_decide_eq_false h)
    unfold er
    rw [show cw.length - 1 - (cw.length - 1 - p) = p by omega]
    have : co φ dm p = co φ cw p := by unfold co; rw [h]
    rw [this, H.h2]; grind
theorem sums_get {dm : List Int} {e k : Nat} (hk : k < e) : (sumsZ dm e).getD k 0 = valueZ dm (powZ k) := by
  unfold sumsZ; rw [List.getD_eq_getElem?_getD, List.getElem?_map, List.getElem?_range hk]; rfl
theorem er_ne (H : Hom φ) {dm cw : List Int} (hd : ∀ k ∈ dm, rng k) (hc : ∀ k ∈ cw, rng k) {j : Nat} (hj : j ∈ diffs dm cw) : er φ dm cw j ≠ 0 := by
  have hs := diffs_sub hj
  intro h
  have hm := (diffs_mem (dm := dm) (cw := cw) (p := cw.length - 1 - j) (by omega)).mp (by rw [show cw.length - 1 - (cw.length - 1 - j) = j by omega]; exact hj)
  refine hm (H.inj (getD_rng hd _) (getD_rng hc _) ?_)
  have h2 := H.h2 (co φ cw (cw.length - 1 - j))
  have h3 : co φ dm (cw.length - 1 - j) + co φ cw (cw.length - 1 - j) = 0 := h
  show co φ dm _ = co φ cw _
  grind
theorem dec_made (H : Hom φ) {dm cw : List Int} {e : Nat} (hl : dm.length = cw.length) (hN : cw.length < 255) (hd : ∀ k ∈ dm, rng k) (hc : ∀ k ∈ cw, rng k) (hv : ∀ k, k < e → φ (valueZ cw (powZ k)) = 0) (hn : 2 * ndiff dm cw ≤ e) :
    ∃ L, Dec cw.length e (diffs dm cw) (er φ dm cw) (pl φ) (co φ (registerZ (sumsZ dm e))) L := by
  have hsl : (sumsZ dm e).length = e := by simp [sumsZ]
  obtain ⟨L, LB, m, _, _, I⟩ := bm_run H (sums := sumsZ dm e) (S := syn (diffs dm cw) (er φ dm cw) (pl φ)) (nu := (diffs dm cw).length) (lc := loc (pl φ) (diffs dm cw)) (sumsZ_rng hd)
    (fun k hk => by unfold co; rw [hsl] at hk; rw [sums_get hk]; exact syn_sums H hl hd hc (hv k hk))
    (loc_zero _ _) (fun k hk => loc_deg _ _ k hk) (fun i hi => loc_syn _ _ _ i hi) (sumsZ dm e).length (Nat.le_refl _)
  rw [← diffs_len] at hn
  exact ⟨L, { nd := diffs_nd _ _, sub := fun j hj => diffs_sub hj, e0 := fun j hj => er_ne H hd hc hj, inj := fun i j hi hj h => places_inj H (by omega) (by omega) h, half := hn, c0 := I.c0, cz := I.cz, hL := I.hL, gen := fun i h1 h2 => I.gen i h1 (by omega) }⟩
theorem od_ext {C : Nat → F} {y : F} {n M : Nat} (h1 : n ≤ M) (h : ∀ k, n ≤ k → C k = 0) : od C y M = od C y n := sm_ext' h1 fun k hk => by rw [h k hk]; split <;> grind
/-- what a place holds -/
theorem place (H : Hom φ) {dm cw : List Int} {e : Nat} (hl : dm.length = cw.length) (hN : cw.length < 255) (hd : ∀ k ∈ dm, rng k) (hc : ∀ k ∈ cw, rng k) (hv : ∀ k, k < e → φ (valueZ cw (powZ k)) = 0) (hn : 2 * ndiff dm cw ≤ e) {p : Nat} (hp : p < dm.length) :
    (valueZ (registerZ (sumsZ dm e)).reverse (backZ ((dm.length : Int) - 1 - p)) = 0 → 1 ≤ valueZ (slopesZ (registerZ (sumsZ dm e))) (backZ ((dm.length : Int) - 1 - p)) ∧
      xorZ (dm.getD p 0) (mulZ (divZ (valueZ (restsZ (registerZ (sumsZ dm e)) (sumsZ dm e) e) (backZ ((dm.length : Int) - 1 - p))) (valueZ (slopesZ (registerZ (sumsZ dm e))) (backZ ((dm.length : Int) - 1 - p)))) (powsT.getD ((dm.length : Int) - 1 - p).toNat 0)) = cw.getD p 0) ∧
    (valueZ (registerZ (sumsZ dm e)).reverse (backZ ((dm.length : Int) - 1 - p)) ≠ 0 → dm.getD p 0 = cw.getD p 0) := by
  obtain ⟨L, D⟩ := dec_made H hl hN hd hc hv hn
  have hsl : (sumsZ dm e).length = e := by simp [sumsZ]
  have hsr := sumsZ_rng (e := e) hd
  have hrr := registerZ_rng hsr
  have hrl := registerZ_len hsr
  rw [hsl] at hrl
  have hj : (dm.length : Int) - 1 - p = ((cw.length - 1 - p : Nat) : Int) := by omega
  rw [hj]
  have hS : ∀ k, k < e → co φ (sumsZ dm e) k = syn (diffs dm cw) (er φ dm cw) (pl φ) k := fun k hk => by
    unfold co; rw [sums_get hk]; exact syn_sums H hl hd hc (hv k hk)
  generalize sumsZ dm e = sums at *
  generalize registerZ sums = reg at *
  generalize hjj : cw.length - 1 - p = j
  have hjN : j < cw.length := by omega
  have hy : φ (backZ (j : Int)) * pl φ j = 1 := back_inv H (by omega)
  have hbr : rng (backZ (j : Int)) := backZ_rng
  have hhalf := D.half
  have hLn := D.hL
  generalize backZ (j : Int) = b at *
  have hroot : valueZ reg.reverse b = 0 ↔ j ∈ diffs dm cw := by
    have h1 : φ (valueZ reg.reverse b) = pv (co φ reg) (φ b) (L + 1) := by
      rw [value_rev H hbr hrr]
      rw [← pv_ext (n := reg.length) (M := e + 1) (by omega) (fun k hk => co_out H hk), ← pv_ext (n := L + 1) (M := e + 1) (by omega) (fun k hk => D.cz k (by omega))]
    have hvr : rng (valueZ reg.reverse b) := valueZ_rng fun k hk => hrr k (List.mem_reverse.mp hk)
    constructor
    · intro q
      rw [q, H.zero] at h1
      exact dec_place H.hz H.h10 D hjN ((pv_root hy L).mp h1.symm)
    · intro q
      refine H.inj hvr rng0 ?_
      rw [h1, H.zero]
      exact (pv_root hy L).mpr (dec_root H.hz D j q)
  have hmem := diffs_mem (dm := dm) (cw := cw) (p := p) (by omega)
  rw [hjj] at hmem
  refine ⟨fun hr => ?_, fun hr => ?_⟩
  · have hm := hroot.mp hr
    have hpos : 0 < (diffs dm cw).length := List.length_pos_of_mem hm
    have hV : φ b * φ (valueZ (slopesZ reg) b) = od (co φ reg) (φ b) e := by
      rw [slope_od H hrr hbr hrl.1, ← od_ext (n := reg.length) (M := e + 1) (by omega) (fun k hk => co_out H hk), ← od_ext (n := e) (M := e + 1) (by omega) (fun k hk => D.cz k (by omega))]
    have hV0 : φ (valueZ (slopesZ reg) b) ≠ 0 := dec_V H D hm hy hV
    have hVr : rng (valueZ (slopesZ reg) b) := valueZ_rng (slopesZ_rng hrr)
    have hVne : valueZ (slopesZ reg) b ≠ 0 := fun q => hV0 (by rw [q]; exact H.zero)
    have hR : φ (valueZ (restsZ reg sums e) b) = pv (cv (co φ reg) (syn (diffs dm cw) (er φ dm cw) (pl φ))) (φ b) e := by
      unfold restsZ
      rw [value_rev H hbr fun k hk => by obtain ⟨i, _, rfl⟩ := List.mem_map.mp hk; exact restZ_rng]
      rw [List.length_map, List.length_range]
      unfold pv
      refine sm_congr fun k hk => ?_
      have : co φ ((List.range e).map (restZ reg sums)) k = φ (restZ reg sums k) := by
        unfold co; rw [List.getD_eq_getElem?_getD, List.getElem?_map, List.getElem?_range hk]; rfl
      rw [this, rest_cv H hrr hsr fun i hi => hS i (by omega)]
    have hs := H.div (a := valueZ (restsZ reg sums e) b) (valueZ_rng restsZ_rng) hVr hVne
    rw [hR] at hs
    have sh := (dec_share H.hz H.h10 H.h2 D hm hy hV hs).2
    refine ⟨by have := hVr.1; omega, ?_⟩
    rw [Int.toNat_natCast, powsT_get (by omega)]
    refine H.inj (xorZ_rng (getD_rng hd _) mulZ_rng) (getD_rng hc _) ?_
    rw [H.add (getD_rng hd _) mulZ_rng, H.mul divZ_rng (powZ_rng' _)]
    have sh' : φ (divZ (valueZ (restsZ reg sums e) b) (valueZ (slopesZ reg) b)) * φ (powZ j) = co φ dm p + co φ cw p := by
      have : er φ dm cw j = co φ dm p + co φ cw p := by unfold er; rw [show cw.length - 1 - j = p by omega]
      rw [← this]; exact sh
    rw [sh']
    have h2 := H.h2 (co φ dm p)
    show co φ dm p + _ = co φ cw p
    grind
  · exact Classical.not_not.mp fun q => hr (hroot.mpr (hmem.mpr q))
theorem mend_all (H : Hom φ) {dm cw : List Int} {e : Nat} (hl : dm.length = cw.length) (hN : cw.length < 255) (hd : ∀ k ∈ dm, rng k) (hc : ∀ k ∈ cw, rng k) (hv : ∀ k, k < e → φ (valueZ cw (powZ k)) = 0) (hn : 2 * ndiff dm cw ≤ e) : mendedZ dm e = cw := by
  have hstep : mendStep dm (registerZ (sumsZ dm e)) (restsZ (registerZ (sumsZ dm e)) (sumsZ dm e) e) (slopesZ (registerZ (sumsZ dm e))) = fun md p => if decide (valueZ (registerZ (sumsZ dm e)).reverse (backZ ((dm.length : Int) - 1 - (p : Nat))) = 0) = true then md.set p (xorZ (dm.getD p 0) (mulZ (divZ (valueZ (restsZ (registerZ (sumsZ dm e)) (sumsZ dm e) e) (backZ ((dm.length : Int) - 1 - p))) (valueZ (slopesZ (registerZ (sumsZ dm e))) (backZ ((dm.length : Int) - 1 - p)))) (powsT.getD ((dm.length : Int) - 1 - p).toNat 0))) else md := by
    funext md p
    unfold mendStep
    by_cases q : valueZ (registerZ (sumsZ dm e)).reverse (backZ ((dm.length : Int) - 1 - p)) = 0
    · rw [if_pos q, if_pos (decide_eq_true q)]
    · rw [if_neg q, if_neg (by rw [decide_eq_false q]; exact Bool.false_ne_true)]
  unfold mendedZ
  rw [hstep]
  have fs := fold_set (P := fun p => decide (valueZ (registerZ (sumsZ dm e)).reverse (backZ ((dm.length : Int) - 1 - (p : Nat))) = 0)) (v := fun p => xorZ (dm.getD p 0) (mulZ (divZ (valueZ (restsZ (registerZ (sumsZ dm e)) (sumsZ dm e) e) (backZ ((dm.length : Int) - 1 - p))) (valueZ (slopesZ (registerZ (sumsZ dm e))) (backZ ((dm.length : Int) - 1 - p)))) (powsT.getD ((dm.length : Int) - 1 - p).toNat 0))) dm.length dm (Nat.le_refl _)
  refine List.ext_getElem? fun p => ?_
  have hp1 := (fs p).1
  have hp2 := (fs p).2
  generalize List.foldl _ dm (List.range dm.length) = R at hp1 hp2
  by_cases hp : p < dm.length
  · have pp := place H hl hN hd hc hv hn hp
    have g : R.getD p 0 = cw.getD p 0 := by
      rw [hp1]
      by_cases q : valueZ (registerZ (sumsZ dm e)).reverse (backZ ((dm.length : Int) - 1 - p)) = 0
      · rw [if_pos ⟨hp, decide_eq_true q⟩]
        exact (pp.1 q).2
      · rw [if_neg fun z => q (of_decide_eq_true z.2)]
        exact pp.2 q
    rw [List.getD_eq_getElem?_getD, List.getD_eq_getElem?_getD, List.getElem?_eq_getElem (by omega), List.getElem?_eq_getElem (by omega)] at g
    rw [List.getElem?_eq_getElem (by omega), List.getElem?_eq_getElem (by omega)]
    exact congrArg some g
  · rw [List.getElem?_eq_none (by omega), List.getElem?_eq_none (by omega)]
end
end Mine
end

theorem Mine.anew_MG : 1 = 1 := by
  w_top off
  first | walk1 | rfl

/-! part MG -/
section
open PySem PySem.W PyProof.Rows PySem.Calls PySem.Spec
set_option Elab.async false
namespace Mine
set_option maxRecDepth 100000
def toG (a : Int) : GF := if h : 0 ≤ a ∧ a < 256 then ⟨a, h⟩ else ⟨0, rng0⟩
theorem toG_of {a : Int} (h : rng a) : toG a = ⟨a, h⟩ := dif_pos h
theorem div_pow (i j : Nat) (hi : i < 255) (hj : j < 255) : mulZ (divZ (powZ i) (powZ j)) (powZ j) = powZ i := by
  have li : logZ (powZ i) = (i : Int) := by
    obtain ⟨k, hk, e, l⟩ := is_pow (powZ_rng' i) (powZ_ne i)
    rw [l, powZ_inj hi hk e]
  have lj : logZ (powZ j) = (j : Int) := by
    obtain ⟨k, hk, e, l⟩ := is_pow (powZ_rng' j) (powZ_ne j)
    rw [l, powZ_inj hj hk e]
  unfold divZ
  have h := fmod255 ((i : Int) - j)
  rw [if_neg (powZ_ne i), li, lj, powsT_get (by omega), mul_pow', ← powZ_mod, ← powZ_mod i]
  congr 1
  rw [Int.fmod_eq_emod_of_nonneg _ (by decide)]
  omega
theorem homG : @Hom GF gfR toG := by
  letI : Lean.Grind.CommRing GF := gfR
  exact {
    add {a b} ha hb := by rw [toG_of ha, toG_of hb, toG_of (xorZ_rng ha hb)]; rfl
    mul {a b} ha hb := by rw [toG_of ha, toG_of hb, toG_of (mulZ_rng (a := a) (b := b))]; rfl
    div {a b} ha hb h0 := by
      rw [toG_of ha, toG_of hb, toG_of (divZ_rng (a := a) (b := b))]
      refine Subtype.ext ?_
      show mulZ (divZ a b) b = a
      by_cases h : a = 0
      · subst h; unfold divZ; rw [if_pos rfl, mul_zero_l]
      obtain ⟨i, hi, rfl, _⟩ := is_pow ha h
      obtain ⟨j, hj, rfl, _⟩ := is_pow hb h0
      exact div_pow i j hi hj
    zero := by rw [toG_of rng0]; rfl
    one := by rw [toG_of (a := 1) ⟨by decide, by decide⟩]; rfl
    inj {a b} ha hb h := by rw [toG_of ha, toG_of hb] at h; exact congrArg Subtype.val h
    hz a b h := by
      have h : mulZ a.1 b.1 = 0 := congrArg Subtype.val h
      by_cases ha : a.1 = 0
      · exact .inl (Subtype.ext ha)
      by_cases hb : b.1 = 0
      · exact .inr (Subtype.ext hb)
      obtain ⟨i, _, ei, _⟩ := is_pow a.2 ha
      obtain ⟨j, _, ej, _⟩ := is_pow b.2 hb
      rw [ei, ej, mul_pow'] at h
      exact absurd h (powZ_ne _)
    h10 h := absurd (congrArg Subtype.val h) (show ¬ (1 : Int) = 0 by decide)
    h2 a := Subtype.ext (xor_self' a.2) }
theorem ecZ_len (e : Nat) (r : List Int) : (ecZ e r).length = e := by unfold ecZ ecs; simp
theorem ecZ_rngs {e : Nat} {r : List Int} (he : okE e = true) (hr : ∀ k ∈ r, rng k) (hn : ∃ k ∈ r, k ≠ 0) : ∀ k ∈ ecZ e r, rng k := by
  have hm : ∀ k ∈ modM e r, rng k := by
    have key : ∀ (f : Nat) {as : List Int}, (∀ k ∈ as, rng k) → ∀ k ∈ modP f as (genP e), rng k := by
      intro f
      induction f with
      | zero => intro as h; exact h
      | succ f ih =>
        intro as h
        unfold modP
        split
        · exact h
        · exact ih (polyZ_rng (modStep_rng h))
    exact key 15 (polyZ_facts hr hn).1
  intro k hk
  unfold ecZ ecs at hk
  obtain ⟨i, _, rfl⟩ := List.mem_map.mp hk
  split
  · exact getD_rng hm _
  · exact rng0
theorem decode_ok {e : Nat} {r dm : List Int} (he : okE e = true) (h1 : 1 ≤ r.length) (h5 : r.length ≤ 5) (hr : ∀ k ∈ r, rng k) (hn : ∃ k ∈ r, k ≠ 0) (hml : dm.length = (r ++ ecZ e r).length) (hmr : ∀ k ∈ dm, rng k) (hd : 2 * ndiff dm (r ++ ecZ e r) ≤ e) :
    (∀ p : Nat, p < dm.length → valueZ (registerZ (sumsZ dm e)).reverse (backZ ((dm.length : Int) - 1 - p)) = 0 → valueZ (restsZ (registerZ (sumsZ dm e)) (sumsZ dm e) e) (backZ ((dm.length : Int) - 1 - p)) = 0 ∨ 1 ≤ valueZ (slopesZ (registerZ (sumsZ dm e))) (backZ ((dm.length : Int) - 1 - p))) ∧ mendedZ dm e = r ++ ecZ e r := by
  have her := ecZ_rngs he hr hn
  have hcr : ∀ k ∈ r ++ ecZ e r, rng k := fun k hk => by
    rcases List.mem_append.mp hk with hk | hk
    · exact hr k hk
    · exact her k hk
  have hg := genP_good he
  have hN : (r ++ ecZ e r).length < 255 := by rw [List.length_append, ecZ_len]; omega
  have hv := fun k (hk : k < e) => @code_value GF gfR toG homG e k r he h5 hr hn hk
  exact ⟨fun p hp h => .inr (((@place GF gfR toG homG dm (r ++ ecZ e r) e hml hN hmr hcr hv hd p hp).1 h).1), @mend_all GF gfR toG homG dm (r ++ ecZ e r) e hml hN hmr hcr hv hd⟩
end Mine
end

theorem Mine.anew_W27 : 1 = 1 := by
  w_top off
  first | walk1 | rfl

/-! part W27 -/
section
open PySem PySem.W PyProof.Rows PySem.Calls PySem.Spec
set_option Elab.async false
namespace Mine
set_option maxRecDepth 100000
theorem fill_W27 {w : World} {h : Heap} : (hd.heap_39 w.params).In h → Challenge.rw_bj0062_01.row.prog = Challenge.rw_bj0062_01.row.prog := by
  k_fill
  intro _
  rfl
local macro_rules | `(tactic| walk_at "my_enter") => `(tactic| (refine wpAny_call ?_; k_dflt (refine' code_def ?k1 ?k2 ?k3 ?k4 ?k5 ?kA ?kF ?kK ?k6 ?k7 ?k8 ?k9 ?kB ?_ ?c2 ?c3 ?c4 ?c5; (case kA => exact rfl); (case kF => assumption); (case kK => assumption); (case k1 => k_asm); (case k2 => k_asm); (case k3 => k_asm); (case k4 => k_asm); (case k5 => k_asm); (case k6 => k_is); (case k7 => k_is); (case k8 => walk_at "room"); (case k9 => exact BindsTo.of_eq rfl); (case c5 => decide); (case kB => exact locs rfl); (case c2 => exact rfl); (case c3 => exact rfl); (case c4 => exact rfl); k_whole; intro g' L' h' FG' F' N' B' X' T'; (try dsimp only); (try k_fold))))
local macro_rules | `(tactic| walk_at "my_steps") => `(tactic| repeat' (first | (k_unfold; (try dsimp only)) | walk1 | (dsimp only; walk1)))
local macro_rules | `(tactic| walk_at "setItem ref int") => `(tactic| (k_here; (with_reducible show wpAny _ _ (setItem (Value.ref _) (Value.int _ _) _) _ _ _); k_dflt (refine' set_listK ?k1 ?k2 ?k3 ?k5 ?k6 ?k7 ?_; (case k1 => k_asm); (case k2 => k_asm); (case k3 => k_upd); (case k5 => first | omega | ksa_idx); (case k6 => first | omega | (simp; done) | (simp; omega)); (case k7 => first | omega | ksa_idx); k_whole); intro h' F' N'; (try k_sweep)))
local macro_rules | `(tactic| k_ne) => `(tactic| first | assumption | exact Ne.symm (by assumption) | (refine neN ?_; (try dsimp only); omega))
local macro_rules | `(tactic| k_all) => `(tactic| first | assumption | exact lt_all_ne (by assumption) | exact lt_all_sub (by assumption) (by walk_at "sub") | exact ne_all_sub (by assumption) (by walk_at "sub") | exact allLt_ne (by assumption) | exact allLt_ne (And.right (by assumption)) | exact allLt_ne (And.right (And.right (by assumption))) | exact allLt_ne (And.right (And.right (And.right (by assumption)))) | exact allLt_ne (And.right (And.right (And.right (And.right (by assumption))))) | exact allLt_ne (And.right (And.right (And.right (And.right (And.right (by assumption)))))) | exact allLt_ne (And.right (And.right (And.right (And.right (And.right (And.right (by assumption))))))) | exact allLt_ne (And.right (And.right (And.right (And.right (And.right (And.right (And.right (by assumption)))))))) | exact allLt_ne (And.right (And.right (And.right (And.right (And.right (And.right (And.right (And.right (by assumption))))))))) | exact allLt_ne (And.right (And.right (And.right (And.right (And.right (And.right (And.right (And.right (And.right (by assumption)))))))))) | exact lt_all_off (by assumption) (by omega) | exact off1_sub (by assumption) (by walk_at "sub") | exact List.forall_mem_nil _ | (refine' List.forall_mem_cons.mpr ⟨?a, ?b⟩; (case a => k_ne); (case b => k_all)))
local macro_rules | `(tactic| walk_at "call builtin:list.append") => `(tactic| (k_here; (with_reducible show wpAny _ _ (call (Value.builtin "list.append") [Value.ref _, _]) _ _ _); k_dflt (refine' append_L ?k1 ?k2 ?k3 ?k4 ?_; (case k1 => k_asm); (case k2 => k_asm); (case k3 => k_upd); (case k4 => walk_at "lens"); k_whole); intro h' F' N'; (try k_sweep)))
local macro_rules | `(tactic| walk_at "lens") => `(tactic| first | assumption | omega | (simp only [List.length_append, List.length_cons, List.length_nil, List.length_map, List.length_range, List.length_replicate, List.length_set]; omega))
local macro_rules | `(tactic| walk_at "ints") => `(tactic| first | omega | (simp only [decide_eq_true_eq, decide_eq_false_iff_not, Bool.not_eq_true, beq_iff_eq, beq_eq_false_iff_ne, ne_eq] at *; omega) | (trace_state; fail "ints"))
local macro_rules | `(tactic| walk_at "fld_in") => `(tactic| first | assumption | exact FieldIn.tail (by assumption) | exact FieldIn.tail (FieldIn.tail (by assumption)) | exact FieldIn.tail (FieldIn.tail (FieldIn.tail (by assumption))) | exact FieldIn.tail (FieldIn.tail (FieldIn.tail (FieldIn.tail (by assumption)))) | exact FieldIn.tail (FieldIn.tail (FieldIn.tail (FieldIn.tail (FieldIn.tail (by assumption))))) | exact FieldIn.tail (FieldIn.tail (FieldIn.tail (FieldIn.tail (FieldIn.tail (FieldIn.tail (by assumption)))))) | exact FieldIn.tail (FieldIn.tail (FieldIn.tail (FieldIn.tail (FieldIn.tail (FieldIn.tail (FieldIn.tail (by assumption))))))) | exact FieldIn.tail (FieldIn.tail (FieldIn.tail (FieldIn.tail (FieldIn.tail (FieldIn.tail (FieldIn.tail (FieldIn.tail (by assumption)))))))) | exact FieldIn.tail (FieldIn.tail (FieldIn.tail (FieldIn.tail (FieldIn.tail (FieldIn.tail (FieldIn.tail (FieldIn.tail (FieldIn.tail (by assumption))))))))) | exact FieldIn.tail (FieldIn.tail (FieldIn.tail (FieldIn.tail (FieldIn.tail (FieldIn.tail (FieldIn.tail (FieldIn.tail (FieldIn.tail (FieldIn.tail (by assumption)))))))))) | exact FieldIn.tail (FieldIn.tail (FieldIn.tail (FieldIn.tail (FieldIn.tail (FieldIn.tail (FieldIn.tail (FieldIn.tail (FieldIn.tail (FieldIn.tail (FieldIn.tail (by assumption))))))))))) | exact FieldIn.tail (FieldIn.tail (FieldIn.tail (FieldIn.tail (FieldIn.tail (FieldIn.tail (FieldIn.tail (FieldIn.tail (FieldIn.tail (FieldIn.tail (FieldIn.tail (FieldIn.tail (by assumption)))))))))))))
local macro_rules | `(tactic| k_mem) => `(tactic| first | assumption | exact List.Mem.head _ | (refine' List.Mem.tail _ ?_; k_mem))
local macro_rules | `(tactic| walk_at "subscriptTail") => `(tactic| (k_here; (with_reducible show wpAny _ _ (subscriptTail _ _ (Value.ref _) (Value.int 0 _)) _ _ _); k_dflt (refine' fld_0 ?k1 ?k2 ?_ ?k4; (case k1 => k_asm); (case k2 => walk_at "fld_in"); (case k4 => with_unfolding_all rfl); k_whole)))
local macro_rules | `(tactic| walk_at "subscriptTail Name Constant ref int") => `(tactic| (k_here; (with_reducible show wpAny _ _ (subscriptTail _ _ (Value.ref _) (Value.int 0 _)) _ _ _); k_dflt (refine' fld_0 ?k1 ?k2 ?_ ?k4; (case k1 => k_asm); (case k2 => walk_at "fld_in"); (case k4 => with_unfolding_all rfl); k_whole)))
local macro_rules | `(tactic| walk_at "subscriptTail") => `(tactic| (k_here; (with_reducible show wpAny _ _ (subscriptTail _ _ (Value.ref _) (Value.int 1 _)) _ _ _); k_dflt (refine' fld_1 ?k1 ?k2 ?_ ?k4; (case k1 => k_asm); (case k2 => walk_at "fld_in"); (case k4 => with_unfolding_all rfl); k_whole)))
local macro_rules | `(tactic| walk_at "subscriptTail Name Constant ref int") => `(tactic| (k_here; (with_reducible show wpAny _ _ (subscriptTail _ _ (Value.ref _) (Value.int 1 _)) _ _ _); k_dflt (refine' fld_1 ?k1 ?k2 ?_ ?k4; (case k1 => k_asm); (case k2 => walk_at "fld_in"); (case k4 => with_unfolding_all rfl); k_whole)))
local macro_rules | `(tactic| walk_at "subscriptTail") => `(tactic| (k_here; (with_reducible show wpAny _ _ (subscriptTail _ _ (Value.ref _) (Value.int _ _)) _ _ _); k_dflt (refine' fld_pow ?k1 ?k2 ?k5 ?k6 ?_ ?k4; (case k1 => k_asm); (case k2 => walk_at "fld_in"); (case k5 => first | omega | exact (fmod255 _).1); (case k6 => first | omega | exact (fmod255 _).2); (case k4 => with_unfolding_all rfl); k_whole); intro _))
local macro_rules | `(tactic| walk_at "subscriptTail Subscript Name Constant BinOp ref int") => `(tactic| (k_here; (with_reducible show wpAny _ _ (subscriptTail _ _ (Value.ref _) (Value.int _ _)) _ _ _); k_dflt (refine' fld_pow ?k1 ?k2 ?k5 ?k6 ?_ ?k4; (case k1 => k_asm); (case k2 => walk_at "fld_in"); (case k5 => first | omega | exact (fmod255 _).1); (case k6 => first | omega | exact (fmod255 _).2); (case k4 => with_unfolding_all rfl); k_whole); intro _))
local macro_rules | `(tactic| walk_at "subscriptTail Subscript Name Constant Name ref int") => `(tactic| (k_here; (with_reducible show wpAny _ _ (subscriptTail _ _ (Value.ref _) (Value.int _ _)) _ _ _); k_dflt (refine' fld_pow ?k1 ?k2 ?k5 ?k6 ?_ ?k4; (case k1 => k_asm); (case k2 => walk_at "fld_in"); (case k5 => first | omega | exact (fmod255 _).1); (case k6 => first | omega | exact (fmod255 _).2); (case k4 => with_unfolding_all rfl); k_whole); intro _))
local macro_rules | `(tactic| walk_at "subscriptTail Subscript Name Constant Subscript ref int") => `(tactic| (k_here; (with_reducible show wpAny _ _ (subscriptTail _ _ (Value.ref _) (Value.int _ _)) _ _ _); k_dflt (refine' fld_pow ?k1 ?k2 ?k5 ?k6 ?_ ?k4; (case k1 => k_asm); (case k2 => walk_at "fld_in"); (case k5 => first | omega | exact (fmod255 _).1); (case k6 => first | omega | exact (fmod255 _).2); (case k4 => with_unfolding_all rfl); k_whole); intro _))
local macro_rules | `(tactic| walk_at "subscriptTail") => `(tactic| (k_here; (with_reducible show wpAny _ _ (subscriptTail _ _ (Value.ref _) (Value.int _ _)) _ _ _); k_dflt (refine' fld_log ?k1 ?k2 ?k5 ?k6 ?_ ?k4; (case k1 => k_asm); (case k2 => walk_at "fld_in"); (case k5 => walk_at "ints"); (case k6 => walk_at "ints"); (case k4 => with_unfolding_all rfl); k_whole); intro _))
local macro_rules | `(tactic| walk_at "subscriptTail Subscript Name Constant BinOp ref int") => `(tactic| (k_here; (with_reducible show wpAny _ _ (subscriptTail _ _ (Value.ref _) (Value.int _ _)) _ _ _); k_dflt (refine' fld_log ?k1 ?k2 ?k5 ?k6 ?_ ?k4; (case k1 => k_asm); (case k2 => walk_at "fld_in"); (case k5 => walk_at "ints"); (case k6 => walk_at "ints"); (case k4 => with_unfolding_all rfl); k_whole); intro _))
local macro_rules | `(tactic| walk_at "subscriptTail Subscript Name Constant Name ref int") => `(tactic| (k_here; (with_reducible show wpAny _ _ (subscriptTail _ _ (Value.ref _) (Value.int _ _)) _ _ _); k_dflt (refine' fld_log ?k1 ?k2 ?k5 ?k6 ?_ ?k4; (case k1 => k_asm); (case k2 => walk_at "fld_in"); (case k5 => walk_at "ints"); (case k6 => walk_at "ints"); (case k4 => with_unfolding_all rfl); k_whole); intro _))
local macro_rules | `(tactic| walk_at "subscriptTail Subscript Name Constant Subscript ref int") => `(tactic| (k_here; (with_reducible show wpAny _ _ (subscriptTail _ _ (Value.ref _) (Value.int _ _)) _ _ _); k_dflt (refine' fld_log ?k1 ?k2 ?k5 ?k6 ?_ ?k4; (case k1 => k_asm); (case k2 => walk_at "fld_in"); (case k5 => walk_at "ints"); (case k6 => walk_at "ints"); (case k4 => with_unfolding_all rfl); k_whole); intro _))

local macro_rules | `(tactic| walk_at "pyIter ref") => `(tactic| ((with_reducible show wpAny _ _ (pyIter (Value.ref _)) (fun it s₂ => LoopAtV _ _ _ _ _ _ _ _ _ it s₂) _ _); refine Stopped.out ?_))
local macro_rules | `(tactic| walk_at "exec For Name Call cons nil") => `(tactic| (k_here; (rename Fr _ _ _ _ => lF'); (with_unfolding_all refine' For_invVF lF' ?k1 ?k2 ?_; (case k1 => exact rfl); (case k2 => exact rfl); k_whole)))
local macro_rules | `(tactic| walk_at "exec For Name Name cons nil") => `(tactic| (k_here; (rename Fr _ _ _ _ => lF'); (with_unfolding_all refine' For_invVF lF' ?k1 ?k2 ?_; (case k1 => exact rfl); (case k2 => exact rfl); k_whole)))
local macro_rules | `(tactic| walk_at "call type:range") => `(tactic| (k_here; (with_reducible show wpAny _ _ (call (Value.type "range") [Value.int _ _]) _ _ _); k_dflt (refine' range1_K ?k1 ?k2 ?_; (case k1 => k_asm); (case k2 => k_asm); k_whole); intro r' h' u' v' tk' F' N' R'; (try k_sweep)))
local macro_rules | `(tactic| walk_at "call type:range") => `(tactic| (k_here; (with_reducible show wpAny _ _ (call (Value.type "range") [Value.int _ _, Value.int _ _]) _ _ _); k_dflt (refine' range2_K ?k1 ?k2 ?_; (case k1 => k_asm); (case k2 => k_asm); k_whole); intro r' h' v' tk' F' N' R'; (try k_sweep)))
local macro_rules | `(tactic| walk_at "room") => `(tactic| first | assumption | omega | ((simp only [depth_in1, depth_deeper, units_in1, units_deeper, Around.mark_units]); omega))

local macro_rules | `(tactic| is_list) => `(tactic| (refine' isList_of ?a ?b; (case a => k_asm); (case b => k_mem)))
local macro_rules | `(tactic| walk_at "call builtin:len") => `(tactic| (k_here; (with_reducible show wpAny _ _ (call (Value.builtin "len") [Value.ref _]) _ _ _); k_dflt (refine' len_L ?k2 ?k3 ?k4 ?_; (case k2 => k_asm); (case k3 => k_mem); (case k4 => walk_at "lens"); k_whole); intro t' tk'; (try k_sweep)))
local macro_rules | `(tactic| walk_at "binaryOp Add ref ref") => `(tactic| (k_here; (with_reducible show wpAny _ _ (binaryOp Operator.Add (Value.ref _) (Value.ref _)) _ _ _); k_dflt (refine' add_L ?k1 ?k2 ?k3 ?k4 ?k5 ?_; (case k1 => k_asm); (case k2 => k_asm); (case k3 => k_mem); (case k4 => k_mem); (case k5 => walk_at "lens"); k_whole); intro r' h' F' N' hl'; (have hl2' := hl'); (try k_lt hl2'); (try k_sweep)))

local macro_rules | `(tactic| walk_at "sub") => `(tactic| first | (refine' List.forall_mem_cons.mpr ⟨?a, ?b⟩; (case a => k_mem); (case b => walk_at "sub")) | (intro p hp; k_mem))

local macro_rules | `(tactic| walk_at "keep") => `(tactic| first | exact keep_base | exact keep_refl | (refine keep_x ?_; walk_at "keep") | (refine keep_upd (by decide) ?_; walk_at "keep") | (refine keep_in (by decide) ?_; walk_at "keep"))

local macro_rules | `(tactic| walk_at "CompSrc") => `(tactic| refine Stopped.out ?_)
local macro_rules | `(tactic| walk_at "my_enterC") => `(tactic| (refine wpAny_call ?_; k_dflt (refine' code_defC ?k1 ?k2 ?k3 ?k4 ?k5 ?kA ?kF ?kK ?k6 ?k7 ?k8 ?k9 ?kB ?kD ?_ ?c2 ?c3 ?c4; (case kA => exact rfl); (case kF => assumption); (case kK => assumption); (case k1 => k_asm); (case k2 => k_asm); (case k3 => k_asm); (case k4 => k_asm); (case k5 => k_asm); (case k6 => k_is); (case k7 => k_is); (case k8 => walk_at "room"); (case k9 => exact BindsTo.of_eq rfl); (case kB => exact rfl); (case kD => decide +kernel); (case c2 => exact rfl); (case c3 => exact rfl); (case c4 => exact rfl); k_whole; intro g' L' h' tk' cells' FG' F' N' Y' B' X' T' l1; k_cells Y'; (try simp only [List.cons_append, List.nil_append] at N'); (try dsimp only); (try k_fold))))

local macro_rules | `(tactic| walk_at "subscriptTail Name Slice ref ref") => `(tactic| (k_here; (with_reducible show wpAny _ _ (subscriptTail _ (PySem.Expr.Slice _ _ _ _) (Value.ref _) (Value.ref _)) _ _ _); k_dflt (refine' slice_LI ?zF ?zN ?zl ?zi ?zp ?zq ?zk ?zo ?zz ?_ ?zs; (case zF => k_asm); (case zN => k_asm); (case zl => k_mem); (case zi => assumption); (case zp => kmk_part); (case zq => kmk_part); (case zk => kmk_part); (case zo => decide); (case zz => walk_at "lens"); (case zs => with_unfolding_all rfl)); intro D' ws' h' F' N' l1 hI' hL'; (have l2' := l1); (try k_lt l2'); (try k_sweep)))
local macro_rules | `(tactic| walk_at "subscriptTail ListComp Slice ref ref") => `(tactic| (k_here; (with_reducible show wpAny _ _ (subscriptTail _ (PySem.Expr.Slice _ _ _ _) (Value.ref _) (Value.ref _)) _ _ _); k_dflt (refine' slice_LI ?zF ?zN ?zl ?zi ?zp ?zq ?zk ?zo ?zz ?_ ?zs; (case zF => k_asm); (case zN => k_asm); (case zl => k_mem); (case zi => assumption); (case zp => kmk_part); (case zq => kmk_part); (case zk => kmk_part); (case zo => decide); (case zz => walk_at "lens"); (case zs => with_unfolding_all rfl)); intro D' ws' h' F' N' l1 hI' hL'; (have l2' := l1); (try k_lt l2'); (try k_sweep)))
local macro_rules | `(tactic| walk_at "subscriptTail Subscript Slice ref ref") => `(tactic| (k_here; (with_reducible show wpAny _ _ (subscriptTail _ (PySem.Expr.Slice _ _ _ _) (Value.ref _) (Value.ref _)) _ _ _); k_dflt (refine' slice_LI ?zF ?zN ?zl ?zi ?zp ?zq ?zk ?zo ?zz ?_ ?zs; (case zF => k_asm); (case zN => k_asm); (case zl => k_mem); (case zi => assumption); (case zp => kmk_part); (case zq => kmk_part); (case zk => kmk_part); (case zo => decide); (case zz => walk_at "lens"); (case zs => with_unfolding_all rfl)); intro D' ws' h' F' N' l1 hI' hL'; (have l2' := l1); (try k_lt l2'); (try k_sweep)))
local macro_rules | `(tactic| walk_at "subscriptTail Attribute Slice ref ref") => `(tactic| (k_here; (with_reducible show wpAny _ _ (subscriptTail _ (PySem.Expr.Slice _ _ _ _) (Value.ref _) (Value.ref _)) _ _ _); k_dflt (refine' slice_LI ?zF ?zN ?zl ?zi ?zp ?zq ?zk ?zo ?zz ?_ ?zs; (case zF => k_asm); (case zN => k_asm); (case zl => k_mem); (case zi => assumption); (case zp => kmk_part); (case zq => kmk_part); (case zk => kmk_part); (case zo => decide); (case zz => walk_at "lens"); (case zs => with_unfolding_all rfl)); intro D' ws' h' F' N' l1 hI' hL'; (have l2' := l1); (try k_lt l2'); (try k_sweep)))
local macro_rules | `(tactic| walk_at "subscriptTail Name Name ref ref") => `(tactic| (k_here; (with_reducible show wpAny _ _ (subscriptTail _ _ (Value.ref _) (Value.ref _)) _ _ _); k_dflt (refine' slice_LI ?zF ?zN ?zl ?zi ?zp ?zq ?zk ?zo ?zz ?_ ?zs; (case zF => k_asm); (case zN => k_asm); (case zl => k_mem); (case zi => assumption); (case zp => kmk_part); (case zq => kmk_part); (case zk => kmk_part); (case zo => decide); (case zz => walk_at "lens"); (case zs => with_unfolding_all rfl)); intro D' ws' h' F' N' l1 hI' hL'; (have l2' := l1); (try k_lt l2'); (try k_sweep)))
local macro_rules | `(tactic| walk_at "subscriptTail Attribute Name ref ref") => `(tactic| (k_here; (with_reducible show wpAny _ _ (subscriptTail _ _ (Value.ref _) (Value.ref _)) _ _ _); k_dflt (refine' slice_LI ?zF ?zN ?zl ?zi ?zp ?zq ?zk ?zo ?zz ?_ ?zs; (case zF => k_asm); (case zN => k_asm); (case zl => k_mem); (case zi => assumption); (case zp => kmk_part); (case zq => kmk_part); (case zk => kmk_part); (case zo => decide); (case zz => walk_at "lens"); (case zs => with_unfolding_all rfl)); intro D' ws' h' F' N' l1 hI' hL'; (have l2' := l1); (try k_lt l2'); (try k_sweep)))

variable {w : World} {mean : ExcName → Option Value} {mg mb : Str → Option Value} {dp un : Nat} {gd : Option (List Code)} {A₀ : Around} {base h₀ : Heap} {env : Env} {outer : List Env} {L : Addr} {m : Str → Option Value} {s : Shared} {Q E : Value → Shared → Prop}
local macro_rules | `(tactic| walk_at "call builtin:list.append") => `(tactic| (k_here; (with_reducible show wpAny _ _ (call (Value.builtin "list.append") [Value.ref _, Value.int _ _]) _ _ _); k_dflt (refine' append_LI ?k1 ?k2 ?k3 ?k4 ?k5 ?_; (case k1 => k_asm); (case k2 => k_asm); (case k3 => k_upd); (case k4 => walk_at "lens"); (case k5 => assumption); k_whole); intro h' F' N' hI'; (try k_sweep)))
local macro_rules | `(tactic| walk_at "subscriptTail Name Slice ref ref") => `(tactic| (k_here; (with_reducible show wpAny _ _ (subscriptTail _ (PySem.Expr.Slice _ _ none _) (Value.ref _) (Value.ref _)) _ _ _); k_dflt (refine' slice_LJ ?zF ?zN ?zl ?zi ?zp ?zq ?zz ?_ ?zs ?zt; (case zF => k_asm); (case zN => k_asm); (case zl => k_mem); (case zi => assumption); (case zp => kmk_part); (case zq => kmk_part); (case zz => walk_at "lens"); (case zs => with_unfolding_all rfl); (case zt => kmk_pure)); intro D' ws' h' F' N' l1 hI' hL'; (have l2' := l1); (try k_lt l2'); (try k_sweep)))
local macro_rules | `(tactic| walk_at "subscriptTail ListComp Slice ref ref") => `(tactic| (k_here; (with_reducible show wpAny _ _ (subscriptTail _ (PySem.Expr.Slice _ _ none _) (Value.ref _) (Value.ref _)) _ _ _); k_dflt (refine' slice_LJ ?zF ?zN ?zl ?zi ?zp ?zq ?zz ?_ ?zs ?zt; (case zF => k_asm); (case zN => k_asm); (case zl => k_mem); (case zi => assumption); (case zp => kmk_part); (case zq => kmk_part); (case zz => walk_at "lens"); (case zs => with_unfolding_all rfl); (case zt => kmk_pure)); intro D' ws' h' F' N' l1 hI' hL'; (have l2' := l1); (try k_lt l2'); (try k_sweep)))
local macro_rules | `(tactic| walk_at "subscriptTail Subscript Slice ref ref") => `(tactic| (k_here; (with_reducible show wpAny _ _ (subscriptTail _ (PySem.Expr.Slice _ _ none _) (Value.ref _) (Value.ref _)) _ _ _); k_dflt (refine' slice_LJ ?zF ?zN ?zl ?zi ?zp ?zq ?zz ?_ ?zs ?zt; (case zF => k_asm); (case zN => k_asm); (case zl => k_mem); (case zi => assumption); (case zp => kmk_part); (case zq => kmk_part); (case zz => walk_at "lens"); (case zs => with_unfolding_all rfl); (case zt => kmk_pure)); intro D' ws' h' F' N' l1 hI' hL'; (have l2' := l1); (try k_lt l2'); (try k_sweep)))
local macro_rules | `(tactic| walk_at "subscriptTail Attribute Slice ref ref") => `(tactic| (k_here; (with_reducible show wpAny _ _ (subscriptTail _ (PySem.Expr.Slice _ _ none _) (Value.ref _) (Value.ref _)) _ _ _); k_dflt (refine' slice_LJ ?zF ?zN ?zl ?zi ?zp ?zq ?zz ?_ ?zs ?zt; (case zF => k_asm); (case zN => k_asm); (case zl => k_mem); (case zi => assumption); (case zp => kmk_part); (case zq => kmk_part); (case zz => walk_at "lens"); (case zs => with_unfolding_all rfl); (case zt => kmk_pure)); intro D' ws' h' F' N' l1 hI' hL'; (have l2' := l1); (try k_lt l2'); (try k_sweep)))
local macro_rules | `(tactic| walk_at "lens") => `(tactic| first | assumption | omega | (simp only [List.flatten_replicate_singleton, List.length_append, List.length_cons, List.length_nil, List.length_map, List.length_range, List.length_replicate, List.length_set]; omega))
local macro_rules | `(tactic| walk_at "sub") => `(tactic| first | exact List.forall_mem_nil _ | (refine' List.forall_mem_cons.mpr ⟨?a, ?b⟩; (case a => k_mem); (case b => walk_at "sub")) | (intro p hp; k_mem))


local macro_rules | `(tactic| walk_at "rngs") => `(tactic| first | assumption | exact mulZ_rng.1 | exact mulZ_rng.2 | exact divZ_rng.1 | exact divZ_rng.2 | exact rng_lo (by assumption) | exact rng_hi (by assumption) | omega | exact (by assumption : _ → _ ∨ _) (by assumption))
local macro_rules | `(tactic| walk_at "call ref") => `(tactic| ((with_reducible show wpAny _ _ (call (Value.ref 285) _) _ _ _); refine Stopped.out ?_))
local macro_rules | `(tactic| walk_at "call ref") => `(tactic| ((with_reducible show wpAny _ _ (call (Value.ref 292) _) _ _ _); refine Stopped.out ?_))
local macro_rules | `(tactic| walk_at "call ref") => `(tactic| ((with_reducible show wpAny _ _ (call (Value.ref 299) _) _ _ _); refine Stopped.out ?_))
local macro_rules | `(tactic| walk_at "call ref") => `(tactic| ((with_reducible show wpAny _ _ (call (Value.ref 306) _) _ _ _); refine Stopped.out ?_))
local macro_rules | `(tactic| walk_at "call ref") => `(tactic| ((with_reducible show wpAny _ _ (call (Value.ref 313) _) _ _ _); refine Stopped.out ?_))
local macro_rules | `(tactic| walk_at "call ref") => `(tactic| ((with_reducible show wpAny _ _ (call (Value.ref 320) _) _ _ _); refine Stopped.out ?_))
local macro_rules | `(tactic| walk_at "call ref") => `(tactic| ((with_reducible show wpAny _ _ (call (Value.ref 325) _) _ _ _); refine Stopped.out ?_))
local macro_rules | `(tactic| walk_at "call ref") => `(tactic| ((with_reducible show wpAny _ _ (call (Value.ref 330) _) _ _ _); refine Stopped.out ?_))
local macro_rules | `(tactic| walk_at "call ref") => `(tactic| ((with_reducible show wpAny _ _ (call (Value.ref 278) _) _ _ _); refine Stopped.out ?_))
local macro_rules | `(tactic| walk_at "call ref") => `(tactic| ((with_reducible show wpAny _ _ (call (Value.ref 252) _) _ _ _); refine Stopped.out ?_))
local macro_rules | `(tactic| walk_at "call ref") => `(tactic| ((with_reducible show wpAny _ _ (call (Value.ref 266) _) _ _ _); refine Stopped.out ?_))
local macro_rules | `(tactic| walk_at "call ref") => `(tactic| ((with_reducible show wpAny _ _ (call (Value.ref 144) _) _ _ _); refine Stopped.out ?_))
local macro_rules | `(tactic| walk_at "call ref") => `(tactic| ((with_reducible show wpAny _ _ (call (Value.ref 216) _) _ _ _); refine Stopped.out ?_))
local macro_rules | `(tactic| walk_at "call ref") => `(tactic| ((with_reducible show wpAny _ _ (call (Value.ref 136) _) _ _ _); refine Stopped.out ?_))
local macro_rules | `(tactic| walk_at "call ref") => `(tactic| ((with_reducible show wpAny _ _ (call (Value.ref 141) _) _ _ _); refine Stopped.out ?_))
local macro_rules | `(tactic| walk_at "call ref") => `(tactic| (k_here; (with_reducible show wpAny _ _ (call (Value.ref 292) _) _ _ _); k_dflt (refine' field_call ?k1 ?k2 ?k3 ?k4 ?k5 ?k7 ?k8 ?ka ?kb ?_; (case k1 => k_asm); (case k2 => k_asm); (case k3 => k_asm); (case k4 => k_asm); (case k5 => k_asm); (case k7 => exact rfl); (case k8 => exact rfl); (case ka => walk_at "room"); (case kb => walk_at "room"); k_whole); intro h9 tk9 fa9 pa9 la9 x9 y9 z9 F9 N9 H9 hl9 hl8 hl7; (have hl92 := hl9); (try k_lt hl92); (have hl82 := hl8); (try k_lt hl82); (have hl72 := hl7); (try k_lt hl72); (try k_sweep)))
local macro_rules | `(tactic| walk_at "call ref") => `(tactic| (k_here; (with_reducible show wpAny _ _ (call (Value.ref 285) _) _ _ _); k_dflt (refine' next_callU ?k1 ?k2 ?k3 ?k4 ?k5 ?k7 ?k8 ?ka ?kb ?q0 ?q1 ?q2 ?q3 ?q4 ?q5 ?q6 ?q7 ?_; (case k1 => k_asm); (case k2 => k_asm); (case k3 => k_asm); (case k4 => k_asm); (case k5 => k_asm); (case k7 => exact rfl); (case k8 => exact rfl); (case ka => walk_at "room"); (case kb => walk_at "room"); (case q0 => k_updF); (case q1 => k_mem); (case q2 => assumption); (case q3 => omega); (case q4 => omega); (case q5 => omega); (case q6 => omega); (case q7 => omega); k_whole); intro t9 t8 t7 h9 tk9 x9 p9 s9 X9 Y9 P9 R9 F9 N9; (try dsimp only at N9); (try k_sweep); (try k_sweep)))
local macro_rules | `(tactic| walk_at "call ref") => `(tactic| (k_here; (with_reducible show wpAny _ _ (call (Value.ref 216) _) _ _ _); k_dflt (refine' rs_call ?k1 ?k2 ?k3 ?k4 ?k5 ?k7 ?k8 ?ka ?kb ?_; (case k1 => k_asm); (case k2 => k_asm); (case k3 => k_asm); (case k4 => k_asm); (case k5 => k_asm); (case k7 => exact rfl); (case k8 => exact rfl); (case ka => walk_at "room"); (case kb => walk_at "room"); k_whole); intro h9 tk9 x9 dx9 F9 N9 l9 l8; (have l92 := l9); (try k_lt l92); (have l82 := l8); (try k_lt l82); (try k_sweep)))
local macro_rules | `(tactic| walk_at "call ref") => `(tactic| (k_here; (with_reducible show wpAny _ _ (call (Value.ref 269) _) _ _ _); k_dflt (refine' bit_call ?k1 ?k2 ?k3 ?k4 ?k5 ?k7 ?k8 ?ka ?kb ?_; (case k1 => k_asm); (case k2 => k_asm); (case k3 => k_asm); (case k4 => k_asm); (case k5 => k_asm); (case k7 => exact rfl); (case k8 => exact rfl); (case ka => walk_at "room"); (case kb => walk_at "room"); k_whole); intro h9 tk9 x9 dx9 b9 k9 k8 tl9 F9 N9 l9 l8 l7 d9 d8; (have l92 := l9); (try k_lt l92); (have l82 := l8); (try k_lt l82); (have l72 := l7); (try k_lt l72); (try k_sweep)))

theorem caller_AA : ∃ (d u : Nat) (g : Option (List Code)), (∀ env : Env, callerA.deeper env = AA d u g env []) ∧ d + 100 < recursionLimit ∧ u + 1000 < cLine :=
  ⟨_, _, _, fun env => rfl, by decide +kernel, by decide +kernel⟩
local macro_rules | `(tactic| walk_at "subscriptTail Name Name ref int") => `(tactic| (k_here; (with_reducible show wpAny _ _ (subscriptTail _ _ (Value.ref _) (Value.int _ _)) _ _ _); k_dflt (refine' item_V ?zN ?zl ?zx ?z0 ?zz ?_ ?zs; (case zN => k_asm); (case zl => k_mem); (case zx => assumption); (case z0 => omega); (case zz => omega); (case zs => with_unfolding_all rfl); k_whole)))
local macro_rules | `(tactic| walk_at "subscriptTail Subscript Slice ref ref") => `(tactic| (k_here; (with_reducible show wpAny _ _ (subscriptTail (PySem.Expr.Subscript _ _ _) (PySem.Expr.Slice _ _ none _) _ _) _ _ _); k_dflt (refine kba_turn (value' := PySem.Expr.Name (PySem.Str.ofString "_") ⟨0, 0, 0, 0⟩) (fun _ => rfl) ?_)))
local macro_rules | `(tactic| walk_at "subscriptTail") => `(tactic| (k_here; (with_reducible show wpAny _ _ (subscriptTail (PySem.Expr.Subscript _ _ _) (PySem.Expr.Slice _ _ none _) _ _) _ _ _); k_dflt (refine kba_turn (value' := PySem.Expr.Name (PySem.Str.ofString "_") ⟨0, 0, 0, 0⟩) (fun _ => rfl) ?_)))
theorem ecZ_rng {e : Nat} {r : List Int} (he : okE e = true) (hr : ∀ k ∈ r, rng k) (hn : ∃ k ∈ r, k ≠ 0) : ∀ k ∈ ecZ e r, rng k := by
  have hm : ∀ k ∈ modM e r, rng k := by
    unfold modM
    have key : ∀ (f : Nat) {as : List Int}, (∀ k ∈ as, rng k) → ∀ k ∈ modP f as (genP e), rng k := by
      intro f
      induction f with
      | zero => intro as h; exact h
      | succ f ih =>
        intro as h
        unfold modP
        split
        · exact h
        · exact ih (polyZ_rng (modStep_rng h))
    exact key 15 (polyZ_facts hr hn).1
  intro k hk
  unfold ecZ ecs at hk
  obtain ⟨i, _, rfl⟩ := List.mem_map.mp hk
  split
  · exact getD_rng hm _
  · exact rng0
def Ap (st x dx b a : Addr) : Prop := a ≠ st ∧ a ≠ x ∧ a ≠ dx ∧ a ≠ b
set_option maxHeartbeats 3000000 in
theorem law_holds : Challenge.rw_bj0062_01.Holds := hd (by
  k_go0
  obtain ⟨dd, uu, gg, hAA, hdd, huu⟩ := caller_AA
  rw [hAA]
  clear hAA
  (all_goals try k_fold)
  walk_at "my_steps"
  refine ⟨?_⟩
  rename IsRange _ _ _ _ _ _ _ _ => R1
  rename Fr _ _ _ _ => F1
  rename News _ _ _ _ => N1
  rename_i sl ws h16 hI hC hL l16 st h15 l15 h14 o1 d1 tk1 l2 h13 Fo No l14 t9a t8a t7a h9a tk9a x9a p9a s9a Xa Ya Pa Ra ta t9b t8b t7b h9b tk9b x9b p9b s9b Xb Yb Pb Rb D1 h12 l13 h11 h10 o2 d2 h9_ tk2 h9c tk9c fa pa la ox oy oz HF hl9 hl8 hl7 hl92 hl82 hl72 h9d tk9d x dx b k9 k8 tl9 l9 l8 l7 d9 d8 l92 l82 l72 RA h8_ lRA BA h7_ lBA D2 h6_ lD2 h5 h4 h3 h2 h1 t9c t8c t7c h9e tk9e x9c p9c s9c Xc Yc Pc Rc r6 h6b u6 v6 tk6
  clear Fo No
  rename Shared => s1
  rename World => w
  rename List Int => sc
  obtain ⟨e, he, hE⟩ := ends_ok Xa Ya
  have c2 : o2.data = .cell (some (.int (e : Int) ta)) := by rw [← hE]; exact d2
  clear d2
  have hsx : @Ne Nat st x := Nat.ne_of_lt (by omega)
  have hsd : @Ne Nat st dx := Nat.ne_of_lt (by omega)
  have hsb : @Ne Nat st b := Nat.ne_of_lt (by omega)
  have hxd : @Ne Nat x dx := Ne.symm (Nat.ne_of_lt d9)
  have hxb : @Ne Nat x b := Nat.ne_of_lt d8
  have hdb : @Ne Nat dx b := Nat.ne_of_lt (Nat.lt_trans d9 d8)
  have hAR : Ap st x dx b RA := ⟨neN (by omega), neN (by omega), neN (by omega), neN (by omega)⟩
  have hAB : Ap st x dx b BA := ⟨neN (by omega), neN (by omega), neN (by omega), neN (by omega)⟩
  have N2 := news_sub (news' := (st, stObj sl p9c t8c s9c t7c 0) :: (RA, W.listOf (List.toArray []) 0) :: (BA, W.listOf (List.toArray []) 0) :: (x, instObj 269 dx) :: (dx, bufObj w k9 k8 tl9 0 b) :: (b, W.listOf (List.toArray []) 0) :: ([] ++ [(fa, ox), (la, oy), (pa, oz), (sl, W.listOf ws.toArray 0), (s1.heap.objs.size + 1 + 1, o2), (s1.heap.objs.size + 1, o1)])) N1 (by walk_at "sub")
  have hFt : FieldIn w [(fa, ox), (la, oy), (pa, oz), (sl, W.listOf ws.toArray 0), (s1.heap.objs.size + 1 + 1, o2), (s1.heap.objs.size + 1, o1)] fa pa la := HF.mono (by walk_at "sub")
  have hmsl : (sl, W.listOf ws.toArray 0) ∈ [(fa, ox), (la, oy), (pa, oz), (sl, W.listOf ws.toArray 0), (s1.heap.objs.size + 1 + 1, o2), (s1.heap.objs.size + 1, o1)] := by k_mem
  have hm2 : (s1.heap.objs.size + 1 + 1, o2) ∈ [(fa, ox), (la, oy), (pa, oz), (sl, W.listOf ws.toArray 0), (s1.heap.objs.size + 1 + 1, o2), (s1.heap.objs.size + 1, o1)] := .tail _ (.tail _ (.tail _ (.tail _ (.head _))))
  have hm1 : (s1.heap.objs.size + 1, o1) ∈ [(fa, ox), (la, oy), (pa, oz), (sl, W.listOf ws.toArray 0), (s1.heap.objs.size + 1 + 1, o2), (s1.heap.objs.size + 1, o1)] := .tail _ (.tail _ (.tail _ (.tail _ (.tail _ (.head _)))))
  have hAt : ∀ p ∈ [(fa, ox), (la, oy), (pa, oz), (sl, W.listOf ws.toArray 0), (s1.heap.objs.size + 1 + 1, o2), (s1.heap.objs.size + 1, o1)], Ap st x dx b p.1 := by
    intro p hp
    simp only [List.mem_cons, List.not_mem_nil, or_false] at hp
    rcases hp with rfl | rfl | rfl | rfl | rfl | rfl <;> exact ⟨neN (by dsimp only; omega), neN (by dsimp only; omega), neN (by dsimp only; omega), neN (by dsimp only; omega)⟩
  have hns : (List.take 60 sc).length ≤ 60 := by rw [List.length_take]; exact Nat.min_le_left _ _
  generalize [(fa, ox), (la, oy), (pa, oz), (sl, W.listOf ws.toArray 0), (s1.heap.objs.size + 1 + 1, o2), (s1.heap.objs.size + 1, o1)] = tl at *
  generalize List.take 60 sc = ns at *
  clear hl9 hl8 hl7 hl92 hl82 hl72 l9 l8 l7 l92 l82 l72 lRA lBA lD2 l13 l14 l15 l16
  refine range_loopC (1 + x9c).toNat ["row", "rows", "blocks", "zz"] (fun i u nx => ∃ RA BA vr vb nr nb own rs p sd t1 t2, nx = (st, stObj sl p t1 sd t2 0) :: (RA, W.listOf vr.toArray nr) :: (BA, W.listOf vb.toArray nb) :: (x, instObj 269 dx) :: (dx, bufObj w k9 k8 tl9 0 b) :: (b, W.listOf (List.toArray []) 0) :: (own ++ tl) ∧
      RowsIn own vr rs ∧ BlkIn own e vb rs ∧ rs.length = i ∧ (∀ r ∈ rs, 1 ≤ r.length ∧ r.length ≤ 5 ∧ (∀ k ∈ r, rng k) ∧ ∃ k ∈ r, k ≠ 0) ∧ (∀ q ∈ own, Ap st x dx b q.1) ∧ Ap st x dx b RA ∧ Ap st x dx b BA ∧ 0 ≤ p ∧ p ≤ ns.length ∧ u "rows" = some (.ref RA) ∧ u "blocks" = some (.ref BA))
    rfl R1 (by omega) (by decide) (by decide) (by omega) (by omega) F1 N2 ⟨RA, BA, [], [], 0, 0, [], [], p9c, s9c, t8c, t7c, rfl, .nil, .nil, rfl, (fun r hr => nomatch hr), (fun r hr => nomatch hr), hAR, hAB, Pc, Rc, rfl, rfl⟩ ?_ ?_
  · rintro i k t I u nx h tk oi hi1 hkk hnx ⟨RA, BA, vr, vb, nr, nb, own, rs, p, sd, t1, t2, rfl, hR, hB, hrs, hok, hown, hRA, hBA, hp0, hp1, e1, e2⟩ F₁ N₁
    replace F₁ := frx (a := "rows") (frx (a := "blocks") F₁ (by exact e2)) (by exact e1)
    have hI0 : st ≠ I := (List.forall_mem_cons.mp hnx).1
    have hvr : vr.length = i := by rw [hR.length, hrs]
    have hvb : vb.length = i := by rw [hB.length, hrs]
    have hRA0 := hRA.1
    have hBA0 := hBA.1
    have hw : ∀ q ∈ own ++ tl, Ap st x dx b q.1 := by
      intro q hq
      rcases List.mem_append.mp hq with hq | hq
      · exact hown q hq
      · exact hAt q hq
    have hw0 : ∀ q ∈ own ++ tl, q.1 ≠ st := fun q hq => (hw q hq).1
    have hs1 : ∀ q ∈ tl, q ∈ own ++ tl := fun q hq => List.mem_append_right _ hq
    have hs2 : ∀ q ∈ own, q ∈ own ++ tl := fun q hq => List.mem_append_left _ hq
    have hm1' := hs1 _ hm1
    have hm2' := hs1 _ hm2
    have hmsl' := hs1 _ hmsl
    generalize own ++ tl = rs1 at *
    walk_at "my_steps"
    refine ⟨?_⟩
    rename IsRange _ _ _ _ _ _ _ _ => R₂
    rename Fr _ _ _ _ => F₂
    rename News _ _ _ _ => N₂
    rename_i t9d t8d t7d h9f tk9f xd pd sd2 Xd Yd Pd Rd r7 h7 u7 v7 tk7
    refine comp_range (1 + x9b + xd).toNat (fun j ys nx => ∃ js p sd t1 t2, nx = (I, oi) :: (st, stObj sl p t1 sd t2 0) :: (RA, W.listOf vr.toArray nr) :: (BA, W.listOf vb.toArray nb) :: (x, instObj 269 dx) :: (dx, bufObj w k9 k8 tl9 0 b) :: (b, W.listOf (List.toArray []) 0) :: rs1 ∧ IntsAre ys js ∧ js.length = j ∧ (∀ k ∈ js, rng k) ∧ 0 ≤ p ∧ p ≤ ns.length)
      rfl R₂ (by omega) (by decide) (by decide) (by omega) (by omega) F₂ N₂ ⟨[], pd, sd2, t8d, t7d, rfl, .nil, rfl, (fun k hk => nomatch hk), Pd, Rd⟩ ?_ ?_
    · rintro j k2 tt2 I2 oI C oC D m₂ ys nx h tk E' hj1 hkk2 ⟨js, p2, sd3, t3, t4, rfl, q1, q2, q3, q4, q5⟩ hC hx F₃ N₃ off ne
      have oo := off.mem (st, stObj sl p2 t3 sd3 t4 0) (.tail _ (.head _))
      have oo1 := oo.1
      have oo2 := oo.2.1
      have oo3 := oo.2.2
      walk_at "my_steps"
      rename Fr _ _ _ _ => F₆
      rename News _ _ _ _ => N₆
      rename_i t9e t8e t7e h9g tk9g xe pe sde Xe Ye Pe Re
      refine cend F₆ N₆ (by k_mem) (by k_mem) (by k_mem) (nx := (I, oi) :: (st, stObj sl pe t8e sde t7e 0) :: (RA, W.listOf vr.toArray nr) :: (BA, W.listOf vb.toArray nb) :: (x, instObj 269 dx) :: (dx, bufObj w k9 k8 tl9 0 b) :: (b, W.listOf (List.toArray []) 0) :: rs1) (by walk_at "sub") off ⟨js ++ [xe], pe, sde, t8e, t7e, rfl, ints_snoc q1, by rw [List.length_append, q2]; rfl, ?_, Pe, Re⟩
      intro k hk
      rcases List.mem_append.mp hk with hk | hk
      · exact q3 k hk
      · rw [List.mem_singleton.mp hk]; exact ⟨Xe, Ye⟩
    · rintro g ys nx ⟨js, p2, sd3, t3, t4, rfl, q1, q2, q3, q4, q5⟩ D h tk F₃ N₃ off
      have oD0 : st ≠ D := (off1_sub off fun q hq => hq) (st, stObj sl p2 t3 sd3 t4 0) (.tail _ (.head _))
      have hyl := q1.length
      walk_at "my_steps"
      all_goals
        rename Fr _ _ _ _ => F₆
        rename News _ _ _ _ => N₆
      · rename_i h61 M tM kM aM bM aP lD1 h51 qq1 rA h41 Fo1 No1 hla hlb h31 tk_ tA tkA tB tkB h91 tk91 xx dd9 l91 l81 l921 l821 lD3 h21 qq2 rB h11 hlc hld h01
        clear Fo1 No1
        have hDI : I ≠ D := (off1_sub off fun q hq => hq) (I, oi) (.head _)
        have hxD : x ≠ D := (off1_sub off fun q hq => hq) (x, instObj 269 dx) (.tail _ (.tail _ (.tail _ (.tail _ (.head _)))))
        have hdD : dx ≠ D := (off1_sub off fun q hq => hq) (dx, bufObj w k9 k8 tl9 0 b) (.tail _ (.tail _ (.tail _ (.tail _ (.tail _ (.head _))))))
        have hbD : b ≠ D := (off1_sub off fun q hq => hq) (b, W.listOf (List.toArray []) 0) (.tail _ (.tail _ (.tail _ (.tail _ (.tail _ (.tail _ (.head _)))))))
        have hjl : 1 ≤ js.length ∧ js.length ≤ 5 := by omega
        refine tpost_next F₆ N₆ (by k_mem) (nx := (st, stObj sl p2 t3 sd3 t4 0) :: (rA, W.listOf (vr ++ [Value.ref D]).toArray 0) :: (rB, W.listOf (vb ++ [Value.ref xx]).toArray 0) :: (x, instObj 269 dx) :: (dx, bufObj w k9 k8 tl9 0 b) :: (b, W.listOf (List.toArray []) 0) :: (((D, LCg.lst ys) :: (xx, rsObj dd9 ((ys.length : Int) + e) tkA (ys.length : Int) tB) :: (dd9, emptyDict) :: own) ++ tl)) ?_ ?_
          ⟨⟨rA, rB, vr ++ [Value.ref D], vb ++ [Value.ref xx], 0, 0, (D, LCg.lst ys) :: (xx, rsObj dd9 ((ys.length : Int) + e) tkA (ys.length : Int) tB) :: (dd9, emptyDict) :: own, rs ++ [js], p2, sd3, t3, t4, rfl, ?_, ?_, ?_, ?_, ?_, ?_, ?_, q4, q5, rfl, rfl⟩, by walk_at "keep"⟩
        · refine List.forall_mem_cons.mpr ⟨by k_mem, List.forall_mem_cons.mpr ⟨by k_mem, List.forall_mem_cons.mpr ⟨by k_mem, List.forall_mem_cons.mpr ⟨by k_mem, List.forall_mem_cons.mpr ⟨by k_mem, List.forall_mem_cons.mpr ⟨by k_mem, ?_⟩⟩⟩⟩⟩⟩
          refine List.forall_mem_cons.mpr ⟨by k_mem, List.forall_mem_cons.mpr ⟨by k_mem, List.forall_mem_cons.mpr ⟨by k_mem, ?_⟩⟩⟩
          intro q hq
          rcases List.mem_append.mp hq with hq | hq
          · have := hs2 q hq
            k_mem
          · have := hs1 q hq
            k_mem
        · refine List.forall_mem_cons.mpr ⟨hI0, List.forall_mem_cons.mpr ⟨by k_ne, List.forall_mem_cons.mpr ⟨by k_ne, List.forall_mem_cons.mpr ⟨hnx (x, instObj 269 dx) (by k_mem), List.forall_mem_cons.mpr ⟨hnx (dx, bufObj w k9 k8 tl9 0 b) (by k_mem), List.forall_mem_cons.mpr ⟨hnx (b, W.listOf (List.toArray []) 0) (by k_mem), ?_⟩⟩⟩⟩⟩⟩
          refine List.forall_mem_cons.mpr ⟨Ne.symm hDI, List.forall_mem_cons.mpr ⟨by k_ne, List.forall_mem_cons.mpr ⟨by k_ne, ?_⟩⟩⟩
          intro q hq
          refine hnx q (.tail _ (.tail _ (.tail _ (.tail _ (.tail _ (.tail _ ?_))))))
          rcases List.mem_append.mp hq with hq | hq
          · exact hs2 q hq
          · exact hs1 q hq
        · exact (hR.mono fun q hq => .tail _ (.tail _ (.tail _ hq))).snoc (.head _) q1
        · refine (hB.mono fun q hq => .tail _ (.tail _ (.tail _ hq))).snoc (dx := dd9) (ta := tkA) (tb := tB) (r := js) ?_ (.tail _ (.tail _ (.head _)))
          rw [show ((js).length : Int) = (ys.length : Int) by omega]
          exact .tail _ (.head _)
        · rw [List.length_append, hrs]; rfl
        · intro r hr
          rcases List.mem_append.mp hr with hr | hr
          · exact hok r hr
          · rw [List.mem_singleton.mp hr]
            exact ⟨hjl.1, hjl.2, q3, ⟨M, aM, by omega⟩⟩
        · refine List.forall_mem_cons.mpr ⟨⟨Ne.symm oD0, Ne.symm hxD, Ne.symm hdD, Ne.symm hbD⟩, List.forall_mem_cons.mpr ⟨⟨by k_ne, by k_ne, by k_ne, by k_ne⟩, List.forall_mem_cons.mpr ⟨⟨by k_ne, by k_ne, by k_ne, by k_ne⟩, hown⟩⟩⟩
        · exact ⟨by k_ne, by k_ne, by k_ne, by k_ne⟩
        · exact ⟨by k_ne, by k_ne, by k_ne, by k_ne⟩
      · rename_i h61 M tM kM aM bM aP D7 w7 h71 la7 hI7 hL7 lb7 lD0 h72 lc7 rR h73 ld7 le7 lD1 h51 qq1 rA h41 Fo1 No1 hla hlb h31 tk_ tA tkA tB tkB h91 tk91 xx dd9 l91 l81 l921 l821 lD3 h21 qq2 rB h11 hlc hld h01
        clear Fo1 No1
        have hDI : I ≠ D := (off1_sub off fun q hq => hq) (I, oi) (.head _)
        have hxD : x ≠ D := (off1_sub off fun q hq => hq) (x, instObj 269 dx) (.tail _ (.tail _ (.tail _ (.tail _ (.head _)))))
        have hdD : dx ≠ D := (off1_sub off fun q hq => hq) (dx, bufObj w k9 k8 tl9 0 b) (.tail _ (.tail _ (.tail _ (.tail _ (.tail _ (.head _))))))
        have hbD : b ≠ D := (off1_sub off fun q hq => hq) (b, W.listOf (List.toArray []) 0) (.tail _ (.tail _ (.tail _ (.tail _ (.tail _ (.tail _ (.head _)))))))
        have hjl : 1 ≤ js.length ∧ js.length ≤ 5 := by omega
        have hdl0 : (js.drop 1 ++ [(1 : Int)]).length = js.length := by rw [List.length_append, List.length_drop, List.length_singleton]; omega
        have hdl : 1 ≤ (js.drop 1 ++ [(1 : Int)]).length ∧ (js.drop 1 ++ [(1 : Int)]).length ≤ 5 := by rw [hdl0]; exact hjl
        have hdr : ∀ k ∈ js.drop 1 ++ [(1 : Int)], rng k := by
          intro k hk
          rcases List.mem_append.mp hk with hk | hk
          · exact q3 k (List.mem_of_mem_drop hk)
          · rw [List.mem_singleton.mp hk]; exact ⟨by decide, by decide⟩
        have e7 : pickZ js (some 1) none none = js.drop 1 := pickZ_from js 1 (by omega)
        rw [e7] at hI7
        replace hI7 := hI7.append (.cons 1 (kM + 1 + 1) .nil)
        refine tpost_next F₆ N₆ (by k_mem) (nx := (st, stObj sl p2 t3 sd3 t4 0) :: (rA, W.listOf (vr ++ [Value.ref rR]).toArray 0) :: (rB, W.listOf (vb ++ [Value.ref xx]).toArray 0) :: (x, instObj 269 dx) :: (dx, bufObj w k9 k8 tl9 0 b) :: (b, W.listOf (List.toArray []) 0) :: (((rR, W.listOf (w7 ++ [Value.int 1 (kM + 1 + 1)]).toArray 0) :: (xx, rsObj dd9 ((ys.length : Int) + e) tkA (ys.length : Int) tB) :: (dd9, emptyDict) :: own) ++ tl)) ?_ ?_
          ⟨⟨rA, rB, vr ++ [Value.ref rR], vb ++ [Value.ref xx], 0, 0, (rR, W.listOf (w7 ++ [Value.int 1 (kM + 1 + 1)]).toArray 0) :: (xx, rsObj dd9 ((ys.length : Int) + e) tkA (ys.length : Int) tB) :: (dd9, emptyDict) :: own, rs ++ [js.drop 1 ++ [(1 : Int)]], p2, sd3, t3, t4, rfl, ?_, ?_, ?_, ?_, ?_, ?_, ?_, q4, q5, rfl, rfl⟩, by walk_at "keep"⟩
        · refine List.forall_mem_cons.mpr ⟨by k_mem, List.forall_mem_cons.mpr ⟨by k_mem, List.forall_mem_cons.mpr ⟨by k_mem, List.forall_mem_cons.mpr ⟨by k_mem, List.forall_mem_cons.mpr ⟨by k_mem, List.forall_mem_cons.mpr ⟨by k_mem, ?_⟩⟩⟩⟩⟩⟩
          refine List.forall_mem_cons.mpr ⟨by k_mem, List.forall_mem_cons.mpr ⟨by k_mem, List.forall_mem_cons.mpr ⟨by k_mem, ?_⟩⟩⟩
          intro q hq
          rcases List.mem_append.mp hq with hq | hq
          · have := hs2 q hq
            k_mem
          · have := hs1 q hq
            k_mem
        · refine List.forall_mem_cons.mpr ⟨hI0, List.forall_mem_cons.mpr ⟨by k_ne, List.forall_mem_cons.mpr ⟨by k_ne, List.forall_mem_cons.mpr ⟨hnx (x, instObj 269 dx) (by k_mem), List.forall_mem_cons.mpr ⟨hnx (dx, bufObj w k9 k8 tl9 0 b) (by k_mem), List.forall_mem_cons.mpr ⟨hnx (b, W.listOf (List.toArray []) 0) (by k_mem), ?_⟩⟩⟩⟩⟩⟩
          refine List.forall_mem_cons.mpr ⟨by k_ne, List.forall_mem_cons.mpr ⟨by k_ne, List.forall_mem_cons.mpr ⟨by k_ne, ?_⟩⟩⟩
          intro q hq
          refine hnx q (.tail _ (.tail _ (.tail _ (.tail _ (.tail _ (.tail _ ?_))))))
          rcases List.mem_append.mp hq with hq | hq
          · exact hs2 q hq
          · exact hs1 q hq
        · exact (hR.mono fun q hq => .tail _ (.tail _ (.tail _ hq))).snoc (.head _) hI7
        · refine (hB.mono fun q hq => .tail _ (.tail _ (.tail _ hq))).snoc (dx := dd9) (ta := tkA) (tb := tB) (r := js.drop 1 ++ [(1 : Int)]) ?_ (.tail _ (.tail _ (.head _)))
          rw [show ((js.drop 1 ++ [(1 : Int)]).length : Int) = (ys.length : Int) by (rw [hdl0]; omega)]
          exact .tail _ (.head _)
        · rw [List.length_append, hrs]; rfl
        · intro r hr
          rcases List.mem_append.mp hr with hr | hr
          · exact hok r hr
          · rw [List.mem_singleton.mp hr]
            exact ⟨hdl.1, hdl.2, hdr, ⟨1, List.mem_append_right _ (.head _), by decide⟩⟩
        · refine List.forall_mem_cons.mpr ⟨⟨by k_ne, by k_ne, by k_ne, by k_ne⟩, List.forall_mem_cons.mpr ⟨⟨by k_ne, by k_ne, by k_ne, by k_ne⟩, List.forall_mem_cons.mpr ⟨⟨by k_ne, by k_ne, by k_ne, by k_ne⟩, hown⟩⟩⟩
        · exact ⟨by k_ne, by k_ne, by k_ne, by k_ne⟩
        · exact ⟨by k_ne, by k_ne, by k_ne, by k_ne⟩
  · rintro u nx h tk ⟨RA, BA, vr, vb, nr, nb, own, rs, p, sd, t1, t2, rfl, hR, hB, hrs, hok, hown, hRA, hBA, hp0, hp1, e1, e2⟩ F₁ N₁
    replace F₁ := frx (a := "rows") (frx (a := "blocks") F₁ (by exact e2)) (by exact e1)
    obtain ⟨tl3, htl3⟩ : ∃ tl3, tl3 = (RA, W.listOf vr.toArray nr) :: (BA, W.listOf vb.toArray nb) :: (own ++ tl) := ⟨_, rfl⟩
    have hw : ∀ q ∈ tl3, Ap st x dx b q.1 := by
      rw [htl3]
      refine List.forall_mem_cons.mpr ⟨hRA, List.forall_mem_cons.mpr ⟨hBA, ?_⟩⟩
      intro q hq
      rcases List.mem_append.mp hq with hq | hq
      · exact hown q hq
      · exact hAt q hq
    have hs1 : ∀ q ∈ tl, q ∈ tl3 := by rw [htl3]; exact fun q hq => .tail _ (.tail _ (List.mem_append_right _ hq))
    have hs2 : ∀ q ∈ own, q ∈ tl3 := by rw [htl3]; exact fun q hq => .tail _ (.tail _ (List.mem_append_left _ hq))
    have hmRA : (RA, W.listOf vr.toArray nr) ∈ tl3 := by rw [htl3]; exact .head _
    have hmBA : (BA, W.listOf vb.toArray nb) ∈ tl3 := by rw [htl3]; exact .tail _ (.head _)
    have N₂ := news_sub (news' := (x, instObj 269 dx) :: (dx, bufObj w k9 k8 tl9 0 b) :: (b, W.listOf (List.toArray []) 0) :: (st, stObj sl p t1 sd t2 0) :: tl3) N₁ (by
      rw [htl3]
      intro q hq
      simp only [List.mem_cons, List.mem_append] at hq ⊢
      rcases hq with hq | hq | hq | hq | hq | hq | hq | hq <;> simp [hq])
    clear htl3
    replace hR := hR.mono hs2
    replace hB := hB.mono hs2
    replace hFt := hFt.mono hs1
    replace hmsl := hs1 _ hmsl
    replace hm1 := hs1 _ hm1
    replace hm2 := hs1 _ hm2
    clear hAt hs1 hs2 hown hRA hBA hAR hAB N₁ N1 N2 R1 F1
    have hvr : vr.length = rs.length := hR.length
    have hw0 : ∀ q ∈ tl3, q.1 ≠ st := fun q hq => (hw q hq).1
    have hw1 : ∀ q ∈ tl3, q.1 ≠ x := fun q hq => (hw q hq).2.1
    have hw2 : ∀ q ∈ tl3, q.1 ≠ dx := fun q hq => (hw q hq).2.2.1
    have hw3 : ∀ q ∈ tl3, q.1 ≠ b := fun q hq => (hw q hq).2.2.2
    walk_at "my_steps"
    refine ⟨?_⟩
    rename Fr _ _ _ _ => F₂
    rename News _ _ _ _ => N₃
    have hfl15 : rs.flatten.length ≤ 15 := flat_len (fun r hr => (hok r hr).2.1) (by omega)
    refine list_loopC ["word", "zz"] (fun i u nx => ∃ vq nq tq, nx = (x, instObj 269 dx) :: (dx, bufObj w k9 k8 tq (8 * ((rs.take i).flatten.length : Int)) b) :: (b, W.listOf vq.toArray nq) :: (st, stObj sl p t1 sd t2 0) :: tl3 ∧ IntsAre vq (rs.take i).flatten)
      rfl (l := RA) (vs := vr) (nn := nr) (.tail _ (.tail _ (.tail _ (.tail _ hmRA)))) ?_ F₂ N₃ ⟨[], 0, tl9, rfl, .nil⟩ ?_ ?_
    · rintro i m nx ⟨vq, nq, tq, rfl, _⟩
      exact .tail _ (.tail _ (.tail _ (.tail _ hmRA)))
    · rintro i v I u nx h tk oi hv hnx ⟨vq, nq, tq, rfl, qv⟩ F₁ N₁
      obtain ⟨a, va, na, r, rfl, hri, hma, hia⟩ := hR.get hv
      have hokr := hok r (List.mem_of_getElem? hri)
      have hIx : x ≠ I := hnx (x, instObj 269 dx) (.head _)
      have hId : dx ≠ I := hnx (dx, bufObj w k9 k8 tq (8 * ((rs.take i).flatten.length : Int)) b) (.tail _ (.head _))
      have hIb : b ≠ I := hnx (b, W.listOf vq.toArray nq) (.tail _ (.tail _ (.head _)))
      have hIs : st ≠ I := hnx (st, stObj sl p t1 sd t2 0) (.tail _ (.tail _ (.tail _ (.head _))))
      have hIt : ∀ q ∈ tl3, q.1 ≠ I := fun q hq => hnx q (.tail _ (.tail _ (.tail _ (.tail _ hq))))
      have hflr := flat_le hri
      walk_at "my_steps"
      refine ⟨?_⟩
      rename Fr _ _ _ _ => F₃
      rename News _ _ _ _ => N₄
      refine list_loopC ["zz"] (fun j u nx => ∃ vq nq tq, nx = (x, instObj 269 dx) :: (dx, bufObj w k9 k8 tq (8 * (((rs.take i).flatten ++ r.take j).length : Int)) b) :: (b, W.listOf vq.toArray nq) :: (I, oi) :: (st, stObj sl p t1 sd t2 0) :: tl3 ∧ IntsAre vq ((rs.take i).flatten ++ r.take j))
        rfl (l := a) (vs := va) (nn := na) (.tail _ (.tail _ (.tail _ (.tail _ (.tail _ hma))))) ?_ F₃ (news_sub (news' := (x, instObj 269 dx) :: (dx, bufObj w k9 k8 tq (8 * ((rs.take i).flatten.length : Int)) b) :: (b, W.listOf vq.toArray nq) :: (I, oi) :: (st, stObj sl p t1 sd t2 0) :: tl3) N₄ (by walk_at "sub")) ⟨vq, nq, tq, by rw [List.take_zero, List.append_nil], by rw [List.take_zero, List.append_nil]; exact qv⟩ ?_ ?_
      · rintro j m nx ⟨vq, nq, tq, rfl, _⟩
        exact .tail _ (.tail _ (.tail _ (.tail _ (.tail _ hma))))
      · rintro j v I2 u nx h tk oi2 hv2 hnx2 ⟨vq2, nq2, tq2, rfl, qv2⟩ F₁ N₁
        obtain ⟨kw, tw, hkw, rfl⟩ := ints_at hia hv2
        have hjr : j < r.length := (List.getElem?_eq_some_iff.mp hkw).1
        have hrw := hokr.2.2.1 kw (List.mem_of_getElem? hkw)
        have hJx : x ≠ I2 := hnx2 (x, instObj 269 dx) (.head _)
        have hJd : dx ≠ I2 := hnx2 (dx, _) (.tail _ (.head _))
        have hJb : b ≠ I2 := hnx2 (b, _) (.tail _ (.tail _ (.head _)))
        have hlen : ((rs.take i).flatten ++ r.take j).length ≤ 20 := by rw [List.length_append, List.length_take]; omega
        walk_at "my_steps"
        refine ⟨?_⟩
        k_dflt (refine' put_call (rest := (I2, oi2) :: (I, oi) :: (st, stObj sl p t1 sd t2 0) :: tl3) (x := x) (dx := dx) (b := b) (k1 := k9) (k2 := k8) (tl := tq2) (vs := vq2) (n := nq2) (ns := (rs.take i).flatten ++ r.take j) (len := 8 * (((rs.take i).flatten ++ r.take j).length : Int)) ?k1 ?k2 ?k3 ?k4 ?k5 ?k7 ?k8 ?ka ?kb qv2 ?q1 ?q2 ?q3 hrw hxd hxb hdb ?q4 ?q5 ?_)
        (case k1 => k_asm)
        (case k2 => k_asm)
        (case k3 => k_asm)
        (case k4 => exact news_sub (by k_asm) (by walk_at "sub"))
        (case k5 => k_asm)
        (case k7 => exact rfl)
        (case k8 => exact rfl)
        (case ka => walk_at "room")
        (case kb => walk_at "room")
        (case q1 => omega)
        (case q2 => omega)
        (case q3 => exact rfl)
        (case q4 => exact List.forall_mem_cons.mpr ⟨Ne.symm hJd, List.forall_mem_cons.mpr ⟨Ne.symm hId, List.forall_mem_cons.mpr ⟨hsd, hw2⟩⟩⟩)
        (case q5 => exact List.forall_mem_cons.mpr ⟨Ne.symm hJb, List.forall_mem_cons.mpr ⟨Ne.symm hIb, List.forall_mem_cons.mpr ⟨hsb, hw3⟩⟩⟩)
        intro h9 tk9 vs9 n9 t9 F9 N9 q9
        rw [putZ_word hrw] at q9
        have hnx3 : (rs.take i).flatten ++ r.take (j + 1) = (rs.take i).flatten ++ r.take j ++ [kw] := by
          rw [List.take_add_one, hkw, ← List.append_assoc]; rfl
        have hnl : 8 * (((rs.take i).flatten ++ r.take (j + 1)).length : Int) = 8 * (((rs.take i).flatten ++ r.take j).length : Int) + 8 := by
          rw [hnx3, List.length_append (bs := [kw]), List.length_singleton]; omega
        walk_at "my_steps"
        rename Fr _ _ _ _ => F₆
        rename News _ _ _ _ => N₆
        refine tpost_next F₆ N₆ (by k_mem) (nx := (x, instObj 269 dx) :: (dx, bufObj w k9 k8 t9 (8 * (((rs.take i).flatten ++ r.take j).length : Int) + 8) b) :: (b, W.listOf vs9.toArray n9) :: (I, oi) :: (st, stObj sl p t1 sd t2 0) :: tl3) (by walk_at "sub") ?_ ⟨⟨vs9, n9, t9, by rw [hnl], by rw [hnx3]; exact q9⟩, by walk_at "keep"⟩
        refine List.forall_mem_cons.mpr ⟨hJx, List.forall_mem_cons.mpr ⟨hJd, List.forall_mem_cons.mpr ⟨hJb, ?_⟩⟩⟩
        exact fun q hq => hnx2 q (.tail _ (.tail _ (.tail _ hq)))
      · rintro u nx h tk ⟨vq2, nq2, tq2, rfl, qv2⟩ F₁ N₁
        have hval := hia.length
        rw [hval, List.take_length] at qv2 N₁
        have hfn : (rs.take (i + 1)).flatten = (rs.take i).flatten ++ r := by rw [List.take_add_one, hri, List.flatten_append]; simp
        rw [← hfn] at qv2 N₁
        walk_at "my_steps"
        rename Fr _ _ _ _ => F₆
        rename News _ _ _ _ => N₆
        refine tpost_next F₆ N₆ (by k_mem) (nx := (x, instObj 269 dx) :: (dx, bufObj w k9 k8 tq2 (8 * ((rs.take (i + 1)).flatten.length : Int)) b) :: (b, W.listOf vq2.toArray nq2) :: (st, stObj sl p t1 sd t2 0) :: tl3) (by walk_at "sub") ?_ ⟨⟨vq2, nq2, tq2, rfl, qv2⟩, by walk_at "keep"⟩
        exact List.forall_mem_cons.mpr ⟨hIx, List.forall_mem_cons.mpr ⟨hId, List.forall_mem_cons.mpr ⟨hIb, List.forall_mem_cons.mpr ⟨hIs, hIt⟩⟩⟩⟩
    · rintro u nx h tk ⟨vq, nq, tq, rfl, qv⟩ F₁ N₁
      rw [hvr, List.take_length] at qv N₁
      have hrs0 : 0 < rs.length := by omega
      have hrs3 : rs.length ≤ 3 := by omega
      walk_at "my_steps"
      refine ⟨?_⟩
      k_dflt (refine' create_call (x := x) (dx := dx) (b := b) (bl := BA) (vs := vq) (bs := vb) (n := nq) (nb := nb) (rows := rs) (e := e) ?k1 ?k2 ?k3 ?k4 ?k5 ?k7 ?k8 ?ka ?kb ?q1 ?q2 ?q3 qv ?q4 ?q5 he ?q6 hrs0 hrs3 ?_)
      (case k1 => k_asm)
      (case k2 => k_asm)
      (case k3 => k_asm)
      (case k4 => k_asm)
      (case k5 => k_asm)
      (case k7 => exact rfl)
      (case k8 => exact rfl)
      (case ka => walk_at "room")
      (case kb => walk_at "room")
      (case q1 => k_mem)
      (case q2 => k_mem)
      (case q3 => k_mem)
      (case q4 => k_mem)
      (case q5 => exact hB.mono (by walk_at "sub"))
      (case q6 => exact fun r hr => ⟨(hok r hr).2.1, (hok r hr).2.2⟩)
      intro h8 tk8 TA vt nt F8 N8 lTA hit
      obtain ⟨tl4, htl4⟩ : ∃ tl4, tl4 = (TA, W.listOf vt.toArray nt) :: (x, instObj 269 dx) :: (dx, bufObj w k9 k8 tq (8 * (rs.flatten.length : Int)) b) :: (b, W.listOf vq.toArray nq) :: tl3 := ⟨_, rfl⟩
      have hw4 : ∀ q ∈ tl4, q.1 ≠ st := by
        rw [htl4]
        exact List.forall_mem_cons.mpr ⟨Ne.symm (Nat.ne_of_lt (lTA (st, stObj sl p t1 sd t2 0) (by k_mem))), List.forall_mem_cons.mpr ⟨Ne.symm hsx, List.forall_mem_cons.mpr ⟨Ne.symm hsd, List.forall_mem_cons.mpr ⟨Ne.symm hsb, hw0⟩⟩⟩⟩
      have hs4 : ∀ q ∈ tl3, q ∈ tl4 := by rw [htl4]; exact fun q hq => .tail _ (.tail _ (.tail _ (.tail _ hq)))
      have hmTA : (TA, W.listOf vt.toArray nt) ∈ tl4 := by rw [htl4]; exact .head _
      have N5 := news_sub (news' := (st, stObj sl p t1 sd t2 0) :: tl4) N8 (by
        rw [htl4]
        walk_at "sub")
      clear htl4 N8 N₁ N₃ lTA hw hw0 hw1 hw2 hw3
      replace hR := hR.mono hs4
      replace hFt := hFt.mono hs4
      replace hmsl := hs4 _ hmsl
      replace hm1 := hs4 _ hm1
      replace hm2 := hs4 _ hm2
      replace hmRA := hs4 _ hmRA
      clear hs4 hB hmBA
      have hes : ∀ r ∈ rs.map (ecZ e), r.length = e := by
        intro r hr
        obtain ⟨q, _, rfl⟩ := List.mem_map.mp hr
        unfold ecZ ecs
        simp
      have hesl : (rs.map (ecZ e)).length = rs.length := List.length_map _
      have he10 := (genP_good he).2.2.2
      have he2 := (genP_good he).2.2.1
      have hmL : maxLen rs ≤ 5 := maxLen_le fun r hr => (hok r hr).2.1
      have hTB : (dealOut rs (maxLen rs) ++ dealOut (rs.map (ecZ e)) e).length ≤ 100 := by
        have b1 := dealOut_len (rs := rs) (maxLen rs)
        have b2 := dealOut_len (rs := rs.map (ecZ e)) e
        have b3 : maxLen rs * rs.length ≤ 5 * 3 := Nat.mul_le_mul hmL hrs3
        have b4 : e * (rs.map (ecZ e)).length ≤ 10 * 3 := Nat.mul_le_mul he10 (by omega)
        rw [List.length_append]; omega
      have hvtl := hit.length
      walk_at "my_steps"
      refine ⟨?_⟩
      rename Fr _ _ _ _ => F₂
      rename News _ _ _ _ => N₃
      refine comp_list (l := RA) (vs := vr) (nn := nr) (fun i ys nx => nx = (st, stObj sl p t1 sd t2 0) :: tl4 ∧ IntsAre ys ((rs.take i).map fun r => (r.length : Int) + e))
        rfl (by omega) (.tail _ hmRA) ?_ F₂ N₃ ⟨rfl, .nil⟩ ?_ ?_
      · rintro i ys nx ⟨rfl, _⟩
        exact .tail _ hmRA
      · rintro i v I oI C oC D m₂ ys nx h tk E' hv ⟨rfl, qy⟩ hC hx F₃ N₄ off ne
        obtain ⟨a, va, na, r, rfl, hri, hma, hia⟩ := hR.get hv
        have hial := hia.length
        have hrl5 := (hok r (List.mem_of_getElem? hri)).2.1
        walk_at "my_steps"
        rename Fr _ _ _ _ => F₆
        rename News _ _ _ _ => N₆
        refine cend F₆ N₆ (by k_mem) (by k_mem) (by k_mem) (by walk_at "sub") off ⟨rfl, ?_⟩
        rw [List.take_add_one, hri, List.map_append]
        rw [hial]
        exact ints_snoc qy
      · rintro g ys nx ⟨rfl, qy⟩ D h tk F₃ N₄ off
        have hyl := qy.length
        rw [List.length_map, List.length_take] at hyl
        have hvl3 : List.take vr.length rs = rs := by rw [hvr, List.take_length]
        have htot := deal_total hes hesl
        walk_at "my_steps"
        · rename (¬ _ = (_ : Int)) => hbad
          rw [hvl3, hvtl] at hbad
          exact absurd htot hbad
        refine ⟨?_⟩
        rename Fr _ _ _ _ => F₄
        rename News _ _ _ _ => N₅
        refine comp_list (l := RA) (vs := vr) (nn := nr) (fun i ys nx => nx = (st, stObj sl p t1 sd t2 0) :: tl4 ∧ IntsAre ys ((rs.take i).map fun r => (r.length : Int)))
          rfl (by omega) (.tail _ hmRA) ?_ F₄ (news_sub N₅ fun q hq => .tail _ hq) ⟨rfl, .nil⟩ ?_ ?_
        · rintro i ys nx ⟨rfl, _⟩
          exact .tail _ hmRA
        · rintro i v I oI C oC D m₂ ys nx h tk E' hv ⟨rfl, qy⟩ hC hx F₃ N₄ off ne
          obtain ⟨a, va, na, r, rfl, hri, hma, hia⟩ := hR.get hv
          have hial := hia.length
          have hrl5 := (hok r (List.mem_of_getElem? hri)).2.1
          walk_at "my_steps"
          rename Fr _ _ _ _ => F₆
          rename News _ _ _ _ => N₆
          refine cend F₆ N₆ (by k_mem) (by k_mem) (by k_mem) (by walk_at "sub") off ⟨rfl, ?_⟩
          rw [List.take_add_one, hri, List.map_append]
          rw [hial]
          exact ints_snoc qy
        · rintro g ys nx ⟨rfl, qy⟩ D h tk F₃ N₄ off
          rw [hvl3] at qy
          walk_at "my_steps"
          refine ⟨?_⟩
          k_dflt (refine' dealt_call (ta := TA) (ba := D) (vt := vt) (vb := ys) (nt := nt) (nb := ys.length) (rows := rs) (es := rs.map (ecZ e)) (e := e) ?k1 ?k2 ?k3 ?k4 ?k5 ?k7 ?k8 ?ka ?kb ?q1 hit ?q2 qy ?q3 hes hesl hrs0 hrs3 he10 ?_)
          (case k1 => k_asm)
          (case k2 => k_asm)
          (case k3 => k_asm)
          (case k4 => k_asm)
          (case k5 => k_asm)
          (case k7 => exact rfl)
          (case k8 => exact rfl)
          (case ka => walk_at "room")
          (case kb => walk_at "room")
          (case q1 => k_mem)
          (case q2 => k_mem)
          (case q3 => exact fun r hr => (hok r hr).2.1)
          intro h7 tk7 DA vd nd own7 F7 N7 hs7 hRd
          obtain ⟨tl5, htl5⟩ : ∃ tl5, tl5 = (DA, W.listOf vd.toArray nd) :: (own7 ++ tl4) := ⟨_, rfl⟩
          have hw5 : ∀ q ∈ tl5, q.1 ≠ st := by
            rw [htl5]
            refine List.forall_mem_cons.mpr ⟨Ne.symm (hs7 _ (.head _) (st, stObj sl p t1 sd t2 0) (by k_mem)), ?_⟩
            intro q hq
            rcases List.mem_append.mp hq with hq | hq
            · exact Ne.symm (hs7 q (.tail _ hq) (st, stObj sl p t1 sd t2 0) (by k_mem))
            · exact hw4 q hq
          have hs5 : ∀ q ∈ tl4, q ∈ tl5 := by rw [htl5]; exact fun q hq => .tail _ (List.mem_append_right _ hq)
          replace hRd := hRd.mono (news' := tl5) (by rw [htl5]; exact fun q hq => .tail _ (List.mem_append_left _ hq))
          have hmDA : (DA, W.listOf vd.toArray nd) ∈ tl5 := by rw [htl5]; exact .head _
          have N8 := news_sub (news' := (st, stObj sl p t1 sd t2 0) :: tl5) N7 (by
            rw [htl5]
            intro q hq
            simp only [List.mem_cons, List.mem_append] at hq ⊢
            rcases hq with hq | hq | hq | hq <;> simp [hq])
          clear htl5 N7 hs7 F₃ N₄ F₄ N₅
          replace hR := hR.mono hs5
          replace hFt := hFt.mono hs5
          replace hmsl := hs5 _ hmsl
          replace hm1 := hs5 _ hm1
          replace hm2 := hs5 _ hm2
          replace hmRA := hs5 _ hmRA
          clear hs5 hw4 hmTA off
          have hvd : vd.length = rs.length := by rw [hRd.length, List.length_zipWith]; omega
          walk_at "my_steps"
          refine ⟨?_⟩
          rename IsRange _ _ _ _ _ _ _ _ => R3
          rename Fr _ _ _ _ => F₃
          rename News _ _ _ _ => N₄
          refine range_loopC rs.length ["damaged", "places", "place", "_", "zz"] (fun i u nx => ∃ p sd t1 t2, nx = (st, stObj sl p t1 sd t2 0) :: tl5 ∧ 0 ≤ p ∧ p ≤ ns.length)
            rfl R3 (by omega) (by decide) (by decide) (by omega) (by omega) F₃ N₄ ⟨p, sd, t1, t2, rfl, hp0, hp1⟩ ?_ ?_
          · rintro i k t I u nx h tk oi hi1 hkk hnx ⟨p, sd, t1, t2, rfl, hp0, hp1⟩ F₁ N₁
            have hkk : k = (i : Int) := by omega
            subst hkk
            obtain ⟨v, hv⟩ : ∃ v, vr[i]? = some v := ⟨vr[i]'(by omega), by simp <;> omega⟩
            obtain ⟨ra, vra, nra, r, rfl, hri, hmra, hira⟩ := hR.get hv
            obtain ⟨v, hv2⟩ : ∃ v, vd[i]? = some v := ⟨vd[i]'(by omega), by simp <;> omega⟩
            obtain ⟨da, vda, nda, cw, rfl, hci, hmda, hida⟩ := hRd.get hv2
            have hv' : vr[((i : Int)).toNat]? = some (Value.ref ra) := hv
            have hv2' : vd[((i : Int)).toNat]? = some (Value.ref da) := hv2
            have hokr := hok r (List.mem_of_getElem? hri)
            have hcw : cw = r ++ ecZ e r := by
              rw [List.getElem?_zipWith, hri, List.getElem?_map, hri] at hci
              exact (Option.some.inj hci).symm
            have hcl : cw.length = r.length + e := by rw [hcw, List.length_append, hes _ (List.mem_map.mpr ⟨r, List.mem_of_getElem? hri, rfl⟩)]
            have hI0 : st ≠ I := hnx (st, stObj sl p t1 sd t2 0) (.head _)
            have hral := hira.length
            have hdal := hida.length
            have hr5 := hokr.2.1
            have hr1 := hokr.1
            have hcr : ∀ k ∈ cw, rng k := by
              rw [hcw]
              intro k hk
              rcases List.mem_append.mp hk with hk | hk
              · exact hokr.2.2.1 k hk
              · exact ecZ_rng he hokr.2.2.1 hokr.2.2.2 k hk
            have hfd : (e : Int).fdiv 2 = (e : Int) / 2 := Int.fdiv_eq_ediv_of_nonneg _ (by decide)
            have hpk : pickZ cw none (some (vra.length : Int)) none = r := by
              rw [hral, hcw, pickZ_upto _ _ (by rw [List.length_append]; omega), List.take_left]
            walk_at "my_steps"
            · exfalso; omega
            refine ⟨?_⟩
            rename IsRange _ _ _ _ _ _ _ _ => R4
            rename Fr _ _ _ _ => F₄
            rename News _ _ _ _ => N₅
            rename_i ta1 tka1 D21 ws1 ha6 la3 hIa hLa la2 ta2 tka2 ta3 tka3 hleq tka4 DM nm ha5 lDM PL ha4 lPL DT ha3 lDT ha2 Fo No ha1 ha0 t9y t8y t7y h9y tk9y xy py sy Xy Yy Py Ry ry hy0 uy vy tky
            clear Fo No
            have hDMs : @Ne Nat DM st := Ne.symm (Nat.ne_of_lt (by omega))
            have hDMI : @Ne Nat DM I := Ne.symm (Nat.ne_of_lt (by omega))
            have hDM5 : ∀ q ∈ tl5, q.1 ≠ DM := by
              intro q hq
              exact Nat.ne_of_lt (allLt_lt (And.right (And.right (And.right lDM))) q hq)
            have hPLs : @Ne Nat PL st := Ne.symm (Nat.ne_of_lt (by omega))
            have hPLD : @Ne Nat PL DM := Ne.symm (Nat.ne_of_lt (by omega))
            refine range_loopC xy.toNat ["places", "place", "zz"] (fun j u nx => ∃ dm vm nm PL vp np ps p sd t1 t2, nx = (st, stObj sl p t1 sd t2 0) :: (DM, W.listOf vm.toArray nm) :: (PL, W.listOf vp.toArray np) :: (I, oi) :: tl5 ∧ IntsAre vm dm ∧ dm.length = cw.length ∧ (∀ k ∈ dm, rng k) ∧ ndiff dm cw ≤ j ∧ IntsAre vp ps ∧ ps.length ≤ j ∧ PL ≠ st ∧ PL ≠ DM ∧ 0 ≤ p ∧ p ≤ ns.length ∧ u "places" = some (.ref PL))
              rfl R4 (by omega) (by decide) (by decide) (by omega) (by omega) F₄ (news_sub (news' := (st, stObj sl py t8y sy t7y 0) :: (DM, W.listOf vda.toArray nm) :: (PL, W.listOf (List.toArray []) 0) :: (I, oi) :: tl5) N₅ (by walk_at "sub")) ⟨cw, vda, nm, PL, [], 0, [], py, sy, t8y, t7y, rfl, hida, rfl, hcr, by rw [ndiff_self]; exact Nat.zero_le _, .nil, Nat.zero_le _, hPLs, hPLD, Py, Ry, rfl⟩ ?_ ?_
            · rintro j k t I2 u nx h tk oi2 hj1 hkk hnx2 ⟨dm, vm, nm, PL, vp, np, ps, p, sd, t1, t2, rfl, qm, hml, hmr, hmd, qp, hpl, hP1, hP2, hp0, hp1, e1⟩ F₁ N₁
              replace F₁ := frx (a := "places") F₁ (by exact e1)
              have hvm := qm.length
              have hvp := qp.length
              have hJs : st ≠ I2 := hnx2 (st, stObj sl p t1 sd t2 0) (.head _)
              have hJD : DM ≠ I2 := hnx2 (DM, W.listOf vm.toArray nm) (.tail _ (.head _))
              have hgm : ∀ x : Int, rng (dm.getD x.toNat 0) := fun x => getD_rng hmr x.toNat
              walk_at "my_steps"
              all_goals
                rename Fr _ _ _ _ => F₆
                rename News _ _ _ _ => N₆
              · rename_i ta tka t9w t8w t7w h9w tk9w xw pw sw Xw Yw Pw Rw Fw Nw hw aw bw cw2
                clear Fw Nw
                refine tpost_next F₆ N₆ (by k_mem) (nx := (st, stObj sl pw t8w sw t7w 0) :: (DM, W.listOf vm.toArray nm) :: (PL, W.listOf vp.toArray np) :: (I, oi) :: tl5) (by walk_at "sub") (List.forall_mem_cons.mpr ⟨hJs, fun q hq => hnx2 q (.tail _ hq)⟩)
                  ⟨⟨dm, vm, nm, PL, vp, np, ps, pw, sw, t8w, t7w, rfl, qm, hml, hmr, by omega, qp, by omega, hP1, hP2, Pw, Rw, rfl⟩, by walk_at "keep"⟩
              · rename_i ta tka t9w t8w t7w h9w tk9w xw pw sw Xw Yw Pw Rw Fw Nw h4 tk4 aw bw cw2 l7 h3 q7 r7 h2 hl7 hl8 h1 tk1 tt t9v t8v t7v h9v tk9v xv pv sv Xv Yv Pv Rv h0
                clear Fw Nw
                have hr7D : r7 ≠ DM := by k_ne
                have hr7s : r7 ≠ st := by k_ne
                have hr7I : r7 ≠ I2 := by k_ne
                refine tpost_next F₆ N₆ (by k_mem) (nx := (st, stObj sl pv t8v sv t7v 0) :: (DM, W.listOf _ nm) :: (r7, W.listOf (vp ++ [Value.int xw t9w]).toArray 0) :: (I, oi) :: tl5) (by walk_at "sub")
                  (List.forall_mem_cons.mpr ⟨hJs, List.forall_mem_cons.mpr ⟨hJD, List.forall_mem_cons.mpr ⟨hr7I, fun q hq => hnx2 q (.tail _ (.tail _ (.tail _ hq)))⟩⟩⟩)
                  ⟨⟨dm.set xw.toNat (xorZ (dm.getD xw.toNat 0) (1 + xv)), _, nm, r7, _, 0, ps ++ [xw], pv, sv, t8v, t7v, rfl, ints_set qm _, by rw [List.length_set]; exact hml, set_rng hmr _ (xorZ_rng (hgm xw) ⟨by omega, by omega⟩), Nat.le_trans ndiff_set (by omega), ints_snoc qp, by rw [List.length_append, List.length_singleton]; omega, hr7s, hr7D, Pv, Rv, rfl⟩, by walk_at "keep"⟩
            · rintro u nx h tk ⟨dm, vm, nm, PL, vp, np, ps, p, sd, t1, t2, rfl, qm, hml, hmr, hmd, qp, hpl, hP1, hP2, hp0, hp1, e1⟩ F₁ N₁
              have hdec := decode_ok he hokr.1 hokr.2.1 hokr.2.2.1 hokr.2.2.2 (dm := dm) (by rw [← hcw]; exact hml) hmr (by rw [← hcw]; omega)
              rw [← hcw] at hdec
              walk_at "my_steps"
              refine ⟨?_⟩
              k_dflt (refine' mended_call (fa := fa) (pa := pa) (la := la) (ra := DM) (vs := vm) (ns := dm) (n := nm) (e := (e : Int)) ?k1 ?k2 ?k3 ?k4 ?k5 ?k7 ?k8 ?ka ?kb ?q1 ?q2 qm hmr ?q3 ?q4 ?q5 ?q6 ?_)
              (case k1 => k_asm)
              (case k2 => k_asm)
              (case k3 => k_asm)
              (case k4 => k_asm)
              (case k5 => k_asm)
              (case k7 => exact rfl)
              (case k8 => exact rfl)
              (case ka => walk_at "room")
              (case kb => walk_at "room")
              (case q1 => exact hFt.mono (by walk_at "sub"))
              (case q2 => k_mem)
              (case q3 => omega)
              (case q4 => omega)
              (case q5 => omega)
              (case q6 => rw [Int.toNat_natCast]; exact hdec.1)
              intro h9 tk9 r9 vr9 nr9 F9 N9 l9 i9
              rw [Int.toNat_natCast, hdec.2] at i9
              clear hdec
              walk_at "my_steps"
              rename Fr _ _ _ _ => F₆
              rename News _ _ _ _ => N₆
              exact tpost_next F₆ N₆ (by k_mem) (nx := (st, stObj sl p t1 sd t2 0) :: tl5) (by walk_at "sub") (List.forall_mem_cons.mpr ⟨hI0, fun q hq => hnx q (.tail _ hq)⟩) ⟨⟨p, sd, t1, t2, rfl, hp0, hp1⟩, by walk_at "keep"⟩
          · rintro u nx h tk ⟨p, sd, t1, t2, rfl, hp0, hp1⟩ F₁ N₁
            k_steps)

end Mine
end

theorem PySem.Challenge.cw_bj0062_01_holds : PySem.Challenge.rw_bj0062_01.Holds :=
  Mine.law_holds
