import JvmDerived
import JvmDerived.Pilot.@@N@@Statement
import JvmDerived.Pilot.@@N@@Code
set_option linter.unusedVariables false
set_option linter.unusedSimpArgs false
namespace Jvm.RoadKit
open Sem ClassFile Op Lib Jvm.Stand Jvm.Free Jvm.LawKit
section New
variable {p : Program} {l : Launch} {e : Env} {R : Room} {s : State} {m : MethodId} {args : Array Value} {below : List Frame} {meth : Method} {c : Code} {T : State} {locs : List Loc} {cells slots : Nat}
theorem retI (X : Stand p l e R s m args below meth c T locs cells slots) (hx : p.tables.exec = Jvm.exec) {pc : Nat} {Ls : Array Slot} {z : Int32} {rest : List Value} (hret : meth.sig.returnType = some .int) (hd : decode c.code pc = .ok (.ireturn, 1)) {fs : List Frame}
    (hl : ∀ (f : JFrame) (acts : List Action), f.method = m → f.locked = none → f.entered = [] → (doReturn e (T.setTop f) acts (some (.int z))).1 = T.setFrames fs) : Steps p.tables e below (T.setTop (mkF m pc Ls (.int z :: rest))) (T.setFrames fs) := by
  have hm' : T.vm.method? m = some meth := X.method'
  have hn : narrow .int (.int z) = .int z := rfl
  show Steps p.tables e below (T.setTop { method := m, pc := pc, locals := Ls, stack := _ :: rest, locked := none }) _
  jvm_step X.here [X.here.top, hx, hd, hm', hret, hn]
  first | (intro acts; rw [hl _ acts rfl rfl rfl]) | rw [hl _ _ rfl rfl rfl]
  exact Steps.refl _
end New
end Jvm.RoadKit
namespace Jvm.Pilot.@@N@@
open Jvm Jvm.ClassFile Sem Op Lib Jvm.Free Jvm.Stand Jvm.LawKit Jvm.RoadKit Bundle Jvm.Pilot.@@N@@.Jvm.D
theorem own_nin0 {a : Addr} : a ∉ ([] : List Addr) := by simp
theorem own_nin1 {a b : Addr} (h : a ≠ b) : a ∉ [b] := by simpa using h
theorem own_nin2 {a b c : Addr} (h : a ≠ b) (h' : a ≠ c) : a ∉ [b, c] := by simp [h, h']
theorem own_nin3 {a b c d : Addr} (h : a ≠ b) (h' : a ≠ c) (h'' : a ≠ d) : a ∉ [b, c, d] := by simp [h, h', h'']
theorem own_in0 {P : Addr → Prop} : ∀ x ∈ ([] : List Addr), P x := by simp
theorem own_in1 {P : Addr → Prop} {a : Addr} (h : P a) : ∀ x ∈ [a], P x := by simpa using h
theorem own_in2 {P : Addr → Prop} {a b : Addr} (h : P a) (h' : P b) : ∀ x ∈ [a, b], P x := by simp [h, h']
theorem own_in3 {P : Addr → Prop} {a b c : Addr} (h : P a) (h' : P b) (h'' : P c) : ∀ x ∈ [a, b, c], P x := by simp [h, h', h'']
def own_ch (n : Int64) : Nat → UInt64
  | 0 => FP.dconst1
  | i + 1 => FP.ddiv (FP.dmul (own_ch n i) (FP.l2d (n - ((Int32.ofNat i).toInt64)))) (FP.i2d ((Int32.ofNat i) + (1 : Int32)))
def own_ref (n : Int64) (k : Int32) : Int64 :=
  if k = 2 then (n * (n - 1)) / 2 else if k = 3 then ((n * (n - 1)) * (n - 2)) / 6 else if k = 4 then (((n * (n - 1)) * (n - 2)) * (n - 3)) / 24
  else if k = 5 then ((((n * (n - 1)) * (n - 2)) * (n - 3)) * (n - 4)) / 120 else (((((n * (n - 1)) * (n - 2)) * (n - 3)) * (n - 4)) * (n - 5)) / 720
def own_bin : Nat → Nat → Nat
  | _, 0 => 1
  | 0, _ + 1 => 0
  | n + 1, k + 1 => own_bin n k + own_bin n (k + 1)
theorem own_bin_step (n : Nat) : ∀ k : Nat, ((k : Int) + 1) * (own_bin n (k + 1) : Int) = (own_bin n k : Int) * ((n : Int) - (k : Int)) := by
  induction n with
  | zero =>
    intro k
    cases k with
    | zero => rfl
    | succ k => show ((k : Int) + 1 + 1) * ((0 : Nat) : Int) = ((0 : Nat) : Int) * _; simp
  | succ n ih =>
    intro k
    cases k with
    | zero =>
      have h0 := ih 0
      have e1 : own_bin (n + 1) (0 + 1) = own_bin n 0 + own_bin n 1 := rfl
      have e2 : own_bin n 0 = 1 := by cases n <;> rfl
      have e3 : own_bin (n + 1) 0 = 1 := rfl
      rw [e1, e3]
      rw [e2] at h0 ⊢
      simp at h0 ⊢
      omega
    | succ j =>
      have e1 : own_bin (n + 1) (j + 1 + 1) = own_bin n (j + 1) + own_bin n (j + 1 + 1) := rfl
      have e2 : own_bin (n + 1) (j + 1) = own_bin n j + own_bin n (j + 1) := rfl
      have h1 := ih j
      have h2 := ih (j + 1)
      rw [e1, e2]
      generalize own_bin n (j + 1 + 1) = x at *
      generalize own_bin n (j + 1) = y at *
      generalize own_bin n j = z at *
      simp only [Int.natCast_add, Int.natCast_one] at *
      grind
theorem own_bin_pow (n : Nat) : ∀ k : Nat, own_bin n k ≤ n ^ k := by
  intro k
  induction k with
  | zero => cases n <;> exact Nat.le_refl 1
  | succ k ih =>
    have h := own_bin_step n k
    by_cases hk : k ≤ n
    · have h2 : (k + 1) * own_bin n (k + 1) = own_bin n k * (n - k) := by
        have : ((n - k : Nat) : Int) = (n : Int) - k := by omega
        rw [← this] at h
        exact_mod_cast h
      calc own_bin n (k + 1) ≤ (k + 1) * own_bin n (k + 1) := Nat.le_mul_of_pos_left _ (by omega)
        _ = own_bin n k * (n - k) := h2
        _ ≤ n ^ k * n := Nat.mul_le_mul ih (by omega)
        _ = n ^ (k + 1) := (Nat.pow_succ ..).symm
    · have hz : ∀ m j : Nat, m < j → own_bin m j = 0 := by
        intro m
        induction m with
        | zero => intro j hj; cases j with
          | zero => omega
          | succ j => rfl
        | succ m ihm => intro j hj; cases j with
          | zero => omega
          | succ j => show own_bin m j + own_bin m (j + 1) = 0; rw [ihm j (by omega), ihm (j + 1) (by omega)]
      rw [hz n (k + 1) (by omega)]; exact Nat.zero_le _
theorem own_bin_zero (m j : Nat) (h : m < j) : own_bin m j = 0 := by
  induction m generalizing j with
  | zero => cases j with
    | zero => omega
    | succ j => rfl
  | succ m ihm => cases j with
    | zero => omega
    | succ j => show own_bin m j + own_bin m (j + 1) = 0; rw [ihm j (by omega), ihm (j + 1) (by omega)]
theorem own_ddiv {i j k : Int} {a b : UInt64} (ha : FP.Core.DInt i a) (hb : FP.Core.DInt j b) (hj : j ≠ 0) (hk : i = j * k) (h : k.natAbs ≤ 2 ^ 53) : FP.Core.DInt k (FP.ddiv a b) := by
  unfold FP.Core.DInt at *
  show FP.Core.Whole k (FP.Core.val64 (FP.Core.ddiv a b))
  rw [FP.Core.val64_ddiv]
  cases ea : FP.Core.val64 a with
  | nan => rw [ea] at ha; exact ha.elim
  | inf => rw [ea] at ha; exact ha.elim
  | fin s c q =>
    cases eb : FP.Core.val64 b with
    | nan => rw [eb] at hb; exact hb.elim
    | inf => rw [eb] at hb; exact hb.elim
    | fin t d r =>
      rw [ea] at ha
      rw [eb] at hb
      have d0 : d ≠ 0 := fun z => hj ((FP.Core.whole_zero hb).mp z)
      show FP.Core.Whole k (if d = 0 then _ else FP.Core.roundRatio FP.Core.b64 (s != t) c d (q - r))
      rw [if_neg d0]
      have na := FP.Core.whole_natAbs ha
      have nb := FP.Core.whole_natAbs hb
      have ni : i.natAbs = j.natAbs * k.natAbs := by rw [hk, Int.natAbs_mul]
      obtain ⟨c', q', hfit, hv⟩ := FP.Core.natFit FP.Core.good_b64 FP.Core.wide_b64 (s != t) (n := k.natAbs) h
      have key : FP.Core.roundRatio FP.Core.b64 (s != t) c d (q - r) = .fin (s != t) c' q' := by
        rw [FP.Core.roundRatio_congr (A' := k.natAbs) (B' := 1) (e' := 0) (by omega) (by decide) ?_]
        · exact FP.Core.roundRatio_exact FP.Core.good_b64 (by decide) hfit hv
        · have hj0 : 0 < j.natAbs := by omega
          have E0 : (c * 2 ^ q.toNat) * (j.natAbs * 2 ^ (-r).toNat) = (j.natAbs * k.natAbs * 2 ^ (-q).toNat) * (d * 2 ^ r.toNat) := by rw [na, ni, nb]
          have E1 : j.natAbs * (c * 2 ^ (q.toNat + (-r).toNat)) = j.natAbs * (k.natAbs * d * 2 ^ ((-q).toNat + r.toNat)) := by
            rw [Nat.pow_add, Nat.pow_add]
            generalize 2 ^ q.toNat = A at *
            generalize 2 ^ (-r).toNat = B at *
            generalize 2 ^ (-q).toNat = C at *
            generalize 2 ^ r.toNat = D at *
            calc j.natAbs * (c * (A * B)) = (c * A) * (j.natAbs * B) := by ac_rfl
              _ = (j.natAbs * k.natAbs * C) * (d * D) := E0
              _ = j.natAbs * (k.natAbs * d * (C * D)) := by ac_rfl
          have E2 := Nat.eq_of_mul_eq_mul_left hj0 E1
          have m1 : q.toNat + (-r).toNat = (q - r - 0).toNat + (q.toNat + (-r).toNat - (q - r - 0).toNat) := by omega
          have m2 : (-q).toNat + r.toNat = (0 - (q - r)).toNat + (q.toNat + (-r).toNat - (q - r - 0).toNat) := by omega
          rw [m1, m2, Nat.pow_add, Nat.pow_add, ← Nat.mul_assoc, ← Nat.mul_assoc] at E2
          have E3 := Nat.eq_of_mul_eq_mul_right (Nat.two_pow_pos _) E2
          rw [Nat.mul_one]
          exact E3
      rw [key]
      show FP.Core.signed (s != t) (c' * 2 ^ q'.toNat) = k * ((2 ^ (-q').toNat : Nat) : Int)
      rw [show (0 - q').toNat = (-q').toNat by omega, show (q' - 0).toNat = q'.toNat by omega, Nat.mul_one] at hv
      rw [← hv, FP.Core.signed_mul]
      congr 1
      by_cases hk0 : k = 0
      · rw [hk0]; exact FP.Core.signed_zero _
      · have hi0 : i ≠ 0 := by rw [hk]; exact Int.mul_ne_zero hj hk0
        rw [FP.Core.whole_sign ha hi0, FP.Core.whole_sign hb hj]
        have hs : (decide (i < 0) != decide (j < 0)) = decide (k < 0) := by
          rw [hk]
          by_cases h1 : j < 0
          · by_cases h2 : k < 0
            · have : 0 < j * k := Int.mul_pos_of_neg_of_neg h1 h2
              simp [h1, h2]; omega
            · have : j * k < 0 := Int.mul_neg_of_neg_of_pos h1 (by omega)
              simp [h1, h2]; omega
          · by_cases h2 : k < 0
            · have : j * k < 0 := Int.mul_neg_of_pos_of_neg (by omega) h2
              simp [h1, h2]; omega
            · have : 0 < j * k := Int.mul_pos (by omega) (by omega)
              simp [h1, h2]; omega
        rw [hs]
        unfold FP.Core.signed
        by_cases h2 : k < 0 <;> simp [h2] <;> omega
theorem own_ofNat (n : Nat) (h : n < 8) : (Int32.ofNat n).toInt = n := by
  have : n = 0 ∨ n = 1 ∨ n = 2 ∨ n = 3 ∨ n = 4 ∨ n = 5 ∨ n = 6 ∨ n = 7 := by omega
  rcases this with rfl | rfl | rfl | rfl | rfl | rfl | rfl | rfl <;> decide
theorem own_succ (i : Nat) (h : i < 7) : Int32.ofNat i + (1 : Int32) = Int32.ofNat (i + 1) := by
  have : i = 0 ∨ i = 1 ∨ i = 2 ∨ i = 3 ∨ i = 4 ∨ i = 5 ∨ i = 6 := by omega
  rcases this with rfl | rfl | rfl | rfl | rfl | rfl | rfl <;> decide
theorem own_arg (n : Int64) (N i : Nat) (hN : n.toInt = N) (hi : i < 7) : (n - ((Int32.ofNat i).toInt64)).toInt = (N : Int) - i := by
  have h1 := c_lsub n ((Int32.ofNat i).toInt64)
  have h2 := c_i2l (Int32.ofNat i)
  have h3 := own_ofNat i (by omega)
  have h4 := rng64 (n - ((Int32.ofNat i).toInt64))
  have h5 := rng64 n
  omega
theorem own_mulb (N k i : Nat) (hi : i < k) (hp : N ^ k ≤ 2 ^ 53) : ((own_bin N i : Int) * ((N : Int) - i)).natAbs ≤ 2 ^ 53 := by
  by_cases h : i ≤ N
  · have e : (N : Int) - i = ((N - i : Nat) : Int) := by omega
    rw [e, ← Int.natCast_mul, Int.natAbs_natCast]
    by_cases h0 : N = 0
    · subst h0; simp
    · calc own_bin N i * (N - i) ≤ N ^ i * N := Nat.mul_le_mul (own_bin_pow N i) (by omega)
        _ = N ^ (i + 1) := (Nat.pow_succ ..).symm
        _ ≤ N ^ k := Nat.pow_le_pow_right (by omega) (by omega)
        _ ≤ 2 ^ 53 := hp
  · rw [own_bin_zero N i (by omega)]; simp
theorem own_binb (N k i : Nat) (hi : i ≤ k) (hp : N ^ k ≤ 2 ^ 53) : ((own_bin N i : Int)).natAbs ≤ 2 ^ 53 := by
  rw [Int.natAbs_natCast]
  by_cases h0 : N = 0
  · subst h0
    have := own_bin_pow 0 i
    cases i with
    | zero => exact Nat.le_trans this (by decide)
    | succ i => rw [Nat.zero_pow (by omega)] at this; omega
  · exact Nat.le_trans (own_bin_pow N i) (Nat.le_trans (Nat.pow_le_pow_right (by omega) hi) hp)
theorem own_chI (n : Int64) (N k : Nat) (hN : n.toInt = N) (hk : k ≤ 6) (hp : N ^ k ≤ 2 ^ 53) (h53 : N ≤ 2 ^ 53 - 10) : ∀ i, i ≤ k → FP.Core.DInt (own_bin N i : Int) (own_ch n i) ∧ ∀ j, j < i → FP.Core.DInt ((own_bin N j : Int) * ((N : Int) - j)) (FP.dmul (own_ch n j) (FP.l2d (n - ((Int32.ofNat j).toInt64)))) := by
  intro i
  induction i with
  | zero =>
    intro _
    refine ⟨?_, fun j hj => absurd hj (by omega)⟩
    have e : own_bin N 0 = 1 := by cases N <;> rfl
    rw [e]
    unfold FP.Core.DInt
    show FP.Core.Whole 1 (FP.Core.val64 FP.Core.dconst1)
    rw [FP.Core.val64_dconst1]
    show FP.Core.signed false (2 ^ 52 * 2 ^ (-52 : Int).toNat) = 1 * ((2 ^ (-(-52 : Int)).toNat : Nat) : Int)
    decide +kernel
  | succ i ih =>
    intro hi
    obtain ⟨h1, h2⟩ := ih (by omega)
    have ea := own_arg n N i hN (by omega)
    have hl : FP.Core.DInt ((N : Int) - i) (FP.l2d (n - ((Int32.ofNat i).toInt64))) := by
      rw [← ea]; exact FP.Core.l2d_int (by rw [ea]; omega)
    have hm := FP.Core.dmul_int h1 hl (own_mulb N k i (by omega) hp)
    refine ⟨?_, fun j hj => ?_⟩
    · have hd : FP.Core.DInt ((i : Int) + 1) (FP.i2d ((Int32.ofNat i) + (1 : Int32))) := by
        rw [own_succ i (by omega)]
        have := FP.Core.i2d_int (Int32.ofNat (i + 1))
        rw [own_ofNat (i + 1) (by omega)] at this
        exact this
      exact own_ddiv hm hd (by omega) (own_bin_step N i).symm (own_binb N k (i + 1) hi hp)
    · by_cases e : j = i
      · subst e; exact hm
      · exact h2 j (by omega)
theorem own_nn (n : Int64) (N k : Nat) (hN : n.toInt = N) (hk : k ≤ 6) (hp : N ^ k ≤ 2 ^ 53) (h53 : N ≤ 2 ^ 53 - 10) : ∀ i, i < k → Fl.NoNaN64 (FP.dmul (own_ch n i) (FP.l2d (n - ((Int32.ofNat i).toInt64)))) ∧ Fl.NoNaN64 (own_ch n (i + 1)) := by
  intro i hi
  have h := own_chI n N k hN hk hp h53 (i + 1) (by omega)
  exact ⟨Fl.val64_no.mpr (FP.Core.Whole.ne_nan (h.2 i (by omega))), Fl.val64_no.mpr (FP.Core.Whole.ne_nan h.1)⟩
theorem own_b2 (N : Nat) : (N : Int) * (N - 1) = 2 * own_bin N 2 := by
  have h0 := own_bin_step N 0
  have h1 := own_bin_step N 1
  have e : own_bin N 0 = 1 := by cases N <;> rfl
  rw [e] at h0
  simp at h0 h1
  grind
theorem own_b3 (N : Nat) : (N : Int) * (N - 1) * (N - 2) = 6 * own_bin N 3 := by
  have h := own_bin_step N 2
  have h2 := own_b2 N
  rw [h2]
  simp at h
  grind
theorem own_b4 (N : Nat) : (N : Int) * (N - 1) * (N - 2) * (N - 3) = 24 * own_bin N 4 := by
  have h := own_bin_step N 3
  rw [own_b3 N]
  simp at h
  grind
theorem own_b5 (N : Nat) : (N : Int) * (N - 1) * (N - 2) * (N - 3) * (N - 4) = 120 * own_bin N 5 := by
  have h := own_bin_step N 4
  rw [own_b4 N]
  simp at h
  grind
theorem own_b6 (N : Nat) : (N : Int) * (N - 1) * (N - 2) * (N - 3) * (N - 4) * (N - 5) = 720 * own_bin N 6 := by
  have h := own_bin_step N 5
  rw [own_b5 N]
  simp at h
  grind
theorem own_lm (x y : Int64) (X Y B : Int) (hx : x.toInt = X) (hy : y.toInt = Y) (h : X * Y = B) (b1 : 0 ≤ B) (b2 : B < 9223372036854775808) : (x * y).toInt = B := by
  have := FP.Core.int64_mul (a := x) (b := y) (by rw [hx, hy, h]; omega) (by rw [hx, hy, h]; omega)
  rw [this, hx, hy, h]
theorem own_ls (n : Int64) (c : Int64) (N : Nat) (C : Int) (hN : n.toInt = N) (hc : c.toInt = C) (h0 : 0 ≤ C) (h9 : C < 100) : (n - c).toInt = (N : Int) - C := by
  have h1 := c_lsub n c
  have h4 := rng64 (n - c)
  have h5 := rng64 n
  omega
theorem own_binn (N k : Nat) (hp : N ^ k ≤ 2 ^ 53) : (own_bin N k : Int) ≤ 9007199254740992 := by
  have := own_bin_pow N k
  have : own_bin N k ≤ 2 ^ 53 := Nat.le_trans this hp
  omega
theorem own_bb (N k i : Nat) (hi : i ≤ k) (hp : N ^ k ≤ 2 ^ 53) : (own_bin N i : Int) ≤ 9007199254740992 := by
  have := own_binb N k i hi hp
  omega
theorem own_dv (x c : Int64) (C B : Int) (hc : c.toInt = C) (hC : 0 < C) (hx : x.toInt = C * B) (hB : 0 ≤ B) : (x / c).toInt = B := by
  have hm : c ≠ -1 := fun q => by rw [q] at hc; have : (-1 : Int64).toInt = -1 := by decide
                                  omega
  have h := (c_ldiv x c C hc hm).1 (by rw [hx]; exact Int.mul_nonneg (by omega) hB)
  rw [h, hx, Int.mul_ediv_cancel_left _ (by omega)]
theorem own_p2 (n : Int64) (N k : Nat) (hN : n.toInt = N) (hk : 2 ≤ k) (hp : N ^ k ≤ 2 ^ 53) : (n * (n - 1)).toInt = 2 * own_bin N 2 := by
  have b := own_bb N k 2 hk hp
  exact own_lm n (n - 1) N (N - 1) _ hN (own_ls n 1 N 1 hN (by decide) (by decide) (by decide)) (own_b2 N) (by omega) (by omega)
theorem own_p3 (n : Int64) (N k : Nat) (hN : n.toInt = N) (hk : 3 ≤ k) (hp : N ^ k ≤ 2 ^ 53) : ((n * (n - 1)) * (n - 2)).toInt = 6 * own_bin N 3 := by
  have b := own_bb N k 3 hk hp
  refine own_lm _ (n - 2) _ (N - 2) _ (own_p2 n N k hN (by omega) hp) (own_ls n 2 N 2 hN (by decide) (by decide) (by decide)) ?_ (by omega) (by omega)
  rw [← own_b3 N, own_b2 N]
theorem own_p4 (n : Int64) (N k : Nat) (hN : n.toInt = N) (hk : 4 ≤ k) (hp : N ^ k ≤ 2 ^ 53) : (((n * (n - 1)) * (n - 2)) * (n - 3)).toInt = 24 * own_bin N 4 := by
  have b := own_bb N k 4 hk hp
  refine own_lm _ (n - 3) _ (N - 3) _ (own_p3 n N k hN (by omega) hp) (own_ls n 3 N 3 hN (by decide) (by decide) (by decide)) ?_ (by omega) (by omega)
  rw [← own_b4 N, own_b3 N]
theorem own_p5 (n : Int64) (N k : Nat) (hN : n.toInt = N) (hk : 5 ≤ k) (hp : N ^ k ≤ 2 ^ 53) : ((((n * (n - 1)) * (n - 2)) * (n - 3)) * (n - 4)).toInt = 120 * own_bin N 5 := by
  have b := own_bb N k 5 hk hp
  refine own_lm _ (n - 4) _ (N - 4) _ (own_p4 n N k hN (by omega) hp) (own_ls n 4 N 4 hN (by decide) (by decide) (by decide)) ?_ (by omega) (by omega)
  rw [← own_b5 N, own_b4 N]
theorem own_p6 (n : Int64) (N k : Nat) (hN : n.toInt = N) (hk : 6 ≤ k) (hp : N ^ k ≤ 2 ^ 53) : (((((n * (n - 1)) * (n - 2)) * (n - 3)) * (n - 4)) * (n - 5)).toInt = 720 * own_bin N 6 := by
  have b := own_bb N k 6 hk hp
  refine own_lm _ (n - 5) _ (N - 5) _ (own_p5 n N k hN (by omega) hp) (own_ls n 5 N 5 hN (by decide) (by decide) (by decide)) ?_ (by omega) (by omega)
  rw [← own_b6 N, own_b5 N]
theorem own_refI (n : Int64) (N k : Nat) (hN : n.toInt = N) (h2 : 2 ≤ k) (h6 : k ≤ 6) (hp : N ^ k ≤ 2 ^ 53) : (own_ref n (Int32.ofNat k)).toInt = own_bin N k := by
  have : k = 2 ∨ k = 3 ∨ k = 4 ∨ k = 5 ∨ k = 6 := by omega
  rcases this with rfl | rfl | rfl | rfl | rfl
  · exact own_dv _ 2 2 _ (by decide) (by decide) (own_p2 n N 2 hN (by omega) hp) (by omega)
  · exact own_dv _ 6 6 _ (by decide) (by decide) (own_p3 n N 3 hN (by omega) hp) (by omega)
  · exact own_dv _ 24 24 _ (by decide) (by decide) (own_p4 n N 4 hN (by omega) hp) (by omega)
  · exact own_dv _ 120 120 _ (by decide) (by decide) (own_p5 n N 5 hN (by omega) hp) (by omega)
  · exact own_dv _ 720 720 _ (by decide) (by decide) (own_p6 n N 6 hN (by omega) hp) (by omega)
theorem own_cmp (n : Int64) (kk : Int32) (N k : Nat) (hkk : kk = Int32.ofNat k) (hN : n.toInt = N) (h2 : 2 ≤ k) (h6 : k ≤ 6) (hp : N ^ k ≤ 2 ^ 53) (h53 : N ≤ 2 ^ 53 - 10) : cmpValue (FP.dcmp (own_ch n k) (FP.l2d (own_ref n kk))) .l = 0 := by
  have h := (own_chI n N k hN h6 hp h53 k (Nat.le_refl _)).1
  have hr := own_refI n N k hN h2 h6 hp
  have hl : FP.Core.DInt (own_bin N k : Int) (FP.l2d (own_ref n kk)) := by
    rw [hkk, ← hr]; exact FP.Core.l2d_int (by rw [hr]; exact own_binb N k k (Nat.le_refl _) hp)
  have e : FP.dcmp (own_ch n k) (FP.l2d (own_ref n kk)) = some .eq := by
    have := FP.Core.dcmp_int h hl
    rw [show compare (own_bin N k : Int) (own_bin N k : Int) = .eq by simp] at this
    exact this
  rw [e]; rfl
theorem own_ch1 (n : Int64) : FP.dmul (own_ch n 0) (FP.l2d (n - ((Int32.ofNat 0).toInt64))) = FP.l2d n ∧ own_ch n 1 = FP.l2d n := by
  have e0 : n - ((Int32.ofNat 0).toInt64) = n := by
    rw [show (Int32.ofNat 0).toInt64 = (0 : Int64) by decide]; exact Int64.sub_zero n
  have e1 : FP.dmul (own_ch n 0) (FP.l2d (n - ((Int32.ofNat 0).toInt64))) = FP.l2d n := by
    rw [e0]; exact FP.Core.one_dmul (FP.Core.l2d_notNaN n)
  refine ⟨e1, ?_⟩
  show FP.ddiv (FP.dmul (own_ch n 0) (FP.l2d (n - ((Int32.ofNat 0).toInt64)))) (FP.i2d ((Int32.ofNat 0) + (1 : Int32))) = _
  rw [e1]
  have : FP.i2d ((Int32.ofNat 0) + (1 : Int32)) = FP.Core.dconst1 := by decide +kernel
  rw [this]
  exact FP.Core.ddiv_one (Fl.val64_no.mp (Fl.noNaN64_no.mpr (FP.Core.l2d_notNaN n)))
theorem own_nn1 (n : Int64) : ∀ i, i < 1 → Fl.NoNaN64 (FP.dmul (own_ch n i) (FP.l2d (n - ((Int32.ofNat i).toInt64)))) ∧ Fl.NoNaN64 (own_ch n (i + 1)) := by
  intro i hi
  obtain rfl : i = 0 := by omega
  rw [(own_ch1 n).1, (own_ch1 n).2]
  exact ⟨Fl.noNaN64_no.mpr (FP.Core.l2d_notNaN n), Fl.noNaN64_no.mpr (FP.Core.l2d_notNaN n)⟩
theorem own_cmp1 (n : Int64) : cmpValue (FP.dcmp (own_ch n 1) (FP.l2d n)) .l = 0 := by
  rw [(own_ch1 n).2]; exact dcmpV_self (Fl.noNaN64_no.mpr (FP.Core.l2d_notNaN n)) .l
theorem own_cmp0 (n : Int64) : cmpValue (FP.dcmp (own_ch n 0) FP.dconst1) .l = 0 := by
  show cmpValue (FP.dcmp FP.dconst1 FP.dconst1) .l = 0
  decide +kernel
def own_k (p : Int32) : Int32 := (p &&& (2147483647 : Int32)) % (7 : Int32)
theorem own_k_rng (p : Int32) : 0 ≤ (own_k p).toInt ∧ (own_k p).toInt < 7 := by
  have h1 := c_and p 2147483647 (by decide)
  have h2 := (c_irem (p &&& 2147483647) 7 7 (by decide)).1 h1.1
  unfold own_k
  omega
theorem own_k6 (p : Int32) (h1 : (1 : Int32) < own_k p) (n2 : ¬ own_k p = (2 : Int32)) (n3 : ¬ own_k p = (3 : Int32)) (n4 : ¬ own_k p = (4 : Int32)) (n5 : ¬ own_k p = (5 : Int32)) : own_k p = Int32.ofNat 6 := by
  have r := own_k_rng p
  have e : ∀ (k : Nat), k < 8 → (¬ own_k p = Int32.ofNat k ↔ ¬ (own_k p).toInt = k) := fun k hk => by rw [← own_ofNat k hk, Int32.toInt_inj]
  have q2 := (e 2 (by omega)).mp n2
  have q3 := (e 3 (by omega)).mp n3
  have q4 := (e 4 (by omega)).mp n4
  have q5 := (e 5 (by omega)).mp n5
  rw [Int32.lt_iff_toInt_lt, show (1 : Int32).toInt = 1 by decide] at h1
  apply Int32.toInt_inj.mp
  rw [own_ofNat 6 (by omega)]
  omega
theorem own_k1 (p : Int32) (h1 : ¬ (1 : Int32) < own_k p) (n0 : ¬ own_k p = (0 : Int32)) : own_k p = Int32.ofNat 1 := by
  have r := own_k_rng p
  have q0 : ¬ (own_k p).toInt = 0 := fun q => n0 (Int32.toInt_inj.mp (by rw [q]; decide))
  rw [Int32.lt_iff_toInt_lt, show (1 : Int32).toInt = 1 by decide] at h1
  apply Int32.toInt_inj.mp
  rw [own_ofNat 1 (by omega)]
  omega
theorem own_n (q m : Int64) (b k : Nat) (hb : b ≤ 52) (hm : m.toBitVec.toNat = 2 ^ b - 1) (hk : b * k ≤ 53) (hb1 : b ≤ 50) : ∃ N : Nat, (q &&& m).toInt = N ∧ N ^ k ≤ 2 ^ 53 ∧ N ≤ 2 ^ 53 - 10 := by
  have h := c_maskL q m b (by omega) hm
  have hp : (0 : Int) < ((2 ^ b : Nat) : Int) := by have := Nat.two_pow_pos b; omega
  have h1 := Int.emod_nonneg q.toInt (b := ((2 ^ b : Nat) : Int)) (by omega)
  have h2 := Int.emod_lt_of_pos q.toInt hp
  refine ⟨(q.toInt % ((2 ^ b : Nat) : Int)).toNat, by rw [h]; omega, ?_, ?_⟩
  · have : (q.toInt % ((2 ^ b : Nat) : Int)).toNat ≤ 2 ^ b := by omega
    calc _ ≤ (2 ^ b) ^ k := Nat.pow_le_pow_left this k
      _ = 2 ^ (b * k) := (Nat.pow_mul ..).symm
      _ ≤ 2 ^ 53 := Nat.pow_le_pow_right (by decide) hk
  · have : (q.toInt % ((2 ^ b : Nat) : Int)).toNat ≤ 2 ^ b := by omega
    have h3 : 2 ^ b ≤ 2 ^ 50 := Nat.pow_le_pow_right (by decide) hb1
    omega
theorem own_lt (i j : Nat) (hi : i < 8) (hj : j < 8) : Int32.ofNat i < Int32.ofNat j ↔ i < j := by
  rw [Int32.lt_iff_toInt_lt, own_ofNat i hi, own_ofNat j hj]; omega
theorem d1_5 : decode prog_20_method_6_code 5 = .ok (.iload 5, 2) := by decide +kernel
theorem d1_7 : decode prog_20_method_6_code 7 = .ok (.iload_n 2, 1) := by decide +kernel
theorem d1_8 : decode prog_20_method_6_code 8 = .ok (.if_icmp .ge 24, 3) := by decide +kernel
theorem d1_11 : decode prog_20_method_6_code 11 = .ok (.dload_n 3, 1) := by decide +kernel
theorem d1_12 : decode prog_20_method_6_code 12 = .ok (.lload_n 0, 1) := by decide +kernel
theorem d1_13 : decode prog_20_method_6_code 13 = .ok (.iload 5, 2) := by decide +kernel
theorem d1_15 : decode prog_20_method_6_code 15 = .ok (.i2l, 1) := by decide +kernel
theorem d1_16 : decode prog_20_method_6_code 16 = .ok (.lsub, 1) := by decide +kernel
theorem d1_17 : decode prog_20_method_6_code 17 = .ok (.l2d, 1) := by decide +kernel
theorem d1_18 : decode prog_20_method_6_code 18 = .ok (.dmul, 1) := by decide +kernel
theorem d1_19 : decode prog_20_method_6_code 19 = .ok (.iload 5, 2) := by decide +kernel
theorem d1_21 : decode prog_20_method_6_code 21 = .ok (.iconst 1, 1) := by decide +kernel
theorem d1_22 : decode prog_20_method_6_code 22 = .ok (.iadd, 1) := by decide +kernel
theorem d1_23 : decode prog_20_method_6_code 23 = .ok (.i2d, 1) := by decide +kernel
theorem d1_24 : decode prog_20_method_6_code 24 = .ok (.ddiv, 1) := by decide +kernel
theorem d1_25 : decode prog_20_method_6_code 25 = .ok (.dstore_n 3, 1) := by decide +kernel
theorem d1_26 : decode prog_20_method_6_code 26 = .ok (.iinc 5 1, 3) := by decide +kernel
theorem d1_29 : decode prog_20_method_6_code 29 = .ok (.goto (-24), 3) := by decide +kernel
theorem d1_0 : decode prog_20_method_6_code 0 = .ok (.dconst 1, 1) := by decide +kernel
theorem d1_1 : decode prog_20_method_6_code 1 = .ok (.dstore_n 3, 1) := by decide +kernel
theorem d1_2 : decode prog_20_method_6_code 2 = .ok (.iconst 0, 1) := by decide +kernel
theorem d1_3 : decode prog_20_method_6_code 3 = .ok (.istore 5, 2) := by decide +kernel
theorem d1_32 : decode prog_20_method_6_code 32 = .ok (.dload_n 3, 1) := by decide +kernel
theorem d1_33 : decode prog_20_method_6_code 33 = .ok (.dreturn, 1) := by decide +kernel
theorem pn_0 : plainName "com/example/possible_worlds/possibleworlds/exact/Multinomial" = true := by first | (simp [plainName, overriddenIn]; done) | decide +kernel
theorem ef_rm1 (m : MethodId) (q0 : Int64) (p1 : Int32) : entryFrame m #[(.long q0), (.int p1)] 6 = mkF m 0 #[.val (.long q0), .second, .val (.int p1), .unset, .unset, .unset] [] := by first | (simp [entryFrame, mkF, argsToLocals, Value.category]; done) | rfl
def Q1 (Z : State) (q0 : Int64) (k : Nat) (h0 : Heap) (n0 : Nat) (v : Option Value) (h : Heap) (L : List Loc) : Prop := v = some (.double (own_ch q0 k)) ∧ Fr n0 L ∧ h = h0
set_option maxRecDepth 65536 in
set_option maxHeartbeats 40000000 in
theorem rm1 (l : Launch) (Z : State) (a0 : Array Value) (hw : ∀ d ∈ tables_1, d.before a0 Z = true) (ws : List Jvm.Cond) (q0 : Int64) (p1 : Int32) (k : Nat) (h0 : Heap) (n0 : Nat) (Z0 : n0 ≤ h0.size) (hk : p1 = Int32.ofNat k) (hk6 : k ≤ 6) (hn : ∀ i, i < k → Fl.NoNaN64 (FP.dmul (own_ch q0 i) (FP.l2d (q0 - ((Int32.ofNat i).toInt64)))) ∧ Fl.NoNaN64 (own_ch q0 (i + 1))) :
    MetFree l (⟨"com/example/possible_worlds/possibleworlds/exact/Multinomial", "choose", "(JI)D"⟩ : MethodName) (head1 (Jvm.Cond.code (⟨"com/example/possible_worlds/possibleworlds/exact/Multinomial", "choose", "(JI)D"⟩ : MethodName) prog_20_method_6_code 6 (some .double) :: ws) ({ frames := 0, cells := 0, slots := 0, locals := 0 } : Room)) (fun a U => a = #[(.long q0), (.int p1)] ∧ Z.Warmed39 U.vm ∧ U.heap = h0) (fun _ _ _ _ _ => True) (fun _ U o U' => ∃ v L, o = .returned v ∧ Q1 Z q0 k h0 n0 v U'.heap L ∧ FrameEnd U o U' L ({ frames := 0, cells := 0, slots := 0, locals := 0 } : Room).cells ({ frames := 0, cells := 0, slots := 0, locals := 0 } : Room).slots) := by
  refine MetFree.of_bodySF (plainFor_of_name pn_0) hisR ?_
  intro p e s m args below meth c s₁ Bd hml0 hP hK
  obtain ⟨rfl, hZ, hh⟩ := hP
  have hx := Bd.exec
  have hby := Bd.bytes
  have hml : c.maxLocals = 6 := hml0
  have hown : s.vm.findClass "com/example/possible_worlds/possibleworlds/exact/Multinomial" = some m.cls := findClass_of_methodNamed Bd.named
  have hnm := (name_of_methodNamed Bd.named Bd.method).1
  have X0 : Stand p l e ({ frames := 0, cells := 0, slots := 0, locals := 0 } : Room) s m #[(.long q0), (.int p1)] below meth c s₁ [] 0 0 := Stand.of_body Bd
  have e0 : s₁.heap = h0 := by rw [← hh, Bd.state]; rfl
  have N0 := Fr.nil n0
  have pre0 : ∀ t, Steps p.tables e below (s₁.setTop (mkF m 0 #[.val (.long q0), .second, .val (.int p1), .unset, .unset, .unset] [])) t → Steps p.tables e below (s₁.setTop (entryFrame m #[(.long q0), (.int p1)] 6)) t := fun t k => castTop (ef_rm1 m q0 p1) k
  have loop : ∀ j i, i + j = k → ∀ t, Steps p.tables e below (s₁.setTop (mkF m 32 #[.val (.long q0), .second, .val (.int p1), .val (.double (own_ch q0 k)), .second, .val (.int (Int32.ofNat k))] [])) t → Steps p.tables e below (s₁.setTop (mkF m 5 #[.val (.long q0), .second, .val (.int p1), .val (.double (own_ch q0 i)), .second, .val (.int (Int32.ofNat i))] [])) t := by
    intro j
    induction j with
    | zero =>
      intro i hi t kt
      obtain rfl : i = k := by omega
      show Steps p.tables e below (s₁.setTop (mkF m 5 #[.val (.long q0), .second, .val (.int p1), .val (.double (own_ch q0 i)), .second, .val (.int (Int32.ofNat i))] [])) _
      refine XS.iload X0.here hx rfl (hb hby d1_5) rfl ?_
      show Steps p.tables e below (s₁.setTop (mkF m 7 #[.val (.long q0), .second, .val (.int p1), .val (.double (own_ch q0 i)), .second, .val (.int (Int32.ofNat i))] [(.int (Int32.ofNat i))])) _
      refine XS.iloadN X0.here hx rfl (hb hby d1_7) rfl ?_
      show Steps p.tables e below (s₁.setTop (mkF m 8 #[.val (.long q0), .second, .val (.int p1), .val (.double (own_ch q0 i)), .second, .val (.int (Int32.ofNat i))] [(.int p1), (.int (Int32.ofNat i))])) _
      refine XS.icmpYes X0.here hx rfl (pc0 := 8) (pc' := 32) rfl (hb hby d1_8) rfl (flt (fun q => by rw [hk] at q; exact absurd ((own_lt _ _ (by omega) (by omega)).mp q) (by omega))).2.1 (by decide) (by decide) ?_
      exact kt
    | succ j ih =>
      intro i hi t kt
      show Steps p.tables e below (s₁.setTop (mkF m 5 #[.val (.long q0), .second, .val (.int p1), .val (.double (own_ch q0 i)), .second, .val (.int (Int32.ofNat i))] [])) _
      refine XS.iload X0.here hx rfl (hb hby d1_5) rfl ?_
      show Steps p.tables e below (s₁.setTop (mkF m 7 #[.val (.long q0), .second, .val (.int p1), .val (.double (own_ch q0 i)), .second, .val (.int (Int32.ofNat i))] [(.int (Int32.ofNat i))])) _
      refine XS.iloadN X0.here hx rfl (hb hby d1_7) rfl ?_
      show Steps p.tables e below (s₁.setTop (mkF m 8 #[.val (.long q0), .second, .val (.int p1), .val (.double (own_ch q0 i)), .second, .val (.int (Int32.ofNat i))] [(.int p1), (.int (Int32.ofNat i))])) _
      refine XS.icmpNo X0.here hx rfl (hb hby d1_8) rfl (tlt (by rw [hk]; exact (own_lt _ _ (by omega) (by omega)).mpr (by omega))).2.1 ?_
      show Steps p.tables e below (s₁.setTop (mkF m 11 #[.val (.long q0), .second, .val (.int p1), .val (.double (own_ch q0 i)), .second, .val (.int (Int32.ofNat i))] [])) _
      refine XS.dloadN X0.here hx rfl (hb hby d1_11) rfl ?_
      show Steps p.tables e below (s₁.setTop (mkF m 12 #[.val (.long q0), .second, .val (.int p1), .val (.double (own_ch q0 i)), .second, .val (.int (Int32.ofNat i))] [(.double (own_ch q0 i))])) _
      refine XS.lloadN X0.here hx rfl (hb hby d1_12) rfl ?_
      show Steps p.tables e below (s₁.setTop (mkF m 13 #[.val (.long q0), .second, .val (.int p1), .val (.double (own_ch q0 i)), .second, .val (.int (Int32.ofNat i))] [(.long q0), (.double (own_ch q0 i))])) _
      refine XS.iload X0.here hx rfl (hb hby d1_13) rfl ?_
      show Steps p.tables e below (s₁.setTop (mkF m 15 #[.val (.long q0), .second, .val (.int p1), .val (.double (own_ch q0 i)), .second, .val (.int (Int32.ofNat i))] [(.int (Int32.ofNat i)), (.long q0), (.double (own_ch q0 i))])) _
      refine XS.i2l X0.here hx rfl (hb hby d1_15) rfl ?_
      show Steps p.tables e below (s₁.setTop (mkF m 16 #[.val (.long q0), .second, .val (.int p1), .val (.double (own_ch q0 i)), .second, .val (.int (Int32.ofNat i))] [(.long ((Int32.ofNat i).toInt64)), (.long q0), (.double (own_ch q0 i))])) _
      refine XS.lsub X0.here hx rfl (hb hby d1_16) rfl ?_
      show Steps p.tables e below (s₁.setTop (mkF m 17 #[.val (.long q0), .second, .val (.int p1), .val (.double (own_ch q0 i)), .second, .val (.int (Int32.ofNat i))] [(.long (q0 - ((Int32.ofNat i).toInt64))), (.double (own_ch q0 i))])) _
      refine XS.l2dS X0.here hx rfl (hb hby d1_17) rfl rfl ?_
      show Steps p.tables e below (s₁.setTop (mkF m 18 #[.val (.long q0), .second, .val (.int p1), .val (.double (own_ch q0 i)), .second, .val (.int (Int32.ofNat i))] [(.double (FP.l2d (q0 - ((Int32.ofNat i).toInt64)))), (.double (own_ch q0 i))])) _
      refine XS.dmulS X0.here hx rfl (hb hby d1_18) rfl (hn i (by omega)).1 rfl ?_
      show Steps p.tables e below (s₁.setTop (mkF m 19 #[.val (.long q0), .second, .val (.int p1), .val (.double (own_ch q0 i)), .second, .val (.int (Int32.ofNat i))] [(.double (FP.dmul (own_ch q0 i) (FP.l2d (q0 - ((Int32.ofNat i).toInt64)))))])) _
      refine XS.iload X0.here hx rfl (hb hby d1_19) rfl ?_
      show Steps p.tables e below (s₁.setTop (mkF m 21 #[.val (.long q0), .second, .val (.int p1), .val (.double (own_ch q0 i)), .second, .val (.int (Int32.ofNat i))] [(.int (Int32.ofNat i)), (.double (FP.dmul (own_ch q0 i) (FP.l2d (q0 - ((Int32.ofNat i).toInt64)))))])) _
      refine XS.iconst X0.here hx rfl (hb hby d1_21) ?_
      show Steps p.tables e below (s₁.setTop (mkF m 22 #[.val (.long q0), .second, .val (.int p1), .val (.double (own_ch q0 i)), .second, .val (.int (Int32.ofNat i))] [(.int (1 : Int32)), (.int (Int32.ofNat i)), (.double (FP.dmul (own_ch q0 i) (FP.l2d (q0 - ((Int32.ofNat i).toInt64)))))])) _
      refine XS.iadd X0.here hx rfl (hb hby d1_22) rfl ?_
      show Steps p.tables e below (s₁.setTop (mkF m 23 #[.val (.long q0), .second, .val (.int p1), .val (.double (own_ch q0 i)), .second, .val (.int (Int32.ofNat i))] [(.int ((Int32.ofNat i) + (1 : Int32))), (.double (FP.dmul (own_ch q0 i) (FP.l2d (q0 - ((Int32.ofNat i).toInt64)))))])) _
      refine XS.i2dS X0.here hx rfl (hb hby d1_23) rfl rfl ?_
      show Steps p.tables e below (s₁.setTop (mkF m 24 #[.val (.long q0), .second, .val (.int p1), .val (.double (own_ch q0 i)), .second, .val (.int (Int32.ofNat i))] [(.double (FP.i2d ((Int32.ofNat i) + (1 : Int32)))), (.double (FP.dmul (own_ch q0 i) (FP.l2d (q0 - ((Int32.ofNat i).toInt64)))))])) _
      refine XS.ddivS X0.here hx rfl (hb hby d1_24) rfl (hn i (by omega)).2 rfl ?_
      show Steps p.tables e below (s₁.setTop (mkF m 25 #[.val (.long q0), .second, .val (.int p1), .val (.double (own_ch q0 i)), .second, .val (.int (Int32.ofNat i))] [(.double (FP.ddiv (FP.dmul (own_ch q0 i) (FP.l2d (q0 - ((Int32.ofNat i).toInt64)))) (FP.i2d ((Int32.ofNat i) + (1 : Int32)))))])) _
      refine XS.dstoreN X0.here hx rfl (hb hby d1_25) rfl (l' := #[.val (.long q0), .second, .val (.int p1), .val (.double (own_ch q0 (i + 1))), .second, .val (.int (Int32.ofNat i))]) rfl ?_
      show Steps p.tables e below (s₁.setTop (mkF m 26 #[.val (.long q0), .second, .val (.int p1), .val (.double (own_ch q0 (i + 1))), .second, .val (.int (Int32.ofNat i))] [])) _
      refine XS.iinc X0.here hx rfl (hb hby d1_26) rfl (l' := #[.val (.long q0), .second, .val (.int p1), .val (.double (own_ch q0 (i + 1))), .second, .val (.int ((Int32.ofNat i) + (1 : Int32)))]) rfl ?_
      show Steps p.tables e below (s₁.setTop (mkF m 29 #[.val (.long q0), .second, .val (.int p1), .val (.double (own_ch q0 (i + 1))), .second, .val (.int ((Int32.ofNat i) + (1 : Int32)))] [])) _
      rw [show ((Int32.ofNat i) + (1 : Int32)) = (Int32.ofNat (i + 1)) from own_succ i (by omega)]
      show Steps p.tables e below (s₁.setTop (mkF m 29 #[.val (.long q0), .second, .val (.int p1), .val (.double (own_ch q0 (i + 1))), .second, .val (.int (Int32.ofNat (i + 1)))] [])) _
      refine XS.goto X0.here hx rfl (pc0 := 29) (pc' := 5) rfl (hb hby d1_29) (by decide) (by decide) ?_
      exact ih (i + 1) (by omega) _ kt
  obtain ⟨fs, hr, hrun, hended, hW, hsame⟩ := X0.leave (v := some (.double (own_ch q0 k))) (fun h => by rw [Bd.returns] at h; cases h)
  refine ⟨_, _, pre0 _ ?_, hrun, hended, _, _, rfl, ?_, ⟨_, rfl⟩, hW, hsame.mono (by decide) (by decide)⟩
  · show Steps p.tables e below (s₁.setTop (mkF m 0 #[.val (.long q0), .second, .val (.int p1), .unset, .unset, .unset] [])) _
    refine XS.dconst1 X0.here hx rfl (hb hby d1_0) rfl ?_
    show Steps p.tables e below (s₁.setTop (mkF m 1 #[.val (.long q0), .second, .val (.int p1), .unset, .unset, .unset] [(.double FP.dconst1)])) _
    refine XS.dstoreN X0.here hx rfl (hb hby d1_1) rfl (l' := #[.val (.long q0), .second, .val (.int p1), .val (.double FP.dconst1), .second, .unset]) rfl ?_
    show Steps p.tables e below (s₁.setTop (mkF m 2 #[.val (.long q0), .second, .val (.int p1), .val (.double FP.dconst1), .second, .unset] [])) _
    refine XS.iconst X0.here hx rfl (hb hby d1_2) ?_
    show Steps p.tables e below (s₁.setTop (mkF m 3 #[.val (.long q0), .second, .val (.int p1), .val (.double FP.dconst1), .second, .unset] [(.int (0 : Int32))])) _
    refine XS.istore X0.here hx rfl (hb hby d1_3) rfl (l' := #[.val (.long q0), .second, .val (.int p1), .val (.double FP.dconst1), .second, .val (.int (0 : Int32))]) rfl ?_
    show Steps p.tables e below (s₁.setTop (mkF m 5 #[.val (.long q0), .second, .val (.int p1), .val (.double (own_ch q0 0)), .second, .val (.int (Int32.ofNat 0))] [])) _
    refine loop k 0 (by omega) _ ?_
    show Steps p.tables e below (s₁.setTop (mkF m 32 #[.val (.long q0), .second, .val (.int p1), .val (.double (own_ch q0 k)), .second, .val (.int (Int32.ofNat k))] [])) _
    refine XS.dloadN X0.here hx rfl (hb hby d1_32) rfl ?_
    show Steps p.tables e below (s₁.setTop (mkF m 33 #[.val (.long q0), .second, .val (.int p1), .val (.double (own_ch q0 k)), .second, .val (.int (Int32.ofNat k))] [(.double (own_ch q0 k))])) _
    jvm_step X0.here [X0.here.top, hx, (hb hby d1_33), X0.method', Bd.returns, narrow]
    first | (intro acts; rw [hr _ acts rfl rfl rfl]) | rw [hr _ _ rfl rfl rfl]
    exact Steps.refl _
  · show Q1 Z q0 k h0 n0 _ s₁.heap _
    rw [e0]
    exact ⟨rfl, N0, rfl⟩
theorem d2_0 : decode method_3_code 0 = .ok (.iload_n 2, 1) := by decide +kernel
theorem d2_1 : decode method_3_code 1 = .ok (.iconst 2, 1) := by decide +kernel
theorem d2_2 : decode method_3_code 2 = .ok (.if_icmp .ne 16, 3) := by decide +kernel
theorem d2_5 : decode method_3_code 5 = .ok (.lload_n 0, 1) := by decide +kernel
theorem d2_6 : decode method_3_code 6 = .ok (.lload_n 0, 1) := by decide +kernel
theorem d2_7 : decode method_3_code 7 = .ok (.lconst 1, 1) := by decide +kernel
theorem d2_8 : decode method_3_code 8 = .ok (.lsub, 1) := by decide +kernel
theorem d2_9 : decode method_3_code 9 = .ok (.lmul, 1) := by decide +kernel
theorem d2_10 : decode method_3_code 10 = .ok (.ldc2_w 34, 3) := by decide +kernel
theorem d2_13 : decode method_3_code 13 = .ok (.ldiv, 1) := by decide +kernel
theorem d2_14 : decode method_3_code 14 = .ok (.lstore_n 3, 1) := by decide +kernel
theorem d2_15 : decode method_3_code 15 = .ok (.goto 127, 3) := by decide +kernel
theorem d2_142 : decode method_3_code 142 = .ok (.lload_n 3, 1) := by decide +kernel
theorem d2_143 : decode method_3_code 143 = .ok (.lreturn, 1) := by decide +kernel
theorem d2_18 : decode method_3_code 18 = .ok (.iload_n 2, 1) := by decide +kernel
theorem d2_19 : decode method_3_code 19 = .ok (.iconst 3, 1) := by decide +kernel
theorem d2_20 : decode method_3_code 20 = .ok (.if_icmp .ne 22, 3) := by decide +kernel
theorem d2_23 : decode method_3_code 23 = .ok (.lload_n 0, 1) := by decide +kernel
theorem d2_24 : decode method_3_code 24 = .ok (.lload_n 0, 1) := by decide +kernel
theorem d2_25 : decode method_3_code 25 = .ok (.lconst 1, 1) := by decide +kernel
theorem d2_26 : decode method_3_code 26 = .ok (.lsub, 1) := by decide +kernel
theorem d2_27 : decode method_3_code 27 = .ok (.lmul, 1) := by decide +kernel
theorem d2_28 : decode method_3_code 28 = .ok (.lload_n 0, 1) := by decide +kernel
theorem d2_29 : decode method_3_code 29 = .ok (.ldc2_w 34, 3) := by decide +kernel
theorem d2_32 : decode method_3_code 32 = .ok (.lsub, 1) := by decide +kernel
theorem d2_33 : decode method_3_code 33 = .ok (.lmul, 1) := by decide +kernel
theorem d2_34 : decode method_3_code 34 = .ok (.ldc2_w 36, 3) := by decide +kernel
theorem d2_37 : decode method_3_code 37 = .ok (.ldiv, 1) := by decide +kernel
theorem d2_38 : decode method_3_code 38 = .ok (.lstore_n 3, 1) := by decide +kernel
theorem d2_39 : decode method_3_code 39 = .ok (.goto 103, 3) := by decide +kernel
theorem d2_42 : decode method_3_code 42 = .ok (.iload_n 2, 1) := by decide +kernel
theorem d2_43 : decode method_3_code 43 = .ok (.iconst 4, 1) := by decide +kernel
theorem d2_44 : decode method_3_code 44 = .ok (.if_icmp .ne 28, 3) := by decide +kernel
theorem d2_47 : decode method_3_code 47 = .ok (.lload_n 0, 1) := by decide +kernel
theorem d2_48 : decode method_3_code 48 = .ok (.lload_n 0, 1) := by decide +kernel
theorem d2_49 : decode method_3_code 49 = .ok (.lconst 1, 1) := by decide +kernel
theorem d2_50 : decode method_3_code 50 = .ok (.lsub, 1) := by decide +kernel
theorem d2_51 : decode method_3_code 51 = .ok (.lmul, 1) := by decide +kernel
theorem d2_52 : decode method_3_code 52 = .ok (.lload_n 0, 1) := by decide +kernel
theorem d2_53 : decode method_3_code 53 = .ok (.ldc2_w 34, 3) := by decide +kernel
theorem d2_56 : decode method_3_code 56 = .ok (.lsub, 1) := by decide +kernel
theorem d2_57 : decode method_3_code 57 = .ok (.lmul, 1) := by decide +kernel
theorem d2_58 : decode method_3_code 58 = .ok (.lload_n 0, 1) := by decide +kernel
theorem d2_59 : decode method_3_code 59 = .ok (.ldc2_w 38, 3) := by decide +kernel
theorem d2_62 : decode method_3_code 62 = .ok (.lsub, 1) := by decide +kernel
theorem d2_63 : decode method_3_code 63 = .ok (.lmul, 1) := by decide +kernel
theorem d2_64 : decode method_3_code 64 = .ok (.ldc2_w 40, 3) := by decide +kernel
theorem d2_67 : decode method_3_code 67 = .ok (.ldiv, 1) := by decide +kernel
theorem d2_68 : decode method_3_code 68 = .ok (.lstore_n 3, 1) := by decide +kernel
theorem d2_69 : decode method_3_code 69 = .ok (.goto 73, 3) := by decide +kernel
theorem d2_72 : decode method_3_code 72 = .ok (.iload_n 2, 1) := by decide +kernel
theorem d2_73 : decode method_3_code 73 = .ok (.iconst 5, 1) := by decide +kernel
theorem d2_74 : decode method_3_code 74 = .ok (.if_icmp .ne 34, 3) := by decide +kernel
theorem d2_77 : decode method_3_code 77 = .ok (.lload_n 0, 1) := by decide +kernel
theorem d2_78 : decode method_3_code 78 = .ok (.lload_n 0, 1) := by decide +kernel
theorem d2_79 : decode method_3_code 79 = .ok (.lconst 1, 1) := by decide +kernel
theorem d2_80 : decode method_3_code 80 = .ok (.lsub, 1) := by decide +kernel
theorem d2_81 : decode method_3_code 81 = .ok (.lmul, 1) := by decide +kernel
theorem d2_82 : decode method_3_code 82 = .ok (.lload_n 0, 1) := by decide +kernel
theorem d2_83 : decode method_3_code 83 = .ok (.ldc2_w 34, 3) := by decide +kernel
theorem d2_86 : decode method_3_code 86 = .ok (.lsub, 1) := by decide +kernel
theorem d2_87 : decode method_3_code 87 = .ok (.lmul, 1) := by decide +kernel
theorem d2_88 : decode method_3_code 88 = .ok (.lload_n 0, 1) := by decide +kernel
theorem d2_89 : decode method_3_code 89 = .ok (.ldc2_w 38, 3) := by decide +kernel
theorem d2_92 : decode method_3_code 92 = .ok (.lsub, 1) := by decide +kernel
theorem d2_93 : decode method_3_code 93 = .ok (.lmul, 1) := by decide +kernel
theorem d2_94 : decode method_3_code 94 = .ok (.lload_n 0, 1) := by decide +kernel
theorem d2_95 : decode method_3_code 95 = .ok (.ldc2_w 42, 3) := by decide +kernel
theorem d2_98 : decode method_3_code 98 = .ok (.lsub, 1) := by decide +kernel
theorem d2_99 : decode method_3_code 99 = .ok (.lmul, 1) := by decide +kernel
theorem d2_100 : decode method_3_code 100 = .ok (.ldc2_w 44, 3) := by decide +kernel
theorem d2_103 : decode method_3_code 103 = .ok (.ldiv, 1) := by decide +kernel
theorem d2_104 : decode method_3_code 104 = .ok (.lstore_n 3, 1) := by decide +kernel
theorem d2_105 : decode method_3_code 105 = .ok (.goto 37, 3) := by decide +kernel
theorem d2_108 : decode method_3_code 108 = .ok (.lload_n 0, 1) := by decide +kernel
theorem d2_109 : decode method_3_code 109 = .ok (.lload_n 0, 1) := by decide +kernel
theorem d2_110 : decode method_3_code 110 = .ok (.lconst 1, 1) := by decide +kernel
theorem d2_111 : decode method_3_code 111 = .ok (.lsub, 1) := by decide +kernel
theorem d2_112 : decode method_3_code 112 = .ok (.lmul, 1) := by decide +kernel
theorem d2_113 : decode method_3_code 113 = .ok (.lload_n 0, 1) := by decide +kernel
theorem d2_114 : decode method_3_code 114 = .ok (.ldc2_w 34, 3) := by decide +kernel
theorem d2_117 : decode method_3_code 117 = .ok (.lsub, 1) := by decide +kernel
theorem d2_118 : decode method_3_code 118 = .ok (.lmul, 1) := by decide +kernel
theorem d2_119 : decode method_3_code 119 = .ok (.lload_n 0, 1) := by decide +kernel
theorem d2_120 : decode method_3_code 120 = .ok (.ldc2_w 38, 3) := by decide +kernel
theorem d2_123 : decode method_3_code 123 = .ok (.lsub, 1) := by decide +kernel
theorem d2_124 : decode method_3_code 124 = .ok (.lmul, 1) := by decide +kernel
theorem d2_125 : decode method_3_code 125 = .ok (.lload_n 0, 1) := by decide +kernel
theorem d2_126 : decode method_3_code 126 = .ok (.ldc2_w 42, 3) := by decide +kernel
theorem d2_129 : decode method_3_code 129 = .ok (.lsub, 1) := by decide +kernel
theorem d2_130 : decode method_3_code 130 = .ok (.lmul, 1) := by decide +kernel
theorem d2_131 : decode method_3_code 131 = .ok (.lload_n 0, 1) := by decide +kernel
theorem d2_132 : decode method_3_code 132 = .ok (.ldc2_w 46, 3) := by decide +kernel
theorem d2_135 : decode method_3_code 135 = .ok (.lsub, 1) := by decide +kernel
theorem d2_136 : decode method_3_code 136 = .ok (.lmul, 1) := by decide +kernel
theorem d2_137 : decode method_3_code 137 = .ok (.ldc2_w 48, 3) := by decide +kernel
theorem d2_140 : decode method_3_code 140 = .ok (.ldiv, 1) := by decide +kernel
theorem d2_141 : decode method_3_code 141 = .ok (.lstore_n 3, 1) := by decide +kernel
theorem pn_1 : plainName "com/example/possible_worlds/possibleworlds/exact/MultinomialChoosePinLaw" = true := by first | (simp [plainName, overriddenIn]; done) | decide +kernel
theorem ef_rm2 (m : MethodId) (q0 : Int64) (p1 : Int32) : entryFrame m #[(.long q0), (.int p1)] 5 = mkF m 0 #[.val (.long q0), .second, .val (.int p1), .unset, .unset] [] := by first | (simp [entryFrame, mkF, argsToLocals, Value.category]; done) | rfl
def Q2 (Z : State) (q0 : Int64) (p1 : Int32) (h0 : Heap) (n0 : Nat) (v : Option Value) (h : Heap) (L : List Loc) : Prop := v = some (.long (own_ref q0 p1)) ∧ Fr n0 L ∧ h = h0
set_option maxRecDepth 65536 in
set_option maxHeartbeats 40000000 in
theorem rm2 (l : Launch) (Z : State) (a0 : Array Value) (hw : ∀ d ∈ tables_1, d.before a0 Z = true) (ws : List Jvm.Cond) (q0 : Int64) (p1 : Int32) (h0 : Heap) (n0 : Nat) (Z0 : n0 ≤ h0.size) :
    MetFree l (⟨"com/example/possible_worlds/possibleworlds/exact/MultinomialChoosePinLaw", "reference", "(JI)J"⟩ : MethodName) (head1 (Jvm.Cond.code (⟨"com/example/possible_worlds/possibleworlds/exact/MultinomialChoosePinLaw", "reference", "(JI)J"⟩ : MethodName) method_3_code 5 (some .long) :: ws) ({ frames := 0, cells := 0, slots := 0, locals := 0 } : Room)) (fun a U => a = #[(.long q0), (.int p1)] ∧ Z.Warmed39 U.vm ∧ U.heap = h0) (fun _ _ _ _ _ => True) (fun _ U o U' => ∃ v L, o = .returned v ∧ Q2 Z q0 p1 h0 n0 v U'.heap L ∧ FrameEnd U o U' L ({ frames := 0, cells := 0, slots := 0, locals := 0 } : Room).cells ({ frames := 0, cells := 0, slots := 0, locals := 0 } : Room).slots) := by
  refine MetFree.of_bodySF (plainFor_of_name pn_1) hisR ?_
  intro p e s m args below meth c s₁ Bd hml0 hP hK
  obtain ⟨rfl, hZ, hh⟩ := hP
  have hx := Bd.exec
  have hby := Bd.bytes
  have hml : c.maxLocals = 5 := hml0
  have hown : s.vm.findClass "com/example/possible_worlds/possibleworlds/exact/MultinomialChoosePinLaw" = some m.cls := findClass_of_methodNamed Bd.named
  have hnm := (name_of_methodNamed Bd.named Bd.method).1
  have X0 : Stand p l e ({ frames := 0, cells := 0, slots := 0, locals := 0 } : Room) s m #[(.long q0), (.int p1)] below meth c s₁ [] 0 0 := Stand.of_body Bd
  have e0 : s₁.heap = h0 := by rw [← hh, Bd.state]; rfl
  have N0 := Fr.nil n0
  have pre0 : ∀ t, Steps p.tables e below (s₁.setTop (mkF m 0 #[.val (.long q0), .second, .val (.int p1), .unset, .unset] [])) t → Steps p.tables e below (s₁.setTop (entryFrame m #[(.long q0), (.int p1)] 5)) t := fun t k => castTop (ef_rm2 m q0 p1) k
  have pre1 : ∀ t, Steps p.tables e below (s₁.setTop (mkF m 2 #[.val (.long q0), .second, .val (.int p1), .unset, .unset] [(.int (2 : Int32)), (.int p1)])) t → Steps p.tables e below (s₁.setTop (entryFrame m #[(.long q0), (.int p1)] 5)) t := by
    intro t kt
    refine pre0 _ ?_
    show Steps p.tables e below (s₁.setTop (mkF m 0 #[.val (.long q0), .second, .val (.int p1), .unset, .unset] [])) _
    refine XS.iloadN X0.here hx rfl (hb hby d2_0) rfl ?_
    show Steps p.tables e below (s₁.setTop (mkF m 1 #[.val (.long q0), .second, .val (.int p1), .unset, .unset] [(.int p1)])) _
    refine XS.iconst X0.here hx rfl (hb hby d2_1) ?_
    show Steps p.tables e below (s₁.setTop (mkF m 2 #[.val (.long q0), .second, .val (.int p1), .unset, .unset] [(.int (2 : Int32)), (.int p1)])) _
    exact kt
  by_cases hs2_2 : p1 = (2 : Int32)
  · obtain ⟨fs, hr, hrun, hended, hW, hsame⟩ := X0.leave (v := some (.long ((q0 * (q0 - (1 : Int64))) / (2 : Int64)))) (fun h => by rw [Bd.returns] at h; cases h)
    refine ⟨_, _, pre1 _ ?_, hrun, hended, _, _, rfl, ?_, ⟨_, rfl⟩, hW, hsame.mono (by decide) (by decide)⟩
    · show Steps p.tables e below (s₁.setTop (mkF m 2 #[.val (.long q0), .second, .val (.int p1), .unset, .unset] [(.int (2 : Int32)), (.int p1)])) _
      refine XS.icmpNo X0.here hx rfl (hb hby d2_2) rfl (teq hs2_2).2 ?_
      show Steps p.tables e below (s₁.setTop (mkF m 5 #[.val (.long q0), .second, .val (.int p1), .unset, .unset] [])) _
      refine XS.lloadN X0.here hx rfl (hb hby d2_5) rfl ?_
      show Steps p.tables e below (s₁.setTop (mkF m 6 #[.val (.long q0), .second, .val (.int p1), .unset, .unset] [(.long q0)])) _
      refine XS.lloadN X0.here hx rfl (hb hby d2_6) rfl ?_
      show Steps p.tables e below (s₁.setTop (mkF m 7 #[.val (.long q0), .second, .val (.int p1), .unset, .unset] [(.long q0), (.long q0)])) _
      refine XS.lconst X0.here hx rfl (hb hby d2_7) ?_
      show Steps p.tables e below (s₁.setTop (mkF m 8 #[.val (.long q0), .second, .val (.int p1), .unset, .unset] [(.long (1 : Int64)), (.long q0), (.long q0)])) _
      refine XS.lsub X0.here hx rfl (hb hby d2_8) rfl ?_
      show Steps p.tables e below (s₁.setTop (mkF m 9 #[.val (.long q0), .second, .val (.int p1), .unset, .unset] [(.long (q0 - (1 : Int64))), (.long q0)])) _
      refine XS.lmul X0.here hx rfl (hb hby d2_9) rfl ?_
      show Steps p.tables e below (s₁.setTop (mkF m 10 #[.val (.long q0), .second, .val (.int p1), .unset, .unset] [(.long (q0 * (q0 - (1 : Int64))))])) _
      refine X0.ldc2Long hx hown (mvT hZ (hw _ (List.mem_of_getElem? (i := 11) rfl))) (g := (mkF m 10 #[.val (.long q0), .second, .val (.int p1), .unset, .unset] [(.long (q0 * (q0 - (1 : Int64))))])) rfl (hb hby d2_10) _ ?_
      show Steps p.tables e below (s₁.setTop (mkF m 13 #[.val (.long q0), .second, .val (.int p1), .unset, .unset] [(.long (2 : Int64)), (.long (q0 * (q0 - (1 : Int64))))])) _
      refine XS.ldiv X0.here hx rfl (hb hby d2_13) rfl (by decide) ?_
      show Steps p.tables e below (s₁.setTop (mkF m 14 #[.val (.long q0), .second, .val (.int p1), .unset, .unset] [(.long ((q0 * (q0 - (1 : Int64))) / (2 : Int64)))])) _
      refine XS.lstoreN X0.here hx rfl (hb hby d2_14) rfl (l' := #[.val (.long q0), .second, .val (.int p1), .val (.long ((q0 * (q0 - (1 : Int64))) / (2 : Int64))), .second]) rfl ?_
      show Steps p.tables e below (s₁.setTop (mkF m 15 #[.val (.long q0), .second, .val (.int p1), .val (.long ((q0 * (q0 - (1 : Int64))) / (2 : Int64))), .second] [])) _
      refine XS.goto X0.here hx rfl (pc0 := 15) (pc' := 142) rfl (hb hby d2_15) (by decide) (by decide) ?_
      show Steps p.tables e below (s₁.setTop (mkF m 142 #[.val (.long q0), .second, .val (.int p1), .val (.long ((q0 * (q0 - (1 : Int64))) / (2 : Int64))), .second] [])) _
      refine XS.lloadN X0.here hx rfl (hb hby d2_142) rfl ?_
      show Steps p.tables e below (s₁.setTop (mkF m 143 #[.val (.long q0), .second, .val (.int p1), .val (.long ((q0 * (q0 - (1 : Int64))) / (2 : Int64))), .second] [(.long ((q0 * (q0 - (1 : Int64))) / (2 : Int64)))])) _
      jvm_step X0.here [X0.here.top, hx, (hb hby d2_143), X0.method', Bd.returns, narrow]
      first | (intro acts; rw [hr _ acts rfl rfl rfl]) | rw [hr _ _ rfl rfl rfl]
      exact Steps.refl _
    · show Q2 Z q0 p1 h0 n0 _ s₁.heap _
      rw [e0]
      exact ⟨by simp only [own_ref, if_pos hs2_2], N0, rfl⟩
  · have pre3 : ∀ t, Steps p.tables e below (s₁.setTop (mkF m 20 #[.val (.long q0), .second, .val (.int p1), .unset, .unset] [(.int (3 : Int32)), (.int p1)])) t → Steps p.tables e below (s₁.setTop (entryFrame m #[(.long q0), (.int p1)] 5)) t := by
      intro t kt
      refine pre1 _ ?_
      show Steps p.tables e below (s₁.setTop (mkF m 2 #[.val (.long q0), .second, .val (.int p1), .unset, .unset] [(.int (2 : Int32)), (.int p1)])) _
      refine XS.icmpYes X0.here hx rfl (pc0 := 2) (pc' := 18) rfl (hb hby d2_2) rfl (feq hs2_2).2 (by decide) (by decide) ?_
      show Steps p.tables e below (s₁.setTop (mkF m 18 #[.val (.long q0), .second, .val (.int p1), .unset, .unset] [])) _
      refine XS.iloadN X0.here hx rfl (hb hby d2_18) rfl ?_
      show Steps p.tables e below (s₁.setTop (mkF m 19 #[.val (.long q0), .second, .val (.int p1), .unset, .unset] [(.int p1)])) _
      refine XS.iconst X0.here hx rfl (hb hby d2_19) ?_
      show Steps p.tables e below (s₁.setTop (mkF m 20 #[.val (.long q0), .second, .val (.int p1), .unset, .unset] [(.int (3 : Int32)), (.int p1)])) _
      exact kt
    by_cases hs20_4 : p1 = (3 : Int32)
    · obtain ⟨fs, hr, hrun, hended, hW, hsame⟩ := X0.leave (v := some (.long (((q0 * (q0 - (1 : Int64))) * (q0 - (2 : Int64))) / (6 : Int64)))) (fun h => by rw [Bd.returns] at h; cases h)
      refine ⟨_, _, pre3 _ ?_, hrun, hended, _, _, rfl, ?_, ⟨_, rfl⟩, hW, hsame.mono (by decide) (by decide)⟩
      · show Steps p.tables e below (s₁.setTop (mkF m 20 #[.val (.long q0), .second, .val (.int p1), .unset, .unset] [(.int (3 : Int32)), (.int p1)])) _
        refine XS.icmpNo X0.here hx rfl (hb hby d2_20) rfl (teq hs20_4).2 ?_
        show Steps p.tables e below (s₁.setTop (mkF m 23 #[.val (.long q0), .second, .val (.int p1), .unset, .unset] [])) _
        refine XS.lloadN X0.here hx rfl (hb hby d2_23) rfl ?_
        show Steps p.tables e below (s₁.setTop (mkF m 24 #[.val (.long q0), .second, .val (.int p1), .unset, .unset] [(.long q0)])) _
        refine XS.lloadN X0.here hx rfl (hb hby d2_24) rfl ?_
        show Steps p.tables e below (s₁.setTop (mkF m 25 #[.val (.long q0), .second, .val (.int p1), .unset, .unset] [(.long q0), (.long q0)])) _
        refine XS.lconst X0.here hx rfl (hb hby d2_25) ?_
        show Steps p.tables e below (s₁.setTop (mkF m 26 #[.val (.long q0), .second, .val (.int p1), .unset, .unset] [(.long (1 : Int64)), (.long q0), (.long q0)])) _
        refine XS.lsub X0.here hx rfl (hb hby d2_26) rfl ?_
        show Steps p.tables e below (s₁.setTop (mkF m 27 #[.val (.long q0), .second, .val (.int p1), .unset, .unset] [(.long (q0 - (1 : Int64))), (.long q0)])) _
        refine XS.lmul X0.here hx rfl (hb hby d2_27) rfl ?_
        show Steps p.tables e below (s₁.setTop (mkF m 28 #[.val (.long q0), .second, .val (.int p1), .unset, .unset] [(.long (q0 * (q0 - (1 : Int64))))])) _
        refine XS.lloadN X0.here hx rfl (hb hby d2_28) rfl ?_
        show Steps p.tables e below (s₁.setTop (mkF m 29 #[.val (.long q0), .second, .val (.int p1), .unset, .unset] [(.long q0), (.long (q0 * (q0 - (1 : Int64))))])) _
        refine X0.ldc2Long hx hown (mvT hZ (hw _ (List.mem_of_getElem? (i := 11) rfl))) (g := (mkF m 29 #[.val (.long q0), .second, .val (.int p1), .unset, .unset] [(.long q0), (.long (q0 * (q0 - (1 : Int64))))])) rfl (hb hby d2_29) _ ?_
        show Steps p.tables e below (s₁.setTop (mkF m 32 #[.val (.long q0), .second, .val (.int p1), .unset, .unset] [(.long (2 : Int64)), (.long q0), (.long (q0 * (q0 - (1 : Int64))))])) _
        refine XS.lsub X0.here hx rfl (hb hby d2_32) rfl ?_
        show Steps p.tables e below (s₁.setTop (mkF m 33 #[.val (.long q0), .second, .val (.int p1), .unset, .unset] [(.long (q0 - (2 : Int64))), (.long (q0 * (q0 - (1 : Int64))))])) _
        refine XS.lmul X0.here hx rfl (hb hby d2_33) rfl ?_
        show Steps p.tables e below (s₁.setTop (mkF m 34 #[.val (.long q0), .second, .val (.int p1), .unset, .unset] [(.long ((q0 * (q0 - (1 : Int64))) * (q0 - (2 : Int64))))])) _
        refine X0.ldc2Long hx hown (mvT hZ (hw _ (List.mem_of_getElem? (i := 19) rfl))) (g := (mkF m 34 #[.val (.long q0), .second, .val (.int p1), .unset, .unset] [(.long ((q0 * (q0 - (1 : Int64))) * (q0 - (2 : Int64))))])) rfl (hb hby d2_34) _ ?_
        show Steps p.tables e below (s₁.setTop (mkF m 37 #[.val (.long q0), .second, .val (.int p1), .unset, .unset] [(.long (6 : Int64)), (.long ((q0 * (q0 - (1 : Int64))) * (q0 - (2 : Int64))))])) _
        refine XS.ldiv X0.here hx rfl (hb hby d2_37) rfl (by decide) ?_
        show Steps p.tables e below (s₁.setTop (mkF m 38 #[.val (.long q0), .second, .val (.int p1), .unset, .unset] [(.long (((q0 * (q0 - (1 : Int64))) * (q0 - (2 : Int64))) / (6 : Int64)))])) _
        refine XS.lstoreN X0.here hx rfl (hb hby d2_38) rfl (l' := #[.val (.long q0), .second, .val (.int p1), .val (.long (((q0 * (q0 - (1 : Int64))) * (q0 - (2 : Int64))) / (6 : Int64))), .second]) rfl ?_
        show Steps p.tables e below (s₁.setTop (mkF m 39 #[.val (.long q0), .second, .val (.int p1), .val (.long (((q0 * (q0 - (1 : Int64))) * (q0 - (2 : Int64))) / (6 : Int64))), .second] [])) _
        refine XS.goto X0.here hx rfl (pc0 := 39) (pc' := 142) rfl (hb hby d2_39) (by decide) (by decide) ?_
        show Steps p.tables e below (s₁.setTop (mkF m 142 #[.val (.long q0), .second, .val (.int p1), .val (.long (((q0 * (q0 - (1 : Int64))) * (q0 - (2 : Int64))) / (6 : Int64))), .second] [])) _
        refine XS.lloadN X0.here hx rfl (hb hby d2_142) rfl ?_
        show Steps p.tables e below (s₁.setTop (mkF m 143 #[.val (.long q0), .second, .val (.int p1), .val (.long (((q0 * (q0 - (1 : Int64))) * (q0 - (2 : Int64))) / (6 : Int64))), .second] [(.long (((q0 * (q0 - (1 : Int64))) * (q0 - (2 : Int64))) / (6 : Int64)))])) _
        jvm_step X0.here [X0.here.top, hx, (hb hby d2_143), X0.method', Bd.returns, narrow]
        first | (intro acts; rw [hr _ acts rfl rfl rfl]) | rw [hr _ _ rfl rfl rfl]
        exact Steps.refl _
      · show Q2 Z q0 p1 h0 n0 _ s₁.heap _
        rw [e0]
        exact ⟨by simp only [own_ref, if_neg hs2_2, if_pos hs20_4], N0, rfl⟩
    · have pre5 : ∀ t, Steps p.tables e below (s₁.setTop (mkF m 44 #[.val (.long q0), .second, .val (.int p1), .unset, .unset] [(.int (4 : Int32)), (.int p1)])) t → Steps p.tables e below (s₁.setTop (entryFrame m #[(.long q0), (.int p1)] 5)) t := by
        intro t kt
        refine pre3 _ ?_
        show Steps p.tables e below (s₁.setTop (mkF m 20 #[.val (.long q0), .second, .val (.int p1), .unset, .unset] [(.int (3 : Int32)), (.int p1)])) _
        refine XS.icmpYes X0.here hx rfl (pc0 := 20) (pc' := 42) rfl (hb hby d2_20) rfl (feq hs20_4).2 (by decide) (by decide) ?_
        show Steps p.tables e below (s₁.setTop (mkF m 42 #[.val (.long q0), .second, .val (.int p1), .unset, .unset] [])) _
        refine XS.iloadN X0.here hx rfl (hb hby d2_42) rfl ?_
        show Steps p.tables e below (s₁.setTop (mkF m 43 #[.val (.long q0), .second, .val (.int p1), .unset, .unset] [(.int p1)])) _
        refine XS.iconst X0.here hx rfl (hb hby d2_43) ?_
        show Steps p.tables e below (s₁.setTop (mkF m 44 #[.val (.long q0), .second, .val (.int p1), .unset, .unset] [(.int (4 : Int32)), (.int p1)])) _
        exact kt
      by_cases hs44_6 : p1 = (4 : Int32)
      · obtain ⟨fs, hr, hrun, hended, hW, hsame⟩ := X0.leave (v := some (.long ((((q0 * (q0 - (1 : Int64))) * (q0 - (2 : Int64))) * (q0 - (3 : Int64))) / (24 : Int64)))) (fun h => by rw [Bd.returns] at h; cases h)
        refine ⟨_, _, pre5 _ ?_, hrun, hended, _, _, rfl, ?_, ⟨_, rfl⟩, hW, hsame.mono (by decide) (by decide)⟩
        · show Steps p.tables e below (s₁.setTop (mkF m 44 #[.val (.long q0), .second, .val (.int p1), .unset, .unset] [(.int (4 : Int32)), (.int p1)])) _
          refine XS.icmpNo X0.here hx rfl (hb hby d2_44) rfl (teq hs44_6).2 ?_
          show Steps p.tables e below (s₁.setTop (mkF m 47 #[.val (.long q0), .second, .val (.int p1), .unset, .unset] [])) _
          refine XS.lloadN X0.here hx rfl (hb hby d2_47) rfl ?_
          show Steps p.tables e below (s₁.setTop (mkF m 48 #[.val (.long q0), .second, .val (.int p1), .unset, .unset] [(.long q0)])) _
          refine XS.lloadN X0.here hx rfl (hb hby d2_48) rfl ?_
          show Steps p.tables e below (s₁.setTop (mkF m 49 #[.val (.long q0), .second, .val (.int p1), .unset, .unset] [(.long q0), (.long q0)])) _
          refine XS.lconst X0.here hx rfl (hb hby d2_49) ?_
          show Steps p.tables e below (s₁.setTop (mkF m 50 #[.val (.long q0), .second, .val (.int p1), .unset, .unset] [(.long (1 : Int64)), (.long q0), (.long q0)])) _
          refine XS.lsub X0.here hx rfl (hb hby d2_50) rfl ?_
          show Steps p.tables e below (s₁.setTop (mkF m 51 #[.val (.long q0), .second, .val (.int p1), .unset, .unset] [(.long (q0 - (1 : Int64))), (.long q0)])) _
          refine XS.lmul X0.here hx rfl (hb hby d2_51) rfl ?_
          show Steps p.tables e below (s₁.setTop (mkF m 52 #[.val (.long q0), .second, .val (.int p1), .unset, .unset] [(.long (q0 * (q0 - (1 : Int64))))])) _
          refine XS.lloadN X0.here hx rfl (hb hby d2_52) rfl ?_
          show Steps p.tables e below (s₁.setTop (mkF m 53 #[.val (.long q0), .second, .val (.int p1), .unset, .unset] [(.long q0), (.long (q0 * (q0 - (1 : Int64))))])) _
          refine X0.ldc2Long hx hown (mvT hZ (hw _ (List.mem_of_getElem? (i := 11) rfl))) (g := (mkF m 53 #[.val (.long q0), .second, .val (.int p1), .unset, .unset] [(.long q0), (.long (q0 * (q0 - (1 : Int64))))])) rfl (hb hby d2_53) _ ?_
          show Steps p.tables e below (s₁.setTop (mkF m 56 #[.val (.long q0), .second, .val (.int p1), .unset, .unset] [(.long (2 : Int64)), (.long q0), (.long (q0 * (q0 - (1 : Int64))))])) _
          refine XS.lsub X0.here hx rfl (hb hby d2_56) rfl ?_
          show Steps p.tables e below (s₁.setTop (mkF m 57 #[.val (.long q0), .second, .val (.int p1), .unset, .unset] [(.long (q0 - (2 : Int64))), (.long (q0 * (q0 - (1 : Int64))))])) _
          refine XS.lmul X0.here hx rfl (hb hby d2_57) rfl ?_
          show Steps p.tables e below (s₁.setTop (mkF m 58 #[.val (.long q0), .second, .val (.int p1), .unset, .unset] [(.long ((q0 * (q0 - (1 : Int64))) * (q0 - (2 : Int64))))])) _
          refine XS.lloadN X0.here hx rfl (hb hby d2_58) rfl ?_
          show Steps p.tables e below (s₁.setTop (mkF m 59 #[.val (.long q0), .second, .val (.int p1), .unset, .unset] [(.long q0), (.long ((q0 * (q0 - (1 : Int64))) * (q0 - (2 : Int64))))])) _
          refine X0.ldc2Long hx hown (mvT hZ (hw _ (List.mem_of_getElem? (i := 12) rfl))) (g := (mkF m 59 #[.val (.long q0), .second, .val (.int p1), .unset, .unset] [(.long q0), (.long ((q0 * (q0 - (1 : Int64))) * (q0 - (2 : Int64))))])) rfl (hb hby d2_59) _ ?_
          show Steps p.tables e below (s₁.setTop (mkF m 62 #[.val (.long q0), .second, .val (.int p1), .unset, .unset] [(.long (3 : Int64)), (.long q0), (.long ((q0 * (q0 - (1 : Int64))) * (q0 - (2 : Int64))))])) _
          refine XS.lsub X0.here hx rfl (hb hby d2_62) rfl ?_
          show Steps p.tables e below (s₁.setTop (mkF m 63 #[.val (.long q0), .second, .val (.int p1), .unset, .unset] [(.long (q0 - (3 : Int64))), (.long ((q0 * (q0 - (1 : Int64))) * (q0 - (2 : Int64))))])) _
          refine XS.lmul X0.here hx rfl (hb hby d2_63) rfl ?_
          show Steps p.tables e below (s₁.setTop (mkF m 64 #[.val (.long q0), .second, .val (.int p1), .unset, .unset] [(.long (((q0 * (q0 - (1 : Int64))) * (q0 - (2 : Int64))) * (q0 - (3 : Int64))))])) _
          refine X0.ldc2Long hx hown (mvT hZ (hw _ (List.mem_of_getElem? (i := 13) rfl))) (g := (mkF m 64 #[.val (.long q0), .second, .val (.int p1), .unset, .unset] [(.long (((q0 * (q0 - (1 : Int64))) * (q0 - (2 : Int64))) * (q0 - (3 : Int64))))])) rfl (hb hby d2_64) _ ?_
          show Steps p.tables e below (s₁.setTop (mkF m 67 #[.val (.long q0), .second, .val (.int p1), .unset, .unset] [(.long (24 : Int64)), (.long (((q0 * (q0 - (1 : Int64))) * (q0 - (2 : Int64))) * (q0 - (3 : Int64))))])) _
          refine XS.ldiv X0.here hx rfl (hb hby d2_67) rfl (by decide) ?_
          show Steps p.tables e below (s₁.setTop (mkF m 68 #[.val (.long q0), .second, .val (.int p1), .unset, .unset] [(.long ((((q0 * (q0 - (1 : Int64))) * (q0 - (2 : Int64))) * (q0 - (3 : Int64))) / (24 : Int64)))])) _
          refine XS.lstoreN X0.here hx rfl (hb hby d2_68) rfl (l' := #[.val (.long q0), .second, .val (.int p1), .val (.long ((((q0 * (q0 - (1 : Int64))) * (q0 - (2 : Int64))) * (q0 - (3 : Int64))) / (24 : Int64))), .second]) rfl ?_
          show Steps p.tables e below (s₁.setTop (mkF m 69 #[.val (.long q0), .second, .val (.int p1), .val (.long ((((q0 * (q0 - (1 : Int64))) * (q0 - (2 : Int64))) * (q0 - (3 : Int64))) / (24 : Int64))), .second] [])) _
          refine XS.goto X0.here hx rfl (pc0 := 69) (pc' := 142) rfl (hb hby d2_69) (by decide) (by decide) ?_
          show Steps p.tables e below (s₁.setTop (mkF m 142 #[.val (.long q0), .second, .val (.int p1), .val (.long ((((q0 * (q0 - (1 : Int64))) * (q0 - (2 : Int64))) * (q0 - (3 : Int64))) / (24 : Int64))), .second] [])) _
          refine XS.lloadN X0.here hx rfl (hb hby d2_142) rfl ?_
          show Steps p.tables e below (s₁.setTop (mkF m 143 #[.val (.long q0), .second, .val (.int p1), .val (.long ((((q0 * (q0 - (1 : Int64))) * (q0 - (2 : Int64))) * (q0 - (3 : Int64))) / (24 : Int64))), .second] [(.long ((((q0 * (q0 - (1 : Int64))) * (q0 - (2 : Int64))) * (q0 - (3 : Int64))) / (24 : Int64)))])) _
          jvm_step X0.here [X0.here.top, hx, (hb hby d2_143), X0.method', Bd.returns, narrow]
          first | (intro acts; rw [hr _ acts rfl rfl rfl]) | rw [hr _ _ rfl rfl rfl]
          exact Steps.refl _
        · show Q2 Z q0 p1 h0 n0 _ s₁.heap _
          rw [e0]
          exact ⟨by simp only [own_ref, if_neg hs2_2, if_neg hs20_4, if_pos hs44_6], N0, rfl⟩
      · have pre7 : ∀ t, Steps p.tables e below (s₁.setTop (mkF m 74 #[.val (.long q0), .second, .val (.int p1), .unset, .unset] [(.int (5 : Int32)), (.int p1)])) t → Steps p.tables e below (s₁.setTop (entryFrame m #[(.long q0), (.int p1)] 5)) t := by
          intro t kt
          refine pre5 _ ?_
          show Steps p.tables e below (s₁.setTop (mkF m 44 #[.val (.long q0), .second, .val (.int p1), .unset, .unset] [(.int (4 : Int32)), (.int p1)])) _
          refine XS.icmpYes X0.here hx rfl (pc0 := 44) (pc' := 72) rfl (hb hby d2_44) rfl (feq hs44_6).2 (by decide) (by decide) ?_
          show Steps p.tables e below (s₁.setTop (mkF m 72 #[.val (.long q0), .second, .val (.int p1), .unset, .unset] [])) _
          refine XS.iloadN X0.here hx rfl (hb hby d2_72) rfl ?_
          show Steps p.tables e below (s₁.setTop (mkF m 73 #[.val (.long q0), .second, .val (.int p1), .unset, .unset] [(.int p1)])) _
          refine XS.iconst X0.here hx rfl (hb hby d2_73) ?_
          show Steps p.tables e below (s₁.setTop (mkF m 74 #[.val (.long q0), .second, .val (.int p1), .unset, .unset] [(.int (5 : Int32)), (.int p1)])) _
          exact kt
        by_cases hs74_8 : p1 = (5 : Int32)
        · obtain ⟨fs, hr, hrun, hended, hW, hsame⟩ := X0.leave (v := some (.long (((((q0 * (q0 - (1 : Int64))) * (q0 - (2 : Int64))) * (q0 - (3 : Int64))) * (q0 - (4 : Int64))) / (120 : Int64)))) (fun h => by rw [Bd.returns] at h; cases h)
          refine ⟨_, _, pre7 _ ?_, hrun, hended, _, _, rfl, ?_, ⟨_, rfl⟩, hW, hsame.mono (by decide) (by decide)⟩
          · show Steps p.tables e below (s₁.setTop (mkF m 74 #[.val (.long q0), .second, .val (.int p1), .unset, .unset] [(.int (5 : Int32)), (.int p1)])) _
            refine XS.icmpNo X0.here hx rfl (hb hby d2_74) rfl (teq hs74_8).2 ?_
            show Steps p.tables e below (s₁.setTop (mkF m 77 #[.val (.long q0), .second, .val (.int p1), .unset, .unset] [])) _
            refine XS.lloadN X0.here hx rfl (hb hby d2_77) rfl ?_
            show Steps p.tables e below (s₁.setTop (mkF m 78 #[.val (.long q0), .second, .val (.int p1), .unset, .unset] [(.long q0)])) _
            refine XS.lloadN X0.here hx rfl (hb hby d2_78) rfl ?_
            show Steps p.tables e below (s₁.setTop (mkF m 79 #[.val (.long q0), .second, .val (.int p1), .unset, .unset] [(.long q0), (.long q0)])) _
            refine XS.lconst X0.here hx rfl (hb hby d2_79) ?_
            show Steps p.tables e below (s₁.setTop (mkF m 80 #[.val (.long q0), .second, .val (.int p1), .unset, .unset] [(.long (1 : Int64)), (.long q0), (.long q0)])) _
            refine XS.lsub X0.here hx rfl (hb hby d2_80) rfl ?_
            show Steps p.tables e below (s₁.setTop (mkF m 81 #[.val (.long q0), .second, .val (.int p1), .unset, .unset] [(.long (q0 - (1 : Int64))), (.long q0)])) _
            refine XS.lmul X0.here hx rfl (hb hby d2_81) rfl ?_
            show Steps p.tables e below (s₁.setTop (mkF m 82 #[.val (.long q0), .second, .val (.int p1), .unset, .unset] [(.long (q0 * (q0 - (1 : Int64))))])) _
            refine XS.lloadN X0.here hx rfl (hb hby d2_82) rfl ?_
            show Steps p.tables e below (s₁.setTop (mkF m 83 #[.val (.long q0), .second, .val (.int p1), .unset, .unset] [(.long q0), (.long (q0 * (q0 - (1 : Int64))))])) _
            refine X0.ldc2Long hx hown (mvT hZ (hw _ (List.mem_of_getElem? (i := 11) rfl))) (g := (mkF m 83 #[.val (.long q0), .second, .val (.int p1), .unset, .unset] [(.long q0), (.long (q0 * (q0 - (1 : Int64))))])) rfl (hb hby d2_83) _ ?_
            show Steps p.tables e below (s₁.setTop (mkF m 86 #[.val (.long q0), .second, .val (.int p1), .unset, .unset] [(.long (2 : Int64)), (.long q0), (.long (q0 * (q0 - (1 : Int64))))])) _
            refine XS.lsub X0.here hx rfl (hb hby d2_86) rfl ?_
            show Steps p.tables e below (s₁.setTop (mkF m 87 #[.val (.long q0), .second, .val (.int p1), .unset, .unset] [(.long (q0 - (2 : Int64))), (.long (q0 * (q0 - (1 : Int64))))])) _
            refine XS.lmul X0.here hx rfl (hb hby d2_87) rfl ?_
            show Steps p.tables e below (s₁.setTop (mkF m 88 #[.val (.long q0), .second, .val (.int p1), .unset, .unset] [(.long ((q0 * (q0 - (1 : Int64))) * (q0 - (2 : Int64))))])) _
            refine XS.lloadN X0.here hx rfl (hb hby d2_88) rfl ?_
            show Steps p.tables e below (s₁.setTop (mkF m 89 #[.val (.long q0), .second, .val (.int p1), .unset, .unset] [(.long q0), (.long ((q0 * (q0 - (1 : Int64))) * (q0 - (2 : Int64))))])) _
            refine X0.ldc2Long hx hown (mvT hZ (hw _ (List.mem_of_getElem? (i := 12) rfl))) (g := (mkF m 89 #[.val (.long q0), .second, .val (.int p1), .unset, .unset] [(.long q0), (.long ((q0 * (q0 - (1 : Int64))) * (q0 - (2 : Int64))))])) rfl (hb hby d2_89) _ ?_
            show Steps p.tables e below (s₁.setTop (mkF m 92 #[.val (.long q0), .second, .val (.int p1), .unset, .unset] [(.long (3 : Int64)), (.long q0), (.long ((q0 * (q0 - (1 : Int64))) * (q0 - (2 : Int64))))])) _
            refine XS.lsub X0.here hx rfl (hb hby d2_92) rfl ?_
            show Steps p.tables e below (s₁.setTop (mkF m 93 #[.val (.long q0), .second, .val (.int p1), .unset, .unset] [(.long (q0 - (3 : Int64))), (.long ((q0 * (q0 - (1 : Int64))) * (q0 - (2 : Int64))))])) _
            refine XS.lmul X0.here hx rfl (hb hby d2_93) rfl ?_
            show Steps p.tables e below (s₁.setTop (mkF m 94 #[.val (.long q0), .second, .val (.int p1), .unset, .unset] [(.long (((q0 * (q0 - (1 : Int64))) * (q0 - (2 : Int64))) * (q0 - (3 : Int64))))])) _
            refine XS.lloadN X0.here hx rfl (hb hby d2_94) rfl ?_
            show Steps p.tables e below (s₁.setTop (mkF m 95 #[.val (.long q0), .second, .val (.int p1), .unset, .unset] [(.long q0), (.long (((q0 * (q0 - (1 : Int64))) * (q0 - (2 : Int64))) * (q0 - (3 : Int64))))])) _
            refine X0.ldc2Long hx hown (mvT hZ (hw _ (List.mem_of_getElem? (i := 15) rfl))) (g := (mkF m 95 #[.val (.long q0), .second, .val (.int p1), .unset, .unset] [(.long q0), (.long (((q0 * (q0 - (1 : Int64))) * (q0 - (2 : Int64))) * (q0 - (3 : Int64))))])) rfl (hb hby d2_95) _ ?_
            show Steps p.tables e below (s₁.setTop (mkF m 98 #[.val (.long q0), .second, .val (.int p1), .unset, .unset] [(.long (4 : Int64)), (.long q0), (.long (((q0 * (q0 - (1 : Int64))) * (q0 - (2 : Int64))) * (q0 - (3 : Int64))))])) _
            refine XS.lsub X0.here hx rfl (hb hby d2_98) rfl ?_
            show Steps p.tables e below (s₁.setTop (mkF m 99 #[.val (.long q0), .second, .val (.int p1), .unset, .unset] [(.long (q0 - (4 : Int64))), (.long (((q0 * (q0 - (1 : Int64))) * (q0 - (2 : Int64))) * (q0 - (3 : Int64))))])) _
            refine XS.lmul X0.here hx rfl (hb hby d2_99) rfl ?_
            show Steps p.tables e below (s₁.setTop (mkF m 100 #[.val (.long q0), .second, .val (.int p1), .unset, .unset] [(.long ((((q0 * (q0 - (1 : Int64))) * (q0 - (2 : Int64))) * (q0 - (3 : Int64))) * (q0 - (4 : Int64))))])) _
            refine X0.ldc2Long hx hown (mvT hZ (hw _ (List.mem_of_getElem? (i := 16) rfl))) (g := (mkF m 100 #[.val (.long q0), .second, .val (.int p1), .unset, .unset] [(.long ((((q0 * (q0 - (1 : Int64))) * (q0 - (2 : Int64))) * (q0 - (3 : Int64))) * (q0 - (4 : Int64))))])) rfl (hb hby d2_100) _ ?_
            show Steps p.tables e below (s₁.setTop (mkF m 103 #[.val (.long q0), .second, .val (.int p1), .unset, .unset] [(.long (120 : Int64)), (.long ((((q0 * (q0 - (1 : Int64))) * (q0 - (2 : Int64))) * (q0 - (3 : Int64))) * (q0 - (4 : Int64))))])) _
            refine XS.ldiv X0.here hx rfl (hb hby d2_103) rfl (by decide) ?_
            show Steps p.tables e below (s₁.setTop (mkF m 104 #[.val (.long q0), .second, .val (.int p1), .unset, .unset] [(.long (((((q0 * (q0 - (1 : Int64))) * (q0 - (2 : Int64))) * (q0 - (3 : Int64))) * (q0 - (4 : Int64))) / (120 : Int64)))])) _
            refine XS.lstoreN X0.here hx rfl (hb hby d2_104) rfl (l' := #[.val (.long q0), .second, .val (.int p1), .val (.long (((((q0 * (q0 - (1 : Int64))) * (q0 - (2 : Int64))) * (q0 - (3 : Int64))) * (q0 - (4 : Int64))) / (120 : Int64))), .second]) rfl ?_
            show Steps p.tables e below (s₁.setTop (mkF m 105 #[.val (.long q0), .second, .val (.int p1), .val (.long (((((q0 * (q0 - (1 : Int64))) * (q0 - (2 : Int64))) * (q0 - (3 : Int64))) * (q0 - (4 : Int64))) / (120 : Int64))), .second] [])) _
            refine XS.goto X0.here hx rfl (pc0 := 105) (pc' := 142) rfl (hb hby d2_105) (by decide) (by decide) ?_
            show Steps p.tables e below (s₁.setTop (mkF m 142 #[.val (.long q0), .second, .val (.int p1), .val (.long (((((q0 * (q0 - (1 : Int64))) * (q0 - (2 : Int64))) * (q0 - (3 : Int64))) * (q0 - (4 : Int64))) / (120 : Int64))), .second] [])) _
            refine XS.lloadN X0.here hx rfl (hb hby d2_142) rfl ?_
            show Steps p.tables e below (s₁.setTop (mkF m 143 #[.val (.long q0), .second, .val (.int p1), .val (.long (((((q0 * (q0 - (1 : Int64))) * (q0 - (2 : Int64))) * (q0 - (3 : Int64))) * (q0 - (4 : Int64))) / (120 : Int64))), .second] [(.long (((((q0 * (q0 - (1 : Int64))) * (q0 - (2 : Int64))) * (q0 - (3 : Int64))) * (q0 - (4 : Int64))) / (120 : Int64)))])) _
            jvm_step X0.here [X0.here.top, hx, (hb hby d2_143), X0.method', Bd.returns, narrow]
            first | (intro acts; rw [hr _ acts rfl rfl rfl]) | rw [hr _ _ rfl rfl rfl]
            exact Steps.refl _
          · show Q2 Z q0 p1 h0 n0 _ s₁.heap _
            rw [e0]
            exact ⟨by simp only [own_ref, if_neg hs2_2, if_neg hs20_4, if_neg hs44_6, if_pos hs74_8], N0, rfl⟩
        · obtain ⟨fs, hr, hrun, hended, hW, hsame⟩ := X0.leave (v := some (.long ((((((q0 * (q0 - (1 : Int64))) * (q0 - (2 : Int64))) * (q0 - (3 : Int64))) * (q0 - (4 : Int64))) * (q0 - (5 : Int64))) / (720 : Int64)))) (fun h => by rw [Bd.returns] at h; cases h)
          refine ⟨_, _, pre7 _ ?_, hrun, hended, _, _, rfl, ?_, ⟨_, rfl⟩, hW, hsame.mono (by decide) (by decide)⟩
          · show Steps p.tables e below (s₁.setTop (mkF m 74 #[.val (.long q0), .second, .val (.int p1), .unset, .unset] [(.int (5 : Int32)), (.int p1)])) _
            refine XS.icmpYes X0.here hx rfl (pc0 := 74) (pc' := 108) rfl (hb hby d2_74) rfl (feq hs74_8).2 (by decide) (by decide) ?_
            show Steps p.tables e below (s₁.setTop (mkF m 108 #[.val (.long q0), .second, .val (.int p1), .unset, .unset] [])) _
            refine XS.lloadN X0.here hx rfl (hb hby d2_108) rfl ?_
            show Steps p.tables e below (s₁.setTop (mkF m 109 #[.val (.long q0), .second, .val (.int p1), .unset, .unset] [(.long q0)])) _
            refine XS.lloadN X0.here hx rfl (hb hby d2_109) rfl ?_
            show Steps p.tables e below (s₁.setTop (mkF m 110 #[.val (.long q0), .second, .val (.int p1), .unset, .unset] [(.long q0), (.long q0)])) _
            refine XS.lconst X0.here hx rfl (hb hby d2_110) ?_
            show Steps p.tables e below (s₁.setTop (mkF m 111 #[.val (.long q0), .second, .val (.int p1), .unset, .unset] [(.long (1 : Int64)), (.long q0), (.long q0)])) _
            refine XS.lsub X0.here hx rfl (hb hby d2_111) rfl ?_
            show Steps p.tables e below (s₁.setTop (mkF m 112 #[.val (.long q0), .second, .val (.int p1), .unset, .unset] [(.long (q0 - (1 : Int64))), (.long q0)])) _
            refine XS.lmul X0.here hx rfl (hb hby d2_112) rfl ?_
            show Steps p.tables e below (s₁.setTop (mkF m 113 #[.val (.long q0), .second, .val (.int p1), .unset, .unset] [(.long (q0 * (q0 - (1 : Int64))))])) _
            refine XS.lloadN X0.here hx rfl (hb hby d2_113) rfl ?_
            show Steps p.tables e below (s₁.setTop (mkF m 114 #[.val (.long q0), .second, .val (.int p1), .unset, .unset] [(.long q0), (.long (q0 * (q0 - (1 : Int64))))])) _
            refine X0.ldc2Long hx hown (mvT hZ (hw _ (List.mem_of_getElem? (i := 11) rfl))) (g := (mkF m 114 #[.val (.long q0), .second, .val (.int p1), .unset, .unset] [(.long q0), (.long (q0 * (q0 - (1 : Int64))))])) rfl (hb hby d2_114) _ ?_
            show Steps p.tables e below (s₁.setTop (mkF m 117 #[.val (.long q0), .second, .val (.int p1), .unset, .unset] [(.long (2 : Int64)), (.long q0), (.long (q0 * (q0 - (1 : Int64))))])) _
            refine XS.lsub X0.here hx rfl (hb hby d2_117) rfl ?_
            show Steps p.tables e below (s₁.setTop (mkF m 118 #[.val (.long q0), .second, .val (.int p1), .unset, .unset] [(.long (q0 - (2 : Int64))), (.long (q0 * (q0 - (1 : Int64))))])) _
            refine XS.lmul X0.here hx rfl (hb hby d2_118) rfl ?_
            show Steps p.tables e below (s₁.setTop (mkF m 119 #[.val (.long q0), .second, .val (.int p1), .unset, .unset] [(.long ((q0 * (q0 - (1 : Int64))) * (q0 - (2 : Int64))))])) _
            refine XS.lloadN X0.here hx rfl (hb hby d2_119) rfl ?_
            show Steps p.tables e below (s₁.setTop (mkF m 120 #[.val (.long q0), .second, .val (.int p1), .unset, .unset] [(.long q0), (.long ((q0 * (q0 - (1 : Int64))) * (q0 - (2 : Int64))))])) _
            refine X0.ldc2Long hx hown (mvT hZ (hw _ (List.mem_of_getElem? (i := 12) rfl))) (g := (mkF m 120 #[.val (.long q0), .second, .val (.int p1), .unset, .unset] [(.long q0), (.long ((q0 * (q0 - (1 : Int64))) * (q0 - (2 : Int64))))])) rfl (hb hby d2_120) _ ?_
            show Steps p.tables e below (s₁.setTop (mkF m 123 #[.val (.long q0), .second, .val (.int p1), .unset, .unset] [(.long (3 : Int64)), (.long q0), (.long ((q0 * (q0 - (1 : Int64))) * (q0 - (2 : Int64))))])) _
            refine XS.lsub X0.here hx rfl (hb hby d2_123) rfl ?_
            show Steps p.tables e below (s₁.setTop (mkF m 124 #[.val (.long q0), .second, .val (.int p1), .unset, .unset] [(.long (q0 - (3 : Int64))), (.long ((q0 * (q0 - (1 : Int64))) * (q0 - (2 : Int64))))])) _
            refine XS.lmul X0.here hx rfl (hb hby d2_124) rfl ?_
            show Steps p.tables e below (s₁.setTop (mkF m 125 #[.val (.long q0), .second, .val (.int p1), .unset, .unset] [(.long (((q0 * (q0 - (1 : Int64))) * (q0 - (2 : Int64))) * (q0 - (3 : Int64))))])) _
            refine XS.lloadN X0.here hx rfl (hb hby d2_125) rfl ?_
            show Steps p.tables e below (s₁.setTop (mkF m 126 #[.val (.long q0), .second, .val (.int p1), .unset, .unset] [(.long q0), (.long (((q0 * (q0 - (1 : Int64))) * (q0 - (2 : Int64))) * (q0 - (3 : Int64))))])) _
            refine X0.ldc2Long hx hown (mvT hZ (hw _ (List.mem_of_getElem? (i := 15) rfl))) (g := (mkF m 126 #[.val (.long q0), .second, .val (.int p1), .unset, .unset] [(.long q0), (.long (((q0 * (q0 - (1 : Int64))) * (q0 - (2 : Int64))) * (q0 - (3 : Int64))))])) rfl (hb hby d2_126) _ ?_
            show Steps p.tables e below (s₁.setTop (mkF m 129 #[.val (.long q0), .second, .val (.int p1), .unset, .unset] [(.long (4 : Int64)), (.long q0), (.long (((q0 * (q0 - (1 : Int64))) * (q0 - (2 : Int64))) * (q0 - (3 : Int64))))])) _
            refine XS.lsub X0.here hx rfl (hb hby d2_129) rfl ?_
            show Steps p.tables e below (s₁.setTop (mkF m 130 #[.val (.long q0), .second, .val (.int p1), .unset, .unset] [(.long (q0 - (4 : Int64))), (.long (((q0 * (q0 - (1 : Int64))) * (q0 - (2 : Int64))) * (q0 - (3 : Int64))))])) _
            refine XS.lmul X0.here hx rfl (hb hby d2_130) rfl ?_
            show Steps p.tables e below (s₁.setTop (mkF m 131 #[.val (.long q0), .second, .val (.int p1), .unset, .unset] [(.long ((((q0 * (q0 - (1 : Int64))) * (q0 - (2 : Int64))) * (q0 - (3 : Int64))) * (q0 - (4 : Int64))))])) _
            refine XS.lloadN X0.here hx rfl (hb hby d2_131) rfl ?_
            show Steps p.tables e below (s₁.setTop (mkF m 132 #[.val (.long q0), .second, .val (.int p1), .unset, .unset] [(.long q0), (.long ((((q0 * (q0 - (1 : Int64))) * (q0 - (2 : Int64))) * (q0 - (3 : Int64))) * (q0 - (4 : Int64))))])) _
            refine X0.ldc2Long hx hown (mvT hZ (hw _ (List.mem_of_getElem? (i := 21) rfl))) (g := (mkF m 132 #[.val (.long q0), .second, .val (.int p1), .unset, .unset] [(.long q0), (.long ((((q0 * (q0 - (1 : Int64))) * (q0 - (2 : Int64))) * (q0 - (3 : Int64))) * (q0 - (4 : Int64))))])) rfl (hb hby d2_132) _ ?_
            show Steps p.tables e below (s₁.setTop (mkF m 135 #[.val (.long q0), .second, .val (.int p1), .unset, .unset] [(.long (5 : Int64)), (.long q0), (.long ((((q0 * (q0 - (1 : Int64))) * (q0 - (2 : Int64))) * (q0 - (3 : Int64))) * (q0 - (4 : Int64))))])) _
            refine XS.lsub X0.here hx rfl (hb hby d2_135) rfl ?_
            show Steps p.tables e below (s₁.setTop (mkF m 136 #[.val (.long q0), .second, .val (.int p1), .unset, .unset] [(.long (q0 - (5 : Int64))), (.long ((((q0 * (q0 - (1 : Int64))) * (q0 - (2 : Int64))) * (q0 - (3 : Int64))) * (q0 - (4 : Int64))))])) _
            refine XS.lmul X0.here hx rfl (hb hby d2_136) rfl ?_
            show Steps p.tables e below (s₁.setTop (mkF m 137 #[.val (.long q0), .second, .val (.int p1), .unset, .unset] [(.long (((((q0 * (q0 - (1 : Int64))) * (q0 - (2 : Int64))) * (q0 - (3 : Int64))) * (q0 - (4 : Int64))) * (q0 - (5 : Int64))))])) _
            refine X0.ldc2Long hx hown (mvT hZ (hw _ (List.mem_of_getElem? (i := 22) rfl))) (g := (mkF m 137 #[.val (.long q0), .second, .val (.int p1), .unset, .unset] [(.long (((((q0 * (q0 - (1 : Int64))) * (q0 - (2 : Int64))) * (q0 - (3 : Int64))) * (q0 - (4 : Int64))) * (q0 - (5 : Int64))))])) rfl (hb hby d2_137) _ ?_
            show Steps p.tables e below (s₁.setTop (mkF m 140 #[.val (.long q0), .second, .val (.int p1), .unset, .unset] [(.long (720 : Int64)), (.long (((((q0 * (q0 - (1 : Int64))) * (q0 - (2 : Int64))) * (q0 - (3 : Int64))) * (q0 - (4 : Int64))) * (q0 - (5 : Int64))))])) _
            refine XS.ldiv X0.here hx rfl (hb hby d2_140) rfl (by decide) ?_
            show Steps p.tables e below (s₁.setTop (mkF m 141 #[.val (.long q0), .second, .val (.int p1), .unset, .unset] [(.long ((((((q0 * (q0 - (1 : Int64))) * (q0 - (2 : Int64))) * (q0 - (3 : Int64))) * (q0 - (4 : Int64))) * (q0 - (5 : Int64))) / (720 : Int64)))])) _
            refine XS.lstoreN X0.here hx rfl (hb hby d2_141) rfl (l' := #[.val (.long q0), .second, .val (.int p1), .val (.long ((((((q0 * (q0 - (1 : Int64))) * (q0 - (2 : Int64))) * (q0 - (3 : Int64))) * (q0 - (4 : Int64))) * (q0 - (5 : Int64))) / (720 : Int64))), .second]) rfl ?_
            show Steps p.tables e below (s₁.setTop (mkF m 142 #[.val (.long q0), .second, .val (.int p1), .val (.long ((((((q0 * (q0 - (1 : Int64))) * (q0 - (2 : Int64))) * (q0 - (3 : Int64))) * (q0 - (4 : Int64))) * (q0 - (5 : Int64))) / (720 : Int64))), .second] [])) _
            refine XS.lloadN X0.here hx rfl (hb hby d2_142) rfl ?_
            show Steps p.tables e below (s₁.setTop (mkF m 143 #[.val (.long q0), .second, .val (.int p1), .val (.long ((((((q0 * (q0 - (1 : Int64))) * (q0 - (2 : Int64))) * (q0 - (3 : Int64))) * (q0 - (4 : Int64))) * (q0 - (5 : Int64))) / (720 : Int64))), .second] [(.long ((((((q0 * (q0 - (1 : Int64))) * (q0 - (2 : Int64))) * (q0 - (3 : Int64))) * (q0 - (4 : Int64))) * (q0 - (5 : Int64))) / (720 : Int64)))])) _
            jvm_step X0.here [X0.here.top, hx, (hb hby d2_143), X0.method', Bd.returns, narrow]
            first | (intro acts; rw [hr _ acts rfl rfl rfl]) | rw [hr _ _ rfl rfl rfl]
            exact Steps.refl _
          · show Q2 Z q0 p1 h0 n0 _ s₁.heap _
            rw [e0]
            exact ⟨by simp only [own_ref, if_neg hs2_2, if_neg hs20_4, if_neg hs44_6, if_neg hs74_8], N0, rfl⟩
theorem pd_0 : parseMethodDescriptor "(JI)D" = some ⟨[.long, .int], some .double⟩ := by decide +kernel
theorem pd_1 : parseMethodDescriptor "(JI)J" = some ⟨[.long, .int], some .long⟩ := by decide +kernel
theorem ef_rm0 (m : MethodId) (p0 : Int32) (q1 : Int64) : entryFrame m #[(.int p0), (.long q1)] maxLocals = mkF m 0 #[.val (.int p0), .val (.long q1), .second, .unset, .unset, .unset, .unset, .unset, .unset, .unset] [] := by first | (simp [entryFrame, mkF, argsToLocals, Value.category, maxLocals]; done) | rfl
def Q0 (Z : State) (p0 : Int32) (h0 : Heap) (n0 : Nat) (v : Option Value) (h : Heap) (L : List Loc) : Prop := v = some (.int 1) ∧ Fr n0 L
set_option maxRecDepth 65536 in
set_option maxHeartbeats 40000000 in
theorem rm0 (l : Launch) (Z : State) (a0 : Array Value) (hw : ∀ d ∈ tables_1, d.before a0 Z = true) (ws : List Jvm.Cond) (p0 : Int32) (q1 : Int64) (h0 : Heap) (n0 : Nat) (Z0 : n0 ≤ h0.size) :
    MetFree l x (head1 (Jvm.Cond.code x code maxLocals ret :: ws) room_1) (fun a U => a = #[(.int p0), (.long q1)] ∧ Z.Warmed39 U.vm ∧ U.heap = h0) (fun _ _ _ _ _ => True) (fun _ U o U' => ∃ v L, o = .returned v ∧ Q0 Z p0 h0 n0 v U'.heap L ∧ FrameEnd U o U' L room_1.cells room_1.slots) := by
  refine MetFree.of_bodySF (plainFor_of_name pn_1) hisR ?_
  intro p e s m args below meth c s₁ Bd hml0 hP hK
  obtain ⟨rfl, hZ, hh⟩ := hP
  have hx := Bd.exec
  have hby := Bd.bytes
  have hml : c.maxLocals = 10 := hml0
  have hown : s.vm.findClass "com/example/possible_worlds/possibleworlds/exact/MultinomialChoosePinLaw" = some m.cls := findClass_of_methodNamed Bd.named
  have hnm := (name_of_methodNamed Bd.named Bd.method).1
  have X0 : Stand p l e room_1 s m #[(.int p0), (.long q1)] below meth c s₁ [] 0 0 := Stand.of_body Bd
  have e0 : s₁.heap = h0 := by rw [← hh, Bd.state]; rfl
  have N0 := Fr.nil n0
  have pre0 : ∀ t, Steps p.tables e below (s₁.setTop (mkF m 0 #[.val (.int p0), .val (.long q1), .second, .unset, .unset, .unset, .unset, .unset, .unset, .unset] [])) t → Steps p.tables e below (s₁.setTop (entryFrame m #[(.int p0), (.long q1)] maxLocals)) t := fun t k => castTop (ef_rm0 m p0 q1) k
  have pre1 : ∀ t, Steps p.tables e below (s₁.setTop (mkF m 10 #[.val (.int p0), .val (.long q1), .second, .val (.int (own_k p0)), .unset, .unset, .unset, .unset, .unset, .unset] [(.int (1 : Int32)), (.int (own_k p0))])) t → Steps p.tables e below (s₁.setTop (entryFrame m #[(.int p0), (.long q1)] maxLocals)) t := by
    intro t kt
    refine pre0 _ ?_
    show Steps p.tables e below (s₁.setTop (mkF m 0 #[.val (.int p0), .val (.long q1), .second, .unset, .unset, .unset, .unset, .unset, .unset, .unset] [])) _
    refine XS.iloadN X0.here hx rfl (hb hby at_0) rfl ?_
    show Steps p.tables e below (s₁.setTop (mkF m 1 #[.val (.int p0), .val (.long q1), .second, .unset, .unset, .unset, .unset, .unset, .unset, .unset] [(.int p0)])) _
    refine X0.ldcInt hx hown (mvT hZ (hw _ (List.mem_of_getElem? (i := 0) rfl))) (g := (mkF m 1 #[.val (.int p0), .val (.long q1), .second, .unset, .unset, .unset, .unset, .unset, .unset, .unset] [(.int p0)])) rfl (hb hby at_1) _ ?_
    show Steps p.tables e below (s₁.setTop (mkF m 3 #[.val (.int p0), .val (.long q1), .second, .unset, .unset, .unset, .unset, .unset, .unset, .unset] [(.int (2147483647 : Int32)), (.int p0)])) _
    refine XS.iand X0.here hx rfl (hb hby at_3) rfl ?_
    show Steps p.tables e below (s₁.setTop (mkF m 4 #[.val (.int p0), .val (.long q1), .second, .unset, .unset, .unset, .unset, .unset, .unset, .unset] [(.int (p0 &&& (2147483647 : Int32)))])) _
    refine XS.bipush X0.here hx rfl (hb hby at_4) ?_
    show Steps p.tables e below (s₁.setTop (mkF m 6 #[.val (.int p0), .val (.long q1), .second, .unset, .unset, .unset, .unset, .unset, .unset, .unset] [(.int (7 : Int32)), (.int (p0 &&& (2147483647 : Int32)))])) _
    refine Jvm.RoadKit.iremM (g := (mkF m 6 #[.val (.int p0), .val (.long q1), .second, .unset, .unset, .unset, .unset, .unset, .unset, .unset] [(.int (7 : Int32)), (.int (p0 &&& (2147483647 : Int32)))])) X0 hx rfl (hb hby at_6) rfl (by decide) ?_
    show Steps p.tables e below (s₁.setTop (mkF m 7 #[.val (.int p0), .val (.long q1), .second, .unset, .unset, .unset, .unset, .unset, .unset, .unset] [(.int (own_k p0))])) _
    refine XS.istoreN X0.here hx rfl (hb hby at_7) rfl (l' := #[.val (.int p0), .val (.long q1), .second, .val (.int (own_k p0)), .unset, .unset, .unset, .unset, .unset, .unset]) rfl ?_
    show Steps p.tables e below (s₁.setTop (mkF m 8 #[.val (.int p0), .val (.long q1), .second, .val (.int (own_k p0)), .unset, .unset, .unset, .unset, .unset, .unset] [])) _
    refine XS.iloadN X0.here hx rfl (hb hby at_8) rfl ?_
    show Steps p.tables e below (s₁.setTop (mkF m 9 #[.val (.int p0), .val (.long q1), .second, .val (.int (own_k p0)), .unset, .unset, .unset, .unset, .unset, .unset] [(.int (own_k p0))])) _
    refine XS.iconst X0.here hx rfl (hb hby at_9) ?_
    show Steps p.tables e below (s₁.setTop (mkF m 10 #[.val (.int p0), .val (.long q1), .second, .val (.int (own_k p0)), .unset, .unset, .unset, .unset, .unset, .unset] [(.int (1 : Int32)), (.int (own_k p0))])) _
    exact kt
  by_cases hs10_2 : (1 : Int32) < (own_k p0)
  · have pre3 : ∀ t, Steps p.tables e below (s₁.setTop (mkF m 25 #[.val (.int p0), .val (.long q1), .second, .val (.int (own_k p0)), .unset, .unset, .unset, .unset, .unset, .unset] [(.int (2 : Int32)), (.int (own_k p0))])) t → Steps p.tables e below (s₁.setTop (entryFrame m #[(.int p0), (.long q1)] maxLocals)) t := by
      intro t kt
      refine pre1 _ ?_
      show Steps p.tables e below (s₁.setTop (mkF m 10 #[.val (.int p0), .val (.long q1), .second, .val (.int (own_k p0)), .unset, .unset, .unset, .unset, .unset, .unset] [(.int (1 : Int32)), (.int (own_k p0))])) _
      refine XS.icmpYes X0.here hx rfl (pc0 := 10) (pc' := 23) rfl (hb hby at_10) rfl (tlt hs10_2).2.2.1 (by decide) (by decide) ?_
      show Steps p.tables e below (s₁.setTop (mkF m 23 #[.val (.int p0), .val (.long q1), .second, .val (.int (own_k p0)), .unset, .unset, .unset, .unset, .unset, .unset] [])) _
      refine XS.iloadN X0.here hx rfl (hb hby at_23) rfl ?_
      show Steps p.tables e below (s₁.setTop (mkF m 24 #[.val (.int p0), .val (.long q1), .second, .val (.int (own_k p0)), .unset, .unset, .unset, .unset, .unset, .unset] [(.int (own_k p0))])) _
      refine XS.iconst X0.here hx rfl (hb hby at_24) ?_
      show Steps p.tables e below (s₁.setTop (mkF m 25 #[.val (.int p0), .val (.long q1), .second, .val (.int (own_k p0)), .unset, .unset, .unset, .unset, .unset, .unset] [(.int (2 : Int32)), (.int (own_k p0))])) _
      exact kt
    by_cases hs25_4 : (own_k p0) = (2 : Int32)
    · have hk : own_k p0 = Int32.ofNat 2 := hs25_4
      obtain ⟨N, hN, hNk, hN53⟩ := own_n q1 (67108863 : Int64) 26 2 (by decide) (by decide) (by decide) (by decide)
      have hn := own_nn _ N 2 hN (by decide) hNk hN53
      obtain ⟨_, _, ⟨T5, L5, k5, n5⟩, -, X5, ⟨Lc5, hQ5, l5, y5, z5⟩, st5⟩ := Jvm.LawKit.callS X0 hx (y := (⟨"com/example/possible_worlds/possibleworlds/exact/Multinomial", "choose", "(JI)D"⟩ : MethodName)) hown (mvT hZ (hw _ (List.mem_of_getElem? (i := 2) rfl))) (mvT hZ (hw _ (List.mem_of_getElem? (i := 3) rfl))) (mvT hZ (hw _ (List.mem_of_getElem? (i := 4) rfl))) (mvT hZ (hw _ (List.mem_of_getElem? (i := 5) rfl))) (by decide) (backOf (W := 0) (rm1 l Z a0 hw [] (q1 &&& (67108863 : Int64)) (own_k p0) 2 h0 n0 Z0 hk (by decide) hn) hZ (hw _ (List.mem_of_getElem? (i := 5) rfl)) (hw _ (List.mem_of_getElem? (i := 4) rfl)) (by decide) (by decide)) (g := (mkF m 93 #[.val (.int p0), .val (.long q1), .second, .val (.int (own_k p0)), .val (.long (q1 &&& (67108863 : Int64))), .second, .unset, .unset, .unset, .unset] [(.int (own_k p0)), (.long (q1 &&& (67108863 : Int64)))])) rfl (by rw [hml]; rfl) (argsL := [(.long (q1 &&& (67108863 : Int64))), (.int (own_k p0))]) (rest := []) (lenOf pd_0 rfl) rfl (by show 2 * 0 + _ ≤ _; exact Nat.le_of_eq rfl) (hb hby at_93) (fun _ _ => ⟨rfl, e0, (by decide : 0 + 0 ≤ _), (by decide : 0 + 0 ≤ _)⟩)
      dsimp only [Pt.U, Pt.locs, Pt.cells, Pt.slots] at X5 l5 y5 z5 st5 hQ5
      subst l5 y5 z5
      obtain ⟨rfl, N5q, eq5⟩ := hQ5
      have N5 := Fr.app N0 N5q
      obtain ⟨_, _, ⟨T6, L6, k6, n6⟩, -, X6, ⟨Lc6, hQ6, l6, y6, z6⟩, st6⟩ := Jvm.LawKit.callS X5 hx (y := (⟨"com/example/possible_worlds/possibleworlds/exact/MultinomialChoosePinLaw", "reference", "(JI)J"⟩ : MethodName)) hown (mvT hZ (hw _ (List.mem_of_getElem? (i := 7) rfl))) (mvT hZ (hw _ (List.mem_of_getElem? (i := 8) rfl))) (mvT hZ (hw _ (List.mem_of_getElem? (i := 9) rfl))) (mvT hZ (hw _ (List.mem_of_getElem? (i := 10) rfl))) (by decide) (backOf (W := 0) (rm2 l Z a0 hw [] (q1 &&& (67108863 : Int64)) (own_k p0) h0 n0 Z0) hZ (hw _ (List.mem_of_getElem? (i := 10) rfl)) (hw _ (List.mem_of_getElem? (i := 9) rfl)) (by decide) (by decide)) (g := (mkF m 124 #[.val (.int p0), .val (.long q1), .second, .val (.int (own_k p0)), .val (.long (q1 &&& (67108863 : Int64))), .second, .val (.double (own_ch (q1 &&& (67108863 : Int64)) 2)), .second, .unset, .unset] [(.int (own_k p0)), (.long (q1 &&& (67108863 : Int64)))])) rfl (by rw [hml]; rfl) (argsL := [(.long (q1 &&& (67108863 : Int64))), (.int (own_k p0))]) (rest := []) (lenOf pd_1 rfl) rfl (by show 2 * 0 + _ ≤ _; exact Nat.le_of_eq rfl) (hb hby at_124) (fun _ _ => ⟨rfl, eq5, (by decide : 0 + 0 ≤ _), (by decide : 0 + 0 ≤ _)⟩)
      dsimp only [Pt.U, Pt.locs, Pt.cells, Pt.slots] at X6 l6 y6 z6 st6 hQ6
      subst l6 y6 z6
      obtain ⟨rfl, N6q, eq6⟩ := hQ6
      have N6 := Fr.app N5 N6q
      obtain ⟨fs, hr, hrun, hended, hW, hsame⟩ := X6.leave (v := some (.int (1 : Int32))) (fun h => by rw [Bd.returns] at h; cases h)
      refine ⟨_, _, pre3 _ ?_, hrun, hended, _, _, rfl, ?_, ⟨_, rfl⟩, hW, hsame.mono (by decide) (by decide)⟩
      · show Steps p.tables e below (s₁.setTop (mkF m 25 #[.val (.int p0), .val (.long q1), .second, .val (.int (own_k p0)), .unset, .unset, .unset, .unset, .unset, .unset] [(.int (2 : Int32)), (.int (own_k p0))])) _
        refine XS.icmpNo X0.here hx rfl (hb hby at_25) rfl (teq hs25_4).2 ?_
        show Steps p.tables e below (s₁.setTop (mkF m 28 #[.val (.int p0), .val (.long q1), .second, .val (.int (own_k p0)), .unset, .unset, .unset, .unset, .unset, .unset] [])) _
        refine XS.lloadN X0.here hx rfl (hb hby at_28) rfl ?_
        show Steps p.tables e below (s₁.setTop (mkF m 29 #[.val (.int p0), .val (.long q1), .second, .val (.int (own_k p0)), .unset, .unset, .unset, .unset, .unset, .unset] [(.long q1)])) _
        refine X0.ldc2Long hx hown (mvT hZ (hw _ (List.mem_of_getElem? (i := 17) rfl))) (g := (mkF m 29 #[.val (.int p0), .val (.long q1), .second, .val (.int (own_k p0)), .unset, .unset, .unset, .unset, .unset, .unset] [(.long q1)])) rfl (hb hby at_29) _ ?_
        show Steps p.tables e below (s₁.setTop (mkF m 32 #[.val (.int p0), .val (.long q1), .second, .val (.int (own_k p0)), .unset, .unset, .unset, .unset, .unset, .unset] [(.long (67108863 : Int64)), (.long q1)])) _
        refine XS.land X0.here hx rfl (hb hby at_32) rfl ?_
        show Steps p.tables e below (s₁.setTop (mkF m 33 #[.val (.int p0), .val (.long q1), .second, .val (.int (own_k p0)), .unset, .unset, .unset, .unset, .unset, .unset] [(.long (q1 &&& (67108863 : Int64)))])) _
        refine XS.lstore X0.here hx rfl (hb hby at_33) rfl (l' := #[.val (.int p0), .val (.long q1), .second, .val (.int (own_k p0)), .val (.long (q1 &&& (67108863 : Int64))), .second, .unset, .unset, .unset, .unset]) rfl ?_
        show Steps p.tables e below (s₁.setTop (mkF m 35 #[.val (.int p0), .val (.long q1), .second, .val (.int (own_k p0)), .val (.long (q1 &&& (67108863 : Int64))), .second, .unset, .unset, .unset, .unset] [])) _
        refine XS.goto X0.here hx rfl (pc0 := 35) (pc' := 90) rfl (hb hby at_35) (by decide) (by decide) ?_
        show Steps p.tables e below (s₁.setTop (mkF m 90 #[.val (.int p0), .val (.long q1), .second, .val (.int (own_k p0)), .val (.long (q1 &&& (67108863 : Int64))), .second, .unset, .unset, .unset, .unset] [])) _
        refine XS.lload X0.here hx rfl (hb hby at_90) rfl ?_
        show Steps p.tables e below (s₁.setTop (mkF m 92 #[.val (.int p0), .val (.long q1), .second, .val (.int (own_k p0)), .val (.long (q1 &&& (67108863 : Int64))), .second, .unset, .unset, .unset, .unset] [(.long (q1 &&& (67108863 : Int64)))])) _
        refine XS.iloadN X0.here hx rfl (hb hby at_92) rfl ?_
        show Steps p.tables e below (s₁.setTop (mkF m 93 #[.val (.int p0), .val (.long q1), .second, .val (.int (own_k p0)), .val (.long (q1 &&& (67108863 : Int64))), .second, .unset, .unset, .unset, .unset] [(.int (own_k p0)), (.long (q1 &&& (67108863 : Int64)))])) _
        refine st5 _ ?_
        show Steps p.tables e below (T5.setTop (mkF m 96 #[.val (.int p0), .val (.long q1), .second, .val (.int (own_k p0)), .val (.long (q1 &&& (67108863 : Int64))), .second, .unset, .unset, .unset, .unset] [(.double (own_ch (q1 &&& (67108863 : Int64)) 2))])) _
        refine XS.dstore X5.here hx rfl (hb hby at_96) rfl (l' := #[.val (.int p0), .val (.long q1), .second, .val (.int (own_k p0)), .val (.long (q1 &&& (67108863 : Int64))), .second, .val (.double (own_ch (q1 &&& (67108863 : Int64)) 2)), .second, .unset, .unset]) rfl ?_
        show Steps p.tables e below (T5.setTop (mkF m 98 #[.val (.int p0), .val (.long q1), .second, .val (.int (own_k p0)), .val (.long (q1 &&& (67108863 : Int64))), .second, .val (.double (own_ch (q1 &&& (67108863 : Int64)) 2)), .second, .unset, .unset] [])) _
        refine XS.iloadN X5.here hx rfl (hb hby at_98) rfl ?_
        show Steps p.tables e below (T5.setTop (mkF m 99 #[.val (.int p0), .val (.long q1), .second, .val (.int (own_k p0)), .val (.long (q1 &&& (67108863 : Int64))), .second, .val (.double (own_ch (q1 &&& (67108863 : Int64)) 2)), .second, .unset, .unset] [(.int (own_k p0))])) _
        refine XS.ifYes X5.here hx rfl (pc0 := 99) (pc' := 108) rfl (hb hby at_99) rfl ((if0 _ _).trans (feq (by rw [hk]; decide)).2) (by decide) (by decide) ?_
        show Steps p.tables e below (T5.setTop (mkF m 108 #[.val (.int p0), .val (.long q1), .second, .val (.int (own_k p0)), .val (.long (q1 &&& (67108863 : Int64))), .second, .val (.double (own_ch (q1 &&& (67108863 : Int64)) 2)), .second, .unset, .unset] [])) _
        refine XS.iloadN X5.here hx rfl (hb hby at_108) rfl ?_
        show Steps p.tables e below (T5.setTop (mkF m 109 #[.val (.int p0), .val (.long q1), .second, .val (.int (own_k p0)), .val (.long (q1 &&& (67108863 : Int64))), .second, .val (.double (own_ch (q1 &&& (67108863 : Int64)) 2)), .second, .unset, .unset] [(.int (own_k p0))])) _
        refine XS.iconst X5.here hx rfl (hb hby at_109) ?_
        show Steps p.tables e below (T5.setTop (mkF m 110 #[.val (.int p0), .val (.long q1), .second, .val (.int (own_k p0)), .val (.long (q1 &&& (67108863 : Int64))), .second, .val (.double (own_ch (q1 &&& (67108863 : Int64)) 2)), .second, .unset, .unset] [(.int (1 : Int32)), (.int (own_k p0))])) _
        refine XS.icmpYes X5.here hx rfl (pc0 := 110) (pc' := 121) rfl (hb hby at_110) rfl (feq (by rw [hk]; decide)).2 (by decide) (by decide) ?_
        show Steps p.tables e below (T5.setTop (mkF m 121 #[.val (.int p0), .val (.long q1), .second, .val (.int (own_k p0)), .val (.long (q1 &&& (67108863 : Int64))), .second, .val (.double (own_ch (q1 &&& (67108863 : Int64)) 2)), .second, .unset, .unset] [])) _
        refine XS.lload X5.here hx rfl (hb hby at_121) rfl ?_
        show Steps p.tables e below (T5.setTop (mkF m 123 #[.val (.int p0), .val (.long q1), .second, .val (.int (own_k p0)), .val (.long (q1 &&& (67108863 : Int64))), .second, .val (.double (own_ch (q1 &&& (67108863 : Int64)) 2)), .second, .unset, .unset] [(.long (q1 &&& (67108863 : Int64)))])) _
        refine XS.iloadN X5.here hx rfl (hb hby at_123) rfl ?_
        show Steps p.tables e below (T5.setTop (mkF m 124 #[.val (.int p0), .val (.long q1), .second, .val (.int (own_k p0)), .val (.long (q1 &&& (67108863 : Int64))), .second, .val (.double (own_ch (q1 &&& (67108863 : Int64)) 2)), .second, .unset, .unset] [(.int (own_k p0)), (.long (q1 &&& (67108863 : Int64)))])) _
        refine st6 _ ?_
        show Steps p.tables e below (T6.setTop (mkF m 127 #[.val (.int p0), .val (.long q1), .second, .val (.int (own_k p0)), .val (.long (q1 &&& (67108863 : Int64))), .second, .val (.double (own_ch (q1 &&& (67108863 : Int64)) 2)), .second, .unset, .unset] [(.long (own_ref (q1 &&& (67108863 : Int64)) (own_k p0)))])) _
        refine XS.l2dS X6.here hx rfl (hb hby at_127) rfl rfl ?_
        show Steps p.tables e below (T6.setTop (mkF m 128 #[.val (.int p0), .val (.long q1), .second, .val (.int (own_k p0)), .val (.long (q1 &&& (67108863 : Int64))), .second, .val (.double (own_ch (q1 &&& (67108863 : Int64)) 2)), .second, .unset, .unset] [(.double (FP.l2d (own_ref (q1 &&& (67108863 : Int64)) (own_k p0))))])) _
        refine XS.dstore X6.here hx rfl (hb hby at_128) rfl (l' := #[.val (.int p0), .val (.long q1), .second, .val (.int (own_k p0)), .val (.long (q1 &&& (67108863 : Int64))), .second, .val (.double (own_ch (q1 &&& (67108863 : Int64)) 2)), .second, .val (.double (FP.l2d (own_ref (q1 &&& (67108863 : Int64)) (own_k p0)))), .second]) rfl ?_
        show Steps p.tables e below (T6.setTop (mkF m 130 #[.val (.int p0), .val (.long q1), .second, .val (.int (own_k p0)), .val (.long (q1 &&& (67108863 : Int64))), .second, .val (.double (own_ch (q1 &&& (67108863 : Int64)) 2)), .second, .val (.double (FP.l2d (own_ref (q1 &&& (67108863 : Int64)) (own_k p0)))), .second] [])) _
        refine XS.dload X6.here hx rfl (hb hby at_130) rfl ?_
        show Steps p.tables e below (T6.setTop (mkF m 132 #[.val (.int p0), .val (.long q1), .second, .val (.int (own_k p0)), .val (.long (q1 &&& (67108863 : Int64))), .second, .val (.double (own_ch (q1 &&& (67108863 : Int64)) 2)), .second, .val (.double (FP.l2d (own_ref (q1 &&& (67108863 : Int64)) (own_k p0)))), .second] [(.double (own_ch (q1 &&& (67108863 : Int64)) 2))])) _
        refine XS.dload X6.here hx rfl (hb hby at_132) rfl ?_
        show Steps p.tables e below (T6.setTop (mkF m 134 #[.val (.int p0), .val (.long q1), .second, .val (.int (own_k p0)), .val (.long (q1 &&& (67108863 : Int64))), .second, .val (.double (own_ch (q1 &&& (67108863 : Int64)) 2)), .second, .val (.double (FP.l2d (own_ref (q1 &&& (67108863 : Int64)) (own_k p0)))), .second] [(.double (FP.l2d (own_ref (q1 &&& (67108863 : Int64)) (own_k p0)))), (.double (own_ch (q1 &&& (67108863 : Int64)) 2))])) _
        refine XS.dcmpS X6.here hx rfl (hb hby at_134) rfl rfl ?_
        show Steps p.tables e below (T6.setTop (mkF m 135 #[.val (.int p0), .val (.long q1), .second, .val (.int (own_k p0)), .val (.long (q1 &&& (67108863 : Int64))), .second, .val (.double (own_ch (q1 &&& (67108863 : Int64)) 2)), .second, .val (.double (FP.l2d (own_ref (q1 &&& (67108863 : Int64)) (own_k p0)))), .second] [(.int (cmpValue (FP.dcmp (own_ch (q1 &&& (67108863 : Int64)) 2) (FP.l2d (own_ref (q1 &&& (67108863 : Int64)) (own_k p0)))) .l))])) _
        refine XS.ifNo X6.here hx rfl (hb hby at_135) rfl ((if0 _ _).trans (teq (own_cmp _ _ N 2 hk hN (by decide) (by decide) hNk hN53)).2) ?_
        show Steps p.tables e below (T6.setTop (mkF m 138 #[.val (.int p0), .val (.long q1), .second, .val (.int (own_k p0)), .val (.long (q1 &&& (67108863 : Int64))), .second, .val (.double (own_ch (q1 &&& (67108863 : Int64)) 2)), .second, .val (.double (FP.l2d (own_ref (q1 &&& (67108863 : Int64)) (own_k p0)))), .second] [])) _
        refine XS.iconst X6.here hx rfl (hb hby at_138) ?_
        show Steps p.tables e below (T6.setTop (mkF m 139 #[.val (.int p0), .val (.long q1), .second, .val (.int (own_k p0)), .val (.long (q1 &&& (67108863 : Int64))), .second, .val (.double (own_ch (q1 &&& (67108863 : Int64)) 2)), .second, .val (.double (FP.l2d (own_ref (q1 &&& (67108863 : Int64)) (own_k p0)))), .second] [(.int (1 : Int32))])) _
        refine XS.goto X6.here hx rfl (pc0 := 139) (pc' := 143) rfl (hb hby at_139) (by decide) (by decide) ?_
        show Steps p.tables e below (T6.setTop (mkF m 143 #[.val (.int p0), .val (.long q1), .second, .val (.int (own_k p0)), .val (.long (q1 &&& (67108863 : Int64))), .second, .val (.double (own_ch (q1 &&& (67108863 : Int64)) 2)), .second, .val (.double (FP.l2d (own_ref (q1 &&& (67108863 : Int64)) (own_k p0)))), .second] [(.int (1 : Int32))])) _
        exact retN X6 hx (t := .boolean) Bd.returns (by simp) (hb hby at_143) hr
      · show Q0 Z p0 h0 n0 _ T6.heap _
        rw [eq6]
        exact ⟨rfl, N6⟩
    · have pre5 : ∀ t, Steps p.tables e below (s₁.setTop (mkF m 40 #[.val (.int p0), .val (.long q1), .second, .val (.int (own_k p0)), .unset, .unset, .unset, .unset, .unset, .unset] [(.int (3 : Int32)), (.int (own_k p0))])) t → Steps p.tables e below (s₁.setTop (entryFrame m #[(.int p0), (.long q1)] maxLocals)) t := by
        intro t kt
        refine pre3 _ ?_
        show Steps p.tables e below (s₁.setTop (mkF m 25 #[.val (.int p0), .val (.long q1), .second, .val (.int (own_k p0)), .unset, .unset, .unset, .unset, .unset, .unset] [(.int (2 : Int32)), (.int (own_k p0))])) _
        refine XS.icmpYes X0.here hx rfl (pc0 := 25) (pc' := 38) rfl (hb hby at_25) rfl (feq hs25_4).2 (by decide) (by decide) ?_
        show Steps p.tables e below (s₁.setTop (mkF m 38 #[.val (.int p0), .val (.long q1), .second, .val (.int (own_k p0)), .unset, .unset, .unset, .unset, .unset, .unset] [])) _
        refine XS.iloadN X0.here hx rfl (hb hby at_38) rfl ?_
        show Steps p.tables e below (s₁.setTop (mkF m 39 #[.val (.int p0), .val (.long q1), .second, .val (.int (own_k p0)), .unset, .unset, .unset, .unset, .unset, .unset] [(.int (own_k p0))])) _
        refine XS.iconst X0.here hx rfl (hb hby at_39) ?_
        show Steps p.tables e below (s₁.setTop (mkF m 40 #[.val (.int p0), .val (.long q1), .second, .val (.int (own_k p0)), .unset, .unset, .unset, .unset, .unset, .unset] [(.int (3 : Int32)), (.int (own_k p0))])) _
        exact kt
      by_cases hs40_6 : (own_k p0) = (3 : Int32)
      · have hk : own_k p0 = Int32.ofNat 3 := hs40_6
        obtain ⟨N, hN, hNk, hN53⟩ := own_n q1 (131071 : Int64) 17 3 (by decide) (by decide) (by decide) (by decide)
        have hn := own_nn _ N 3 hN (by decide) hNk hN53
        obtain ⟨_, _, ⟨T7, L7, k7, n7⟩, -, X7, ⟨Lc7, hQ7, l7, y7, z7⟩, st7⟩ := Jvm.LawKit.callS X0 hx (y := (⟨"com/example/possible_worlds/possibleworlds/exact/Multinomial", "choose", "(JI)D"⟩ : MethodName)) hown (mvT hZ (hw _ (List.mem_of_getElem? (i := 2) rfl))) (mvT hZ (hw _ (List.mem_of_getElem? (i := 3) rfl))) (mvT hZ (hw _ (List.mem_of_getElem? (i := 4) rfl))) (mvT hZ (hw _ (List.mem_of_getElem? (i := 5) rfl))) (by decide) (backOf (W := 0) (rm1 l Z a0 hw [] (q1 &&& (131071 : Int64)) (own_k p0) 3 h0 n0 Z0 hk (by decide) hn) hZ (hw _ (List.mem_of_getElem? (i := 5) rfl)) (hw _ (List.mem_of_getElem? (i := 4) rfl)) (by decide) (by decide)) (g := (mkF m 93 #[.val (.int p0), .val (.long q1), .second, .val (.int (own_k p0)), .val (.long (q1 &&& (131071 : Int64))), .second, .unset, .unset, .unset, .unset] [(.int (own_k p0)), (.long (q1 &&& (131071 : Int64)))])) rfl (by rw [hml]; rfl) (argsL := [(.long (q1 &&& (131071 : Int64))), (.int (own_k p0))]) (rest := []) (lenOf pd_0 rfl) rfl (by show 2 * 0 + _ ≤ _; exact Nat.le_of_eq rfl) (hb hby at_93) (fun _ _ => ⟨rfl, e0, (by decide : 0 + 0 ≤ _), (by decide : 0 + 0 ≤ _)⟩)
        dsimp only [Pt.U, Pt.locs, Pt.cells, Pt.slots] at X7 l7 y7 z7 st7 hQ7
        subst l7 y7 z7
        obtain ⟨rfl, N7q, eq7⟩ := hQ7
        have N7 := Fr.app N0 N7q
        obtain ⟨_, _, ⟨T8, L8, k8, n8⟩, -, X8, ⟨Lc8, hQ8, l8, y8, z8⟩, st8⟩ := Jvm.LawKit.callS X7 hx (y := (⟨"com/example/possible_worlds/possibleworlds/exact/MultinomialChoosePinLaw", "reference", "(JI)J"⟩ : MethodName)) hown (mvT hZ (hw _ (List.mem_of_getElem? (i := 7) rfl))) (mvT hZ (hw _ (List.mem_of_getElem? (i := 8) rfl))) (mvT hZ (hw _ (List.mem_of_getElem? (i := 9) rfl))) (mvT hZ (hw _ (List.mem_of_getElem? (i := 10) rfl))) (by decide) (backOf (W := 0) (rm2 l Z a0 hw [] (q1 &&& (131071 : Int64)) (own_k p0) h0 n0 Z0) hZ (hw _ (List.mem_of_getElem? (i := 10) rfl)) (hw _ (List.mem_of_getElem? (i := 9) rfl)) (by decide) (by decide)) (g := (mkF m 124 #[.val (.int p0), .val (.long q1), .second, .val (.int (own_k p0)), .val (.long (q1 &&& (131071 : Int64))), .second, .val (.double (own_ch (q1 &&& (131071 : Int64)) 3)), .second, .unset, .unset] [(.int (own_k p0)), (.long (q1 &&& (131071 : Int64)))])) rfl (by rw [hml]; rfl) (argsL := [(.long (q1 &&& (131071 : Int64))), (.int (own_k p0))]) (rest := []) (lenOf pd_1 rfl) rfl (by show 2 * 0 + _ ≤ _; exact Nat.le_of_eq rfl) (hb hby at_124) (fun _ _ => ⟨rfl, eq7, (by decide : 0 + 0 ≤ _), (by decide : 0 + 0 ≤ _)⟩)
        dsimp only [Pt.U, Pt.locs, Pt.cells, Pt.slots] at X8 l8 y8 z8 st8 hQ8
        subst l8 y8 z8
        obtain ⟨rfl, N8q, eq8⟩ := hQ8
        have N8 := Fr.app N7 N8q
        obtain ⟨fs, hr, hrun, hended, hW, hsame⟩ := X8.leave (v := some (.int (1 : Int32))) (fun h => by rw [Bd.returns] at h; cases h)
        refine ⟨_, _, pre5 _ ?_, hrun, hended, _, _, rfl, ?_, ⟨_, rfl⟩, hW, hsame.mono (by decide) (by decide)⟩
        · show Steps p.tables e below (s₁.setTop (mkF m 40 #[.val (.int p0), .val (.long q1), .second, .val (.int (own_k p0)), .unset, .unset, .unset, .unset, .unset, .unset] [(.int (3 : Int32)), (.int (own_k p0))])) _
          refine XS.icmpNo X0.here hx rfl (hb hby at_40) rfl (teq hs40_6).2 ?_
          show Steps p.tables e below (s₁.setTop (mkF m 43 #[.val (.int p0), .val (.long q1), .second, .val (.int (own_k p0)), .unset, .unset, .unset, .unset, .unset, .unset] [])) _
          refine XS.lloadN X0.here hx rfl (hb hby at_43) rfl ?_
          show Steps p.tables e below (s₁.setTop (mkF m 44 #[.val (.int p0), .val (.long q1), .second, .val (.int (own_k p0)), .unset, .unset, .unset, .unset, .unset, .unset] [(.long q1)])) _
          refine X0.ldc2Long hx hown (mvT hZ (hw _ (List.mem_of_getElem? (i := 18) rfl))) (g := (mkF m 44 #[.val (.int p0), .val (.long q1), .second, .val (.int (own_k p0)), .unset, .unset, .unset, .unset, .unset, .unset] [(.long q1)])) rfl (hb hby at_44) _ ?_
          show Steps p.tables e below (s₁.setTop (mkF m 47 #[.val (.int p0), .val (.long q1), .second, .val (.int (own_k p0)), .unset, .unset, .unset, .unset, .unset, .unset] [(.long (131071 : Int64)), (.long q1)])) _
          refine XS.land X0.here hx rfl (hb hby at_47) rfl ?_
          show Steps p.tables e below (s₁.setTop (mkF m 48 #[.val (.int p0), .val (.long q1), .second, .val (.int (own_k p0)), .unset, .unset, .unset, .unset, .unset, .unset] [(.long (q1 &&& (131071 : Int64)))])) _
          refine XS.lstore X0.here hx rfl (hb hby at_48) rfl (l' := #[.val (.int p0), .val (.long q1), .second, .val (.int (own_k p0)), .val (.long (q1 &&& (131071 : Int64))), .second, .unset, .unset, .unset, .unset]) rfl ?_
          show Steps p.tables e below (s₁.setTop (mkF m 50 #[.val (.int p0), .val (.long q1), .second, .val (.int (own_k p0)), .val (.long (q1 &&& (131071 : Int64))), .second, .unset, .unset, .unset, .unset] [])) _
          refine XS.goto X0.here hx rfl (pc0 := 50) (pc' := 90) rfl (hb hby at_50) (by decide) (by decide) ?_
          show Steps p.tables e below (s₁.setTop (mkF m 90 #[.val (.int p0), .val (.long q1), .second, .val (.int (own_k p0)), .val (.long (q1 &&& (131071 : Int64))), .second, .unset, .unset, .unset, .unset] [])) _
          refine XS.lload X0.here hx rfl (hb hby at_90) rfl ?_
          show Steps p.tables e below (s₁.setTop (mkF m 92 #[.val (.int p0), .val (.long q1), .second, .val (.int (own_k p0)), .val (.long (q1 &&& (131071 : Int64))), .second, .unset, .unset, .unset, .unset] [(.long (q1 &&& (131071 : Int64)))])) _
          refine XS.iloadN X0.here hx rfl (hb hby at_92) rfl ?_
          show Steps p.tables e below (s₁.setTop (mkF m 93 #[.val (.int p0), .val (.long q1), .second, .val (.int (own_k p0)), .val (.long (q1 &&& (131071 : Int64))), .second, .unset, .unset, .unset, .unset] [(.int (own_k p0)), (.long (q1 &&& (131071 : Int64)))])) _
          refine st7 _ ?_
          show Steps p.tables e below (T7.setTop (mkF m 96 #[.val (.int p0), .val (.long q1), .second, .val (.int (own_k p0)), .val (.long (q1 &&& (131071 : Int64))), .second, .unset, .unset, .unset, .unset] [(.double (own_ch (q1 &&& (131071 : Int64)) 3))])) _
          refine XS.dstore X7.here hx rfl (hb hby at_96) rfl (l' := #[.val (.int p0), .val (.long q1), .second, .val (.int (own_k p0)), .val (.long (q1 &&& (131071 : Int64))), .second, .val (.double (own_ch (q1 &&& (131071 : Int64)) 3)), .second, .unset, .unset]) rfl ?_
          show Steps p.tables e below (T7.setTop (mkF m 98 #[.val (.int p0), .val (.long q1), .second, .val (.int (own_k p0)), .val (.long (q1 &&& (131071 : Int64))), .second, .val (.double (own_ch (q1 &&& (131071 : Int64)) 3)), .second, .unset, .unset] [])) _
          refine XS.iloadN X7.here hx rfl (hb hby at_98) rfl ?_
          show Steps p.tables e below (T7.setTop (mkF m 99 #[.val (.int p0), .val (.long q1), .second, .val (.int (own_k p0)), .val (.long (q1 &&& (131071 : Int64))), .second, .val (.double (own_ch (q1 &&& (131071 : Int64)) 3)), .second, .unset, .unset] [(.int (own_k p0))])) _
          refine XS.ifYes X7.here hx rfl (pc0 := 99) (pc' := 108) rfl (hb hby at_99) rfl ((if0 _ _).trans (feq (by rw [hk]; decide)).2) (by decide) (by decide) ?_
          show Steps p.tables e below (T7.setTop (mkF m 108 #[.val (.int p0), .val (.long q1), .second, .val (.int (own_k p0)), .val (.long (q1 &&& (131071 : Int64))), .second, .val (.double (own_ch (q1 &&& (131071 : Int64)) 3)), .second, .unset, .unset] [])) _
          refine XS.iloadN X7.here hx rfl (hb hby at_108) rfl ?_
          show Steps p.tables e below (T7.setTop (mkF m 109 #[.val (.int p0), .val (.long q1), .second, .val (.int (own_k p0)), .val (.long (q1 &&& (131071 : Int64))), .second, .val (.double (own_ch (q1 &&& (131071 : Int64)) 3)), .second, .unset, .unset] [(.int (own_k p0))])) _
          refine XS.iconst X7.here hx rfl (hb hby at_109) ?_
          show Steps p.tables e below (T7.setTop (mkF m 110 #[.val (.int p0), .val (.long q1), .second, .val (.int (own_k p0)), .val (.long (q1 &&& (131071 : Int64))), .second, .val (.double (own_ch (q1 &&& (131071 : Int64)) 3)), .second, .unset, .unset] [(.int (1 : Int32)), (.int (own_k p0))])) _
          refine XS.icmpYes X7.here hx rfl (pc0 := 110) (pc' := 121) rfl (hb hby at_110) rfl (feq (by rw [hk]; decide)).2 (by decide) (by decide) ?_
          show Steps p.tables e below (T7.setTop (mkF m 121 #[.val (.int p0), .val (.long q1), .second, .val (.int (own_k p0)), .val (.long (q1 &&& (131071 : Int64))), .second, .val (.double (own_ch (q1 &&& (131071 : Int64)) 3)), .second, .unset, .unset] [])) _
          refine XS.lload X7.here hx rfl (hb hby at_121) rfl ?_
          show Steps p.tables e below (T7.setTop (mkF m 123 #[.val (.int p0), .val (.long q1), .second, .val (.int (own_k p0)), .val (.long (q1 &&& (131071 : Int64))), .second, .val (.double (own_ch (q1 &&& (131071 : Int64)) 3)), .second, .unset, .unset] [(.long (q1 &&& (131071 : Int64)))])) _
          refine XS.iloadN X7.here hx rfl (hb hby at_123) rfl ?_
          show Steps p.tables e below (T7.setTop (mkF m 124 #[.val (.int p0), .val (.long q1), .second, .val (.int (own_k p0)), .val (.long (q1 &&& (131071 : Int64))), .second, .val (.double (own_ch (q1 &&& (131071 : Int64)) 3)), .second, .unset, .unset] [(.int (own_k p0)), (.long (q1 &&& (131071 : Int64)))])) _
          refine st8 _ ?_
          show Steps p.tables e below (T8.setTop (mkF m 127 #[.val (.int p0), .val (.long q1), .second, .val (.int (own_k p0)), .val (.long (q1 &&& (131071 : Int64))), .second, .val (.double (own_ch (q1 &&& (131071 : Int64)) 3)), .second, .unset, .unset] [(.long (own_ref (q1 &&& (131071 : Int64)) (own_k p0)))])) _
          refine XS.l2dS X8.here hx rfl (hb hby at_127) rfl rfl ?_
          show Steps p.tables e below (T8.setTop (mkF m 128 #[.val (.int p0), .val (.long q1), .second, .val (.int (own_k p0)), .val (.long (q1 &&& (131071 : Int64))), .second, .val (.double (own_ch (q1 &&& (131071 : Int64)) 3)), .second, .unset, .unset] [(.double (FP.l2d (own_ref (q1 &&& (131071 : Int64)) (own_k p0))))])) _
          refine XS.dstore X8.here hx rfl (hb hby at_128) rfl (l' := #[.val (.int p0), .val (.long q1), .second, .val (.int (own_k p0)), .val (.long (q1 &&& (131071 : Int64))), .second, .val (.double (own_ch (q1 &&& (131071 : Int64)) 3)), .second, .val (.double (FP.l2d (own_ref (q1 &&& (131071 : Int64)) (own_k p0)))), .second]) rfl ?_
          show Steps p.tables e below (T8.setTop (mkF m 130 #[.val (.int p0), .val (.long q1), .second, .val (.int (own_k p0)), .val (.long (q1 &&& (131071 : Int64))), .second, .val (.double (own_ch (q1 &&& (131071 : Int64)) 3)), .second, .val (.double (FP.l2d (own_ref (q1 &&& (131071 : Int64)) (own_k p0)))), .second] [])) _
          refine XS.dload X8.here hx rfl (hb hby at_130) rfl ?_
          show Steps p.tables e below (T8.setTop (mkF m 132 #[.val (.int p0), .val (.long q1), .second, .val (.int (own_k p0)), .val (.long (q1 &&& (131071 : Int64))), .second, .val (.double (own_ch (q1 &&& (131071 : Int64)) 3)), .second, .val (.double (FP.l2d (own_ref (q1 &&& (131071 : Int64)) (own_k p0)))), .second] [(.double (own_ch (q1 &&& (131071 : Int64)) 3))])) _
          refine XS.dload X8.here hx rfl (hb hby at_132) rfl ?_
          show Steps p.tables e below (T8.setTop (mkF m 134 #[.val (.int p0), .val (.long q1), .second, .val (.int (own_k p0)), .val (.long (q1 &&& (131071 : Int64))), .second, .val (.double (own_ch (q1 &&& (131071 : Int64)) 3)), .second, .val (.double (FP.l2d (own_ref (q1 &&& (131071 : Int64)) (own_k p0)))), .second] [(.double (FP.l2d (own_ref (q1 &&& (131071 : Int64)) (own_k p0)))), (.double (own_ch (q1 &&& (131071 : Int64)) 3))])) _
          refine XS.dcmpS X8.here hx rfl (hb hby at_134) rfl rfl ?_
          show Steps p.tables e below (T8.setTop (mkF m 135 #[.val (.int p0), .val (.long q1), .second, .val (.int (own_k p0)), .val (.long (q1 &&& (131071 : Int64))), .second, .val (.double (own_ch (q1 &&& (131071 : Int64)) 3)), .second, .val (.double (FP.l2d (own_ref (q1 &&& (131071 : Int64)) (own_k p0)))), .second] [(.int (cmpValue (FP.dcmp (own_ch (q1 &&& (131071 : Int64)) 3) (FP.l2d (own_ref (q1 &&& (131071 : Int64)) (own_k p0)))) .l))])) _
          refine XS.ifNo X8.here hx rfl (hb hby at_135) rfl ((if0 _ _).trans (teq (own_cmp _ _ N 3 hk hN (by decide) (by decide) hNk hN53)).2) ?_
          show Steps p.tables e below (T8.setTop (mkF m 138 #[.val (.int p0), .val (.long q1), .second, .val (.int (own_k p0)), .val (.long (q1 &&& (131071 : Int64))), .second, .val (.double (own_ch (q1 &&& (131071 : Int64)) 3)), .second, .val (.double (FP.l2d (own_ref (q1 &&& (131071 : Int64)) (own_k p0)))), .second] [])) _
          refine XS.iconst X8.here hx rfl (hb hby at_138) ?_
          show Steps p.tables e below (T8.setTop (mkF m 139 #[.val (.int p0), .val (.long q1), .second, .val (.int (own_k p0)), .val (.long (q1 &&& (131071 : Int64))), .second, .val (.double (own_ch (q1 &&& (131071 : Int64)) 3)), .second, .val (.double (FP.l2d (own_ref (q1 &&& (131071 : Int64)) (own_k p0)))), .second] [(.int (1 : Int32))])) _
          refine XS.goto X8.here hx rfl (pc0 := 139) (pc' := 143) rfl (hb hby at_139) (by decide) (by decide) ?_
          show Steps p.tables e below (T8.setTop (mkF m 143 #[.val (.int p0), .val (.long q1), .second, .val (.int (own_k p0)), .val (.long (q1 &&& (131071 : Int64))), .second, .val (.double (own_ch (q1 &&& (131071 : Int64)) 3)), .second, .val (.double (FP.l2d (own_ref (q1 &&& (131071 : Int64)) (own_k p0)))), .second] [(.int (1 : Int32))])) _
          exact retN X8 hx (t := .boolean) Bd.returns (by simp) (hb hby at_143) hr
        · show Q0 Z p0 h0 n0 _ T8.heap _
          rw [eq8]
          exact ⟨rfl, N8⟩
      · have pre7 : ∀ t, Steps p.tables e below (s₁.setTop (mkF m 55 #[.val (.int p0), .val (.long q1), .second, .val (.int (own_k p0)), .unset, .unset, .unset, .unset, .unset, .unset] [(.int (4 : Int32)), (.int (own_k p0))])) t → Steps p.tables e below (s₁.setTop (entryFrame m #[(.int p0), (.long q1)] maxLocals)) t := by
          intro t kt
          refine pre5 _ ?_
          show Steps p.tables e below (s₁.setTop (mkF m 40 #[.val (.int p0), .val (.long q1), .second, .val (.int (own_k p0)), .unset, .unset, .unset, .unset, .unset, .unset] [(.int (3 : Int32)), (.int (own_k p0))])) _
          refine XS.icmpYes X0.here hx rfl (pc0 := 40) (pc' := 53) rfl (hb hby at_40) rfl (feq hs40_6).2 (by decide) (by decide) ?_
          show Steps p.tables e below (s₁.setTop (mkF m 53 #[.val (.int p0), .val (.long q1), .second, .val (.int (own_k p0)), .unset, .unset, .unset, .unset, .unset, .unset] [])) _
          refine XS.iloadN X0.here hx rfl (hb hby at_53) rfl ?_
          show Steps p.tables e below (s₁.setTop (mkF m 54 #[.val (.int p0), .val (.long q1), .second, .val (.int (own_k p0)), .unset, .unset, .unset, .unset, .unset, .unset] [(.int (own_k p0))])) _
          refine XS.iconst X0.here hx rfl (hb hby at_54) ?_
          show Steps p.tables e below (s₁.setTop (mkF m 55 #[.val (.int p0), .val (.long q1), .second, .val (.int (own_k p0)), .unset, .unset, .unset, .unset, .unset, .unset] [(.int (4 : Int32)), (.int (own_k p0))])) _
          exact kt
        by_cases hs55_8 : (own_k p0) = (4 : Int32)
        · have hk : own_k p0 = Int32.ofNat 4 := hs55_8
          obtain ⟨N, hN, hNk, hN53⟩ := own_n q1 (8191 : Int64) 13 4 (by decide) (by decide) (by decide) (by decide)
          have hn := own_nn _ N 4 hN (by decide) hNk hN53
          obtain ⟨_, _, ⟨T9, L9, k9, n9⟩, -, X9, ⟨Lc9, hQ9, l9, y9, z9⟩, st9⟩ := Jvm.LawKit.callS X0 hx (y := (⟨"com/example/possible_worlds/possibleworlds/exact/Multinomial", "choose", "(JI)D"⟩ : MethodName)) hown (mvT hZ (hw _ (List.mem_of_getElem? (i := 2) rfl))) (mvT hZ (hw _ (List.mem_of_getElem? (i := 3) rfl))) (mvT hZ (hw _ (List.mem_of_getElem? (i := 4) rfl))) (mvT hZ (hw _ (List.mem_of_getElem? (i := 5) rfl))) (by decide) (backOf (W := 0) (rm1 l Z a0 hw [] (q1 &&& (8191 : Int64)) (own_k p0) 4 h0 n0 Z0 hk (by decide) hn) hZ (hw _ (List.mem_of_getElem? (i := 5) rfl)) (hw _ (List.mem_of_getElem? (i := 4) rfl)) (by decide) (by decide)) (g := (mkF m 93 #[.val (.int p0), .val (.long q1), .second, .val (.int (own_k p0)), .val (.long (q1 &&& (8191 : Int64))), .second, .unset, .unset, .unset, .unset] [(.int (own_k p0)), (.long (q1 &&& (8191 : Int64)))])) rfl (by rw [hml]; rfl) (argsL := [(.long (q1 &&& (8191 : Int64))), (.int (own_k p0))]) (rest := []) (lenOf pd_0 rfl) rfl (by show 2 * 0 + _ ≤ _; exact Nat.le_of_eq rfl) (hb hby at_93) (fun _ _ => ⟨rfl, e0, (by decide : 0 + 0 ≤ _), (by decide : 0 + 0 ≤ _)⟩)
          dsimp only [Pt.U, Pt.locs, Pt.cells, Pt.slots] at X9 l9 y9 z9 st9 hQ9
          subst l9 y9 z9
          obtain ⟨rfl, N9q, eq9⟩ := hQ9
          have N9 := Fr.app N0 N9q
          obtain ⟨_, _, ⟨T10, L10, k10, n10⟩, -, X10, ⟨Lc10, hQ10, l10, y10, z10⟩, st10⟩ := Jvm.LawKit.callS X9 hx (y := (⟨"com/example/possible_worlds/possibleworlds/exact/MultinomialChoosePinLaw", "reference", "(JI)J"⟩ : MethodName)) hown (mvT hZ (hw _ (List.mem_of_getElem? (i := 7) rfl))) (mvT hZ (hw _ (List.mem_of_getElem? (i := 8) rfl))) (mvT hZ (hw _ (List.mem_of_getElem? (i := 9) rfl))) (mvT hZ (hw _ (List.mem_of_getElem? (i := 10) rfl))) (by decide) (backOf (W := 0) (rm2 l Z a0 hw [] (q1 &&& (8191 : Int64)) (own_k p0) h0 n0 Z0) hZ (hw _ (List.mem_of_getElem? (i := 10) rfl)) (hw _ (List.mem_of_getElem? (i := 9) rfl)) (by decide) (by decide)) (g := (mkF m 124 #[.val (.int p0), .val (.long q1), .second, .val (.int (own_k p0)), .val (.long (q1 &&& (8191 : Int64))), .second, .val (.double (own_ch (q1 &&& (8191 : Int64)) 4)), .second, .unset, .unset] [(.int (own_k p0)), (.long (q1 &&& (8191 : Int64)))])) rfl (by rw [hml]; rfl) (argsL := [(.long (q1 &&& (8191 : Int64))), (.int (own_k p0))]) (rest := []) (lenOf pd_1 rfl) rfl (by show 2 * 0 + _ ≤ _; exact Nat.le_of_eq rfl) (hb hby at_124) (fun _ _ => ⟨rfl, eq9, (by decide : 0 + 0 ≤ _), (by decide : 0 + 0 ≤ _)⟩)
          dsimp only [Pt.U, Pt.locs, Pt.cells, Pt.slots] at X10 l10 y10 z10 st10 hQ10
          subst l10 y10 z10
          obtain ⟨rfl, N10q, eq10⟩ := hQ10
          have N10 := Fr.app N9 N10q
          obtain ⟨fs, hr, hrun, hended, hW, hsame⟩ := X10.leave (v := some (.int (1 : Int32))) (fun h => by rw [Bd.returns] at h; cases h)
          refine ⟨_, _, pre7 _ ?_, hrun, hended, _, _, rfl, ?_, ⟨_, rfl⟩, hW, hsame.mono (by decide) (by decide)⟩
          · show Steps p.tables e below (s₁.setTop (mkF m 55 #[.val (.int p0), .val (.long q1), .second, .val (.int (own_k p0)), .unset, .unset, .unset, .unset, .unset, .unset] [(.int (4 : Int32)), (.int (own_k p0))])) _
            refine XS.icmpNo X0.here hx rfl (hb hby at_55) rfl (teq hs55_8).2 ?_
            show Steps p.tables e below (s₁.setTop (mkF m 58 #[.val (.int p0), .val (.long q1), .second, .val (.int (own_k p0)), .unset, .unset, .unset, .unset, .unset, .unset] [])) _
            refine XS.lloadN X0.here hx rfl (hb hby at_58) rfl ?_
            show Steps p.tables e below (s₁.setTop (mkF m 59 #[.val (.int p0), .val (.long q1), .second, .val (.int (own_k p0)), .unset, .unset, .unset, .unset, .unset, .unset] [(.long q1)])) _
            refine X0.ldc2Long hx hown (mvT hZ (hw _ (List.mem_of_getElem? (i := 6) rfl))) (g := (mkF m 59 #[.val (.int p0), .val (.long q1), .second, .val (.int (own_k p0)), .unset, .unset, .unset, .unset, .unset, .unset] [(.long q1)])) rfl (hb hby at_59) _ ?_
            show Steps p.tables e below (s₁.setTop (mkF m 62 #[.val (.int p0), .val (.long q1), .second, .val (.int (own_k p0)), .unset, .unset, .unset, .unset, .unset, .unset] [(.long (8191 : Int64)), (.long q1)])) _
            refine XS.land X0.here hx rfl (hb hby at_62) rfl ?_
            show Steps p.tables e below (s₁.setTop (mkF m 63 #[.val (.int p0), .val (.long q1), .second, .val (.int (own_k p0)), .unset, .unset, .unset, .unset, .unset, .unset] [(.long (q1 &&& (8191 : Int64)))])) _
            refine XS.lstore X0.here hx rfl (hb hby at_63) rfl (l' := #[.val (.int p0), .val (.long q1), .second, .val (.int (own_k p0)), .val (.long (q1 &&& (8191 : Int64))), .second, .unset, .unset, .unset, .unset]) rfl ?_
            show Steps p.tables e below (s₁.setTop (mkF m 65 #[.val (.int p0), .val (.long q1), .second, .val (.int (own_k p0)), .val (.long (q1 &&& (8191 : Int64))), .second, .unset, .unset, .unset, .unset] [])) _
            refine XS.goto X0.here hx rfl (pc0 := 65) (pc' := 90) rfl (hb hby at_65) (by decide) (by decide) ?_
            show Steps p.tables e below (s₁.setTop (mkF m 90 #[.val (.int p0), .val (.long q1), .second, .val (.int (own_k p0)), .val (.long (q1 &&& (8191 : Int64))), .second, .unset, .unset, .unset, .unset] [])) _
            refine XS.lload X0.here hx rfl (hb hby at_90) rfl ?_
            show Steps p.tables e below (s₁.setTop (mkF m 92 #[.val (.int p0), .val (.long q1), .second, .val (.int (own_k p0)), .val (.long (q1 &&& (8191 : Int64))), .second, .unset, .unset, .unset, .unset] [(.long (q1 &&& (8191 : Int64)))])) _
            refine XS.iloadN X0.here hx rfl (hb hby at_92) rfl ?_
            show Steps p.tables e below (s₁.setTop (mkF m 93 #[.val (.int p0), .val (.long q1), .second, .val (.int (own_k p0)), .val (.long (q1 &&& (8191 : Int64))), .second, .unset, .unset, .unset, .unset] [(.int (own_k p0)), (.long (q1 &&& (8191 : Int64)))])) _
            refine st9 _ ?_
            show Steps p.tables e below (T9.setTop (mkF m 96 #[.val (.int p0), .val (.long q1), .second, .val (.int (own_k p0)), .val (.long (q1 &&& (8191 : Int64))), .second, .unset, .unset, .unset, .unset] [(.double (own_ch (q1 &&& (8191 : Int64)) 4))])) _
            refine XS.dstore X9.here hx rfl (hb hby at_96) rfl (l' := #[.val (.int p0), .val (.long q1), .second, .val (.int (own_k p0)), .val (.long (q1 &&& (8191 : Int64))), .second, .val (.double (own_ch (q1 &&& (8191 : Int64)) 4)), .second, .unset, .unset]) rfl ?_
            show Steps p.tables e below (T9.setTop (mkF m 98 #[.val (.int p0), .val (.long q1), .second, .val (.int (own_k p0)), .val (.long (q1 &&& (8191 : Int64))), .second, .val (.double (own_ch (q1 &&& (8191 : Int64)) 4)), .second, .unset, .unset] [])) _
            refine XS.iloadN X9.here hx rfl (hb hby at_98) rfl ?_
            show Steps p.tables e below (T9.setTop (mkF m 99 #[.val (.int p0), .val (.long q1), .second, .val (.int (own_k p0)), .val (.long (q1 &&& (8191 : Int64))), .second, .val (.double (own_ch (q1 &&& (8191 : Int64)) 4)), .second, .unset, .unset] [(.int (own_k p0))])) _
            refine XS.ifYes X9.here hx rfl (pc0 := 99) (pc' := 108) rfl (hb hby at_99) rfl ((if0 _ _).trans (feq (by rw [hk]; decide)).2) (by decide) (by decide) ?_
            show Steps p.tables e below (T9.setTop (mkF m 108 #[.val (.int p0), .val (.long q1), .second, .val (.int (own_k p0)), .val (.long (q1 &&& (8191 : Int64))), .second, .val (.double (own_ch (q1 &&& (8191 : Int64)) 4)), .second, .unset, .unset] [])) _
            refine XS.iloadN X9.here hx rfl (hb hby at_108) rfl ?_
            show Steps p.tables e below (T9.setTop (mkF m 109 #[.val (.int p0), .val (.long q1), .second, .val (.int (own_k p0)), .val (.long (q1 &&& (8191 : Int64))), .second, .val (.double (own_ch (q1 &&& (8191 : Int64)) 4)), .second, .unset, .unset] [(.int (own_k p0))])) _
            refine XS.iconst X9.here hx rfl (hb hby at_109) ?_
            show Steps p.tables e below (T9.setTop (mkF m 110 #[.val (.int p0), .val (.long q1), .second, .val (.int (own_k p0)), .val (.long (q1 &&& (8191 : Int64))), .second, .val (.double (own_ch (q1 &&& (8191 : Int64)) 4)), .second, .unset, .unset] [(.int (1 : Int32)), (.int (own_k p0))])) _
            refine XS.icmpYes X9.here hx rfl (pc0 := 110) (pc' := 121) rfl (hb hby at_110) rfl (feq (by rw [hk]; decide)).2 (by decide) (by decide) ?_
            show Steps p.tables e below (T9.setTop (mkF m 121 #[.val (.int p0), .val (.long q1), .second, .val (.int (own_k p0)), .val (.long (q1 &&& (8191 : Int64))), .second, .val (.double (own_ch (q1 &&& (8191 : Int64)) 4)), .second, .unset, .unset] [])) _
            refine XS.lload X9.here hx rfl (hb hby at_121) rfl ?_
            show Steps p.tables e below (T9.setTop (mkF m 123 #[.val (.int p0), .val (.long q1), .second, .val (.int (own_k p0)), .val (.long (q1 &&& (8191 : Int64))), .second, .val (.double (own_ch (q1 &&& (8191 : Int64)) 4)), .second, .unset, .unset] [(.long (q1 &&& (8191 : Int64)))])) _
            refine XS.iloadN X9.here hx rfl (hb hby at_123) rfl ?_
            show Steps p.tables e below (T9.setTop (mkF m 124 #[.val (.int p0), .val (.long q1), .second, .val (.int (own_k p0)), .val (.long (q1 &&& (8191 : Int64))), .second, .val (.double (own_ch (q1 &&& (8191 : Int64)) 4)), .second, .unset, .unset] [(.int (own_k p0)), (.long (q1 &&& (8191 : Int64)))])) _
            refine st10 _ ?_
            show Steps p.tables e below (T10.setTop (mkF m 127 #[.val (.int p0), .val (.long q1), .second, .val (.int (own_k p0)), .val (.long (q1 &&& (8191 : Int64))), .second, .val (.double (own_ch (q1 &&& (8191 : Int64)) 4)), .second, .unset, .unset] [(.long (own_ref (q1 &&& (8191 : Int64)) (own_k p0)))])) _
            refine XS.l2dS X10.here hx rfl (hb hby at_127) rfl rfl ?_
            show Steps p.tables e below (T10.setTop (mkF m 128 #[.val (.int p0), .val (.long q1), .second, .val (.int (own_k p0)), .val (.long (q1 &&& (8191 : Int64))), .second, .val (.double (own_ch (q1 &&& (8191 : Int64)) 4)), .second, .unset, .unset] [(.double (FP.l2d (own_ref (q1 &&& (8191 : Int64)) (own_k p0))))])) _
            refine XS.dstore X10.here hx rfl (hb hby at_128) rfl (l' := #[.val (.int p0), .val (.long q1), .second, .val (.int (own_k p0)), .val (.long (q1 &&& (8191 : Int64))), .second, .val (.double (own_ch (q1 &&& (8191 : Int64)) 4)), .second, .val (.double (FP.l2d (own_ref (q1 &&& (8191 : Int64)) (own_k p0)))), .second]) rfl ?_
            show Steps p.tables e below (T10.setTop (mkF m 130 #[.val (.int p0), .val (.long q1), .second, .val (.int (own_k p0)), .val (.long (q1 &&& (8191 : Int64))), .second, .val (.double (own_ch (q1 &&& (8191 : Int64)) 4)), .second, .val (.double (FP.l2d (own_ref (q1 &&& (8191 : Int64)) (own_k p0)))), .second] [])) _
            refine XS.dload X10.here hx rfl (hb hby at_130) rfl ?_
            show Steps p.tables e below (T10.setTop (mkF m 132 #[.val (.int p0), .val (.long q1), .second, .val (.int (own_k p0)), .val (.long (q1 &&& (8191 : Int64))), .second, .val (.double (own_ch (q1 &&& (8191 : Int64)) 4)), .second, .val (.double (FP.l2d (own_ref (q1 &&& (8191 : Int64)) (own_k p0)))), .second] [(.double (own_ch (q1 &&& (8191 : Int64)) 4))])) _
            refine XS.dload X10.here hx rfl (hb hby at_132) rfl ?_
            show Steps p.tables e below (T10.setTop (mkF m 134 #[.val (.int p0), .val (.long q1), .second, .val (.int (own_k p0)), .val (.long (q1 &&& (8191 : Int64))), .second, .val (.double (own_ch (q1 &&& (8191 : Int64)) 4)), .second, .val (.double (FP.l2d (own_ref (q1 &&& (8191 : Int64)) (own_k p0)))), .second] [(.double (FP.l2d (own_ref (q1 &&& (8191 : Int64)) (own_k p0)))), (.double (own_ch (q1 &&& (8191 : Int64)) 4))])) _
            refine XS.dcmpS X10.here hx rfl (hb hby at_134) rfl rfl ?_
            show Steps p.tables e below (T10.setTop (mkF m 135 #[.val (.int p0), .val (.long q1), .second, .val (.int (own_k p0)), .val (.long (q1 &&& (8191 : Int64))), .second, .val (.double (own_ch (q1 &&& (8191 : Int64)) 4)), .second, .val (.double (FP.l2d (own_ref (q1 &&& (8191 : Int64)) (own_k p0)))), .second] [(.int (cmpValue (FP.dcmp (own_ch (q1 &&& (8191 : Int64)) 4) (FP.l2d (own_ref (q1 &&& (8191 : Int64)) (own_k p0)))) .l))])) _
            refine XS.ifNo X10.here hx rfl (hb hby at_135) rfl ((if0 _ _).trans (teq (own_cmp _ _ N 4 hk hN (by decide) (by decide) hNk hN53)).2) ?_
            show Steps p.tables e below (T10.setTop (mkF m 138 #[.val (.int p0), .val (.long q1), .second, .val (.int (own_k p0)), .val (.long (q1 &&& (8191 : Int64))), .second, .val (.double (own_ch (q1 &&& (8191 : Int64)) 4)), .second, .val (.double (FP.l2d (own_ref (q1 &&& (8191 : Int64)) (own_k p0)))), .second] [])) _
            refine XS.iconst X10.here hx rfl (hb hby at_138) ?_
            show Steps p.tables e below (T10.setTop (mkF m 139 #[.val (.int p0), .val (.long q1), .second, .val (.int (own_k p0)), .val (.long (q1 &&& (8191 : Int64))), .second, .val (.double (own_ch (q1 &&& (8191 : Int64)) 4)), .second, .val (.double (FP.l2d (own_ref (q1 &&& (8191 : Int64)) (own_k p0)))), .second] [(.int (1 : Int32))])) _
            refine XS.goto X10.here hx rfl (pc0 := 139) (pc' := 143) rfl (hb hby at_139) (by decide) (by decide) ?_
            show Steps p.tables e below (T10.setTop (mkF m 143 #[.val (.int p0), .val (.long q1), .second, .val (.int (own_k p0)), .val (.long (q1 &&& (8191 : Int64))), .second, .val (.double (own_ch (q1 &&& (8191 : Int64)) 4)), .second, .val (.double (FP.l2d (own_ref (q1 &&& (8191 : Int64)) (own_k p0)))), .second] [(.int (1 : Int32))])) _
            exact retN X10 hx (t := .boolean) Bd.returns (by simp) (hb hby at_143) hr
          · show Q0 Z p0 h0 n0 _ T10.heap _
            rw [eq10]
            exact ⟨rfl, N10⟩
        · have pre9 : ∀ t, Steps p.tables e below (s₁.setTop (mkF m 70 #[.val (.int p0), .val (.long q1), .second, .val (.int (own_k p0)), .unset, .unset, .unset, .unset, .unset, .unset] [(.int (5 : Int32)), (.int (own_k p0))])) t → Steps p.tables e below (s₁.setTop (entryFrame m #[(.int p0), (.long q1)] maxLocals)) t := by
            intro t kt
            refine pre7 _ ?_
            show Steps p.tables e below (s₁.setTop (mkF m 55 #[.val (.int p0), .val (.long q1), .second, .val (.int (own_k p0)), .unset, .unset, .unset, .unset, .unset, .unset] [(.int (4 : Int32)), (.int (own_k p0))])) _
            refine XS.icmpYes X0.here hx rfl (pc0 := 55) (pc' := 68) rfl (hb hby at_55) rfl (feq hs55_8).2 (by decide) (by decide) ?_
            show Steps p.tables e below (s₁.setTop (mkF m 68 #[.val (.int p0), .val (.long q1), .second, .val (.int (own_k p0)), .unset, .unset, .unset, .unset, .unset, .unset] [])) _
            refine XS.iloadN X0.here hx rfl (hb hby at_68) rfl ?_
            show Steps p.tables e below (s₁.setTop (mkF m 69 #[.val (.int p0), .val (.long q1), .second, .val (.int (own_k p0)), .unset, .unset, .unset, .unset, .unset, .unset] [(.int (own_k p0))])) _
            refine XS.iconst X0.here hx rfl (hb hby at_69) ?_
            show Steps p.tables e below (s₁.setTop (mkF m 70 #[.val (.int p0), .val (.long q1), .second, .val (.int (own_k p0)), .unset, .unset, .unset, .unset, .unset, .unset] [(.int (5 : Int32)), (.int (own_k p0))])) _
            exact kt
          by_cases hs70_10 : (own_k p0) = (5 : Int32)
          · have hk : own_k p0 = Int32.ofNat 5 := hs70_10
            obtain ⟨N, hN, hNk, hN53⟩ := own_n q1 (1023 : Int64) 10 5 (by decide) (by decide) (by decide) (by decide)
            have hn := own_nn _ N 5 hN (by decide) hNk hN53
            obtain ⟨_, _, ⟨T11, L11, k11, n11⟩, -, X11, ⟨Lc11, hQ11, l11, y11, z11⟩, st11⟩ := Jvm.LawKit.callS X0 hx (y := (⟨"com/example/possible_worlds/possibleworlds/exact/Multinomial", "choose", "(JI)D"⟩ : MethodName)) hown (mvT hZ (hw _ (List.mem_of_getElem? (i := 2) rfl))) (mvT hZ (hw _ (List.mem_of_getElem? (i := 3) rfl))) (mvT hZ (hw _ (List.mem_of_getElem? (i := 4) rfl))) (mvT hZ (hw _ (List.mem_of_getElem? (i := 5) rfl))) (by decide) (backOf (W := 0) (rm1 l Z a0 hw [] (q1 &&& (1023 : Int64)) (own_k p0) 5 h0 n0 Z0 hk (by decide) hn) hZ (hw _ (List.mem_of_getElem? (i := 5) rfl)) (hw _ (List.mem_of_getElem? (i := 4) rfl)) (by decide) (by decide)) (g := (mkF m 93 #[.val (.int p0), .val (.long q1), .second, .val (.int (own_k p0)), .val (.long (q1 &&& (1023 : Int64))), .second, .unset, .unset, .unset, .unset] [(.int (own_k p0)), (.long (q1 &&& (1023 : Int64)))])) rfl (by rw [hml]; rfl) (argsL := [(.long (q1 &&& (1023 : Int64))), (.int (own_k p0))]) (rest := []) (lenOf pd_0 rfl) rfl (by show 2 * 0 + _ ≤ _; exact Nat.le_of_eq rfl) (hb hby at_93) (fun _ _ => ⟨rfl, e0, (by decide : 0 + 0 ≤ _), (by decide : 0 + 0 ≤ _)⟩)
            dsimp only [Pt.U, Pt.locs, Pt.cells, Pt.slots] at X11 l11 y11 z11 st11 hQ11
            subst l11 y11 z11
            obtain ⟨rfl, N11q, eq11⟩ := hQ11
            have N11 := Fr.app N0 N11q
            obtain ⟨_, _, ⟨T12, L12, k12, n12⟩, -, X12, ⟨Lc12, hQ12, l12, y12, z12⟩, st12⟩ := Jvm.LawKit.callS X11 hx (y := (⟨"com/example/possible_worlds/possibleworlds/exact/MultinomialChoosePinLaw", "reference", "(JI)J"⟩ : MethodName)) hown (mvT hZ (hw _ (List.mem_of_getElem? (i := 7) rfl))) (mvT hZ (hw _ (List.mem_of_getElem? (i := 8) rfl))) (mvT hZ (hw _ (List.mem_of_getElem? (i := 9) rfl))) (mvT hZ (hw _ (List.mem_of_getElem? (i := 10) rfl))) (by decide) (backOf (W := 0) (rm2 l Z a0 hw [] (q1 &&& (1023 : Int64)) (own_k p0) h0 n0 Z0) hZ (hw _ (List.mem_of_getElem? (i := 10) rfl)) (hw _ (List.mem_of_getElem? (i := 9) rfl)) (by decide) (by decide)) (g := (mkF m 124 #[.val (.int p0), .val (.long q1), .second, .val (.int (own_k p0)), .val (.long (q1 &&& (1023 : Int64))), .second, .val (.double (own_ch (q1 &&& (1023 : Int64)) 5)), .second, .unset, .unset] [(.int (own_k p0)), (.long (q1 &&& (1023 : Int64)))])) rfl (by rw [hml]; rfl) (argsL := [(.long (q1 &&& (1023 : Int64))), (.int (own_k p0))]) (rest := []) (lenOf pd_1 rfl) rfl (by show 2 * 0 + _ ≤ _; exact Nat.le_of_eq rfl) (hb hby at_124) (fun _ _ => ⟨rfl, eq11, (by decide : 0 + 0 ≤ _), (by decide : 0 + 0 ≤ _)⟩)
            dsimp only [Pt.U, Pt.locs, Pt.cells, Pt.slots] at X12 l12 y12 z12 st12 hQ12
            subst l12 y12 z12
            obtain ⟨rfl, N12q, eq12⟩ := hQ12
            have N12 := Fr.app N11 N12q
            obtain ⟨fs, hr, hrun, hended, hW, hsame⟩ := X12.leave (v := some (.int (1 : Int32))) (fun h => by rw [Bd.returns] at h; cases h)
            refine ⟨_, _, pre9 _ ?_, hrun, hended, _, _, rfl, ?_, ⟨_, rfl⟩, hW, hsame.mono (by decide) (by decide)⟩
            · show Steps p.tables e below (s₁.setTop (mkF m 70 #[.val (.int p0), .val (.long q1), .second, .val (.int (own_k p0)), .unset, .unset, .unset, .unset, .unset, .unset] [(.int (5 : Int32)), (.int (own_k p0))])) _
              refine XS.icmpNo X0.here hx rfl (hb hby at_70) rfl (teq hs70_10).2 ?_
              show Steps p.tables e below (s₁.setTop (mkF m 73 #[.val (.int p0), .val (.long q1), .second, .val (.int (own_k p0)), .unset, .unset, .unset, .unset, .unset, .unset] [])) _
              refine XS.lloadN X0.here hx rfl (hb hby at_73) rfl ?_
              show Steps p.tables e below (s₁.setTop (mkF m 74 #[.val (.int p0), .val (.long q1), .second, .val (.int (own_k p0)), .unset, .unset, .unset, .unset, .unset, .unset] [(.long q1)])) _
              refine X0.ldc2Long hx hown (mvT hZ (hw _ (List.mem_of_getElem? (i := 14) rfl))) (g := (mkF m 74 #[.val (.int p0), .val (.long q1), .second, .val (.int (own_k p0)), .unset, .unset, .unset, .unset, .unset, .unset] [(.long q1)])) rfl (hb hby at_74) _ ?_
              show Steps p.tables e below (s₁.setTop (mkF m 77 #[.val (.int p0), .val (.long q1), .second, .val (.int (own_k p0)), .unset, .unset, .unset, .unset, .unset, .unset] [(.long (1023 : Int64)), (.long q1)])) _
              refine XS.land X0.here hx rfl (hb hby at_77) rfl ?_
              show Steps p.tables e below (s₁.setTop (mkF m 78 #[.val (.int p0), .val (.long q1), .second, .val (.int (own_k p0)), .unset, .unset, .unset, .unset, .unset, .unset] [(.long (q1 &&& (1023 : Int64)))])) _
              refine XS.lstore X0.here hx rfl (hb hby at_78) rfl (l' := #[.val (.int p0), .val (.long q1), .second, .val (.int (own_k p0)), .val (.long (q1 &&& (1023 : Int64))), .second, .unset, .unset, .unset, .unset]) rfl ?_
              show Steps p.tables e below (s₁.setTop (mkF m 80 #[.val (.int p0), .val (.long q1), .second, .val (.int (own_k p0)), .val (.long (q1 &&& (1023 : Int64))), .second, .unset, .unset, .unset, .unset] [])) _
              refine XS.goto X0.here hx rfl (pc0 := 80) (pc' := 90) rfl (hb hby at_80) (by decide) (by decide) ?_
              show Steps p.tables e below (s₁.setTop (mkF m 90 #[.val (.int p0), .val (.long q1), .second, .val (.int (own_k p0)), .val (.long (q1 &&& (1023 : Int64))), .second, .unset, .unset, .unset, .unset] [])) _
              refine XS.lload X0.here hx rfl (hb hby at_90) rfl ?_
              show Steps p.tables e below (s₁.setTop (mkF m 92 #[.val (.int p0), .val (.long q1), .second, .val (.int (own_k p0)), .val (.long (q1 &&& (1023 : Int64))), .second, .unset, .unset, .unset, .unset] [(.long (q1 &&& (1023 : Int64)))])) _
              refine XS.iloadN X0.here hx rfl (hb hby at_92) rfl ?_
              show Steps p.tables e below (s₁.setTop (mkF m 93 #[.val (.int p0), .val (.long q1), .second, .val (.int (own_k p0)), .val (.long (q1 &&& (1023 : Int64))), .second, .unset, .unset, .unset, .unset] [(.int (own_k p0)), (.long (q1 &&& (1023 : Int64)))])) _
              refine st11 _ ?_
              show Steps p.tables e below (T11.setTop (mkF m 96 #[.val (.int p0), .val (.long q1), .second, .val (.int (own_k p0)), .val (.long (q1 &&& (1023 : Int64))), .second, .unset, .unset, .unset, .unset] [(.double (own_ch (q1 &&& (1023 : Int64)) 5))])) _
              refine XS.dstore X11.here hx rfl (hb hby at_96) rfl (l' := #[.val (.int p0), .val (.long q1), .second, .val (.int (own_k p0)), .val (.long (q1 &&& (1023 : Int64))), .second, .val (.double (own_ch (q1 &&& (1023 : Int64)) 5)), .second, .unset, .unset]) rfl ?_
              show Steps p.tables e below (T11.setTop (mkF m 98 #[.val (.int p0), .val (.long q1), .second, .val (.int (own_k p0)), .val (.long (q1 &&& (1023 : Int64))), .second, .val (.double (own_ch (q1 &&& (1023 : Int64)) 5)), .second, .unset, .unset] [])) _
              refine XS.iloadN X11.here hx rfl (hb hby at_98) rfl ?_
              show Steps p.tables e below (T11.setTop (mkF m 99 #[.val (.int p0), .val (.long q1), .second, .val (.int (own_k p0)), .val (.long (q1 &&& (1023 : Int64))), .second, .val (.double (own_ch (q1 &&& (1023 : Int64)) 5)), .second, .unset, .unset] [(.int (own_k p0))])) _
              refine XS.ifYes X11.here hx rfl (pc0 := 99) (pc' := 108) rfl (hb hby at_99) rfl ((if0 _ _).trans (feq (by rw [hk]; decide)).2) (by decide) (by decide) ?_
              show Steps p.tables e below (T11.setTop (mkF m 108 #[.val (.int p0), .val (.long q1), .second, .val (.int (own_k p0)), .val (.long (q1 &&& (1023 : Int64))), .second, .val (.double (own_ch (q1 &&& (1023 : Int64)) 5)), .second, .unset, .unset] [])) _
              refine XS.iloadN X11.here hx rfl (hb hby at_108) rfl ?_
              show Steps p.tables e below (T11.setTop (mkF m 109 #[.val (.int p0), .val (.long q1), .second, .val (.int (own_k p0)), .val (.long (q1 &&& (1023 : Int64))), .second, .val (.double (own_ch (q1 &&& (1023 : Int64)) 5)), .second, .unset, .unset] [(.int (own_k p0))])) _
              refine XS.iconst X11.here hx rfl (hb hby at_109) ?_
              show Steps p.tables e below (T11.setTop (mkF m 110 #[.val (.int p0), .val (.long q1), .second, .val (.int (own_k p0)), .val (.long (q1 &&& (1023 : Int64))), .second, .val (.double (own_ch (q1 &&& (1023 : Int64)) 5)), .second, .unset, .unset] [(.int (1 : Int32)), (.int (own_k p0))])) _
              refine XS.icmpYes X11.here hx rfl (pc0 := 110) (pc' := 121) rfl (hb hby at_110) rfl (feq (by rw [hk]; decide)).2 (by decide) (by decide) ?_
              show Steps p.tables e below (T11.setTop (mkF m 121 #[.val (.int p0), .val (.long q1), .second, .val (.int (own_k p0)), .val (.long (q1 &&& (1023 : Int64))), .second, .val (.double (own_ch (q1 &&& (1023 : Int64)) 5)), .second, .unset, .unset] [])) _
              refine XS.lload X11.here hx rfl (hb hby at_121) rfl ?_
              show Steps p.tables e below (T11.setTop (mkF m 123 #[.val (.int p0), .val (.long q1), .second, .val (.int (own_k p0)), .val (.long (q1 &&& (1023 : Int64))), .second, .val (.double (own_ch (q1 &&& (1023 : Int64)) 5)), .second, .unset, .unset] [(.long (q1 &&& (1023 : Int64)))])) _
              refine XS.iloadN X11.here hx rfl (hb hby at_123) rfl ?_
              show Steps p.tables e below (T11.setTop (mkF m 124 #[.val (.int p0), .val (.long q1), .second, .val (.int (own_k p0)), .val (.long (q1 &&& (1023 : Int64))), .second, .val (.double (own_ch (q1 &&& (1023 : Int64)) 5)), .second, .unset, .unset] [(.int (own_k p0)), (.long (q1 &&& (1023 : Int64)))])) _
              refine st12 _ ?_
              show Steps p.tables e below (T12.setTop (mkF m 127 #[.val (.int p0), .val (.long q1), .second, .val (.int (own_k p0)), .val (.long (q1 &&& (1023 : Int64))), .second, .val (.double (own_ch (q1 &&& (1023 : Int64)) 5)), .second, .unset, .unset] [(.long (own_ref (q1 &&& (1023 : Int64)) (own_k p0)))])) _
              refine XS.l2dS X12.here hx rfl (hb hby at_127) rfl rfl ?_
              show Steps p.tables e below (T12.setTop (mkF m 128 #[.val (.int p0), .val (.long q1), .second, .val (.int (own_k p0)), .val (.long (q1 &&& (1023 : Int64))), .second, .val (.double (own_ch (q1 &&& (1023 : Int64)) 5)), .second, .unset, .unset] [(.double (FP.l2d (own_ref (q1 &&& (1023 : Int64)) (own_k p0))))])) _
              refine XS.dstore X12.here hx rfl (hb hby at_128) rfl (l' := #[.val (.int p0), .val (.long q1), .second, .val (.int (own_k p0)), .val (.long (q1 &&& (1023 : Int64))), .second, .val (.double (own_ch (q1 &&& (1023 : Int64)) 5)), .second, .val (.double (FP.l2d (own_ref (q1 &&& (1023 : Int64)) (own_k p0)))), .second]) rfl ?_
              show Steps p.tables e below (T12.setTop (mkF m 130 #[.val (.int p0), .val (.long q1), .second, .val (.int (own_k p0)), .val (.long (q1 &&& (1023 : Int64))), .second, .val (.double (own_ch (q1 &&& (1023 : Int64)) 5)), .second, .val (.double (FP.l2d (own_ref (q1 &&& (1023 : Int64)) (own_k p0)))), .second] [])) _
              refine XS.dload X12.here hx rfl (hb hby at_130) rfl ?_
              show Steps p.tables e below (T12.setTop (mkF m 132 #[.val (.int p0), .val (.long q1), .second, .val (.int (own_k p0)), .val (.long (q1 &&& (1023 : Int64))), .second, .val (.double (own_ch (q1 &&& (1023 : Int64)) 5)), .second, .val (.double (FP.l2d (own_ref (q1 &&& (1023 : Int64)) (own_k p0)))), .second] [(.double (own_ch (q1 &&& (1023 : Int64)) 5))])) _
              refine XS.dload X12.here hx rfl (hb hby at_132) rfl ?_
              show Steps p.tables e below (T12.setTop (mkF m 134 #[.val (.int p0), .val (.long q1), .second, .val (.int (own_k p0)), .val (.long (q1 &&& (1023 : Int64))), .second, .val (.double (own_ch (q1 &&& (1023 : Int64)) 5)), .second, .val (.double (FP.l2d (own_ref (q1 &&& (1023 : Int64)) (own_k p0)))), .second] [(.double (FP.l2d (own_ref (q1 &&& (1023 : Int64)) (own_k p0)))), (.double (own_ch (q1 &&& (1023 : Int64)) 5))])) _
              refine XS.dcmpS X12.here hx rfl (hb hby at_134) rfl rfl ?_
              show Steps p.tables e below (T12.setTop (mkF m 135 #[.val (.int p0), .val (.long q1), .second, .val (.int (own_k p0)), .val (.long (q1 &&& (1023 : Int64))), .second, .val (.double (own_ch (q1 &&& (1023 : Int64)) 5)), .second, .val (.double (FP.l2d (own_ref (q1 &&& (1023 : Int64)) (own_k p0)))), .second] [(.int (cmpValue (FP.dcmp (own_ch (q1 &&& (1023 : Int64)) 5) (FP.l2d (own_ref (q1 &&& (1023 : Int64)) (own_k p0)))) .l))])) _
              refine XS.ifNo X12.here hx rfl (hb hby at_135) rfl ((if0 _ _).trans (teq (own_cmp _ _ N 5 hk hN (by decide) (by decide) hNk hN53)).2) ?_
              show Steps p.tables e below (T12.setTop (mkF m 138 #[.val (.int p0), .val (.long q1), .second, .val (.int (own_k p0)), .val (.long (q1 &&& (1023 : Int64))), .second, .val (.double (own_ch (q1 &&& (1023 : Int64)) 5)), .second, .val (.double (FP.l2d (own_ref (q1 &&& (1023 : Int64)) (own_k p0)))), .second] [])) _
              refine XS.iconst X12.here hx rfl (hb hby at_138) ?_
              show Steps p.tables e below (T12.setTop (mkF m 139 #[.val (.int p0), .val (.long q1), .second, .val (.int (own_k p0)), .val (.long (q1 &&& (1023 : Int64))), .second, .val (.double (own_ch (q1 &&& (1023 : Int64)) 5)), .second, .val (.double (FP.l2d (own_ref (q1 &&& (1023 : Int64)) (own_k p0)))), .second] [(.int (1 : Int32))])) _
              refine XS.goto X12.here hx rfl (pc0 := 139) (pc' := 143) rfl (hb hby at_139) (by decide) (by decide) ?_
              show Steps p.tables e below (T12.setTop (mkF m 143 #[.val (.int p0), .val (.long q1), .second, .val (.int (own_k p0)), .val (.long (q1 &&& (1023 : Int64))), .second, .val (.double (own_ch (q1 &&& (1023 : Int64)) 5)), .second, .val (.double (FP.l2d (own_ref (q1 &&& (1023 : Int64)) (own_k p0)))), .second] [(.int (1 : Int32))])) _
              exact retN X12 hx (t := .boolean) Bd.returns (by simp) (hb hby at_143) hr
            · show Q0 Z p0 h0 n0 _ T12.heap _
              rw [eq12]
              exact ⟨rfl, N12⟩
          · have hk : own_k p0 = Int32.ofNat 6 := own_k6 p0 hs10_2 hs25_4 hs40_6 hs55_8 hs70_10
            obtain ⟨N, hN, hNk, hN53⟩ := own_n q1 (255 : Int64) 8 6 (by decide) (by decide) (by decide) (by decide)
            have hn := own_nn _ N 6 hN (by decide) hNk hN53
            obtain ⟨_, _, ⟨T11, L11, k11, n11⟩, -, X11, ⟨Lc11, hQ11, l11, y11, z11⟩, st11⟩ := Jvm.LawKit.callS X0 hx (y := (⟨"com/example/possible_worlds/possibleworlds/exact/Multinomial", "choose", "(JI)D"⟩ : MethodName)) hown (mvT hZ (hw _ (List.mem_of_getElem? (i := 2) rfl))) (mvT hZ (hw _ (List.mem_of_getElem? (i := 3) rfl))) (mvT hZ (hw _ (List.mem_of_getElem? (i := 4) rfl))) (mvT hZ (hw _ (List.mem_of_getElem? (i := 5) rfl))) (by decide) (backOf (W := 0) (rm1 l Z a0 hw [] (q1 &&& (255 : Int64)) (own_k p0) 6 h0 n0 Z0 hk (by decide) hn) hZ (hw _ (List.mem_of_getElem? (i := 5) rfl)) (hw _ (List.mem_of_getElem? (i := 4) rfl)) (by decide) (by decide)) (g := (mkF m 93 #[.val (.int p0), .val (.long q1), .second, .val (.int (own_k p0)), .val (.long (q1 &&& (255 : Int64))), .second, .unset, .unset, .unset, .unset] [(.int (own_k p0)), (.long (q1 &&& (255 : Int64)))])) rfl (by rw [hml]; rfl) (argsL := [(.long (q1 &&& (255 : Int64))), (.int (own_k p0))]) (rest := []) (lenOf pd_0 rfl) rfl (by show 2 * 0 + _ ≤ _; exact Nat.le_of_eq rfl) (hb hby at_93) (fun _ _ => ⟨rfl, e0, (by decide : 0 + 0 ≤ _), (by decide : 0 + 0 ≤ _)⟩)
            dsimp only [Pt.U, Pt.locs, Pt.cells, Pt.slots] at X11 l11 y11 z11 st11 hQ11
            subst l11 y11 z11
            obtain ⟨rfl, N11q, eq11⟩ := hQ11
            have N11 := Fr.app N0 N11q
            obtain ⟨_, _, ⟨T12, L12, k12, n12⟩, -, X12, ⟨Lc12, hQ12, l12, y12, z12⟩, st12⟩ := Jvm.LawKit.callS X11 hx (y := (⟨"com/example/possible_worlds/possibleworlds/exact/MultinomialChoosePinLaw", "reference", "(JI)J"⟩ : MethodName)) hown (mvT hZ (hw _ (List.mem_of_getElem? (i := 7) rfl))) (mvT hZ (hw _ (List.mem_of_getElem? (i := 8) rfl))) (mvT hZ (hw _ (List.mem_of_getElem? (i := 9) rfl))) (mvT hZ (hw _ (List.mem_of_getElem? (i := 10) rfl))) (by decide) (backOf (W := 0) (rm2 l Z a0 hw [] (q1 &&& (255 : Int64)) (own_k p0) h0 n0 Z0) hZ (hw _ (List.mem_of_getElem? (i := 10) rfl)) (hw _ (List.mem_of_getElem? (i := 9) rfl)) (by decide) (by decide)) (g := (mkF m 124 #[.val (.int p0), .val (.long q1), .second, .val (.int (own_k p0)), .val (.long (q1 &&& (255 : Int64))), .second, .val (.double (own_ch (q1 &&& (255 : Int64)) 6)), .second, .unset, .unset] [(.int (own_k p0)), (.long (q1 &&& (255 : Int64)))])) rfl (by rw [hml]; rfl) (argsL := [(.long (q1 &&& (255 : Int64))), (.int (own_k p0))]) (rest := []) (lenOf pd_1 rfl) rfl (by show 2 * 0 + _ ≤ _; exact Nat.le_of_eq rfl) (hb hby at_124) (fun _ _ => ⟨rfl, eq11, (by decide : 0 + 0 ≤ _), (by decide : 0 + 0 ≤ _)⟩)
            dsimp only [Pt.U, Pt.locs, Pt.cells, Pt.slots] at X12 l12 y12 z12 st12 hQ12
            subst l12 y12 z12
            obtain ⟨rfl, N12q, eq12⟩ := hQ12
            have N12 := Fr.app N11 N12q
            obtain ⟨fs, hr, hrun, hended, hW, hsame⟩ := X12.leave (v := some (.int (1 : Int32))) (fun h => by rw [Bd.returns] at h; cases h)
            refine ⟨_, _, pre9 _ ?_, hrun, hended, _, _, rfl, ?_, ⟨_, rfl⟩, hW, hsame.mono (by decide) (by decide)⟩
            · show Steps p.tables e below (s₁.setTop (mkF m 70 #[.val (.int p0), .val (.long q1), .second, .val (.int (own_k p0)), .unset, .unset, .unset, .unset, .unset, .unset] [(.int (5 : Int32)), (.int (own_k p0))])) _
              refine XS.icmpYes X0.here hx rfl (pc0 := 70) (pc' := 83) rfl (hb hby at_70) rfl (feq hs70_10).2 (by decide) (by decide) ?_
              show Steps p.tables e below (s₁.setTop (mkF m 83 #[.val (.int p0), .val (.long q1), .second, .val (.int (own_k p0)), .unset, .unset, .unset, .unset, .unset, .unset] [])) _
              refine XS.lloadN X0.here hx rfl (hb hby at_83) rfl ?_
              show Steps p.tables e below (s₁.setTop (mkF m 84 #[.val (.int p0), .val (.long q1), .second, .val (.int (own_k p0)), .unset, .unset, .unset, .unset, .unset, .unset] [(.long q1)])) _
              refine X0.ldc2Long hx hown (mvT hZ (hw _ (List.mem_of_getElem? (i := 20) rfl))) (g := (mkF m 84 #[.val (.int p0), .val (.long q1), .second, .val (.int (own_k p0)), .unset, .unset, .unset, .unset, .unset, .unset] [(.long q1)])) rfl (hb hby at_84) _ ?_
              show Steps p.tables e below (s₁.setTop (mkF m 87 #[.val (.int p0), .val (.long q1), .second, .val (.int (own_k p0)), .unset, .unset, .unset, .unset, .unset, .unset] [(.long (255 : Int64)), (.long q1)])) _
              refine XS.land X0.here hx rfl (hb hby at_87) rfl ?_
              show Steps p.tables e below (s₁.setTop (mkF m 88 #[.val (.int p0), .val (.long q1), .second, .val (.int (own_k p0)), .unset, .unset, .unset, .unset, .unset, .unset] [(.long (q1 &&& (255 : Int64)))])) _
              refine XS.lstore X0.here hx rfl (hb hby at_88) rfl (l' := #[.val (.int p0), .val (.long q1), .second, .val (.int (own_k p0)), .val (.long (q1 &&& (255 : Int64))), .second, .unset, .unset, .unset, .unset]) rfl ?_
              show Steps p.tables e below (s₁.setTop (mkF m 90 #[.val (.int p0), .val (.long q1), .second, .val (.int (own_k p0)), .val (.long (q1 &&& (255 : Int64))), .second, .unset, .unset, .unset, .unset] [])) _
              refine XS.lload X0.here hx rfl (hb hby at_90) rfl ?_
              show Steps p.tables e below (s₁.setTop (mkF m 92 #[.val (.int p0), .val (.long q1), .second, .val (.int (own_k p0)), .val (.long (q1 &&& (255 : Int64))), .second, .unset, .unset, .unset, .unset] [(.long (q1 &&& (255 : Int64)))])) _
              refine XS.iloadN X0.here hx rfl (hb hby at_92) rfl ?_
              show Steps p.tables e below (s₁.setTop (mkF m 93 #[.val (.int p0), .val (.long q1), .second, .val (.int (own_k p0)), .val (.long (q1 &&& (255 : Int64))), .second, .unset, .unset, .unset, .unset] [(.int (own_k p0)), (.long (q1 &&& (255 : Int64)))])) _
              refine st11 _ ?_
              show Steps p.tables e below (T11.setTop (mkF m 96 #[.val (.int p0), .val (.long q1), .second, .val (.int (own_k p0)), .val (.long (q1 &&& (255 : Int64))), .second, .unset, .unset, .unset, .unset] [(.double (own_ch (q1 &&& (255 : Int64)) 6))])) _
              refine XS.dstore X11.here hx rfl (hb hby at_96) rfl (l' := #[.val (.int p0), .val (.long q1), .second, .val (.int (own_k p0)), .val (.long (q1 &&& (255 : Int64))), .second, .val (.double (own_ch (q1 &&& (255 : Int64)) 6)), .second, .unset, .unset]) rfl ?_
              show Steps p.tables e below (T11.setTop (mkF m 98 #[.val (.int p0), .val (.long q1), .second, .val (.int (own_k p0)), .val (.long (q1 &&& (255 : Int64))), .second, .val (.double (own_ch (q1 &&& (255 : Int64)) 6)), .second, .unset, .unset] [])) _
              refine XS.iloadN X11.here hx rfl (hb hby at_98) rfl ?_
              show Steps p.tables e below (T11.setTop (mkF m 99 #[.val (.int p0), .val (.long q1), .second, .val (.int (own_k p0)), .val (.long (q1 &&& (255 : Int64))), .second, .val (.double (own_ch (q1 &&& (255 : Int64)) 6)), .second, .unset, .unset] [(.int (own_k p0))])) _
              refine XS.ifYes X11.here hx rfl (pc0 := 99) (pc' := 108) rfl (hb hby at_99) rfl ((if0 _ _).trans (feq (by rw [hk]; decide)).2) (by decide) (by decide) ?_
              show Steps p.tables e below (T11.setTop (mkF m 108 #[.val (.int p0), .val (.long q1), .second, .val (.int (own_k p0)), .val (.long (q1 &&& (255 : Int64))), .second, .val (.double (own_ch (q1 &&& (255 : Int64)) 6)), .second, .unset, .unset] [])) _
              refine XS.iloadN X11.here hx rfl (hb hby at_108) rfl ?_
              show Steps p.tables e below (T11.setTop (mkF m 109 #[.val (.int p0), .val (.long q1), .second, .val (.int (own_k p0)), .val (.long (q1 &&& (255 : Int64))), .second, .val (.double (own_ch (q1 &&& (255 : Int64)) 6)), .second, .unset, .unset] [(.int (own_k p0))])) _
              refine XS.iconst X11.here hx rfl (hb hby at_109) ?_
              show Steps p.tables e below (T11.setTop (mkF m 110 #[.val (.int p0), .val (.long q1), .second, .val (.int (own_k p0)), .val (.long (q1 &&& (255 : Int64))), .second, .val (.double (own_ch (q1 &&& (255 : Int64)) 6)), .second, .unset, .unset] [(.int (1 : Int32)), (.int (own_k p0))])) _
              refine XS.icmpYes X11.here hx rfl (pc0 := 110) (pc' := 121) rfl (hb hby at_110) rfl (feq (by rw [hk]; decide)).2 (by decide) (by decide) ?_
              show Steps p.tables e below (T11.setTop (mkF m 121 #[.val (.int p0), .val (.long q1), .second, .val (.int (own_k p0)), .val (.long (q1 &&& (255 : Int64))), .second, .val (.double (own_ch (q1 &&& (255 : Int64)) 6)), .second, .unset, .unset] [])) _
              refine XS.lload X11.here hx rfl (hb hby at_121) rfl ?_
              show Steps p.tables e below (T11.setTop (mkF m 123 #[.val (.int p0), .val (.long q1), .second, .val (.int (own_k p0)), .val (.long (q1 &&& (255 : Int64))), .second, .val (.double (own_ch (q1 &&& (255 : Int64)) 6)), .second, .unset, .unset] [(.long (q1 &&& (255 : Int64)))])) _
              refine XS.iloadN X11.here hx rfl (hb hby at_123) rfl ?_
              show Steps p.tables e below (T11.setTop (mkF m 124 #[.val (.int p0), .val (.long q1), .second, .val (.int (own_k p0)), .val (.long (q1 &&& (255 : Int64))), .second, .val (.double (own_ch (q1 &&& (255 : Int64)) 6)), .second, .unset, .unset] [(.int (own_k p0)), (.long (q1 &&& (255 : Int64)))])) _
              refine st12 _ ?_
              show Steps p.tables e below (T12.setTop (mkF m 127 #[.val (.int p0), .val (.long q1), .second, .val (.int (own_k p0)), .val (.long (q1 &&& (255 : Int64))), .second, .val (.double (own_ch (q1 &&& (255 : Int64)) 6)), .second, .unset, .unset] [(.long (own_ref (q1 &&& (255 : Int64)) (own_k p0)))])) _
              refine XS.l2dS X12.here hx rfl (hb hby at_127) rfl rfl ?_
              show Steps p.tables e below (T12.setTop (mkF m 128 #[.val (.int p0), .val (.long q1), .second, .val (.int (own_k p0)), .val (.long (q1 &&& (255 : Int64))), .second, .val (.double (own_ch (q1 &&& (255 : Int64)) 6)), .second, .unset, .unset] [(.double (FP.l2d (own_ref (q1 &&& (255 : Int64)) (own_k p0))))])) _
              refine XS.dstore X12.here hx rfl (hb hby at_128) rfl (l' := #[.val (.int p0), .val (.long q1), .second, .val (.int (own_k p0)), .val (.long (q1 &&& (255 : Int64))), .second, .val (.double (own_ch (q1 &&& (255 : Int64)) 6)), .second, .val (.double (FP.l2d (own_ref (q1 &&& (255 : Int64)) (own_k p0)))), .second]) rfl ?_
              show Steps p.tables e below (T12.setTop (mkF m 130 #[.val (.int p0), .val (.long q1), .second, .val (.int (own_k p0)), .val (.long (q1 &&& (255 : Int64))), .second, .val (.double (own_ch (q1 &&& (255 : Int64)) 6)), .second, .val (.double (FP.l2d (own_ref (q1 &&& (255 : Int64)) (own_k p0)))), .second] [])) _
              refine XS.dload X12.here hx rfl (hb hby at_130) rfl ?_
              show Steps p.tables e below (T12.setTop (mkF m 132 #[.val (.int p0), .val (.long q1), .second, .val (.int (own_k p0)), .val (.long (q1 &&& (255 : Int64))), .second, .val (.double (own_ch (q1 &&& (255 : Int64)) 6)), .second, .val (.double (FP.l2d (own_ref (q1 &&& (255 : Int64)) (own_k p0)))), .second] [(.double (own_ch (q1 &&& (255 : Int64)) 6))])) _
              refine XS.dload X12.here hx rfl (hb hby at_132) rfl ?_
              show Steps p.tables e below (T12.setTop (mkF m 134 #[.val (.int p0), .val (.long q1), .second, .val (.int (own_k p0)), .val (.long (q1 &&& (255 : Int64))), .second, .val (.double (own_ch (q1 &&& (255 : Int64)) 6)), .second, .val (.double (FP.l2d (own_ref (q1 &&& (255 : Int64)) (own_k p0)))), .second] [(.double (FP.l2d (own_ref (q1 &&& (255 : Int64)) (own_k p0)))), (.double (own_ch (q1 &&& (255 : Int64)) 6))])) _
              refine XS.dcmpS X12.here hx rfl (hb hby at_134) rfl rfl ?_
              show Steps p.tables e below (T12.setTop (mkF m 135 #[.val (.int p0), .val (.long q1), .second, .val (.int (own_k p0)), .val (.long (q1 &&& (255 : Int64))), .second, .val (.double (own_ch (q1 &&& (255 : Int64)) 6)), .second, .val (.double (FP.l2d (own_ref (q1 &&& (255 : Int64)) (own_k p0)))), .second] [(.int (cmpValue (FP.dcmp (own_ch (q1 &&& (255 : Int64)) 6) (FP.l2d (own_ref (q1 &&& (255 : Int64)) (own_k p0)))) .l))])) _
              refine XS.ifNo X12.here hx rfl (hb hby at_135) rfl ((if0 _ _).trans (teq (own_cmp _ _ N 6 hk hN (by decide) (by decide) hNk hN53)).2) ?_
              show Steps p.tables e below (T12.setTop (mkF m 138 #[.val (.int p0), .val (.long q1), .second, .val (.int (own_k p0)), .val (.long (q1 &&& (255 : Int64))), .second, .val (.double (own_ch (q1 &&& (255 : Int64)) 6)), .second, .val (.double (FP.l2d (own_ref (q1 &&& (255 : Int64)) (own_k p0)))), .second] [])) _
              refine XS.iconst X12.here hx rfl (hb hby at_138) ?_
              show Steps p.tables e below (T12.setTop (mkF m 139 #[.val (.int p0), .val (.long q1), .second, .val (.int (own_k p0)), .val (.long (q1 &&& (255 : Int64))), .second, .val (.double (own_ch (q1 &&& (255 : Int64)) 6)), .second, .val (.double (FP.l2d (own_ref (q1 &&& (255 : Int64)) (own_k p0)))), .second] [(.int (1 : Int32))])) _
              refine XS.goto X12.here hx rfl (pc0 := 139) (pc' := 143) rfl (hb hby at_139) (by decide) (by decide) ?_
              show Steps p.tables e below (T12.setTop (mkF m 143 #[.val (.int p0), .val (.long q1), .second, .val (.int (own_k p0)), .val (.long (q1 &&& (255 : Int64))), .second, .val (.double (own_ch (q1 &&& (255 : Int64)) 6)), .second, .val (.double (FP.l2d (own_ref (q1 &&& (255 : Int64)) (own_k p0)))), .second] [(.int (1 : Int32))])) _
              exact retN X12 hx (t := .boolean) Bd.returns (by simp) (hb hby at_143) hr
            · show Q0 Z p0 h0 n0 _ T12.heap _
              rw [eq12]
              exact ⟨rfl, N12⟩
  · have pre3 : ∀ t, Steps p.tables e below (s₁.setTop (mkF m 90 #[.val (.int p0), .val (.long q1), .second, .val (.int (own_k p0)), .val (.long (q1 &&& (9223372036854775807 : Int64))), .second, .unset, .unset, .unset, .unset] [])) t → Steps p.tables e below (s₁.setTop (entryFrame m #[(.int p0), (.long q1)] maxLocals)) t := by
      intro t kt
      refine pre1 _ ?_
      show Steps p.tables e below (s₁.setTop (mkF m 10 #[.val (.int p0), .val (.long q1), .second, .val (.int (own_k p0)), .unset, .unset, .unset, .unset, .unset, .unset] [(.int (1 : Int32)), (.int (own_k p0))])) _
      refine XS.icmpNo X0.here hx rfl (hb hby at_10) rfl (flt hs10_2).2.2.1 ?_
      show Steps p.tables e below (s₁.setTop (mkF m 13 #[.val (.int p0), .val (.long q1), .second, .val (.int (own_k p0)), .unset, .unset, .unset, .unset, .unset, .unset] [])) _
      refine XS.lloadN X0.here hx rfl (hb hby at_13) rfl ?_
      show Steps p.tables e below (s₁.setTop (mkF m 14 #[.val (.int p0), .val (.long q1), .second, .val (.int (own_k p0)), .unset, .unset, .unset, .unset, .unset, .unset] [(.long q1)])) _
      refine X0.ldc2Long hx hown (mvT hZ (hw _ (List.mem_of_getElem? (i := 1) rfl))) (g := (mkF m 14 #[.val (.int p0), .val (.long q1), .second, .val (.int (own_k p0)), .unset, .unset, .unset, .unset, .unset, .unset] [(.long q1)])) rfl (hb hby at_14) _ ?_
      show Steps p.tables e below (s₁.setTop (mkF m 17 #[.val (.int p0), .val (.long q1), .second, .val (.int (own_k p0)), .unset, .unset, .unset, .unset, .unset, .unset] [(.long (9223372036854775807 : Int64)), (.long q1)])) _
      refine XS.land X0.here hx rfl (hb hby at_17) rfl ?_
      show Steps p.tables e below (s₁.setTop (mkF m 18 #[.val (.int p0), .val (.long q1), .second, .val (.int (own_k p0)), .unset, .unset, .unset, .unset, .unset, .unset] [(.long (q1 &&& (9223372036854775807 : Int64)))])) _
      refine XS.lstore X0.here hx rfl (hb hby at_18) rfl (l' := #[.val (.int p0), .val (.long q1), .second, .val (.int (own_k p0)), .val (.long (q1 &&& (9223372036854775807 : Int64))), .second, .unset, .unset, .unset, .unset]) rfl ?_
      show Steps p.tables e below (s₁.setTop (mkF m 20 #[.val (.int p0), .val (.long q1), .second, .val (.int (own_k p0)), .val (.long (q1 &&& (9223372036854775807 : Int64))), .second, .unset, .unset, .unset, .unset] [])) _
      refine XS.goto X0.here hx rfl (pc0 := 20) (pc' := 90) rfl (hb hby at_20) (by decide) (by decide) ?_
      show Steps p.tables e below (s₁.setTop (mkF m 90 #[.val (.int p0), .val (.long q1), .second, .val (.int (own_k p0)), .val (.long (q1 &&& (9223372036854775807 : Int64))), .second, .unset, .unset, .unset, .unset] [])) _
      exact kt
    by_cases hs90 : own_k p0 = (0 : Int32)
    · have hk : own_k p0 = Int32.ofNat 0 := hs90
      have hn : ∀ i, i < 0 → Fl.NoNaN64 (FP.dmul (own_ch (q1 &&& (9223372036854775807 : Int64)) i) (FP.l2d ((q1 &&& (9223372036854775807 : Int64)) - ((Int32.ofNat i).toInt64)))) ∧ Fl.NoNaN64 (own_ch (q1 &&& (9223372036854775807 : Int64)) (i + 1)) := fun i hi => absurd hi (by omega)
      obtain ⟨_, _, ⟨T4, L4, k4, n4⟩, -, X4, ⟨Lc4, hQ4, l4, y4, z4⟩, st4⟩ := Jvm.LawKit.callS X0 hx (y := (⟨"com/example/possible_worlds/possibleworlds/exact/Multinomial", "choose", "(JI)D"⟩ : MethodName)) hown (mvT hZ (hw _ (List.mem_of_getElem? (i := 2) rfl))) (mvT hZ (hw _ (List.mem_of_getElem? (i := 3) rfl))) (mvT hZ (hw _ (List.mem_of_getElem? (i := 4) rfl))) (mvT hZ (hw _ (List.mem_of_getElem? (i := 5) rfl))) (by decide) (backOf (W := 0) (rm1 l Z a0 hw [] (q1 &&& (9223372036854775807 : Int64)) (own_k p0) 0 h0 n0 Z0 hk (by decide) hn) hZ (hw _ (List.mem_of_getElem? (i := 5) rfl)) (hw _ (List.mem_of_getElem? (i := 4) rfl)) (by decide) (by decide)) (g := (mkF m 93 #[.val (.int p0), .val (.long q1), .second, .val (.int (own_k p0)), .val (.long (q1 &&& (9223372036854775807 : Int64))), .second, .unset, .unset, .unset, .unset] [(.int (own_k p0)), (.long (q1 &&& (9223372036854775807 : Int64)))])) rfl (by rw [hml]; rfl) (argsL := [(.long (q1 &&& (9223372036854775807 : Int64))), (.int (own_k p0))]) (rest := []) (lenOf pd_0 rfl) rfl (by show 2 * 0 + _ ≤ _; exact Nat.le_of_eq rfl) (hb hby at_93) (fun _ _ => ⟨rfl, e0, (by decide : 0 + 0 ≤ _), (by decide : 0 + 0 ≤ _)⟩)
      dsimp only [Pt.U, Pt.locs, Pt.cells, Pt.slots] at X4 l4 y4 z4 st4 hQ4
      subst l4 y4 z4
      obtain ⟨rfl, N4q, eq4⟩ := hQ4
      have N4 := Fr.app N0 N4q
      obtain ⟨fs, hr, hrun, hended, hW, hsame⟩ := X4.leave (v := some (.int (1 : Int32))) (fun h => by rw [Bd.returns] at h; cases h)
      refine ⟨_, _, pre3 _ ?_, hrun, hended, _, _, rfl, ?_, ⟨_, rfl⟩, hW, hsame.mono (by decide) (by decide)⟩
      · show Steps p.tables e below (s₁.setTop (mkF m 90 #[.val (.int p0), .val (.long q1), .second, .val (.int (own_k p0)), .val (.long (q1 &&& (9223372036854775807 : Int64))), .second, .unset, .unset, .unset, .unset] [])) _
        show Steps p.tables e below (s₁.setTop (mkF m 90 #[.val (.int p0), .val (.long q1), .second, .val (.int (own_k p0)), .val (.long (q1 &&& (9223372036854775807 : Int64))), .second, .unset, .unset, .unset, .unset] [])) _
        refine XS.lload X0.here hx rfl (hb hby at_90) rfl ?_
        show Steps p.tables e below (s₁.setTop (mkF m 92 #[.val (.int p0), .val (.long q1), .second, .val (.int (own_k p0)), .val (.long (q1 &&& (9223372036854775807 : Int64))), .second, .unset, .unset, .unset, .unset] [(.long (q1 &&& (9223372036854775807 : Int64)))])) _
        refine XS.iloadN X0.here hx rfl (hb hby at_92) rfl ?_
        show Steps p.tables e below (s₁.setTop (mkF m 93 #[.val (.int p0), .val (.long q1), .second, .val (.int (own_k p0)), .val (.long (q1 &&& (9223372036854775807 : Int64))), .second, .unset, .unset, .unset, .unset] [(.int (own_k p0)), (.long (q1 &&& (9223372036854775807 : Int64)))])) _
        refine st4 _ ?_
        show Steps p.tables e below (T4.setTop (mkF m 96 #[.val (.int p0), .val (.long q1), .second, .val (.int (own_k p0)), .val (.long (q1 &&& (9223372036854775807 : Int64))), .second, .unset, .unset, .unset, .unset] [(.double (own_ch (q1 &&& (9223372036854775807 : Int64)) 0))])) _
        refine XS.dstore X4.here hx rfl (hb hby at_96) rfl (l' := #[.val (.int p0), .val (.long q1), .second, .val (.int (own_k p0)), .val (.long (q1 &&& (9223372036854775807 : Int64))), .second, .val (.double (own_ch (q1 &&& (9223372036854775807 : Int64)) 0)), .second, .unset, .unset]) rfl ?_
        show Steps p.tables e below (T4.setTop (mkF m 98 #[.val (.int p0), .val (.long q1), .second, .val (.int (own_k p0)), .val (.long (q1 &&& (9223372036854775807 : Int64))), .second, .val (.double (own_ch (q1 &&& (9223372036854775807 : Int64)) 0)), .second, .unset, .unset] [])) _
        refine XS.iloadN X4.here hx rfl (hb hby at_98) rfl ?_
        show Steps p.tables e below (T4.setTop (mkF m 99 #[.val (.int p0), .val (.long q1), .second, .val (.int (own_k p0)), .val (.long (q1 &&& (9223372036854775807 : Int64))), .second, .val (.double (own_ch (q1 &&& (9223372036854775807 : Int64)) 0)), .second, .unset, .unset] [(.int (own_k p0))])) _
        refine XS.ifNo X4.here hx rfl (hb hby at_99) rfl ((if0 _ _).trans (teq hs90).2) ?_
        show Steps p.tables e below (T4.setTop (mkF m 102 #[.val (.int p0), .val (.long q1), .second, .val (.int (own_k p0)), .val (.long (q1 &&& (9223372036854775807 : Int64))), .second, .val (.double (own_ch (q1 &&& (9223372036854775807 : Int64)) 0)), .second, .unset, .unset] [])) _
        refine XS.dconst1 X4.here hx rfl (hb hby at_102) rfl ?_
        show Steps p.tables e below (T4.setTop (mkF m 103 #[.val (.int p0), .val (.long q1), .second, .val (.int (own_k p0)), .val (.long (q1 &&& (9223372036854775807 : Int64))), .second, .val (.double (own_ch (q1 &&& (9223372036854775807 : Int64)) 0)), .second, .unset, .unset] [(.double FP.dconst1)])) _
        refine XS.dstore X4.here hx rfl (hb hby at_103) rfl (l' := #[.val (.int p0), .val (.long q1), .second, .val (.int (own_k p0)), .val (.long (q1 &&& (9223372036854775807 : Int64))), .second, .val (.double (own_ch (q1 &&& (9223372036854775807 : Int64)) 0)), .second, .val (.double FP.dconst1), .second]) rfl ?_
        show Steps p.tables e below (T4.setTop (mkF m 105 #[.val (.int p0), .val (.long q1), .second, .val (.int (own_k p0)), .val (.long (q1 &&& (9223372036854775807 : Int64))), .second, .val (.double (own_ch (q1 &&& (9223372036854775807 : Int64)) 0)), .second, .val (.double FP.dconst1), .second] [])) _
        refine XS.goto X4.here hx rfl (pc0 := 105) (pc' := 130) rfl (hb hby at_105) (by decide) (by decide) ?_
        show Steps p.tables e below (T4.setTop (mkF m 130 #[.val (.int p0), .val (.long q1), .second, .val (.int (own_k p0)), .val (.long (q1 &&& (9223372036854775807 : Int64))), .second, .val (.double (own_ch (q1 &&& (9223372036854775807 : Int64)) 0)), .second, .val (.double FP.dconst1), .second] [])) _
        refine XS.dload X4.here hx rfl (hb hby at_130) rfl ?_
        show Steps p.tables e below (T4.setTop (mkF m 132 #[.val (.int p0), .val (.long q1), .second, .val (.int (own_k p0)), .val (.long (q1 &&& (9223372036854775807 : Int64))), .second, .val (.double (own_ch (q1 &&& (9223372036854775807 : Int64)) 0)), .second, .val (.double FP.dconst1), .second] [(.double (own_ch (q1 &&& (9223372036854775807 : Int64)) 0))])) _
        refine XS.dload X4.here hx rfl (hb hby at_132) rfl ?_
        show Steps p.tables e below (T4.setTop (mkF m 134 #[.val (.int p0), .val (.long q1), .second, .val (.int (own_k p0)), .val (.long (q1 &&& (9223372036854775807 : Int64))), .second, .val (.double (own_ch (q1 &&& (9223372036854775807 : Int64)) 0)), .second, .val (.double FP.dconst1), .second] [(.double FP.dconst1), (.double (own_ch (q1 &&& (9223372036854775807 : Int64)) 0))])) _
        refine XS.dcmpS X4.here hx rfl (hb hby at_134) rfl rfl ?_
        show Steps p.tables e below (T4.setTop (mkF m 135 #[.val (.int p0), .val (.long q1), .second, .val (.int (own_k p0)), .val (.long (q1 &&& (9223372036854775807 : Int64))), .second, .val (.double (own_ch (q1 &&& (9223372036854775807 : Int64)) 0)), .second, .val (.double FP.dconst1), .second] [(.int (cmpValue (FP.dcmp (own_ch (q1 &&& (9223372036854775807 : Int64)) 0) FP.dconst1) .l))])) _
        refine XS.ifNo X4.here hx rfl (hb hby at_135) rfl ((if0 _ _).trans (teq (own_cmp0 _)).2) ?_
        show Steps p.tables e below (T4.setTop (mkF m 138 #[.val (.int p0), .val (.long q1), .second, .val (.int (own_k p0)), .val (.long (q1 &&& (9223372036854775807 : Int64))), .second, .val (.double (own_ch (q1 &&& (9223372036854775807 : Int64)) 0)), .second, .val (.double FP.dconst1), .second] [])) _
        refine XS.iconst X4.here hx rfl (hb hby at_138) ?_
        show Steps p.tables e below (T4.setTop (mkF m 139 #[.val (.int p0), .val (.long q1), .second, .val (.int (own_k p0)), .val (.long (q1 &&& (9223372036854775807 : Int64))), .second, .val (.double (own_ch (q1 &&& (9223372036854775807 : Int64)) 0)), .second, .val (.double FP.dconst1), .second] [(.int (1 : Int32))])) _
        refine XS.goto X4.here hx rfl (pc0 := 139) (pc' := 143) rfl (hb hby at_139) (by decide) (by decide) ?_
        show Steps p.tables e below (T4.setTop (mkF m 143 #[.val (.int p0), .val (.long q1), .second, .val (.int (own_k p0)), .val (.long (q1 &&& (9223372036854775807 : Int64))), .second, .val (.double (own_ch (q1 &&& (9223372036854775807 : Int64)) 0)), .second, .val (.double FP.dconst1), .second] [(.int (1 : Int32))])) _
        exact retN X4 hx (t := .boolean) Bd.returns (by simp) (hb hby at_143) hr
      · show Q0 Z p0 h0 n0 _ T4.heap _
        rw [eq4]
        exact ⟨rfl, N4⟩
    · have hk : own_k p0 = Int32.ofNat 1 := own_k1 p0 hs10_2 hs90
      have hn : ∀ i, i < 1 → Fl.NoNaN64 (FP.dmul (own_ch (q1 &&& (9223372036854775807 : Int64)) i) (FP.l2d ((q1 &&& (9223372036854775807 : Int64)) - ((Int32.ofNat i).toInt64)))) ∧ Fl.NoNaN64 (own_ch (q1 &&& (9223372036854775807 : Int64)) (i + 1)) := own_nn1 _
      obtain ⟨_, _, ⟨T4, L4, k4, n4⟩, -, X4, ⟨Lc4, hQ4, l4, y4, z4⟩, st4⟩ := Jvm.LawKit.callS X0 hx (y := (⟨"com/example/possible_worlds/possibleworlds/exact/Multinomial", "choose", "(JI)D"⟩ : MethodName)) hown (mvT hZ (hw _ (List.mem_of_getElem? (i := 2) rfl))) (mvT hZ (hw _ (List.mem_of_getElem? (i := 3) rfl))) (mvT hZ (hw _ (List.mem_of_getElem? (i := 4) rfl))) (mvT hZ (hw _ (List.mem_of_getElem? (i := 5) rfl))) (by decide) (backOf (W := 0) (rm1 l Z a0 hw [] (q1 &&& (9223372036854775807 : Int64)) (own_k p0) 1 h0 n0 Z0 hk (by decide) hn) hZ (hw _ (List.mem_of_getElem? (i := 5) rfl)) (hw _ (List.mem_of_getElem? (i := 4) rfl)) (by decide) (by decide)) (g := (mkF m 93 #[.val (.int p0), .val (.long q1), .second, .val (.int (own_k p0)), .val (.long (q1 &&& (9223372036854775807 : Int64))), .second, .unset, .unset, .unset, .unset] [(.int (own_k p0)), (.long (q1 &&& (9223372036854775807 : Int64)))])) rfl (by rw [hml]; rfl) (argsL := [(.long (q1 &&& (9223372036854775807 : Int64))), (.int (own_k p0))]) (rest := []) (lenOf pd_0 rfl) rfl (by show 2 * 0 + _ ≤ _; exact Nat.le_of_eq rfl) (hb hby at_93) (fun _ _ => ⟨rfl, e0, (by decide : 0 + 0 ≤ _), (by decide : 0 + 0 ≤ _)⟩)
      dsimp only [Pt.U, Pt.locs, Pt.cells, Pt.slots] at X4 l4 y4 z4 st4 hQ4
      subst l4 y4 z4
      obtain ⟨rfl, N4q, eq4⟩ := hQ4
      have N4 := Fr.app N0 N4q
      obtain ⟨fs, hr, hrun, hended, hW, hsame⟩ := X4.leave (v := some (.int (1 : Int32))) (fun h => by rw [Bd.returns] at h; cases h)
      refine ⟨_, _, pre3 _ ?_, hrun, hended, _, _, rfl, ?_, ⟨_, rfl⟩, hW, hsame.mono (by decide) (by decide)⟩
      · show Steps p.tables e below (s₁.setTop (mkF m 90 #[.val (.int p0), .val (.long q1), .second, .val (.int (own_k p0)), .val (.long (q1 &&& (9223372036854775807 : Int64))), .second, .unset, .unset, .unset, .unset] [])) _
        show Steps p.tables e below (s₁.setTop (mkF m 90 #[.val (.int p0), .val (.long q1), .second, .val (.int (own_k p0)), .val (.long (q1 &&& (9223372036854775807 : Int64))), .second, .unset, .unset, .unset, .unset] [])) _
        refine XS.lload X0.here hx rfl (hb hby at_90) rfl ?_
        show Steps p.tables e below (s₁.setTop (mkF m 92 #[.val (.int p0), .val (.long q1), .second, .val (.int (own_k p0)), .val (.long (q1 &&& (9223372036854775807 : Int64))), .second, .unset, .unset, .unset, .unset] [(.long (q1 &&& (9223372036854775807 : Int64)))])) _
        refine XS.iloadN X0.here hx rfl (hb hby at_92) rfl ?_
        show Steps p.tables e below (s₁.setTop (mkF m 93 #[.val (.int p0), .val (.long q1), .second, .val (.int (own_k p0)), .val (.long (q1 &&& (9223372036854775807 : Int64))), .second, .unset, .unset, .unset, .unset] [(.int (own_k p0)), (.long (q1 &&& (9223372036854775807 : Int64)))])) _
        refine st4 _ ?_
        show Steps p.tables e below (T4.setTop (mkF m 96 #[.val (.int p0), .val (.long q1), .second, .val (.int (own_k p0)), .val (.long (q1 &&& (9223372036854775807 : Int64))), .second, .unset, .unset, .unset, .unset] [(.double (own_ch (q1 &&& (9223372036854775807 : Int64)) 1))])) _
        refine XS.dstore X4.here hx rfl (hb hby at_96) rfl (l' := #[.val (.int p0), .val (.long q1), .second, .val (.int (own_k p0)), .val (.long (q1 &&& (9223372036854775807 : Int64))), .second, .val (.double (own_ch (q1 &&& (9223372036854775807 : Int64)) 1)), .second, .unset, .unset]) rfl ?_
        show Steps p.tables e below (T4.setTop (mkF m 98 #[.val (.int p0), .val (.long q1), .second, .val (.int (own_k p0)), .val (.long (q1 &&& (9223372036854775807 : Int64))), .second, .val (.double (own_ch (q1 &&& (9223372036854775807 : Int64)) 1)), .second, .unset, .unset] [])) _
        refine XS.iloadN X4.here hx rfl (hb hby at_98) rfl ?_
        show Steps p.tables e below (T4.setTop (mkF m 99 #[.val (.int p0), .val (.long q1), .second, .val (.int (own_k p0)), .val (.long (q1 &&& (9223372036854775807 : Int64))), .second, .val (.double (own_ch (q1 &&& (9223372036854775807 : Int64)) 1)), .second, .unset, .unset] [(.int (own_k p0))])) _
        refine XS.ifYes X4.here hx rfl (pc0 := 99) (pc' := 108) rfl (hb hby at_99) rfl ((if0 _ _).trans (feq hs90).2) (by decide) (by decide) ?_
        show Steps p.tables e below (T4.setTop (mkF m 108 #[.val (.int p0), .val (.long q1), .second, .val (.int (own_k p0)), .val (.long (q1 &&& (9223372036854775807 : Int64))), .second, .val (.double (own_ch (q1 &&& (9223372036854775807 : Int64)) 1)), .second, .unset, .unset] [])) _
        refine XS.iloadN X4.here hx rfl (hb hby at_108) rfl ?_
        show Steps p.tables e below (T4.setTop (mkF m 109 #[.val (.int p0), .val (.long q1), .second, .val (.int (own_k p0)), .val (.long (q1 &&& (9223372036854775807 : Int64))), .second, .val (.double (own_ch (q1 &&& (9223372036854775807 : Int64)) 1)), .second, .unset, .unset] [(.int (own_k p0))])) _
        refine XS.iconst X4.here hx rfl (hb hby at_109) ?_
        show Steps p.tables e below (T4.setTop (mkF m 110 #[.val (.int p0), .val (.long q1), .second, .val (.int (own_k p0)), .val (.long (q1 &&& (9223372036854775807 : Int64))), .second, .val (.double (own_ch (q1 &&& (9223372036854775807 : Int64)) 1)), .second, .unset, .unset] [(.int (1 : Int32)), (.int (own_k p0))])) _
        refine XS.icmpNo X4.here hx rfl (hb hby at_110) rfl (teq hk).2 ?_
        show Steps p.tables e below (T4.setTop (mkF m 113 #[.val (.int p0), .val (.long q1), .second, .val (.int (own_k p0)), .val (.long (q1 &&& (9223372036854775807 : Int64))), .second, .val (.double (own_ch (q1 &&& (9223372036854775807 : Int64)) 1)), .second, .unset, .unset] [])) _
        refine XS.lload X4.here hx rfl (hb hby at_113) rfl ?_
        show Steps p.tables e below (T4.setTop (mkF m 115 #[.val (.int p0), .val (.long q1), .second, .val (.int (own_k p0)), .val (.long (q1 &&& (9223372036854775807 : Int64))), .second, .val (.double (own_ch (q1 &&& (9223372036854775807 : Int64)) 1)), .second, .unset, .unset] [(.long (q1 &&& (9223372036854775807 : Int64)))])) _
        refine XS.l2dS X4.here hx rfl (hb hby at_115) rfl rfl ?_
        show Steps p.tables e below (T4.setTop (mkF m 116 #[.val (.int p0), .val (.long q1), .second, .val (.int (own_k p0)), .val (.long (q1 &&& (9223372036854775807 : Int64))), .second, .val (.double (own_ch (q1 &&& (9223372036854775807 : Int64)) 1)), .second, .unset, .unset] [(.double (FP.l2d (q1 &&& (9223372036854775807 : Int64))))])) _
        refine XS.dstore X4.here hx rfl (hb hby at_116) rfl (l' := #[.val (.int p0), .val (.long q1), .second, .val (.int (own_k p0)), .val (.long (q1 &&& (9223372036854775807 : Int64))), .second, .val (.double (own_ch (q1 &&& (9223372036854775807 : Int64)) 1)), .second, .val (.double (FP.l2d (q1 &&& (9223372036854775807 : Int64)))), .second]) rfl ?_
        show Steps p.tables e below (T4.setTop (mkF m 118 #[.val (.int p0), .val (.long q1), .second, .val (.int (own_k p0)), .val (.long (q1 &&& (9223372036854775807 : Int64))), .second, .val (.double (own_ch (q1 &&& (9223372036854775807 : Int64)) 1)), .second, .val (.double (FP.l2d (q1 &&& (9223372036854775807 : Int64)))), .second] [])) _
        refine XS.goto X4.here hx rfl (pc0 := 118) (pc' := 130) rfl (hb hby at_118) (by decide) (by decide) ?_
        show Steps p.tables e below (T4.setTop (mkF m 130 #[.val (.int p0), .val (.long q1), .second, .val (.int (own_k p0)), .val (.long (q1 &&& (9223372036854775807 : Int64))), .second, .val (.double (own_ch (q1 &&& (9223372036854775807 : Int64)) 1)), .second, .val (.double (FP.l2d (q1 &&& (9223372036854775807 : Int64)))), .second] [])) _
        refine XS.dload X4.here hx rfl (hb hby at_130) rfl ?_
        show Steps p.tables e below (T4.setTop (mkF m 132 #[.val (.int p0), .val (.long q1), .second, .val (.int (own_k p0)), .val (.long (q1 &&& (9223372036854775807 : Int64))), .second, .val (.double (own_ch (q1 &&& (9223372036854775807 : Int64)) 1)), .second, .val (.double (FP.l2d (q1 &&& (9223372036854775807 : Int64)))), .second] [(.double (own_ch (q1 &&& (9223372036854775807 : Int64)) 1))])) _
        refine XS.dload X4.here hx rfl (hb hby at_132) rfl ?_
        show Steps p.tables e below (T4.setTop (mkF m 134 #[.val (.int p0), .val (.long q1), .second, .val (.int (own_k p0)), .val (.long (q1 &&& (9223372036854775807 : Int64))), .second, .val (.double (own_ch (q1 &&& (9223372036854775807 : Int64)) 1)), .second, .val (.double (FP.l2d (q1 &&& (9223372036854775807 : Int64)))), .second] [(.double (FP.l2d (q1 &&& (9223372036854775807 : Int64)))), (.double (own_ch (q1 &&& (9223372036854775807 : Int64)) 1))])) _
        refine XS.dcmpS X4.here hx rfl (hb hby at_134) rfl rfl ?_
        show Steps p.tables e below (T4.setTop (mkF m 135 #[.val (.int p0), .val (.long q1), .second, .val (.int (own_k p0)), .val (.long (q1 &&& (9223372036854775807 : Int64))), .second, .val (.double (own_ch (q1 &&& (9223372036854775807 : Int64)) 1)), .second, .val (.double (FP.l2d (q1 &&& (9223372036854775807 : Int64)))), .second] [(.int (cmpValue (FP.dcmp (own_ch (q1 &&& (9223372036854775807 : Int64)) 1) (FP.l2d (q1 &&& (9223372036854775807 : Int64)))) .l))])) _
        refine XS.ifNo X4.here hx rfl (hb hby at_135) rfl ((if0 _ _).trans (teq (own_cmp1 _)).2) ?_
        show Steps p.tables e below (T4.setTop (mkF m 138 #[.val (.int p0), .val (.long q1), .second, .val (.int (own_k p0)), .val (.long (q1 &&& (9223372036854775807 : Int64))), .second, .val (.double (own_ch (q1 &&& (9223372036854775807 : Int64)) 1)), .second, .val (.double (FP.l2d (q1 &&& (9223372036854775807 : Int64)))), .second] [])) _
        refine XS.iconst X4.here hx rfl (hb hby at_138) ?_
        show Steps p.tables e below (T4.setTop (mkF m 139 #[.val (.int p0), .val (.long q1), .second, .val (.int (own_k p0)), .val (.long (q1 &&& (9223372036854775807 : Int64))), .second, .val (.double (own_ch (q1 &&& (9223372036854775807 : Int64)) 1)), .second, .val (.double (FP.l2d (q1 &&& (9223372036854775807 : Int64)))), .second] [(.int (1 : Int32))])) _
        refine XS.goto X4.here hx rfl (pc0 := 139) (pc' := 143) rfl (hb hby at_139) (by decide) (by decide) ?_
        show Steps p.tables e below (T4.setTop (mkF m 143 #[.val (.int p0), .val (.long q1), .second, .val (.int (own_k p0)), .val (.long (q1 &&& (9223372036854775807 : Int64))), .second, .val (.double (own_ch (q1 &&& (9223372036854775807 : Int64)) 1)), .second, .val (.double (FP.l2d (q1 &&& (9223372036854775807 : Int64)))), .second] [(.int (1 : Int32))])) _
        exact retN X4 hx (t := .boolean) Bd.returns (by simp) (hb hby at_143) hr
      · show Q0 Z p0 h0 n0 _ T4.heap _
        rw [eq4]
        exact ⟨rfl, N4⟩
set_option maxRecDepth 65536 in
set_option maxHeartbeats 40000000 in
theorem comes_1 {Post : Tables → Env → Array Value → State → Outcome → State → Prop} (hpost : ∀ tb e args s v u, (limb_1_1.after args s (.returned v) u = true ∧ limb_1_2.after args s (.returned v) u = true ∧ True) → FrameEnd s (.returned v) u (Jvm.fieldLocs frame_1_writes args s ++ Jvm.arrayLocs frame_1_arrays args s ++ Jvm.staticLocs frame_1_statics s) 0 0 → Post tb e args s (.returned v) u) :
    ArmFor flags0 classFile x code maxLocals ret World_1 tables_1 room_1 Calls_1 rest_1 Pre_1 Post := by
  intro l hfl _ _ p e ha hc hk s m args below hf hA hF happ hP
  obtain ⟨hcalls, hrest, hpre⟩ := hP
  obtain ⟨-, -, -, hnamed, -, -, -, hat⟩ := (Spec.applies_iff hf).mp happ
  obtain ⟨hg, hn⟩ := and_e (Cond.before_iff.mp (show (Jvm.Cond.and given_1 narrow_1).before args s = true from hpre))
  obtain ⟨g1, g2⟩ := and_e hg
  obtain ⟨g3, g4⟩ := and_e g2
  obtain ⟨w0, w1, rfl⟩ : ∃ w0 w1 : Value, args = #[w0, w1] := by
    have hs : args.size = 2 := by simpa [Cond.value, given_1] using g1
    obtain ⟨L⟩ := args
    match L, hs with
    | [w0, w1], _ => exact ⟨w0, w1, rfl⟩
  have hw := fun d (hd : d ∈ tables_1) => atoms_spec (ws := Jvm.Cond.code x code maxLocals ret :: tables_1) hat d (List.mem_cons_of_mem _ hd)
  have hfit : Fit s := fun {y c} hc i hi => by
    obtain ⟨ha, rfl⟩ := Array.getElem?_eq_some_iff.mp hc
    have q := List.all_eq_true.mp ((Array.all_eq_true_iff_forall_mem.mp hF) _ (Array.getElem_mem ha)) i (List.mem_range.mpr hi)
    simpa [Array.getElem?_eq_getElem hi] using q
  obtain ⟨i0, ei0⟩ := is_v g3
  obtain rfl : w0 = (.int i0) := Option.some.inj ei0
  obtain ⟨i1, ei1⟩ := isL_v g4
  obtain rfl : w1 = (.long i1) := Option.some.inj ei1
  obtain ⟨n, o, h1, h2, h3, _, L, rfl, ⟨rfl, N⟩, hq⟩ := rm0 l s _ hw tables_1 i0 i1 s.heap s.heap.size (Nat.le_refl _) p e ha hc hk s m _ below hf ((Spec.applies_iff_loose hf).mp happ).1 ⟨rfl, State.Warmed39.refl s, rfl⟩ trivial
  refine ⟨n, _, h1, h2, h3, hpost _ _ _ _ _ _ ⟨Cond.after_iff.mpr rfl, Cond.after_iff.mpr (eq_i res_at (Term.int_eval (1)) rfl), trivial⟩ ⟨hq.1, hq.2.1, (hq.2.2.sift fun y hy => Or.inr (N y hy)).mono (by decide) (by decide)⟩⟩
theorem main_1_1 : Claimed_1_1 := comes_1 fun _ _ _ _ _ _ h hF => ⟨h.1, hF⟩
theorem main_1_2 : Claimed_1_2 := comes_1 fun _ _ _ _ _ _ h hF => ⟨h.2.1, hF⟩
end Jvm.Pilot.@@N@@
namespace Jvm.Pilot.@@N@@
open Jvm Jvm.ClassFile Sem Op Lib Jvm.Free Jvm.Stand Jvm.Pilot.@@N@@.Jvm.D
/-! MADE BY PROGRAM (witnessworld.py) out of the Statement's table words and the real class files: 9 classes; the members and pool entries that the words name. The judged class is class 1, her method 1. -/
namespace start1
open Jvm.ClassFile
def u (s : String) : CpInfo := .utf8 (stringToUtf16 s)
/-- a pool by its gaps: so many unusable entries, then the entry; so many at the end -/
def gap : Nat → List CpInfo → List CpInfo
  | 0, r => r
  | n + 1, r => .unusable :: gap n r
def poolList (es : List (Nat × CpInfo)) (last : Nat) : List CpInfo := es.foldr (fun e r => gap e.1 (e.2 :: r)) (gap last [])
def pool (es : List (Nat × CpInfo)) (last : Nat) : Array CpInfo := ⟨poolList es last⟩
def fileOf (pool : Array CpInfo) (this : Nat) (attrs : Array Attribute := #[]) (ms : Array MethodInfo := #[]) (fl : Nat := 33) (sup : Nat := 0) (ifs : Array Nat := #[]) (fds : Array FieldInfo := #[]) : ClassFile where
  minorVersion := 0
  majorVersion := 65
  constantPool := pool
  accessFlags := fl
  thisClass := this
  superClass := sup
  interfaces := ifs
  fields := fds
  methods := ms
  attributes := attrs
def plain (name : String) (sup : Option ClassId) : Class where
  name := name
  kind := .ordinary
  loader := none
  accessFlags := 33
  super := sup
  interfaces := #[]
  cf := none
  fields := #[]
  methods := #[]
  instanceTypes := #[]
  staticTypes := #[]
  resolved := #[]
  callSites := []
  init := .initialized
  statics := none
  mirror := none

def pool0 : Array CpInfo := pool [(5, u "<init>"), (0, u "()V"), (1, .class_ 10), (1, u "java/lang/Object")] 113

def k0m0 : Method := { name := "<init>", desc := "()V", sig := { parameters := [], returnType := none }, accessFlags := 1, code := none }
/-- java/lang/Object -/
def k0 : Class := { plain "java/lang/Object" none with
  accessFlags := 33
  interfaces := #[]
  cf := some (fileOf pool0 8 #[] #[{ accessFlags := 1, nameIndex := 5, descriptorIndex := 6, attributes := #[] }] 33 0 #[] #[])
  fields := #[]
  methods := #[k0m0]
  instanceTypes := #[]
  staticTypes := #[]
  resolved := Array.replicate 124 none
  statics := none }

def pool1 : Array CpInfo := pool [(2, .class_ 4), (1, u "java/lang/Object"), (0, u "<init>"), (0, u "()V"), (0, .integer 2147483647), (2, .long 9223372036854775807), (1, .long 67108863), (1, .long 131071), (1, .long 8191), (1, .long 1023), (1, .long 255), (1, .methodref 23 24), (0, .class_ 25), (0, .nameAndType 26 27), (0, u "com/example/possible_worlds/possibleworlds/exact/Multinomial"), (0, u "choose"), (0, u "(JI)D"), (0, .methodref 29 30), (0, .class_ 31), (0, .nameAndType 32 33), (0, u "com/example/possible_worlds/possibleworlds/exact/MultinomialChoosePinLaw"), (0, u "reference"), (0, u "(JI)J"), (0, .long 2), (1, .long 6), (1, .long 3), (1, .long 24), (1, .long 4), (1, .long 120), (1, .long 5), (1, .long 720), (3, u "law"), (0, u "(IJ)Z")] 3

def k1m0 : Method := { name := "<init>", desc := "()V", sig := { parameters := [], returnType := none }, accessFlags := 1, code := none }
def k1c1 : Code := { maxStack := 4, maxLocals := 10, code := code, exceptionTable := #[], attributes := #[] }
def k1m1 : Method := { name := "law", desc := "(IJ)Z", sig := { parameters := [.int, .long], returnType := some .boolean }, accessFlags := 9, code := some k1c1 }
def k1c2 : Code := { maxStack := 6, maxLocals := 5, code := method_3_code, exceptionTable := #[], attributes := #[] }
def k1m2 : Method := { name := "reference", desc := "(JI)J", sig := { parameters := [.long, .int], returnType := some .long }, accessFlags := 10, code := some k1c2 }
/-- com/example/possible_worlds/possibleworlds/exact/MultinomialChoosePinLaw -/
def k1 : Class := { plain "com/example/possible_worlds/possibleworlds/exact/MultinomialChoosePinLaw" (some 0) with
  accessFlags := 49
  interfaces := #[]
  cf := some (fileOf pool1 29 #[] #[{ accessFlags := 1, nameIndex := 5, descriptorIndex := 6, attributes := #[] }, { accessFlags := 9, nameIndex := 52, descriptorIndex := 53, attributes := #[] }, { accessFlags := 10, nameIndex := 32, descriptorIndex := 33, attributes := #[] }] 49 2 #[] #[])
  fields := #[]
  methods := #[k1m0, k1m1, k1m2]
  instanceTypes := #[]
  staticTypes := #[]
  resolved := Array.replicate 57 none
  statics := none }

def pool2 : Array CpInfo := pool [(2, .class_ 4), (1, u "java/lang/Object"), (6, .class_ 13), (1, u "com/example/possible_worlds/possibleworlds/exact/Multinomial"), (0, u "values"), (0, u "Ljava/util/List;"), (2, u "logProbabilities"), (53, u "choose"), (0, u "(JI)D"), (23, .class_ 98), (0, u "com/example/possible_worlds/possibleworlds/exact/Multinomial$Way")] 31

def k2c0 : Code := { maxStack := 6, maxLocals := 6, code := prog_20_method_6_code, exceptionTable := #[], attributes := #[] }
def k2m0 : Method := { name := "choose", desc := "(JI)D", sig := { parameters := [.long, .int], returnType := some .double }, accessFlags := 8, code := some k2c0 }
/-- com/example/possible_worlds/possibleworlds/exact/Multinomial -/
def k2 : Class := { plain "com/example/possible_worlds/possibleworlds/exact/Multinomial" (some 0) with
  accessFlags := 32
  interfaces := #[]
  cf := some (fileOf pool2 11 #[.nestMembers #[97]] #[{ accessFlags := 8, nameIndex := 72, descriptorIndex := 73, attributes := #[] }] 32 2 #[] #[{ accessFlags := 18, nameIndex := 14, descriptorIndex := 15, attributes := #[] }, { accessFlags := 18, nameIndex := 18, descriptorIndex := 15, attributes := #[] }])
  fields := #[{ name := "values", type := (.object "java/util/List"), accessFlags := 18, slot := 0, constantValue := 0 }, { name := "logProbabilities", type := (.object "java/util/List"), accessFlags := 18, slot := 1, constantValue := 0 }]
  methods := #[k2m0]
  instanceTypes := #[(.object "java/util/List"), (.object "java/util/List")]
  staticTypes := #[]
  resolved := Array.replicate 130 none
  statics := none }

def pool3 : Array CpInfo := pool [(1, u "java/lang/Cloneable"), (0, .class_ 1), (0, u "java/lang/Object"), (0, .class_ 3)] 3

/-- java/lang/Cloneable -/
def k3 : Class := { plain "java/lang/Cloneable" (some 0) with
  accessFlags := 1537
  interfaces := #[]
  cf := some (fileOf pool3 2 #[] #[] 1537 4 #[] #[])
  fields := #[]
  methods := #[]
  instanceTypes := #[]
  staticTypes := #[]
  resolved := Array.replicate 8 none
  statics := none }

def pool4 : Array CpInfo := pool [(1, u "java/io/Serializable"), (0, .class_ 1), (0, u "java/lang/Object"), (0, .class_ 3)] 3

/-- java/io/Serializable -/
def k4 : Class := { plain "java/io/Serializable" (some 0) with
  accessFlags := 1537
  interfaces := #[]
  cf := some (fileOf pool4 2 #[] #[] 1537 4 #[] #[])
  fields := #[]
  methods := #[]
  instanceTypes := #[]
  staticTypes := #[]
  resolved := Array.replicate 8 none
  statics := none }

/-- the primitive byte -/
def k5 : Class := { plain "byte" none with kind := .primitive 'B', accessFlags := 0x411 }
/-- [B -/
def k6 : Class := { plain "[B" (some 0) with kind := .array 5 .byte, interfaces := #[3, 4], accessFlags := 1041 }

/-- the primitive int -/
def k7 : Class := { plain "int" none with kind := .primitive 'I', accessFlags := 0x411 }
/-- [I -/
def k8 : Class := { plain "[I" (some 0) with kind := .array 7 .int, interfaces := #[3, 4], accessFlags := 1041 }

def heap : Heap := #[]
def classes : Array Class := #[k0, k1, k2, k3, k4, k5, k6, k7, k8]
def interned : List (Array UInt16 × Addr) := []
def slotsUsed : Nat := 0
def theMethod : MethodId := ⟨1, 1⟩
def args0 : Array Value := #[.int 5, .long 6]
def aboutOver (below : List Frame) : State where
  vm := { classes := classes, interned := interned.toArray }
  heap := heap
  slotsUsed := slotsUsed
  threads := #[{ frames := .invoking theMethod args0 :: below }]
def below0 : List Frame := [.native { method := ⟨0, 0⟩, args := #[] }]
def about1 : State := aboutOver below0
def p0 : Program := .bare "" "" ""
def e0 : Env := launch0.env 0 0 0
theorem w_frames : about1.frames = Frame.invoking theMethod args0 :: below0 := rfl
set_option maxRecDepth 65536 in
theorem w_args : argsFit about1.vm theMethod args0 = true := by decide +kernel
set_option maxRecDepth 65536 in
theorem w_heap : heapFits about1 = true := by decide +kernel
set_option maxRecDepth 65536 in
theorem w_runnable : about1.curStatus? = some .runnable := by decide +kernel
set_option maxRecDepth 65536 in
theorem w_alone : about1.alone = true := by decide +kernel
set_option maxRecDepth 65536 in
theorem w_named : about1.methodNamed? x = some theMethod := by decide +kernel
set_option maxRecDepth 65536 in
theorem w_hears : about1.hears theMethod below0 = true := by decide +kernel
set_option maxRecDepth 65536 in
theorem w_ripe : about1.ripe theMethod args0 below0 = true := by decide +kernel
theorem w_running : about1.status = .running := rfl
set_option maxRecDepth 65536 in
theorem w_room : about1.hasRoom e0.platform room_1 = true :=
  launch0.hasRoom_least _ room_1 (by decide +kernel) (by decide +kernel) (by decide +kernel) (by decide +kernel) (by decide +kernel) (by decide +kernel)
theorem allAtoms_all (ts : List Jvm.Cond) (a : Array Jvm.Value) (st : Jvm.State) : (allAtoms ts).before a st = ts.all (fun c => c.before a st) := by
  induction ts with
  | nil => rfl
  | cons c t ih =>
    show (Jvm.Cond.and c (allAtoms t)).before a st = _
    rw [Jvm.Cond.before_and, ih, List.all_cons]
def words1 : List Jvm.Cond := Jvm.Cond.code x code maxLocals ret :: tables_1
/-- a 'code' word, met by the world's own term for the bytes: nothing is compared byte by byte -/
theorem code_word {y : MethodName} {bytes : ByteArray} {mx : Nat} {rt : Option FieldType} {a : Array Value} {s : State} {m : MethodId} {meth : Method} {c : Code} (h1 : s.methodNamed? y = some m) (h2 : s.vm.method? m = some meth) (h3 : meth.code = some c) (h4 : c.code = bytes)
    (h5 : (c.maxLocals == mx && c.exceptionTable.isEmpty && decide (c.maxStack ≤ mostOperands) && decide (meth.sig.returnType = rt) && !meth.locks && decide (parseMethodDescriptor y.desc = some meth.sig)) = true) : (Jvm.Cond.code y bytes mx rt).before a s = true := by
  simp only [Bool.and_eq_true, beq_iff_eq, Bool.not_eq_true', decide_eq_true_eq] at h5
  obtain ⟨⟨⟨⟨⟨g1, g2⟩, g3⟩, g4⟩, g5⟩, g6⟩ := h5
  simp [Cond.before, Cond.holds, Cond.value, h1, h2, h3, h4, g1, g2, g3, g4, g5, g6]
def isCode : Jvm.Cond → Bool
  | .code _ _ _ _ => true
  | _ => false
theorem all_split {L : List Jvm.Cond} {P : Jvm.Cond → Bool} (h1 : L.all (fun c => isCode c || P c) = true) (h2 : ∀ c ∈ L.filter isCode, P c = true) : L.all P = true := by
  refine List.all_eq_true.mpr fun c hc => ?_
  have h := List.all_eq_true.mp h1 c hc
  rcases Bool.eq_false_or_eq_true (isCode c) with hi | hi
  · exact h2 c (List.mem_filter.mpr ⟨hc, hi⟩)
  · simpa [hi] using h
set_option maxRecDepth 65536 in
theorem w_c0 : (Jvm.Cond.code x code maxLocals ret).before args0 about1 = true := code_word (m := ⟨1, 1⟩) (meth := k1m1) (c := k1c1) (by decide +kernel) rfl rfl rfl (by decide +kernel)
set_option maxRecDepth 65536 in
theorem w_c1 : (Jvm.Cond.code ({ cls := "com/example/possible_worlds/possibleworlds/exact/Multinomial", name := "choose", desc := "(JI)D" } : Jvm.MethodName) prog_20_method_6_code (6 : Nat) (Option.some Jvm.ClassFile.FieldType.double)).before args0 about1 = true := code_word (m := ⟨2, 0⟩) (meth := k2m0) (c := k2c0) (by decide +kernel) rfl rfl rfl (by decide +kernel)
set_option maxRecDepth 65536 in
theorem w_c2 : (Jvm.Cond.code ({ cls := "com/example/possible_worlds/possibleworlds/exact/MultinomialChoosePinLaw", name := "reference", desc := "(JI)J" } : Jvm.MethodName) method_3_code (5 : Nat) (Option.some Jvm.ClassFile.FieldType.long)).before args0 about1 = true := code_word (m := ⟨1, 2⟩) (meth := k1m2) (c := k1c2) (by decide +kernel) rfl rfl rfl (by decide +kernel)
def codes1 : List Jvm.Cond := [Jvm.Cond.code x code maxLocals ret, Jvm.Cond.code ({ cls := "com/example/possible_worlds/possibleworlds/exact/Multinomial", name := "choose", desc := "(JI)D" } : Jvm.MethodName) prog_20_method_6_code (6 : Nat) (Option.some Jvm.ClassFile.FieldType.double), Jvm.Cond.code ({ cls := "com/example/possible_worlds/possibleworlds/exact/MultinomialChoosePinLaw", name := "reference", desc := "(JI)J" } : Jvm.MethodName) method_3_code (5 : Nat) (Option.some Jvm.ClassFile.FieldType.long)]
set_option maxRecDepth 65536 in
theorem codes_eq : words1.filter isCode = codes1 := rfl
theorem w_codes : ∀ c ∈ words1.filter isCode, c.before args0 about1 = true := by
  rw [codes_eq]
  intro c hc
  simp only [codes1, List.mem_cons, List.not_mem_nil, or_false] at hc
  rcases hc with rfl | rfl | rfl
  · exact w_c0
  · exact w_c1
  · exact w_c2
set_option maxRecDepth 65536 in
theorem w_t1 : words1.all (fun c => isCode c || c.before args0 about1) = true := by decide +kernel
theorem w_tables : (allAtoms (Jvm.Cond.code x code maxLocals ret :: tables_1)).before args0 about1 = true := by
  rw [allAtoms_all]
  show words1.all (fun c => c.before args0 about1) = true
  refine all_split ?_ w_codes
  rw [w_t1]
set_option maxRecDepth 65536 in
theorem w_case : (Jvm.Cond.and given_1 narrow_1).before args0 about1 = true := by decide +kernel
theorem w_applies : (headSpec (Jvm.Cond.code x code maxLocals ret :: tables_1) room_1).applies x e0.platform about1 = true :=
  (Spec.applies_iff w_frames).mpr ⟨w_running, w_runnable, w_alone, w_named, w_hears, w_ripe, w_room, w_tables⟩
theorem atStart : AtStart classFile x code maxLocals ret World_1 tables_1 room_1 Calls_1 rest_1 Pre_1 launch0 p0 e0 about1 theMethod args0 below0 :=
  ⟨lists_1, trivial, launch0.admits_env _ _ _, launch0.least_env, fairChoices_fair.cas, fairChoices_fair.clock, w_frames, w_args, w_heap, w_applies, trivial, trivial, w_case⟩
end start1
theorem witness_1 : WitnessClaimed_1 := ⟨start1.p0, start1.e0, start1.about1, start1.theMethod, start1.args0, start1.below0, start1.atStart⟩
end Jvm.Pilot.@@N@@
