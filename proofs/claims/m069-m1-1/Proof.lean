import JvmDerived
import JvmDerived.Pilot.@@N@@Statement
import JvmDerived.Pilot.@@N@@Code
set_option linter.unusedVariables false
set_option linter.unusedSimpArgs false
namespace Jvm.RoadKit
open Sem ClassFile Op Lib Jvm.Stand Jvm.Free Jvm.LawKit
section New
variable {p : Program} {l : Launch} {e : Env} {R : Room} {s : State} {m : MethodId} {args : Array Value} {below : List Frame} {meth : Method} {c : Code} {T : State} {locs : List Loc} {cells slots : Nat}
theorem retI (X : Stand p l e R s m args below meth c T locs cells slots) (hx : p.tables.exec = Jvm.exec) {pc : Nat} {Ls : Array Slot} {z : Int32} {rest : List Value} (hret : meth.sig.returnType = some .int) (hd : decode c.code pc = .ok (.ireturn, 1)) {fs : List Frame}
    (hl : ∀ (f : JFrame) (acts : List Action), f.method = m → f.locked = none → f.entered = [] → (doReturn e (T.setTop f) acts (some (.int z))).1 = T.setFrames fs) : Steps p.tables e below (T.setTop (mkF m pc Ls (.int z :: rest))) (T.setFrames fs) := by
  have hm' : T.vm.method? m = some meth := X.method'
  have hn : narrow .int (.int z) = .int z := rfl
  show Steps p.tables e below (T.setTop { method := m, pc := pc, locals := Ls, stack := _ :: rest, locked := none }) _
  jvm_step X.here [X.here.top, hx, hd, hm', hret, hn]
  first | (intro acts; rw [hl _ acts rfl rfl rfl]) | rw [hl _ _ rfl rfl rfl]
  exact Steps.refl _
end New
end Jvm.RoadKit
namespace Jvm.Pilot.@@N@@
open Jvm Jvm.ClassFile Sem Op Lib Jvm.Free Jvm.Stand Jvm.LawKit Jvm.RoadKit Bundle Jvm.Pilot.@@N@@.Jvm.D
theorem own_nin0 {a : Addr} : a ∉ ([] : List Addr) := by simp
theorem own_nin1 {a b : Addr} (h : a ≠ b) : a ∉ [b] := by simpa using h
theorem own_nin2 {a b c : Addr} (h : a ≠ b) (h' : a ≠ c) : a ∉ [b, c] := by simp [h, h']
theorem own_nin3 {a b c d : Addr} (h : a ≠ b) (h' : a ≠ c) (h'' : a ≠ d) : a ∉ [b, c, d] := by simp [h, h', h'']
theorem own_in0 {P : Addr → Prop} : ∀ x ∈ ([] : List Addr), P x := by simp
theorem own_in1 {P : Addr → Prop} {a : Addr} (h : P a) : ∀ x ∈ [a], P x := by simpa using h
theorem own_in2 {P : Addr → Prop} {a b : Addr} (h : P a) (h' : P b) : ∀ x ∈ [a, b], P x := by simp [h, h']
theorem own_in3 {P : Addr → Prop} {a b c : Addr} (h : P a) (h' : P b) (h'' : P c) : ∀ x ∈ [a, b, c], P x := by simp [h, h', h'']
def own_hit (x i a e : Int32) : Int32 := if i < a then 0 else if i < e then (if x = 10 then 1 else 0) else 0
def own_scan (f : Nat → Int32) : Nat → Nat → Nat
  | i, 0 => i
  | i, k + 1 => if f i = 10 then i else own_scan f (i + 1) k
def own_arr (x0 x1 x2 x3 x4 x5 : Int32) : Nat → Int32
  | 0 => x0 | 1 => x1 | 2 => x2 | 3 => x3 | 4 => x4 | _ => x5
def own_at (p : Int32) : Int32 := (p &&& (2147483647 : Int32)) % (7 : Int32)
def own_en (p q : Int32) : Int32 := own_at p + (q &&& (2147483647 : Int32)) % ((7 : Int32) - own_at p)
theorem own_at_rng (p : Int32) : 0 ≤ (own_at p).toInt ∧ (own_at p).toInt < 7 := by
  have h1 := c_and p 2147483647 (by decide)
  have h2 := (c_irem (p &&& 2147483647) 7 7 (by decide)).1 h1.1
  unfold own_at
  omega
theorem own_den (p : Int32) : ((7 : Int32) - own_at p).toInt = 7 - (own_at p).toInt := by
  have h := own_at_rng p
  have h1 := c_isub 7 (own_at p)
  have h2 := rng32 ((7 : Int32) - own_at p)
  have h3 : (7 : Int32).toInt = 7 := by decide
  omega
theorem own_nz (p : Int32) : ((7 : Int32) - own_at p) ≠ 0 := fun q => by
  have h := own_den p
  have h1 := own_at_rng p
  rw [q] at h
  have h2 : (0 : Int32).toInt = 0 := by decide
  omega
theorem own_en_rng (p q : Int32) : (own_at p).toInt ≤ (own_en p q).toInt ∧ (own_en p q).toInt < 7 := by
  have h := own_at_rng p
  have h1 := own_den p
  have h2 := c_and q 2147483647 (by decide)
  have h3 := (c_iremV (q &&& 2147483647) ((7 : Int32) - own_at p)).1 h2.1 (by omega)
  have h4 := c_iadd (own_at p) ((q &&& (2147483647 : Int32)) % ((7 : Int32) - own_at p))
  have h5 := rng32 (own_en p q)
  unfold own_en at *
  omega
theorem own_ofNat (n : Nat) (h : n < 7) : (Int32.ofNat n).toInt = n := by
  have : n = 0 ∨ n = 1 ∨ n = 2 ∨ n = 3 ∨ n = 4 ∨ n = 5 ∨ n = 6 := by omega
  rcases this with rfl | rfl | rfl | rfl | rfl | rfl | rfl <;> decide
theorem own_nat (x : Int32) (h0 : 0 ≤ x.toInt) (h : x.toInt < 7) : ∃ n : Nat, n < 7 ∧ x = Int32.ofNat n := by
  refine ⟨x.toInt.toNat, by omega, ?_⟩
  apply Int32.toInt_inj.mp
  rw [own_ofNat _ (by omega)]
  omega
theorem own_rng (p q : Int32) : ∃ a e : Nat, a ≤ e ∧ e ≤ 6 ∧ own_at p = Int32.ofNat a ∧ own_en p q = Int32.ofNat e := by
  have h := own_at_rng p
  have h1 := own_en_rng p q
  obtain ⟨a, ha, ea⟩ := own_nat (own_at p) h.1 h.2
  obtain ⟨e, he, ee⟩ := own_nat (own_en p q) (by omega) h1.2
  refine ⟨a, e, ?_, by omega, ea, ee⟩
  have h2 := own_ofNat a ha
  have h3 := own_ofNat e he
  rw [ea, ee] at h1
  omega
theorem own_lt (i j : Nat) (hi : i < 7) (hj : j < 7) : Int32.ofNat i < Int32.ofNat j ↔ i < j := by
  rw [Int32.lt_iff_toInt_lt, own_ofNat i hi, own_ofNat j hj]; omega
theorem own_clamp (i : Nat) (h : i < 7) : (Int32.ofNat i).toNatClampNeg = i := by
  have : i = 0 ∨ i = 1 ∨ i = 2 ∨ i = 3 ∨ i = 4 ∨ i = 5 ∨ i = 6 := by omega
  rcases this with rfl | rfl | rfl | rfl | rfl | rfl | rfl <;> decide
theorem own_succ (i : Nat) (h : i < 6) : Int32.ofNat i + (1 : Int32) = Int32.ofNat (i + 1) := by
  have : i = 0 ∨ i = 1 ∨ i = 2 ∨ i = 3 ∨ i = 4 ∨ i = 5 := by omega
  rcases this with rfl | rfl | rfl | rfl | rfl | rfl <;> decide
theorem own_scan_end (f : Nat → Int32) (k : Nat) : ∀ i, (∀ j, i ≤ j → j < i + k → ¬ f j = 10) → own_scan f i k = i + k := by
  induction k with
  | zero => intro i _; rfl
  | succ k ih =>
    intro i h
    show (if f i = 10 then i else own_scan f (i + 1) k) = _
    rw [if_neg (h i (Nat.le_refl _) (by omega)), ih (i + 1) (fun j h1 h2 => h j (by omega) (by omega))]
    omega
theorem own_scan_hit (f : Nat → Int32) (k : Nat) : ∀ i n, i ≤ n → n < i + k → (∀ j, i ≤ j → j < n → ¬ f j = 10) → f n = 10 → own_scan f i k = n := by
  induction k with
  | zero => intro i n h1 h2; omega
  | succ k ih =>
    intro i n h1 h2 h3 h4
    show (if f i = 10 then i else own_scan f (i + 1) k) = _
    by_cases e : i = n
    · subst e; rw [if_pos h4]
    · rw [if_neg (h3 i (Nat.le_refl _) (by omega))]
      exact ih (i + 1) n (by omega) (by omega) (fun j q1 q2 => h3 j (by omega) q2) h4
theorem own_hit0 (x : Int32) (i a e : Nat) (hi : i < 7) (ha : a < 7) (he : e < 7) : own_hit x (Int32.ofNat i) (Int32.ofNat a) (Int32.ofNat e) = 0 ↔ ¬ (a ≤ i ∧ i < e ∧ x = 10) := by
  unfold own_hit
  by_cases h1 : i < a
  · rw [if_pos ((own_lt i a hi ha).mpr h1)]; simp; omega
  · rw [if_neg (fun q => h1 ((own_lt i a hi ha).mp q))]
    by_cases h2 : i < e
    · rw [if_pos ((own_lt i e hi he).mpr h2)]
      by_cases h3 : x = 10
      · rw [if_pos h3]
        constructor
        · intro q; exact absurd q (by decide)
        · intro q; exact absurd ⟨by omega, h2, h3⟩ q
      · rw [if_neg h3]; simp [h3]
    · rw [if_neg (fun q => h2 ((own_lt i e hi he).mp q))]; simp; omega
theorem own_leaf (f : Nat → Int32) (a e n : Nat) (hae : a ≤ e) (he : e ≤ 6) (hn : n < 6) (h1 : ∀ j, j < n → own_hit (f j) (Int32.ofNat j) (Int32.ofNat a) (Int32.ofNat e) = 0) (h2 : ¬ own_hit (f n) (Int32.ofNat n) (Int32.ofNat a) (Int32.ofNat e) = 0) : Int32.ofNat (own_scan f a (e - a)) = Int32.ofNat n := by
  have q : a ≤ n ∧ n < e ∧ f n = 10 := Classical.byContradiction fun z => h2 ((own_hit0 _ n a e (by omega) (by omega) (by omega)).mpr z)
  rw [own_scan_hit f (e - a) a n q.1 (by omega) (fun j z1 z2 z3 => ((own_hit0 _ j a e (by omega) (by omega) (by omega)).mp (h1 j z2)) ⟨z1, by omega, z3⟩) q.2.2]
theorem own_last (f : Nat → Int32) (a e : Nat) (hae : a ≤ e) (he : e ≤ 6) (h1 : ∀ j, j < 6 → own_hit (f j) (Int32.ofNat j) (Int32.ofNat a) (Int32.ofNat e) = 0) : Int32.ofNat (own_scan f a (e - a)) = Int32.ofNat e := by
  rw [own_scan_end f (e - a) a (fun j z1 z2 z3 => ((own_hit0 _ j a e (by omega) (by omega) (by omega)).mp (h1 j (by omega))) ⟨z1, by omega, z3⟩)]
  congr 1; omega
theorem d1_0 : decode method_2_code 0 = .ok (.iload_n 0, 1) := by decide +kernel
theorem d1_1 : decode method_2_code 1 = .ok (.iload_n 3, 1) := by decide +kernel
theorem d1_2 : decode method_2_code 2 = .ok (.iushr, 1) := by decide +kernel
theorem d1_3 : decode method_2_code 3 = .ok (.iconst 1, 1) := by decide +kernel
theorem d1_4 : decode method_2_code 4 = .ok (.iand, 1) := by decide +kernel
theorem d1_5 : decode method_2_code 5 = .ok (.ifCond .eq 6, 3) := by decide +kernel
theorem d1_11 : decode method_2_code 11 = .ok (.lload_n 1, 1) := by decide +kernel
theorem d1_12 : decode method_2_code 12 = .ok (.bipush 8, 2) := by decide +kernel
theorem d1_14 : decode method_2_code 14 = .ok (.iload_n 3, 1) := by decide +kernel
theorem d1_15 : decode method_2_code 15 = .ok (.imul, 1) := by decide +kernel
theorem d1_16 : decode method_2_code 16 = .ok (.lushr, 1) := by decide +kernel
theorem d1_17 : decode method_2_code 17 = .ok (.l2i, 1) := by decide +kernel
theorem d1_18 : decode method_2_code 18 = .ok (.i2b, 1) := by decide +kernel
theorem d1_19 : decode method_2_code 19 = .ok (.ireturn, 1) := by decide +kernel
theorem d1_8 : decode method_2_code 8 = .ok (.bipush 10, 2) := by decide +kernel
theorem d1_10 : decode method_2_code 10 = .ok (.ireturn, 1) := by decide +kernel
theorem pn_0 : plainName "com/example/mormorio/mormorio/client/LinesLineFeedPinLaw" = true := by first | (simp [plainName, overriddenIn]; done) | decide +kernel
theorem ef_rm1 (m : MethodId) (p0 : Int32) (q1 : Int64) (p2 : Int32) : entryFrame m #[(.int p0), (.long q1), (.int p2)] 4 = mkF m 0 #[.val (.int p0), .val (.long q1), .second, .val (.int p2)] [] := by first | (simp [entryFrame, mkF, argsToLocals, Value.category]; done) | rfl
def Q1 (Z : State) (p0 : Int32) (h0 : Heap) (n0 : Nat) (v : Option Value) (h : Heap) (L : List Loc) : Prop := (∃ z : Int32, v = some (.int z)) ∧ Fr n0 L ∧ h = h0
set_option maxRecDepth 65536 in
set_option maxHeartbeats 40000000 in
theorem rm1 (l : Launch) (Z : State) (a0 : Array Value) (hw : ∀ d ∈ tables_1, d.before a0 Z = true) (ws : List Jvm.Cond) (p0 : Int32) (q1 : Int64) (p2 : Int32) (h0 : Heap) (n0 : Nat) (Z0 : n0 ≤ h0.size) :
    MetFree l (⟨"com/example/mormorio/mormorio/client/LinesLineFeedPinLaw", "pick", "(IJI)B"⟩ : MethodName) (head1 (Jvm.Cond.code (⟨"com/example/mormorio/mormorio/client/LinesLineFeedPinLaw", "pick", "(IJI)B"⟩ : MethodName) method_2_code 4 (some .byte) :: ws) ({ frames := 0, cells := 0, slots := 0, locals := 0 } : Room)) (fun a U => a = #[(.int p0), (.long q1), (.int p2)] ∧ Z.Warmed39 U.vm ∧ U.heap = h0) (fun _ _ _ _ _ => True) (fun _ U o U' => ∃ v L, o = .returned v ∧ Q1 Z p0 h0 n0 v U'.heap L ∧ FrameEnd U o U' L ({ frames := 0, cells := 0, slots := 0, locals := 0 } : Room).cells ({ frames := 0, cells := 0, slots := 0, locals := 0 } : Room).slots) := by
  refine MetFree.of_bodySF (plainFor_of_name pn_0) hisR ?_
  intro p e s m args below meth c s₁ Bd hml0 hP hK
  obtain ⟨rfl, hZ, hh⟩ := hP
  have hx := Bd.exec
  have hby := Bd.bytes
  have hml : c.maxLocals = 4 := hml0
  have hown : s.vm.findClass "com/example/mormorio/mormorio/client/LinesLineFeedPinLaw" = some m.cls := findClass_of_methodNamed Bd.named
  have hnm := (name_of_methodNamed Bd.named Bd.method).1
  have X0 : Stand p l e ({ frames := 0, cells := 0, slots := 0, locals := 0 } : Room) s m #[(.int p0), (.long q1), (.int p2)] below meth c s₁ [] 0 0 := Stand.of_body Bd
  have e0 : s₁.heap = h0 := by rw [← hh, Bd.state]; rfl
  have N0 := Fr.nil n0
  have pre0 : ∀ t, Steps p.tables e below (s₁.setTop (mkF m 0 #[.val (.int p0), .val (.long q1), .second, .val (.int p2)] [])) t → Steps p.tables e below (s₁.setTop (entryFrame m #[(.int p0), (.long q1), (.int p2)] 4)) t := fun t k => castTop (ef_rm1 m p0 q1 p2) k
  have pre1 : ∀ t, Steps p.tables e below (s₁.setTop (mkF m 5 #[.val (.int p0), .val (.long q1), .second, .val (.int p2)] [(.int (((p0.toUInt32 >>> (p2 &&& 31).toUInt32).toInt32) &&& (1 : Int32)))])) t → Steps p.tables e below (s₁.setTop (entryFrame m #[(.int p0), (.long q1), (.int p2)] 4)) t := by
    intro t kt
    refine pre0 _ ?_
    show Steps p.tables e below (s₁.setTop (mkF m 0 #[.val (.int p0), .val (.long q1), .second, .val (.int p2)] [])) _
    refine XS.iloadN X0.here hx rfl (hb hby d1_0) rfl ?_
    show Steps p.tables e below (s₁.setTop (mkF m 1 #[.val (.int p0), .val (.long q1), .second, .val (.int p2)] [(.int p0)])) _
    refine XS.iloadN X0.here hx rfl (hb hby d1_1) rfl ?_
    show Steps p.tables e below (s₁.setTop (mkF m 2 #[.val (.int p0), .val (.long q1), .second, .val (.int p2)] [(.int p2), (.int p0)])) _
    refine XS.iushr X0.here hx rfl (hb hby d1_2) rfl ?_
    show Steps p.tables e below (s₁.setTop (mkF m 3 #[.val (.int p0), .val (.long q1), .second, .val (.int p2)] [(.int ((p0.toUInt32 >>> (p2 &&& 31).toUInt32).toInt32))])) _
    refine XS.iconst X0.here hx rfl (hb hby d1_3) ?_
    show Steps p.tables e below (s₁.setTop (mkF m 4 #[.val (.int p0), .val (.long q1), .second, .val (.int p2)] [(.int (1 : Int32)), (.int ((p0.toUInt32 >>> (p2 &&& 31).toUInt32).toInt32))])) _
    refine XS.iand X0.here hx rfl (hb hby d1_4) rfl ?_
    show Steps p.tables e below (s₁.setTop (mkF m 5 #[.val (.int p0), .val (.long q1), .second, .val (.int p2)] [(.int (((p0.toUInt32 >>> (p2 &&& 31).toUInt32).toInt32) &&& (1 : Int32)))])) _
    exact kt
  by_cases hs5_2 : (((p0.toUInt32 >>> (p2 &&& 31).toUInt32).toInt32) &&& (1 : Int32)) = (0 : Int32)
  · obtain ⟨fs, hr, hrun, hended, hW, hsame⟩ := X0.leave (v := some (.int (nar .byte ((((q1.toUInt64 >>> (((8 : Int32) * p2) &&& 0x3f).toInt64.toUInt64).toInt64).toInt32).toInt8.toInt32)))) (fun h => by rw [Bd.returns] at h; cases h)
    refine ⟨_, _, pre1 _ ?_, hrun, hended, _, _, rfl, ?_, ⟨_, rfl⟩, hW, hsame.mono (by decide) (by decide)⟩
    · show Steps p.tables e below (s₁.setTop (mkF m 5 #[.val (.int p0), .val (.long q1), .second, .val (.int p2)] [(.int (((p0.toUInt32 >>> (p2 &&& 31).toUInt32).toInt32) &&& (1 : Int32)))])) _
      refine XS.ifYes X0.here hx rfl (pc0 := 5) (pc' := 11) rfl (hb hby d1_5) rfl ((if0 _ _).trans (teq hs5_2).1) (by decide) (by decide) ?_
      show Steps p.tables e below (s₁.setTop (mkF m 11 #[.val (.int p0), .val (.long q1), .second, .val (.int p2)] [])) _
      refine XS.lloadN X0.here hx rfl (hb hby d1_11) rfl ?_
      show Steps p.tables e below (s₁.setTop (mkF m 12 #[.val (.int p0), .val (.long q1), .second, .val (.int p2)] [(.long q1)])) _
      refine XS.bipush X0.here hx rfl (hb hby d1_12) ?_
      show Steps p.tables e below (s₁.setTop (mkF m 14 #[.val (.int p0), .val (.long q1), .second, .val (.int p2)] [(.int (8 : Int32)), (.long q1)])) _
      refine XS.iloadN X0.here hx rfl (hb hby d1_14) rfl ?_
      show Steps p.tables e below (s₁.setTop (mkF m 15 #[.val (.int p0), .val (.long q1), .second, .val (.int p2)] [(.int p2), (.int (8 : Int32)), (.long q1)])) _
      refine XS.imul X0.here hx rfl (hb hby d1_15) rfl ?_
      show Steps p.tables e below (s₁.setTop (mkF m 16 #[.val (.int p0), .val (.long q1), .second, .val (.int p2)] [(.int ((8 : Int32) * p2)), (.long q1)])) _
      refine XS.lushr X0.here hx rfl (hb hby d1_16) rfl ?_
      show Steps p.tables e below (s₁.setTop (mkF m 17 #[.val (.int p0), .val (.long q1), .second, .val (.int p2)] [(.long ((q1.toUInt64 >>> (((8 : Int32) * p2) &&& 0x3f).toInt64.toUInt64).toInt64))])) _
      refine XS.l2i X0.here hx rfl (hb hby d1_17) rfl ?_
      show Steps p.tables e below (s₁.setTop (mkF m 18 #[.val (.int p0), .val (.long q1), .second, .val (.int p2)] [(.int (((q1.toUInt64 >>> (((8 : Int32) * p2) &&& 0x3f).toInt64.toUInt64).toInt64).toInt32))])) _
      refine XS.i2b X0.here hx rfl (hb hby d1_18) rfl ?_
      show Steps p.tables e below (s₁.setTop (mkF m 19 #[.val (.int p0), .val (.long q1), .second, .val (.int p2)] [(.int ((((q1.toUInt64 >>> (((8 : Int32) * p2) &&& 0x3f).toInt64.toUInt64).toInt64).toInt32).toInt8.toInt32))])) _
      exact retN X0 hx (t := .byte) Bd.returns (by simp) (hb hby d1_19) hr
    · show Q1 Z p0 h0 n0 _ s₁.heap _
      rw [e0]
      exact ⟨⟨_, rfl⟩, N0, rfl⟩
  · obtain ⟨fs, hr, hrun, hended, hW, hsame⟩ := X0.leave (v := some (.int (nar .byte (10 : Int32)))) (fun h => by rw [Bd.returns] at h; cases h)
    refine ⟨_, _, pre1 _ ?_, hrun, hended, _, _, rfl, ?_, ⟨_, rfl⟩, hW, hsame.mono (by decide) (by decide)⟩
    · show Steps p.tables e below (s₁.setTop (mkF m 5 #[.val (.int p0), .val (.long q1), .second, .val (.int p2)] [(.int (((p0.toUInt32 >>> (p2 &&& 31).toUInt32).toInt32) &&& (1 : Int32)))])) _
      refine XS.ifNo X0.here hx rfl (hb hby d1_5) rfl ((if0 _ _).trans (feq hs5_2).1) ?_
      show Steps p.tables e below (s₁.setTop (mkF m 8 #[.val (.int p0), .val (.long q1), .second, .val (.int p2)] [])) _
      refine XS.bipush X0.here hx rfl (hb hby d1_8) ?_
      show Steps p.tables e below (s₁.setTop (mkF m 10 #[.val (.int p0), .val (.long q1), .second, .val (.int p2)] [(.int (10 : Int32))])) _
      exact retN X0 hx (t := .byte) Bd.returns (by simp) (hb hby d1_10) hr
    · show Q1 Z p0 h0 n0 _ s₁.heap _
      rw [e0]
      exact ⟨⟨_, rfl⟩, N0, rfl⟩
theorem d2_0 : decode method_3_code 0 = .ok (.iload_n 2, 1) := by decide +kernel
theorem d2_1 : decode method_3_code 1 = .ok (.iload_n 1, 1) := by decide +kernel
theorem d2_2 : decode method_3_code 2 = .ok (.if_icmp .gt 20, 3) := by decide +kernel
theorem d2_22 : decode method_3_code 22 = .ok (.iconst 0, 1) := by decide +kernel
theorem d2_23 : decode method_3_code 23 = .ok (.ireturn, 1) := by decide +kernel
theorem d2_5 : decode method_3_code 5 = .ok (.iload_n 1, 1) := by decide +kernel
theorem d2_6 : decode method_3_code 6 = .ok (.iload_n 3, 1) := by decide +kernel
theorem d2_7 : decode method_3_code 7 = .ok (.if_icmp .ge 15, 3) := by decide +kernel
theorem d2_10 : decode method_3_code 10 = .ok (.aload_n 0, 1) := by decide +kernel
theorem d2_11 : decode method_3_code 11 = .ok (.iload_n 1, 1) := by decide +kernel
theorem d2_12 : decode method_3_code 12 = .ok (.baload, 1) := by decide +kernel
theorem d2_13 : decode method_3_code 13 = .ok (.bipush 10, 2) := by decide +kernel
theorem d2_15 : decode method_3_code 15 = .ok (.if_icmp .ne 7, 3) := by decide +kernel
theorem d2_18 : decode method_3_code 18 = .ok (.iconst 1, 1) := by decide +kernel
theorem d2_19 : decode method_3_code 19 = .ok (.goto 4, 3) := by decide +kernel
theorem ef_rm2 (m : MethodId) (r0 : Addr) (p1 : Int32) (p2 : Int32) (p3 : Int32) : entryFrame m #[(.ref r0), (.int p1), (.int p2), (.int p3)] 4 = mkF m 0 #[.val (.ref r0), .val (.int p1), .val (.int p2), .val (.int p3)] [] := by first | (simp [entryFrame, mkF, argsToLocals, Value.category]; done) | rfl
def Q2 (Z : State) (x : Int32) (p1 : Int32) (p2 : Int32) (p3 : Int32) (h0 : Heap) (n0 : Nat) (v : Option Value) (h : Heap) (L : List Loc) : Prop := v = some (.int (own_hit x p1 p2 p3)) ∧ Fr n0 L ∧ h = h0
set_option maxRecDepth 65536 in
set_option maxHeartbeats 40000000 in
theorem rm2 (l : Launch) (Z : State) (a0 : Array Value) (hw : ∀ d ∈ tables_1, d.before a0 Z = true) (ws : List Jvm.Cond) (r0 : Addr) (p1 : Int32) (p2 : Int32) (p3 : Int32) (cl : Cell) (x : Int32) (h0 : Heap) (n0 : Nat) (Z0 : n0 ≤ h0.size) (Ar : Arr Z h0 r0 cl .byte) (hin : ¬ (p1 < 0 ∨ cl.slots.size ≤ p1.toNatClampNeg)) (hat : cl.slots[p1.toNatClampNeg]? = some (.int x)) :
    MetFree l (⟨"com/example/mormorio/mormorio/client/LinesLineFeedPinLaw", "hit", "([BIII)Z"⟩ : MethodName) (head1 (Jvm.Cond.code (⟨"com/example/mormorio/mormorio/client/LinesLineFeedPinLaw", "hit", "([BIII)Z"⟩ : MethodName) method_3_code 4 (some .boolean) :: ws) ({ frames := 0, cells := 0, slots := 0, locals := 0 } : Room)) (fun a U => a = #[(.ref r0), (.int p1), (.int p2), (.int p3)] ∧ Z.Warmed39 U.vm ∧ U.heap = h0) (fun _ _ _ _ _ => True) (fun _ U o U' => ∃ v L, o = .returned v ∧ Q2 Z x p1 p2 p3 h0 n0 v U'.heap L ∧ FrameEnd U o U' L ({ frames := 0, cells := 0, slots := 0, locals := 0 } : Room).cells ({ frames := 0, cells := 0, slots := 0, locals := 0 } : Room).slots) := by
  refine MetFree.of_bodySF (plainFor_of_name pn_0) hisR ?_
  intro p e s m args below meth c s₁ Bd hml0 hP hK
  obtain ⟨rfl, hZ, hh⟩ := hP
  have hx := Bd.exec
  have hby := Bd.bytes
  have hml : c.maxLocals = 4 := hml0
  have hown : s.vm.findClass "com/example/mormorio/mormorio/client/LinesLineFeedPinLaw" = some m.cls := findClass_of_methodNamed Bd.named
  have hnm := (name_of_methodNamed Bd.named Bd.method).1
  have X0 : Stand p l e ({ frames := 0, cells := 0, slots := 0, locals := 0 } : Room) s m #[(.ref r0), (.int p1), (.int p2), (.int p3)] below meth c s₁ [] 0 0 := Stand.of_body Bd
  have e0 : s₁.heap = h0 := by rw [← hh, Bd.state]; rfl
  have N0 := Fr.nil n0
  have pre0 : ∀ t, Steps p.tables e below (s₁.setTop (mkF m 0 #[.val (.ref r0), .val (.int p1), .val (.int p2), .val (.int p3)] [])) t → Steps p.tables e below (s₁.setTop (entryFrame m #[(.ref r0), (.int p1), (.int p2), (.int p3)] 4)) t := fun t k => castTop (ef_rm2 m r0 p1 p2 p3) k
  have pre1 : ∀ t, Steps p.tables e below (s₁.setTop (mkF m 2 #[.val (.ref r0), .val (.int p1), .val (.int p2), .val (.int p3)] [(.int p1), (.int p2)])) t → Steps p.tables e below (s₁.setTop (entryFrame m #[(.ref r0), (.int p1), (.int p2), (.int p3)] 4)) t := by
    intro t kt
    refine pre0 _ ?_
    show Steps p.tables e below (s₁.setTop (mkF m 0 #[.val (.ref r0), .val (.int p1), .val (.int p2), .val (.int p3)] [])) _
    refine XS.iloadN X0.here hx rfl (hb hby d2_0) rfl ?_
    show Steps p.tables e below (s₁.setTop (mkF m 1 #[.val (.ref r0), .val (.int p1), .val (.int p2), .val (.int p3)] [(.int p2)])) _
    refine XS.iloadN X0.here hx rfl (hb hby d2_1) rfl ?_
    show Steps p.tables e below (s₁.setTop (mkF m 2 #[.val (.ref r0), .val (.int p1), .val (.int p2), .val (.int p3)] [(.int p1), (.int p2)])) _
    exact kt
  by_cases hs2_2 : p1 < p2
  · obtain ⟨fs, hr, hrun, hended, hW, hsame⟩ := X0.leave (v := some (.int (0 : Int32))) (fun h => by rw [Bd.returns] at h; cases h)
    refine ⟨_, _, pre1 _ ?_, hrun, hended, _, _, rfl, ?_, ⟨_, rfl⟩, hW, hsame.mono (by decide) (by decide)⟩
    · show Steps p.tables e below (s₁.setTop (mkF m 2 #[.val (.ref r0), .val (.int p1), .val (.int p2), .val (.int p3)] [(.int p1), (.int p2)])) _
      refine XS.icmpYes X0.here hx rfl (pc0 := 2) (pc' := 22) rfl (hb hby d2_2) rfl (tlt hs2_2).2.2.1 (by decide) (by decide) ?_
      show Steps p.tables e below (s₁.setTop (mkF m 22 #[.val (.ref r0), .val (.int p1), .val (.int p2), .val (.int p3)] [])) _
      refine XS.iconst X0.here hx rfl (hb hby d2_22) ?_
      show Steps p.tables e below (s₁.setTop (mkF m 23 #[.val (.ref r0), .val (.int p1), .val (.int p2), .val (.int p3)] [(.int (0 : Int32))])) _
      exact retN X0 hx (t := .boolean) Bd.returns (by simp) (hb hby d2_23) hr
    · show Q2 Z x p1 p2 p3 h0 n0 _ s₁.heap _
      rw [e0]
      exact ⟨by simp [own_hit, hs2_2], N0, rfl⟩
  · have pre3 : ∀ t, Steps p.tables e below (s₁.setTop (mkF m 7 #[.val (.ref r0), .val (.int p1), .val (.int p2), .val (.int p3)] [(.int p3), (.int p1)])) t → Steps p.tables e below (s₁.setTop (entryFrame m #[(.ref r0), (.int p1), (.int p2), (.int p3)] 4)) t := by
      intro t kt
      refine pre1 _ ?_
      show Steps p.tables e below (s₁.setTop (mkF m 2 #[.val (.ref r0), .val (.int p1), .val (.int p2), .val (.int p3)] [(.int p1), (.int p2)])) _
      refine XS.icmpNo X0.here hx rfl (hb hby d2_2) rfl (flt hs2_2).2.2.1 ?_
      show Steps p.tables e below (s₁.setTop (mkF m 5 #[.val (.ref r0), .val (.int p1), .val (.int p2), .val (.int p3)] [])) _
      refine XS.iloadN X0.here hx rfl (hb hby d2_5) rfl ?_
      show Steps p.tables e below (s₁.setTop (mkF m 6 #[.val (.ref r0), .val (.int p1), .val (.int p2), .val (.int p3)] [(.int p1)])) _
      refine XS.iloadN X0.here hx rfl (hb hby d2_6) rfl ?_
      show Steps p.tables e below (s₁.setTop (mkF m 7 #[.val (.ref r0), .val (.int p1), .val (.int p2), .val (.int p3)] [(.int p3), (.int p1)])) _
      exact kt
    by_cases hs7_4 : p1 < p3
    · have pre5 : ∀ t, Steps p.tables e below (s₁.setTop (mkF m 15 #[.val (.ref r0), .val (.int p1), .val (.int p2), .val (.int p3)] [(.int (10 : Int32)), (.int x)])) t → Steps p.tables e below (s₁.setTop (entryFrame m #[(.ref r0), (.int p1), (.int p2), (.int p3)] 4)) t := by
        intro t kt
        refine pre3 _ ?_
        show Steps p.tables e below (s₁.setTop (mkF m 7 #[.val (.ref r0), .val (.int p1), .val (.int p2), .val (.int p3)] [(.int p3), (.int p1)])) _
        refine XS.icmpNo X0.here hx rfl (hb hby d2_7) rfl (tlt hs7_4).2.1 ?_
        show Steps p.tables e below (s₁.setTop (mkF m 10 #[.val (.ref r0), .val (.int p1), .val (.int p2), .val (.int p3)] [])) _
        refine XS.aloadN X0.here hx rfl (hb hby d2_10) rfl rfl ?_
        show Steps p.tables e below (s₁.setTop (mkF m 11 #[.val (.ref r0), .val (.int p1), .val (.int p2), .val (.int p3)] [(.ref r0)])) _
        refine XS.iloadN X0.here hx rfl (hb hby d2_11) rfl ?_
        show Steps p.tables e below (s₁.setTop (mkF m 12 #[.val (.ref r0), .val (.int p1), .val (.int p2), .val (.int p3)] [(.int p1), (.ref r0)])) _
        refine X0.baloadBytes hx (j := p1) (v := (.int x)) (by rw [e0]; exact Ar.1) (State.isArrayOf_alike hZ.alike Ar.2.1) Ar.2.2 hin hat (g := (mkF m 12 #[.val (.ref r0), .val (.int p1), .val (.int p2), .val (.int p3)] [(.int p1), (.ref r0)])) rfl rfl (hb hby d2_12) _ ?_
        show Steps p.tables e below (s₁.setTop (mkF m 13 #[.val (.ref r0), .val (.int p1), .val (.int p2), .val (.int p3)] [(.int x)])) _
        refine XS.bipush X0.here hx rfl (hb hby d2_13) ?_
        show Steps p.tables e below (s₁.setTop (mkF m 15 #[.val (.ref r0), .val (.int p1), .val (.int p2), .val (.int p3)] [(.int (10 : Int32)), (.int x)])) _
        exact kt
      by_cases hs15_6 : x = (10 : Int32)
      · obtain ⟨fs, hr, hrun, hended, hW, hsame⟩ := X0.leave (v := some (.int (1 : Int32))) (fun h => by rw [Bd.returns] at h; cases h)
        refine ⟨_, _, pre5 _ ?_, hrun, hended, _, _, rfl, ?_, ⟨_, rfl⟩, hW, hsame.mono (by decide) (by decide)⟩
        · show Steps p.tables e below (s₁.setTop (mkF m 15 #[.val (.ref r0), .val (.int p1), .val (.int p2), .val (.int p3)] [(.int (10 : Int32)), (.int x)])) _
          refine XS.icmpNo X0.here hx rfl (hb hby d2_15) rfl (teq hs15_6).2 ?_
          show Steps p.tables e below (s₁.setTop (mkF m 18 #[.val (.ref r0), .val (.int p1), .val (.int p2), .val (.int p3)] [])) _
          refine XS.iconst X0.here hx rfl (hb hby d2_18) ?_
          show Steps p.tables e below (s₁.setTop (mkF m 19 #[.val (.ref r0), .val (.int p1), .val (.int p2), .val (.int p3)] [(.int (1 : Int32))])) _
          refine XS.goto X0.here hx rfl (pc0 := 19) (pc' := 23) rfl (hb hby d2_19) (by decide) (by decide) ?_
          show Steps p.tables e below (s₁.setTop (mkF m 23 #[.val (.ref r0), .val (.int p1), .val (.int p2), .val (.int p3)] [(.int (1 : Int32))])) _
          exact retN X0 hx (t := .boolean) Bd.returns (by simp) (hb hby d2_23) hr
        · show Q2 Z x p1 p2 p3 h0 n0 _ s₁.heap _
          rw [e0]
          exact ⟨by simp [own_hit, hs2_2, hs7_4, hs15_6], N0, rfl⟩
      · obtain ⟨fs, hr, hrun, hended, hW, hsame⟩ := X0.leave (v := some (.int (0 : Int32))) (fun h => by rw [Bd.returns] at h; cases h)
        refine ⟨_, _, pre5 _ ?_, hrun, hended, _, _, rfl, ?_, ⟨_, rfl⟩, hW, hsame.mono (by decide) (by decide)⟩
        · show Steps p.tables e below (s₁.setTop (mkF m 15 #[.val (.ref r0), .val (.int p1), .val (.int p2), .val (.int p3)] [(.int (10 : Int32)), (.int x)])) _
          refine XS.icmpYes X0.here hx rfl (pc0 := 15) (pc' := 22) rfl (hb hby d2_15) rfl (feq hs15_6).2 (by decide) (by decide) ?_
          show Steps p.tables e below (s₁.setTop (mkF m 22 #[.val (.ref r0), .val (.int p1), .val (.int p2), .val (.int p3)] [])) _
          refine XS.iconst X0.here hx rfl (hb hby d2_22) ?_
          show Steps p.tables e below (s₁.setTop (mkF m 23 #[.val (.ref r0), .val (.int p1), .val (.int p2), .val (.int p3)] [(.int (0 : Int32))])) _
          exact retN X0 hx (t := .boolean) Bd.returns (by simp) (hb hby d2_23) hr
        · show Q2 Z x p1 p2 p3 h0 n0 _ s₁.heap _
          rw [e0]
          exact ⟨by simp [own_hit, hs2_2, hs7_4, hs15_6], N0, rfl⟩
    · obtain ⟨fs, hr, hrun, hended, hW, hsame⟩ := X0.leave (v := some (.int (0 : Int32))) (fun h => by rw [Bd.returns] at h; cases h)
      refine ⟨_, _, pre3 _ ?_, hrun, hended, _, _, rfl, ?_, ⟨_, rfl⟩, hW, hsame.mono (by decide) (by decide)⟩
      · show Steps p.tables e below (s₁.setTop (mkF m 7 #[.val (.ref r0), .val (.int p1), .val (.int p2), .val (.int p3)] [(.int p3), (.int p1)])) _
        refine XS.icmpYes X0.here hx rfl (pc0 := 7) (pc' := 22) rfl (hb hby d2_7) rfl (flt hs7_4).2.1 (by decide) (by decide) ?_
        show Steps p.tables e below (s₁.setTop (mkF m 22 #[.val (.ref r0), .val (.int p1), .val (.int p2), .val (.int p3)] [])) _
        refine XS.iconst X0.here hx rfl (hb hby d2_22) ?_
        show Steps p.tables e below (s₁.setTop (mkF m 23 #[.val (.ref r0), .val (.int p1), .val (.int p2), .val (.int p3)] [(.int (0 : Int32))])) _
        exact retN X0 hx (t := .boolean) Bd.returns (by simp) (hb hby d2_23) hr
      · show Q2 Z x p1 p2 p3 h0 n0 _ s₁.heap _
        rw [e0]
        exact ⟨by simp [own_hit, hs2_2, hs7_4], N0, rfl⟩
theorem d3_2 : decode prog_40_method_2_code 2 = .ok (.iload_n 3, 1) := by decide +kernel
theorem d3_3 : decode prog_40_method_2_code 3 = .ok (.iload_n 2, 1) := by decide +kernel
theorem d3_4 : decode prog_40_method_2_code 4 = .ok (.if_icmp .ge 17, 3) := by decide +kernel
theorem d3_7 : decode prog_40_method_2_code 7 = .ok (.aload_n 0, 1) := by decide +kernel
theorem d3_8 : decode prog_40_method_2_code 8 = .ok (.iload_n 3, 1) := by decide +kernel
theorem d3_9 : decode prog_40_method_2_code 9 = .ok (.baload, 1) := by decide +kernel
theorem d3_10 : decode prog_40_method_2_code 10 = .ok (.bipush 10, 2) := by decide +kernel
theorem d3_12 : decode prog_40_method_2_code 12 = .ok (.if_icmp .eq 9, 3) := by decide +kernel
theorem d3_15 : decode prog_40_method_2_code 15 = .ok (.iinc 3 1, 3) := by decide +kernel
theorem d3_18 : decode prog_40_method_2_code 18 = .ok (.goto (-16), 3) := by decide +kernel
theorem own_inb (cl : Cell) (i : Nat) (S : cl.slots.size = 6) (h : i < 6) : ¬ (Int32.ofNat i < 0 ∨ cl.slots.size ≤ (Int32.ofNat i).toNatClampNeg) := by
  rw [own_clamp i (by omega), S]
  intro q
  rcases q with q | q
  · rw [Int32.lt_iff_toInt_lt, own_ofNat i (by omega)] at q
    have h2 : (0 : Int32).toInt = 0 := by decide
    omega
  · omega
theorem d3_0 : decode prog_40_method_2_code 0 = .ok (.iload_n 1, 1) := by decide +kernel
theorem d3_1 : decode prog_40_method_2_code 1 = .ok (.istore_n 3, 1) := by decide +kernel
theorem d3_21 : decode prog_40_method_2_code 21 = .ok (.iload_n 3, 1) := by decide +kernel
theorem d3_22 : decode prog_40_method_2_code 22 = .ok (.ireturn, 1) := by decide +kernel
theorem pn_1 : plainName "com/example/mormorio/mormorio/client/Lines" = true := by first | (simp [plainName, overriddenIn]; done) | decide +kernel
theorem ef_rm3 (m : MethodId) (r0 : Addr) (p1 : Int32) (p2 : Int32) : entryFrame m #[(.ref r0), (.int p1), (.int p2)] 4 = mkF m 0 #[.val (.ref r0), .val (.int p1), .val (.int p2), .unset] [] := by first | (simp [entryFrame, mkF, argsToLocals, Value.category]; done) | rfl
def Q3 (Z : State) (f : Nat → Int32) (a : Nat) (e1 : Nat) (h0 : Heap) (n0 : Nat) (v : Option Value) (h : Heap) (L : List Loc) : Prop := v = some (.int (Int32.ofNat (own_scan f a (e1 - a)))) ∧ Fr n0 L ∧ h = h0
set_option maxRecDepth 65536 in
set_option maxHeartbeats 40000000 in
theorem rm3 (l : Launch) (Z : State) (a0 : Array Value) (hw : ∀ d ∈ tables_1, d.before a0 Z = true) (ws : List Jvm.Cond) (r0 : Addr) (p1 : Int32) (p2 : Int32) (cl : Cell) (f : Nat → Int32) (a : Nat) (e1 : Nat) (h0 : Heap) (n0 : Nat) (Z0 : n0 ≤ h0.size) (Ar : Arr Z h0 r0 cl .byte) (S : cl.slots.size = 6) (hf : ∀ i, i < 6 → cl.slots[i]? = some (.int (f i))) (ha : p1 = Int32.ofNat a) (he : p2 = Int32.ofNat e1) (hae : a ≤ e1) (he6 : e1 ≤ 6) :
    MetFree l (⟨"com/example/mormorio/mormorio/client/Lines", "lineFeed", "([BII)I"⟩ : MethodName) (head1 (Jvm.Cond.code (⟨"com/example/mormorio/mormorio/client/Lines", "lineFeed", "([BII)I"⟩ : MethodName) prog_40_method_2_code 4 (some .int) :: ws) ({ frames := 0, cells := 0, slots := 0, locals := 0 } : Room)) (fun a U => a = #[(.ref r0), (.int p1), (.int p2)] ∧ Z.Warmed39 U.vm ∧ U.heap = h0) (fun _ _ _ _ _ => True) (fun _ U o U' => ∃ v L, o = .returned v ∧ Q3 Z f a e1 h0 n0 v U'.heap L ∧ FrameEnd U o U' L ({ frames := 0, cells := 0, slots := 0, locals := 0 } : Room).cells ({ frames := 0, cells := 0, slots := 0, locals := 0 } : Room).slots) := by
  refine MetFree.of_bodySF (plainFor_of_name pn_1) hisR ?_
  intro p e s m args below meth c s₁ Bd hml0 hP hK
  obtain ⟨rfl, hZ, hh⟩ := hP
  have hx := Bd.exec
  have hby := Bd.bytes
  have hml : c.maxLocals = 4 := hml0
  have hown : s.vm.findClass "com/example/mormorio/mormorio/client/Lines" = some m.cls := findClass_of_methodNamed Bd.named
  have hnm := (name_of_methodNamed Bd.named Bd.method).1
  have X0 : Stand p l e ({ frames := 0, cells := 0, slots := 0, locals := 0 } : Room) s m #[(.ref r0), (.int p1), (.int p2)] below meth c s₁ [] 0 0 := Stand.of_body Bd
  have e0 : s₁.heap = h0 := by rw [← hh, Bd.state]; rfl
  have N0 := Fr.nil n0
  have pre0 : ∀ t, Steps p.tables e below (s₁.setTop (mkF m 0 #[.val (.ref r0), .val (.int p1), .val (.int p2), .unset] [])) t → Steps p.tables e below (s₁.setTop (entryFrame m #[(.ref r0), (.int p1), (.int p2)] 4)) t := fun t k => castTop (ef_rm3 m r0 p1 p2) k
  have loop : ∀ k i, i + k = e1 → ∀ t, Steps p.tables e below (s₁.setTop (mkF m 21 #[.val (.ref r0), .val (.int p1), .val (.int p2), .val (.int (Int32.ofNat (own_scan f i k)))] [])) t → Steps p.tables e below (s₁.setTop (mkF m 2 #[.val (.ref r0), .val (.int p1), .val (.int p2), .val (.int (Int32.ofNat i))] [])) t := by
    intro k
    induction k with
    | zero =>
      intro i hi t kt
      show Steps p.tables e below (s₁.setTop (mkF m 2 #[.val (.ref r0), .val (.int p1), .val (.int p2), .val (.int (Int32.ofNat i))] [])) _
      refine XS.iloadN X0.here hx rfl (hb hby d3_2) rfl ?_
      show Steps p.tables e below (s₁.setTop (mkF m 3 #[.val (.ref r0), .val (.int p1), .val (.int p2), .val (.int (Int32.ofNat i))] [(.int (Int32.ofNat i))])) _
      refine XS.iloadN X0.here hx rfl (hb hby d3_3) rfl ?_
      show Steps p.tables e below (s₁.setTop (mkF m 4 #[.val (.ref r0), .val (.int p1), .val (.int p2), .val (.int (Int32.ofNat i))] [(.int p2), (.int (Int32.ofNat i))])) _
      refine XS.icmpYes X0.here hx rfl (pc0 := 4) (pc' := 21) rfl (hb hby d3_4) rfl (flt (fun q => by rw [he] at q; exact absurd ((own_lt _ _ (by omega) (by omega)).mp q) (by omega))).2.1 (by decide) (by decide) ?_
      exact kt
    | succ k ih =>
      intro i hi t kt
      have hat : cl.slots[(Int32.ofNat i).toNatClampNeg]? = some (.int (f i)) := by rw [own_clamp i (by omega)]; exact hf i (by omega)
      by_cases hx10 : f i = (10 : Int32)
      · have es : own_scan f i (k + 1) = i := if_pos hx10
        rw [es] at kt
        show Steps p.tables e below (s₁.setTop (mkF m 2 #[.val (.ref r0), .val (.int p1), .val (.int p2), .val (.int (Int32.ofNat i))] [])) _
        refine XS.iloadN X0.here hx rfl (hb hby d3_2) rfl ?_
        show Steps p.tables e below (s₁.setTop (mkF m 3 #[.val (.ref r0), .val (.int p1), .val (.int p2), .val (.int (Int32.ofNat i))] [(.int (Int32.ofNat i))])) _
        refine XS.iloadN X0.here hx rfl (hb hby d3_3) rfl ?_
        show Steps p.tables e below (s₁.setTop (mkF m 4 #[.val (.ref r0), .val (.int p1), .val (.int p2), .val (.int (Int32.ofNat i))] [(.int p2), (.int (Int32.ofNat i))])) _
        refine XS.icmpNo X0.here hx rfl (hb hby d3_4) rfl (tlt (by rw [he]; exact (own_lt _ _ (by omega) (by omega)).mpr (by omega))).2.1 ?_
        show Steps p.tables e below (s₁.setTop (mkF m 7 #[.val (.ref r0), .val (.int p1), .val (.int p2), .val (.int (Int32.ofNat i))] [])) _
        refine XS.aloadN X0.here hx rfl (hb hby d3_7) rfl rfl ?_
        show Steps p.tables e below (s₁.setTop (mkF m 8 #[.val (.ref r0), .val (.int p1), .val (.int p2), .val (.int (Int32.ofNat i))] [(.ref r0)])) _
        refine XS.iloadN X0.here hx rfl (hb hby d3_8) rfl ?_
        show Steps p.tables e below (s₁.setTop (mkF m 9 #[.val (.ref r0), .val (.int p1), .val (.int p2), .val (.int (Int32.ofNat i))] [(.int (Int32.ofNat i)), (.ref r0)])) _
        refine X0.baloadBytes hx (j := (Int32.ofNat i)) (v := (.int (f i))) (by rw [e0]; exact Ar.1) (State.isArrayOf_alike hZ.alike Ar.2.1) Ar.2.2 (own_inb cl i S (by omega)) hat (g := (mkF m 9 #[.val (.ref r0), .val (.int p1), .val (.int p2), .val (.int (Int32.ofNat i))] [(.int (Int32.ofNat i)), (.ref r0)])) rfl rfl (hb hby d3_9) _ ?_
        show Steps p.tables e below (s₁.setTop (mkF m 10 #[.val (.ref r0), .val (.int p1), .val (.int p2), .val (.int (Int32.ofNat i))] [(.int (f i))])) _
        refine XS.bipush X0.here hx rfl (hb hby d3_10) ?_
        show Steps p.tables e below (s₁.setTop (mkF m 12 #[.val (.ref r0), .val (.int p1), .val (.int p2), .val (.int (Int32.ofNat i))] [(.int (10 : Int32)), (.int (f i))])) _
        refine XS.icmpYes X0.here hx rfl (pc0 := 12) (pc' := 21) rfl (hb hby d3_12) rfl (teq hx10).1 (by decide) (by decide) ?_
        exact kt
      · have es : own_scan f i (k + 1) = own_scan f (i + 1) k := if_neg hx10
        rw [es] at kt
        show Steps p.tables e below (s₁.setTop (mkF m 2 #[.val (.ref r0), .val (.int p1), .val (.int p2), .val (.int (Int32.ofNat i))] [])) _
        refine XS.iloadN X0.here hx rfl (hb hby d3_2) rfl ?_
        show Steps p.tables e below (s₁.setTop (mkF m 3 #[.val (.ref r0), .val (.int p1), .val (.int p2), .val (.int (Int32.ofNat i))] [(.int (Int32.ofNat i))])) _
        refine XS.iloadN X0.here hx rfl (hb hby d3_3) rfl ?_
        show Steps p.tables e below (s₁.setTop (mkF m 4 #[.val (.ref r0), .val (.int p1), .val (.int p2), .val (.int (Int32.ofNat i))] [(.int p2), (.int (Int32.ofNat i))])) _
        refine XS.icmpNo X0.here hx rfl (hb hby d3_4) rfl (tlt (by rw [he]; exact (own_lt _ _ (by omega) (by omega)).mpr (by omega))).2.1 ?_
        show Steps p.tables e below (s₁.setTop (mkF m 7 #[.val (.ref r0), .val (.int p1), .val (.int p2), .val (.int (Int32.ofNat i))] [])) _
        refine XS.aloadN X0.here hx rfl (hb hby d3_7) rfl rfl ?_
        show Steps p.tables e below (s₁.setTop (mkF m 8 #[.val (.ref r0), .val (.int p1), .val (.int p2), .val (.int (Int32.ofNat i))] [(.ref r0)])) _
        refine XS.iloadN X0.here hx rfl (hb hby d3_8) rfl ?_
        show Steps p.tables e below (s₁.setTop (mkF m 9 #[.val (.ref r0), .val (.int p1), .val (.int p2), .val (.int (Int32.ofNat i))] [(.int (Int32.ofNat i)), (.ref r0)])) _
        refine X0.baloadBytes hx (j := (Int32.ofNat i)) (v := (.int (f i))) (by rw [e0]; exact Ar.1) (State.isArrayOf_alike hZ.alike Ar.2.1) Ar.2.2 (own_inb cl i S (by omega)) hat (g := (mkF m 9 #[.val (.ref r0), .val (.int p1), .val (.int p2), .val (.int (Int32.ofNat i))] [(.int (Int32.ofNat i)), (.ref r0)])) rfl rfl (hb hby d3_9) _ ?_
        show Steps p.tables e below (s₁.setTop (mkF m 10 #[.val (.ref r0), .val (.int p1), .val (.int p2), .val (.int (Int32.ofNat i))] [(.int (f i))])) _
        refine XS.bipush X0.here hx rfl (hb hby d3_10) ?_
        show Steps p.tables e below (s₁.setTop (mkF m 12 #[.val (.ref r0), .val (.int p1), .val (.int p2), .val (.int (Int32.ofNat i))] [(.int (10 : Int32)), (.int (f i))])) _
        refine XS.icmpNo X0.here hx rfl (hb hby d3_12) rfl (feq hx10).1 ?_
        show Steps p.tables e below (s₁.setTop (mkF m 15 #[.val (.ref r0), .val (.int p1), .val (.int p2), .val (.int (Int32.ofNat i))] [])) _
        refine XS.iinc X0.here hx rfl (hb hby d3_15) rfl (l' := #[.val (.ref r0), .val (.int p1), .val (.int p2), .val (.int ((Int32.ofNat i) + (1 : Int32)))]) rfl ?_
        show Steps p.tables e below (s₁.setTop (mkF m 18 #[.val (.ref r0), .val (.int p1), .val (.int p2), .val (.int ((Int32.ofNat i) + (1 : Int32)))] [])) _
        rw [show ((Int32.ofNat i) + (1 : Int32)) = (Int32.ofNat (i + 1)) from own_succ i (by omega)]
        show Steps p.tables e below (s₁.setTop (mkF m 18 #[.val (.ref r0), .val (.int p1), .val (.int p2), .val (.int (Int32.ofNat (i + 1)))] [])) _
        refine XS.goto X0.here hx rfl (pc0 := 18) (pc' := 2) rfl (hb hby d3_18) (by decide) (by decide) ?_
        exact ih (i + 1) (by omega) _ kt
  obtain ⟨fs, hr, hrun, hended, hW, hsame⟩ := X0.leave (v := some (.int (Int32.ofNat (own_scan f a (e1 - a))))) (fun h => by rw [Bd.returns] at h; cases h)
  refine ⟨_, _, pre0 _ ?_, hrun, hended, _, _, rfl, ?_, ⟨_, rfl⟩, hW, hsame.mono (by decide) (by decide)⟩
  · show Steps p.tables e below (s₁.setTop (mkF m 0 #[.val (.ref r0), .val (.int p1), .val (.int p2), .unset] [])) _
    refine XS.iloadN X0.here hx rfl (hb hby d3_0) rfl ?_
    show Steps p.tables e below (s₁.setTop (mkF m 1 #[.val (.ref r0), .val (.int p1), .val (.int p2), .unset] [(.int p1)])) _
    refine XS.istoreN X0.here hx rfl (hb hby d3_1) rfl (l' := #[.val (.ref r0), .val (.int p1), .val (.int p2), .val (.int p1)]) rfl ?_
    show Steps p.tables e below (s₁.setTop (mkF m 2 #[.val (.ref r0), .val (.int p1), .val (.int p2), .val (.int p1)] [])) _
    have e3 : p1 = Int32.ofNat a := ha
    rw [show (#[.val (.ref r0), .val (.int p1), .val (.int p2), .val (.int p1)] : Array Slot) = #[.val (.ref r0), .val (.int p1), .val (.int p2), .val (.int (Int32.ofNat a))] from by rw [← ha]]
    refine loop (e1 - a) a (by omega) _ ?_
    show Steps p.tables e below (s₁.setTop (mkF m 21 #[.val (.ref r0), .val (.int p1), .val (.int p2), .val (.int (Int32.ofNat (own_scan f a (e1 - a))))] [])) _
    refine XS.iloadN X0.here hx rfl (hb hby d3_21) rfl ?_
    show Steps p.tables e below (s₁.setTop (mkF m 22 #[.val (.ref r0), .val (.int p1), .val (.int p2), .val (.int (Int32.ofNat (own_scan f a (e1 - a))))] [(.int (Int32.ofNat (own_scan f a (e1 - a))))])) _
    exact retI X0 hx Bd.returns (hb hby d3_22) hr
  · show Q3 Z f a e1 h0 n0 _ s₁.heap _
    rw [e0]
    exact ⟨rfl, N0, rfl⟩
theorem pd_0 : parseMethodDescriptor "(IJI)B" = some ⟨[.int, .long, .int], some .byte⟩ := by decide +kernel
theorem pd_1 : parseMethodDescriptor "([BIII)Z" = some ⟨[(.array .byte), .int, .int, .int], some .boolean⟩ := by decide +kernel
theorem pd_2 : parseMethodDescriptor "([BII)I" = some ⟨[(.array .byte), .int, .int], some .int⟩ := by decide +kernel
theorem ef_rm0 (m : MethodId) (p0 : Int32) (q1 : Int64) (p2 : Int32) (p3 : Int32) : entryFrame m #[(.int p0), (.long q1), (.int p2), (.int p3)] maxLocals = mkF m 0 #[.val (.int p0), .val (.long q1), .second, .val (.int p2), .val (.int p3), .unset, .unset, .unset, .unset] [] := by first | (simp [entryFrame, mkF, argsToLocals, Value.category, maxLocals]; done) | rfl
def Q0 (Z : State) (p0 : Int32) (h0 : Heap) (n0 : Nat) (v : Option Value) (h : Heap) (L : List Loc) : Prop := v = some (.int 1) ∧ Fr n0 L
set_option maxRecDepth 65536 in
set_option maxHeartbeats 40000000 in
theorem rm0 (l : Launch) (Z : State) (a0 : Array Value) (hw : ∀ d ∈ tables_1, d.before a0 Z = true) (ws : List Jvm.Cond) (p0 : Int32) (q1 : Int64) (p2 : Int32) (p3 : Int32) (h0 : Heap) (n0 : Nat) (Z0 : n0 ≤ h0.size) :
    MetFree l x (head1 (Jvm.Cond.code x code maxLocals ret :: ws) room_1) (fun a U => a = #[(.int p0), (.long q1), (.int p2), (.int p3)] ∧ Z.Warmed39 U.vm ∧ U.heap = h0) (fun _ _ _ _ _ => True) (fun _ U o U' => ∃ v L, o = .returned v ∧ Q0 Z p0 h0 n0 v U'.heap L ∧ FrameEnd U o U' L room_1.cells room_1.slots) := by
  refine MetFree.of_bodySF (plainFor_of_name pn_0) hisR ?_
  intro p e s m args below meth c s₁ Bd hml0 hP hK
  obtain ⟨rfl, hZ, hh⟩ := hP
  have hx := Bd.exec
  have hby := Bd.bytes
  have hml : c.maxLocals = 9 := hml0
  have hown : s.vm.findClass "com/example/mormorio/mormorio/client/LinesLineFeedPinLaw" = some m.cls := findClass_of_methodNamed Bd.named
  have hnm := (name_of_methodNamed Bd.named Bd.method).1
  have X0 : Stand p l e room_1 s m #[(.int p0), (.long q1), (.int p2), (.int p3)] below meth c s₁ [] 0 0 := Stand.of_body Bd
  have e0 : s₁.heap = h0 := by rw [← hh, Bd.state]; rfl
  have N0 := Fr.nil n0
  have pre0 : ∀ t, Steps p.tables e below (s₁.setTop (mkF m 0 #[.val (.int p0), .val (.long q1), .second, .val (.int p2), .val (.int p3), .unset, .unset, .unset, .unset] [])) t → Steps p.tables e below (s₁.setTop (entryFrame m #[(.int p0), (.long q1), (.int p2), (.int p3)] maxLocals)) t := fun t k => castTop (ef_rm0 m p0 q1 p2 p3) k
  obtain ⟨T1, h1, k1, X1, e1, E1, A1, st1⟩ := newP X0 hx hZ (hw _ (List.mem_of_getElem? (i := 0) rfl)) e0 (g := (mkF m 2 #[.val (.int p0), .val (.long q1), .second, .val (.int p2), .val (.int p3), .unset, .unset, .unset, .unset] [(.int (6 : Int32))])) rfl (hb hby at_2) rfl (by decide) (cap := 6) (by decide) (by decide) (by decide) (by decide)
  obtain ⟨b1, gg1⟩ : ∃ z, z = h0.size := ⟨_, rfl⟩
  rw [← gg1] at A1 st1
  have g_b1 : n0 ≤ b1 := Nat.le_trans Z0 (Nat.le_of_eq gg1.symm)
  have sz_b1 : h0.size ≤ b1 := Nat.le_trans (Nat.le_refl h0.size) (Nat.le_of_eq gg1.symm)
  have V_b1 : Arv Z h1 b1 k1 .byte (6 : Int32) [(.int (0 : Int32)), (.int (0 : Int32)), (.int (0 : Int32)), (.int (0 : Int32)), (.int (0 : Int32)), (.int (0 : Int32))] (.int (0 : Int32)) := (Arv.new A1 (by decide)).pad (pad_rep [] (.int (0 : Int32)) 6)
  have Z3z : n0 ≤ h1.size := (Nat.le_trans Z0 E1.1)
  obtain ⟨_, _, ⟨T2, L2, k2, n2⟩, -, X2, ⟨Lc2, hQ2, l2, y2, z2⟩, st2⟩ := Jvm.LawKit.callS X1 hx (y := (⟨"com/example/mormorio/mormorio/client/LinesLineFeedPinLaw", "pick", "(IJI)B"⟩ : MethodName)) hown (mvT hZ (hw _ (List.mem_of_getElem? (i := 1) rfl))) (mvT hZ (hw _ (List.mem_of_getElem? (i := 2) rfl))) (mvT hZ (hw _ (List.mem_of_getElem? (i := 3) rfl))) (mvT hZ (hw _ (List.mem_of_getElem? (i := 4) rfl))) (by decide) (backOf (W := 2) (rm1 l Z a0 hw [] p0 q1 (0 : Int32) h1 n0 Z3z) hZ (hw _ (List.mem_of_getElem? (i := 4) rfl)) (hw _ (List.mem_of_getElem? (i := 3) rfl)) (by decide) (by decide)) (g := (mkF m 12 #[.val (.int p0), .val (.long q1), .second, .val (.int p2), .val (.int p3), .val (.ref b1), .unset, .unset, .unset] [(.int (0 : Int32)), (.long q1), (.int p0), (.int (0 : Int32)), (.ref b1)])) rfl (by rw [hml]; rfl) (argsL := [(.int p0), (.long q1), (.int (0 : Int32))]) (rest := [(.int (0 : Int32)), (.ref b1)]) (lenOf pd_0 rfl) rfl (by show 2 * 0 + _ ≤ _; exact Nat.le_of_eq rfl) (hb hby at_12) (fun _ _ => ⟨rfl, e1, (by decide : 1 + 0 ≤ _), (by decide : 6 + 0 ≤ _)⟩)
  dsimp only [Pt.U, Pt.locs, Pt.cells, Pt.slots] at X2 l2 y2 z2 st2 hQ2
  subst l2 y2 z2
  obtain ⟨⟨z2, rfl⟩, N2q, eq2⟩ := hQ2
  have N2 := Fr.app N0 N2q
  obtain ⟨cl_b1_15, Ar_b1_15, q_b1_15, S_b1_15, N_b1_15, H_b1_15, G_b1_15⟩ := V_b1
  have hin15 : ¬ ((0 : Int32) < 0 ∨ cl_b1_15.slots.size ≤ ((0 : Int32)).toNatClampNeg) := inb_of S_b1_15 ⟨by decide, by decide⟩
  obtain ⟨T4, h4, X4, e4, W4, st4⟩ := stB X2 hx hZ eq2 Ar_b1_15 (j := (0 : Int32)) hin15 (g := (mkF m 15 #[.val (.int p0), .val (.long q1), .second, .val (.int p2), .val (.int p3), .val (.ref b1), .unset, .unset, .unset] [(.int z2), (.int (0 : Int32)), (.ref b1)])) rfl rfl (hb hby at_15)
  have V_b1_4 := Arv.set Ar_b1_15 q_b1_15 S_b1_15 N_b1_15 H_b1_15 G_b1_15 (fits_nar_byte _) W4 0 rfl (Nat.le_of_ble_eq_true rfl)
  have N4 := Fr.snoc X4 N2 g_b1
  have Z6z : n0 ≤ h4.size := (Nat.le_trans Z3z (Keep.of_wr W4).1)
  obtain ⟨_, _, ⟨T5, L5, k5, n5⟩, -, X5, ⟨Lc5, hQ5, l5, y5, z5⟩, st5⟩ := Jvm.LawKit.callS X4 hx (y := (⟨"com/example/mormorio/mormorio/client/LinesLineFeedPinLaw", "pick", "(IJI)B"⟩ : MethodName)) hown (mvT hZ (hw _ (List.mem_of_getElem? (i := 1) rfl))) (mvT hZ (hw _ (List.mem_of_getElem? (i := 2) rfl))) (mvT hZ (hw _ (List.mem_of_getElem? (i := 3) rfl))) (mvT hZ (hw _ (List.mem_of_getElem? (i := 4) rfl))) (by decide) (backOf (W := 2) (rm1 l Z a0 hw [] p0 q1 (1 : Int32) h4 n0 Z6z) hZ (hw _ (List.mem_of_getElem? (i := 4) rfl)) (hw _ (List.mem_of_getElem? (i := 3) rfl)) (by decide) (by decide)) (g := (mkF m 22 #[.val (.int p0), .val (.long q1), .second, .val (.int p2), .val (.int p3), .val (.ref b1), .unset, .unset, .unset] [(.int (1 : Int32)), (.long q1), (.int p0), (.int (1 : Int32)), (.ref b1)])) rfl (by rw [hml]; rfl) (argsL := [(.int p0), (.long q1), (.int (1 : Int32))]) (rest := [(.int (1 : Int32)), (.ref b1)]) (lenOf pd_0 rfl) rfl (by show 2 * 0 + _ ≤ _; exact Nat.le_of_eq rfl) (hb hby at_22) (fun _ _ => ⟨rfl, e4, (by decide : 1 + 0 ≤ _), (by decide : 6 + 0 ≤ _)⟩)
  dsimp only [Pt.U, Pt.locs, Pt.cells, Pt.slots] at X5 l5 y5 z5 st5 hQ5
  subst l5 y5 z5
  obtain ⟨⟨z5, rfl⟩, N5q, eq5⟩ := hQ5
  have N5 := Fr.app N4 N5q
  obtain ⟨cl_b1_25, Ar_b1_25, q_b1_25, S_b1_25, N_b1_25, H_b1_25, G_b1_25⟩ := V_b1_4
  have hin25 : ¬ ((1 : Int32) < 0 ∨ cl_b1_25.slots.size ≤ ((1 : Int32)).toNatClampNeg) := inb_of S_b1_25 ⟨by decide, by decide⟩
  obtain ⟨T7, h7, X7, e7, W7, st7⟩ := stB X5 hx hZ eq5 Ar_b1_25 (j := (1 : Int32)) hin25 (g := (mkF m 25 #[.val (.int p0), .val (.long q1), .second, .val (.int p2), .val (.int p3), .val (.ref b1), .unset, .unset, .unset] [(.int z5), (.int (1 : Int32)), (.ref b1)])) rfl rfl (hb hby at_25)
  have V_b1_7 := Arv.set Ar_b1_25 q_b1_25 S_b1_25 N_b1_25 H_b1_25 G_b1_25 (fits_nar_byte _) W7 1 rfl (Nat.le_of_ble_eq_true rfl)
  have N7 := Fr.snoc X7 N5 g_b1
  have Z9z : n0 ≤ h7.size := (Nat.le_trans Z6z (Keep.of_wr W7).1)
  obtain ⟨_, _, ⟨T8, L8, k8, n8⟩, -, X8, ⟨Lc8, hQ8, l8, y8, z8⟩, st8⟩ := Jvm.LawKit.callS X7 hx (y := (⟨"com/example/mormorio/mormorio/client/LinesLineFeedPinLaw", "pick", "(IJI)B"⟩ : MethodName)) hown (mvT hZ (hw _ (List.mem_of_getElem? (i := 1) rfl))) (mvT hZ (hw _ (List.mem_of_getElem? (i := 2) rfl))) (mvT hZ (hw _ (List.mem_of_getElem? (i := 3) rfl))) (mvT hZ (hw _ (List.mem_of_getElem? (i := 4) rfl))) (by decide) (backOf (W := 2) (rm1 l Z a0 hw [] p0 q1 (2 : Int32) h7 n0 Z9z) hZ (hw _ (List.mem_of_getElem? (i := 4) rfl)) (hw _ (List.mem_of_getElem? (i := 3) rfl)) (by decide) (by decide)) (g := (mkF m 32 #[.val (.int p0), .val (.long q1), .second, .val (.int p2), .val (.int p3), .val (.ref b1), .unset, .unset, .unset] [(.int (2 : Int32)), (.long q1), (.int p0), (.int (2 : Int32)), (.ref b1)])) rfl (by rw [hml]; rfl) (argsL := [(.int p0), (.long q1), (.int (2 : Int32))]) (rest := [(.int (2 : Int32)), (.ref b1)]) (lenOf pd_0 rfl) rfl (by show 2 * 0 + _ ≤ _; exact Nat.le_of_eq rfl) (hb hby at_32) (fun _ _ => ⟨rfl, e7, (by decide : 1 + 0 ≤ _), (by decide : 6 + 0 ≤ _)⟩)
  dsimp only [Pt.U, Pt.locs, Pt.cells, Pt.slots] at X8 l8 y8 z8 st8 hQ8
  subst l8 y8 z8
  obtain ⟨⟨z8, rfl⟩, N8q, eq8⟩ := hQ8
  have N8 := Fr.app N7 N8q
  obtain ⟨cl_b1_35, Ar_b1_35, q_b1_35, S_b1_35, N_b1_35, H_b1_35, G_b1_35⟩ := V_b1_7
  have hin35 : ¬ ((2 : Int32) < 0 ∨ cl_b1_35.slots.size ≤ ((2 : Int32)).toNatClampNeg) := inb_of S_b1_35 ⟨by decide, by decide⟩
  obtain ⟨T10, h10, X10, e10, W10, st10⟩ := stB X8 hx hZ eq8 Ar_b1_35 (j := (2 : Int32)) hin35 (g := (mkF m 35 #[.val (.int p0), .val (.long q1), .second, .val (.int p2), .val (.int p3), .val (.ref b1), .unset, .unset, .unset] [(.int z8), (.int (2 : Int32)), (.ref b1)])) rfl rfl (hb hby at_35)
  have V_b1_10 := Arv.set Ar_b1_35 q_b1_35 S_b1_35 N_b1_35 H_b1_35 G_b1_35 (fits_nar_byte _) W10 2 rfl (Nat.le_of_ble_eq_true rfl)
  have N10 := Fr.snoc X10 N8 g_b1
  have Z12z : n0 ≤ h10.size := (Nat.le_trans Z9z (Keep.of_wr W10).1)
  obtain ⟨_, _, ⟨T11, L11, k11, n11⟩, -, X11, ⟨Lc11, hQ11, l11, y11, z11⟩, st11⟩ := Jvm.LawKit.callS X10 hx (y := (⟨"com/example/mormorio/mormorio/client/LinesLineFeedPinLaw", "pick", "(IJI)B"⟩ : MethodName)) hown (mvT hZ (hw _ (List.mem_of_getElem? (i := 1) rfl))) (mvT hZ (hw _ (List.mem_of_getElem? (i := 2) rfl))) (mvT hZ (hw _ (List.mem_of_getElem? (i := 3) rfl))) (mvT hZ (hw _ (List.mem_of_getElem? (i := 4) rfl))) (by decide) (backOf (W := 2) (rm1 l Z a0 hw [] p0 q1 (3 : Int32) h10 n0 Z12z) hZ (hw _ (List.mem_of_getElem? (i := 4) rfl)) (hw _ (List.mem_of_getElem? (i := 3) rfl)) (by decide) (by decide)) (g := (mkF m 42 #[.val (.int p0), .val (.long q1), .second, .val (.int p2), .val (.int p3), .val (.ref b1), .unset, .unset, .unset] [(.int (3 : Int32)), (.long q1), (.int p0), (.int (3 : Int32)), (.ref b1)])) rfl (by rw [hml]; rfl) (argsL := [(.int p0), (.long q1), (.int (3 : Int32))]) (rest := [(.int (3 : Int32)), (.ref b1)]) (lenOf pd_0 rfl) rfl (by show 2 * 0 + _ ≤ _; exact Nat.le_of_eq rfl) (hb hby at_42) (fun _ _ => ⟨rfl, e10, (by decide : 1 + 0 ≤ _), (by decide : 6 + 0 ≤ _)⟩)
  dsimp only [Pt.U, Pt.locs, Pt.cells, Pt.slots] at X11 l11 y11 z11 st11 hQ11
  subst l11 y11 z11
  obtain ⟨⟨z11, rfl⟩, N11q, eq11⟩ := hQ11
  have N11 := Fr.app N10 N11q
  obtain ⟨cl_b1_45, Ar_b1_45, q_b1_45, S_b1_45, N_b1_45, H_b1_45, G_b1_45⟩ := V_b1_10
  have hin45 : ¬ ((3 : Int32) < 0 ∨ cl_b1_45.slots.size ≤ ((3 : Int32)).toNatClampNeg) := inb_of S_b1_45 ⟨by decide, by decide⟩
  obtain ⟨T13, h13, X13, e13, W13, st13⟩ := stB X11 hx hZ eq11 Ar_b1_45 (j := (3 : Int32)) hin45 (g := (mkF m 45 #[.val (.int p0), .val (.long q1), .second, .val (.int p2), .val (.int p3), .val (.ref b1), .unset, .unset, .unset] [(.int z11), (.int (3 : Int32)), (.ref b1)])) rfl rfl (hb hby at_45)
  have V_b1_13 := Arv.set Ar_b1_45 q_b1_45 S_b1_45 N_b1_45 H_b1_45 G_b1_45 (fits_nar_byte _) W13 3 rfl (Nat.le_of_ble_eq_true rfl)
  have N13 := Fr.snoc X13 N11 g_b1
  have Z15z : n0 ≤ h13.size := (Nat.le_trans Z12z (Keep.of_wr W13).1)
  obtain ⟨_, _, ⟨T14, L14, k14, n14⟩, -, X14, ⟨Lc14, hQ14, l14, y14, z14⟩, st14⟩ := Jvm.LawKit.callS X13 hx (y := (⟨"com/example/mormorio/mormorio/client/LinesLineFeedPinLaw", "pick", "(IJI)B"⟩ : MethodName)) hown (mvT hZ (hw _ (List.mem_of_getElem? (i := 1) rfl))) (mvT hZ (hw _ (List.mem_of_getElem? (i := 2) rfl))) (mvT hZ (hw _ (List.mem_of_getElem? (i := 3) rfl))) (mvT hZ (hw _ (List.mem_of_getElem? (i := 4) rfl))) (by decide) (backOf (W := 2) (rm1 l Z a0 hw [] p0 q1 (4 : Int32) h13 n0 Z15z) hZ (hw _ (List.mem_of_getElem? (i := 4) rfl)) (hw _ (List.mem_of_getElem? (i := 3) rfl)) (by decide) (by decide)) (g := (mkF m 52 #[.val (.int p0), .val (.long q1), .second, .val (.int p2), .val (.int p3), .val (.ref b1), .unset, .unset, .unset] [(.int (4 : Int32)), (.long q1), (.int p0), (.int (4 : Int32)), (.ref b1)])) rfl (by rw [hml]; rfl) (argsL := [(.int p0), (.long q1), (.int (4 : Int32))]) (rest := [(.int (4 : Int32)), (.ref b1)]) (lenOf pd_0 rfl) rfl (by show 2 * 0 + _ ≤ _; exact Nat.le_of_eq rfl) (hb hby at_52) (fun _ _ => ⟨rfl, e13, (by decide : 1 + 0 ≤ _), (by decide : 6 + 0 ≤ _)⟩)
  dsimp only [Pt.U, Pt.locs, Pt.cells, Pt.slots] at X14 l14 y14 z14 st14 hQ14
  subst l14 y14 z14
  obtain ⟨⟨z14, rfl⟩, N14q, eq14⟩ := hQ14
  have N14 := Fr.app N13 N14q
  obtain ⟨cl_b1_55, Ar_b1_55, q_b1_55, S_b1_55, N_b1_55, H_b1_55, G_b1_55⟩ := V_b1_13
  have hin55 : ¬ ((4 : Int32) < 0 ∨ cl_b1_55.slots.size ≤ ((4 : Int32)).toNatClampNeg) := inb_of S_b1_55 ⟨by decide, by decide⟩
  obtain ⟨T16, h16, X16, e16, W16, st16⟩ := stB X14 hx hZ eq14 Ar_b1_55 (j := (4 : Int32)) hin55 (g := (mkF m 55 #[.val (.int p0), .val (.long q1), .second, .val (.int p2), .val (.int p3), .val (.ref b1), .unset, .unset, .unset] [(.int z14), (.int (4 : Int32)), (.ref b1)])) rfl rfl (hb hby at_55)
  have V_b1_16 := Arv.set Ar_b1_55 q_b1_55 S_b1_55 N_b1_55 H_b1_55 G_b1_55 (fits_nar_byte _) W16 4 rfl (Nat.le_of_ble_eq_true rfl)
  have N16 := Fr.snoc X16 N14 g_b1
  have Z18z : n0 ≤ h16.size := (Nat.le_trans Z15z (Keep.of_wr W16).1)
  obtain ⟨_, _, ⟨T17, L17, k17, n17⟩, -, X17, ⟨Lc17, hQ17, l17, y17, z17⟩, st17⟩ := Jvm.LawKit.callS X16 hx (y := (⟨"com/example/mormorio/mormorio/client/LinesLineFeedPinLaw", "pick", "(IJI)B"⟩ : MethodName)) hown (mvT hZ (hw _ (List.mem_of_getElem? (i := 1) rfl))) (mvT hZ (hw _ (List.mem_of_getElem? (i := 2) rfl))) (mvT hZ (hw _ (List.mem_of_getElem? (i := 3) rfl))) (mvT hZ (hw _ (List.mem_of_getElem? (i := 4) rfl))) (by decide) (backOf (W := 2) (rm1 l Z a0 hw [] p0 q1 (5 : Int32) h16 n0 Z18z) hZ (hw _ (List.mem_of_getElem? (i := 4) rfl)) (hw _ (List.mem_of_getElem? (i := 3) rfl)) (by decide) (by decide)) (g := (mkF m 62 #[.val (.int p0), .val (.long q1), .second, .val (.int p2), .val (.int p3), .val (.ref b1), .unset, .unset, .unset] [(.int (5 : Int32)), (.long q1), (.int p0), (.int (5 : Int32)), (.ref b1)])) rfl (by rw [hml]; rfl) (argsL := [(.int p0), (.long q1), (.int (5 : Int32))]) (rest := [(.int (5 : Int32)), (.ref b1)]) (lenOf pd_0 rfl) rfl (by show 2 * 0 + _ ≤ _; exact Nat.le_of_eq rfl) (hb hby at_62) (fun _ _ => ⟨rfl, e16, (by decide : 1 + 0 ≤ _), (by decide : 6 + 0 ≤ _)⟩)
  dsimp only [Pt.U, Pt.locs, Pt.cells, Pt.slots] at X17 l17 y17 z17 st17 hQ17
  subst l17 y17 z17
  obtain ⟨⟨z17, rfl⟩, N17q, eq17⟩ := hQ17
  have N17 := Fr.app N16 N17q
  obtain ⟨cl_b1_65, Ar_b1_65, q_b1_65, S_b1_65, N_b1_65, H_b1_65, G_b1_65⟩ := V_b1_16
  have hin65 : ¬ ((5 : Int32) < 0 ∨ cl_b1_65.slots.size ≤ ((5 : Int32)).toNatClampNeg) := inb_of S_b1_65 ⟨by decide, by decide⟩
  obtain ⟨T19, h19, X19, e19, W19, st19⟩ := stB X17 hx hZ eq17 Ar_b1_65 (j := (5 : Int32)) hin65 (g := (mkF m 65 #[.val (.int p0), .val (.long q1), .second, .val (.int p2), .val (.int p3), .val (.ref b1), .unset, .unset, .unset] [(.int z17), (.int (5 : Int32)), (.ref b1)])) rfl rfl (hb hby at_65)
  have V_b1_19 := Arv.set Ar_b1_65 q_b1_65 S_b1_65 N_b1_65 H_b1_65 G_b1_65 (fits_nar_byte _) W19 5 rfl (Nat.le_of_ble_eq_true rfl)
  have N19 := Fr.snoc X19 N17 g_b1
  obtain ⟨cl, Ar, qcl, S, Nn, Hs, Gs⟩ := V_b1_19
  have S6 : cl.slots.size = 6 := S
  have hin0 : ¬ ((0 : Int32) < 0 ∨ cl.slots.size ≤ ((0 : Int32)).toNatClampNeg) := inb_of S ⟨by decide, by decide⟩
  have hat0 : cl.slots[((0 : Int32)).toNatClampNeg]? = some (.int (z2.toInt8.toInt32)) := Hs 0 (by rw [S6]; decide)
  have hin1 : ¬ ((1 : Int32) < 0 ∨ cl.slots.size ≤ ((1 : Int32)).toNatClampNeg) := inb_of S ⟨by decide, by decide⟩
  have hat1 : cl.slots[((1 : Int32)).toNatClampNeg]? = some (.int (z5.toInt8.toInt32)) := Hs 1 (by rw [S6]; decide)
  have hin2 : ¬ ((2 : Int32) < 0 ∨ cl.slots.size ≤ ((2 : Int32)).toNatClampNeg) := inb_of S ⟨by decide, by decide⟩
  have hat2 : cl.slots[((2 : Int32)).toNatClampNeg]? = some (.int (z8.toInt8.toInt32)) := Hs 2 (by rw [S6]; decide)
  have hin3 : ¬ ((3 : Int32) < 0 ∨ cl.slots.size ≤ ((3 : Int32)).toNatClampNeg) := inb_of S ⟨by decide, by decide⟩
  have hat3 : cl.slots[((3 : Int32)).toNatClampNeg]? = some (.int (z11.toInt8.toInt32)) := Hs 3 (by rw [S6]; decide)
  have hin4 : ¬ ((4 : Int32) < 0 ∨ cl.slots.size ≤ ((4 : Int32)).toNatClampNeg) := inb_of S ⟨by decide, by decide⟩
  have hat4 : cl.slots[((4 : Int32)).toNatClampNeg]? = some (.int (z14.toInt8.toInt32)) := Hs 4 (by rw [S6]; decide)
  have hin5 : ¬ ((5 : Int32) < 0 ∨ cl.slots.size ≤ ((5 : Int32)).toNatClampNeg) := inb_of S ⟨by decide, by decide⟩
  have hat5 : cl.slots[((5 : Int32)).toNatClampNeg]? = some (.int (z17.toInt8.toInt32)) := Hs 5 (by rw [S6]; decide)
  have hf : ∀ i, i < 6 → cl.slots[i]? = some (.int ((own_arr (z2.toInt8.toInt32) (z5.toInt8.toInt32) (z8.toInt8.toInt32) (z11.toInt8.toInt32) (z14.toInt8.toInt32) (z17.toInt8.toInt32)) i)) := by
    intro i hi
    have hi' : i = 0 ∨ i = 1 ∨ i = 2 ∨ i = 3 ∨ i = 4 ∨ i = 5 := by omega
    rcases hi' with rfl | rfl | rfl | rfl | rfl | rfl
    all_goals first | exact hat0 | exact hat1 | exact hat2 | exact hat3 | exact hat4 | exact hat5
  obtain ⟨a, e1, hae, he6, ha, he⟩ := own_rng p2 p3
  have Z21z : n0 ≤ h19.size := (Nat.le_trans Z18z (Keep.of_wr W19).1)
  obtain ⟨_, _, ⟨T20, L20, k20, n20⟩, -, X20, ⟨Lc20, hQ20, l20, y20, z20⟩, st20⟩ := Jvm.LawKit.callS X19 hx (y := (⟨"com/example/mormorio/mormorio/client/LinesLineFeedPinLaw", "hit", "([BIII)Z"⟩ : MethodName)) hown (mvT hZ (hw _ (List.mem_of_getElem? (i := 6) rfl))) (mvT hZ (hw _ (List.mem_of_getElem? (i := 7) rfl))) (mvT hZ (hw _ (List.mem_of_getElem? (i := 3) rfl))) (mvT hZ (hw _ (List.mem_of_getElem? (i := 8) rfl))) (by decide) (backOf (W := 0) (rm2 l Z a0 hw [] b1 (0 : Int32) (own_at p2) (own_en p2 p3) cl (z2.toInt8.toInt32) h19 n0 Z21z Ar hin0 hat0) hZ (hw _ (List.mem_of_getElem? (i := 8) rfl)) (hw _ (List.mem_of_getElem? (i := 3) rfl)) (by decide) (by decide)) (g := (mkF m 98 #[.val (.int p0), .val (.long q1), .second, .val (.int p2), .val (.int p3), .val (.ref b1), .val (.int (own_at p2)), .val (.int (own_en p2 p3)), .unset] [(.int (own_en p2 p3)), (.int (own_at p2)), (.int (0 : Int32)), (.ref b1)])) rfl (by rw [hml]; rfl) (argsL := [(.ref b1), (.int (0 : Int32)), (.int (own_at p2)), (.int (own_en p2 p3))]) (rest := []) (lenOf pd_1 rfl) rfl (by show 2 * 0 + _ ≤ _; exact Nat.le_of_eq rfl) (hb hby at_98) (fun _ _ => ⟨rfl, e19, (by decide : 1 + 0 ≤ _), (by decide : 6 + 0 ≤ _)⟩)
  dsimp only [Pt.U, Pt.locs, Pt.cells, Pt.slots] at X20 l20 y20 z20 st20 hQ20
  subst l20 y20 z20
  obtain ⟨rfl, N20q, eq20⟩ := hQ20
  have N20 := Fr.app N19 N20q
  have pre22 : ∀ t, Steps p.tables e below (T20.setTop (mkF m 101 #[.val (.int p0), .val (.long q1), .second, .val (.int p2), .val (.int p3), .val (.ref b1), .val (.int (own_at p2)), .val (.int (own_en p2 p3)), .unset] [(.int (own_hit (z2.toInt8.toInt32) (0 : Int32) (own_at p2) (own_en p2 p3)))])) t → Steps p.tables e below (s₁.setTop (entryFrame m #[(.int p0), (.long q1), (.int p2), (.int p3)] maxLocals)) t := by
    intro t kt
    refine pre0 _ ?_
    show Steps p.tables e below (s₁.setTop (mkF m 0 #[.val (.int p0), .val (.long q1), .second, .val (.int p2), .val (.int p3), .unset, .unset, .unset, .unset] [])) _
    refine XS.bipush X0.here hx rfl (hb hby at_0) ?_
    show Steps p.tables e below (s₁.setTop (mkF m 2 #[.val (.int p0), .val (.long q1), .second, .val (.int p2), .val (.int p3), .unset, .unset, .unset, .unset] [(.int (6 : Int32))])) _
    refine st1 _ ?_
    show Steps p.tables e below (T1.setTop (mkF m 4 #[.val (.int p0), .val (.long q1), .second, .val (.int p2), .val (.int p3), .unset, .unset, .unset, .unset] [(.ref b1)])) _
    refine XS.astore X1.here hx rfl (hb hby at_4) rfl rfl (l' := #[.val (.int p0), .val (.long q1), .second, .val (.int p2), .val (.int p3), .val (.ref b1), .unset, .unset, .unset]) rfl ?_
    show Steps p.tables e below (T1.setTop (mkF m 6 #[.val (.int p0), .val (.long q1), .second, .val (.int p2), .val (.int p3), .val (.ref b1), .unset, .unset, .unset] [])) _
    refine XS.aload X1.here hx rfl (hb hby at_6) rfl rfl ?_
    show Steps p.tables e below (T1.setTop (mkF m 8 #[.val (.int p0), .val (.long q1), .second, .val (.int p2), .val (.int p3), .val (.ref b1), .unset, .unset, .unset] [(.ref b1)])) _
    refine XS.iconst X1.here hx rfl (hb hby at_8) ?_
    show Steps p.tables e below (T1.setTop (mkF m 9 #[.val (.int p0), .val (.long q1), .second, .val (.int p2), .val (.int p3), .val (.ref b1), .unset, .unset, .unset] [(.int (0 : Int32)), (.ref b1)])) _
    refine XS.iloadN X1.here hx rfl (hb hby at_9) rfl ?_
    show Steps p.tables e below (T1.setTop (mkF m 10 #[.val (.int p0), .val (.long q1), .second, .val (.int p2), .val (.int p3), .val (.ref b1), .unset, .unset, .unset] [(.int p0), (.int (0 : Int32)), (.ref b1)])) _
    refine XS.lloadN X1.here hx rfl (hb hby at_10) rfl ?_
    show Steps p.tables e below (T1.setTop (mkF m 11 #[.val (.int p0), .val (.long q1), .second, .val (.int p2), .val (.int p3), .val (.ref b1), .unset, .unset, .unset] [(.long q1), (.int p0), (.int (0 : Int32)), (.ref b1)])) _
    refine XS.iconst X1.here hx rfl (hb hby at_11) ?_
    show Steps p.tables e below (T1.setTop (mkF m 12 #[.val (.int p0), .val (.long q1), .second, .val (.int p2), .val (.int p3), .val (.ref b1), .unset, .unset, .unset] [(.int (0 : Int32)), (.long q1), (.int p0), (.int (0 : Int32)), (.ref b1)])) _
    refine st2 _ ?_
    show Steps p.tables e below (T2.setTop (mkF m 15 #[.val (.int p0), .val (.long q1), .second, .val (.int p2), .val (.int p3), .val (.ref b1), .unset, .unset, .unset] [(.int z2), (.int (0 : Int32)), (.ref b1)])) _
    refine st4 _ ?_
    show Steps p.tables e below (T4.setTop (mkF m 16 #[.val (.int p0), .val (.long q1), .second, .val (.int p2), .val (.int p3), .val (.ref b1), .unset, .unset, .unset] [])) _
    refine XS.aload X4.here hx rfl (hb hby at_16) rfl rfl ?_
    show Steps p.tables e below (T4.setTop (mkF m 18 #[.val (.int p0), .val (.long q1), .second, .val (.int p2), .val (.int p3), .val (.ref b1), .unset, .unset, .unset] [(.ref b1)])) _
    refine XS.iconst X4.here hx rfl (hb hby at_18) ?_
    show Steps p.tables e below (T4.setTop (mkF m 19 #[.val (.int p0), .val (.long q1), .second, .val (.int p2), .val (.int p3), .val (.ref b1), .unset, .unset, .unset] [(.int (1 : Int32)), (.ref b1)])) _
    refine XS.iloadN X4.here hx rfl (hb hby at_19) rfl ?_
    show Steps p.tables e below (T4.setTop (mkF m 20 #[.val (.int p0), .val (.long q1), .second, .val (.int p2), .val (.int p3), .val (.ref b1), .unset, .unset, .unset] [(.int p0), (.int (1 : Int32)), (.ref b1)])) _
    refine XS.lloadN X4.here hx rfl (hb hby at_20) rfl ?_
    show Steps p.tables e below (T4.setTop (mkF m 21 #[.val (.int p0), .val (.long q1), .second, .val (.int p2), .val (.int p3), .val (.ref b1), .unset, .unset, .unset] [(.long q1), (.int p0), (.int (1 : Int32)), (.ref b1)])) _
    refine XS.iconst X4.here hx rfl (hb hby at_21) ?_
    show Steps p.tables e below (T4.setTop (mkF m 22 #[.val (.int p0), .val (.long q1), .second, .val (.int p2), .val (.int p3), .val (.ref b1), .unset, .unset, .unset] [(.int (1 : Int32)), (.long q1), (.int p0), (.int (1 : Int32)), (.ref b1)])) _
    refine st5 _ ?_
    show Steps p.tables e below (T5.setTop (mkF m 25 #[.val (.int p0), .val (.long q1), .second, .val (.int p2), .val (.int p3), .val (.ref b1), .unset, .unset, .unset] [(.int z5), (.int (1 : Int32)), (.ref b1)])) _
    refine st7 _ ?_
    show Steps p.tables e below (T7.setTop (mkF m 26 #[.val (.int p0), .val (.long q1), .second, .val (.int p2), .val (.int p3), .val (.ref b1), .unset, .unset, .unset] [])) _
    refine XS.aload X7.here hx rfl (hb hby at_26) rfl rfl ?_
    show Steps p.tables e below (T7.setTop (mkF m 28 #[.val (.int p0), .val (.long q1), .second, .val (.int p2), .val (.int p3), .val (.ref b1), .unset, .unset, .unset] [(.ref b1)])) _
    refine XS.iconst X7.here hx rfl (hb hby at_28) ?_
    show Steps p.tables e below (T7.setTop (mkF m 29 #[.val (.int p0), .val (.long q1), .second, .val (.int p2), .val (.int p3), .val (.ref b1), .unset, .unset, .unset] [(.int (2 : Int32)), (.ref b1)])) _
    refine XS.iloadN X7.here hx rfl (hb hby at_29) rfl ?_
    show Steps p.tables e below (T7.setTop (mkF m 30 #[.val (.int p0), .val (.long q1), .second, .val (.int p2), .val (.int p3), .val (.ref b1), .unset, .unset, .unset] [(.int p0), (.int (2 : Int32)), (.ref b1)])) _
    refine XS.lloadN X7.here hx rfl (hb hby at_30) rfl ?_
    show Steps p.tables e below (T7.setTop (mkF m 31 #[.val (.int p0), .val (.long q1), .second, .val (.int p2), .val (.int p3), .val (.ref b1), .unset, .unset, .unset] [(.long q1), (.int p0), (.int (2 : Int32)), (.ref b1)])) _
    refine XS.iconst X7.here hx rfl (hb hby at_31) ?_
    show Steps p.tables e below (T7.setTop (mkF m 32 #[.val (.int p0), .val (.long q1), .second, .val (.int p2), .val (.int p3), .val (.ref b1), .unset, .unset, .unset] [(.int (2 : Int32)), (.long q1), (.int p0), (.int (2 : Int32)), (.ref b1)])) _
    refine st8 _ ?_
    show Steps p.tables e below (T8.setTop (mkF m 35 #[.val (.int p0), .val (.long q1), .second, .val (.int p2), .val (.int p3), .val (.ref b1), .unset, .unset, .unset] [(.int z8), (.int (2 : Int32)), (.ref b1)])) _
    refine st10 _ ?_
    show Steps p.tables e below (T10.setTop (mkF m 36 #[.val (.int p0), .val (.long q1), .second, .val (.int p2), .val (.int p3), .val (.ref b1), .unset, .unset, .unset] [])) _
    refine XS.aload X10.here hx rfl (hb hby at_36) rfl rfl ?_
    show Steps p.tables e below (T10.setTop (mkF m 38 #[.val (.int p0), .val (.long q1), .second, .val (.int p2), .val (.int p3), .val (.ref b1), .unset, .unset, .unset] [(.ref b1)])) _
    refine XS.iconst X10.here hx rfl (hb hby at_38) ?_
    show Steps p.tables e below (T10.setTop (mkF m 39 #[.val (.int p0), .val (.long q1), .second, .val (.int p2), .val (.int p3), .val (.ref b1), .unset, .unset, .unset] [(.int (3 : Int32)), (.ref b1)])) _
    refine XS.iloadN X10.here hx rfl (hb hby at_39) rfl ?_
    show Steps p.tables e below (T10.setTop (mkF m 40 #[.val (.int p0), .val (.long q1), .second, .val (.int p2), .val (.int p3), .val (.ref b1), .unset, .unset, .unset] [(.int p0), (.int (3 : Int32)), (.ref b1)])) _
    refine XS.lloadN X10.here hx rfl (hb hby at_40) rfl ?_
    show Steps p.tables e below (T10.setTop (mkF m 41 #[.val (.int p0), .val (.long q1), .second, .val (.int p2), .val (.int p3), .val (.ref b1), .unset, .unset, .unset] [(.long q1), (.int p0), (.int (3 : Int32)), (.ref b1)])) _
    refine XS.iconst X10.here hx rfl (hb hby at_41) ?_
    show Steps p.tables e below (T10.setTop (mkF m 42 #[.val (.int p0), .val (.long q1), .second, .val (.int p2), .val (.int p3), .val (.ref b1), .unset, .unset, .unset] [(.int (3 : Int32)), (.long q1), (.int p0), (.int (3 : Int32)), (.ref b1)])) _
    refine st11 _ ?_
    show Steps p.tables e below (T11.setTop (mkF m 45 #[.val (.int p0), .val (.long q1), .second, .val (.int p2), .val (.int p3), .val (.ref b1), .unset, .unset, .unset] [(.int z11), (.int (3 : Int32)), (.ref b1)])) _
    refine st13 _ ?_
    show Steps p.tables e below (T13.setTop (mkF m 46 #[.val (.int p0), .val (.long q1), .second, .val (.int p2), .val (.int p3), .val (.ref b1), .unset, .unset, .unset] [])) _
    refine XS.aload X13.here hx rfl (hb hby at_46) rfl rfl ?_
    show Steps p.tables e below (T13.setTop (mkF m 48 #[.val (.int p0), .val (.long q1), .second, .val (.int p2), .val (.int p3), .val (.ref b1), .unset, .unset, .unset] [(.ref b1)])) _
    refine XS.iconst X13.here hx rfl (hb hby at_48) ?_
    show Steps p.tables e below (T13.setTop (mkF m 49 #[.val (.int p0), .val (.long q1), .second, .val (.int p2), .val (.int p3), .val (.ref b1), .unset, .unset, .unset] [(.int (4 : Int32)), (.ref b1)])) _
    refine XS.iloadN X13.here hx rfl (hb hby at_49) rfl ?_
    show Steps p.tables e below (T13.setTop (mkF m 50 #[.val (.int p0), .val (.long q1), .second, .val (.int p2), .val (.int p3), .val (.ref b1), .unset, .unset, .unset] [(.int p0), (.int (4 : Int32)), (.ref b1)])) _
    refine XS.lloadN X13.here hx rfl (hb hby at_50) rfl ?_
    show Steps p.tables e below (T13.setTop (mkF m 51 #[.val (.int p0), .val (.long q1), .second, .val (.int p2), .val (.int p3), .val (.ref b1), .unset, .unset, .unset] [(.long q1), (.int p0), (.int (4 : Int32)), (.ref b1)])) _
    refine XS.iconst X13.here hx rfl (hb hby at_51) ?_
    show Steps p.tables e below (T13.setTop (mkF m 52 #[.val (.int p0), .val (.long q1), .second, .val (.int p2), .val (.int p3), .val (.ref b1), .unset, .unset, .unset] [(.int (4 : Int32)), (.long q1), (.int p0), (.int (4 : Int32)), (.ref b1)])) _
    refine st14 _ ?_
    show Steps p.tables e below (T14.setTop (mkF m 55 #[.val (.int p0), .val (.long q1), .second, .val (.int p2), .val (.int p3), .val (.ref b1), .unset, .unset, .unset] [(.int z14), (.int (4 : Int32)), (.ref b1)])) _
    refine st16 _ ?_
    show Steps p.tables e below (T16.setTop (mkF m 56 #[.val (.int p0), .val (.long q1), .second, .val (.int p2), .val (.int p3), .val (.ref b1), .unset, .unset, .unset] [])) _
    refine XS.aload X16.here hx rfl (hb hby at_56) rfl rfl ?_
    show Steps p.tables e below (T16.setTop (mkF m 58 #[.val (.int p0), .val (.long q1), .second, .val (.int p2), .val (.int p3), .val (.ref b1), .unset, .unset, .unset] [(.ref b1)])) _
    refine XS.iconst X16.here hx rfl (hb hby at_58) ?_
    show Steps p.tables e below (T16.setTop (mkF m 59 #[.val (.int p0), .val (.long q1), .second, .val (.int p2), .val (.int p3), .val (.ref b1), .unset, .unset, .unset] [(.int (5 : Int32)), (.ref b1)])) _
    refine XS.iloadN X16.here hx rfl (hb hby at_59) rfl ?_
    show Steps p.tables e below (T16.setTop (mkF m 60 #[.val (.int p0), .val (.long q1), .second, .val (.int p2), .val (.int p3), .val (.ref b1), .unset, .unset, .unset] [(.int p0), (.int (5 : Int32)), (.ref b1)])) _
    refine XS.lloadN X16.here hx rfl (hb hby at_60) rfl ?_
    show Steps p.tables e below (T16.setTop (mkF m 61 #[.val (.int p0), .val (.long q1), .second, .val (.int p2), .val (.int p3), .val (.ref b1), .unset, .unset, .unset] [(.long q1), (.int p0), (.int (5 : Int32)), (.ref b1)])) _
    refine XS.iconst X16.here hx rfl (hb hby at_61) ?_
    show Steps p.tables e below (T16.setTop (mkF m 62 #[.val (.int p0), .val (.long q1), .second, .val (.int p2), .val (.int p3), .val (.ref b1), .unset, .unset, .unset] [(.int (5 : Int32)), (.long q1), (.int p0), (.int (5 : Int32)), (.ref b1)])) _
    refine st17 _ ?_
    show Steps p.tables e below (T17.setTop (mkF m 65 #[.val (.int p0), .val (.long q1), .second, .val (.int p2), .val (.int p3), .val (.ref b1), .unset, .unset, .unset] [(.int z17), (.int (5 : Int32)), (.ref b1)])) _
    refine st19 _ ?_
    show Steps p.tables e below (T19.setTop (mkF m 66 #[.val (.int p0), .val (.long q1), .second, .val (.int p2), .val (.int p3), .val (.ref b1), .unset, .unset, .unset] [])) _
    refine XS.iloadN X19.here hx rfl (hb hby at_66) rfl ?_
    show Steps p.tables e below (T19.setTop (mkF m 67 #[.val (.int p0), .val (.long q1), .second, .val (.int p2), .val (.int p3), .val (.ref b1), .unset, .unset, .unset] [(.int p2)])) _
    refine X19.ldcInt hx hown (mvT hZ (hw _ (List.mem_of_getElem? (i := 5) rfl))) (g := (mkF m 67 #[.val (.int p0), .val (.long q1), .second, .val (.int p2), .val (.int p3), .val (.ref b1), .unset, .unset, .unset] [(.int p2)])) rfl (hb hby at_67) _ ?_
    show Steps p.tables e below (T19.setTop (mkF m 69 #[.val (.int p0), .val (.long q1), .second, .val (.int p2), .val (.int p3), .val (.ref b1), .unset, .unset, .unset] [(.int (2147483647 : Int32)), (.int p2)])) _
    refine XS.iand X19.here hx rfl (hb hby at_69) rfl ?_
    show Steps p.tables e below (T19.setTop (mkF m 70 #[.val (.int p0), .val (.long q1), .second, .val (.int p2), .val (.int p3), .val (.ref b1), .unset, .unset, .unset] [(.int (p2 &&& (2147483647 : Int32)))])) _
    refine XS.bipush X19.here hx rfl (hb hby at_70) ?_
    show Steps p.tables e below (T19.setTop (mkF m 72 #[.val (.int p0), .val (.long q1), .second, .val (.int p2), .val (.int p3), .val (.ref b1), .unset, .unset, .unset] [(.int (7 : Int32)), (.int (p2 &&& (2147483647 : Int32)))])) _
    refine Jvm.RoadKit.iremM (g := (mkF m 72 #[.val (.int p0), .val (.long q1), .second, .val (.int p2), .val (.int p3), .val (.ref b1), .unset, .unset, .unset] [(.int (7 : Int32)), (.int (p2 &&& (2147483647 : Int32)))])) X19 hx rfl (hb hby at_72) rfl (by decide) ?_
    show Steps p.tables e below (T19.setTop (mkF m 73 #[.val (.int p0), .val (.long q1), .second, .val (.int p2), .val (.int p3), .val (.ref b1), .unset, .unset, .unset] [(.int ((p2 &&& (2147483647 : Int32)) % (7 : Int32)))])) _
    refine XS.istore X19.here hx rfl (hb hby at_73) rfl (l' := #[.val (.int p0), .val (.long q1), .second, .val (.int p2), .val (.int p3), .val (.ref b1), .val (.int (own_at p2)), .unset, .unset]) rfl ?_
    show Steps p.tables e below (T19.setTop (mkF m 75 #[.val (.int p0), .val (.long q1), .second, .val (.int p2), .val (.int p3), .val (.ref b1), .val (.int (own_at p2)), .unset, .unset] [])) _
    refine XS.iload X19.here hx rfl (hb hby at_75) rfl ?_
    show Steps p.tables e below (T19.setTop (mkF m 77 #[.val (.int p0), .val (.long q1), .second, .val (.int p2), .val (.int p3), .val (.ref b1), .val (.int (own_at p2)), .unset, .unset] [(.int (own_at p2))])) _
    refine XS.iload X19.here hx rfl (hb hby at_77) rfl ?_
    show Steps p.tables e below (T19.setTop (mkF m 79 #[.val (.int p0), .val (.long q1), .second, .val (.int p2), .val (.int p3), .val (.ref b1), .val (.int (own_at p2)), .unset, .unset] [(.int p3), (.int (own_at p2))])) _
    refine X19.ldcInt hx hown (mvT hZ (hw _ (List.mem_of_getElem? (i := 5) rfl))) (g := (mkF m 79 #[.val (.int p0), .val (.long q1), .second, .val (.int p2), .val (.int p3), .val (.ref b1), .val (.int (own_at p2)), .unset, .unset] [(.int p3), (.int (own_at p2))])) rfl (hb hby at_79) _ ?_
    show Steps p.tables e below (T19.setTop (mkF m 81 #[.val (.int p0), .val (.long q1), .second, .val (.int p2), .val (.int p3), .val (.ref b1), .val (.int (own_at p2)), .unset, .unset] [(.int (2147483647 : Int32)), (.int p3), (.int (own_at p2))])) _
    refine XS.iand X19.here hx rfl (hb hby at_81) rfl ?_
    show Steps p.tables e below (T19.setTop (mkF m 82 #[.val (.int p0), .val (.long q1), .second, .val (.int p2), .val (.int p3), .val (.ref b1), .val (.int (own_at p2)), .unset, .unset] [(.int (p3 &&& (2147483647 : Int32))), (.int (own_at p2))])) _
    refine XS.bipush X19.here hx rfl (hb hby at_82) ?_
    show Steps p.tables e below (T19.setTop (mkF m 84 #[.val (.int p0), .val (.long q1), .second, .val (.int p2), .val (.int p3), .val (.ref b1), .val (.int (own_at p2)), .unset, .unset] [(.int (7 : Int32)), (.int (p3 &&& (2147483647 : Int32))), (.int (own_at p2))])) _
    refine XS.iload X19.here hx rfl (hb hby at_84) rfl ?_
    show Steps p.tables e below (T19.setTop (mkF m 86 #[.val (.int p0), .val (.long q1), .second, .val (.int p2), .val (.int p3), .val (.ref b1), .val (.int (own_at p2)), .unset, .unset] [(.int (own_at p2)), (.int (7 : Int32)), (.int (p3 &&& (2147483647 : Int32))), (.int (own_at p2))])) _
    refine XS.isub X19.here hx rfl (hb hby at_86) rfl ?_
    show Steps p.tables e below (T19.setTop (mkF m 87 #[.val (.int p0), .val (.long q1), .second, .val (.int p2), .val (.int p3), .val (.ref b1), .val (.int (own_at p2)), .unset, .unset] [(.int ((7 : Int32) - (own_at p2))), (.int (p3 &&& (2147483647 : Int32))), (.int (own_at p2))])) _
    refine Jvm.RoadKit.iremM (g := (mkF m 87 #[.val (.int p0), .val (.long q1), .second, .val (.int p2), .val (.int p3), .val (.ref b1), .val (.int (own_at p2)), .unset, .unset] [(.int ((7 : Int32) - (own_at p2))), (.int (p3 &&& (2147483647 : Int32))), (.int (own_at p2))])) X19 hx rfl (hb hby at_87) rfl (own_nz _) ?_
    show Steps p.tables e below (T19.setTop (mkF m 88 #[.val (.int p0), .val (.long q1), .second, .val (.int p2), .val (.int p3), .val (.ref b1), .val (.int (own_at p2)), .unset, .unset] [(.int ((p3 &&& (2147483647 : Int32)) % ((7 : Int32) - (own_at p2)))), (.int (own_at p2))])) _
    refine XS.iadd X19.here hx rfl (hb hby at_88) rfl ?_
    show Steps p.tables e below (T19.setTop (mkF m 89 #[.val (.int p0), .val (.long q1), .second, .val (.int p2), .val (.int p3), .val (.ref b1), .val (.int (own_at p2)), .unset, .unset] [(.int ((own_at p2) + ((p3 &&& (2147483647 : Int32)) % ((7 : Int32) - (own_at p2)))))])) _
    refine XS.istore X19.here hx rfl (hb hby at_89) rfl (l' := #[.val (.int p0), .val (.long q1), .second, .val (.int p2), .val (.int p3), .val (.ref b1), .val (.int (own_at p2)), .val (.int (own_en p2 p3)), .unset]) rfl ?_
    show Steps p.tables e below (T19.setTop (mkF m 91 #[.val (.int p0), .val (.long q1), .second, .val (.int p2), .val (.int p3), .val (.ref b1), .val (.int (own_at p2)), .val (.int (own_en p2 p3)), .unset] [])) _
    refine XS.aload X19.here hx rfl (hb hby at_91) rfl rfl ?_
    show Steps p.tables e below (T19.setTop (mkF m 93 #[.val (.int p0), .val (.long q1), .second, .val (.int p2), .val (.int p3), .val (.ref b1), .val (.int (own_at p2)), .val (.int (own_en p2 p3)), .unset] [(.ref b1)])) _
    refine XS.iconst X19.here hx rfl (hb hby at_93) ?_
    show Steps p.tables e below (T19.setTop (mkF m 94 #[.val (.int p0), .val (.long q1), .second, .val (.int p2), .val (.int p3), .val (.ref b1), .val (.int (own_at p2)), .val (.int (own_en p2 p3)), .unset] [(.int (0 : Int32)), (.ref b1)])) _
    refine XS.iload X19.here hx rfl (hb hby at_94) rfl ?_
    show Steps p.tables e below (T19.setTop (mkF m 96 #[.val (.int p0), .val (.long q1), .second, .val (.int p2), .val (.int p3), .val (.ref b1), .val (.int (own_at p2)), .val (.int (own_en p2 p3)), .unset] [(.int (own_at p2)), (.int (0 : Int32)), (.ref b1)])) _
    refine XS.iload X19.here hx rfl (hb hby at_96) rfl ?_
    show Steps p.tables e below (T19.setTop (mkF m 98 #[.val (.int p0), .val (.long q1), .second, .val (.int p2), .val (.int p3), .val (.ref b1), .val (.int (own_at p2)), .val (.int (own_en p2 p3)), .unset] [(.int (own_en p2 p3)), (.int (own_at p2)), (.int (0 : Int32)), (.ref b1)])) _
    refine st20 _ ?_
    show Steps p.tables e below (T20.setTop (mkF m 101 #[.val (.int p0), .val (.long q1), .second, .val (.int p2), .val (.int p3), .val (.ref b1), .val (.int (own_at p2)), .val (.int (own_en p2 p3)), .unset] [(.int (own_hit (z2.toInt8.toInt32) (0 : Int32) (own_at p2) (own_en p2 p3)))])) _
    exact kt
  by_cases hs101_23 : (own_hit (z2.toInt8.toInt32) (0 : Int32) (own_at p2) (own_en p2 p3)) = (0 : Int32)
  · obtain ⟨_, _, ⟨T24, L24, k24, n24⟩, -, X24, ⟨Lc24, hQ24, l24, y24, z24⟩, st24⟩ := Jvm.LawKit.callS X20 hx (y := (⟨"com/example/mormorio/mormorio/client/LinesLineFeedPinLaw", "hit", "([BIII)Z"⟩ : MethodName)) hown (mvT hZ (hw _ (List.mem_of_getElem? (i := 6) rfl))) (mvT hZ (hw _ (List.mem_of_getElem? (i := 7) rfl))) (mvT hZ (hw _ (List.mem_of_getElem? (i := 3) rfl))) (mvT hZ (hw _ (List.mem_of_getElem? (i := 8) rfl))) (by decide) (backOf (W := 0) (rm2 l Z a0 hw [] b1 (1 : Int32) (own_at p2) (own_en p2 p3) cl (z5.toInt8.toInt32) h19 n0 Z21z Ar hin1 hat1) hZ (hw _ (List.mem_of_getElem? (i := 8) rfl)) (hw _ (List.mem_of_getElem? (i := 3) rfl)) (by decide) (by decide)) (g := (mkF m 117 #[.val (.int p0), .val (.long q1), .second, .val (.int p2), .val (.int p3), .val (.ref b1), .val (.int (own_at p2)), .val (.int (own_en p2 p3)), .unset] [(.int (own_en p2 p3)), (.int (own_at p2)), (.int (1 : Int32)), (.ref b1)])) rfl (by rw [hml]; rfl) (argsL := [(.ref b1), (.int (1 : Int32)), (.int (own_at p2)), (.int (own_en p2 p3))]) (rest := []) (lenOf pd_1 rfl) rfl (by show 2 * 0 + _ ≤ _; exact Nat.le_of_eq rfl) (hb hby at_117) (fun _ _ => ⟨rfl, eq20, (by decide : 1 + 0 ≤ _), (by decide : 6 + 0 ≤ _)⟩)
    dsimp only [Pt.U, Pt.locs, Pt.cells, Pt.slots] at X24 l24 y24 z24 st24 hQ24
    subst l24 y24 z24
    obtain ⟨rfl, N24q, eq24⟩ := hQ24
    have N24 := Fr.app N20 N24q
    have pre25 : ∀ t, Steps p.tables e below (T24.setTop (mkF m 120 #[.val (.int p0), .val (.long q1), .second, .val (.int p2), .val (.int p3), .val (.ref b1), .val (.int (own_at p2)), .val (.int (own_en p2 p3)), .unset] [(.int (own_hit (z5.toInt8.toInt32) (1 : Int32) (own_at p2) (own_en p2 p3)))])) t → Steps p.tables e below (s₁.setTop (entryFrame m #[(.int p0), (.long q1), (.int p2), (.int p3)] maxLocals)) t := by
      intro t kt
      refine pre22 _ ?_
      show Steps p.tables e below (T20.setTop (mkF m 101 #[.val (.int p0), .val (.long q1), .second, .val (.int p2), .val (.int p3), .val (.ref b1), .val (.int (own_at p2)), .val (.int (own_en p2 p3)), .unset] [(.int (own_hit (z2.toInt8.toInt32) (0 : Int32) (own_at p2) (own_en p2 p3)))])) _
      refine XS.ifYes X20.here hx rfl (pc0 := 101) (pc' := 110) rfl (hb hby at_101) rfl ((if0 _ _).trans (teq hs101_23).1) (by decide) (by decide) ?_
      show Steps p.tables e below (T20.setTop (mkF m 110 #[.val (.int p0), .val (.long q1), .second, .val (.int p2), .val (.int p3), .val (.ref b1), .val (.int (own_at p2)), .val (.int (own_en p2 p3)), .unset] [])) _
      refine XS.aload X20.here hx rfl (hb hby at_110) rfl rfl ?_
      show Steps p.tables e below (T20.setTop (mkF m 112 #[.val (.int p0), .val (.long q1), .second, .val (.int p2), .val (.int p3), .val (.ref b1), .val (.int (own_at p2)), .val (.int (own_en p2 p3)), .unset] [(.ref b1)])) _
      refine XS.iconst X20.here hx rfl (hb hby at_112) ?_
      show Steps p.tables e below (T20.setTop (mkF m 113 #[.val (.int p0), .val (.long q1), .second, .val (.int p2), .val (.int p3), .val (.ref b1), .val (.int (own_at p2)), .val (.int (own_en p2 p3)), .unset] [(.int (1 : Int32)), (.ref b1)])) _
      refine XS.iload X20.here hx rfl (hb hby at_113) rfl ?_
      show Steps p.tables e below (T20.setTop (mkF m 115 #[.val (.int p0), .val (.long q1), .second, .val (.int p2), .val (.int p3), .val (.ref b1), .val (.int (own_at p2)), .val (.int (own_en p2 p3)), .unset] [(.int (own_at p2)), (.int (1 : Int32)), (.ref b1)])) _
      refine XS.iload X20.here hx rfl (hb hby at_115) rfl ?_
      show Steps p.tables e below (T20.setTop (mkF m 117 #[.val (.int p0), .val (.long q1), .second, .val (.int p2), .val (.int p3), .val (.ref b1), .val (.int (own_at p2)), .val (.int (own_en p2 p3)), .unset] [(.int (own_en p2 p3)), (.int (own_at p2)), (.int (1 : Int32)), (.ref b1)])) _
      refine st24 _ ?_
      show Steps p.tables e below (T24.setTop (mkF m 120 #[.val (.int p0), .val (.long q1), .second, .val (.int p2), .val (.int p3), .val (.ref b1), .val (.int (own_at p2)), .val (.int (own_en p2 p3)), .unset] [(.int (own_hit (z5.toInt8.toInt32) (1 : Int32) (own_at p2) (own_en p2 p3)))])) _
      exact kt
    by_cases hs120_26 : (own_hit (z5.toInt8.toInt32) (1 : Int32) (own_at p2) (own_en p2 p3)) = (0 : Int32)
    · obtain ⟨_, _, ⟨T27, L27, k27, n27⟩, -, X27, ⟨Lc27, hQ27, l27, y27, z27⟩, st27⟩ := Jvm.LawKit.callS X24 hx (y := (⟨"com/example/mormorio/mormorio/client/LinesLineFeedPinLaw", "hit", "([BIII)Z"⟩ : MethodName)) hown (mvT hZ (hw _ (List.mem_of_getElem? (i := 6) rfl))) (mvT hZ (hw _ (List.mem_of_getElem? (i := 7) rfl))) (mvT hZ (hw _ (List.mem_of_getElem? (i := 3) rfl))) (mvT hZ (hw _ (List.mem_of_getElem? (i := 8) rfl))) (by decide) (backOf (W := 0) (rm2 l Z a0 hw [] b1 (2 : Int32) (own_at p2) (own_en p2 p3) cl (z8.toInt8.toInt32) h19 n0 Z21z Ar hin2 hat2) hZ (hw _ (List.mem_of_getElem? (i := 8) rfl)) (hw _ (List.mem_of_getElem? (i := 3) rfl)) (by decide) (by decide)) (g := (mkF m 136 #[.val (.int p0), .val (.long q1), .second, .val (.int p2), .val (.int p3), .val (.ref b1), .val (.int (own_at p2)), .val (.int (own_en p2 p3)), .unset] [(.int (own_en p2 p3)), (.int (own_at p2)), (.int (2 : Int32)), (.ref b1)])) rfl (by rw [hml]; rfl) (argsL := [(.ref b1), (.int (2 : Int32)), (.int (own_at p2)), (.int (own_en p2 p3))]) (rest := []) (lenOf pd_1 rfl) rfl (by show 2 * 0 + _ ≤ _; exact Nat.le_of_eq rfl) (hb hby at_136) (fun _ _ => ⟨rfl, eq24, (by decide : 1 + 0 ≤ _), (by decide : 6 + 0 ≤ _)⟩)
      dsimp only [Pt.U, Pt.locs, Pt.cells, Pt.slots] at X27 l27 y27 z27 st27 hQ27
      subst l27 y27 z27
      obtain ⟨rfl, N27q, eq27⟩ := hQ27
      have N27 := Fr.app N24 N27q
      have pre28 : ∀ t, Steps p.tables e below (T27.setTop (mkF m 139 #[.val (.int p0), .val (.long q1), .second, .val (.int p2), .val (.int p3), .val (.ref b1), .val (.int (own_at p2)), .val (.int (own_en p2 p3)), .unset] [(.int (own_hit (z8.toInt8.toInt32) (2 : Int32) (own_at p2) (own_en p2 p3)))])) t → Steps p.tables e below (s₁.setTop (entryFrame m #[(.int p0), (.long q1), (.int p2), (.int p3)] maxLocals)) t := by
        intro t kt
        refine pre25 _ ?_
        show Steps p.tables e below (T24.setTop (mkF m 120 #[.val (.int p0), .val (.long q1), .second, .val (.int p2), .val (.int p3), .val (.ref b1), .val (.int (own_at p2)), .val (.int (own_en p2 p3)), .unset] [(.int (own_hit (z5.toInt8.toInt32) (1 : Int32) (own_at p2) (own_en p2 p3)))])) _
        refine XS.ifYes X24.here hx rfl (pc0 := 120) (pc' := 129) rfl (hb hby at_120) rfl ((if0 _ _).trans (teq hs120_26).1) (by decide) (by decide) ?_
        show Steps p.tables e below (T24.setTop (mkF m 129 #[.val (.int p0), .val (.long q1), .second, .val (.int p2), .val (.int p3), .val (.ref b1), .val (.int (own_at p2)), .val (.int (own_en p2 p3)), .unset] [])) _
        refine XS.aload X24.here hx rfl (hb hby at_129) rfl rfl ?_
        show Steps p.tables e below (T24.setTop (mkF m 131 #[.val (.int p0), .val (.long q1), .second, .val (.int p2), .val (.int p3), .val (.ref b1), .val (.int (own_at p2)), .val (.int (own_en p2 p3)), .unset] [(.ref b1)])) _
        refine XS.iconst X24.here hx rfl (hb hby at_131) ?_
        show Steps p.tables e below (T24.setTop (mkF m 132 #[.val (.int p0), .val (.long q1), .second, .val (.int p2), .val (.int p3), .val (.ref b1), .val (.int (own_at p2)), .val (.int (own_en p2 p3)), .unset] [(.int (2 : Int32)), (.ref b1)])) _
        refine XS.iload X24.here hx rfl (hb hby at_132) rfl ?_
        show Steps p.tables e below (T24.setTop (mkF m 134 #[.val (.int p0), .val (.long q1), .second, .val (.int p2), .val (.int p3), .val (.ref b1), .val (.int (own_at p2)), .val (.int (own_en p2 p3)), .unset] [(.int (own_at p2)), (.int (2 : Int32)), (.ref b1)])) _
        refine XS.iload X24.here hx rfl (hb hby at_134) rfl ?_
        show Steps p.tables e below (T24.setTop (mkF m 136 #[.val (.int p0), .val (.long q1), .second, .val (.int p2), .val (.int p3), .val (.ref b1), .val (.int (own_at p2)), .val (.int (own_en p2 p3)), .unset] [(.int (own_en p2 p3)), (.int (own_at p2)), (.int (2 : Int32)), (.ref b1)])) _
        refine st27 _ ?_
        show Steps p.tables e below (T27.setTop (mkF m 139 #[.val (.int p0), .val (.long q1), .second, .val (.int p2), .val (.int p3), .val (.ref b1), .val (.int (own_at p2)), .val (.int (own_en p2 p3)), .unset] [(.int (own_hit (z8.toInt8.toInt32) (2 : Int32) (own_at p2) (own_en p2 p3)))])) _
        exact kt
      by_cases hs139_29 : (own_hit (z8.toInt8.toInt32) (2 : Int32) (own_at p2) (own_en p2 p3)) = (0 : Int32)
      · obtain ⟨_, _, ⟨T30, L30, k30, n30⟩, -, X30, ⟨Lc30, hQ30, l30, y30, z30⟩, st30⟩ := Jvm.LawKit.callS X27 hx (y := (⟨"com/example/mormorio/mormorio/client/LinesLineFeedPinLaw", "hit", "([BIII)Z"⟩ : MethodName)) hown (mvT hZ (hw _ (List.mem_of_getElem? (i := 6) rfl))) (mvT hZ (hw _ (List.mem_of_getElem? (i := 7) rfl))) (mvT hZ (hw _ (List.mem_of_getElem? (i := 3) rfl))) (mvT hZ (hw _ (List.mem_of_getElem? (i := 8) rfl))) (by decide) (backOf (W := 0) (rm2 l Z a0 hw [] b1 (3 : Int32) (own_at p2) (own_en p2 p3) cl (z11.toInt8.toInt32) h19 n0 Z21z Ar hin3 hat3) hZ (hw _ (List.mem_of_getElem? (i := 8) rfl)) (hw _ (List.mem_of_getElem? (i := 3) rfl)) (by decide) (by decide)) (g := (mkF m 155 #[.val (.int p0), .val (.long q1), .second, .val (.int p2), .val (.int p3), .val (.ref b1), .val (.int (own_at p2)), .val (.int (own_en p2 p3)), .unset] [(.int (own_en p2 p3)), (.int (own_at p2)), (.int (3 : Int32)), (.ref b1)])) rfl (by rw [hml]; rfl) (argsL := [(.ref b1), (.int (3 : Int32)), (.int (own_at p2)), (.int (own_en p2 p3))]) (rest := []) (lenOf pd_1 rfl) rfl (by show 2 * 0 + _ ≤ _; exact Nat.le_of_eq rfl) (hb hby at_155) (fun _ _ => ⟨rfl, eq27, (by decide : 1 + 0 ≤ _), (by decide : 6 + 0 ≤ _)⟩)
        dsimp only [Pt.U, Pt.locs, Pt.cells, Pt.slots] at X30 l30 y30 z30 st30 hQ30
        subst l30 y30 z30
        obtain ⟨rfl, N30q, eq30⟩ := hQ30
        have N30 := Fr.app N27 N30q
        have pre31 : ∀ t, Steps p.tables e below (T30.setTop (mkF m 158 #[.val (.int p0), .val (.long q1), .second, .val (.int p2), .val (.int p3), .val (.ref b1), .val (.int (own_at p2)), .val (.int (own_en p2 p3)), .unset] [(.int (own_hit (z11.toInt8.toInt32) (3 : Int32) (own_at p2) (own_en p2 p3)))])) t → Steps p.tables e below (s₁.setTop (entryFrame m #[(.int p0), (.long q1), (.int p2), (.int p3)] maxLocals)) t := by
          intro t kt
          refine pre28 _ ?_
          show Steps p.tables e below (T27.setTop (mkF m 139 #[.val (.int p0), .val (.long q1), .second, .val (.int p2), .val (.int p3), .val (.ref b1), .val (.int (own_at p2)), .val (.int (own_en p2 p3)), .unset] [(.int (own_hit (z8.toInt8.toInt32) (2 : Int32) (own_at p2) (own_en p2 p3)))])) _
          refine XS.ifYes X27.here hx rfl (pc0 := 139) (pc' := 148) rfl (hb hby at_139) rfl ((if0 _ _).trans (teq hs139_29).1) (by decide) (by decide) ?_
          show Steps p.tables e below (T27.setTop (mkF m 148 #[.val (.int p0), .val (.long q1), .second, .val (.int p2), .val (.int p3), .val (.ref b1), .val (.int (own_at p2)), .val (.int (own_en p2 p3)), .unset] [])) _
          refine XS.aload X27.here hx rfl (hb hby at_148) rfl rfl ?_
          show Steps p.tables e below (T27.setTop (mkF m 150 #[.val (.int p0), .val (.long q1), .second, .val (.int p2), .val (.int p3), .val (.ref b1), .val (.int (own_at p2)), .val (.int (own_en p2 p3)), .unset] [(.ref b1)])) _
          refine XS.iconst X27.here hx rfl (hb hby at_150) ?_
          show Steps p.tables e below (T27.setTop (mkF m 151 #[.val (.int p0), .val (.long q1), .second, .val (.int p2), .val (.int p3), .val (.ref b1), .val (.int (own_at p2)), .val (.int (own_en p2 p3)), .unset] [(.int (3 : Int32)), (.ref b1)])) _
          refine XS.iload X27.here hx rfl (hb hby at_151) rfl ?_
          show Steps p.tables e below (T27.setTop (mkF m 153 #[.val (.int p0), .val (.long q1), .second, .val (.int p2), .val (.int p3), .val (.ref b1), .val (.int (own_at p2)), .val (.int (own_en p2 p3)), .unset] [(.int (own_at p2)), (.int (3 : Int32)), (.ref b1)])) _
          refine XS.iload X27.here hx rfl (hb hby at_153) rfl ?_
          show Steps p.tables e below (T27.setTop (mkF m 155 #[.val (.int p0), .val (.long q1), .second, .val (.int p2), .val (.int p3), .val (.ref b1), .val (.int (own_at p2)), .val (.int (own_en p2 p3)), .unset] [(.int (own_en p2 p3)), (.int (own_at p2)), (.int (3 : Int32)), (.ref b1)])) _
          refine st30 _ ?_
          show Steps p.tables e below (T30.setTop (mkF m 158 #[.val (.int p0), .val (.long q1), .second, .val (.int p2), .val (.int p3), .val (.ref b1), .val (.int (own_at p2)), .val (.int (own_en p2 p3)), .unset] [(.int (own_hit (z11.toInt8.toInt32) (3 : Int32) (own_at p2) (own_en p2 p3)))])) _
          exact kt
        by_cases hs158_32 : (own_hit (z11.toInt8.toInt32) (3 : Int32) (own_at p2) (own_en p2 p3)) = (0 : Int32)
        · obtain ⟨_, _, ⟨T33, L33, k33, n33⟩, -, X33, ⟨Lc33, hQ33, l33, y33, z33⟩, st33⟩ := Jvm.LawKit.callS X30 hx (y := (⟨"com/example/mormorio/mormorio/client/LinesLineFeedPinLaw", "hit", "([BIII)Z"⟩ : MethodName)) hown (mvT hZ (hw _ (List.mem_of_getElem? (i := 6) rfl))) (mvT hZ (hw _ (List.mem_of_getElem? (i := 7) rfl))) (mvT hZ (hw _ (List.mem_of_getElem? (i := 3) rfl))) (mvT hZ (hw _ (List.mem_of_getElem? (i := 8) rfl))) (by decide) (backOf (W := 0) (rm2 l Z a0 hw [] b1 (4 : Int32) (own_at p2) (own_en p2 p3) cl (z14.toInt8.toInt32) h19 n0 Z21z Ar hin4 hat4) hZ (hw _ (List.mem_of_getElem? (i := 8) rfl)) (hw _ (List.mem_of_getElem? (i := 3) rfl)) (by decide) (by decide)) (g := (mkF m 174 #[.val (.int p0), .val (.long q1), .second, .val (.int p2), .val (.int p3), .val (.ref b1), .val (.int (own_at p2)), .val (.int (own_en p2 p3)), .unset] [(.int (own_en p2 p3)), (.int (own_at p2)), (.int (4 : Int32)), (.ref b1)])) rfl (by rw [hml]; rfl) (argsL := [(.ref b1), (.int (4 : Int32)), (.int (own_at p2)), (.int (own_en p2 p3))]) (rest := []) (lenOf pd_1 rfl) rfl (by show 2 * 0 + _ ≤ _; exact Nat.le_of_eq rfl) (hb hby at_174) (fun _ _ => ⟨rfl, eq30, (by decide : 1 + 0 ≤ _), (by decide : 6 + 0 ≤ _)⟩)
          dsimp only [Pt.U, Pt.locs, Pt.cells, Pt.slots] at X33 l33 y33 z33 st33 hQ33
          subst l33 y33 z33
          obtain ⟨rfl, N33q, eq33⟩ := hQ33
          have N33 := Fr.app N30 N33q
          have pre34 : ∀ t, Steps p.tables e below (T33.setTop (mkF m 177 #[.val (.int p0), .val (.long q1), .second, .val (.int p2), .val (.int p3), .val (.ref b1), .val (.int (own_at p2)), .val (.int (own_en p2 p3)), .unset] [(.int (own_hit (z14.toInt8.toInt32) (4 : Int32) (own_at p2) (own_en p2 p3)))])) t → Steps p.tables e below (s₁.setTop (entryFrame m #[(.int p0), (.long q1), (.int p2), (.int p3)] maxLocals)) t := by
            intro t kt
            refine pre31 _ ?_
            show Steps p.tables e below (T30.setTop (mkF m 158 #[.val (.int p0), .val (.long q1), .second, .val (.int p2), .val (.int p3), .val (.ref b1), .val (.int (own_at p2)), .val (.int (own_en p2 p3)), .unset] [(.int (own_hit (z11.toInt8.toInt32) (3 : Int32) (own_at p2) (own_en p2 p3)))])) _
            refine XS.ifYes X30.here hx rfl (pc0 := 158) (pc' := 167) rfl (hb hby at_158) rfl ((if0 _ _).trans (teq hs158_32).1) (by decide) (by decide) ?_
            show Steps p.tables e below (T30.setTop (mkF m 167 #[.val (.int p0), .val (.long q1), .second, .val (.int p2), .val (.int p3), .val (.ref b1), .val (.int (own_at p2)), .val (.int (own_en p2 p3)), .unset] [])) _
            refine XS.aload X30.here hx rfl (hb hby at_167) rfl rfl ?_
            show Steps p.tables e below (T30.setTop (mkF m 169 #[.val (.int p0), .val (.long q1), .second, .val (.int p2), .val (.int p3), .val (.ref b1), .val (.int (own_at p2)), .val (.int (own_en p2 p3)), .unset] [(.ref b1)])) _
            refine XS.iconst X30.here hx rfl (hb hby at_169) ?_
            show Steps p.tables e below (T30.setTop (mkF m 170 #[.val (.int p0), .val (.long q1), .second, .val (.int p2), .val (.int p3), .val (.ref b1), .val (.int (own_at p2)), .val (.int (own_en p2 p3)), .unset] [(.int (4 : Int32)), (.ref b1)])) _
            refine XS.iload X30.here hx rfl (hb hby at_170) rfl ?_
            show Steps p.tables e below (T30.setTop (mkF m 172 #[.val (.int p0), .val (.long q1), .second, .val (.int p2), .val (.int p3), .val (.ref b1), .val (.int (own_at p2)), .val (.int (own_en p2 p3)), .unset] [(.int (own_at p2)), (.int (4 : Int32)), (.ref b1)])) _
            refine XS.iload X30.here hx rfl (hb hby at_172) rfl ?_
            show Steps p.tables e below (T30.setTop (mkF m 174 #[.val (.int p0), .val (.long q1), .second, .val (.int p2), .val (.int p3), .val (.ref b1), .val (.int (own_at p2)), .val (.int (own_en p2 p3)), .unset] [(.int (own_en p2 p3)), (.int (own_at p2)), (.int (4 : Int32)), (.ref b1)])) _
            refine st33 _ ?_
            show Steps p.tables e below (T33.setTop (mkF m 177 #[.val (.int p0), .val (.long q1), .second, .val (.int p2), .val (.int p3), .val (.ref b1), .val (.int (own_at p2)), .val (.int (own_en p2 p3)), .unset] [(.int (own_hit (z14.toInt8.toInt32) (4 : Int32) (own_at p2) (own_en p2 p3)))])) _
            exact kt
          by_cases hs177_35 : (own_hit (z14.toInt8.toInt32) (4 : Int32) (own_at p2) (own_en p2 p3)) = (0 : Int32)
          · obtain ⟨_, _, ⟨T36, L36, k36, n36⟩, -, X36, ⟨Lc36, hQ36, l36, y36, z36⟩, st36⟩ := Jvm.LawKit.callS X33 hx (y := (⟨"com/example/mormorio/mormorio/client/LinesLineFeedPinLaw", "hit", "([BIII)Z"⟩ : MethodName)) hown (mvT hZ (hw _ (List.mem_of_getElem? (i := 6) rfl))) (mvT hZ (hw _ (List.mem_of_getElem? (i := 7) rfl))) (mvT hZ (hw _ (List.mem_of_getElem? (i := 3) rfl))) (mvT hZ (hw _ (List.mem_of_getElem? (i := 8) rfl))) (by decide) (backOf (W := 0) (rm2 l Z a0 hw [] b1 (5 : Int32) (own_at p2) (own_en p2 p3) cl (z17.toInt8.toInt32) h19 n0 Z21z Ar hin5 hat5) hZ (hw _ (List.mem_of_getElem? (i := 8) rfl)) (hw _ (List.mem_of_getElem? (i := 3) rfl)) (by decide) (by decide)) (g := (mkF m 193 #[.val (.int p0), .val (.long q1), .second, .val (.int p2), .val (.int p3), .val (.ref b1), .val (.int (own_at p2)), .val (.int (own_en p2 p3)), .unset] [(.int (own_en p2 p3)), (.int (own_at p2)), (.int (5 : Int32)), (.ref b1)])) rfl (by rw [hml]; rfl) (argsL := [(.ref b1), (.int (5 : Int32)), (.int (own_at p2)), (.int (own_en p2 p3))]) (rest := []) (lenOf pd_1 rfl) rfl (by show 2 * 0 + _ ≤ _; exact Nat.le_of_eq rfl) (hb hby at_193) (fun _ _ => ⟨rfl, eq33, (by decide : 1 + 0 ≤ _), (by decide : 6 + 0 ≤ _)⟩)
            dsimp only [Pt.U, Pt.locs, Pt.cells, Pt.slots] at X36 l36 y36 z36 st36 hQ36
            subst l36 y36 z36
            obtain ⟨rfl, N36q, eq36⟩ := hQ36
            have N36 := Fr.app N33 N36q
            have pre37 : ∀ t, Steps p.tables e below (T36.setTop (mkF m 196 #[.val (.int p0), .val (.long q1), .second, .val (.int p2), .val (.int p3), .val (.ref b1), .val (.int (own_at p2)), .val (.int (own_en p2 p3)), .unset] [(.int (own_hit (z17.toInt8.toInt32) (5 : Int32) (own_at p2) (own_en p2 p3)))])) t → Steps p.tables e below (s₁.setTop (entryFrame m #[(.int p0), (.long q1), (.int p2), (.int p3)] maxLocals)) t := by
              intro t kt
              refine pre34 _ ?_
              show Steps p.tables e below (T33.setTop (mkF m 177 #[.val (.int p0), .val (.long q1), .second, .val (.int p2), .val (.int p3), .val (.ref b1), .val (.int (own_at p2)), .val (.int (own_en p2 p3)), .unset] [(.int (own_hit (z14.toInt8.toInt32) (4 : Int32) (own_at p2) (own_en p2 p3)))])) _
              refine XS.ifYes X33.here hx rfl (pc0 := 177) (pc' := 186) rfl (hb hby at_177) rfl ((if0 _ _).trans (teq hs177_35).1) (by decide) (by decide) ?_
              show Steps p.tables e below (T33.setTop (mkF m 186 #[.val (.int p0), .val (.long q1), .second, .val (.int p2), .val (.int p3), .val (.ref b1), .val (.int (own_at p2)), .val (.int (own_en p2 p3)), .unset] [])) _
              refine XS.aload X33.here hx rfl (hb hby at_186) rfl rfl ?_
              show Steps p.tables e below (T33.setTop (mkF m 188 #[.val (.int p0), .val (.long q1), .second, .val (.int p2), .val (.int p3), .val (.ref b1), .val (.int (own_at p2)), .val (.int (own_en p2 p3)), .unset] [(.ref b1)])) _
              refine XS.iconst X33.here hx rfl (hb hby at_188) ?_
              show Steps p.tables e below (T33.setTop (mkF m 189 #[.val (.int p0), .val (.long q1), .second, .val (.int p2), .val (.int p3), .val (.ref b1), .val (.int (own_at p2)), .val (.int (own_en p2 p3)), .unset] [(.int (5 : Int32)), (.ref b1)])) _
              refine XS.iload X33.here hx rfl (hb hby at_189) rfl ?_
              show Steps p.tables e below (T33.setTop (mkF m 191 #[.val (.int p0), .val (.long q1), .second, .val (.int p2), .val (.int p3), .val (.ref b1), .val (.int (own_at p2)), .val (.int (own_en p2 p3)), .unset] [(.int (own_at p2)), (.int (5 : Int32)), (.ref b1)])) _
              refine XS.iload X33.here hx rfl (hb hby at_191) rfl ?_
              show Steps p.tables e below (T33.setTop (mkF m 193 #[.val (.int p0), .val (.long q1), .second, .val (.int p2), .val (.int p3), .val (.ref b1), .val (.int (own_at p2)), .val (.int (own_en p2 p3)), .unset] [(.int (own_en p2 p3)), (.int (own_at p2)), (.int (5 : Int32)), (.ref b1)])) _
              refine st36 _ ?_
              show Steps p.tables e below (T36.setTop (mkF m 196 #[.val (.int p0), .val (.long q1), .second, .val (.int p2), .val (.int p3), .val (.ref b1), .val (.int (own_at p2)), .val (.int (own_en p2 p3)), .unset] [(.int (own_hit (z17.toInt8.toInt32) (5 : Int32) (own_at p2) (own_en p2 p3)))])) _
              exact kt
            by_cases hs196_38 : (own_hit (z17.toInt8.toInt32) (5 : Int32) (own_at p2) (own_en p2 p3)) = (0 : Int32)
            · obtain ⟨_, _, ⟨T39, L39, k39, n39⟩, -, X39, ⟨Lc39, hQ39, l39, y39, z39⟩, st39⟩ := Jvm.LawKit.callS X36 hx (y := (⟨"com/example/mormorio/mormorio/client/Lines", "lineFeed", "([BII)I"⟩ : MethodName)) hown (mvT hZ (hw _ (List.mem_of_getElem? (i := 9) rfl))) (mvT hZ (hw _ (List.mem_of_getElem? (i := 10) rfl))) (mvT hZ (hw _ (List.mem_of_getElem? (i := 11) rfl))) (mvT hZ (hw _ (List.mem_of_getElem? (i := 12) rfl))) (by decide) (backOf (W := 0) (rm3 l Z a0 hw [] b1 (own_at p2) (own_en p2 p3) cl (own_arr (z2.toInt8.toInt32) (z5.toInt8.toInt32) (z8.toInt8.toInt32) (z11.toInt8.toInt32) (z14.toInt8.toInt32) (z17.toInt8.toInt32)) a e1 h19 n0 Z21z Ar S6 hf ha he hae he6) hZ (hw _ (List.mem_of_getElem? (i := 12) rfl)) (hw _ (List.mem_of_getElem? (i := 11) rfl)) (by decide) (by decide)) (g := (mkF m 215 #[.val (.int p0), .val (.long q1), .second, .val (.int p2), .val (.int p3), .val (.ref b1), .val (.int (own_at p2)), .val (.int (own_en p2 p3)), .val (.int (own_en p2 p3))] [(.int (own_en p2 p3)), (.int (own_at p2)), (.ref b1)])) rfl (by rw [hml]; rfl) (argsL := [(.ref b1), (.int (own_at p2)), (.int (own_en p2 p3))]) (rest := []) (lenOf pd_2 rfl) rfl (by show 2 * 0 + _ ≤ _; exact Nat.le_of_eq rfl) (hb hby at_215) (fun _ _ => ⟨rfl, eq36, (by decide : 1 + 0 ≤ _), (by decide : 6 + 0 ≤ _)⟩)
              dsimp only [Pt.U, Pt.locs, Pt.cells, Pt.slots] at X39 l39 y39 z39 st39 hQ39
              subst l39 y39 z39
              obtain ⟨rfl, N39q, eq39⟩ := hQ39
              have N39 := Fr.app N36 N39q
              obtain ⟨fs, hr, hrun, hended, hW, hsame⟩ := X39.leave (v := some (.int (1 : Int32))) (fun h => by rw [Bd.returns] at h; cases h)
              refine ⟨_, _, pre37 _ ?_, hrun, hended, _, _, rfl, ?_, ⟨_, rfl⟩, hW, hsame.mono (by decide) (by decide)⟩
              · show Steps p.tables e below (T36.setTop (mkF m 196 #[.val (.int p0), .val (.long q1), .second, .val (.int p2), .val (.int p3), .val (.ref b1), .val (.int (own_at p2)), .val (.int (own_en p2 p3)), .unset] [(.int (own_hit (z17.toInt8.toInt32) (5 : Int32) (own_at p2) (own_en p2 p3)))])) _
                refine XS.ifYes X36.here hx rfl (pc0 := 196) (pc' := 205) rfl (hb hby at_196) rfl ((if0 _ _).trans (teq hs196_38).1) (by decide) (by decide) ?_
                show Steps p.tables e below (T36.setTop (mkF m 205 #[.val (.int p0), .val (.long q1), .second, .val (.int p2), .val (.int p3), .val (.ref b1), .val (.int (own_at p2)), .val (.int (own_en p2 p3)), .unset] [])) _
                refine XS.iload X36.here hx rfl (hb hby at_205) rfl ?_
                show Steps p.tables e below (T36.setTop (mkF m 207 #[.val (.int p0), .val (.long q1), .second, .val (.int p2), .val (.int p3), .val (.ref b1), .val (.int (own_at p2)), .val (.int (own_en p2 p3)), .unset] [(.int (own_en p2 p3))])) _
                refine XS.istore X36.here hx rfl (hb hby at_207) rfl (l' := #[.val (.int p0), .val (.long q1), .second, .val (.int p2), .val (.int p3), .val (.ref b1), .val (.int (own_at p2)), .val (.int (own_en p2 p3)), .val (.int (own_en p2 p3))]) rfl ?_
                show Steps p.tables e below (T36.setTop (mkF m 209 #[.val (.int p0), .val (.long q1), .second, .val (.int p2), .val (.int p3), .val (.ref b1), .val (.int (own_at p2)), .val (.int (own_en p2 p3)), .val (.int (own_en p2 p3))] [])) _
                refine XS.aload X36.here hx rfl (hb hby at_209) rfl rfl ?_
                show Steps p.tables e below (T36.setTop (mkF m 211 #[.val (.int p0), .val (.long q1), .second, .val (.int p2), .val (.int p3), .val (.ref b1), .val (.int (own_at p2)), .val (.int (own_en p2 p3)), .val (.int (own_en p2 p3))] [(.ref b1)])) _
                refine XS.iload X36.here hx rfl (hb hby at_211) rfl ?_
                show Steps p.tables e below (T36.setTop (mkF m 213 #[.val (.int p0), .val (.long q1), .second, .val (.int p2), .val (.int p3), .val (.ref b1), .val (.int (own_at p2)), .val (.int (own_en p2 p3)), .val (.int (own_en p2 p3))] [(.int (own_at p2)), (.ref b1)])) _
                refine XS.iload X36.here hx rfl (hb hby at_213) rfl ?_
                show Steps p.tables e below (T36.setTop (mkF m 215 #[.val (.int p0), .val (.long q1), .second, .val (.int p2), .val (.int p3), .val (.ref b1), .val (.int (own_at p2)), .val (.int (own_en p2 p3)), .val (.int (own_en p2 p3))] [(.int (own_en p2 p3)), (.int (own_at p2)), (.ref b1)])) _
                refine st39 _ ?_
                show Steps p.tables e below (T39.setTop (mkF m 218 #[.val (.int p0), .val (.long q1), .second, .val (.int p2), .val (.int p3), .val (.ref b1), .val (.int (own_at p2)), .val (.int (own_en p2 p3)), .val (.int (own_en p2 p3))] [(.int (Int32.ofNat (own_scan (own_arr (z2.toInt8.toInt32) (z5.toInt8.toInt32) (z8.toInt8.toInt32) (z11.toInt8.toInt32) (z14.toInt8.toInt32) (z17.toInt8.toInt32)) a (e1 - a))))])) _
                refine XS.iload X39.here hx rfl (hb hby at_218) rfl ?_
                show Steps p.tables e below (T39.setTop (mkF m 220 #[.val (.int p0), .val (.long q1), .second, .val (.int p2), .val (.int p3), .val (.ref b1), .val (.int (own_at p2)), .val (.int (own_en p2 p3)), .val (.int (own_en p2 p3))] [(.int (own_en p2 p3)), (.int (Int32.ofNat (own_scan (own_arr (z2.toInt8.toInt32) (z5.toInt8.toInt32) (z8.toInt8.toInt32) (z11.toInt8.toInt32) (z14.toInt8.toInt32) (z17.toInt8.toInt32)) a (e1 - a))))])) _
                refine XS.icmpNo X39.here hx rfl (hb hby at_220) rfl (teq ((own_last (own_arr (z2.toInt8.toInt32) (z5.toInt8.toInt32) (z8.toInt8.toInt32) (z11.toInt8.toInt32) (z14.toInt8.toInt32) (z17.toInt8.toInt32)) a e1 hae he6 (fun j hj => by have hj' : j = 0 ∨ j = 1 ∨ j = 2 ∨ j = 3 ∨ j = 4 ∨ j = 5 := (by omega); rw [← ha, ← he]; rcases hj' with rfl | rfl | rfl | rfl | rfl | rfl <;> first | exact hs101_23 | exact hs120_26 | exact hs139_29 | exact hs158_32 | exact hs177_35 | exact hs196_38)).trans he.symm)).2 ?_
                show Steps p.tables e below (T39.setTop (mkF m 223 #[.val (.int p0), .val (.long q1), .second, .val (.int p2), .val (.int p3), .val (.ref b1), .val (.int (own_at p2)), .val (.int (own_en p2 p3)), .val (.int (own_en p2 p3))] [])) _
                refine XS.iconst X39.here hx rfl (hb hby at_223) ?_
                show Steps p.tables e below (T39.setTop (mkF m 224 #[.val (.int p0), .val (.long q1), .second, .val (.int p2), .val (.int p3), .val (.ref b1), .val (.int (own_at p2)), .val (.int (own_en p2 p3)), .val (.int (own_en p2 p3))] [(.int (1 : Int32))])) _
                refine XS.goto X39.here hx rfl (pc0 := 224) (pc' := 228) rfl (hb hby at_224) (by decide) (by decide) ?_
                show Steps p.tables e below (T39.setTop (mkF m 228 #[.val (.int p0), .val (.long q1), .second, .val (.int p2), .val (.int p3), .val (.ref b1), .val (.int (own_at p2)), .val (.int (own_en p2 p3)), .val (.int (own_en p2 p3))] [(.int (1 : Int32))])) _
                exact retN X39 hx (t := .boolean) Bd.returns (by simp) (hb hby at_228) hr
              · show Q0 Z p0 h0 n0 _ T39.heap _
                rw [eq39]
                exact ⟨rfl, N39⟩
            · obtain ⟨_, _, ⟨T39, L39, k39, n39⟩, -, X39, ⟨Lc39, hQ39, l39, y39, z39⟩, st39⟩ := Jvm.LawKit.callS X36 hx (y := (⟨"com/example/mormorio/mormorio/client/Lines", "lineFeed", "([BII)I"⟩ : MethodName)) hown (mvT hZ (hw _ (List.mem_of_getElem? (i := 9) rfl))) (mvT hZ (hw _ (List.mem_of_getElem? (i := 10) rfl))) (mvT hZ (hw _ (List.mem_of_getElem? (i := 11) rfl))) (mvT hZ (hw _ (List.mem_of_getElem? (i := 12) rfl))) (by decide) (backOf (W := 0) (rm3 l Z a0 hw [] b1 (own_at p2) (own_en p2 p3) cl (own_arr (z2.toInt8.toInt32) (z5.toInt8.toInt32) (z8.toInt8.toInt32) (z11.toInt8.toInt32) (z14.toInt8.toInt32) (z17.toInt8.toInt32)) a e1 h19 n0 Z21z Ar S6 hf ha he hae he6) hZ (hw _ (List.mem_of_getElem? (i := 12) rfl)) (hw _ (List.mem_of_getElem? (i := 11) rfl)) (by decide) (by decide)) (g := (mkF m 215 #[.val (.int p0), .val (.long q1), .second, .val (.int p2), .val (.int p3), .val (.ref b1), .val (.int (own_at p2)), .val (.int (own_en p2 p3)), .val (.int (5 : Int32))] [(.int (own_en p2 p3)), (.int (own_at p2)), (.ref b1)])) rfl (by rw [hml]; rfl) (argsL := [(.ref b1), (.int (own_at p2)), (.int (own_en p2 p3))]) (rest := []) (lenOf pd_2 rfl) rfl (by show 2 * 0 + _ ≤ _; exact Nat.le_of_eq rfl) (hb hby at_215) (fun _ _ => ⟨rfl, eq36, (by decide : 1 + 0 ≤ _), (by decide : 6 + 0 ≤ _)⟩)
              dsimp only [Pt.U, Pt.locs, Pt.cells, Pt.slots] at X39 l39 y39 z39 st39 hQ39
              subst l39 y39 z39
              obtain ⟨rfl, N39q, eq39⟩ := hQ39
              have N39 := Fr.app N36 N39q
              obtain ⟨fs, hr, hrun, hended, hW, hsame⟩ := X39.leave (v := some (.int (1 : Int32))) (fun h => by rw [Bd.returns] at h; cases h)
              refine ⟨_, _, pre37 _ ?_, hrun, hended, _, _, rfl, ?_, ⟨_, rfl⟩, hW, hsame.mono (by decide) (by decide)⟩
              · show Steps p.tables e below (T36.setTop (mkF m 196 #[.val (.int p0), .val (.long q1), .second, .val (.int p2), .val (.int p3), .val (.ref b1), .val (.int (own_at p2)), .val (.int (own_en p2 p3)), .unset] [(.int (own_hit (z17.toInt8.toInt32) (5 : Int32) (own_at p2) (own_en p2 p3)))])) _
                refine XS.ifNo X36.here hx rfl (hb hby at_196) rfl ((if0 _ _).trans (feq hs196_38).1) ?_
                show Steps p.tables e below (T36.setTop (mkF m 199 #[.val (.int p0), .val (.long q1), .second, .val (.int p2), .val (.int p3), .val (.ref b1), .val (.int (own_at p2)), .val (.int (own_en p2 p3)), .unset] [])) _
                refine XS.iconst X36.here hx rfl (hb hby at_199) ?_
                show Steps p.tables e below (T36.setTop (mkF m 200 #[.val (.int p0), .val (.long q1), .second, .val (.int p2), .val (.int p3), .val (.ref b1), .val (.int (own_at p2)), .val (.int (own_en p2 p3)), .unset] [(.int (5 : Int32))])) _
                refine XS.istore X36.here hx rfl (hb hby at_200) rfl (l' := #[.val (.int p0), .val (.long q1), .second, .val (.int p2), .val (.int p3), .val (.ref b1), .val (.int (own_at p2)), .val (.int (own_en p2 p3)), .val (.int (5 : Int32))]) rfl ?_
                show Steps p.tables e below (T36.setTop (mkF m 202 #[.val (.int p0), .val (.long q1), .second, .val (.int p2), .val (.int p3), .val (.ref b1), .val (.int (own_at p2)), .val (.int (own_en p2 p3)), .val (.int (5 : Int32))] [])) _
                refine XS.goto X36.here hx rfl (pc0 := 202) (pc' := 209) rfl (hb hby at_202) (by decide) (by decide) ?_
                show Steps p.tables e below (T36.setTop (mkF m 209 #[.val (.int p0), .val (.long q1), .second, .val (.int p2), .val (.int p3), .val (.ref b1), .val (.int (own_at p2)), .val (.int (own_en p2 p3)), .val (.int (5 : Int32))] [])) _
                refine XS.aload X36.here hx rfl (hb hby at_209) rfl rfl ?_
                show Steps p.tables e below (T36.setTop (mkF m 211 #[.val (.int p0), .val (.long q1), .second, .val (.int p2), .val (.int p3), .val (.ref b1), .val (.int (own_at p2)), .val (.int (own_en p2 p3)), .val (.int (5 : Int32))] [(.ref b1)])) _
                refine XS.iload X36.here hx rfl (hb hby at_211) rfl ?_
                show Steps p.tables e below (T36.setTop (mkF m 213 #[.val (.int p0), .val (.long q1), .second, .val (.int p2), .val (.int p3), .val (.ref b1), .val (.int (own_at p2)), .val (.int (own_en p2 p3)), .val (.int (5 : Int32))] [(.int (own_at p2)), (.ref b1)])) _
                refine XS.iload X36.here hx rfl (hb hby at_213) rfl ?_
                show Steps p.tables e below (T36.setTop (mkF m 215 #[.val (.int p0), .val (.long q1), .second, .val (.int p2), .val (.int p3), .val (.ref b1), .val (.int (own_at p2)), .val (.int (own_en p2 p3)), .val (.int (5 : Int32))] [(.int (own_en p2 p3)), (.int (own_at p2)), (.ref b1)])) _
                refine st39 _ ?_
                show Steps p.tables e below (T39.setTop (mkF m 218 #[.val (.int p0), .val (.long q1), .second, .val (.int p2), .val (.int p3), .val (.ref b1), .val (.int (own_at p2)), .val (.int (own_en p2 p3)), .val (.int (5 : Int32))] [(.int (Int32.ofNat (own_scan (own_arr (z2.toInt8.toInt32) (z5.toInt8.toInt32) (z8.toInt8.toInt32) (z11.toInt8.toInt32) (z14.toInt8.toInt32) (z17.toInt8.toInt32)) a (e1 - a))))])) _
                refine XS.iload X39.here hx rfl (hb hby at_218) rfl ?_
                show Steps p.tables e below (T39.setTop (mkF m 220 #[.val (.int p0), .val (.long q1), .second, .val (.int p2), .val (.int p3), .val (.ref b1), .val (.int (own_at p2)), .val (.int (own_en p2 p3)), .val (.int (5 : Int32))] [(.int (5 : Int32)), (.int (Int32.ofNat (own_scan (own_arr (z2.toInt8.toInt32) (z5.toInt8.toInt32) (z8.toInt8.toInt32) (z11.toInt8.toInt32) (z14.toInt8.toInt32) (z17.toInt8.toInt32)) a (e1 - a))))])) _
                refine XS.icmpNo X39.here hx rfl (hb hby at_220) rfl (teq (own_leaf (own_arr (z2.toInt8.toInt32) (z5.toInt8.toInt32) (z8.toInt8.toInt32) (z11.toInt8.toInt32) (z14.toInt8.toInt32) (z17.toInt8.toInt32)) a e1 5 hae he6 (by decide) (fun j hj => by have hj' : j = 0 ∨ j = 1 ∨ j = 2 ∨ j = 3 ∨ j = 4 := (by omega); rw [← ha, ← he]; rcases hj' with rfl | rfl | rfl | rfl | rfl <;> first | exact hs101_23 | exact hs120_26 | exact hs139_29 | exact hs158_32 | exact hs177_35) (by rw [← ha, ← he]; exact hs196_38))).2 ?_
                show Steps p.tables e below (T39.setTop (mkF m 223 #[.val (.int p0), .val (.long q1), .second, .val (.int p2), .val (.int p3), .val (.ref b1), .val (.int (own_at p2)), .val (.int (own_en p2 p3)), .val (.int (5 : Int32))] [])) _
                refine XS.iconst X39.here hx rfl (hb hby at_223) ?_
                show Steps p.tables e below (T39.setTop (mkF m 224 #[.val (.int p0), .val (.long q1), .second, .val (.int p2), .val (.int p3), .val (.ref b1), .val (.int (own_at p2)), .val (.int (own_en p2 p3)), .val (.int (5 : Int32))] [(.int (1 : Int32))])) _
                refine XS.goto X39.here hx rfl (pc0 := 224) (pc' := 228) rfl (hb hby at_224) (by decide) (by decide) ?_
                show Steps p.tables e below (T39.setTop (mkF m 228 #[.val (.int p0), .val (.long q1), .second, .val (.int p2), .val (.int p3), .val (.ref b1), .val (.int (own_at p2)), .val (.int (own_en p2 p3)), .val (.int (5 : Int32))] [(.int (1 : Int32))])) _
                exact retN X39 hx (t := .boolean) Bd.returns (by simp) (hb hby at_228) hr
              · show Q0 Z p0 h0 n0 _ T39.heap _
                rw [eq39]
                exact ⟨rfl, N39⟩
          · obtain ⟨_, _, ⟨T36, L36, k36, n36⟩, -, X36, ⟨Lc36, hQ36, l36, y36, z36⟩, st36⟩ := Jvm.LawKit.callS X33 hx (y := (⟨"com/example/mormorio/mormorio/client/Lines", "lineFeed", "([BII)I"⟩ : MethodName)) hown (mvT hZ (hw _ (List.mem_of_getElem? (i := 9) rfl))) (mvT hZ (hw _ (List.mem_of_getElem? (i := 10) rfl))) (mvT hZ (hw _ (List.mem_of_getElem? (i := 11) rfl))) (mvT hZ (hw _ (List.mem_of_getElem? (i := 12) rfl))) (by decide) (backOf (W := 0) (rm3 l Z a0 hw [] b1 (own_at p2) (own_en p2 p3) cl (own_arr (z2.toInt8.toInt32) (z5.toInt8.toInt32) (z8.toInt8.toInt32) (z11.toInt8.toInt32) (z14.toInt8.toInt32) (z17.toInt8.toInt32)) a e1 h19 n0 Z21z Ar S6 hf ha he hae he6) hZ (hw _ (List.mem_of_getElem? (i := 12) rfl)) (hw _ (List.mem_of_getElem? (i := 11) rfl)) (by decide) (by decide)) (g := (mkF m 215 #[.val (.int p0), .val (.long q1), .second, .val (.int p2), .val (.int p3), .val (.ref b1), .val (.int (own_at p2)), .val (.int (own_en p2 p3)), .val (.int (4 : Int32))] [(.int (own_en p2 p3)), (.int (own_at p2)), (.ref b1)])) rfl (by rw [hml]; rfl) (argsL := [(.ref b1), (.int (own_at p2)), (.int (own_en p2 p3))]) (rest := []) (lenOf pd_2 rfl) rfl (by show 2 * 0 + _ ≤ _; exact Nat.le_of_eq rfl) (hb hby at_215) (fun _ _ => ⟨rfl, eq33, (by decide : 1 + 0 ≤ _), (by decide : 6 + 0 ≤ _)⟩)
            dsimp only [Pt.U, Pt.locs, Pt.cells, Pt.slots] at X36 l36 y36 z36 st36 hQ36
            subst l36 y36 z36
            obtain ⟨rfl, N36q, eq36⟩ := hQ36
            have N36 := Fr.app N33 N36q
            obtain ⟨fs, hr, hrun, hended, hW, hsame⟩ := X36.leave (v := some (.int (1 : Int32))) (fun h => by rw [Bd.returns] at h; cases h)
            refine ⟨_, _, pre34 _ ?_, hrun, hended, _, _, rfl, ?_, ⟨_, rfl⟩, hW, hsame.mono (by decide) (by decide)⟩
            · show Steps p.tables e below (T33.setTop (mkF m 177 #[.val (.int p0), .val (.long q1), .second, .val (.int p2), .val (.int p3), .val (.ref b1), .val (.int (own_at p2)), .val (.int (own_en p2 p3)), .unset] [(.int (own_hit (z14.toInt8.toInt32) (4 : Int32) (own_at p2) (own_en p2 p3)))])) _
              refine XS.ifNo X33.here hx rfl (hb hby at_177) rfl ((if0 _ _).trans (feq hs177_35).1) ?_
              show Steps p.tables e below (T33.setTop (mkF m 180 #[.val (.int p0), .val (.long q1), .second, .val (.int p2), .val (.int p3), .val (.ref b1), .val (.int (own_at p2)), .val (.int (own_en p2 p3)), .unset] [])) _
              refine XS.iconst X33.here hx rfl (hb hby at_180) ?_
              show Steps p.tables e below (T33.setTop (mkF m 181 #[.val (.int p0), .val (.long q1), .second, .val (.int p2), .val (.int p3), .val (.ref b1), .val (.int (own_at p2)), .val (.int (own_en p2 p3)), .unset] [(.int (4 : Int32))])) _
              refine XS.istore X33.here hx rfl (hb hby at_181) rfl (l' := #[.val (.int p0), .val (.long q1), .second, .val (.int p2), .val (.int p3), .val (.ref b1), .val (.int (own_at p2)), .val (.int (own_en p2 p3)), .val (.int (4 : Int32))]) rfl ?_
              show Steps p.tables e below (T33.setTop (mkF m 183 #[.val (.int p0), .val (.long q1), .second, .val (.int p2), .val (.int p3), .val (.ref b1), .val (.int (own_at p2)), .val (.int (own_en p2 p3)), .val (.int (4 : Int32))] [])) _
              refine XS.goto X33.here hx rfl (pc0 := 183) (pc' := 209) rfl (hb hby at_183) (by decide) (by decide) ?_
              show Steps p.tables e below (T33.setTop (mkF m 209 #[.val (.int p0), .val (.long q1), .second, .val (.int p2), .val (.int p3), .val (.ref b1), .val (.int (own_at p2)), .val (.int (own_en p2 p3)), .val (.int (4 : Int32))] [])) _
              refine XS.aload X33.here hx rfl (hb hby at_209) rfl rfl ?_
              show Steps p.tables e below (T33.setTop (mkF m 211 #[.val (.int p0), .val (.long q1), .second, .val (.int p2), .val (.int p3), .val (.ref b1), .val (.int (own_at p2)), .val (.int (own_en p2 p3)), .val (.int (4 : Int32))] [(.ref b1)])) _
              refine XS.iload X33.here hx rfl (hb hby at_211) rfl ?_
              show Steps p.tables e below (T33.setTop (mkF m 213 #[.val (.int p0), .val (.long q1), .second, .val (.int p2), .val (.int p3), .val (.ref b1), .val (.int (own_at p2)), .val (.int (own_en p2 p3)), .val (.int (4 : Int32))] [(.int (own_at p2)), (.ref b1)])) _
              refine XS.iload X33.here hx rfl (hb hby at_213) rfl ?_
              show Steps p.tables e below (T33.setTop (mkF m 215 #[.val (.int p0), .val (.long q1), .second, .val (.int p2), .val (.int p3), .val (.ref b1), .val (.int (own_at p2)), .val (.int (own_en p2 p3)), .val (.int (4 : Int32))] [(.int (own_en p2 p3)), (.int (own_at p2)), (.ref b1)])) _
              refine st36 _ ?_
              show Steps p.tables e below (T36.setTop (mkF m 218 #[.val (.int p0), .val (.long q1), .second, .val (.int p2), .val (.int p3), .val (.ref b1), .val (.int (own_at p2)), .val (.int (own_en p2 p3)), .val (.int (4 : Int32))] [(.int (Int32.ofNat (own_scan (own_arr (z2.toInt8.toInt32) (z5.toInt8.toInt32) (z8.toInt8.toInt32) (z11.toInt8.toInt32) (z14.toInt8.toInt32) (z17.toInt8.toInt32)) a (e1 - a))))])) _
              refine XS.iload X36.here hx rfl (hb hby at_218) rfl ?_
              show Steps p.tables e below (T36.setTop (mkF m 220 #[.val (.int p0), .val (.long q1), .second, .val (.int p2), .val (.int p3), .val (.ref b1), .val (.int (own_at p2)), .val (.int (own_en p2 p3)), .val (.int (4 : Int32))] [(.int (4 : Int32)), (.int (Int32.ofNat (own_scan (own_arr (z2.toInt8.toInt32) (z5.toInt8.toInt32) (z8.toInt8.toInt32) (z11.toInt8.toInt32) (z14.toInt8.toInt32) (z17.toInt8.toInt32)) a (e1 - a))))])) _
              refine XS.icmpNo X36.here hx rfl (hb hby at_220) rfl (teq (own_leaf (own_arr (z2.toInt8.toInt32) (z5.toInt8.toInt32) (z8.toInt8.toInt32) (z11.toInt8.toInt32) (z14.toInt8.toInt32) (z17.toInt8.toInt32)) a e1 4 hae he6 (by decide) (fun j hj => by have hj' : j = 0 ∨ j = 1 ∨ j = 2 ∨ j = 3 := (by omega); rw [← ha, ← he]; rcases hj' with rfl | rfl | rfl | rfl <;> first | exact hs101_23 | exact hs120_26 | exact hs139_29 | exact hs158_32) (by rw [← ha, ← he]; exact hs177_35))).2 ?_
              show Steps p.tables e below (T36.setTop (mkF m 223 #[.val (.int p0), .val (.long q1), .second, .val (.int p2), .val (.int p3), .val (.ref b1), .val (.int (own_at p2)), .val (.int (own_en p2 p3)), .val (.int (4 : Int32))] [])) _
              refine XS.iconst X36.here hx rfl (hb hby at_223) ?_
              show Steps p.tables e below (T36.setTop (mkF m 224 #[.val (.int p0), .val (.long q1), .second, .val (.int p2), .val (.int p3), .val (.ref b1), .val (.int (own_at p2)), .val (.int (own_en p2 p3)), .val (.int (4 : Int32))] [(.int (1 : Int32))])) _
              refine XS.goto X36.here hx rfl (pc0 := 224) (pc' := 228) rfl (hb hby at_224) (by decide) (by decide) ?_
              show Steps p.tables e below (T36.setTop (mkF m 228 #[.val (.int p0), .val (.long q1), .second, .val (.int p2), .val (.int p3), .val (.ref b1), .val (.int (own_at p2)), .val (.int (own_en p2 p3)), .val (.int (4 : Int32))] [(.int (1 : Int32))])) _
              exact retN X36 hx (t := .boolean) Bd.returns (by simp) (hb hby at_228) hr
            · show Q0 Z p0 h0 n0 _ T36.heap _
              rw [eq36]
              exact ⟨rfl, N36⟩
        · obtain ⟨_, _, ⟨T33, L33, k33, n33⟩, -, X33, ⟨Lc33, hQ33, l33, y33, z33⟩, st33⟩ := Jvm.LawKit.callS X30 hx (y := (⟨"com/example/mormorio/mormorio/client/Lines", "lineFeed", "([BII)I"⟩ : MethodName)) hown (mvT hZ (hw _ (List.mem_of_getElem? (i := 9) rfl))) (mvT hZ (hw _ (List.mem_of_getElem? (i := 10) rfl))) (mvT hZ (hw _ (List.mem_of_getElem? (i := 11) rfl))) (mvT hZ (hw _ (List.mem_of_getElem? (i := 12) rfl))) (by decide) (backOf (W := 0) (rm3 l Z a0 hw [] b1 (own_at p2) (own_en p2 p3) cl (own_arr (z2.toInt8.toInt32) (z5.toInt8.toInt32) (z8.toInt8.toInt32) (z11.toInt8.toInt32) (z14.toInt8.toInt32) (z17.toInt8.toInt32)) a e1 h19 n0 Z21z Ar S6 hf ha he hae he6) hZ (hw _ (List.mem_of_getElem? (i := 12) rfl)) (hw _ (List.mem_of_getElem? (i := 11) rfl)) (by decide) (by decide)) (g := (mkF m 215 #[.val (.int p0), .val (.long q1), .second, .val (.int p2), .val (.int p3), .val (.ref b1), .val (.int (own_at p2)), .val (.int (own_en p2 p3)), .val (.int (3 : Int32))] [(.int (own_en p2 p3)), (.int (own_at p2)), (.ref b1)])) rfl (by rw [hml]; rfl) (argsL := [(.ref b1), (.int (own_at p2)), (.int (own_en p2 p3))]) (rest := []) (lenOf pd_2 rfl) rfl (by show 2 * 0 + _ ≤ _; exact Nat.le_of_eq rfl) (hb hby at_215) (fun _ _ => ⟨rfl, eq30, (by decide : 1 + 0 ≤ _), (by decide : 6 + 0 ≤ _)⟩)
          dsimp only [Pt.U, Pt.locs, Pt.cells, Pt.slots] at X33 l33 y33 z33 st33 hQ33
          subst l33 y33 z33
          obtain ⟨rfl, N33q, eq33⟩ := hQ33
          have N33 := Fr.app N30 N33q
          obtain ⟨fs, hr, hrun, hended, hW, hsame⟩ := X33.leave (v := some (.int (1 : Int32))) (fun h => by rw [Bd.returns] at h; cases h)
          refine ⟨_, _, pre31 _ ?_, hrun, hended, _, _, rfl, ?_, ⟨_, rfl⟩, hW, hsame.mono (by decide) (by decide)⟩
          · show Steps p.tables e below (T30.setTop (mkF m 158 #[.val (.int p0), .val (.long q1), .second, .val (.int p2), .val (.int p3), .val (.ref b1), .val (.int (own_at p2)), .val (.int (own_en p2 p3)), .unset] [(.int (own_hit (z11.toInt8.toInt32) (3 : Int32) (own_at p2) (own_en p2 p3)))])) _
            refine XS.ifNo X30.here hx rfl (hb hby at_158) rfl ((if0 _ _).trans (feq hs158_32).1) ?_
            show Steps p.tables e below (T30.setTop (mkF m 161 #[.val (.int p0), .val (.long q1), .second, .val (.int p2), .val (.int p3), .val (.ref b1), .val (.int (own_at p2)), .val (.int (own_en p2 p3)), .unset] [])) _
            refine XS.iconst X30.here hx rfl (hb hby at_161) ?_
            show Steps p.tables e below (T30.setTop (mkF m 162 #[.val (.int p0), .val (.long q1), .second, .val (.int p2), .val (.int p3), .val (.ref b1), .val (.int (own_at p2)), .val (.int (own_en p2 p3)), .unset] [(.int (3 : Int32))])) _
            refine XS.istore X30.here hx rfl (hb hby at_162) rfl (l' := #[.val (.int p0), .val (.long q1), .second, .val (.int p2), .val (.int p3), .val (.ref b1), .val (.int (own_at p2)), .val (.int (own_en p2 p3)), .val (.int (3 : Int32))]) rfl ?_
            show Steps p.tables e below (T30.setTop (mkF m 164 #[.val (.int p0), .val (.long q1), .second, .val (.int p2), .val (.int p3), .val (.ref b1), .val (.int (own_at p2)), .val (.int (own_en p2 p3)), .val (.int (3 : Int32))] [])) _
            refine XS.goto X30.here hx rfl (pc0 := 164) (pc' := 209) rfl (hb hby at_164) (by decide) (by decide) ?_
            show Steps p.tables e below (T30.setTop (mkF m 209 #[.val (.int p0), .val (.long q1), .second, .val (.int p2), .val (.int p3), .val (.ref b1), .val (.int (own_at p2)), .val (.int (own_en p2 p3)), .val (.int (3 : Int32))] [])) _
            refine XS.aload X30.here hx rfl (hb hby at_209) rfl rfl ?_
            show Steps p.tables e below (T30.setTop (mkF m 211 #[.val (.int p0), .val (.long q1), .second, .val (.int p2), .val (.int p3), .val (.ref b1), .val (.int (own_at p2)), .val (.int (own_en p2 p3)), .val (.int (3 : Int32))] [(.ref b1)])) _
            refine XS.iload X30.here hx rfl (hb hby at_211) rfl ?_
            show Steps p.tables e below (T30.setTop (mkF m 213 #[.val (.int p0), .val (.long q1), .second, .val (.int p2), .val (.int p3), .val (.ref b1), .val (.int (own_at p2)), .val (.int (own_en p2 p3)), .val (.int (3 : Int32))] [(.int (own_at p2)), (.ref b1)])) _
            refine XS.iload X30.here hx rfl (hb hby at_213) rfl ?_
            show Steps p.tables e below (T30.setTop (mkF m 215 #[.val (.int p0), .val (.long q1), .second, .val (.int p2), .val (.int p3), .val (.ref b1), .val (.int (own_at p2)), .val (.int (own_en p2 p3)), .val (.int (3 : Int32))] [(.int (own_en p2 p3)), (.int (own_at p2)), (.ref b1)])) _
            refine st33 _ ?_
            show Steps p.tables e below (T33.setTop (mkF m 218 #[.val (.int p0), .val (.long q1), .second, .val (.int p2), .val (.int p3), .val (.ref b1), .val (.int (own_at p2)), .val (.int (own_en p2 p3)), .val (.int (3 : Int32))] [(.int (Int32.ofNat (own_scan (own_arr (z2.toInt8.toInt32) (z5.toInt8.toInt32) (z8.toInt8.toInt32) (z11.toInt8.toInt32) (z14.toInt8.toInt32) (z17.toInt8.toInt32)) a (e1 - a))))])) _
            refine XS.iload X33.here hx rfl (hb hby at_218) rfl ?_
            show Steps p.tables e below (T33.setTop (mkF m 220 #[.val (.int p0), .val (.long q1), .second, .val (.int p2), .val (.int p3), .val (.ref b1), .val (.int (own_at p2)), .val (.int (own_en p2 p3)), .val (.int (3 : Int32))] [(.int (3 : Int32)), (.int (Int32.ofNat (own_scan (own_arr (z2.toInt8.toInt32) (z5.toInt8.toInt32) (z8.toInt8.toInt32) (z11.toInt8.toInt32) (z14.toInt8.toInt32) (z17.toInt8.toInt32)) a (e1 - a))))])) _
            refine XS.icmpNo X33.here hx rfl (hb hby at_220) rfl (teq (own_leaf (own_arr (z2.toInt8.toInt32) (z5.toInt8.toInt32) (z8.toInt8.toInt32) (z11.toInt8.toInt32) (z14.toInt8.toInt32) (z17.toInt8.toInt32)) a e1 3 hae he6 (by decide) (fun j hj => by have hj' : j = 0 ∨ j = 1 ∨ j = 2 := (by omega); rw [← ha, ← he]; rcases hj' with rfl | rfl | rfl <;> first | exact hs101_23 | exact hs120_26 | exact hs139_29) (by rw [← ha, ← he]; exact hs158_32))).2 ?_
            show Steps p.tables e below (T33.setTop (mkF m 223 #[.val (.int p0), .val (.long q1), .second, .val (.int p2), .val (.int p3), .val (.ref b1), .val (.int (own_at p2)), .val (.int (own_en p2 p3)), .val (.int (3 : Int32))] [])) _
            refine XS.iconst X33.here hx rfl (hb hby at_223) ?_
            show Steps p.tables e below (T33.setTop (mkF m 224 #[.val (.int p0), .val (.long q1), .second, .val (.int p2), .val (.int p3), .val (.ref b1), .val (.int (own_at p2)), .val (.int (own_en p2 p3)), .val (.int (3 : Int32))] [(.int (1 : Int32))])) _
            refine XS.goto X33.here hx rfl (pc0 := 224) (pc' := 228) rfl (hb hby at_224) (by decide) (by decide) ?_
            show Steps p.tables e below (T33.setTop (mkF m 228 #[.val (.int p0), .val (.long q1), .second, .val (.int p2), .val (.int p3), .val (.ref b1), .val (.int (own_at p2)), .val (.int (own_en p2 p3)), .val (.int (3 : Int32))] [(.int (1 : Int32))])) _
            exact retN X33 hx (t := .boolean) Bd.returns (by simp) (hb hby at_228) hr
          · show Q0 Z p0 h0 n0 _ T33.heap _
            rw [eq33]
            exact ⟨rfl, N33⟩
      · obtain ⟨_, _, ⟨T30, L30, k30, n30⟩, -, X30, ⟨Lc30, hQ30, l30, y30, z30⟩, st30⟩ := Jvm.LawKit.callS X27 hx (y := (⟨"com/example/mormorio/mormorio/client/Lines", "lineFeed", "([BII)I"⟩ : MethodName)) hown (mvT hZ (hw _ (List.mem_of_getElem? (i := 9) rfl))) (mvT hZ (hw _ (List.mem_of_getElem? (i := 10) rfl))) (mvT hZ (hw _ (List.mem_of_getElem? (i := 11) rfl))) (mvT hZ (hw _ (List.mem_of_getElem? (i := 12) rfl))) (by decide) (backOf (W := 0) (rm3 l Z a0 hw [] b1 (own_at p2) (own_en p2 p3) cl (own_arr (z2.toInt8.toInt32) (z5.toInt8.toInt32) (z8.toInt8.toInt32) (z11.toInt8.toInt32) (z14.toInt8.toInt32) (z17.toInt8.toInt32)) a e1 h19 n0 Z21z Ar S6 hf ha he hae he6) hZ (hw _ (List.mem_of_getElem? (i := 12) rfl)) (hw _ (List.mem_of_getElem? (i := 11) rfl)) (by decide) (by decide)) (g := (mkF m 215 #[.val (.int p0), .val (.long q1), .second, .val (.int p2), .val (.int p3), .val (.ref b1), .val (.int (own_at p2)), .val (.int (own_en p2 p3)), .val (.int (2 : Int32))] [(.int (own_en p2 p3)), (.int (own_at p2)), (.ref b1)])) rfl (by rw [hml]; rfl) (argsL := [(.ref b1), (.int (own_at p2)), (.int (own_en p2 p3))]) (rest := []) (lenOf pd_2 rfl) rfl (by show 2 * 0 + _ ≤ _; exact Nat.le_of_eq rfl) (hb hby at_215) (fun _ _ => ⟨rfl, eq27, (by decide : 1 + 0 ≤ _), (by decide : 6 + 0 ≤ _)⟩)
        dsimp only [Pt.U, Pt.locs, Pt.cells, Pt.slots] at X30 l30 y30 z30 st30 hQ30
        subst l30 y30 z30
        obtain ⟨rfl, N30q, eq30⟩ := hQ30
        have N30 := Fr.app N27 N30q
        obtain ⟨fs, hr, hrun, hended, hW, hsame⟩ := X30.leave (v := some (.int (1 : Int32))) (fun h => by rw [Bd.returns] at h; cases h)
        refine ⟨_, _, pre28 _ ?_, hrun, hended, _, _, rfl, ?_, ⟨_, rfl⟩, hW, hsame.mono (by decide) (by decide)⟩
        · show Steps p.tables e below (T27.setTop (mkF m 139 #[.val (.int p0), .val (.long q1), .second, .val (.int p2), .val (.int p3), .val (.ref b1), .val (.int (own_at p2)), .val (.int (own_en p2 p3)), .unset] [(.int (own_hit (z8.toInt8.toInt32) (2 : Int32) (own_at p2) (own_en p2 p3)))])) _
          refine XS.ifNo X27.here hx rfl (hb hby at_139) rfl ((if0 _ _).trans (feq hs139_29).1) ?_
          show Steps p.tables e below (T27.setTop (mkF m 142 #[.val (.int p0), .val (.long q1), .second, .val (.int p2), .val (.int p3), .val (.ref b1), .val (.int (own_at p2)), .val (.int (own_en p2 p3)), .unset] [])) _
          refine XS.iconst X27.here hx rfl (hb hby at_142) ?_
          show Steps p.tables e below (T27.setTop (mkF m 143 #[.val (.int p0), .val (.long q1), .second, .val (.int p2), .val (.int p3), .val (.ref b1), .val (.int (own_at p2)), .val (.int (own_en p2 p3)), .unset] [(.int (2 : Int32))])) _
          refine XS.istore X27.here hx rfl (hb hby at_143) rfl (l' := #[.val (.int p0), .val (.long q1), .second, .val (.int p2), .val (.int p3), .val (.ref b1), .val (.int (own_at p2)), .val (.int (own_en p2 p3)), .val (.int (2 : Int32))]) rfl ?_
          show Steps p.tables e below (T27.setTop (mkF m 145 #[.val (.int p0), .val (.long q1), .second, .val (.int p2), .val (.int p3), .val (.ref b1), .val (.int (own_at p2)), .val (.int (own_en p2 p3)), .val (.int (2 : Int32))] [])) _
          refine XS.goto X27.here hx rfl (pc0 := 145) (pc' := 209) rfl (hb hby at_145) (by decide) (by decide) ?_
          show Steps p.tables e below (T27.setTop (mkF m 209 #[.val (.int p0), .val (.long q1), .second, .val (.int p2), .val (.int p3), .val (.ref b1), .val (.int (own_at p2)), .val (.int (own_en p2 p3)), .val (.int (2 : Int32))] [])) _
          refine XS.aload X27.here hx rfl (hb hby at_209) rfl rfl ?_
          show Steps p.tables e below (T27.setTop (mkF m 211 #[.val (.int p0), .val (.long q1), .second, .val (.int p2), .val (.int p3), .val (.ref b1), .val (.int (own_at p2)), .val (.int (own_en p2 p3)), .val (.int (2 : Int32))] [(.ref b1)])) _
          refine XS.iload X27.here hx rfl (hb hby at_211) rfl ?_
          show Steps p.tables e below (T27.setTop (mkF m 213 #[.val (.int p0), .val (.long q1), .second, .val (.int p2), .val (.int p3), .val (.ref b1), .val (.int (own_at p2)), .val (.int (own_en p2 p3)), .val (.int (2 : Int32))] [(.int (own_at p2)), (.ref b1)])) _
          refine XS.iload X27.here hx rfl (hb hby at_213) rfl ?_
          show Steps p.tables e below (T27.setTop (mkF m 215 #[.val (.int p0), .val (.long q1), .second, .val (.int p2), .val (.int p3), .val (.ref b1), .val (.int (own_at p2)), .val (.int (own_en p2 p3)), .val (.int (2 : Int32))] [(.int (own_en p2 p3)), (.int (own_at p2)), (.ref b1)])) _
          refine st30 _ ?_
          show Steps p.tables e below (T30.setTop (mkF m 218 #[.val (.int p0), .val (.long q1), .second, .val (.int p2), .val (.int p3), .val (.ref b1), .val (.int (own_at p2)), .val (.int (own_en p2 p3)), .val (.int (2 : Int32))] [(.int (Int32.ofNat (own_scan (own_arr (z2.toInt8.toInt32) (z5.toInt8.toInt32) (z8.toInt8.toInt32) (z11.toInt8.toInt32) (z14.toInt8.toInt32) (z17.toInt8.toInt32)) a (e1 - a))))])) _
          refine XS.iload X30.here hx rfl (hb hby at_218) rfl ?_
          show Steps p.tables e below (T30.setTop (mkF m 220 #[.val (.int p0), .val (.long q1), .second, .val (.int p2), .val (.int p3), .val (.ref b1), .val (.int (own_at p2)), .val (.int (own_en p2 p3)), .val (.int (2 : Int32))] [(.int (2 : Int32)), (.int (Int32.ofNat (own_scan (own_arr (z2.toInt8.toInt32) (z5.toInt8.toInt32) (z8.toInt8.toInt32) (z11.toInt8.toInt32) (z14.toInt8.toInt32) (z17.toInt8.toInt32)) a (e1 - a))))])) _
          refine XS.icmpNo X30.here hx rfl (hb hby at_220) rfl (teq (own_leaf (own_arr (z2.toInt8.toInt32) (z5.toInt8.toInt32) (z8.toInt8.toInt32) (z11.toInt8.toInt32) (z14.toInt8.toInt32) (z17.toInt8.toInt32)) a e1 2 hae he6 (by decide) (fun j hj => by have hj' : j = 0 ∨ j = 1 := (by omega); rw [← ha, ← he]; rcases hj' with rfl | rfl <;> first | exact hs101_23 | exact hs120_26) (by rw [← ha, ← he]; exact hs139_29))).2 ?_
          show Steps p.tables e below (T30.setTop (mkF m 223 #[.val (.int p0), .val (.long q1), .second, .val (.int p2), .val (.int p3), .val (.ref b1), .val (.int (own_at p2)), .val (.int (own_en p2 p3)), .val (.int (2 : Int32))] [])) _
          refine XS.iconst X30.here hx rfl (hb hby at_223) ?_
          show Steps p.tables e below (T30.setTop (mkF m 224 #[.val (.int p0), .val (.long q1), .second, .val (.int p2), .val (.int p3), .val (.ref b1), .val (.int (own_at p2)), .val (.int (own_en p2 p3)), .val (.int (2 : Int32))] [(.int (1 : Int32))])) _
          refine XS.goto X30.here hx rfl (pc0 := 224) (pc' := 228) rfl (hb hby at_224) (by decide) (by decide) ?_
          show Steps p.tables e below (T30.setTop (mkF m 228 #[.val (.int p0), .val (.long q1), .second, .val (.int p2), .val (.int p3), .val (.ref b1), .val (.int (own_at p2)), .val (.int (own_en p2 p3)), .val (.int (2 : Int32))] [(.int (1 : Int32))])) _
          exact retN X30 hx (t := .boolean) Bd.returns (by simp) (hb hby at_228) hr
        · show Q0 Z p0 h0 n0 _ T30.heap _
          rw [eq30]
          exact ⟨rfl, N30⟩
    · obtain ⟨_, _, ⟨T27, L27, k27, n27⟩, -, X27, ⟨Lc27, hQ27, l27, y27, z27⟩, st27⟩ := Jvm.LawKit.callS X24 hx (y := (⟨"com/example/mormorio/mormorio/client/Lines", "lineFeed", "([BII)I"⟩ : MethodName)) hown (mvT hZ (hw _ (List.mem_of_getElem? (i := 9) rfl))) (mvT hZ (hw _ (List.mem_of_getElem? (i := 10) rfl))) (mvT hZ (hw _ (List.mem_of_getElem? (i := 11) rfl))) (mvT hZ (hw _ (List.mem_of_getElem? (i := 12) rfl))) (by decide) (backOf (W := 0) (rm3 l Z a0 hw [] b1 (own_at p2) (own_en p2 p3) cl (own_arr (z2.toInt8.toInt32) (z5.toInt8.toInt32) (z8.toInt8.toInt32) (z11.toInt8.toInt32) (z14.toInt8.toInt32) (z17.toInt8.toInt32)) a e1 h19 n0 Z21z Ar S6 hf ha he hae he6) hZ (hw _ (List.mem_of_getElem? (i := 12) rfl)) (hw _ (List.mem_of_getElem? (i := 11) rfl)) (by decide) (by decide)) (g := (mkF m 215 #[.val (.int p0), .val (.long q1), .second, .val (.int p2), .val (.int p3), .val (.ref b1), .val (.int (own_at p2)), .val (.int (own_en p2 p3)), .val (.int (1 : Int32))] [(.int (own_en p2 p3)), (.int (own_at p2)), (.ref b1)])) rfl (by rw [hml]; rfl) (argsL := [(.ref b1), (.int (own_at p2)), (.int (own_en p2 p3))]) (rest := []) (lenOf pd_2 rfl) rfl (by show 2 * 0 + _ ≤ _; exact Nat.le_of_eq rfl) (hb hby at_215) (fun _ _ => ⟨rfl, eq24, (by decide : 1 + 0 ≤ _), (by decide : 6 + 0 ≤ _)⟩)
      dsimp only [Pt.U, Pt.locs, Pt.cells, Pt.slots] at X27 l27 y27 z27 st27 hQ27
      subst l27 y27 z27
      obtain ⟨rfl, N27q, eq27⟩ := hQ27
      have N27 := Fr.app N24 N27q
      obtain ⟨fs, hr, hrun, hended, hW, hsame⟩ := X27.leave (v := some (.int (1 : Int32))) (fun h => by rw [Bd.returns] at h; cases h)
      refine ⟨_, _, pre25 _ ?_, hrun, hended, _, _, rfl, ?_, ⟨_, rfl⟩, hW, hsame.mono (by decide) (by decide)⟩
      · show Steps p.tables e below (T24.setTop (mkF m 120 #[.val (.int p0), .val (.long q1), .second, .val (.int p2), .val (.int p3), .val (.ref b1), .val (.int (own_at p2)), .val (.int (own_en p2 p3)), .unset] [(.int (own_hit (z5.toInt8.toInt32) (1 : Int32) (own_at p2) (own_en p2 p3)))])) _
        refine XS.ifNo X24.here hx rfl (hb hby at_120) rfl ((if0 _ _).trans (feq hs120_26).1) ?_
        show Steps p.tables e below (T24.setTop (mkF m 123 #[.val (.int p0), .val (.long q1), .second, .val (.int p2), .val (.int p3), .val (.ref b1), .val (.int (own_at p2)), .val (.int (own_en p2 p3)), .unset] [])) _
        refine XS.iconst X24.here hx rfl (hb hby at_123) ?_
        show Steps p.tables e below (T24.setTop (mkF m 124 #[.val (.int p0), .val (.long q1), .second, .val (.int p2), .val (.int p3), .val (.ref b1), .val (.int (own_at p2)), .val (.int (own_en p2 p3)), .unset] [(.int (1 : Int32))])) _
        refine XS.istore X24.here hx rfl (hb hby at_124) rfl (l' := #[.val (.int p0), .val (.long q1), .second, .val (.int p2), .val (.int p3), .val (.ref b1), .val (.int (own_at p2)), .val (.int (own_en p2 p3)), .val (.int (1 : Int32))]) rfl ?_
        show Steps p.tables e below (T24.setTop (mkF m 126 #[.val (.int p0), .val (.long q1), .second, .val (.int p2), .val (.int p3), .val (.ref b1), .val (.int (own_at p2)), .val (.int (own_en p2 p3)), .val (.int (1 : Int32))] [])) _
        refine XS.goto X24.here hx rfl (pc0 := 126) (pc' := 209) rfl (hb hby at_126) (by decide) (by decide) ?_
        show Steps p.tables e below (T24.setTop (mkF m 209 #[.val (.int p0), .val (.long q1), .second, .val (.int p2), .val (.int p3), .val (.ref b1), .val (.int (own_at p2)), .val (.int (own_en p2 p3)), .val (.int (1 : Int32))] [])) _
        refine XS.aload X24.here hx rfl (hb hby at_209) rfl rfl ?_
        show Steps p.tables e below (T24.setTop (mkF m 211 #[.val (.int p0), .val (.long q1), .second, .val (.int p2), .val (.int p3), .val (.ref b1), .val (.int (own_at p2)), .val (.int (own_en p2 p3)), .val (.int (1 : Int32))] [(.ref b1)])) _
        refine XS.iload X24.here hx rfl (hb hby at_211) rfl ?_
        show Steps p.tables e below (T24.setTop (mkF m 213 #[.val (.int p0), .val (.long q1), .second, .val (.int p2), .val (.int p3), .val (.ref b1), .val (.int (own_at p2)), .val (.int (own_en p2 p3)), .val (.int (1 : Int32))] [(.int (own_at p2)), (.ref b1)])) _
        refine XS.iload X24.here hx rfl (hb hby at_213) rfl ?_
        show Steps p.tables e below (T24.setTop (mkF m 215 #[.val (.int p0), .val (.long q1), .second, .val (.int p2), .val (.int p3), .val (.ref b1), .val (.int (own_at p2)), .val (.int (own_en p2 p3)), .val (.int (1 : Int32))] [(.int (own_en p2 p3)), (.int (own_at p2)), (.ref b1)])) _
        refine st27 _ ?_
        show Steps p.tables e below (T27.setTop (mkF m 218 #[.val (.int p0), .val (.long q1), .second, .val (.int p2), .val (.int p3), .val (.ref b1), .val (.int (own_at p2)), .val (.int (own_en p2 p3)), .val (.int (1 : Int32))] [(.int (Int32.ofNat (own_scan (own_arr (z2.toInt8.toInt32) (z5.toInt8.toInt32) (z8.toInt8.toInt32) (z11.toInt8.toInt32) (z14.toInt8.toInt32) (z17.toInt8.toInt32)) a (e1 - a))))])) _
        refine XS.iload X27.here hx rfl (hb hby at_218) rfl ?_
        show Steps p.tables e below (T27.setTop (mkF m 220 #[.val (.int p0), .val (.long q1), .second, .val (.int p2), .val (.int p3), .val (.ref b1), .val (.int (own_at p2)), .val (.int (own_en p2 p3)), .val (.int (1 : Int32))] [(.int (1 : Int32)), (.int (Int32.ofNat (own_scan (own_arr (z2.toInt8.toInt32) (z5.toInt8.toInt32) (z8.toInt8.toInt32) (z11.toInt8.toInt32) (z14.toInt8.toInt32) (z17.toInt8.toInt32)) a (e1 - a))))])) _
        refine XS.icmpNo X27.here hx rfl (hb hby at_220) rfl (teq (own_leaf (own_arr (z2.toInt8.toInt32) (z5.toInt8.toInt32) (z8.toInt8.toInt32) (z11.toInt8.toInt32) (z14.toInt8.toInt32) (z17.toInt8.toInt32)) a e1 1 hae he6 (by decide) (fun j hj => by have hj' : j = 0 := (by omega); rw [← ha, ← he]; rcases hj' with rfl <;> first | exact hs101_23) (by rw [← ha, ← he]; exact hs120_26))).2 ?_
        show Steps p.tables e below (T27.setTop (mkF m 223 #[.val (.int p0), .val (.long q1), .second, .val (.int p2), .val (.int p3), .val (.ref b1), .val (.int (own_at p2)), .val (.int (own_en p2 p3)), .val (.int (1 : Int32))] [])) _
        refine XS.iconst X27.here hx rfl (hb hby at_223) ?_
        show Steps p.tables e below (T27.setTop (mkF m 224 #[.val (.int p0), .val (.long q1), .second, .val (.int p2), .val (.int p3), .val (.ref b1), .val (.int (own_at p2)), .val (.int (own_en p2 p3)), .val (.int (1 : Int32))] [(.int (1 : Int32))])) _
        refine XS.goto X27.here hx rfl (pc0 := 224) (pc' := 228) rfl (hb hby at_224) (by decide) (by decide) ?_
        show Steps p.tables e below (T27.setTop (mkF m 228 #[.val (.int p0), .val (.long q1), .second, .val (.int p2), .val (.int p3), .val (.ref b1), .val (.int (own_at p2)), .val (.int (own_en p2 p3)), .val (.int (1 : Int32))] [(.int (1 : Int32))])) _
        exact retN X27 hx (t := .boolean) Bd.returns (by simp) (hb hby at_228) hr
      · show Q0 Z p0 h0 n0 _ T27.heap _
        rw [eq27]
        exact ⟨rfl, N27⟩
  · obtain ⟨_, _, ⟨T24, L24, k24, n24⟩, -, X24, ⟨Lc24, hQ24, l24, y24, z24⟩, st24⟩ := Jvm.LawKit.callS X20 hx (y := (⟨"com/example/mormorio/mormorio/client/Lines", "lineFeed", "([BII)I"⟩ : MethodName)) hown (mvT hZ (hw _ (List.mem_of_getElem? (i := 9) rfl))) (mvT hZ (hw _ (List.mem_of_getElem? (i := 10) rfl))) (mvT hZ (hw _ (List.mem_of_getElem? (i := 11) rfl))) (mvT hZ (hw _ (List.mem_of_getElem? (i := 12) rfl))) (by decide) (backOf (W := 0) (rm3 l Z a0 hw [] b1 (own_at p2) (own_en p2 p3) cl (own_arr (z2.toInt8.toInt32) (z5.toInt8.toInt32) (z8.toInt8.toInt32) (z11.toInt8.toInt32) (z14.toInt8.toInt32) (z17.toInt8.toInt32)) a e1 h19 n0 Z21z Ar S6 hf ha he hae he6) hZ (hw _ (List.mem_of_getElem? (i := 12) rfl)) (hw _ (List.mem_of_getElem? (i := 11) rfl)) (by decide) (by decide)) (g := (mkF m 215 #[.val (.int p0), .val (.long q1), .second, .val (.int p2), .val (.int p3), .val (.ref b1), .val (.int (own_at p2)), .val (.int (own_en p2 p3)), .val (.int (0 : Int32))] [(.int (own_en p2 p3)), (.int (own_at p2)), (.ref b1)])) rfl (by rw [hml]; rfl) (argsL := [(.ref b1), (.int (own_at p2)), (.int (own_en p2 p3))]) (rest := []) (lenOf pd_2 rfl) rfl (by show 2 * 0 + _ ≤ _; exact Nat.le_of_eq rfl) (hb hby at_215) (fun _ _ => ⟨rfl, eq20, (by decide : 1 + 0 ≤ _), (by decide : 6 + 0 ≤ _)⟩)
    dsimp only [Pt.U, Pt.locs, Pt.cells, Pt.slots] at X24 l24 y24 z24 st24 hQ24
    subst l24 y24 z24
    obtain ⟨rfl, N24q, eq24⟩ := hQ24
    have N24 := Fr.app N20 N24q
    obtain ⟨fs, hr, hrun, hended, hW, hsame⟩ := X24.leave (v := some (.int (1 : Int32))) (fun h => by rw [Bd.returns] at h; cases h)
    refine ⟨_, _, pre22 _ ?_, hrun, hended, _, _, rfl, ?_, ⟨_, rfl⟩, hW, hsame.mono (by decide) (by decide)⟩
    · show Steps p.tables e below (T20.setTop (mkF m 101 #[.val (.int p0), .val (.long q1), .second, .val (.int p2), .val (.int p3), .val (.ref b1), .val (.int (own_at p2)), .val (.int (own_en p2 p3)), .unset] [(.int (own_hit (z2.toInt8.toInt32) (0 : Int32) (own_at p2) (own_en p2 p3)))])) _
      refine XS.ifNo X20.here hx rfl (hb hby at_101) rfl ((if0 _ _).trans (feq hs101_23).1) ?_
      show Steps p.tables e below (T20.setTop (mkF m 104 #[.val (.int p0), .val (.long q1), .second, .val (.int p2), .val (.int p3), .val (.ref b1), .val (.int (own_at p2)), .val (.int (own_en p2 p3)), .unset] [])) _
      refine XS.iconst X20.here hx rfl (hb hby at_104) ?_
      show Steps p.tables e below (T20.setTop (mkF m 105 #[.val (.int p0), .val (.long q1), .second, .val (.int p2), .val (.int p3), .val (.ref b1), .val (.int (own_at p2)), .val (.int (own_en p2 p3)), .unset] [(.int (0 : Int32))])) _
      refine XS.istore X20.here hx rfl (hb hby at_105) rfl (l' := #[.val (.int p0), .val (.long q1), .second, .val (.int p2), .val (.int p3), .val (.ref b1), .val (.int (own_at p2)), .val (.int (own_en p2 p3)), .val (.int (0 : Int32))]) rfl ?_
      show Steps p.tables e below (T20.setTop (mkF m 107 #[.val (.int p0), .val (.long q1), .second, .val (.int p2), .val (.int p3), .val (.ref b1), .val (.int (own_at p2)), .val (.int (own_en p2 p3)), .val (.int (0 : Int32))] [])) _
      refine XS.goto X20.here hx rfl (pc0 := 107) (pc' := 209) rfl (hb hby at_107) (by decide) (by decide) ?_
      show Steps p.tables e below (T20.setTop (mkF m 209 #[.val (.int p0), .val (.long q1), .second, .val (.int p2), .val (.int p3), .val (.ref b1), .val (.int (own_at p2)), .val (.int (own_en p2 p3)), .val (.int (0 : Int32))] [])) _
      refine XS.aload X20.here hx rfl (hb hby at_209) rfl rfl ?_
      show Steps p.tables e below (T20.setTop (mkF m 211 #[.val (.int p0), .val (.long q1), .second, .val (.int p2), .val (.int p3), .val (.ref b1), .val (.int (own_at p2)), .val (.int (own_en p2 p3)), .val (.int (0 : Int32))] [(.ref b1)])) _
      refine XS.iload X20.here hx rfl (hb hby at_211) rfl ?_
      show Steps p.tables e below (T20.setTop (mkF m 213 #[.val (.int p0), .val (.long q1), .second, .val (.int p2), .val (.int p3), .val (.ref b1), .val (.int (own_at p2)), .val (.int (own_en p2 p3)), .val (.int (0 : Int32))] [(.int (own_at p2)), (.ref b1)])) _
      refine XS.iload X20.here hx rfl (hb hby at_213) rfl ?_
      show Steps p.tables e below (T20.setTop (mkF m 215 #[.val (.int p0), .val (.long q1), .second, .val (.int p2), .val (.int p3), .val (.ref b1), .val (.int (own_at p2)), .val (.int (own_en p2 p3)), .val (.int (0 : Int32))] [(.int (own_en p2 p3)), (.int (own_at p2)), (.ref b1)])) _
      refine st24 _ ?_
      show Steps p.tables e below (T24.setTop (mkF m 218 #[.val (.int p0), .val (.long q1), .second, .val (.int p2), .val (.int p3), .val (.ref b1), .val (.int (own_at p2)), .val (.int (own_en p2 p3)), .val (.int (0 : Int32))] [(.int (Int32.ofNat (own_scan (own_arr (z2.toInt8.toInt32) (z5.toInt8.toInt32) (z8.toInt8.toInt32) (z11.toInt8.toInt32) (z14.toInt8.toInt32) (z17.toInt8.toInt32)) a (e1 - a))))])) _
      refine XS.iload X24.here hx rfl (hb hby at_218) rfl ?_
      show Steps p.tables e below (T24.setTop (mkF m 220 #[.val (.int p0), .val (.long q1), .second, .val (.int p2), .val (.int p3), .val (.ref b1), .val (.int (own_at p2)), .val (.int (own_en p2 p3)), .val (.int (0 : Int32))] [(.int (0 : Int32)), (.int (Int32.ofNat (own_scan (own_arr (z2.toInt8.toInt32) (z5.toInt8.toInt32) (z8.toInt8.toInt32) (z11.toInt8.toInt32) (z14.toInt8.toInt32) (z17.toInt8.toInt32)) a (e1 - a))))])) _
      refine XS.icmpNo X24.here hx rfl (hb hby at_220) rfl (teq (own_leaf (own_arr (z2.toInt8.toInt32) (z5.toInt8.toInt32) (z8.toInt8.toInt32) (z11.toInt8.toInt32) (z14.toInt8.toInt32) (z17.toInt8.toInt32)) a e1 0 hae he6 (by decide) (fun j hj => absurd hj (by omega)) (by rw [← ha, ← he]; exact hs101_23))).2 ?_
      show Steps p.tables e below (T24.setTop (mkF m 223 #[.val (.int p0), .val (.long q1), .second, .val (.int p2), .val (.int p3), .val (.ref b1), .val (.int (own_at p2)), .val (.int (own_en p2 p3)), .val (.int (0 : Int32))] [])) _
      refine XS.iconst X24.here hx rfl (hb hby at_223) ?_
      show Steps p.tables e below (T24.setTop (mkF m 224 #[.val (.int p0), .val (.long q1), .second, .val (.int p2), .val (.int p3), .val (.ref b1), .val (.int (own_at p2)), .val (.int (own_en p2 p3)), .val (.int (0 : Int32))] [(.int (1 : Int32))])) _
      refine XS.goto X24.here hx rfl (pc0 := 224) (pc' := 228) rfl (hb hby at_224) (by decide) (by decide) ?_
      show Steps p.tables e below (T24.setTop (mkF m 228 #[.val (.int p0), .val (.long q1), .second, .val (.int p2), .val (.int p3), .val (.ref b1), .val (.int (own_at p2)), .val (.int (own_en p2 p3)), .val (.int (0 : Int32))] [(.int (1 : Int32))])) _
      exact retN X24 hx (t := .boolean) Bd.returns (by simp) (hb hby at_228) hr
    · show Q0 Z p0 h0 n0 _ T24.heap _
      rw [eq24]
      exact ⟨rfl, N24⟩
set_option maxRecDepth 65536 in
set_option maxHeartbeats 40000000 in
theorem comes_1 {Post : Tables → Env → Array Value → State → Outcome → State → Prop} (hpost : ∀ tb e args s v u, (limb_1_1.after args s (.returned v) u = true ∧ limb_1_2.after args s (.returned v) u = true ∧ True) → FrameEnd s (.returned v) u (Jvm.fieldLocs frame_1_writes args s ++ Jvm.arrayLocs frame_1_arrays args s ++ Jvm.staticLocs frame_1_statics s) 16 128 → Post tb e args s (.returned v) u) :
    ArmFor flags0 classFile x code maxLocals ret World_1 tables_1 room_1 Calls_1 rest_1 Pre_1 Post := by
  intro l hfl _ _ p e ha hc hk s m args below hf hA hF happ hP
  obtain ⟨hcalls, hrest, hpre⟩ := hP
  obtain ⟨-, -, -, hnamed, -, -, -, hat⟩ := (Spec.applies_iff hf).mp happ
  obtain ⟨hg, hn⟩ := and_e (Cond.before_iff.mp (show (Jvm.Cond.and given_1 narrow_1).before args s = true from hpre))
  obtain ⟨g1, g2⟩ := and_e hg
  obtain ⟨g3, g4⟩ := and_e g2
  obtain ⟨g5, g6⟩ := and_e g4
  obtain ⟨g7, g8⟩ := and_e g6
  obtain ⟨w0, w1, w2, w3, rfl⟩ : ∃ w0 w1 w2 w3 : Value, args = #[w0, w1, w2, w3] := by
    have hs : args.size = 4 := by simpa [Cond.value, given_1] using g1
    obtain ⟨L⟩ := args
    match L, hs with
    | [w0, w1, w2, w3], _ => exact ⟨w0, w1, w2, w3, rfl⟩
  have hw := fun d (hd : d ∈ tables_1) => atoms_spec (ws := Jvm.Cond.code x code maxLocals ret :: tables_1) hat d (List.mem_cons_of_mem _ hd)
  have hfit : Fit s := fun {y c} hc i hi => by
    obtain ⟨ha, rfl⟩ := Array.getElem?_eq_some_iff.mp hc
    have q := List.all_eq_true.mp ((Array.all_eq_true_iff_forall_mem.mp hF) _ (Array.getElem_mem ha)) i (List.mem_range.mpr hi)
    simpa [Array.getElem?_eq_getElem hi] using q
  obtain ⟨i0, ei0⟩ := is_v g3
  obtain rfl : w0 = (.int i0) := Option.some.inj ei0
  obtain ⟨i1, ei1⟩ := isL_v g5
  obtain rfl : w1 = (.long i1) := Option.some.inj ei1
  obtain ⟨i2, ei2⟩ := is_v g7
  obtain rfl : w2 = (.int i2) := Option.some.inj ei2
  obtain ⟨i3, ei3⟩ := is_v g8
  obtain rfl : w3 = (.int i3) := Option.some.inj ei3
  obtain ⟨n, o, h1, h2, h3, _, L, rfl, ⟨rfl, N⟩, hq⟩ := rm0 l s _ hw tables_1 i0 i1 i2 i3 s.heap s.heap.size (Nat.le_refl _) p e ha hc hk s m _ below hf ((Spec.applies_iff_loose hf).mp happ).1 ⟨rfl, State.Warmed39.refl s, rfl⟩ trivial
  refine ⟨n, _, h1, h2, h3, hpost _ _ _ _ _ _ ⟨Cond.after_iff.mpr rfl, Cond.after_iff.mpr (eq_i res_at (Term.int_eval (1)) rfl), trivial⟩ ⟨hq.1, hq.2.1, (hq.2.2.sift fun y hy => Or.inr (N y hy)).mono (by decide) (by decide)⟩⟩
theorem main_1_1 : Claimed_1_1 := comes_1 fun _ _ _ _ _ _ h hF => ⟨h.1, hF⟩
theorem main_1_2 : Claimed_1_2 := comes_1 fun _ _ _ _ _ _ h hF => ⟨h.2.1, hF⟩
end Jvm.Pilot.@@N@@
namespace Jvm.Pilot.@@N@@
open Jvm Jvm.ClassFile Sem Op Lib Jvm.Free Jvm.Stand Jvm.Pilot.@@N@@.Jvm.D
/-! MADE BY PROGRAM (witnessworld.py) out of the Statement's table words and the real class files: 9 classes; the members and pool entries that the words name. The judged class is class 1, her method 3. -/
namespace start1
open Jvm.ClassFile
def u (s : String) : CpInfo := .utf8 (stringToUtf16 s)
/-- a pool by its gaps: so many unusable entries, then the entry; so many at the end -/
def gap : Nat → List CpInfo → List CpInfo
  | 0, r => r
  | n + 1, r => .unusable :: gap n r
def poolList (es : List (Nat × CpInfo)) (last : Nat) : List CpInfo := es.foldr (fun e r => gap e.1 (e.2 :: r)) (gap last [])
def pool (es : List (Nat × CpInfo)) (last : Nat) : Array CpInfo := ⟨poolList es last⟩
def fileOf (pool : Array CpInfo) (this : Nat) (attrs : Array Attribute := #[]) (ms : Array MethodInfo := #[]) (fl : Nat := 33) (sup : Nat := 0) (ifs : Array Nat := #[]) (fds : Array FieldInfo := #[]) : ClassFile where
  minorVersion := 0
  majorVersion := 65
  constantPool := pool
  accessFlags := fl
  thisClass := this
  superClass := sup
  interfaces := ifs
  fields := fds
  methods := ms
  attributes := attrs
def plain (name : String) (sup : Option ClassId) : Class where
  name := name
  kind := .ordinary
  loader := none
  accessFlags := 33
  super := sup
  interfaces := #[]
  cf := none
  fields := #[]
  methods := #[]
  instanceTypes := #[]
  staticTypes := #[]
  resolved := #[]
  callSites := []
  init := .initialized
  statics := none
  mirror := none

def pool0 : Array CpInfo := pool [(5, u "<init>"), (0, u "()V"), (1, .class_ 10), (1, u "java/lang/Object")] 113

def k0m0 : Method := { name := "<init>", desc := "()V", sig := { parameters := [], returnType := none }, accessFlags := 1, code := none }
/-- java/lang/Object -/
def k0 : Class := { plain "java/lang/Object" none with
  accessFlags := 33
  interfaces := #[]
  cf := some (fileOf pool0 8 #[] #[{ accessFlags := 1, nameIndex := 5, descriptorIndex := 6, attributes := #[] }] 33 0 #[] #[])
  fields := #[]
  methods := #[k0m0]
  instanceTypes := #[]
  staticTypes := #[]
  resolved := Array.replicate 124 none
  statics := none }

def pool1 : Array CpInfo := pool [(2, .class_ 4), (1, u "java/lang/Object"), (0, u "<init>"), (0, u "()V"), (0, .methodref 8 9), (0, .class_ 10), (0, .nameAndType 11 12), (0, u "com/example/mormorio/mormorio/client/LinesLineFeedPinLaw"), (0, u "pick"), (0, u "(IJI)B"), (0, .integer 2147483647), (0, .methodref 8 15), (0, .nameAndType 16 17), (0, u "hit"), (0, u "([BIII)Z"), (0, .methodref 19 20), (0, .class_ 21), (0, .nameAndType 22 23), (0, u "com/example/mormorio/mormorio/client/Lines"), (0, u "lineFeed"), (0, u "([BII)I"), (3, u "law"), (0, u "(IJII)Z")] 4

def k1m0 : Method := { name := "<init>", desc := "()V", sig := { parameters := [], returnType := none }, accessFlags := 1, code := none }
def k1c1 : Code := { maxStack := 4, maxLocals := 4, code := method_2_code, exceptionTable := #[], attributes := #[] }
def k1m1 : Method := { name := "pick", desc := "(IJI)B", sig := { parameters := [.int, .long, .int], returnType := some .byte }, accessFlags := 10, code := some k1c1 }
def k1c2 : Code := { maxStack := 2, maxLocals := 4, code := method_3_code, exceptionTable := #[], attributes := #[] }
def k1m2 : Method := { name := "hit", desc := "([BIII)Z", sig := { parameters := [(.array .byte), .int, .int, .int], returnType := some .boolean }, accessFlags := 10, code := some k1c2 }
def k1c3 : Code := { maxStack := 6, maxLocals := 9, code := code, exceptionTable := #[], attributes := #[] }
def k1m3 : Method := { name := "law", desc := "(IJII)Z", sig := { parameters := [.int, .long, .int, .int], returnType := some .boolean }, accessFlags := 9, code := some k1c3 }
/-- com/example/mormorio/mormorio/client/LinesLineFeedPinLaw -/
def k1 : Class := { plain "com/example/mormorio/mormorio/client/LinesLineFeedPinLaw" (some 0) with
  accessFlags := 49
  interfaces := #[]
  cf := some (fileOf pool1 8 #[] #[{ accessFlags := 1, nameIndex := 5, descriptorIndex := 6, attributes := #[] }, { accessFlags := 10, nameIndex := 11, descriptorIndex := 12, attributes := #[] }, { accessFlags := 10, nameIndex := 16, descriptorIndex := 17, attributes := #[] }, { accessFlags := 9, nameIndex := 27, descriptorIndex := 28, attributes := #[] }] 49 2 #[] #[])
  fields := #[]
  methods := #[k1m0, k1m1, k1m2, k1m3]
  instanceTypes := #[]
  staticTypes := #[]
  resolved := Array.replicate 33 none
  statics := none }

def pool2 : Array CpInfo := pool [(2, .class_ 4), (1, u "java/lang/Object"), (0, u "<init>"), (0, u "()V"), (1, .class_ 10), (1, u "com/example/mormorio/mormorio/client/Lines"), (0, u "lineFeed"), (0, u "([BII)I")] 18

def k2m0 : Method := { name := "<init>", desc := "()V", sig := { parameters := [], returnType := none }, accessFlags := 2, code := none }
def k2c1 : Code := { maxStack := 2, maxLocals := 4, code := prog_40_method_2_code, exceptionTable := #[], attributes := #[] }
def k2m1 : Method := { name := "lineFeed", desc := "([BII)I", sig := { parameters := [(.array .byte), .int, .int], returnType := some .int }, accessFlags := 8, code := some k2c1 }
/-- com/example/mormorio/mormorio/client/Lines -/
def k2 : Class := { plain "com/example/mormorio/mormorio/client/Lines" (some 0) with
  accessFlags := 48
  interfaces := #[]
  cf := some (fileOf pool2 8 #[] #[{ accessFlags := 2, nameIndex := 5, descriptorIndex := 6, attributes := #[] }, { accessFlags := 8, nameIndex := 11, descriptorIndex := 12, attributes := #[] }] 48 2 #[] #[])
  fields := #[]
  methods := #[k2m0, k2m1]
  instanceTypes := #[]
  staticTypes := #[]
  resolved := Array.replicate 31 none
  statics := none }

def pool3 : Array CpInfo := pool [(1, u "java/lang/Cloneable"), (0, .class_ 1), (0, u "java/lang/Object"), (0, .class_ 3)] 3

/-- java/lang/Cloneable -/
def k3 : Class := { plain "java/lang/Cloneable" (some 0) with
  accessFlags := 1537
  interfaces := #[]
  cf := some (fileOf pool3 2 #[] #[] 1537 4 #[] #[])
  fields := #[]
  methods := #[]
  instanceTypes := #[]
  staticTypes := #[]
  resolved := Array.replicate 8 none
  statics := none }

def pool4 : Array CpInfo := pool [(1, u "java/io/Serializable"), (0, .class_ 1), (0, u "java/lang/Object"), (0, .class_ 3)] 3

/-- java/io/Serializable -/
def k4 : Class := { plain "java/io/Serializable" (some 0) with
  accessFlags := 1537
  interfaces := #[]
  cf := some (fileOf pool4 2 #[] #[] 1537 4 #[] #[])
  fields := #[]
  methods := #[]
  instanceTypes := #[]
  staticTypes := #[]
  resolved := Array.replicate 8 none
  statics := none }

/-- the primitive byte -/
def k5 : Class := { plain "byte" none with kind := .primitive 'B', accessFlags := 0x411 }
/-- [B -/
def k6 : Class := { plain "[B" (some 0) with kind := .array 5 .byte, interfaces := #[3, 4], accessFlags := 1041 }

/-- the primitive int -/
def k7 : Class := { plain "int" none with kind := .primitive 'I', accessFlags := 0x411 }
/-- [I -/
def k8 : Class := { plain "[I" (some 0) with kind := .array 7 .int, interfaces := #[3, 4], accessFlags := 1041 }

def heap : Heap := #[]
def classes : Array Class := #[k0, k1, k2, k3, k4, k5, k6, k7, k8]
def interned : List (Array UInt16 × Addr) := []
def slotsUsed : Nat := 0
def theMethod : MethodId := ⟨1, 3⟩
def args0 : Array Value := #[.int 5, .long 6, .int 7, .int 8]
def aboutOver (below : List Frame) : State where
  vm := { classes := classes, interned := interned.toArray }
  heap := heap
  slotsUsed := slotsUsed
  threads := #[{ frames := .invoking theMethod args0 :: below }]
def below0 : List Frame := [.native { method := ⟨0, 0⟩, args := #[] }]
def about1 : State := aboutOver below0
def p0 : Program := .bare "" "" ""
def e0 : Env := launch0.env 0 0 0
theorem w_frames : about1.frames = Frame.invoking theMethod args0 :: below0 := rfl
set_option maxRecDepth 65536 in
theorem w_args : argsFit about1.vm theMethod args0 = true := by decide +kernel
set_option maxRecDepth 65536 in
theorem w_heap : heapFits about1 = true := by decide +kernel
set_option maxRecDepth 65536 in
theorem w_runnable : about1.curStatus? = some .runnable := by decide +kernel
set_option maxRecDepth 65536 in
theorem w_alone : about1.alone = true := by decide +kernel
set_option maxRecDepth 65536 in
theorem w_named : about1.methodNamed? x = some theMethod := by decide +kernel
set_option maxRecDepth 65536 in
theorem w_hears : about1.hears theMethod below0 = true := by decide +kernel
set_option maxRecDepth 65536 in
theorem w_ripe : about1.ripe theMethod args0 below0 = true := by decide +kernel
theorem w_running : about1.status = .running := rfl
set_option maxRecDepth 65536 in
theorem w_room : about1.hasRoom e0.platform room_1 = true :=
  launch0.hasRoom_least _ room_1 (by decide +kernel) (by decide +kernel) (by decide +kernel) (by decide +kernel) (by decide +kernel) (by decide +kernel)
theorem allAtoms_all (ts : List Jvm.Cond) (a : Array Jvm.Value) (st : Jvm.State) : (allAtoms ts).before a st = ts.all (fun c => c.before a st) := by
  induction ts with
  | nil => rfl
  | cons c t ih =>
    show (Jvm.Cond.and c (allAtoms t)).before a st = _
    rw [Jvm.Cond.before_and, ih, List.all_cons]
def words1 : List Jvm.Cond := Jvm.Cond.code x code maxLocals ret :: tables_1
/-- a 'code' word, met by the world's own term for the bytes: nothing is compared byte by byte -/
theorem code_word {y : MethodName} {bytes : ByteArray} {mx : Nat} {rt : Option FieldType} {a : Array Value} {s : State} {m : MethodId} {meth : Method} {c : Code} (h1 : s.methodNamed? y = some m) (h2 : s.vm.method? m = some meth) (h3 : meth.code = some c) (h4 : c.code = bytes)
    (h5 : (c.maxLocals == mx && c.exceptionTable.isEmpty && decide (c.maxStack ≤ mostOperands) && decide (meth.sig.returnType = rt) && !meth.locks && decide (parseMethodDescriptor y.desc = some meth.sig)) = true) : (Jvm.Cond.code y bytes mx rt).before a s = true := by
  simp only [Bool.and_eq_true, beq_iff_eq, Bool.not_eq_true', decide_eq_true_eq] at h5
  obtain ⟨⟨⟨⟨⟨g1, g2⟩, g3⟩, g4⟩, g5⟩, g6⟩ := h5
  simp [Cond.before, Cond.holds, Cond.value, h1, h2, h3, h4, g1, g2, g3, g4, g5, g6]
def isCode : Jvm.Cond → Bool
  | .code _ _ _ _ => true
  | _ => false
theorem all_split {L : List Jvm.Cond} {P : Jvm.Cond → Bool} (h1 : L.all (fun c => isCode c || P c) = true) (h2 : ∀ c ∈ L.filter isCode, P c = true) : L.all P = true := by
  refine List.all_eq_true.mpr fun c hc => ?_
  have h := List.all_eq_true.mp h1 c hc
  rcases Bool.eq_false_or_eq_true (isCode c) with hi | hi
  · exact h2 c (List.mem_filter.mpr ⟨hc, hi⟩)
  · simpa [hi] using h
set_option maxRecDepth 65536 in
theorem w_c0 : (Jvm.Cond.code x code maxLocals ret).before args0 about1 = true := code_word (m := ⟨1, 3⟩) (meth := k1m3) (c := k1c3) (by decide +kernel) rfl rfl rfl (by decide +kernel)
set_option maxRecDepth 65536 in
theorem w_c1 : (Jvm.Cond.code ({ cls := "com/example/mormorio/mormorio/client/LinesLineFeedPinLaw", name := "pick", desc := "(IJI)B" } : Jvm.MethodName) method_2_code (4 : Nat) (Option.some Jvm.ClassFile.FieldType.byte)).before args0 about1 = true := code_word (m := ⟨1, 1⟩) (meth := k1m1) (c := k1c1) (by decide +kernel) rfl rfl rfl (by decide +kernel)
set_option maxRecDepth 65536 in
theorem w_c2 : (Jvm.Cond.code ({ cls := "com/example/mormorio/mormorio/client/LinesLineFeedPinLaw", name := "hit", desc := "([BIII)Z" } : Jvm.MethodName) method_3_code (4 : Nat) (Option.some Jvm.ClassFile.FieldType.boolean)).before args0 about1 = true := code_word (m := ⟨1, 2⟩) (meth := k1m2) (c := k1c2) (by decide +kernel) rfl rfl rfl (by decide +kernel)
set_option maxRecDepth 65536 in
theorem w_c3 : (Jvm.Cond.code ({ cls := "com/example/mormorio/mormorio/client/Lines", name := "lineFeed", desc := "([BII)I" } : Jvm.MethodName) prog_40_method_2_code (4 : Nat) (Option.some Jvm.ClassFile.FieldType.int)).before args0 about1 = true := code_word (m := ⟨2, 1⟩) (meth := k2m1) (c := k2c1) (by decide +kernel) rfl rfl rfl (by decide +kernel)
def codes1 : List Jvm.Cond := [Jvm.Cond.code x code maxLocals ret, Jvm.Cond.code ({ cls := "com/example/mormorio/mormorio/client/LinesLineFeedPinLaw", name := "pick", desc := "(IJI)B" } : Jvm.MethodName) method_2_code (4 : Nat) (Option.some Jvm.ClassFile.FieldType.byte), Jvm.Cond.code ({ cls := "com/example/mormorio/mormorio/client/LinesLineFeedPinLaw", name := "hit", desc := "([BIII)Z" } : Jvm.MethodName) method_3_code (4 : Nat) (Option.some Jvm.ClassFile.FieldType.boolean), Jvm.Cond.code ({ cls := "com/example/mormorio/mormorio/client/Lines", name := "lineFeed", desc := "([BII)I" } : Jvm.MethodName) prog_40_method_2_code (4 : Nat) (Option.some Jvm.ClassFile.FieldType.int)]
set_option maxRecDepth 65536 in
theorem codes_eq : words1.filter isCode = codes1 := rfl
theorem w_codes : ∀ c ∈ words1.filter isCode, c.before args0 about1 = true := by
  rw [codes_eq]
  intro c hc
  simp only [codes1, List.mem_cons, List.not_mem_nil, or_false] at hc
  rcases hc with rfl | rfl | rfl | rfl
  · exact w_c0
  · exact w_c1
  · exact w_c2
  · exact w_c3
set_option maxRecDepth 65536 in
theorem w_t1 : words1.all (fun c => isCode c || c.before args0 about1) = true := by decide +kernel
theorem w_tables : (allAtoms (Jvm.Cond.code x code maxLocals ret :: tables_1)).before args0 about1 = true := by
  rw [allAtoms_all]
  show words1.all (fun c => c.before args0 about1) = true
  refine all_split ?_ w_codes
  rw [w_t1]
set_option maxRecDepth 65536 in
theorem w_case : (Jvm.Cond.and given_1 narrow_1).before args0 about1 = true := by decide +kernel
theorem w_applies : (headSpec (Jvm.Cond.code x code maxLocals ret :: tables_1) room_1).applies x e0.platform about1 = true :=
  (Spec.applies_iff w_frames).mpr ⟨w_running, w_runnable, w_alone, w_named, w_hears, w_ripe, w_room, w_tables⟩
theorem atStart : AtStart classFile x code maxLocals ret World_1 tables_1 room_1 Calls_1 rest_1 Pre_1 launch0 p0 e0 about1 theMethod args0 below0 :=
  ⟨lists_1, trivial, launch0.admits_env _ _ _, launch0.least_env, fairChoices_fair.cas, fairChoices_fair.clock, w_frames, w_args, w_heap, w_applies, trivial, trivial, w_case⟩
end start1
theorem witness_1 : WitnessClaimed_1 := ⟨start1.p0, start1.e0, start1.about1, start1.theMethod, start1.args0, start1.below0, start1.atStart⟩
end Jvm.Pilot.@@N@@
