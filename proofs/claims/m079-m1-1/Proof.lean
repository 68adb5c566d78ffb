import JvmDerived
import JvmDerived.Pilot.@@N@@Statement
import JvmDerived.Pilot.@@N@@Code
set_option linter.unusedVariables false
set_option linter.unusedSimpArgs false
namespace Jvm.RoadKit
open Sem ClassFile Op Lib Jvm.Stand Jvm.Free Jvm.LawKit
section New
variable {p : Program} {l : Launch} {e : Env} {R : Room} {s : State} {m : MethodId} {args : Array Value} {below : List Frame} {meth : Method} {c : Code} {T : State} {locs : List Loc} {cells slots : Nat}
theorem retI (X : Stand p l e R s m args below meth c T locs cells slots) (hx : p.tables.exec = Jvm.exec) {pc : Nat} {Ls : Array Slot} {z : Int32} {rest : List Value} (hret : meth.sig.returnType = some .int) (hd : decode c.code pc = .ok (.ireturn, 1)) {fs : List Frame}
    (hl : ∀ (f : JFrame) (acts : List Action), f.method = m → f.locked = none → f.entered = [] → (doReturn e (T.setTop f) acts (some (.int z))).1 = T.setFrames fs) : Steps p.tables e below (T.setTop (mkF m pc Ls (.int z :: rest))) (T.setFrames fs) := by
  have hm' : T.vm.method? m = some meth := X.method'
  have hn : narrow .int (.int z) = .int z := rfl
  show Steps p.tables e below (T.setTop { method := m, pc := pc, locals := Ls, stack := _ :: rest, locked := none }) _
  jvm_step X.here [X.here.top, hx, hd, hm', hret, hn]
  first | (intro acts; rw [hl _ acts rfl rfl rfl]) | rw [hl _ _ rfl rfl rfl]
  exact Steps.refl _
theorem own_retJ (X : Stand p l e R s m args below meth c T locs cells slots) (hx : p.tables.exec = Jvm.exec) {pc : Nat} {Ls : Array Slot} {z : Int64} {rest : List Value} (hret : meth.sig.returnType = some .long) (hd : decode c.code pc = .ok (.lreturn, 1)) {fs : List Frame}
    (hl : ∀ (f : JFrame) (acts : List Action), f.method = m → f.locked = none → f.entered = [] → (doReturn e (T.setTop f) acts (some (.long z))).1 = T.setFrames fs) : Steps p.tables e below (T.setTop (mkF m pc Ls (.long z :: rest))) (T.setFrames fs) := by
  have hm' : T.vm.method? m = some meth := X.method'
  have hn : narrow .long (.long z) = .long z := rfl
  show Steps p.tables e below (T.setTop { method := m, pc := pc, locals := Ls, stack := _ :: rest, locked := none }) _
  jvm_step X.here [X.here.top, hx, hd, hm', hret, hn]
  first | (intro acts; rw [hl _ acts rfl rfl rfl]) | rw [hl _ _ rfl rfl rfl]
  exact Steps.refl _
theorem own_retD (X : Stand p l e R s m args below meth c T locs cells slots) (hx : p.tables.exec = Jvm.exec) {pc : Nat} {Ls : Array Slot} {z : UInt64} {rest : List Value} (hret : meth.sig.returnType = some .double) (hd : decode c.code pc = .ok (.dreturn, 1)) {fs : List Frame}
    (hl : ∀ (f : JFrame) (acts : List Action), f.method = m → f.locked = none → f.entered = [] → (doReturn e (T.setTop f) acts (some (.double z))).1 = T.setFrames fs) : Steps p.tables e below (T.setTop (mkF m pc Ls (.double z :: rest))) (T.setFrames fs) := by
  have hm' : T.vm.method? m = some meth := X.method'
  have hn : narrow .double (.double z) = .double z := rfl
  show Steps p.tables e below (T.setTop { method := m, pc := pc, locals := Ls, stack := _ :: rest, locked := none }) _
  jvm_step X.here [X.here.top, hx, hd, hm', hret, hn]
  first | (intro acts; rw [hl _ acts rfl rfl rfl]) | rw [hl _ _ rfl rfl rfl]
  exact Steps.refl _
end New
end Jvm.RoadKit
namespace Jvm.Pilot.@@N@@
open Jvm Jvm.ClassFile Sem Op Lib Jvm.Free Jvm.Stand Jvm.LawKit Jvm.RoadKit Bundle Jvm.Pilot.@@N@@.Jvm.D
theorem own_hide {p : Program} {l : Launch} {e : Env} {R : Room} {s : State} {m : MethodId} {args : Array Value} {below : List Frame} {meth : Method} {c : Code} {T : State} {locs : List Loc} {cells slots k : Nat} (X : Stand p l e R s m args below meth c T locs cells slots) (N : Fr k locs) : ∃ L', Stand p l e R s m args below meth c T L' cells slots ∧ Fr k L' := ⟨_, X, N⟩
theorem own_nin0 {a : Addr} : a ∉ ([] : List Addr) := by simp
theorem own_nin1 {a b : Addr} (h : a ≠ b) : a ∉ [b] := by simpa using h
theorem own_nin2 {a b c : Addr} (h : a ≠ b) (h' : a ≠ c) : a ∉ [b, c] := by simp [h, h']
theorem own_nin3 {a b c d : Addr} (h : a ≠ b) (h' : a ≠ c) (h'' : a ≠ d) : a ∉ [b, c, d] := by simp [h, h', h'']
theorem own_in0 {P : Addr → Prop} : ∀ x ∈ ([] : List Addr), P x := by simp
theorem own_in1 {P : Addr → Prop} {a : Addr} (h : P a) : ∀ x ∈ [a], P x := by simpa using h
theorem own_in2 {P : Addr → Prop} {a b : Addr} (h : P a) (h' : P b) : ∀ x ∈ [a, b], P x := by simp [h, h']
theorem own_in3 {P : Addr → Prop} {a b c : Addr} (h : P a) (h' : P b) (h'' : P c) : ∀ x ∈ [a, b, c], P x := by simp [h, h', h'']
def own_eb (x : UInt64) : Nat → UInt64
  | 0 => FP.dconst1
  | i + 1 => FP.ddiv (FP.dmul x (own_eb x i)) (FP.dadd (FP.i2d (Int32.ofNat (i + 1))) (FP.dmul x (own_eb x i)))
def own_ec (sn : Nat) (x : UInt64) : UInt64 :=
  FP.ddiv (own_eb x sn) (FP.dsub FP.dconst1 (FP.dmul (FP.ddiv x (FP.i2d (Int32.ofNat sn))) (FP.dsub FP.dconst1 (own_eb x sn))))
def own_x (mn : Nat) : UInt64 := FP.ddiv (FP.i2d (Int32.ofNat mn)) (4616189618054758400 : UInt64)
def own_mp (mn : Nat) : Nat → Int64
  | 0 => 1
  | 1 => (Int32.ofNat mn).toInt64
  | k + 2 => own_mp mn (k + 1) * (Int32.ofNat mn).toInt64
def own_fac : Nat → Int64
  | 0 => 1 | 1 => 1 | 2 => 2 | 3 => 6 | 4 => 24 | 5 => 120 | 6 => 720 | 7 => 5040 | _ => 40320
def own_tm (a fs fk : Int64) (k s : Int32) : Int64 := if k < s then (a * ((1 : Int64) <<< (((2 : Int32) * (s - k)) &&& 0x3f).toInt64)) * (fs / fk) else 0
def own_t (sn mn k : Nat) : Int64 := own_tm (own_mp mn k) (own_fac sn) (own_fac k) (Int32.ofNat k) (Int32.ofNat sn)
def own_sum (sn mn : Nat) : Int64 := own_t sn mn 0 + own_t sn mn 1 + own_t sn mn 2 + own_t sn mn 3 + own_t sn mn 4 + own_t sn mn 5 + own_t sn mn 6 + own_t sn mn 7
def own_nv (sn mn : Nat) : Int64 := own_mp mn sn * (Int32.ofNat sn).toInt64 * 4
def own_dv (sn mn : Nat) : Int64 := (4 * (Int32.ofNat sn).toInt64 - (Int32.ofNat mn).toInt64) * own_sum sn mn + own_nv sn mn
def own_diff (sn mn : Nat) : UInt64 := FP.dsub (FP.dmul (own_ec sn (own_x mn)) (FP.l2d (own_dv sn mn))) (FP.l2d (own_nv sn mn))
def own_tol (sn mn : Nat) : UInt64 := FP.ddiv (FP.l2d (own_dv sn mn)) (4741671816366391296 : UInt64)
def own_nn (x : UInt64) : Bool := decide (x &&& 0x7fffffffffffffff ≤ 0x7ff0000000000000)
def own_okL (x : UInt64) (i : Nat) : Bool := own_nn (FP.dmul x (own_eb x i)) && own_nn (FP.dadd (FP.i2d (Int32.ofNat (i + 1))) (FP.dmul x (own_eb x i))) && own_nn (own_eb x (i + 1))
def own_okE (sn : Nat) (x : UInt64) : Bool := (List.range sn).all (own_okL x) && own_nn (FP.ddiv x (FP.i2d (Int32.ofNat sn))) && own_nn (FP.dsub FP.dconst1 (own_eb x sn)) && own_nn (FP.dmul (FP.ddiv x (FP.i2d (Int32.ofNat sn))) (FP.dsub FP.dconst1 (own_eb x sn)))
  && own_nn (FP.dsub FP.dconst1 (FP.dmul (FP.ddiv x (FP.i2d (Int32.ofNat sn))) (FP.dsub FP.dconst1 (own_eb x sn)))) && own_nn (own_ec sn x)
def own_okC (sn mn : Nat) : Bool := own_nn (own_x mn) && own_nn (FP.dmul (own_ec sn (own_x mn)) (FP.l2d (own_dv sn mn))) && own_nn (own_diff sn mn) && own_nn (own_tol sn mn)
  && decide (¬ cmpValue (FP.dcmp (own_ec sn (own_x mn)) FP.dconst0) .l < 0) && decide (¬ 0 < cmpValue (FP.dcmp (own_ec sn (own_x mn)) FP.dconst1) .g)
  && decide (cmpValue (FP.dcmp (own_diff sn mn) (own_tol sn mn)) .g < 0) && decide (cmpValue (FP.dcmp (FP.dneg (own_diff sn mn)) (own_tol sn mn)) .g < 0)
def own_all : Bool := (List.range 9).all fun sn => sn == 0 || (List.range (4 * sn)).all fun mn => own_okE sn (own_x mn) && own_okC sn mn


set_option maxRecDepth 100000 in
theorem own_allT : own_all = true := by decide +kernel
theorem own_get (sn mn : Nat) (h1 : 1 ≤ sn) (h8 : sn ≤ 8) (hm : mn < 4 * sn) : own_okE sn (own_x mn) = true ∧ own_okC sn mn = true := by
  have h := own_allT
  unfold own_all at h
  have h2 := List.all_eq_true.mp h sn (List.mem_range.mpr (by omega))
  rw [Bool.or_eq_true] at h2
  rcases h2 with h2 | h2
  · have := beq_iff_eq.mp h2; omega
  · have h3 := List.all_eq_true.mp h2 mn (List.mem_range.mpr hm)
    exact Bool.and_eq_true_iff.mp h3
theorem own_nnT {x : UInt64} (h : own_nn x = true) : Fl.NoNaN64 x := of_decide_eq_true h
theorem own_E (sn : Nat) (x : UInt64) (h : own_okE sn x = true) : (∀ i, i < sn → Fl.NoNaN64 (FP.dmul x (own_eb x i)) ∧ Fl.NoNaN64 (FP.dadd (FP.i2d (Int32.ofNat (i + 1))) (FP.dmul x (own_eb x i))) ∧ Fl.NoNaN64 (own_eb x (i + 1))) ∧ Fl.NoNaN64 (FP.ddiv x (FP.i2d (Int32.ofNat sn))) ∧ Fl.NoNaN64 (FP.dsub FP.dconst1 (own_eb x sn)) ∧ Fl.NoNaN64 (FP.dmul (FP.ddiv x (FP.i2d (Int32.ofNat sn))) (FP.dsub FP.dconst1 (own_eb x sn)))
    ∧ Fl.NoNaN64 (FP.dsub FP.dconst1 (FP.dmul (FP.ddiv x (FP.i2d (Int32.ofNat sn))) (FP.dsub FP.dconst1 (own_eb x sn)))) ∧ Fl.NoNaN64 (own_ec sn x) := by
  unfold own_okE at h
  simp only [Bool.and_eq_true] at h
  obtain ⟨⟨⟨⟨⟨h1, h2⟩, h3⟩, h4⟩, h5⟩, h6⟩ := h
  refine ⟨fun i hi => ?_, own_nnT h2, own_nnT h3, own_nnT h4, own_nnT h5, own_nnT h6⟩
  have q := List.all_eq_true.mp h1 i (List.mem_range.mpr hi)
  unfold own_okL at q
  simp only [Bool.and_eq_true] at q
  exact ⟨own_nnT q.1.1, own_nnT q.1.2, own_nnT q.2⟩
theorem own_C (sn mn : Nat) (h : own_okC sn mn = true) : Fl.NoNaN64 (own_x mn) ∧ Fl.NoNaN64 (FP.dmul (own_ec sn (own_x mn)) (FP.l2d (own_dv sn mn))) ∧ Fl.NoNaN64 (own_diff sn mn) ∧ Fl.NoNaN64 (own_tol sn mn)
    ∧ ¬ cmpValue (FP.dcmp (own_ec sn (own_x mn)) FP.dconst0) .l < 0 ∧ ¬ 0 < cmpValue (FP.dcmp (own_ec sn (own_x mn)) FP.dconst1) .g ∧ cmpValue (FP.dcmp (own_diff sn mn) (own_tol sn mn)) .g < 0 ∧ cmpValue (FP.dcmp (FP.dneg (own_diff sn mn)) (own_tol sn mn)) .g < 0 := by
  unfold own_okC at h
  simp only [Bool.and_eq_true, decide_eq_true_eq] at h
  obtain ⟨⟨⟨⟨⟨⟨⟨h1, h2⟩, h3⟩, h4⟩, h5⟩, h6⟩, h7⟩, h8⟩ := h
  exact ⟨own_nnT h1, own_nnT h2, own_nnT h3, own_nnT h4, h5, h6, h7, h8⟩
theorem own_ofNat (n : Nat) (h : n < 64) : (Int32.ofNat n).toInt = n := by
  rw [Int32.toInt_ofNat' ]
  have : (n : Int).bmod (2 ^ 32) = n := Int.bmod_eq_of_le (by omega) (by omega)
  exact this
theorem own_lt (i j : Nat) (hi : i < 64) (hj : j < 64) : Int32.ofNat i < Int32.ofNat j ↔ i < j := by
  rw [Int32.lt_iff_toInt_lt, own_ofNat i hi, own_ofNat j hj]; omega
theorem own_nat (x : Int32) (h0 : 0 ≤ x.toInt) (h : x.toInt < 64) : x = Int32.ofNat x.toInt.toNat := by
  apply Int32.toInt_inj.mp
  rw [own_ofNat _ (by omega)]
  omega
theorem own_succ (i : Nat) (h : i < 60) : Int32.ofNat i + (1 : Int32) = Int32.ofNat (i + 1) := by
  apply Int32.toInt_inj.mp
  have h1 := c_iadd (Int32.ofNat i) 1
  have h2 := own_ofNat i (by omega)
  have h3 := own_ofNat (i + 1) (by omega)
  have h4 := rng32 (Int32.ofNat i + 1)
  have h5 : (1 : Int32).toInt = 1 := by decide
  omega
theorem own_sx (p : Int32) : ∃ sn : Nat, 1 ≤ sn ∧ sn ≤ 8 ∧ ((1 : Int32) + (p &&& (7 : Int32))) = Int32.ofNat sn := by
  have h1 := c_and p 7 (by decide)
  have h2 := c_iadd 1 (p &&& 7)
  have h3 := rng32 ((1 : Int32) + (p &&& 7))
  have h4 : (1 : Int32).toInt = 1 := by decide
  have h5 : (7 : Int32).toInt = 7 := by decide
  refine ⟨((1 : Int32) + (p &&& 7)).toInt.toNat, by omega, by omega, own_nat _ (by omega) (by omega)⟩
theorem own_den (sn : Nat) (h : sn ≤ 8) : ((4 : Int32) * (Int32.ofNat sn)).toInt = 4 * sn := by
  have h1 := c_imul 4 (Int32.ofNat sn)
  have h2 := own_ofNat sn (by omega)
  have h3 := rng32 ((4 : Int32) * (Int32.ofNat sn))
  have h4 : (4 : Int32).toInt = 4 := by decide
  rw [h4, h2] at h1
  omega
theorem own_nz (sn : Nat) (h1 : 1 ≤ sn) (h : sn ≤ 8) : ((4 : Int32) * (Int32.ofNat sn)) ≠ 0 := fun q => by
  have := own_den sn h
  rw [q] at this
  have h2 : (0 : Int32).toInt = 0 := by decide
  omega
theorem own_mx (p : Int32) (sn : Nat) (h1 : 1 ≤ sn) (h8 : sn ≤ 8) : ∃ mn : Nat, mn < 4 * sn ∧ ((p &&& (2147483647 : Int32)) % ((4 : Int32) * (Int32.ofNat sn))) = Int32.ofNat mn := by
  have h2 := c_and p 2147483647 (by decide)
  have h3 := own_den sn h8
  have h4 := (c_iremV (p &&& 2147483647) ((4 : Int32) * (Int32.ofNat sn))).1 h2.1 (by omega)
  exact ⟨((p &&& (2147483647 : Int32)) % ((4 : Int32) * (Int32.ofNat sn))).toInt.toNat, by omega, own_nat _ (by omega) (by omega)⟩
theorem own_clamp (i : Nat) (h : i < 64) : (Int32.ofNat i).toNatClampNeg = i := by
  show (Int32.ofNat i).toInt.toNat = i
  rw [own_ofNat i h]; omega
theorem own_inb (cl : Cell) (i : Nat) (S : cl.slots.size = 9) (h : i < 9) : ¬ (Int32.ofNat i < 0 ∨ cl.slots.size ≤ (Int32.ofNat i).toNatClampNeg) := by
  rw [own_clamp i (by omega), S]
  intro q
  rcases q with q | q
  · rw [Int32.lt_iff_toInt_lt, own_ofNat i (by omega)] at q
    have h2 : (0 : Int32).toInt = 0 := by decide
    omega
  · omega
theorem d1_5 : decode prog_12_method_7_code 5 = .ok (.iload 5, 2) := by decide +kernel
theorem d1_7 : decode prog_12_method_7_code 7 = .ok (.iload_n 0, 1) := by decide +kernel
theorem d1_8 : decode prog_12_method_7_code 8 = .ok (.if_icmp .gt 21, 3) := by decide +kernel
theorem d1_11 : decode prog_12_method_7_code 11 = .ok (.dload_n 1, 1) := by decide +kernel
theorem d1_12 : decode prog_12_method_7_code 12 = .ok (.dload_n 3, 1) := by decide +kernel
theorem d1_13 : decode prog_12_method_7_code 13 = .ok (.dmul, 1) := by decide +kernel
theorem d1_14 : decode prog_12_method_7_code 14 = .ok (.iload 5, 2) := by decide +kernel
theorem d1_16 : decode prog_12_method_7_code 16 = .ok (.i2d, 1) := by decide +kernel
theorem d1_17 : decode prog_12_method_7_code 17 = .ok (.dload_n 1, 1) := by decide +kernel
theorem d1_18 : decode prog_12_method_7_code 18 = .ok (.dload_n 3, 1) := by decide +kernel
theorem d1_19 : decode prog_12_method_7_code 19 = .ok (.dmul, 1) := by decide +kernel
theorem d1_20 : decode prog_12_method_7_code 20 = .ok (.dadd, 1) := by decide +kernel
theorem d1_21 : decode prog_12_method_7_code 21 = .ok (.ddiv, 1) := by decide +kernel
theorem d1_22 : decode prog_12_method_7_code 22 = .ok (.dstore_n 3, 1) := by decide +kernel
theorem d1_23 : decode prog_12_method_7_code 23 = .ok (.iinc 5 1, 3) := by decide +kernel
theorem d1_26 : decode prog_12_method_7_code 26 = .ok (.goto (-21), 3) := by decide +kernel
theorem d1_0 : decode prog_12_method_7_code 0 = .ok (.dconst 1, 1) := by decide +kernel
theorem d1_1 : decode prog_12_method_7_code 1 = .ok (.dstore_n 3, 1) := by decide +kernel
theorem d1_2 : decode prog_12_method_7_code 2 = .ok (.iconst 1, 1) := by decide +kernel
theorem d1_3 : decode prog_12_method_7_code 3 = .ok (.istore 5, 2) := by decide +kernel
theorem d1_29 : decode prog_12_method_7_code 29 = .ok (.dload_n 1, 1) := by decide +kernel
theorem d1_30 : decode prog_12_method_7_code 30 = .ok (.iload_n 0, 1) := by decide +kernel
theorem d1_31 : decode prog_12_method_7_code 31 = .ok (.i2d, 1) := by decide +kernel
theorem d1_32 : decode prog_12_method_7_code 32 = .ok (.ddiv, 1) := by decide +kernel
theorem d1_33 : decode prog_12_method_7_code 33 = .ok (.dstore 5, 2) := by decide +kernel
theorem d1_35 : decode prog_12_method_7_code 35 = .ok (.dload_n 3, 1) := by decide +kernel
theorem d1_36 : decode prog_12_method_7_code 36 = .ok (.dconst 1, 1) := by decide +kernel
theorem d1_37 : decode prog_12_method_7_code 37 = .ok (.dload 5, 2) := by decide +kernel
theorem d1_39 : decode prog_12_method_7_code 39 = .ok (.dconst 1, 1) := by decide +kernel
theorem d1_40 : decode prog_12_method_7_code 40 = .ok (.dload_n 3, 1) := by decide +kernel
theorem d1_41 : decode prog_12_method_7_code 41 = .ok (.dsub, 1) := by decide +kernel
theorem d1_42 : decode prog_12_method_7_code 42 = .ok (.dmul, 1) := by decide +kernel
theorem d1_43 : decode prog_12_method_7_code 43 = .ok (.dsub, 1) := by decide +kernel
theorem d1_44 : decode prog_12_method_7_code 44 = .ok (.ddiv, 1) := by decide +kernel
theorem d1_45 : decode prog_12_method_7_code 45 = .ok (.dreturn, 1) := by decide +kernel
theorem pn_0 : plainName "com/example/cloudletry/cloudletry/core/ResponseTimeModel" = true := by first | (simp [plainName, overriddenIn]; done) | decide +kernel
theorem ef_rm1 (m : MethodId) (p0 : Int32) (d1 : UInt64) : entryFrame m #[(.int p0), (.double d1)] 7 = mkF m 0 #[.val (.int p0), .val (.double d1), .second, .unset, .unset, .unset, .unset] [] := by first | (simp [entryFrame, mkF, argsToLocals, Value.category]; done) | rfl
def Q1 (Z : State) (sn : Nat) (d1 : UInt64) (h0 : Heap) (n0 : Nat) (v : Option Value) (h : Heap) (L : List Loc) : Prop := v = some (.double (own_ec sn d1)) ∧ Fr n0 L ∧ h = h0
set_option maxRecDepth 65536 in
set_option maxHeartbeats 40000000 in
theorem rm1 (l : Launch) (Z : State) (a0 : Array Value) (hw : ∀ d ∈ tables_1, d.before a0 Z = true) (ws : List Jvm.Cond) (p0 : Int32) (d1 : UInt64) (sn : Nat) (h0 : Heap) (n0 : Nat) (Z0 : n0 ≤ h0.size) (hp : p0 = Int32.ofNat sn) (hs8 : sn ≤ 8) (hok : own_okE sn d1 = true) :
    MetFree l (⟨"com/example/cloudletry/cloudletry/core/ResponseTimeModel", "erlangC", "(ID)D"⟩ : MethodName) (head1 (Jvm.Cond.code (⟨"com/example/cloudletry/cloudletry/core/ResponseTimeModel", "erlangC", "(ID)D"⟩ : MethodName) prog_12_method_7_code 7 (some .double) :: ws) ({ frames := 0, cells := 0, slots := 0, locals := 0 } : Room)) (fun a U => a = #[(.int p0), (.double d1)] ∧ Z.Warmed39 U.vm ∧ U.heap = h0) (fun _ _ _ _ _ => True) (fun _ U o U' => ∃ v L, o = .returned v ∧ Q1 Z sn d1 h0 n0 v U'.heap L ∧ FrameEnd U o U' L ({ frames := 0, cells := 0, slots := 0, locals := 0 } : Room).cells ({ frames := 0, cells := 0, slots := 0, locals := 0 } : Room).slots) := by
  refine MetFree.of_bodySF (plainFor_of_name pn_0) hisR ?_
  intro p e s m args below meth c s₁ Bd hml0 hP hK
  obtain ⟨rfl, hZ, hh⟩ := hP
  have hx := Bd.exec
  have hby := Bd.bytes
  have hml : c.maxLocals = 7 := hml0
  have hown : s.vm.findClass "com/example/cloudletry/cloudletry/core/ResponseTimeModel" = some m.cls := findClass_of_methodNamed Bd.named
  have hnm := (name_of_methodNamed Bd.named Bd.method).1
  have X0 : Stand p l e ({ frames := 0, cells := 0, slots := 0, locals := 0 } : Room) s m #[(.int p0), (.double d1)] below meth c s₁ [] 0 0 := Stand.of_body Bd
  have e0 : s₁.heap = h0 := by rw [← hh, Bd.state]; rfl
  have N0 := Fr.nil n0
  have pre0 : ∀ t, Steps p.tables e below (s₁.setTop (mkF m 0 #[.val (.int p0), .val (.double d1), .second, .unset, .unset, .unset, .unset] [])) t → Steps p.tables e below (s₁.setTop (entryFrame m #[(.int p0), (.double d1)] 7)) t := fun t k => castTop (ef_rm1 m p0 d1) k
  have hE := own_E sn d1 hok
  have loop : ∀ i j, j + i = sn → ∀ t, Steps p.tables e below (s₁.setTop (mkF m 29 #[.val (.int p0), .val (.double d1), .second, .val (.double (own_eb d1 sn)), .second, .val (.int (Int32.ofNat (sn + 1))), .unset] [])) t → Steps p.tables e below (s₁.setTop (mkF m 5 #[.val (.int p0), .val (.double d1), .second, .val (.double (own_eb d1 j)), .second, .val (.int (Int32.ofNat (j + 1))), .unset] [])) t := by
    intro i
    induction i with
    | zero =>
      intro j hj t kt
      obtain rfl : j = sn := by omega
      show Steps p.tables e below (s₁.setTop (mkF m 5 #[.val (.int p0), .val (.double d1), .second, .val (.double (own_eb d1 j)), .second, .val (.int (Int32.ofNat (j + 1))), .unset] [])) _
      refine XS.iload X0.here hx rfl (hb hby d1_5) rfl ?_
      show Steps p.tables e below (s₁.setTop (mkF m 7 #[.val (.int p0), .val (.double d1), .second, .val (.double (own_eb d1 j)), .second, .val (.int (Int32.ofNat (j + 1))), .unset] [(.int (Int32.ofNat (j + 1)))])) _
      refine XS.iloadN X0.here hx rfl (hb hby d1_7) rfl ?_
      show Steps p.tables e below (s₁.setTop (mkF m 8 #[.val (.int p0), .val (.double d1), .second, .val (.double (own_eb d1 j)), .second, .val (.int (Int32.ofNat (j + 1))), .unset] [(.int p0), (.int (Int32.ofNat (j + 1)))])) _
      refine XS.icmpYes X0.here hx rfl (pc0 := 8) (pc' := 29) rfl (hb hby d1_8) rfl (tlt (by rw [hp]; exact (own_lt _ _ (by omega) (by omega)).mpr (by omega))).2.2.1 (by decide) (by decide) ?_
      exact kt
    | succ i ih =>
      intro j hj t kt
      show Steps p.tables e below (s₁.setTop (mkF m 5 #[.val (.int p0), .val (.double d1), .second, .val (.double (own_eb d1 j)), .second, .val (.int (Int32.ofNat (j + 1))), .unset] [])) _
      refine XS.iload X0.here hx rfl (hb hby d1_5) rfl ?_
      show Steps p.tables e below (s₁.setTop (mkF m 7 #[.val (.int p0), .val (.double d1), .second, .val (.double (own_eb d1 j)), .second, .val (.int (Int32.ofNat (j + 1))), .unset] [(.int (Int32.ofNat (j + 1)))])) _
      refine XS.iloadN X0.here hx rfl (hb hby d1_7) rfl ?_
      show Steps p.tables e below (s₁.setTop (mkF m 8 #[.val (.int p0), .val (.double d1), .second, .val (.double (own_eb d1 j)), .second, .val (.int (Int32.ofNat (j + 1))), .unset] [(.int p0), (.int (Int32.ofNat (j + 1)))])) _
      refine XS.icmpNo X0.here hx rfl (hb hby d1_8) rfl (flt (fun q => by rw [hp] at q; exact absurd ((own_lt _ _ (by omega) (by omega)).mp q) (by omega))).2.2.1 ?_
      show Steps p.tables e below (s₁.setTop (mkF m 11 #[.val (.int p0), .val (.double d1), .second, .val (.double (own_eb d1 j)), .second, .val (.int (Int32.ofNat (j + 1))), .unset] [])) _
      refine XS.dloadN X0.here hx rfl (hb hby d1_11) rfl ?_
      show Steps p.tables e below (s₁.setTop (mkF m 12 #[.val (.int p0), .val (.double d1), .second, .val (.double (own_eb d1 j)), .second, .val (.int (Int32.ofNat (j + 1))), .unset] [(.double d1)])) _
      refine XS.dloadN X0.here hx rfl (hb hby d1_12) rfl ?_
      show Steps p.tables e below (s₁.setTop (mkF m 13 #[.val (.int p0), .val (.double d1), .second, .val (.double (own_eb d1 j)), .second, .val (.int (Int32.ofNat (j + 1))), .unset] [(.double (own_eb d1 j)), (.double d1)])) _
      refine XS.dmulS X0.here hx rfl (hb hby d1_13) rfl (hE.1 j (by omega)).1 rfl ?_
      show Steps p.tables e below (s₁.setTop (mkF m 14 #[.val (.int p0), .val (.double d1), .second, .val (.double (own_eb d1 j)), .second, .val (.int (Int32.ofNat (j + 1))), .unset] [(.double (FP.dmul d1 (own_eb d1 j)))])) _
      refine XS.iload X0.here hx rfl (hb hby d1_14) rfl ?_
      show Steps p.tables e below (s₁.setTop (mkF m 16 #[.val (.int p0), .val (.double d1), .second, .val (.double (own_eb d1 j)), .second, .val (.int (Int32.ofNat (j + 1))), .unset] [(.int (Int32.ofNat (j + 1))), (.double (FP.dmul d1 (own_eb d1 j)))])) _
      refine XS.i2dS X0.here hx rfl (hb hby d1_16) rfl rfl ?_
      show Steps p.tables e below (s₁.setTop (mkF m 17 #[.val (.int p0), .val (.double d1), .second, .val (.double (own_eb d1 j)), .second, .val (.int (Int32.ofNat (j + 1))), .unset] [(.double (FP.i2d (Int32.ofNat (j + 1)))), (.double (FP.dmul d1 (own_eb d1 j)))])) _
      refine XS.dloadN X0.here hx rfl (hb hby d1_17) rfl ?_
      show Steps p.tables e below (s₁.setTop (mkF m 18 #[.val (.int p0), .val (.double d1), .second, .val (.double (own_eb d1 j)), .second, .val (.int (Int32.ofNat (j + 1))), .unset] [(.double d1), (.double (FP.i2d (Int32.ofNat (j + 1)))), (.double (FP.dmul d1 (own_eb d1 j)))])) _
      refine XS.dloadN X0.here hx rfl (hb hby d1_18) rfl ?_
      show Steps p.tables e below (s₁.setTop (mkF m 19 #[.val (.int p0), .val (.double d1), .second, .val (.double (own_eb d1 j)), .second, .val (.int (Int32.ofNat (j + 1))), .unset] [(.double (own_eb d1 j)), (.double d1), (.double (FP.i2d (Int32.ofNat (j + 1)))), (.double (FP.dmul d1 (own_eb d1 j)))])) _
      refine XS.dmulS X0.here hx rfl (hb hby d1_19) rfl (hE.1 j (by omega)).1 rfl ?_
      show Steps p.tables e below (s₁.setTop (mkF m 20 #[.val (.int p0), .val (.double d1), .second, .val (.double (own_eb d1 j)), .second, .val (.int (Int32.ofNat (j + 1))), .unset] [(.double (FP.dmul d1 (own_eb d1 j))), (.double (FP.i2d (Int32.ofNat (j + 1)))), (.double (FP.dmul d1 (own_eb d1 j)))])) _
      refine XS.daddS X0.here hx rfl (hb hby d1_20) rfl (hE.1 j (by omega)).2.1 rfl ?_
      show Steps p.tables e below (s₁.setTop (mkF m 21 #[.val (.int p0), .val (.double d1), .second, .val (.double (own_eb d1 j)), .second, .val (.int (Int32.ofNat (j + 1))), .unset] [(.double (FP.dadd (FP.i2d (Int32.ofNat (j + 1))) (FP.dmul d1 (own_eb d1 j)))), (.double (FP.dmul d1 (own_eb d1 j)))])) _
      refine XS.ddivS X0.here hx rfl (hb hby d1_21) rfl (hE.1 j (by omega)).2.2 rfl ?_
      show Steps p.tables e below (s₁.setTop (mkF m 22 #[.val (.int p0), .val (.double d1), .second, .val (.double (own_eb d1 j)), .second, .val (.int (Int32.ofNat (j + 1))), .unset] [(.double (FP.ddiv (FP.dmul d1 (own_eb d1 j)) (FP.dadd (FP.i2d (Int32.ofNat (j + 1))) (FP.dmul d1 (own_eb d1 j)))))])) _
      refine XS.dstoreN X0.here hx rfl (hb hby d1_22) rfl (l' := #[.val (.int p0), .val (.double d1), .second, .val (.double (own_eb d1 (j + 1))), .second, .val (.int (Int32.ofNat (j + 1))), .unset]) rfl ?_
      show Steps p.tables e below (s₁.setTop (mkF m 23 #[.val (.int p0), .val (.double d1), .second, .val (.double (own_eb d1 (j + 1))), .second, .val (.int (Int32.ofNat (j + 1))), .unset] [])) _
      refine XS.iinc X0.here hx rfl (hb hby d1_23) rfl (l' := #[.val (.int p0), .val (.double d1), .second, .val (.double (own_eb d1 (j + 1))), .second, .val (.int ((Int32.ofNat (j + 1)) + (1 : Int32))), .unset]) rfl ?_
      show Steps p.tables e below (s₁.setTop (mkF m 26 #[.val (.int p0), .val (.double d1), .second, .val (.double (own_eb d1 (j + 1))), .second, .val (.int ((Int32.ofNat (j + 1)) + (1 : Int32))), .unset] [])) _
      rw [show ((Int32.ofNat (j + 1)) + (1 : Int32)) = (Int32.ofNat (j + 1 + 1)) from own_succ (j + 1) (by omega)]
      show Steps p.tables e below (s₁.setTop (mkF m 26 #[.val (.int p0), .val (.double d1), .second, .val (.double (own_eb d1 (j + 1))), .second, .val (.int (Int32.ofNat (j + 1 + 1))), .unset] [])) _
      refine XS.goto X0.here hx rfl (pc0 := 26) (pc' := 5) rfl (hb hby d1_26) (by decide) (by decide) ?_
      exact ih (j + 1) (by omega) _ kt
  obtain ⟨fs, hr, hrun, hended, hW, hsame⟩ := X0.leave (v := some (.double (own_ec sn d1))) (fun h => by rw [Bd.returns] at h; cases h)
  refine ⟨_, _, pre0 _ ?_, hrun, hended, _, _, rfl, ?_, ⟨_, rfl⟩, hW, hsame.mono (by decide) (by decide)⟩
  · show Steps p.tables e below (s₁.setTop (mkF m 0 #[.val (.int p0), .val (.double d1), .second, .unset, .unset, .unset, .unset] [])) _
    refine XS.dconst1 X0.here hx rfl (hb hby d1_0) rfl ?_
    show Steps p.tables e below (s₁.setTop (mkF m 1 #[.val (.int p0), .val (.double d1), .second, .unset, .unset, .unset, .unset] [(.double FP.dconst1)])) _
    refine XS.dstoreN X0.here hx rfl (hb hby d1_1) rfl (l' := #[.val (.int p0), .val (.double d1), .second, .val (.double FP.dconst1), .second, .unset, .unset]) rfl ?_
    show Steps p.tables e below (s₁.setTop (mkF m 2 #[.val (.int p0), .val (.double d1), .second, .val (.double FP.dconst1), .second, .unset, .unset] [])) _
    refine XS.iconst X0.here hx rfl (hb hby d1_2) ?_
    show Steps p.tables e below (s₁.setTop (mkF m 3 #[.val (.int p0), .val (.double d1), .second, .val (.double FP.dconst1), .second, .unset, .unset] [(.int (1 : Int32))])) _
    refine XS.istore X0.here hx rfl (hb hby d1_3) rfl (l' := #[.val (.int p0), .val (.double d1), .second, .val (.double FP.dconst1), .second, .val (.int (1 : Int32)), .unset]) rfl ?_
    show Steps p.tables e below (s₁.setTop (mkF m 5 #[.val (.int p0), .val (.double d1), .second, .val (.double (own_eb d1 0)), .second, .val (.int (Int32.ofNat (0 + 1))), .unset] [])) _
    refine loop sn 0 (by omega) _ ?_
    show Steps p.tables e below (s₁.setTop (mkF m 29 #[.val (.int p0), .val (.double d1), .second, .val (.double (own_eb d1 sn)), .second, .val (.int (Int32.ofNat (sn + 1))), .unset] [])) _
    refine XS.dloadN X0.here hx rfl (hb hby d1_29) rfl ?_
    show Steps p.tables e below (s₁.setTop (mkF m 30 #[.val (.int p0), .val (.double d1), .second, .val (.double (own_eb d1 sn)), .second, .val (.int (Int32.ofNat (sn + 1))), .unset] [(.double d1)])) _
    refine XS.iloadN X0.here hx rfl (hb hby d1_30) rfl ?_
    show Steps p.tables e below (s₁.setTop (mkF m 31 #[.val (.int p0), .val (.double d1), .second, .val (.double (own_eb d1 sn)), .second, .val (.int (Int32.ofNat (sn + 1))), .unset] [(.int p0), (.double d1)])) _
    refine XS.i2dS X0.here hx rfl (hb hby d1_31) rfl rfl ?_
    show Steps p.tables e below (s₁.setTop (mkF m 32 #[.val (.int p0), .val (.double d1), .second, .val (.double (own_eb d1 sn)), .second, .val (.int (Int32.ofNat (sn + 1))), .unset] [(.double (FP.i2d p0)), (.double d1)])) _
    rw [show (FP.i2d p0) = (FP.i2d (Int32.ofNat sn)) from by rw [hp]]
    show Steps p.tables e below (s₁.setTop (mkF m 32 #[.val (.int p0), .val (.double d1), .second, .val (.double (own_eb d1 sn)), .second, .val (.int (Int32.ofNat (sn + 1))), .unset] [(.double (FP.i2d (Int32.ofNat sn))), (.double d1)])) _
    refine XS.ddivS X0.here hx rfl (hb hby d1_32) rfl hE.2.1 rfl ?_
    show Steps p.tables e below (s₁.setTop (mkF m 33 #[.val (.int p0), .val (.double d1), .second, .val (.double (own_eb d1 sn)), .second, .val (.int (Int32.ofNat (sn + 1))), .unset] [(.double (FP.ddiv d1 (FP.i2d (Int32.ofNat sn))))])) _
    refine XS.dstore X0.here hx rfl (hb hby d1_33) rfl (l' := #[.val (.int p0), .val (.double d1), .second, .val (.double (own_eb d1 sn)), .second, .val (.double (FP.ddiv d1 (FP.i2d (Int32.ofNat sn)))), .second]) rfl ?_
    show Steps p.tables e below (s₁.setTop (mkF m 35 #[.val (.int p0), .val (.double d1), .second, .val (.double (own_eb d1 sn)), .second, .val (.double (FP.ddiv d1 (FP.i2d (Int32.ofNat sn)))), .second] [])) _
    refine XS.dloadN X0.here hx rfl (hb hby d1_35) rfl ?_
    show Steps p.tables e below (s₁.setTop (mkF m 36 #[.val (.int p0), .val (.double d1), .second, .val (.double (own_eb d1 sn)), .second, .val (.double (FP.ddiv d1 (FP.i2d (Int32.ofNat sn)))), .second] [(.double (own_eb d1 sn))])) _
    refine XS.dconst1 X0.here hx rfl (hb hby d1_36) rfl ?_
    show Steps p.tables e below (s₁.setTop (mkF m 37 #[.val (.int p0), .val (.double d1), .second, .val (.double (own_eb d1 sn)), .second, .val (.double (FP.ddiv d1 (FP.i2d (Int32.ofNat sn)))), .second] [(.double FP.dconst1), (.double (own_eb d1 sn))])) _
    refine XS.dload X0.here hx rfl (hb hby d1_37) rfl ?_
    show Steps p.tables e below (s₁.setTop (mkF m 39 #[.val (.int p0), .val (.double d1), .second, .val (.double (own_eb d1 sn)), .second, .val (.double (FP.ddiv d1 (FP.i2d (Int32.ofNat sn)))), .second] [(.double (FP.ddiv d1 (FP.i2d (Int32.ofNat sn)))), (.double FP.dconst1), (.double (own_eb d1 sn))])) _
    refine XS.dconst1 X0.here hx rfl (hb hby d1_39) rfl ?_
    show Steps p.tables e below (s₁.setTop (mkF m 40 #[.val (.int p0), .val (.double d1), .second, .val (.double (own_eb d1 sn)), .second, .val (.double (FP.ddiv d1 (FP.i2d (Int32.ofNat sn)))), .second] [(.double FP.dconst1), (.double (FP.ddiv d1 (FP.i2d (Int32.ofNat sn)))), (.double FP.dconst1), (.double (own_eb d1 sn))])) _
    refine XS.dloadN X0.here hx rfl (hb hby d1_40) rfl ?_
    show Steps p.tables e below (s₁.setTop (mkF m 41 #[.val (.int p0), .val (.double d1), .second, .val (.double (own_eb d1 sn)), .second, .val (.double (FP.ddiv d1 (FP.i2d (Int32.ofNat sn)))), .second] [(.double (own_eb d1 sn)), (.double FP.dconst1), (.double (FP.ddiv d1 (FP.i2d (Int32.ofNat sn)))), (.double FP.dconst1), (.double (own_eb d1 sn))])) _
    refine XS.dsubS X0.here hx rfl (hb hby d1_41) rfl hE.2.2.1 rfl ?_
    show Steps p.tables e below (s₁.setTop (mkF m 42 #[.val (.int p0), .val (.double d1), .second, .val (.double (own_eb d1 sn)), .second, .val (.double (FP.ddiv d1 (FP.i2d (Int32.ofNat sn)))), .second] [(.double (FP.dsub FP.dconst1 (own_eb d1 sn))), (.double (FP.ddiv d1 (FP.i2d (Int32.ofNat sn)))), (.double FP.dconst1), (.double (own_eb d1 sn))])) _
    refine XS.dmulS X0.here hx rfl (hb hby d1_42) rfl hE.2.2.2.1 rfl ?_
    show Steps p.tables e below (s₁.setTop (mkF m 43 #[.val (.int p0), .val (.double d1), .second, .val (.double (own_eb d1 sn)), .second, .val (.double (FP.ddiv d1 (FP.i2d (Int32.ofNat sn)))), .second] [(.double (FP.dmul (FP.ddiv d1 (FP.i2d (Int32.ofNat sn))) (FP.dsub FP.dconst1 (own_eb d1 sn)))), (.double FP.dconst1), (.double (own_eb d1 sn))])) _
    refine XS.dsubS X0.here hx rfl (hb hby d1_43) rfl hE.2.2.2.2.1 rfl ?_
    show Steps p.tables e below (s₁.setTop (mkF m 44 #[.val (.int p0), .val (.double d1), .second, .val (.double (own_eb d1 sn)), .second, .val (.double (FP.ddiv d1 (FP.i2d (Int32.ofNat sn)))), .second] [(.double (FP.dsub FP.dconst1 (FP.dmul (FP.ddiv d1 (FP.i2d (Int32.ofNat sn))) (FP.dsub FP.dconst1 (own_eb d1 sn))))), (.double (own_eb d1 sn))])) _
    refine XS.ddivS X0.here hx rfl (hb hby d1_44) rfl hE.2.2.2.2.2 rfl ?_
    show Steps p.tables e below (s₁.setTop (mkF m 45 #[.val (.int p0), .val (.double d1), .second, .val (.double (own_eb d1 sn)), .second, .val (.double (FP.ddiv d1 (FP.i2d (Int32.ofNat sn)))), .second] [(.double (own_ec sn d1))])) _
    exact own_retD X0 hx Bd.returns (hb hby d1_45) hr
  · show Q1 Z sn d1 h0 n0 _ s₁.heap _
    rw [e0]
    exact ⟨rfl, N0, rfl⟩
theorem d2_0 : decode method_3_code 0 = .ok (.iload_n 0, 1) := by decide +kernel
theorem d2_1 : decode method_3_code 1 = .ok (.iload_n 1, 1) := by decide +kernel
theorem d2_2 : decode method_3_code 2 = .ok (.if_icmp .lt 5, 3) := by decide +kernel
theorem d2_7 : decode method_3_code 7 = .ok (.aload_n 2, 1) := by decide +kernel
theorem d2_8 : decode method_3_code 8 = .ok (.iload_n 0, 1) := by decide +kernel
theorem d2_9 : decode method_3_code 9 = .ok (.laload, 1) := by decide +kernel
theorem d2_10 : decode method_3_code 10 = .ok (.lconst 1, 1) := by decide +kernel
theorem d2_11 : decode method_3_code 11 = .ok (.iconst 2, 1) := by decide +kernel
theorem d2_12 : decode method_3_code 12 = .ok (.iload_n 1, 1) := by decide +kernel
theorem d2_13 : decode method_3_code 13 = .ok (.iload_n 0, 1) := by decide +kernel
theorem d2_14 : decode method_3_code 14 = .ok (.isub, 1) := by decide +kernel
theorem d2_15 : decode method_3_code 15 = .ok (.imul, 1) := by decide +kernel
theorem d2_16 : decode method_3_code 16 = .ok (.lshl, 1) := by decide +kernel
theorem d2_17 : decode method_3_code 17 = .ok (.lmul, 1) := by decide +kernel
theorem d2_18 : decode method_3_code 18 = .ok (.aload_n 3, 1) := by decide +kernel
theorem d2_19 : decode method_3_code 19 = .ok (.iload_n 1, 1) := by decide +kernel
theorem d2_20 : decode method_3_code 20 = .ok (.laload, 1) := by decide +kernel
theorem d2_21 : decode method_3_code 21 = .ok (.aload_n 3, 1) := by decide +kernel
theorem d2_22 : decode method_3_code 22 = .ok (.iload_n 0, 1) := by decide +kernel
theorem d2_23 : decode method_3_code 23 = .ok (.laload, 1) := by decide +kernel
theorem d2_24 : decode method_3_code 24 = .ok (.ldiv, 1) := by decide +kernel
theorem d2_25 : decode method_3_code 25 = .ok (.lmul, 1) := by decide +kernel
theorem d2_26 : decode method_3_code 26 = .ok (.lreturn, 1) := by decide +kernel
theorem d2_5 : decode method_3_code 5 = .ok (.lconst 0, 1) := by decide +kernel
theorem d2_6 : decode method_3_code 6 = .ok (.lreturn, 1) := by decide +kernel
theorem pn_1 : plainName "com/example/cloudletry/cloudletry/core/ResponseTimeModelErlangCPinLaw" = true := by first | (simp [plainName, overriddenIn]; done) | decide +kernel
theorem ef_rm2 (m : MethodId) (p0 : Int32) (p1 : Int32) (r2 : Addr) (r3 : Addr) : entryFrame m #[(.int p0), (.int p1), (.ref r2), (.ref r3)] 4 = mkF m 0 #[.val (.int p0), .val (.int p1), .val (.ref r2), .val (.ref r3)] [] := by first | (simp [entryFrame, mkF, argsToLocals, Value.category]; done) | rfl
def Q2 (Z : State) (p0 : Int32) (p1 : Int32) (a : Int64) (fS : Int64) (fk : Int64) (h0 : Heap) (n0 : Nat) (v : Option Value) (h : Heap) (L : List Loc) : Prop := v = some (.long (own_tm a fS fk p0 p1)) ∧ Fr n0 L ∧ h = h0
set_option maxRecDepth 65536 in
set_option maxHeartbeats 40000000 in
theorem rm2 (l : Launch) (Z : State) (a0 : Array Value) (hw : ∀ d ∈ tables_1, d.before a0 Z = true) (ws : List Jvm.Cond) (p0 : Int32) (p1 : Int32) (r2 : Addr) (r3 : Addr) (clm clf : Cell) (a fS fk : Int64) (h0 : Heap) (n0 : Nat) (Z0 : n0 ≤ h0.size) (Arm : Arr Z h0 r2 clm .long) (Arf : Arr Z h0 r3 clf .long) (hinm : ¬ (p0 < 0 ∨ clm.slots.size ≤ p0.toNatClampNeg)) (hatm : clm.slots[p0.toNatClampNeg]? = some (.long a)) (hins : ¬ (p1 < 0 ∨ clf.slots.size ≤ p1.toNatClampNeg)) (hats : clf.slots[p1.toNatClampNeg]? = some (.long fS)) (hink : ¬ (p0 < 0 ∨ clf.slots.size ≤ p0.toNatClampNeg)) (hatk : clf.slots[p0.toNatClampNeg]? = some (.long fk)) (hfk : ¬ (fk = (0 : Int64))) :
    MetFree l (⟨"com/example/cloudletry/cloudletry/core/ResponseTimeModelErlangCPinLaw", "term", "(II[J[J)J"⟩ : MethodName) (head1 (Jvm.Cond.code (⟨"com/example/cloudletry/cloudletry/core/ResponseTimeModelErlangCPinLaw", "term", "(II[J[J)J"⟩ : MethodName) method_3_code 4 (some .long) :: ws) ({ frames := 0, cells := 0, slots := 0, locals := 0 } : Room)) (fun a U => a = #[(.int p0), (.int p1), (.ref r2), (.ref r3)] ∧ Z.Warmed39 U.vm ∧ U.heap = h0) (fun _ _ _ _ _ => True) (fun _ U o U' => ∃ v L, o = .returned v ∧ Q2 Z p0 p1 a fS fk h0 n0 v U'.heap L ∧ FrameEnd U o U' L ({ frames := 0, cells := 0, slots := 0, locals := 0 } : Room).cells ({ frames := 0, cells := 0, slots := 0, locals := 0 } : Room).slots) := by
  refine MetFree.of_bodySF (plainFor_of_name pn_1) hisR ?_
  intro p e s m args below meth c s₁ Bd hml0 hP hK
  obtain ⟨rfl, hZ, hh⟩ := hP
  have hx := Bd.exec
  have hby := Bd.bytes
  have hml : c.maxLocals = 4 := hml0
  have hown : s.vm.findClass "com/example/cloudletry/cloudletry/core/ResponseTimeModelErlangCPinLaw" = some m.cls := findClass_of_methodNamed Bd.named
  have hnm := (name_of_methodNamed Bd.named Bd.method).1
  have X0 : Stand p l e ({ frames := 0, cells := 0, slots := 0, locals := 0 } : Room) s m #[(.int p0), (.int p1), (.ref r2), (.ref r3)] below meth c s₁ [] 0 0 := Stand.of_body Bd
  have e0 : s₁.heap = h0 := by rw [← hh, Bd.state]; rfl
  have N0 := Fr.nil n0
  have pre0 : ∀ t, Steps p.tables e below (s₁.setTop (mkF m 0 #[.val (.int p0), .val (.int p1), .val (.ref r2), .val (.ref r3)] [])) t → Steps p.tables e below (s₁.setTop (entryFrame m #[(.int p0), (.int p1), (.ref r2), (.ref r3)] 4)) t := fun t k => castTop (ef_rm2 m p0 p1 r2 r3) k
  have pre1 : ∀ t, Steps p.tables e below (s₁.setTop (mkF m 2 #[.val (.int p0), .val (.int p1), .val (.ref r2), .val (.ref r3)] [(.int p1), (.int p0)])) t → Steps p.tables e below (s₁.setTop (entryFrame m #[(.int p0), (.int p1), (.ref r2), (.ref r3)] 4)) t := by
    intro t kt
    refine pre0 _ ?_
    show Steps p.tables e below (s₁.setTop (mkF m 0 #[.val (.int p0), .val (.int p1), .val (.ref r2), .val (.ref r3)] [])) _
    refine XS.iloadN X0.here hx rfl (hb hby d2_0) rfl ?_
    show Steps p.tables e below (s₁.setTop (mkF m 1 #[.val (.int p0), .val (.int p1), .val (.ref r2), .val (.ref r3)] [(.int p0)])) _
    refine XS.iloadN X0.here hx rfl (hb hby d2_1) rfl ?_
    show Steps p.tables e below (s₁.setTop (mkF m 2 #[.val (.int p0), .val (.int p1), .val (.ref r2), .val (.ref r3)] [(.int p1), (.int p0)])) _
    exact kt
  by_cases hs2_2 : p0 < p1
  · obtain ⟨fs, hr, hrun, hended, hW, hsame⟩ := X0.leave (v := some (.long ((a * ((1 : Int64) <<< (((2 : Int32) * (p1 - p0)) &&& 0x3f).toInt64)) * (fS / fk)))) (fun h => by rw [Bd.returns] at h; cases h)
    refine ⟨_, _, pre1 _ ?_, hrun, hended, _, _, rfl, ?_, ⟨_, rfl⟩, hW, hsame.mono (by decide) (by decide)⟩
    · show Steps p.tables e below (s₁.setTop (mkF m 2 #[.val (.int p0), .val (.int p1), .val (.ref r2), .val (.ref r3)] [(.int p1), (.int p0)])) _
      refine XS.icmpYes X0.here hx rfl (pc0 := 2) (pc' := 7) rfl (hb hby d2_2) rfl (tlt hs2_2).1 (by decide) (by decide) ?_
      show Steps p.tables e below (s₁.setTop (mkF m 7 #[.val (.int p0), .val (.int p1), .val (.ref r2), .val (.ref r3)] [])) _
      refine XS.aloadN X0.here hx rfl (hb hby d2_7) rfl rfl ?_
      show Steps p.tables e below (s₁.setTop (mkF m 8 #[.val (.int p0), .val (.int p1), .val (.ref r2), .val (.ref r3)] [(.ref r2)])) _
      refine XS.iloadN X0.here hx rfl (hb hby d2_8) rfl ?_
      show Steps p.tables e below (s₁.setTop (mkF m 9 #[.val (.int p0), .val (.int p1), .val (.ref r2), .val (.ref r3)] [(.int p0), (.ref r2)])) _
      refine X0.laload hx (j := p0) (v := (.long a)) (by rw [e0]; exact Arm.1) (State.isArrayOf_alike hZ.alike Arm.2.1) Arm.2.2 hinm hatm (g := (mkF m 9 #[.val (.int p0), .val (.int p1), .val (.ref r2), .val (.ref r3)] [(.int p0), (.ref r2)])) rfl rfl (hb hby d2_9) _ ?_
      show Steps p.tables e below (s₁.setTop (mkF m 10 #[.val (.int p0), .val (.int p1), .val (.ref r2), .val (.ref r3)] [(.long a)])) _
      refine XS.lconst X0.here hx rfl (hb hby d2_10) ?_
      show Steps p.tables e below (s₁.setTop (mkF m 11 #[.val (.int p0), .val (.int p1), .val (.ref r2), .val (.ref r3)] [(.long (1 : Int64)), (.long a)])) _
      refine XS.iconst X0.here hx rfl (hb hby d2_11) ?_
      show Steps p.tables e below (s₁.setTop (mkF m 12 #[.val (.int p0), .val (.int p1), .val (.ref r2), .val (.ref r3)] [(.int (2 : Int32)), (.long (1 : Int64)), (.long a)])) _
      refine XS.iloadN X0.here hx rfl (hb hby d2_12) rfl ?_
      show Steps p.tables e below (s₁.setTop (mkF m 13 #[.val (.int p0), .val (.int p1), .val (.ref r2), .val (.ref r3)] [(.int p1), (.int (2 : Int32)), (.long (1 : Int64)), (.long a)])) _
      refine XS.iloadN X0.here hx rfl (hb hby d2_13) rfl ?_
      show Steps p.tables e below (s₁.setTop (mkF m 14 #[.val (.int p0), .val (.int p1), .val (.ref r2), .val (.ref r3)] [(.int p0), (.int p1), (.int (2 : Int32)), (.long (1 : Int64)), (.long a)])) _
      refine XS.isub X0.here hx rfl (hb hby d2_14) rfl ?_
      show Steps p.tables e below (s₁.setTop (mkF m 15 #[.val (.int p0), .val (.int p1), .val (.ref r2), .val (.ref r3)] [(.int (p1 - p0)), (.int (2 : Int32)), (.long (1 : Int64)), (.long a)])) _
      refine XS.imul X0.here hx rfl (hb hby d2_15) rfl ?_
      show Steps p.tables e below (s₁.setTop (mkF m 16 #[.val (.int p0), .val (.int p1), .val (.ref r2), .val (.ref r3)] [(.int ((2 : Int32) * (p1 - p0))), (.long (1 : Int64)), (.long a)])) _
      refine XS.lshl X0.here hx rfl (hb hby d2_16) rfl ?_
      show Steps p.tables e below (s₁.setTop (mkF m 17 #[.val (.int p0), .val (.int p1), .val (.ref r2), .val (.ref r3)] [(.long ((1 : Int64) <<< (((2 : Int32) * (p1 - p0)) &&& 0x3f).toInt64)), (.long a)])) _
      refine XS.lmul X0.here hx rfl (hb hby d2_17) rfl ?_
      show Steps p.tables e below (s₁.setTop (mkF m 18 #[.val (.int p0), .val (.int p1), .val (.ref r2), .val (.ref r3)] [(.long (a * ((1 : Int64) <<< (((2 : Int32) * (p1 - p0)) &&& 0x3f).toInt64)))])) _
      refine XS.aloadN X0.here hx rfl (hb hby d2_18) rfl rfl ?_
      show Steps p.tables e below (s₁.setTop (mkF m 19 #[.val (.int p0), .val (.int p1), .val (.ref r2), .val (.ref r3)] [(.ref r3), (.long (a * ((1 : Int64) <<< (((2 : Int32) * (p1 - p0)) &&& 0x3f).toInt64)))])) _
      refine XS.iloadN X0.here hx rfl (hb hby d2_19) rfl ?_
      show Steps p.tables e below (s₁.setTop (mkF m 20 #[.val (.int p0), .val (.int p1), .val (.ref r2), .val (.ref r3)] [(.int p1), (.ref r3), (.long (a * ((1 : Int64) <<< (((2 : Int32) * (p1 - p0)) &&& 0x3f).toInt64)))])) _
      refine X0.laload hx (j := p1) (v := (.long fS)) (by rw [e0]; exact Arf.1) (State.isArrayOf_alike hZ.alike Arf.2.1) Arf.2.2 hins hats (g := (mkF m 20 #[.val (.int p0), .val (.int p1), .val (.ref r2), .val (.ref r3)] [(.int p1), (.ref r3), (.long (a * ((1 : Int64) <<< (((2 : Int32) * (p1 - p0)) &&& 0x3f).toInt64)))])) rfl rfl (hb hby d2_20) _ ?_
      show Steps p.tables e below (s₁.setTop (mkF m 21 #[.val (.int p0), .val (.int p1), .val (.ref r2), .val (.ref r3)] [(.long fS), (.long (a * ((1 : Int64) <<< (((2 : Int32) * (p1 - p0)) &&& 0x3f).toInt64)))])) _
      refine XS.aloadN X0.here hx rfl (hb hby d2_21) rfl rfl ?_
      show Steps p.tables e below (s₁.setTop (mkF m 22 #[.val (.int p0), .val (.int p1), .val (.ref r2), .val (.ref r3)] [(.ref r3), (.long fS), (.long (a * ((1 : Int64) <<< (((2 : Int32) * (p1 - p0)) &&& 0x3f).toInt64)))])) _
      refine XS.iloadN X0.here hx rfl (hb hby d2_22) rfl ?_
      show Steps p.tables e below (s₁.setTop (mkF m 23 #[.val (.int p0), .val (.int p1), .val (.ref r2), .val (.ref r3)] [(.int p0), (.ref r3), (.long fS), (.long (a * ((1 : Int64) <<< (((2 : Int32) * (p1 - p0)) &&& 0x3f).toInt64)))])) _
      refine X0.laload hx (j := p0) (v := (.long fk)) (by rw [e0]; exact Arf.1) (State.isArrayOf_alike hZ.alike Arf.2.1) Arf.2.2 hink hatk (g := (mkF m 23 #[.val (.int p0), .val (.int p1), .val (.ref r2), .val (.ref r3)] [(.int p0), (.ref r3), (.long fS), (.long (a * ((1 : Int64) <<< (((2 : Int32) * (p1 - p0)) &&& 0x3f).toInt64)))])) rfl rfl (hb hby d2_23) _ ?_
      show Steps p.tables e below (s₁.setTop (mkF m 24 #[.val (.int p0), .val (.int p1), .val (.ref r2), .val (.ref r3)] [(.long fk), (.long fS), (.long (a * ((1 : Int64) <<< (((2 : Int32) * (p1 - p0)) &&& 0x3f).toInt64)))])) _
      refine XS.ldiv X0.here hx rfl (hb hby d2_24) rfl hfk ?_
      show Steps p.tables e below (s₁.setTop (mkF m 25 #[.val (.int p0), .val (.int p1), .val (.ref r2), .val (.ref r3)] [(.long (fS / fk)), (.long (a * ((1 : Int64) <<< (((2 : Int32) * (p1 - p0)) &&& 0x3f).toInt64)))])) _
      refine XS.lmul X0.here hx rfl (hb hby d2_25) rfl ?_
      show Steps p.tables e below (s₁.setTop (mkF m 26 #[.val (.int p0), .val (.int p1), .val (.ref r2), .val (.ref r3)] [(.long ((a * ((1 : Int64) <<< (((2 : Int32) * (p1 - p0)) &&& 0x3f).toInt64)) * (fS / fk)))])) _
      exact own_retJ X0 hx Bd.returns (hb hby d2_26) hr
    · show Q2 Z p0 p1 a fS fk h0 n0 _ s₁.heap _
      rw [e0]
      exact ⟨by simp only [own_tm, if_pos hs2_2], N0, rfl⟩
  · obtain ⟨fs, hr, hrun, hended, hW, hsame⟩ := X0.leave (v := some (.long (0 : Int64))) (fun h => by rw [Bd.returns] at h; cases h)
    refine ⟨_, _, pre1 _ ?_, hrun, hended, _, _, rfl, ?_, ⟨_, rfl⟩, hW, hsame.mono (by decide) (by decide)⟩
    · show Steps p.tables e below (s₁.setTop (mkF m 2 #[.val (.int p0), .val (.int p1), .val (.ref r2), .val (.ref r3)] [(.int p1), (.int p0)])) _
      refine XS.icmpNo X0.here hx rfl (hb hby d2_2) rfl (flt hs2_2).1 ?_
      show Steps p.tables e below (s₁.setTop (mkF m 5 #[.val (.int p0), .val (.int p1), .val (.ref r2), .val (.ref r3)] [])) _
      refine XS.lconst X0.here hx rfl (hb hby d2_5) ?_
      show Steps p.tables e below (s₁.setTop (mkF m 6 #[.val (.int p0), .val (.int p1), .val (.ref r2), .val (.ref r3)] [(.long (0 : Int64))])) _
      exact own_retJ X0 hx Bd.returns (hb hby d2_6) hr
    · show Q2 Z p0 p1 a fS fk h0 n0 _ s₁.heap _
      rw [e0]
      exact ⟨by simp only [own_tm, if_neg hs2_2], N0, rfl⟩
theorem pd_0 : parseMethodDescriptor "(ID)D" = some ⟨[.int, .double], some .double⟩ := by decide +kernel
theorem pd_1 : parseMethodDescriptor "(II[J[J)J" = some ⟨[.int, .int, (.array .long), (.array .long)], some .long⟩ := by decide +kernel
theorem ef_rm0 (m : MethodId) (p0 : Int32) (p1 : Int32) : entryFrame m #[(.int p0), (.int p1)] maxLocals = mkF m 0 #[.val (.int p0), .val (.int p1), .unset, .unset, .unset, .unset, .unset, .unset, .unset, .unset, .unset, .unset, .unset, .unset, .unset, .unset, .unset, .unset, .unset, .unset] [] := by first | (simp [entryFrame, mkF, argsToLocals, Value.category, maxLocals]; done) | rfl
def Q0 (Z : State) (p0 : Int32) (h0 : Heap) (n0 : Nat) (v : Option Value) (h : Heap) (L : List Loc) : Prop := v = some (.int 1) ∧ Fr n0 L
set_option maxRecDepth 65536 in
set_option maxHeartbeats 40000000 in
theorem rm0 (l : Launch) (Z : State) (a0 : Array Value) (hw : ∀ d ∈ tables_1, d.before a0 Z = true) (ws : List Jvm.Cond) (p0 : Int32) (p1 : Int32) (h0 : Heap) (n0 : Nat) (Z0 : n0 ≤ h0.size) :
    MetFree l x (head1 (Jvm.Cond.code x code maxLocals ret :: ws) room_1) (fun a U => a = #[(.int p0), (.int p1)] ∧ Z.Warmed39 U.vm ∧ U.heap = h0) (fun _ _ _ _ _ => True) (fun _ U o U' => ∃ v L, o = .returned v ∧ Q0 Z p0 h0 n0 v U'.heap L ∧ FrameEnd U o U' L room_1.cells room_1.slots) := by
  refine MetFree.of_bodySF (plainFor_of_name pn_1) hisR ?_
  intro p e s m args below meth c s₁ Bd hml0 hP hK
  obtain ⟨rfl, hZ, hh⟩ := hP
  have hx := Bd.exec
  have hby := Bd.bytes
  have hml : c.maxLocals = 20 := hml0
  have hown : s.vm.findClass "com/example/cloudletry/cloudletry/core/ResponseTimeModelErlangCPinLaw" = some m.cls := findClass_of_methodNamed Bd.named
  have hnm := (name_of_methodNamed Bd.named Bd.method).1
  have X0 : Stand p l e room_1 s m #[(.int p0), (.int p1)] below meth c s₁ [] 0 0 := Stand.of_body Bd
  have e0 : s₁.heap = h0 := by rw [← hh, Bd.state]; rfl
  have N0 := Fr.nil n0
  have pre0 : ∀ t, Steps p.tables e below (s₁.setTop (mkF m 0 #[.val (.int p0), .val (.int p1), .unset, .unset, .unset, .unset, .unset, .unset, .unset, .unset, .unset, .unset, .unset, .unset, .unset, .unset, .unset, .unset, .unset, .unset] [])) t → Steps p.tables e below (s₁.setTop (entryFrame m #[(.int p0), (.int p1)] maxLocals)) t := fun t k => castTop (ef_rm0 m p0 p1) k
  obtain ⟨sn, hs1, hs8, hsx⟩ := own_sx p0
  obtain ⟨mn, hmn, hmx⟩ := own_mx p1 sn hs1 hs8
  have hg := own_get sn mn hs1 hs8 hmn
  have hC := own_C sn mn hg.2
  obtain ⟨_, _, ⟨T1, L1, k1, n1⟩, -, X1, ⟨Lc1, hQ1, l1, y1, z1⟩, st1⟩ := Jvm.LawKit.callS X0 hx (y := (⟨"com/example/cloudletry/cloudletry/core/ResponseTimeModel", "erlangC", "(ID)D"⟩ : MethodName)) hown (mvT hZ (hw _ (List.mem_of_getElem? (i := 2) rfl))) (mvT hZ (hw _ (List.mem_of_getElem? (i := 3) rfl))) (mvT hZ (hw _ (List.mem_of_getElem? (i := 4) rfl))) (mvT hZ (hw _ (List.mem_of_getElem? (i := 5) rfl))) (by decide) (backOf (W := 0) (rm1 l Z a0 hw [] (Int32.ofNat sn) (own_x mn) sn h0 n0 Z0 rfl hs8 hg.1) hZ (hw _ (List.mem_of_getElem? (i := 5) rfl)) (hw _ (List.mem_of_getElem? (i := 4) rfl)) (by decide) (by decide)) (g := (mkF m 27 #[.val (.int p0), .val (.int p1), .val (.int (Int32.ofNat sn)), .val (.int (Int32.ofNat mn)), .val (.double (own_x mn)), .second, .unset, .unset, .unset, .unset, .unset, .unset, .unset, .unset, .unset, .unset, .unset, .unset, .unset, .unset] [(.double (own_x mn)), (.int (Int32.ofNat sn))])) rfl (by rw [hml]; rfl) (argsL := [(.int (Int32.ofNat sn)), (.double (own_x mn))]) (rest := []) (lenOf pd_0 rfl) rfl (by show 2 * 0 + _ ≤ _; exact Nat.le_of_eq rfl) (hb hby at_27) (fun _ _ => ⟨rfl, e0, (by decide : 0 + 0 ≤ _), (by decide : 0 + 0 ≤ _)⟩)
  dsimp only [Pt.U, Pt.locs, Pt.cells, Pt.slots] at X1 l1 y1 z1 st1 hQ1
  subst l1 y1 z1
  obtain ⟨rfl, N1q, eq1⟩ := hQ1
  have N1 := Fr.app N0 N1q
  obtain ⟨LL1, X1, N1⟩ := own_hide X1 N1
  obtain ⟨T2, h2, k2, X2, e2, E2, A2, st2⟩ := newP X1 hx hZ (hw _ (List.mem_of_getElem? (i := 6) rfl)) eq1 (g := (mkF m 34 #[.val (.int p0), .val (.int p1), .val (.int (Int32.ofNat sn)), .val (.int (Int32.ofNat mn)), .val (.double (own_x mn)), .second, .val (.double (own_ec sn (own_x mn))), .second, .unset, .unset, .unset, .unset, .unset, .unset, .unset, .unset, .unset, .unset, .unset, .unset] [(.int (9 : Int32))])) rfl (hb hby at_34) rfl (by decide) (cap := 9) (by decide) (by decide) (by decide) (by decide)
  obtain ⟨b2, gg2⟩ : ∃ z, z = h0.size := ⟨_, rfl⟩
  rw [← gg2] at A2 st2
  have g_b2 : n0 ≤ b2 := Nat.le_trans Z0 (Nat.le_of_eq gg2.symm)
  have sz_b2 : h0.size ≤ b2 := Nat.le_trans (Nat.le_refl h0.size) (Nat.le_of_eq gg2.symm)
  have V_b2 : Arv Z h2 b2 k2 .long (9 : Int32) [(.long (0 : Int64)), (.long (0 : Int64)), (.long (0 : Int64)), (.long (0 : Int64)), (.long (0 : Int64)), (.long (0 : Int64)), (.long (0 : Int64)), (.long (0 : Int64)), (.long (0 : Int64))] (.long (0 : Int64)) := (Arv.new A2 (by decide)).pad (pad_rep [] (.long (0 : Int64)) 9)
  obtain ⟨cl_b2_39, Ar_b2_39, q_b2_39, S_b2_39, N_b2_39, H_b2_39, G_b2_39⟩ := V_b2
  have hin39 : ¬ ((0 : Int32) < 0 ∨ cl_b2_39.slots.size ≤ ((0 : Int32)).toNatClampNeg) := inb_of S_b2_39 ⟨by decide, by decide⟩
  obtain ⟨T3, h3, X3, e3, W3, st3⟩ := stJ X2 hx hZ e2 Ar_b2_39 (j := (0 : Int32)) hin39 (g := (mkF m 39 #[.val (.int p0), .val (.int p1), .val (.int (Int32.ofNat sn)), .val (.int (Int32.ofNat mn)), .val (.double (own_x mn)), .second, .val (.double (own_ec sn (own_x mn))), .second, .unset, .unset, .unset, .unset, .unset, .unset, .unset, .unset, .unset, .unset, .unset, .unset] [(.long (1 : Int64)), (.int (0 : Int32)), (.ref b2), (.ref b2)])) rfl rfl (hb hby at_39)
  have V_b2_3 := Arv.set Ar_b2_39 q_b2_39 S_b2_39 N_b2_39 H_b2_39 G_b2_39 rfl W3 0 rfl (Nat.le_of_ble_eq_true rfl)
  have N3 := Fr.snoc X3 N1 g_b2
  obtain ⟨LL3, X3, N3⟩ := own_hide X3 N3
  obtain ⟨cl_b2_43, Ar_b2_43, q_b2_43, S_b2_43, N_b2_43, H_b2_43, G_b2_43⟩ := V_b2_3
  have hin43 : ¬ ((1 : Int32) < 0 ∨ cl_b2_43.slots.size ≤ ((1 : Int32)).toNatClampNeg) := inb_of S_b2_43 ⟨by decide, by decide⟩
  obtain ⟨T4, h4, X4, e4, W4, st4⟩ := stJ X3 hx hZ e3 Ar_b2_43 (j := (1 : Int32)) hin43 (g := (mkF m 43 #[.val (.int p0), .val (.int p1), .val (.int (Int32.ofNat sn)), .val (.int (Int32.ofNat mn)), .val (.double (own_x mn)), .second, .val (.double (own_ec sn (own_x mn))), .second, .unset, .unset, .unset, .unset, .unset, .unset, .unset, .unset, .unset, .unset, .unset, .unset] [(.long (1 : Int64)), (.int (1 : Int32)), (.ref b2), (.ref b2)])) rfl rfl (hb hby at_43)
  have V_b2_4 := Arv.set Ar_b2_43 q_b2_43 S_b2_43 N_b2_43 H_b2_43 G_b2_43 rfl W4 1 rfl (Nat.le_of_ble_eq_true rfl)
  have N4 := Fr.snoc X4 N3 g_b2
  obtain ⟨LL4, X4, N4⟩ := own_hide X4 N4
  obtain ⟨cl_b2_49, Ar_b2_49, q_b2_49, S_b2_49, N_b2_49, H_b2_49, G_b2_49⟩ := V_b2_4
  have hin49 : ¬ ((2 : Int32) < 0 ∨ cl_b2_49.slots.size ≤ ((2 : Int32)).toNatClampNeg) := inb_of S_b2_49 ⟨by decide, by decide⟩
  obtain ⟨T5, h5, X5, e5, W5, st5⟩ := stJ X4 hx hZ e4 Ar_b2_49 (j := (2 : Int32)) hin49 (g := (mkF m 49 #[.val (.int p0), .val (.int p1), .val (.int (Int32.ofNat sn)), .val (.int (Int32.ofNat mn)), .val (.double (own_x mn)), .second, .val (.double (own_ec sn (own_x mn))), .second, .unset, .unset, .unset, .unset, .unset, .unset, .unset, .unset, .unset, .unset, .unset, .unset] [(.long (2 : Int64)), (.int (2 : Int32)), (.ref b2), (.ref b2)])) rfl rfl (hb hby at_49)
  have V_b2_5 := Arv.set Ar_b2_49 q_b2_49 S_b2_49 N_b2_49 H_b2_49 G_b2_49 rfl W5 2 rfl (Nat.le_of_ble_eq_true rfl)
  have N5 := Fr.snoc X5 N4 g_b2
  obtain ⟨LL5, X5, N5⟩ := own_hide X5 N5
  obtain ⟨cl_b2_55, Ar_b2_55, q_b2_55, S_b2_55, N_b2_55, H_b2_55, G_b2_55⟩ := V_b2_5
  have hin55 : ¬ ((3 : Int32) < 0 ∨ cl_b2_55.slots.size ≤ ((3 : Int32)).toNatClampNeg) := inb_of S_b2_55 ⟨by decide, by decide⟩
  obtain ⟨T6, h6, X6, e6, W6, st6⟩ := stJ X5 hx hZ e5 Ar_b2_55 (j := (3 : Int32)) hin55 (g := (mkF m 55 #[.val (.int p0), .val (.int p1), .val (.int (Int32.ofNat sn)), .val (.int (Int32.ofNat mn)), .val (.double (own_x mn)), .second, .val (.double (own_ec sn (own_x mn))), .second, .unset, .unset, .unset, .unset, .unset, .unset, .unset, .unset, .unset, .unset, .unset, .unset] [(.long (6 : Int64)), (.int (3 : Int32)), (.ref b2), (.ref b2)])) rfl rfl (hb hby at_55)
  have V_b2_6 := Arv.set Ar_b2_55 q_b2_55 S_b2_55 N_b2_55 H_b2_55 G_b2_55 rfl W6 3 rfl (Nat.le_of_ble_eq_true rfl)
  have N6 := Fr.snoc X6 N5 g_b2
  obtain ⟨LL6, X6, N6⟩ := own_hide X6 N6
  obtain ⟨cl_b2_61, Ar_b2_61, q_b2_61, S_b2_61, N_b2_61, H_b2_61, G_b2_61⟩ := V_b2_6
  have hin61 : ¬ ((4 : Int32) < 0 ∨ cl_b2_61.slots.size ≤ ((4 : Int32)).toNatClampNeg) := inb_of S_b2_61 ⟨by decide, by decide⟩
  obtain ⟨T7, h7, X7, e7, W7, st7⟩ := stJ X6 hx hZ e6 Ar_b2_61 (j := (4 : Int32)) hin61 (g := (mkF m 61 #[.val (.int p0), .val (.int p1), .val (.int (Int32.ofNat sn)), .val (.int (Int32.ofNat mn)), .val (.double (own_x mn)), .second, .val (.double (own_ec sn (own_x mn))), .second, .unset, .unset, .unset, .unset, .unset, .unset, .unset, .unset, .unset, .unset, .unset, .unset] [(.long (24 : Int64)), (.int (4 : Int32)), (.ref b2), (.ref b2)])) rfl rfl (hb hby at_61)
  have V_b2_7 := Arv.set Ar_b2_61 q_b2_61 S_b2_61 N_b2_61 H_b2_61 G_b2_61 rfl W7 4 rfl (Nat.le_of_ble_eq_true rfl)
  have N7 := Fr.snoc X7 N6 g_b2
  obtain ⟨LL7, X7, N7⟩ := own_hide X7 N7
  obtain ⟨cl_b2_67, Ar_b2_67, q_b2_67, S_b2_67, N_b2_67, H_b2_67, G_b2_67⟩ := V_b2_7
  have hin67 : ¬ ((5 : Int32) < 0 ∨ cl_b2_67.slots.size ≤ ((5 : Int32)).toNatClampNeg) := inb_of S_b2_67 ⟨by decide, by decide⟩
  obtain ⟨T8, h8, X8, e8, W8, st8⟩ := stJ X7 hx hZ e7 Ar_b2_67 (j := (5 : Int32)) hin67 (g := (mkF m 67 #[.val (.int p0), .val (.int p1), .val (.int (Int32.ofNat sn)), .val (.int (Int32.ofNat mn)), .val (.double (own_x mn)), .second, .val (.double (own_ec sn (own_x mn))), .second, .unset, .unset, .unset, .unset, .unset, .unset, .unset, .unset, .unset, .unset, .unset, .unset] [(.long (120 : Int64)), (.int (5 : Int32)), (.ref b2), (.ref b2)])) rfl rfl (hb hby at_67)
  have V_b2_8 := Arv.set Ar_b2_67 q_b2_67 S_b2_67 N_b2_67 H_b2_67 G_b2_67 rfl W8 5 rfl (Nat.le_of_ble_eq_true rfl)
  have N8 := Fr.snoc X8 N7 g_b2
  obtain ⟨LL8, X8, N8⟩ := own_hide X8 N8
  obtain ⟨cl_b2_74, Ar_b2_74, q_b2_74, S_b2_74, N_b2_74, H_b2_74, G_b2_74⟩ := V_b2_8
  have hin74 : ¬ ((6 : Int32) < 0 ∨ cl_b2_74.slots.size ≤ ((6 : Int32)).toNatClampNeg) := inb_of S_b2_74 ⟨by decide, by decide⟩
  obtain ⟨T9, h9, X9, e9, W9, st9⟩ := stJ X8 hx hZ e8 Ar_b2_74 (j := (6 : Int32)) hin74 (g := (mkF m 74 #[.val (.int p0), .val (.int p1), .val (.int (Int32.ofNat sn)), .val (.int (Int32.ofNat mn)), .val (.double (own_x mn)), .second, .val (.double (own_ec sn (own_x mn))), .second, .unset, .unset, .unset, .unset, .unset, .unset, .unset, .unset, .unset, .unset, .unset, .unset] [(.long (720 : Int64)), (.int (6 : Int32)), (.ref b2), (.ref b2)])) rfl rfl (hb hby at_74)
  have V_b2_9 := Arv.set Ar_b2_74 q_b2_74 S_b2_74 N_b2_74 H_b2_74 G_b2_74 rfl W9 6 rfl (Nat.le_of_ble_eq_true rfl)
  have N9 := Fr.snoc X9 N8 g_b2
  obtain ⟨LL9, X9, N9⟩ := own_hide X9 N9
  obtain ⟨cl_b2_81, Ar_b2_81, q_b2_81, S_b2_81, N_b2_81, H_b2_81, G_b2_81⟩ := V_b2_9
  have hin81 : ¬ ((7 : Int32) < 0 ∨ cl_b2_81.slots.size ≤ ((7 : Int32)).toNatClampNeg) := inb_of S_b2_81 ⟨by decide, by decide⟩
  obtain ⟨T10, h10, X10, e10, W10, st10⟩ := stJ X9 hx hZ e9 Ar_b2_81 (j := (7 : Int32)) hin81 (g := (mkF m 81 #[.val (.int p0), .val (.int p1), .val (.int (Int32.ofNat sn)), .val (.int (Int32.ofNat mn)), .val (.double (own_x mn)), .second, .val (.double (own_ec sn (own_x mn))), .second, .unset, .unset, .unset, .unset, .unset, .unset, .unset, .unset, .unset, .unset, .unset, .unset] [(.long (5040 : Int64)), (.int (7 : Int32)), (.ref b2), (.ref b2)])) rfl rfl (hb hby at_81)
  have V_b2_10 := Arv.set Ar_b2_81 q_b2_81 S_b2_81 N_b2_81 H_b2_81 G_b2_81 rfl W10 7 rfl (Nat.le_of_ble_eq_true rfl)
  have N10 := Fr.snoc X10 N9 g_b2
  obtain ⟨LL10, X10, N10⟩ := own_hide X10 N10
  obtain ⟨cl_b2_88, Ar_b2_88, q_b2_88, S_b2_88, N_b2_88, H_b2_88, G_b2_88⟩ := V_b2_10
  have hin88 : ¬ ((8 : Int32) < 0 ∨ cl_b2_88.slots.size ≤ ((8 : Int32)).toNatClampNeg) := inb_of S_b2_88 ⟨by decide, by decide⟩
  obtain ⟨T11, h11, X11, e11, W11, st11⟩ := stJ X10 hx hZ e10 Ar_b2_88 (j := (8 : Int32)) hin88 (g := (mkF m 88 #[.val (.int p0), .val (.int p1), .val (.int (Int32.ofNat sn)), .val (.int (Int32.ofNat mn)), .val (.double (own_x mn)), .second, .val (.double (own_ec sn (own_x mn))), .second, .unset, .unset, .unset, .unset, .unset, .unset, .unset, .unset, .unset, .unset, .unset, .unset] [(.long (40320 : Int64)), (.int (8 : Int32)), (.ref b2), (.ref b2)])) rfl rfl (hb hby at_88)
  have V_b2_11 := Arv.set Ar_b2_88 q_b2_88 S_b2_88 N_b2_88 H_b2_88 G_b2_88 rfl W11 8 rfl (Nat.le_of_ble_eq_true rfl)
  have N11 := Fr.snoc X11 N10 g_b2
  obtain ⟨LL11, X11, N11⟩ := own_hide X11 N11
  have Z12z : n0 ≤ h11.size := (Nat.le_trans (Nat.le_trans (Nat.le_trans (Nat.le_trans (Nat.le_trans (Nat.le_trans (Nat.le_trans (Nat.le_trans (Nat.le_trans (Nat.le_trans Z0 E2.1) (Keep.of_wr W3).1) (Keep.of_wr W4).1) (Keep.of_wr W5).1) (Keep.of_wr W6).1) (Keep.of_wr W7).1) (Keep.of_wr W8).1) (Keep.of_wr W9).1) (Keep.of_wr W10).1) (Keep.of_wr W11).1)
  obtain ⟨T13, h13, k13, X13, e13, E13, A13, st13⟩ := newP X11 hx hZ (hw _ (List.mem_of_getElem? (i := 6) rfl)) e11 (g := (mkF m 93 #[.val (.int p0), .val (.int p1), .val (.int (Int32.ofNat sn)), .val (.int (Int32.ofNat mn)), .val (.double (own_x mn)), .second, .val (.double (own_ec sn (own_x mn))), .second, .val (.ref b2), .unset, .unset, .unset, .unset, .unset, .unset, .unset, .unset, .unset, .unset, .unset] [(.int (9 : Int32))])) rfl (hb hby at_93) rfl (by decide) (cap := 9) (by decide) (by decide) (by decide) (by decide)
  obtain ⟨b13, gg13⟩ : ∃ z, z = h11.size := ⟨_, rfl⟩
  rw [← gg13] at A13 st13
  have g_b13 : n0 ≤ b13 := Nat.le_trans Z12z (Nat.le_of_eq gg13.symm)
  have sz_b13 : h0.size ≤ b13 := Nat.le_trans (Nat.le_trans (Nat.le_trans (Nat.le_trans (Nat.le_trans (Nat.le_trans (Nat.le_trans (Nat.le_trans (Nat.le_trans (Nat.le_trans (Nat.le_trans (Nat.le_refl h0.size) E2.1) (Keep.of_wr W3).1) (Keep.of_wr W4).1) (Keep.of_wr W5).1) (Keep.of_wr W6).1) (Keep.of_wr W7).1) (Keep.of_wr W8).1) (Keep.of_wr W9).1) (Keep.of_wr W10).1) (Keep.of_wr W11).1) (Nat.le_of_eq gg13.symm)
  have ne_b2_b13 : b2 ≠ b13 := Nat.ne_of_lt (Nat.lt_of_lt_of_le V_b2_11.lt (Nat.le_of_eq gg13.symm))
  have V_b13 : Arv Z h13 b13 k13 .long (9 : Int32) [(.long (0 : Int64)), (.long (0 : Int64)), (.long (0 : Int64)), (.long (0 : Int64)), (.long (0 : Int64)), (.long (0 : Int64)), (.long (0 : Int64)), (.long (0 : Int64)), (.long (0 : Int64))] (.long (0 : Int64)) := (Arv.new A13 (by decide)).pad (pad_rep [] (.long (0 : Int64)) 9)
  obtain ⟨cl_b13_101, Ar_b13_101, q_b13_101, S_b13_101, N_b13_101, H_b13_101, G_b13_101⟩ := V_b13
  have hin101 : ¬ ((0 : Int32) < 0 ∨ cl_b13_101.slots.size ≤ ((0 : Int32)).toNatClampNeg) := inb_of S_b13_101 ⟨by decide, by decide⟩
  obtain ⟨T14, h14, X14, e14, W14, st14⟩ := stJ X13 hx hZ e13 Ar_b13_101 (j := (0 : Int32)) hin101 (g := (mkF m 101 #[.val (.int p0), .val (.int p1), .val (.int (Int32.ofNat sn)), .val (.int (Int32.ofNat mn)), .val (.double (own_x mn)), .second, .val (.double (own_ec sn (own_x mn))), .second, .val (.ref b2), .val (.ref b13), .unset, .unset, .unset, .unset, .unset, .unset, .unset, .unset, .unset, .unset] [(.long (1 : Int64)), (.int (0 : Int32)), (.ref b13)])) rfl rfl (hb hby at_101)
  have V_b13_14 := Arv.set Ar_b13_101 q_b13_101 S_b13_101 N_b13_101 H_b13_101 G_b13_101 rfl W14 0 rfl (Nat.le_of_ble_eq_true rfl)
  have N14 := Fr.snoc X14 N11 g_b13
  obtain ⟨LL14, X14, N14⟩ := own_hide X14 N14
  obtain ⟨cl_b13_107, Ar_b13_107, q_b13_107, S_b13_107, N_b13_107, H_b13_107, G_b13_107⟩ := V_b13_14
  have hin107 : ¬ ((1 : Int32) < 0 ∨ cl_b13_107.slots.size ≤ ((1 : Int32)).toNatClampNeg) := inb_of S_b13_107 ⟨by decide, by decide⟩
  obtain ⟨T15, h15, X15, e15, W15, st15⟩ := stJ X14 hx hZ e14 Ar_b13_107 (j := (1 : Int32)) hin107 (g := (mkF m 107 #[.val (.int p0), .val (.int p1), .val (.int (Int32.ofNat sn)), .val (.int (Int32.ofNat mn)), .val (.double (own_x mn)), .second, .val (.double (own_ec sn (own_x mn))), .second, .val (.ref b2), .val (.ref b13), .unset, .unset, .unset, .unset, .unset, .unset, .unset, .unset, .unset, .unset] [(.long ((Int32.ofNat mn).toInt64)), (.int (1 : Int32)), (.ref b13)])) rfl rfl (hb hby at_107)
  have V_b13_15 := Arv.set Ar_b13_107 q_b13_107 S_b13_107 N_b13_107 H_b13_107 G_b13_107 rfl W15 1 rfl (Nat.le_of_ble_eq_true rfl)
  have N15 := Fr.snoc X15 N14 g_b13
  obtain ⟨LL15, X15, N15⟩ := own_hide X15 N15
  obtain ⟨cl_b13_16, Ar_b13_16, q_b13_16, S_b13_16, N_b13_16, H_b13_16, G_b13_16⟩ := id V_b13_15
  have hin_b13_16 : ¬ ((1 : Int32) < 0 ∨ cl_b13_16.slots.size ≤ ((1 : Int32)).toNatClampNeg) := inb_of S_b13_16 ⟨by decide, by decide⟩
  have hat_b13_16 : cl_b13_16.slots[((1 : Int32)).toNatClampNeg]? = some (.long (own_mp mn 1)) := H_b13_16 _ (by rw [S_b13_16]; decide)
  obtain ⟨cl_b13_118, Ar_b13_118, q_b13_118, S_b13_118, N_b13_118, H_b13_118, G_b13_118⟩ := V_b13_15
  have hin118 : ¬ ((2 : Int32) < 0 ∨ cl_b13_118.slots.size ≤ ((2 : Int32)).toNatClampNeg) := inb_of S_b13_118 ⟨by decide, by decide⟩
  obtain ⟨T17, h17, X17, e17, W17, st17⟩ := stJ X15 hx hZ e15 Ar_b13_118 (j := (2 : Int32)) hin118 (g := (mkF m 118 #[.val (.int p0), .val (.int p1), .val (.int (Int32.ofNat sn)), .val (.int (Int32.ofNat mn)), .val (.double (own_x mn)), .second, .val (.double (own_ec sn (own_x mn))), .second, .val (.ref b2), .val (.ref b13), .unset, .unset, .unset, .unset, .unset, .unset, .unset, .unset, .unset, .unset] [(.long ((own_mp mn 1) * ((Int32.ofNat mn).toInt64))), (.int (2 : Int32)), (.ref b13)])) rfl rfl (hb hby at_118)
  have V_b13_17 := Arv.set Ar_b13_118 q_b13_118 S_b13_118 N_b13_118 H_b13_118 G_b13_118 rfl W17 2 rfl (Nat.le_of_ble_eq_true rfl)
  have N17 := Fr.snoc X17 N15 g_b13
  obtain ⟨LL17, X17, N17⟩ := own_hide X17 N17
  obtain ⟨cl_b13_18, Ar_b13_18, q_b13_18, S_b13_18, N_b13_18, H_b13_18, G_b13_18⟩ := id V_b13_17
  have hin_b13_18 : ¬ ((2 : Int32) < 0 ∨ cl_b13_18.slots.size ≤ ((2 : Int32)).toNatClampNeg) := inb_of S_b13_18 ⟨by decide, by decide⟩
  have hat_b13_18 : cl_b13_18.slots[((2 : Int32)).toNatClampNeg]? = some (.long (own_mp mn 2)) := H_b13_18 _ (by rw [S_b13_18]; decide)
  obtain ⟨cl_b13_129, Ar_b13_129, q_b13_129, S_b13_129, N_b13_129, H_b13_129, G_b13_129⟩ := V_b13_17
  have hin129 : ¬ ((3 : Int32) < 0 ∨ cl_b13_129.slots.size ≤ ((3 : Int32)).toNatClampNeg) := inb_of S_b13_129 ⟨by decide, by decide⟩
  obtain ⟨T19, h19, X19, e19, W19, st19⟩ := stJ X17 hx hZ e17 Ar_b13_129 (j := (3 : Int32)) hin129 (g := (mkF m 129 #[.val (.int p0), .val (.int p1), .val (.int (Int32.ofNat sn)), .val (.int (Int32.ofNat mn)), .val (.double (own_x mn)), .second, .val (.double (own_ec sn (own_x mn))), .second, .val (.ref b2), .val (.ref b13), .unset, .unset, .unset, .unset, .unset, .unset, .unset, .unset, .unset, .unset] [(.long ((own_mp mn 2) * ((Int32.ofNat mn).toInt64))), (.int (3 : Int32)), (.ref b13)])) rfl rfl (hb hby at_129)
  have V_b13_19 := Arv.set Ar_b13_129 q_b13_129 S_b13_129 N_b13_129 H_b13_129 G_b13_129 rfl W19 3 rfl (Nat.le_of_ble_eq_true rfl)
  have N19 := Fr.snoc X19 N17 g_b13
  obtain ⟨LL19, X19, N19⟩ := own_hide X19 N19
  obtain ⟨cl_b13_20, Ar_b13_20, q_b13_20, S_b13_20, N_b13_20, H_b13_20, G_b13_20⟩ := id V_b13_19
  have hin_b13_20 : ¬ ((3 : Int32) < 0 ∨ cl_b13_20.slots.size ≤ ((3 : Int32)).toNatClampNeg) := inb_of S_b13_20 ⟨by decide, by decide⟩
  have hat_b13_20 : cl_b13_20.slots[((3 : Int32)).toNatClampNeg]? = some (.long (own_mp mn 3)) := H_b13_20 _ (by rw [S_b13_20]; decide)
  obtain ⟨cl_b13_140, Ar_b13_140, q_b13_140, S_b13_140, N_b13_140, H_b13_140, G_b13_140⟩ := V_b13_19
  have hin140 : ¬ ((4 : Int32) < 0 ∨ cl_b13_140.slots.size ≤ ((4 : Int32)).toNatClampNeg) := inb_of S_b13_140 ⟨by decide, by decide⟩
  obtain ⟨T21, h21, X21, e21, W21, st21⟩ := stJ X19 hx hZ e19 Ar_b13_140 (j := (4 : Int32)) hin140 (g := (mkF m 140 #[.val (.int p0), .val (.int p1), .val (.int (Int32.ofNat sn)), .val (.int (Int32.ofNat mn)), .val (.double (own_x mn)), .second, .val (.double (own_ec sn (own_x mn))), .second, .val (.ref b2), .val (.ref b13), .unset, .unset, .unset, .unset, .unset, .unset, .unset, .unset, .unset, .unset] [(.long ((own_mp mn 3) * ((Int32.ofNat mn).toInt64))), (.int (4 : Int32)), (.ref b13)])) rfl rfl (hb hby at_140)
  have V_b13_21 := Arv.set Ar_b13_140 q_b13_140 S_b13_140 N_b13_140 H_b13_140 G_b13_140 rfl W21 4 rfl (Nat.le_of_ble_eq_true rfl)
  have N21 := Fr.snoc X21 N19 g_b13
  obtain ⟨LL21, X21, N21⟩ := own_hide X21 N21
  obtain ⟨cl_b13_22, Ar_b13_22, q_b13_22, S_b13_22, N_b13_22, H_b13_22, G_b13_22⟩ := id V_b13_21
  have hin_b13_22 : ¬ ((4 : Int32) < 0 ∨ cl_b13_22.slots.size ≤ ((4 : Int32)).toNatClampNeg) := inb_of S_b13_22 ⟨by decide, by decide⟩
  have hat_b13_22 : cl_b13_22.slots[((4 : Int32)).toNatClampNeg]? = some (.long (own_mp mn 4)) := H_b13_22 _ (by rw [S_b13_22]; decide)
  obtain ⟨cl_b13_151, Ar_b13_151, q_b13_151, S_b13_151, N_b13_151, H_b13_151, G_b13_151⟩ := V_b13_21
  have hin151 : ¬ ((5 : Int32) < 0 ∨ cl_b13_151.slots.size ≤ ((5 : Int32)).toNatClampNeg) := inb_of S_b13_151 ⟨by decide, by decide⟩
  obtain ⟨T23, h23, X23, e23, W23, st23⟩ := stJ X21 hx hZ e21 Ar_b13_151 (j := (5 : Int32)) hin151 (g := (mkF m 151 #[.val (.int p0), .val (.int p1), .val (.int (Int32.ofNat sn)), .val (.int (Int32.ofNat mn)), .val (.double (own_x mn)), .second, .val (.double (own_ec sn (own_x mn))), .second, .val (.ref b2), .val (.ref b13), .unset, .unset, .unset, .unset, .unset, .unset, .unset, .unset, .unset, .unset] [(.long ((own_mp mn 4) * ((Int32.ofNat mn).toInt64))), (.int (5 : Int32)), (.ref b13)])) rfl rfl (hb hby at_151)
  have V_b13_23 := Arv.set Ar_b13_151 q_b13_151 S_b13_151 N_b13_151 H_b13_151 G_b13_151 rfl W23 5 rfl (Nat.le_of_ble_eq_true rfl)
  have N23 := Fr.snoc X23 N21 g_b13
  obtain ⟨LL23, X23, N23⟩ := own_hide X23 N23
  obtain ⟨cl_b13_24, Ar_b13_24, q_b13_24, S_b13_24, N_b13_24, H_b13_24, G_b13_24⟩ := id V_b13_23
  have hin_b13_24 : ¬ ((5 : Int32) < 0 ∨ cl_b13_24.slots.size ≤ ((5 : Int32)).toNatClampNeg) := inb_of S_b13_24 ⟨by decide, by decide⟩
  have hat_b13_24 : cl_b13_24.slots[((5 : Int32)).toNatClampNeg]? = some (.long (own_mp mn 5)) := H_b13_24 _ (by rw [S_b13_24]; decide)
  obtain ⟨cl_b13_163, Ar_b13_163, q_b13_163, S_b13_163, N_b13_163, H_b13_163, G_b13_163⟩ := V_b13_23
  have hin163 : ¬ ((6 : Int32) < 0 ∨ cl_b13_163.slots.size ≤ ((6 : Int32)).toNatClampNeg) := inb_of S_b13_163 ⟨by decide, by decide⟩
  obtain ⟨T25, h25, X25, e25, W25, st25⟩ := stJ X23 hx hZ e23 Ar_b13_163 (j := (6 : Int32)) hin163 (g := (mkF m 163 #[.val (.int p0), .val (.int p1), .val (.int (Int32.ofNat sn)), .val (.int (Int32.ofNat mn)), .val (.double (own_x mn)), .second, .val (.double (own_ec sn (own_x mn))), .second, .val (.ref b2), .val (.ref b13), .unset, .unset, .unset, .unset, .unset, .unset, .unset, .unset, .unset, .unset] [(.long ((own_mp mn 5) * ((Int32.ofNat mn).toInt64))), (.int (6 : Int32)), (.ref b13)])) rfl rfl (hb hby at_163)
  have V_b13_25 := Arv.set Ar_b13_163 q_b13_163 S_b13_163 N_b13_163 H_b13_163 G_b13_163 rfl W25 6 rfl (Nat.le_of_ble_eq_true rfl)
  have N25 := Fr.snoc X25 N23 g_b13
  obtain ⟨LL25, X25, N25⟩ := own_hide X25 N25
  obtain ⟨cl_b13_26, Ar_b13_26, q_b13_26, S_b13_26, N_b13_26, H_b13_26, G_b13_26⟩ := id V_b13_25
  have hin_b13_26 : ¬ ((6 : Int32) < 0 ∨ cl_b13_26.slots.size ≤ ((6 : Int32)).toNatClampNeg) := inb_of S_b13_26 ⟨by decide, by decide⟩
  have hat_b13_26 : cl_b13_26.slots[((6 : Int32)).toNatClampNeg]? = some (.long (own_mp mn 6)) := H_b13_26 _ (by rw [S_b13_26]; decide)
  obtain ⟨cl_b13_176, Ar_b13_176, q_b13_176, S_b13_176, N_b13_176, H_b13_176, G_b13_176⟩ := V_b13_25
  have hin176 : ¬ ((7 : Int32) < 0 ∨ cl_b13_176.slots.size ≤ ((7 : Int32)).toNatClampNeg) := inb_of S_b13_176 ⟨by decide, by decide⟩
  obtain ⟨T27, h27, X27, e27, W27, st27⟩ := stJ X25 hx hZ e25 Ar_b13_176 (j := (7 : Int32)) hin176 (g := (mkF m 176 #[.val (.int p0), .val (.int p1), .val (.int (Int32.ofNat sn)), .val (.int (Int32.ofNat mn)), .val (.double (own_x mn)), .second, .val (.double (own_ec sn (own_x mn))), .second, .val (.ref b2), .val (.ref b13), .unset, .unset, .unset, .unset, .unset, .unset, .unset, .unset, .unset, .unset] [(.long ((own_mp mn 6) * ((Int32.ofNat mn).toInt64))), (.int (7 : Int32)), (.ref b13)])) rfl rfl (hb hby at_176)
  have V_b13_27 := Arv.set Ar_b13_176 q_b13_176 S_b13_176 N_b13_176 H_b13_176 G_b13_176 rfl W27 7 rfl (Nat.le_of_ble_eq_true rfl)
  have N27 := Fr.snoc X27 N25 g_b13
  obtain ⟨LL27, X27, N27⟩ := own_hide X27 N27
  obtain ⟨cl_b13_28, Ar_b13_28, q_b13_28, S_b13_28, N_b13_28, H_b13_28, G_b13_28⟩ := id V_b13_27
  have hin_b13_28 : ¬ ((7 : Int32) < 0 ∨ cl_b13_28.slots.size ≤ ((7 : Int32)).toNatClampNeg) := inb_of S_b13_28 ⟨by decide, by decide⟩
  have hat_b13_28 : cl_b13_28.slots[((7 : Int32)).toNatClampNeg]? = some (.long (own_mp mn 7)) := H_b13_28 _ (by rw [S_b13_28]; decide)
  obtain ⟨cl_b13_189, Ar_b13_189, q_b13_189, S_b13_189, N_b13_189, H_b13_189, G_b13_189⟩ := V_b13_27
  have hin189 : ¬ ((8 : Int32) < 0 ∨ cl_b13_189.slots.size ≤ ((8 : Int32)).toNatClampNeg) := inb_of S_b13_189 ⟨by decide, by decide⟩
  obtain ⟨T29, h29, X29, e29, W29, st29⟩ := stJ X27 hx hZ e27 Ar_b13_189 (j := (8 : Int32)) hin189 (g := (mkF m 189 #[.val (.int p0), .val (.int p1), .val (.int (Int32.ofNat sn)), .val (.int (Int32.ofNat mn)), .val (.double (own_x mn)), .second, .val (.double (own_ec sn (own_x mn))), .second, .val (.ref b2), .val (.ref b13), .unset, .unset, .unset, .unset, .unset, .unset, .unset, .unset, .unset, .unset] [(.long ((own_mp mn 7) * ((Int32.ofNat mn).toInt64))), (.int (8 : Int32)), (.ref b13)])) rfl rfl (hb hby at_189)
  have V_b13_29 := Arv.set Ar_b13_189 q_b13_189 S_b13_189 N_b13_189 H_b13_189 G_b13_189 rfl W29 8 rfl (Nat.le_of_ble_eq_true rfl)
  have N29 := Fr.snoc X29 N27 g_b13
  obtain ⟨LL29, X29, N29⟩ := own_hide X29 N29
  have V_b2_11_30 := ((((((((((V_b2_11.ext E13).other W14 ne_b2_b13).other W15 ne_b2_b13).other W17 ne_b2_b13).other W19 ne_b2_b13).other W21 ne_b2_b13).other W23 ne_b2_b13).other W25 ne_b2_b13).other W27 ne_b2_b13).other W29 ne_b2_b13)
  obtain ⟨clf, Arf, qf, Sf, Nf, Hf, Gf⟩ := V_b2_11_30
  have Sf9 : clf.slots.size = 9 := Sf
  obtain ⟨clm, Arm, qm, Sm, Nm, Hm, Gm⟩ := V_b13_29
  have Sm9 : clm.slots.size = 9 := Sm
  have hinm0 : ¬ ((0 : Int32) < 0 ∨ clm.slots.size ≤ ((0 : Int32)).toNatClampNeg) := inb_of Sm ⟨by decide, by decide⟩
  have hatm0 : clm.slots[((0 : Int32)).toNatClampNeg]? = some (.long (own_mp mn 0)) := Hm 0 (by rw [Sm9]; decide)
  have hinf0 : ¬ ((0 : Int32) < 0 ∨ clf.slots.size ≤ ((0 : Int32)).toNatClampNeg) := inb_of Sf ⟨by decide, by decide⟩
  have hatf0 : clf.slots[((0 : Int32)).toNatClampNeg]? = some (.long (own_fac 0)) := Hf 0 (by rw [Sf9]; decide)
  have hinm1 : ¬ ((1 : Int32) < 0 ∨ clm.slots.size ≤ ((1 : Int32)).toNatClampNeg) := inb_of Sm ⟨by decide, by decide⟩
  have hatm1 : clm.slots[((1 : Int32)).toNatClampNeg]? = some (.long (own_mp mn 1)) := Hm 1 (by rw [Sm9]; decide)
  have hinf1 : ¬ ((1 : Int32) < 0 ∨ clf.slots.size ≤ ((1 : Int32)).toNatClampNeg) := inb_of Sf ⟨by decide, by decide⟩
  have hatf1 : clf.slots[((1 : Int32)).toNatClampNeg]? = some (.long (own_fac 1)) := Hf 1 (by rw [Sf9]; decide)
  have hinm2 : ¬ ((2 : Int32) < 0 ∨ clm.slots.size ≤ ((2 : Int32)).toNatClampNeg) := inb_of Sm ⟨by decide, by decide⟩
  have hatm2 : clm.slots[((2 : Int32)).toNatClampNeg]? = some (.long (own_mp mn 2)) := Hm 2 (by rw [Sm9]; decide)
  have hinf2 : ¬ ((2 : Int32) < 0 ∨ clf.slots.size ≤ ((2 : Int32)).toNatClampNeg) := inb_of Sf ⟨by decide, by decide⟩
  have hatf2 : clf.slots[((2 : Int32)).toNatClampNeg]? = some (.long (own_fac 2)) := Hf 2 (by rw [Sf9]; decide)
  have hinm3 : ¬ ((3 : Int32) < 0 ∨ clm.slots.size ≤ ((3 : Int32)).toNatClampNeg) := inb_of Sm ⟨by decide, by decide⟩
  have hatm3 : clm.slots[((3 : Int32)).toNatClampNeg]? = some (.long (own_mp mn 3)) := Hm 3 (by rw [Sm9]; decide)
  have hinf3 : ¬ ((3 : Int32) < 0 ∨ clf.slots.size ≤ ((3 : Int32)).toNatClampNeg) := inb_of Sf ⟨by decide, by decide⟩
  have hatf3 : clf.slots[((3 : Int32)).toNatClampNeg]? = some (.long (own_fac 3)) := Hf 3 (by rw [Sf9]; decide)
  have hinm4 : ¬ ((4 : Int32) < 0 ∨ clm.slots.size ≤ ((4 : Int32)).toNatClampNeg) := inb_of Sm ⟨by decide, by decide⟩
  have hatm4 : clm.slots[((4 : Int32)).toNatClampNeg]? = some (.long (own_mp mn 4)) := Hm 4 (by rw [Sm9]; decide)
  have hinf4 : ¬ ((4 : Int32) < 0 ∨ clf.slots.size ≤ ((4 : Int32)).toNatClampNeg) := inb_of Sf ⟨by decide, by decide⟩
  have hatf4 : clf.slots[((4 : Int32)).toNatClampNeg]? = some (.long (own_fac 4)) := Hf 4 (by rw [Sf9]; decide)
  have hinm5 : ¬ ((5 : Int32) < 0 ∨ clm.slots.size ≤ ((5 : Int32)).toNatClampNeg) := inb_of Sm ⟨by decide, by decide⟩
  have hatm5 : clm.slots[((5 : Int32)).toNatClampNeg]? = some (.long (own_mp mn 5)) := Hm 5 (by rw [Sm9]; decide)
  have hinf5 : ¬ ((5 : Int32) < 0 ∨ clf.slots.size ≤ ((5 : Int32)).toNatClampNeg) := inb_of Sf ⟨by decide, by decide⟩
  have hatf5 : clf.slots[((5 : Int32)).toNatClampNeg]? = some (.long (own_fac 5)) := Hf 5 (by rw [Sf9]; decide)
  have hinm6 : ¬ ((6 : Int32) < 0 ∨ clm.slots.size ≤ ((6 : Int32)).toNatClampNeg) := inb_of Sm ⟨by decide, by decide⟩
  have hatm6 : clm.slots[((6 : Int32)).toNatClampNeg]? = some (.long (own_mp mn 6)) := Hm 6 (by rw [Sm9]; decide)
  have hinf6 : ¬ ((6 : Int32) < 0 ∨ clf.slots.size ≤ ((6 : Int32)).toNatClampNeg) := inb_of Sf ⟨by decide, by decide⟩
  have hatf6 : clf.slots[((6 : Int32)).toNatClampNeg]? = some (.long (own_fac 6)) := Hf 6 (by rw [Sf9]; decide)
  have hinm7 : ¬ ((7 : Int32) < 0 ∨ clm.slots.size ≤ ((7 : Int32)).toNatClampNeg) := inb_of Sm ⟨by decide, by decide⟩
  have hatm7 : clm.slots[((7 : Int32)).toNatClampNeg]? = some (.long (own_mp mn 7)) := Hm 7 (by rw [Sm9]; decide)
  have hinf7 : ¬ ((7 : Int32) < 0 ∨ clf.slots.size ≤ ((7 : Int32)).toNatClampNeg) := inb_of Sf ⟨by decide, by decide⟩
  have hatf7 : clf.slots[((7 : Int32)).toNatClampNeg]? = some (.long (own_fac 7)) := Hf 7 (by rw [Sf9]; decide)
  have hinm8 : ¬ ((8 : Int32) < 0 ∨ clm.slots.size ≤ ((8 : Int32)).toNatClampNeg) := inb_of Sm ⟨by decide, by decide⟩
  have hatm8 : clm.slots[((8 : Int32)).toNatClampNeg]? = some (.long (own_mp mn 8)) := Hm 8 (by rw [Sm9]; decide)
  have hinf8 : ¬ ((8 : Int32) < 0 ∨ clf.slots.size ≤ ((8 : Int32)).toNatClampNeg) := inb_of Sf ⟨by decide, by decide⟩
  have hatf8 : clf.slots[((8 : Int32)).toNatClampNeg]? = some (.long (own_fac 8)) := Hf 8 (by rw [Sf9]; decide)
  have hins := own_inb clf sn Sf9 (by omega)
  have hinq := own_inb clm sn Sm9 (by omega)
  have hats : clf.slots[(Int32.ofNat sn).toNatClampNeg]? = some (.long (own_fac sn)) := by
    have hc : sn = 1 ∨ sn = 2 ∨ sn = 3 ∨ sn = 4 ∨ sn = 5 ∨ sn = 6 ∨ sn = 7 ∨ sn = 8 := by omega
    rcases hc with rfl | rfl | rfl | rfl | rfl | rfl | rfl | rfl
    · exact hatf1
    · exact hatf2
    · exact hatf3
    · exact hatf4
    · exact hatf5
    · exact hatf6
    · exact hatf7
    · exact hatf8
  have hatq : clm.slots[(Int32.ofNat sn).toNatClampNeg]? = some (.long (own_mp mn sn)) := by
    have hc : sn = 1 ∨ sn = 2 ∨ sn = 3 ∨ sn = 4 ∨ sn = 5 ∨ sn = 6 ∨ sn = 7 ∨ sn = 8 := by omega
    rcases hc with rfl | rfl | rfl | rfl | rfl | rfl | rfl | rfl
    · exact hatm1
    · exact hatm2
    · exact hatm3
    · exact hatm4
    · exact hatm5
    · exact hatm6
    · exact hatm7
    · exact hatm8
  have Z32z : n0 ≤ h29.size := (Nat.le_trans (Nat.le_trans (Nat.le_trans (Nat.le_trans (Nat.le_trans (Nat.le_trans (Nat.le_trans (Nat.le_trans (Nat.le_trans (Nat.le_trans Z12z E13.1) (Keep.of_wr W14).1) (Keep.of_wr W15).1) (Keep.of_wr W17).1) (Keep.of_wr W19).1) (Keep.of_wr W21).1) (Keep.of_wr W23).1) (Keep.of_wr W25).1) (Keep.of_wr W27).1) (Keep.of_wr W29).1)
  obtain ⟨_, _, ⟨T31, L31, k31, n31⟩, -, X31, ⟨Lc31, hQ31, l31, y31, z31⟩, st31⟩ := Jvm.LawKit.callS X29 hx (y := (⟨"com/example/cloudletry/cloudletry/core/ResponseTimeModelErlangCPinLaw", "term", "(II[J[J)J"⟩ : MethodName)) hown (mvT hZ (hw _ (List.mem_of_getElem? (i := 14) rfl))) (mvT hZ (hw _ (List.mem_of_getElem? (i := 15) rfl))) (mvT hZ (hw _ (List.mem_of_getElem? (i := 16) rfl))) (mvT hZ (hw _ (List.mem_of_getElem? (i := 17) rfl))) (by decide) (backOf (W := 0) (rm2 l Z a0 hw [] (0 : Int32) (Int32.ofNat sn) b13 b2 clm clf (own_mp mn 0) (own_fac sn) (own_fac 0) h29 n0 Z32z Arm Arf hinm0 hatm0 hins hats hinf0 hatf0 (by decide)) hZ (hw _ (List.mem_of_getElem? (i := 17) rfl)) (hw _ (List.mem_of_getElem? (i := 16) rfl)) (by decide) (by decide)) (g := (mkF m 196 #[.val (.int p0), .val (.int p1), .val (.int (Int32.ofNat sn)), .val (.int (Int32.ofNat mn)), .val (.double (own_x mn)), .second, .val (.double (own_ec sn (own_x mn))), .second, .val (.ref b2), .val (.ref b13), .unset, .unset, .unset, .unset, .unset, .unset, .unset, .unset, .unset, .unset] [(.ref b2), (.ref b13), (.int (Int32.ofNat sn)), (.int (0 : Int32))])) rfl (by rw [hml]; rfl) (argsL := [(.int (0 : Int32)), (.int (Int32.ofNat sn)), (.ref b13), (.ref b2)]) (rest := []) (lenOf pd_1 rfl) rfl (by show 2 * 0 + _ ≤ _; exact Nat.le_of_eq rfl) (hb hby at_196) (fun _ _ => ⟨rfl, e29, (by decide : 2 + 0 ≤ _), (by decide : 18 + 0 ≤ _)⟩)
  dsimp only [Pt.U, Pt.locs, Pt.cells, Pt.slots] at X31 l31 y31 z31 st31 hQ31
  subst l31 y31 z31
  obtain ⟨rfl, N31q, eq31⟩ := hQ31
  have N31 := Fr.app N29 N31q
  obtain ⟨LL31, X31, N31⟩ := own_hide X31 N31
  obtain ⟨_, _, ⟨T33, L33, k33, n33⟩, -, X33, ⟨Lc33, hQ33, l33, y33, z33⟩, st33⟩ := Jvm.LawKit.callS X31 hx (y := (⟨"com/example/cloudletry/cloudletry/core/ResponseTimeModelErlangCPinLaw", "term", "(II[J[J)J"⟩ : MethodName)) hown (mvT hZ (hw _ (List.mem_of_getElem? (i := 14) rfl))) (mvT hZ (hw _ (List.mem_of_getElem? (i := 15) rfl))) (mvT hZ (hw _ (List.mem_of_getElem? (i := 16) rfl))) (mvT hZ (hw _ (List.mem_of_getElem? (i := 17) rfl))) (by decide) (backOf (W := 2) (rm2 l Z a0 hw [] (1 : Int32) (Int32.ofNat sn) b13 b2 clm clf (own_mp mn 1) (own_fac sn) (own_fac 1) h29 n0 Z32z Arm Arf hinm1 hatm1 hins hats hinf1 hatf1 (by decide)) hZ (hw _ (List.mem_of_getElem? (i := 17) rfl)) (hw _ (List.mem_of_getElem? (i := 16) rfl)) (by decide) (by decide)) (g := (mkF m 205 #[.val (.int p0), .val (.int p1), .val (.int (Int32.ofNat sn)), .val (.int (Int32.ofNat mn)), .val (.double (own_x mn)), .second, .val (.double (own_ec sn (own_x mn))), .second, .val (.ref b2), .val (.ref b13), .unset, .unset, .unset, .unset, .unset, .unset, .unset, .unset, .unset, .unset] [(.ref b2), (.ref b13), (.int (Int32.ofNat sn)), (.int (1 : Int32)), (.long (own_t sn mn 0))])) rfl (by rw [hml]; rfl) (argsL := [(.int (1 : Int32)), (.int (Int32.ofNat sn)), (.ref b13), (.ref b2)]) (rest := [(.long (own_t sn mn 0))]) (lenOf pd_1 rfl) rfl (by show 2 * 0 + _ ≤ _; exact Nat.le_of_eq rfl) (hb hby at_205) (fun _ _ => ⟨rfl, eq31, (by decide : 2 + 0 ≤ _), (by decide : 18 + 0 ≤ _)⟩)
  dsimp only [Pt.U, Pt.locs, Pt.cells, Pt.slots] at X33 l33 y33 z33 st33 hQ33
  subst l33 y33 z33
  obtain ⟨rfl, N33q, eq33⟩ := hQ33
  have N33 := Fr.app N31 N33q
  obtain ⟨LL33, X33, N33⟩ := own_hide X33 N33
  obtain ⟨_, _, ⟨T34, L34, k34, n34⟩, -, X34, ⟨Lc34, hQ34, l34, y34, z34⟩, st34⟩ := Jvm.LawKit.callS X33 hx (y := (⟨"com/example/cloudletry/cloudletry/core/ResponseTimeModelErlangCPinLaw", "term", "(II[J[J)J"⟩ : MethodName)) hown (mvT hZ (hw _ (List.mem_of_getElem? (i := 14) rfl))) (mvT hZ (hw _ (List.mem_of_getElem? (i := 15) rfl))) (mvT hZ (hw _ (List.mem_of_getElem? (i := 16) rfl))) (mvT hZ (hw _ (List.mem_of_getElem? (i := 17) rfl))) (by decide) (backOf (W := 2) (rm2 l Z a0 hw [] (2 : Int32) (Int32.ofNat sn) b13 b2 clm clf (own_mp mn 2) (own_fac sn) (own_fac 2) h29 n0 Z32z Arm Arf hinm2 hatm2 hins hats hinf2 hatf2 (by decide)) hZ (hw _ (List.mem_of_getElem? (i := 17) rfl)) (hw _ (List.mem_of_getElem? (i := 16) rfl)) (by decide) (by decide)) (g := (mkF m 215 #[.val (.int p0), .val (.int p1), .val (.int (Int32.ofNat sn)), .val (.int (Int32.ofNat mn)), .val (.double (own_x mn)), .second, .val (.double (own_ec sn (own_x mn))), .second, .val (.ref b2), .val (.ref b13), .unset, .unset, .unset, .unset, .unset, .unset, .unset, .unset, .unset, .unset] [(.ref b2), (.ref b13), (.int (Int32.ofNat sn)), (.int (2 : Int32)), (.long ((own_t sn mn 0) + (own_t sn mn 1)))])) rfl (by rw [hml]; rfl) (argsL := [(.int (2 : Int32)), (.int (Int32.ofNat sn)), (.ref b13), (.ref b2)]) (rest := [(.long ((own_t sn mn 0) + (own_t sn mn 1)))]) (lenOf pd_1 rfl) rfl (by show 2 * 0 + _ ≤ _; exact Nat.le_of_eq rfl) (hb hby at_215) (fun _ _ => ⟨rfl, eq33, (by decide : 2 + 0 ≤ _), (by decide : 18 + 0 ≤ _)⟩)
  dsimp only [Pt.U, Pt.locs, Pt.cells, Pt.slots] at X34 l34 y34 z34 st34 hQ34
  subst l34 y34 z34
  obtain ⟨rfl, N34q, eq34⟩ := hQ34
  have N34 := Fr.app N33 N34q
  obtain ⟨LL34, X34, N34⟩ := own_hide X34 N34
  obtain ⟨_, _, ⟨T35, L35, k35, n35⟩, -, X35, ⟨Lc35, hQ35, l35, y35, z35⟩, st35⟩ := Jvm.LawKit.callS X34 hx (y := (⟨"com/example/cloudletry/cloudletry/core/ResponseTimeModelErlangCPinLaw", "term", "(II[J[J)J"⟩ : MethodName)) hown (mvT hZ (hw _ (List.mem_of_getElem? (i := 14) rfl))) (mvT hZ (hw _ (List.mem_of_getElem? (i := 15) rfl))) (mvT hZ (hw _ (List.mem_of_getElem? (i := 16) rfl))) (mvT hZ (hw _ (List.mem_of_getElem? (i := 17) rfl))) (by decide) (backOf (W := 2) (rm2 l Z a0 hw [] (3 : Int32) (Int32.ofNat sn) b13 b2 clm clf (own_mp mn 3) (own_fac sn) (own_fac 3) h29 n0 Z32z Arm Arf hinm3 hatm3 hins hats hinf3 hatf3 (by decide)) hZ (hw _ (List.mem_of_getElem? (i := 17) rfl)) (hw _ (List.mem_of_getElem? (i := 16) rfl)) (by decide) (by decide)) (g := (mkF m 225 #[.val (.int p0), .val (.int p1), .val (.int (Int32.ofNat sn)), .val (.int (Int32.ofNat mn)), .val (.double (own_x mn)), .second, .val (.double (own_ec sn (own_x mn))), .second, .val (.ref b2), .val (.ref b13), .unset, .unset, .unset, .unset, .unset, .unset, .unset, .unset, .unset, .unset] [(.ref b2), (.ref b13), (.int (Int32.ofNat sn)), (.int (3 : Int32)), (.long (((own_t sn mn 0) + (own_t sn mn 1)) + (own_t sn mn 2)))])) rfl (by rw [hml]; rfl) (argsL := [(.int (3 : Int32)), (.int (Int32.ofNat sn)), (.ref b13), (.ref b2)]) (rest := [(.long (((own_t sn mn 0) + (own_t sn mn 1)) + (own_t sn mn 2)))]) (lenOf pd_1 rfl) rfl (by show 2 * 0 + _ ≤ _; exact Nat.le_of_eq rfl) (hb hby at_225) (fun _ _ => ⟨rfl, eq34, (by decide : 2 + 0 ≤ _), (by decide : 18 + 0 ≤ _)⟩)
  dsimp only [Pt.U, Pt.locs, Pt.cells, Pt.slots] at X35 l35 y35 z35 st35 hQ35
  subst l35 y35 z35
  obtain ⟨rfl, N35q, eq35⟩ := hQ35
  have N35 := Fr.app N34 N35q
  obtain ⟨LL35, X35, N35⟩ := own_hide X35 N35
  obtain ⟨_, _, ⟨T36, L36, k36, n36⟩, -, X36, ⟨Lc36, hQ36, l36, y36, z36⟩, st36⟩ := Jvm.LawKit.callS X35 hx (y := (⟨"com/example/cloudletry/cloudletry/core/ResponseTimeModelErlangCPinLaw", "term", "(II[J[J)J"⟩ : MethodName)) hown (mvT hZ (hw _ (List.mem_of_getElem? (i := 14) rfl))) (mvT hZ (hw _ (List.mem_of_getElem? (i := 15) rfl))) (mvT hZ (hw _ (List.mem_of_getElem? (i := 16) rfl))) (mvT hZ (hw _ (List.mem_of_getElem? (i := 17) rfl))) (by decide) (backOf (W := 2) (rm2 l Z a0 hw [] (4 : Int32) (Int32.ofNat sn) b13 b2 clm clf (own_mp mn 4) (own_fac sn) (own_fac 4) h29 n0 Z32z Arm Arf hinm4 hatm4 hins hats hinf4 hatf4 (by decide)) hZ (hw _ (List.mem_of_getElem? (i := 17) rfl)) (hw _ (List.mem_of_getElem? (i := 16) rfl)) (by decide) (by decide)) (g := (mkF m 235 #[.val (.int p0), .val (.int p1), .val (.int (Int32.ofNat sn)), .val (.int (Int32.ofNat mn)), .val (.double (own_x mn)), .second, .val (.double (own_ec sn (own_x mn))), .second, .val (.ref b2), .val (.ref b13), .unset, .unset, .unset, .unset, .unset, .unset, .unset, .unset, .unset, .unset] [(.ref b2), (.ref b13), (.int (Int32.ofNat sn)), (.int (4 : Int32)), (.long ((((own_t sn mn 0) + (own_t sn mn 1)) + (own_t sn mn 2)) + (own_t sn mn 3)))])) rfl (by rw [hml]; rfl) (argsL := [(.int (4 : Int32)), (.int (Int32.ofNat sn)), (.ref b13), (.ref b2)]) (rest := [(.long ((((own_t sn mn 0) + (own_t sn mn 1)) + (own_t sn mn 2)) + (own_t sn mn 3)))]) (lenOf pd_1 rfl) rfl (by show 2 * 0 + _ ≤ _; exact Nat.le_of_eq rfl) (hb hby at_235) (fun _ _ => ⟨rfl, eq35, (by decide : 2 + 0 ≤ _), (by decide : 18 + 0 ≤ _)⟩)
  dsimp only [Pt.U, Pt.locs, Pt.cells, Pt.slots] at X36 l36 y36 z36 st36 hQ36
  subst l36 y36 z36
  obtain ⟨rfl, N36q, eq36⟩ := hQ36
  have N36 := Fr.app N35 N36q
  obtain ⟨LL36, X36, N36⟩ := own_hide X36 N36
  obtain ⟨_, _, ⟨T37, L37, k37, n37⟩, -, X37, ⟨Lc37, hQ37, l37, y37, z37⟩, st37⟩ := Jvm.LawKit.callS X36 hx (y := (⟨"com/example/cloudletry/cloudletry/core/ResponseTimeModelErlangCPinLaw", "term", "(II[J[J)J"⟩ : MethodName)) hown (mvT hZ (hw _ (List.mem_of_getElem? (i := 14) rfl))) (mvT hZ (hw _ (List.mem_of_getElem? (i := 15) rfl))) (mvT hZ (hw _ (List.mem_of_getElem? (i := 16) rfl))) (mvT hZ (hw _ (List.mem_of_getElem? (i := 17) rfl))) (by decide) (backOf (W := 2) (rm2 l Z a0 hw [] (5 : Int32) (Int32.ofNat sn) b13 b2 clm clf (own_mp mn 5) (own_fac sn) (own_fac 5) h29 n0 Z32z Arm Arf hinm5 hatm5 hins hats hinf5 hatf5 (by decide)) hZ (hw _ (List.mem_of_getElem? (i := 17) rfl)) (hw _ (List.mem_of_getElem? (i := 16) rfl)) (by decide) (by decide)) (g := (mkF m 245 #[.val (.int p0), .val (.int p1), .val (.int (Int32.ofNat sn)), .val (.int (Int32.ofNat mn)), .val (.double (own_x mn)), .second, .val (.double (own_ec sn (own_x mn))), .second, .val (.ref b2), .val (.ref b13), .unset, .unset, .unset, .unset, .unset, .unset, .unset, .unset, .unset, .unset] [(.ref b2), (.ref b13), (.int (Int32.ofNat sn)), (.int (5 : Int32)), (.long (((((own_t sn mn 0) + (own_t sn mn 1)) + (own_t sn mn 2)) + (own_t sn mn 3)) + (own_t sn mn 4)))])) rfl (by rw [hml]; rfl) (argsL := [(.int (5 : Int32)), (.int (Int32.ofNat sn)), (.ref b13), (.ref b2)]) (rest := [(.long (((((own_t sn mn 0) + (own_t sn mn 1)) + (own_t sn mn 2)) + (own_t sn mn 3)) + (own_t sn mn 4)))]) (lenOf pd_1 rfl) rfl (by show 2 * 0 + _ ≤ _; exact Nat.le_of_eq rfl) (hb hby at_245) (fun _ _ => ⟨rfl, eq36, (by decide : 2 + 0 ≤ _), (by decide : 18 + 0 ≤ _)⟩)
  dsimp only [Pt.U, Pt.locs, Pt.cells, Pt.slots] at X37 l37 y37 z37 st37 hQ37
  subst l37 y37 z37
  obtain ⟨rfl, N37q, eq37⟩ := hQ37
  have N37 := Fr.app N36 N37q
  obtain ⟨LL37, X37, N37⟩ := own_hide X37 N37
  obtain ⟨_, _, ⟨T38, L38, k38, n38⟩, -, X38, ⟨Lc38, hQ38, l38, y38, z38⟩, st38⟩ := Jvm.LawKit.callS X37 hx (y := (⟨"com/example/cloudletry/cloudletry/core/ResponseTimeModelErlangCPinLaw", "term", "(II[J[J)J"⟩ : MethodName)) hown (mvT hZ (hw _ (List.mem_of_getElem? (i := 14) rfl))) (mvT hZ (hw _ (List.mem_of_getElem? (i := 15) rfl))) (mvT hZ (hw _ (List.mem_of_getElem? (i := 16) rfl))) (mvT hZ (hw _ (List.mem_of_getElem? (i := 17) rfl))) (by decide) (backOf (W := 2) (rm2 l Z a0 hw [] (6 : Int32) (Int32.ofNat sn) b13 b2 clm clf (own_mp mn 6) (own_fac sn) (own_fac 6) h29 n0 Z32z Arm Arf hinm6 hatm6 hins hats hinf6 hatf6 (by decide)) hZ (hw _ (List.mem_of_getElem? (i := 17) rfl)) (hw _ (List.mem_of_getElem? (i := 16) rfl)) (by decide) (by decide)) (g := (mkF m 256 #[.val (.int p0), .val (.int p1), .val (.int (Int32.ofNat sn)), .val (.int (Int32.ofNat mn)), .val (.double (own_x mn)), .second, .val (.double (own_ec sn (own_x mn))), .second, .val (.ref b2), .val (.ref b13), .unset, .unset, .unset, .unset, .unset, .unset, .unset, .unset, .unset, .unset] [(.ref b2), (.ref b13), (.int (Int32.ofNat sn)), (.int (6 : Int32)), (.long ((((((own_t sn mn 0) + (own_t sn mn 1)) + (own_t sn mn 2)) + (own_t sn mn 3)) + (own_t sn mn 4)) + (own_t sn mn 5)))])) rfl (by rw [hml]; rfl) (argsL := [(.int (6 : Int32)), (.int (Int32.ofNat sn)), (.ref b13), (.ref b2)]) (rest := [(.long ((((((own_t sn mn 0) + (own_t sn mn 1)) + (own_t sn mn 2)) + (own_t sn mn 3)) + (own_t sn mn 4)) + (own_t sn mn 5)))]) (lenOf pd_1 rfl) rfl (by show 2 * 0 + _ ≤ _; exact Nat.le_of_eq rfl) (hb hby at_256) (fun _ _ => ⟨rfl, eq37, (by decide : 2 + 0 ≤ _), (by decide : 18 + 0 ≤ _)⟩)
  dsimp only [Pt.U, Pt.locs, Pt.cells, Pt.slots] at X38 l38 y38 z38 st38 hQ38
  subst l38 y38 z38
  obtain ⟨rfl, N38q, eq38⟩ := hQ38
  have N38 := Fr.app N37 N38q
  obtain ⟨LL38, X38, N38⟩ := own_hide X38 N38
  obtain ⟨_, _, ⟨T39, L39, k39, n39⟩, -, X39, ⟨Lc39, hQ39, l39, y39, z39⟩, st39⟩ := Jvm.LawKit.callS X38 hx (y := (⟨"com/example/cloudletry/cloudletry/core/ResponseTimeModelErlangCPinLaw", "term", "(II[J[J)J"⟩ : MethodName)) hown (mvT hZ (hw _ (List.mem_of_getElem? (i := 14) rfl))) (mvT hZ (hw _ (List.mem_of_getElem? (i := 15) rfl))) (mvT hZ (hw _ (List.mem_of_getElem? (i := 16) rfl))) (mvT hZ (hw _ (List.mem_of_getElem? (i := 17) rfl))) (by decide) (backOf (W := 2) (rm2 l Z a0 hw [] (7 : Int32) (Int32.ofNat sn) b13 b2 clm clf (own_mp mn 7) (own_fac sn) (own_fac 7) h29 n0 Z32z Arm Arf hinm7 hatm7 hins hats hinf7 hatf7 (by decide)) hZ (hw _ (List.mem_of_getElem? (i := 17) rfl)) (hw _ (List.mem_of_getElem? (i := 16) rfl)) (by decide) (by decide)) (g := (mkF m 267 #[.val (.int p0), .val (.int p1), .val (.int (Int32.ofNat sn)), .val (.int (Int32.ofNat mn)), .val (.double (own_x mn)), .second, .val (.double (own_ec sn (own_x mn))), .second, .val (.ref b2), .val (.ref b13), .unset, .unset, .unset, .unset, .unset, .unset, .unset, .unset, .unset, .unset] [(.ref b2), (.ref b13), (.int (Int32.ofNat sn)), (.int (7 : Int32)), (.long (((((((own_t sn mn 0) + (own_t sn mn 1)) + (own_t sn mn 2)) + (own_t sn mn 3)) + (own_t sn mn 4)) + (own_t sn mn 5)) + (own_t sn mn 6)))])) rfl (by rw [hml]; rfl) (argsL := [(.int (7 : Int32)), (.int (Int32.ofNat sn)), (.ref b13), (.ref b2)]) (rest := [(.long (((((((own_t sn mn 0) + (own_t sn mn 1)) + (own_t sn mn 2)) + (own_t sn mn 3)) + (own_t sn mn 4)) + (own_t sn mn 5)) + (own_t sn mn 6)))]) (lenOf pd_1 rfl) rfl (by show 2 * 0 + _ ≤ _; exact Nat.le_of_eq rfl) (hb hby at_267) (fun _ _ => ⟨rfl, eq38, (by decide : 2 + 0 ≤ _), (by decide : 18 + 0 ≤ _)⟩)
  dsimp only [Pt.U, Pt.locs, Pt.cells, Pt.slots] at X39 l39 y39 z39 st39 hQ39
  subst l39 y39 z39
  obtain ⟨rfl, N39q, eq39⟩ := hQ39
  have N39 := Fr.app N38 N39q
  obtain ⟨LL39, X39, N39⟩ := own_hide X39 N39
  obtain ⟨fs, hr, hrun, hended, hW, hsame⟩ := X39.leave (v := some (.int (1 : Int32))) (fun h => by rw [Bd.returns] at h; cases h)
  refine ⟨_, _, pre0 _ ?_, hrun, hended, _, _, rfl, ?_, ⟨_, rfl⟩, hW, hsame.mono (by decide) (by decide)⟩
  · show Steps p.tables e below (s₁.setTop (mkF m 0 #[.val (.int p0), .val (.int p1), .unset, .unset, .unset, .unset, .unset, .unset, .unset, .unset, .unset, .unset, .unset, .unset, .unset, .unset, .unset, .unset, .unset, .unset] [])) _
    refine XS.iconst X0.here hx rfl (hb hby at_0) ?_
    show Steps p.tables e below (s₁.setTop (mkF m 1 #[.val (.int p0), .val (.int p1), .unset, .unset, .unset, .unset, .unset, .unset, .unset, .unset, .unset, .unset, .unset, .unset, .unset, .unset, .unset, .unset, .unset, .unset] [(.int (1 : Int32))])) _
    refine XS.iloadN X0.here hx rfl (hb hby at_1) rfl ?_
    show Steps p.tables e below (s₁.setTop (mkF m 2 #[.val (.int p0), .val (.int p1), .unset, .unset, .unset, .unset, .unset, .unset, .unset, .unset, .unset, .unset, .unset, .unset, .unset, .unset, .unset, .unset, .unset, .unset] [(.int p0), (.int (1 : Int32))])) _
    refine XS.bipush X0.here hx rfl (hb hby at_2) ?_
    show Steps p.tables e below (s₁.setTop (mkF m 4 #[.val (.int p0), .val (.int p1), .unset, .unset, .unset, .unset, .unset, .unset, .unset, .unset, .unset, .unset, .unset, .unset, .unset, .unset, .unset, .unset, .unset, .unset] [(.int (7 : Int32)), (.int p0), (.int (1 : Int32))])) _
    refine XS.iand X0.here hx rfl (hb hby at_4) rfl ?_
    show Steps p.tables e below (s₁.setTop (mkF m 5 #[.val (.int p0), .val (.int p1), .unset, .unset, .unset, .unset, .unset, .unset, .unset, .unset, .unset, .unset, .unset, .unset, .unset, .unset, .unset, .unset, .unset, .unset] [(.int (p0 &&& (7 : Int32))), (.int (1 : Int32))])) _
    refine XS.iadd X0.here hx rfl (hb hby at_5) rfl ?_
    show Steps p.tables e below (s₁.setTop (mkF m 6 #[.val (.int p0), .val (.int p1), .unset, .unset, .unset, .unset, .unset, .unset, .unset, .unset, .unset, .unset, .unset, .unset, .unset, .unset, .unset, .unset, .unset, .unset] [(.int ((1 : Int32) + (p0 &&& (7 : Int32))))])) _
    rw [show ((1 : Int32) + (p0 &&& (7 : Int32))) = (Int32.ofNat sn) from hsx]
    show Steps p.tables e below (s₁.setTop (mkF m 6 #[.val (.int p0), .val (.int p1), .unset, .unset, .unset, .unset, .unset, .unset, .unset, .unset, .unset, .unset, .unset, .unset, .unset, .unset, .unset, .unset, .unset, .unset] [(.int (Int32.ofNat sn))])) _
    refine XS.istoreN X0.here hx rfl (hb hby at_6) rfl (l' := #[.val (.int p0), .val (.int p1), .val (.int (Int32.ofNat sn)), .unset, .unset, .unset, .unset, .unset, .unset, .unset, .unset, .unset, .unset, .unset, .unset, .unset, .unset, .unset, .unset, .unset]) rfl ?_
    show Steps p.tables e below (s₁.setTop (mkF m 7 #[.val (.int p0), .val (.int p1), .val (.int (Int32.ofNat sn)), .unset, .unset, .unset, .unset, .unset, .unset, .unset, .unset, .unset, .unset, .unset, .unset, .unset, .unset, .unset, .unset, .unset] [])) _
    refine XS.iloadN X0.here hx rfl (hb hby at_7) rfl ?_
    show Steps p.tables e below (s₁.setTop (mkF m 8 #[.val (.int p0), .val (.int p1), .val (.int (Int32.ofNat sn)), .unset, .unset, .unset, .unset, .unset, .unset, .unset, .unset, .unset, .unset, .unset, .unset, .unset, .unset, .unset, .unset, .unset] [(.int p1)])) _
    refine X0.ldcInt hx hown (mvT hZ (hw _ (List.mem_of_getElem? (i := 0) rfl))) (g := (mkF m 8 #[.val (.int p0), .val (.int p1), .val (.int (Int32.ofNat sn)), .unset, .unset, .unset, .unset, .unset, .unset, .unset, .unset, .unset, .unset, .unset, .unset, .unset, .unset, .unset, .unset, .unset] [(.int p1)])) rfl (hb hby at_8) _ ?_
    show Steps p.tables e below (s₁.setTop (mkF m 10 #[.val (.int p0), .val (.int p1), .val (.int (Int32.ofNat sn)), .unset, .unset, .unset, .unset, .unset, .unset, .unset, .unset, .unset, .unset, .unset, .unset, .unset, .unset, .unset, .unset, .unset] [(.int (2147483647 : Int32)), (.int p1)])) _
    refine XS.iand X0.here hx rfl (hb hby at_10) rfl ?_
    show Steps p.tables e below (s₁.setTop (mkF m 11 #[.val (.int p0), .val (.int p1), .val (.int (Int32.ofNat sn)), .unset, .unset, .unset, .unset, .unset, .unset, .unset, .unset, .unset, .unset, .unset, .unset, .unset, .unset, .unset, .unset, .unset] [(.int (p1 &&& (2147483647 : Int32)))])) _
    refine XS.iconst X0.here hx rfl (hb hby at_11) ?_
    show Steps p.tables e below (s₁.setTop (mkF m 12 #[.val (.int p0), .val (.int p1), .val (.int (Int32.ofNat sn)), .unset, .unset, .unset, .unset, .unset, .unset, .unset, .unset, .unset, .unset, .unset, .unset, .unset, .unset, .unset, .unset, .unset] [(.int (4 : Int32)), (.int (p1 &&& (2147483647 : Int32)))])) _
    refine XS.iloadN X0.here hx rfl (hb hby at_12) rfl ?_
    show Steps p.tables e below (s₁.setTop (mkF m 13 #[.val (.int p0), .val (.int p1), .val (.int (Int32.ofNat sn)), .unset, .unset, .unset, .unset, .unset, .unset, .unset, .unset, .unset, .unset, .unset, .unset, .unset, .unset, .unset, .unset, .unset] [(.int (Int32.ofNat sn)), (.int (4 : Int32)), (.int (p1 &&& (2147483647 : Int32)))])) _
    refine XS.imul X0.here hx rfl (hb hby at_13) rfl ?_
    show Steps p.tables e below (s₁.setTop (mkF m 14 #[.val (.int p0), .val (.int p1), .val (.int (Int32.ofNat sn)), .unset, .unset, .unset, .unset, .unset, .unset, .unset, .unset, .unset, .unset, .unset, .unset, .unset, .unset, .unset, .unset, .unset] [(.int ((4 : Int32) * (Int32.ofNat sn))), (.int (p1 &&& (2147483647 : Int32)))])) _
    refine Jvm.RoadKit.iremM (g := (mkF m 14 #[.val (.int p0), .val (.int p1), .val (.int (Int32.ofNat sn)), .unset, .unset, .unset, .unset, .unset, .unset, .unset, .unset, .unset, .unset, .unset, .unset, .unset, .unset, .unset, .unset, .unset] [(.int ((4 : Int32) * (Int32.ofNat sn))), (.int (p1 &&& (2147483647 : Int32)))])) X0 hx rfl (hb hby at_14) rfl (own_nz sn hs1 hs8) ?_
    show Steps p.tables e below (s₁.setTop (mkF m 15 #[.val (.int p0), .val (.int p1), .val (.int (Int32.ofNat sn)), .unset, .unset, .unset, .unset, .unset, .unset, .unset, .unset, .unset, .unset, .unset, .unset, .unset, .unset, .unset, .unset, .unset] [(.int ((p1 &&& (2147483647 : Int32)) % ((4 : Int32) * (Int32.ofNat sn))))])) _
    rw [show ((p1 &&& (2147483647 : Int32)) % ((4 : Int32) * (Int32.ofNat sn))) = (Int32.ofNat mn) from hmx]
    show Steps p.tables e below (s₁.setTop (mkF m 15 #[.val (.int p0), .val (.int p1), .val (.int (Int32.ofNat sn)), .unset, .unset, .unset, .unset, .unset, .unset, .unset, .unset, .unset, .unset, .unset, .unset, .unset, .unset, .unset, .unset, .unset] [(.int (Int32.ofNat mn))])) _
    refine XS.istoreN X0.here hx rfl (hb hby at_15) rfl (l' := #[.val (.int p0), .val (.int p1), .val (.int (Int32.ofNat sn)), .val (.int (Int32.ofNat mn)), .unset, .unset, .unset, .unset, .unset, .unset, .unset, .unset, .unset, .unset, .unset, .unset, .unset, .unset, .unset, .unset]) rfl ?_
    show Steps p.tables e below (s₁.setTop (mkF m 16 #[.val (.int p0), .val (.int p1), .val (.int (Int32.ofNat sn)), .val (.int (Int32.ofNat mn)), .unset, .unset, .unset, .unset, .unset, .unset, .unset, .unset, .unset, .unset, .unset, .unset, .unset, .unset, .unset, .unset] [])) _
    refine XS.iloadN X0.here hx rfl (hb hby at_16) rfl ?_
    show Steps p.tables e below (s₁.setTop (mkF m 17 #[.val (.int p0), .val (.int p1), .val (.int (Int32.ofNat sn)), .val (.int (Int32.ofNat mn)), .unset, .unset, .unset, .unset, .unset, .unset, .unset, .unset, .unset, .unset, .unset, .unset, .unset, .unset, .unset, .unset] [(.int (Int32.ofNat mn))])) _
    refine XS.i2dS X0.here hx rfl (hb hby at_17) rfl rfl ?_
    show Steps p.tables e below (s₁.setTop (mkF m 18 #[.val (.int p0), .val (.int p1), .val (.int (Int32.ofNat sn)), .val (.int (Int32.ofNat mn)), .unset, .unset, .unset, .unset, .unset, .unset, .unset, .unset, .unset, .unset, .unset, .unset, .unset, .unset, .unset, .unset] [(.double (FP.i2d (Int32.ofNat mn)))])) _
    refine X0.ldc2DoubleC hx hown (mvT hZ (hw _ (List.mem_of_getElem? (i := 1) rfl))) (g := (mkF m 18 #[.val (.int p0), .val (.int p1), .val (.int (Int32.ofNat sn)), .val (.int (Int32.ofNat mn)), .unset, .unset, .unset, .unset, .unset, .unset, .unset, .unset, .unset, .unset, .unset, .unset, .unset, .unset, .unset, .unset] [(.double (FP.i2d (Int32.ofNat mn)))])) rfl (hb hby at_18) _ ?_
    show Steps p.tables e below (s₁.setTop (mkF m 21 #[.val (.int p0), .val (.int p1), .val (.int (Int32.ofNat sn)), .val (.int (Int32.ofNat mn)), .unset, .unset, .unset, .unset, .unset, .unset, .unset, .unset, .unset, .unset, .unset, .unset, .unset, .unset, .unset, .unset] [(.double (4616189618054758400 : UInt64)), (.double (FP.i2d (Int32.ofNat mn)))])) _
    refine XS.ddivS X0.here hx rfl (hb hby at_21) rfl hC.1 rfl ?_
    show Steps p.tables e below (s₁.setTop (mkF m 22 #[.val (.int p0), .val (.int p1), .val (.int (Int32.ofNat sn)), .val (.int (Int32.ofNat mn)), .unset, .unset, .unset, .unset, .unset, .unset, .unset, .unset, .unset, .unset, .unset, .unset, .unset, .unset, .unset, .unset] [(.double (FP.ddiv (FP.i2d (Int32.ofNat mn)) (4616189618054758400 : UInt64)))])) _
    refine XS.dstore X0.here hx rfl (hb hby at_22) rfl (l' := #[.val (.int p0), .val (.int p1), .val (.int (Int32.ofNat sn)), .val (.int (Int32.ofNat mn)), .val (.double (own_x mn)), .second, .unset, .unset, .unset, .unset, .unset, .unset, .unset, .unset, .unset, .unset, .unset, .unset, .unset, .unset]) rfl ?_
    show Steps p.tables e below (s₁.setTop (mkF m 24 #[.val (.int p0), .val (.int p1), .val (.int (Int32.ofNat sn)), .val (.int (Int32.ofNat mn)), .val (.double (own_x mn)), .second, .unset, .unset, .unset, .unset, .unset, .unset, .unset, .unset, .unset, .unset, .unset, .unset, .unset, .unset] [])) _
    refine XS.iloadN X0.here hx rfl (hb hby at_24) rfl ?_
    show Steps p.tables e below (s₁.setTop (mkF m 25 #[.val (.int p0), .val (.int p1), .val (.int (Int32.ofNat sn)), .val (.int (Int32.ofNat mn)), .val (.double (own_x mn)), .second, .unset, .unset, .unset, .unset, .unset, .unset, .unset, .unset, .unset, .unset, .unset, .unset, .unset, .unset] [(.int (Int32.ofNat sn))])) _
    refine XS.dload X0.here hx rfl (hb hby at_25) rfl ?_
    show Steps p.tables e below (s₁.setTop (mkF m 27 #[.val (.int p0), .val (.int p1), .val (.int (Int32.ofNat sn)), .val (.int (Int32.ofNat mn)), .val (.double (own_x mn)), .second, .unset, .unset, .unset, .unset, .unset, .unset, .unset, .unset, .unset, .unset, .unset, .unset, .unset, .unset] [(.double (own_x mn)), (.int (Int32.ofNat sn))])) _
    refine st1 _ ?_
    show Steps p.tables e below (T1.setTop (mkF m 30 #[.val (.int p0), .val (.int p1), .val (.int (Int32.ofNat sn)), .val (.int (Int32.ofNat mn)), .val (.double (own_x mn)), .second, .unset, .unset, .unset, .unset, .unset, .unset, .unset, .unset, .unset, .unset, .unset, .unset, .unset, .unset] [(.double (own_ec sn (own_x mn)))])) _
    refine XS.dstore X1.here hx rfl (hb hby at_30) rfl (l' := #[.val (.int p0), .val (.int p1), .val (.int (Int32.ofNat sn)), .val (.int (Int32.ofNat mn)), .val (.double (own_x mn)), .second, .val (.double (own_ec sn (own_x mn))), .second, .unset, .unset, .unset, .unset, .unset, .unset, .unset, .unset, .unset, .unset, .unset, .unset]) rfl ?_
    show Steps p.tables e below (T1.setTop (mkF m 32 #[.val (.int p0), .val (.int p1), .val (.int (Int32.ofNat sn)), .val (.int (Int32.ofNat mn)), .val (.double (own_x mn)), .second, .val (.double (own_ec sn (own_x mn))), .second, .unset, .unset, .unset, .unset, .unset, .unset, .unset, .unset, .unset, .unset, .unset, .unset] [])) _
    refine XS.bipush X1.here hx rfl (hb hby at_32) ?_
    show Steps p.tables e below (T1.setTop (mkF m 34 #[.val (.int p0), .val (.int p1), .val (.int (Int32.ofNat sn)), .val (.int (Int32.ofNat mn)), .val (.double (own_x mn)), .second, .val (.double (own_ec sn (own_x mn))), .second, .unset, .unset, .unset, .unset, .unset, .unset, .unset, .unset, .unset, .unset, .unset, .unset] [(.int (9 : Int32))])) _
    refine st2 _ ?_
    show Steps p.tables e below (T2.setTop (mkF m 36 #[.val (.int p0), .val (.int p1), .val (.int (Int32.ofNat sn)), .val (.int (Int32.ofNat mn)), .val (.double (own_x mn)), .second, .val (.double (own_ec sn (own_x mn))), .second, .unset, .unset, .unset, .unset, .unset, .unset, .unset, .unset, .unset, .unset, .unset, .unset] [(.ref b2)])) _
    refine XS.dup X2.here hx rfl (hb hby at_36) rfl rfl ?_
    show Steps p.tables e below (T2.setTop (mkF m 37 #[.val (.int p0), .val (.int p1), .val (.int (Int32.ofNat sn)), .val (.int (Int32.ofNat mn)), .val (.double (own_x mn)), .second, .val (.double (own_ec sn (own_x mn))), .second, .unset, .unset, .unset, .unset, .unset, .unset, .unset, .unset, .unset, .unset, .unset, .unset] [(.ref b2), (.ref b2)])) _
    refine XS.iconst X2.here hx rfl (hb hby at_37) ?_
    show Steps p.tables e below (T2.setTop (mkF m 38 #[.val (.int p0), .val (.int p1), .val (.int (Int32.ofNat sn)), .val (.int (Int32.ofNat mn)), .val (.double (own_x mn)), .second, .val (.double (own_ec sn (own_x mn))), .second, .unset, .unset, .unset, .unset, .unset, .unset, .unset, .unset, .unset, .unset, .unset, .unset] [(.int (0 : Int32)), (.ref b2), (.ref b2)])) _
    refine XS.lconst X2.here hx rfl (hb hby at_38) ?_
    show Steps p.tables e below (T2.setTop (mkF m 39 #[.val (.int p0), .val (.int p1), .val (.int (Int32.ofNat sn)), .val (.int (Int32.ofNat mn)), .val (.double (own_x mn)), .second, .val (.double (own_ec sn (own_x mn))), .second, .unset, .unset, .unset, .unset, .unset, .unset, .unset, .unset, .unset, .unset, .unset, .unset] [(.long (1 : Int64)), (.int (0 : Int32)), (.ref b2), (.ref b2)])) _
    refine st3 _ ?_
    show Steps p.tables e below (T3.setTop (mkF m 40 #[.val (.int p0), .val (.int p1), .val (.int (Int32.ofNat sn)), .val (.int (Int32.ofNat mn)), .val (.double (own_x mn)), .second, .val (.double (own_ec sn (own_x mn))), .second, .unset, .unset, .unset, .unset, .unset, .unset, .unset, .unset, .unset, .unset, .unset, .unset] [(.ref b2)])) _
    refine XS.dup X3.here hx rfl (hb hby at_40) rfl rfl ?_
    show Steps p.tables e below (T3.setTop (mkF m 41 #[.val (.int p0), .val (.int p1), .val (.int (Int32.ofNat sn)), .val (.int (Int32.ofNat mn)), .val (.double (own_x mn)), .second, .val (.double (own_ec sn (own_x mn))), .second, .unset, .unset, .unset, .unset, .unset, .unset, .unset, .unset, .unset, .unset, .unset, .unset] [(.ref b2), (.ref b2)])) _
    refine XS.iconst X3.here hx rfl (hb hby at_41) ?_
    show Steps p.tables e below (T3.setTop (mkF m 42 #[.val (.int p0), .val (.int p1), .val (.int (Int32.ofNat sn)), .val (.int (Int32.ofNat mn)), .val (.double (own_x mn)), .second, .val (.double (own_ec sn (own_x mn))), .second, .unset, .unset, .unset, .unset, .unset, .unset, .unset, .unset, .unset, .unset, .unset, .unset] [(.int (1 : Int32)), (.ref b2), (.ref b2)])) _
    refine XS.lconst X3.here hx rfl (hb hby at_42) ?_
    show Steps p.tables e below (T3.setTop (mkF m 43 #[.val (.int p0), .val (.int p1), .val (.int (Int32.ofNat sn)), .val (.int (Int32.ofNat mn)), .val (.double (own_x mn)), .second, .val (.double (own_ec sn (own_x mn))), .second, .unset, .unset, .unset, .unset, .unset, .unset, .unset, .unset, .unset, .unset, .unset, .unset] [(.long (1 : Int64)), (.int (1 : Int32)), (.ref b2), (.ref b2)])) _
    refine st4 _ ?_
    show Steps p.tables e below (T4.setTop (mkF m 44 #[.val (.int p0), .val (.int p1), .val (.int (Int32.ofNat sn)), .val (.int (Int32.ofNat mn)), .val (.double (own_x mn)), .second, .val (.double (own_ec sn (own_x mn))), .second, .unset, .unset, .unset, .unset, .unset, .unset, .unset, .unset, .unset, .unset, .unset, .unset] [(.ref b2)])) _
    refine XS.dup X4.here hx rfl (hb hby at_44) rfl rfl ?_
    show Steps p.tables e below (T4.setTop (mkF m 45 #[.val (.int p0), .val (.int p1), .val (.int (Int32.ofNat sn)), .val (.int (Int32.ofNat mn)), .val (.double (own_x mn)), .second, .val (.double (own_ec sn (own_x mn))), .second, .unset, .unset, .unset, .unset, .unset, .unset, .unset, .unset, .unset, .unset, .unset, .unset] [(.ref b2), (.ref b2)])) _
    refine XS.iconst X4.here hx rfl (hb hby at_45) ?_
    show Steps p.tables e below (T4.setTop (mkF m 46 #[.val (.int p0), .val (.int p1), .val (.int (Int32.ofNat sn)), .val (.int (Int32.ofNat mn)), .val (.double (own_x mn)), .second, .val (.double (own_ec sn (own_x mn))), .second, .unset, .unset, .unset, .unset, .unset, .unset, .unset, .unset, .unset, .unset, .unset, .unset] [(.int (2 : Int32)), (.ref b2), (.ref b2)])) _
    refine X4.ldc2Long hx hown (mvT hZ (hw _ (List.mem_of_getElem? (i := 7) rfl))) (g := (mkF m 46 #[.val (.int p0), .val (.int p1), .val (.int (Int32.ofNat sn)), .val (.int (Int32.ofNat mn)), .val (.double (own_x mn)), .second, .val (.double (own_ec sn (own_x mn))), .second, .unset, .unset, .unset, .unset, .unset, .unset, .unset, .unset, .unset, .unset, .unset, .unset] [(.int (2 : Int32)), (.ref b2), (.ref b2)])) rfl (hb hby at_46) _ ?_
    show Steps p.tables e below (T4.setTop (mkF m 49 #[.val (.int p0), .val (.int p1), .val (.int (Int32.ofNat sn)), .val (.int (Int32.ofNat mn)), .val (.double (own_x mn)), .second, .val (.double (own_ec sn (own_x mn))), .second, .unset, .unset, .unset, .unset, .unset, .unset, .unset, .unset, .unset, .unset, .unset, .unset] [(.long (2 : Int64)), (.int (2 : Int32)), (.ref b2), (.ref b2)])) _
    refine st5 _ ?_
    show Steps p.tables e below (T5.setTop (mkF m 50 #[.val (.int p0), .val (.int p1), .val (.int (Int32.ofNat sn)), .val (.int (Int32.ofNat mn)), .val (.double (own_x mn)), .second, .val (.double (own_ec sn (own_x mn))), .second, .unset, .unset, .unset, .unset, .unset, .unset, .unset, .unset, .unset, .unset, .unset, .unset] [(.ref b2)])) _
    refine XS.dup X5.here hx rfl (hb hby at_50) rfl rfl ?_
    show Steps p.tables e below (T5.setTop (mkF m 51 #[.val (.int p0), .val (.int p1), .val (.int (Int32.ofNat sn)), .val (.int (Int32.ofNat mn)), .val (.double (own_x mn)), .second, .val (.double (own_ec sn (own_x mn))), .second, .unset, .unset, .unset, .unset, .unset, .unset, .unset, .unset, .unset, .unset, .unset, .unset] [(.ref b2), (.ref b2)])) _
    refine XS.iconst X5.here hx rfl (hb hby at_51) ?_
    show Steps p.tables e below (T5.setTop (mkF m 52 #[.val (.int p0), .val (.int p1), .val (.int (Int32.ofNat sn)), .val (.int (Int32.ofNat mn)), .val (.double (own_x mn)), .second, .val (.double (own_ec sn (own_x mn))), .second, .unset, .unset, .unset, .unset, .unset, .unset, .unset, .unset, .unset, .unset, .unset, .unset] [(.int (3 : Int32)), (.ref b2), (.ref b2)])) _
    refine X5.ldc2Long hx hown (mvT hZ (hw _ (List.mem_of_getElem? (i := 8) rfl))) (g := (mkF m 52 #[.val (.int p0), .val (.int p1), .val (.int (Int32.ofNat sn)), .val (.int (Int32.ofNat mn)), .val (.double (own_x mn)), .second, .val (.double (own_ec sn (own_x mn))), .second, .unset, .unset, .unset, .unset, .unset, .unset, .unset, .unset, .unset, .unset, .unset, .unset] [(.int (3 : Int32)), (.ref b2), (.ref b2)])) rfl (hb hby at_52) _ ?_
    show Steps p.tables e below (T5.setTop (mkF m 55 #[.val (.int p0), .val (.int p1), .val (.int (Int32.ofNat sn)), .val (.int (Int32.ofNat mn)), .val (.double (own_x mn)), .second, .val (.double (own_ec sn (own_x mn))), .second, .unset, .unset, .unset, .unset, .unset, .unset, .unset, .unset, .unset, .unset, .unset, .unset] [(.long (6 : Int64)), (.int (3 : Int32)), (.ref b2), (.ref b2)])) _
    refine st6 _ ?_
    show Steps p.tables e below (T6.setTop (mkF m 56 #[.val (.int p0), .val (.int p1), .val (.int (Int32.ofNat sn)), .val (.int (Int32.ofNat mn)), .val (.double (own_x mn)), .second, .val (.double (own_ec sn (own_x mn))), .second, .unset, .unset, .unset, .unset, .unset, .unset, .unset, .unset, .unset, .unset, .unset, .unset] [(.ref b2)])) _
    refine XS.dup X6.here hx rfl (hb hby at_56) rfl rfl ?_
    show Steps p.tables e below (T6.setTop (mkF m 57 #[.val (.int p0), .val (.int p1), .val (.int (Int32.ofNat sn)), .val (.int (Int32.ofNat mn)), .val (.double (own_x mn)), .second, .val (.double (own_ec sn (own_x mn))), .second, .unset, .unset, .unset, .unset, .unset, .unset, .unset, .unset, .unset, .unset, .unset, .unset] [(.ref b2), (.ref b2)])) _
    refine XS.iconst X6.here hx rfl (hb hby at_57) ?_
    show Steps p.tables e below (T6.setTop (mkF m 58 #[.val (.int p0), .val (.int p1), .val (.int (Int32.ofNat sn)), .val (.int (Int32.ofNat mn)), .val (.double (own_x mn)), .second, .val (.double (own_ec sn (own_x mn))), .second, .unset, .unset, .unset, .unset, .unset, .unset, .unset, .unset, .unset, .unset, .unset, .unset] [(.int (4 : Int32)), (.ref b2), (.ref b2)])) _
    refine X6.ldc2Long hx hown (mvT hZ (hw _ (List.mem_of_getElem? (i := 9) rfl))) (g := (mkF m 58 #[.val (.int p0), .val (.int p1), .val (.int (Int32.ofNat sn)), .val (.int (Int32.ofNat mn)), .val (.double (own_x mn)), .second, .val (.double (own_ec sn (own_x mn))), .second, .unset, .unset, .unset, .unset, .unset, .unset, .unset, .unset, .unset, .unset, .unset, .unset] [(.int (4 : Int32)), (.ref b2), (.ref b2)])) rfl (hb hby at_58) _ ?_
    show Steps p.tables e below (T6.setTop (mkF m 61 #[.val (.int p0), .val (.int p1), .val (.int (Int32.ofNat sn)), .val (.int (Int32.ofNat mn)), .val (.double (own_x mn)), .second, .val (.double (own_ec sn (own_x mn))), .second, .unset, .unset, .unset, .unset, .unset, .unset, .unset, .unset, .unset, .unset, .unset, .unset] [(.long (24 : Int64)), (.int (4 : Int32)), (.ref b2), (.ref b2)])) _
    refine st7 _ ?_
    show Steps p.tables e below (T7.setTop (mkF m 62 #[.val (.int p0), .val (.int p1), .val (.int (Int32.ofNat sn)), .val (.int (Int32.ofNat mn)), .val (.double (own_x mn)), .second, .val (.double (own_ec sn (own_x mn))), .second, .unset, .unset, .unset, .unset, .unset, .unset, .unset, .unset, .unset, .unset, .unset, .unset] [(.ref b2)])) _
    refine XS.dup X7.here hx rfl (hb hby at_62) rfl rfl ?_
    show Steps p.tables e below (T7.setTop (mkF m 63 #[.val (.int p0), .val (.int p1), .val (.int (Int32.ofNat sn)), .val (.int (Int32.ofNat mn)), .val (.double (own_x mn)), .second, .val (.double (own_ec sn (own_x mn))), .second, .unset, .unset, .unset, .unset, .unset, .unset, .unset, .unset, .unset, .unset, .unset, .unset] [(.ref b2), (.ref b2)])) _
    refine XS.iconst X7.here hx rfl (hb hby at_63) ?_
    show Steps p.tables e below (T7.setTop (mkF m 64 #[.val (.int p0), .val (.int p1), .val (.int (Int32.ofNat sn)), .val (.int (Int32.ofNat mn)), .val (.double (own_x mn)), .second, .val (.double (own_ec sn (own_x mn))), .second, .unset, .unset, .unset, .unset, .unset, .unset, .unset, .unset, .unset, .unset, .unset, .unset] [(.int (5 : Int32)), (.ref b2), (.ref b2)])) _
    refine X7.ldc2Long hx hown (mvT hZ (hw _ (List.mem_of_getElem? (i := 10) rfl))) (g := (mkF m 64 #[.val (.int p0), .val (.int p1), .val (.int (Int32.ofNat sn)), .val (.int (Int32.ofNat mn)), .val (.double (own_x mn)), .second, .val (.double (own_ec sn (own_x mn))), .second, .unset, .unset, .unset, .unset, .unset, .unset, .unset, .unset, .unset, .unset, .unset, .unset] [(.int (5 : Int32)), (.ref b2), (.ref b2)])) rfl (hb hby at_64) _ ?_
    show Steps p.tables e below (T7.setTop (mkF m 67 #[.val (.int p0), .val (.int p1), .val (.int (Int32.ofNat sn)), .val (.int (Int32.ofNat mn)), .val (.double (own_x mn)), .second, .val (.double (own_ec sn (own_x mn))), .second, .unset, .unset, .unset, .unset, .unset, .unset, .unset, .unset, .unset, .unset, .unset, .unset] [(.long (120 : Int64)), (.int (5 : Int32)), (.ref b2), (.ref b2)])) _
    refine st8 _ ?_
    show Steps p.tables e below (T8.setTop (mkF m 68 #[.val (.int p0), .val (.int p1), .val (.int (Int32.ofNat sn)), .val (.int (Int32.ofNat mn)), .val (.double (own_x mn)), .second, .val (.double (own_ec sn (own_x mn))), .second, .unset, .unset, .unset, .unset, .unset, .unset, .unset, .unset, .unset, .unset, .unset, .unset] [(.ref b2)])) _
    refine XS.dup X8.here hx rfl (hb hby at_68) rfl rfl ?_
    show Steps p.tables e below (T8.setTop (mkF m 69 #[.val (.int p0), .val (.int p1), .val (.int (Int32.ofNat sn)), .val (.int (Int32.ofNat mn)), .val (.double (own_x mn)), .second, .val (.double (own_ec sn (own_x mn))), .second, .unset, .unset, .unset, .unset, .unset, .unset, .unset, .unset, .unset, .unset, .unset, .unset] [(.ref b2), (.ref b2)])) _
    refine XS.bipush X8.here hx rfl (hb hby at_69) ?_
    show Steps p.tables e below (T8.setTop (mkF m 71 #[.val (.int p0), .val (.int p1), .val (.int (Int32.ofNat sn)), .val (.int (Int32.ofNat mn)), .val (.double (own_x mn)), .second, .val (.double (own_ec sn (own_x mn))), .second, .unset, .unset, .unset, .unset, .unset, .unset, .unset, .unset, .unset, .unset, .unset, .unset] [(.int (6 : Int32)), (.ref b2), (.ref b2)])) _
    refine X8.ldc2Long hx hown (mvT hZ (hw _ (List.mem_of_getElem? (i := 11) rfl))) (g := (mkF m 71 #[.val (.int p0), .val (.int p1), .val (.int (Int32.ofNat sn)), .val (.int (Int32.ofNat mn)), .val (.double (own_x mn)), .second, .val (.double (own_ec sn (own_x mn))), .second, .unset, .unset, .unset, .unset, .unset, .unset, .unset, .unset, .unset, .unset, .unset, .unset] [(.int (6 : Int32)), (.ref b2), (.ref b2)])) rfl (hb hby at_71) _ ?_
    show Steps p.tables e below (T8.setTop (mkF m 74 #[.val (.int p0), .val (.int p1), .val (.int (Int32.ofNat sn)), .val (.int (Int32.ofNat mn)), .val (.double (own_x mn)), .second, .val (.double (own_ec sn (own_x mn))), .second, .unset, .unset, .unset, .unset, .unset, .unset, .unset, .unset, .unset, .unset, .unset, .unset] [(.long (720 : Int64)), (.int (6 : Int32)), (.ref b2), (.ref b2)])) _
    refine st9 _ ?_
    show Steps p.tables e below (T9.setTop (mkF m 75 #[.val (.int p0), .val (.int p1), .val (.int (Int32.ofNat sn)), .val (.int (Int32.ofNat mn)), .val (.double (own_x mn)), .second, .val (.double (own_ec sn (own_x mn))), .second, .unset, .unset, .unset, .unset, .unset, .unset, .unset, .unset, .unset, .unset, .unset, .unset] [(.ref b2)])) _
    refine XS.dup X9.here hx rfl (hb hby at_75) rfl rfl ?_
    show Steps p.tables e below (T9.setTop (mkF m 76 #[.val (.int p0), .val (.int p1), .val (.int (Int32.ofNat sn)), .val (.int (Int32.ofNat mn)), .val (.double (own_x mn)), .second, .val (.double (own_ec sn (own_x mn))), .second, .unset, .unset, .unset, .unset, .unset, .unset, .unset, .unset, .unset, .unset, .unset, .unset] [(.ref b2), (.ref b2)])) _
    refine XS.bipush X9.here hx rfl (hb hby at_76) ?_
    show Steps p.tables e below (T9.setTop (mkF m 78 #[.val (.int p0), .val (.int p1), .val (.int (Int32.ofNat sn)), .val (.int (Int32.ofNat mn)), .val (.double (own_x mn)), .second, .val (.double (own_ec sn (own_x mn))), .second, .unset, .unset, .unset, .unset, .unset, .unset, .unset, .unset, .unset, .unset, .unset, .unset] [(.int (7 : Int32)), (.ref b2), (.ref b2)])) _
    refine X9.ldc2Long hx hown (mvT hZ (hw _ (List.mem_of_getElem? (i := 12) rfl))) (g := (mkF m 78 #[.val (.int p0), .val (.int p1), .val (.int (Int32.ofNat sn)), .val (.int (Int32.ofNat mn)), .val (.double (own_x mn)), .second, .val (.double (own_ec sn (own_x mn))), .second, .unset, .unset, .unset, .unset, .unset, .unset, .unset, .unset, .unset, .unset, .unset, .unset] [(.int (7 : Int32)), (.ref b2), (.ref b2)])) rfl (hb hby at_78) _ ?_
    show Steps p.tables e below (T9.setTop (mkF m 81 #[.val (.int p0), .val (.int p1), .val (.int (Int32.ofNat sn)), .val (.int (Int32.ofNat mn)), .val (.double (own_x mn)), .second, .val (.double (own_ec sn (own_x mn))), .second, .unset, .unset, .unset, .unset, .unset, .unset, .unset, .unset, .unset, .unset, .unset, .unset] [(.long (5040 : Int64)), (.int (7 : Int32)), (.ref b2), (.ref b2)])) _
    refine st10 _ ?_
    show Steps p.tables e below (T10.setTop (mkF m 82 #[.val (.int p0), .val (.int p1), .val (.int (Int32.ofNat sn)), .val (.int (Int32.ofNat mn)), .val (.double (own_x mn)), .second, .val (.double (own_ec sn (own_x mn))), .second, .unset, .unset, .unset, .unset, .unset, .unset, .unset, .unset, .unset, .unset, .unset, .unset] [(.ref b2)])) _
    refine XS.dup X10.here hx rfl (hb hby at_82) rfl rfl ?_
    show Steps p.tables e below (T10.setTop (mkF m 83 #[.val (.int p0), .val (.int p1), .val (.int (Int32.ofNat sn)), .val (.int (Int32.ofNat mn)), .val (.double (own_x mn)), .second, .val (.double (own_ec sn (own_x mn))), .second, .unset, .unset, .unset, .unset, .unset, .unset, .unset, .unset, .unset, .unset, .unset, .unset] [(.ref b2), (.ref b2)])) _
    refine XS.bipush X10.here hx rfl (hb hby at_83) ?_
    show Steps p.tables e below (T10.setTop (mkF m 85 #[.val (.int p0), .val (.int p1), .val (.int (Int32.ofNat sn)), .val (.int (Int32.ofNat mn)), .val (.double (own_x mn)), .second, .val (.double (own_ec sn (own_x mn))), .second, .unset, .unset, .unset, .unset, .unset, .unset, .unset, .unset, .unset, .unset, .unset, .unset] [(.int (8 : Int32)), (.ref b2), (.ref b2)])) _
    refine X10.ldc2Long hx hown (mvT hZ (hw _ (List.mem_of_getElem? (i := 13) rfl))) (g := (mkF m 85 #[.val (.int p0), .val (.int p1), .val (.int (Int32.ofNat sn)), .val (.int (Int32.ofNat mn)), .val (.double (own_x mn)), .second, .val (.double (own_ec sn (own_x mn))), .second, .unset, .unset, .unset, .unset, .unset, .unset, .unset, .unset, .unset, .unset, .unset, .unset] [(.int (8 : Int32)), (.ref b2), (.ref b2)])) rfl (hb hby at_85) _ ?_
    show Steps p.tables e below (T10.setTop (mkF m 88 #[.val (.int p0), .val (.int p1), .val (.int (Int32.ofNat sn)), .val (.int (Int32.ofNat mn)), .val (.double (own_x mn)), .second, .val (.double (own_ec sn (own_x mn))), .second, .unset, .unset, .unset, .unset, .unset, .unset, .unset, .unset, .unset, .unset, .unset, .unset] [(.long (40320 : Int64)), (.int (8 : Int32)), (.ref b2), (.ref b2)])) _
    refine st11 _ ?_
    show Steps p.tables e below (T11.setTop (mkF m 89 #[.val (.int p0), .val (.int p1), .val (.int (Int32.ofNat sn)), .val (.int (Int32.ofNat mn)), .val (.double (own_x mn)), .second, .val (.double (own_ec sn (own_x mn))), .second, .unset, .unset, .unset, .unset, .unset, .unset, .unset, .unset, .unset, .unset, .unset, .unset] [(.ref b2)])) _
    refine XS.astore X11.here hx rfl (hb hby at_89) rfl rfl (l' := #[.val (.int p0), .val (.int p1), .val (.int (Int32.ofNat sn)), .val (.int (Int32.ofNat mn)), .val (.double (own_x mn)), .second, .val (.double (own_ec sn (own_x mn))), .second, .val (.ref b2), .unset, .unset, .unset, .unset, .unset, .unset, .unset, .unset, .unset, .unset, .unset]) rfl ?_
    show Steps p.tables e below (T11.setTop (mkF m 91 #[.val (.int p0), .val (.int p1), .val (.int (Int32.ofNat sn)), .val (.int (Int32.ofNat mn)), .val (.double (own_x mn)), .second, .val (.double (own_ec sn (own_x mn))), .second, .val (.ref b2), .unset, .unset, .unset, .unset, .unset, .unset, .unset, .unset, .unset, .unset, .unset] [])) _
    refine XS.bipush X11.here hx rfl (hb hby at_91) ?_
    show Steps p.tables e below (T11.setTop (mkF m 93 #[.val (.int p0), .val (.int p1), .val (.int (Int32.ofNat sn)), .val (.int (Int32.ofNat mn)), .val (.double (own_x mn)), .second, .val (.double (own_ec sn (own_x mn))), .second, .val (.ref b2), .unset, .unset, .unset, .unset, .unset, .unset, .unset, .unset, .unset, .unset, .unset] [(.int (9 : Int32))])) _
    refine st13 _ ?_
    show Steps p.tables e below (T13.setTop (mkF m 95 #[.val (.int p0), .val (.int p1), .val (.int (Int32.ofNat sn)), .val (.int (Int32.ofNat mn)), .val (.double (own_x mn)), .second, .val (.double (own_ec sn (own_x mn))), .second, .val (.ref b2), .unset, .unset, .unset, .unset, .unset, .unset, .unset, .unset, .unset, .unset, .unset] [(.ref b13)])) _
    refine XS.astore X13.here hx rfl (hb hby at_95) rfl rfl (l' := #[.val (.int p0), .val (.int p1), .val (.int (Int32.ofNat sn)), .val (.int (Int32.ofNat mn)), .val (.double (own_x mn)), .second, .val (.double (own_ec sn (own_x mn))), .second, .val (.ref b2), .val (.ref b13), .unset, .unset, .unset, .unset, .unset, .unset, .unset, .unset, .unset, .unset]) rfl ?_
    show Steps p.tables e below (T13.setTop (mkF m 97 #[.val (.int p0), .val (.int p1), .val (.int (Int32.ofNat sn)), .val (.int (Int32.ofNat mn)), .val (.double (own_x mn)), .second, .val (.double (own_ec sn (own_x mn))), .second, .val (.ref b2), .val (.ref b13), .unset, .unset, .unset, .unset, .unset, .unset, .unset, .unset, .unset, .unset] [])) _
    refine XS.aload X13.here hx rfl (hb hby at_97) rfl rfl ?_
    show Steps p.tables e below (T13.setTop (mkF m 99 #[.val (.int p0), .val (.int p1), .val (.int (Int32.ofNat sn)), .val (.int (Int32.ofNat mn)), .val (.double (own_x mn)), .second, .val (.double (own_ec sn (own_x mn))), .second, .val (.ref b2), .val (.ref b13), .unset, .unset, .unset, .unset, .unset, .unset, .unset, .unset, .unset, .unset] [(.ref b13)])) _
    refine XS.iconst X13.here hx rfl (hb hby at_99) ?_
    show Steps p.tables e below (T13.setTop (mkF m 100 #[.val (.int p0), .val (.int p1), .val (.int (Int32.ofNat sn)), .val (.int (Int32.ofNat mn)), .val (.double (own_x mn)), .second, .val (.double (own_ec sn (own_x mn))), .second, .val (.ref b2), .val (.ref b13), .unset, .unset, .unset, .unset, .unset, .unset, .unset, .unset, .unset, .unset] [(.int (0 : Int32)), (.ref b13)])) _
    refine XS.lconst X13.here hx rfl (hb hby at_100) ?_
    show Steps p.tables e below (T13.setTop (mkF m 101 #[.val (.int p0), .val (.int p1), .val (.int (Int32.ofNat sn)), .val (.int (Int32.ofNat mn)), .val (.double (own_x mn)), .second, .val (.double (own_ec sn (own_x mn))), .second, .val (.ref b2), .val (.ref b13), .unset, .unset, .unset, .unset, .unset, .unset, .unset, .unset, .unset, .unset] [(.long (1 : Int64)), (.int (0 : Int32)), (.ref b13)])) _
    refine st14 _ ?_
    show Steps p.tables e below (T14.setTop (mkF m 102 #[.val (.int p0), .val (.int p1), .val (.int (Int32.ofNat sn)), .val (.int (Int32.ofNat mn)), .val (.double (own_x mn)), .second, .val (.double (own_ec sn (own_x mn))), .second, .val (.ref b2), .val (.ref b13), .unset, .unset, .unset, .unset, .unset, .unset, .unset, .unset, .unset, .unset] [])) _
    refine XS.aload X14.here hx rfl (hb hby at_102) rfl rfl ?_
    show Steps p.tables e below (T14.setTop (mkF m 104 #[.val (.int p0), .val (.int p1), .val (.int (Int32.ofNat sn)), .val (.int (Int32.ofNat mn)), .val (.double (own_x mn)), .second, .val (.double (own_ec sn (own_x mn))), .second, .val (.ref b2), .val (.ref b13), .unset, .unset, .unset, .unset, .unset, .unset, .unset, .unset, .unset, .unset] [(.ref b13)])) _
    refine XS.iconst X14.here hx rfl (hb hby at_104) ?_
    show Steps p.tables e below (T14.setTop (mkF m 105 #[.val (.int p0), .val (.int p1), .val (.int (Int32.ofNat sn)), .val (.int (Int32.ofNat mn)), .val (.double (own_x mn)), .second, .val (.double (own_ec sn (own_x mn))), .second, .val (.ref b2), .val (.ref b13), .unset, .unset, .unset, .unset, .unset, .unset, .unset, .unset, .unset, .unset] [(.int (1 : Int32)), (.ref b13)])) _
    refine XS.iloadN X14.here hx rfl (hb hby at_105) rfl ?_
    show Steps p.tables e below (T14.setTop (mkF m 106 #[.val (.int p0), .val (.int p1), .val (.int (Int32.ofNat sn)), .val (.int (Int32.ofNat mn)), .val (.double (own_x mn)), .second, .val (.double (own_ec sn (own_x mn))), .second, .val (.ref b2), .val (.ref b13), .unset, .unset, .unset, .unset, .unset, .unset, .unset, .unset, .unset, .unset] [(.int (Int32.ofNat mn)), (.int (1 : Int32)), (.ref b13)])) _
    refine XS.i2l X14.here hx rfl (hb hby at_106) rfl ?_
    show Steps p.tables e below (T14.setTop (mkF m 107 #[.val (.int p0), .val (.int p1), .val (.int (Int32.ofNat sn)), .val (.int (Int32.ofNat mn)), .val (.double (own_x mn)), .second, .val (.double (own_ec sn (own_x mn))), .second, .val (.ref b2), .val (.ref b13), .unset, .unset, .unset, .unset, .unset, .unset, .unset, .unset, .unset, .unset] [(.long ((Int32.ofNat mn).toInt64)), (.int (1 : Int32)), (.ref b13)])) _
    refine st15 _ ?_
    show Steps p.tables e below (T15.setTop (mkF m 108 #[.val (.int p0), .val (.int p1), .val (.int (Int32.ofNat sn)), .val (.int (Int32.ofNat mn)), .val (.double (own_x mn)), .second, .val (.double (own_ec sn (own_x mn))), .second, .val (.ref b2), .val (.ref b13), .unset, .unset, .unset, .unset, .unset, .unset, .unset, .unset, .unset, .unset] [])) _
    refine XS.aload X15.here hx rfl (hb hby at_108) rfl rfl ?_
    show Steps p.tables e below (T15.setTop (mkF m 110 #[.val (.int p0), .val (.int p1), .val (.int (Int32.ofNat sn)), .val (.int (Int32.ofNat mn)), .val (.double (own_x mn)), .second, .val (.double (own_ec sn (own_x mn))), .second, .val (.ref b2), .val (.ref b13), .unset, .unset, .unset, .unset, .unset, .unset, .unset, .unset, .unset, .unset] [(.ref b13)])) _
    refine XS.iconst X15.here hx rfl (hb hby at_110) ?_
    show Steps p.tables e below (T15.setTop (mkF m 111 #[.val (.int p0), .val (.int p1), .val (.int (Int32.ofNat sn)), .val (.int (Int32.ofNat mn)), .val (.double (own_x mn)), .second, .val (.double (own_ec sn (own_x mn))), .second, .val (.ref b2), .val (.ref b13), .unset, .unset, .unset, .unset, .unset, .unset, .unset, .unset, .unset, .unset] [(.int (2 : Int32)), (.ref b13)])) _
    refine XS.aload X15.here hx rfl (hb hby at_111) rfl rfl ?_
    show Steps p.tables e below (T15.setTop (mkF m 113 #[.val (.int p0), .val (.int p1), .val (.int (Int32.ofNat sn)), .val (.int (Int32.ofNat mn)), .val (.double (own_x mn)), .second, .val (.double (own_ec sn (own_x mn))), .second, .val (.ref b2), .val (.ref b13), .unset, .unset, .unset, .unset, .unset, .unset, .unset, .unset, .unset, .unset] [(.ref b13), (.int (2 : Int32)), (.ref b13)])) _
    refine XS.iconst X15.here hx rfl (hb hby at_113) ?_
    show Steps p.tables e below (T15.setTop (mkF m 114 #[.val (.int p0), .val (.int p1), .val (.int (Int32.ofNat sn)), .val (.int (Int32.ofNat mn)), .val (.double (own_x mn)), .second, .val (.double (own_ec sn (own_x mn))), .second, .val (.ref b2), .val (.ref b13), .unset, .unset, .unset, .unset, .unset, .unset, .unset, .unset, .unset, .unset] [(.int (1 : Int32)), (.ref b13), (.int (2 : Int32)), (.ref b13)])) _
    refine X15.laload hx (j := (1 : Int32)) (v := (.long (own_mp mn 1))) (by rw [e15]; exact Ar_b13_16.1) (State.isArrayOf_alike hZ.alike Ar_b13_16.2.1) Ar_b13_16.2.2 hin_b13_16 hat_b13_16 (g := (mkF m 114 #[.val (.int p0), .val (.int p1), .val (.int (Int32.ofNat sn)), .val (.int (Int32.ofNat mn)), .val (.double (own_x mn)), .second, .val (.double (own_ec sn (own_x mn))), .second, .val (.ref b2), .val (.ref b13), .unset, .unset, .unset, .unset, .unset, .unset, .unset, .unset, .unset, .unset] [(.int (1 : Int32)), (.ref b13), (.int (2 : Int32)), (.ref b13)])) rfl rfl (hb hby at_114) _ ?_
    show Steps p.tables e below (T15.setTop (mkF m 115 #[.val (.int p0), .val (.int p1), .val (.int (Int32.ofNat sn)), .val (.int (Int32.ofNat mn)), .val (.double (own_x mn)), .second, .val (.double (own_ec sn (own_x mn))), .second, .val (.ref b2), .val (.ref b13), .unset, .unset, .unset, .unset, .unset, .unset, .unset, .unset, .unset, .unset] [(.long (own_mp mn 1)), (.int (2 : Int32)), (.ref b13)])) _
    refine XS.iloadN X15.here hx rfl (hb hby at_115) rfl ?_
    show Steps p.tables e below (T15.setTop (mkF m 116 #[.val (.int p0), .val (.int p1), .val (.int (Int32.ofNat sn)), .val (.int (Int32.ofNat mn)), .val (.double (own_x mn)), .second, .val (.double (own_ec sn (own_x mn))), .second, .val (.ref b2), .val (.ref b13), .unset, .unset, .unset, .unset, .unset, .unset, .unset, .unset, .unset, .unset] [(.int (Int32.ofNat mn)), (.long (own_mp mn 1)), (.int (2 : Int32)), (.ref b13)])) _
    refine XS.i2l X15.here hx rfl (hb hby at_116) rfl ?_
    show Steps p.tables e below (T15.setTop (mkF m 117 #[.val (.int p0), .val (.int p1), .val (.int (Int32.ofNat sn)), .val (.int (Int32.ofNat mn)), .val (.double (own_x mn)), .second, .val (.double (own_ec sn (own_x mn))), .second, .val (.ref b2), .val (.ref b13), .unset, .unset, .unset, .unset, .unset, .unset, .unset, .unset, .unset, .unset] [(.long ((Int32.ofNat mn).toInt64)), (.long (own_mp mn 1)), (.int (2 : Int32)), (.ref b13)])) _
    refine XS.lmul X15.here hx rfl (hb hby at_117) rfl ?_
    show Steps p.tables e below (T15.setTop (mkF m 118 #[.val (.int p0), .val (.int p1), .val (.int (Int32.ofNat sn)), .val (.int (Int32.ofNat mn)), .val (.double (own_x mn)), .second, .val (.double (own_ec sn (own_x mn))), .second, .val (.ref b2), .val (.ref b13), .unset, .unset, .unset, .unset, .unset, .unset, .unset, .unset, .unset, .unset] [(.long ((own_mp mn 1) * ((Int32.ofNat mn).toInt64))), (.int (2 : Int32)), (.ref b13)])) _
    refine st17 _ ?_
    show Steps p.tables e below (T17.setTop (mkF m 119 #[.val (.int p0), .val (.int p1), .val (.int (Int32.ofNat sn)), .val (.int (Int32.ofNat mn)), .val (.double (own_x mn)), .second, .val (.double (own_ec sn (own_x mn))), .second, .val (.ref b2), .val (.ref b13), .unset, .unset, .unset, .unset, .unset, .unset, .unset, .unset, .unset, .unset] [])) _
    refine XS.aload X17.here hx rfl (hb hby at_119) rfl rfl ?_
    show Steps p.tables e below (T17.setTop (mkF m 121 #[.val (.int p0), .val (.int p1), .val (.int (Int32.ofNat sn)), .val (.int (Int32.ofNat mn)), .val (.double (own_x mn)), .second, .val (.double (own_ec sn (own_x mn))), .second, .val (.ref b2), .val (.ref b13), .unset, .unset, .unset, .unset, .unset, .unset, .unset, .unset, .unset, .unset] [(.ref b13)])) _
    refine XS.iconst X17.here hx rfl (hb hby at_121) ?_
    show Steps p.tables e below (T17.setTop (mkF m 122 #[.val (.int p0), .val (.int p1), .val (.int (Int32.ofNat sn)), .val (.int (Int32.ofNat mn)), .val (.double (own_x mn)), .second, .val (.double (own_ec sn (own_x mn))), .second, .val (.ref b2), .val (.ref b13), .unset, .unset, .unset, .unset, .unset, .unset, .unset, .unset, .unset, .unset] [(.int (3 : Int32)), (.ref b13)])) _
    refine XS.aload X17.here hx rfl (hb hby at_122) rfl rfl ?_
    show Steps p.tables e below (T17.setTop (mkF m 124 #[.val (.int p0), .val (.int p1), .val (.int (Int32.ofNat sn)), .val (.int (Int32.ofNat mn)), .val (.double (own_x mn)), .second, .val (.double (own_ec sn (own_x mn))), .second, .val (.ref b2), .val (.ref b13), .unset, .unset, .unset, .unset, .unset, .unset, .unset, .unset, .unset, .unset] [(.ref b13), (.int (3 : Int32)), (.ref b13)])) _
    refine XS.iconst X17.here hx rfl (hb hby at_124) ?_
    show Steps p.tables e below (T17.setTop (mkF m 125 #[.val (.int p0), .val (.int p1), .val (.int (Int32.ofNat sn)), .val (.int (Int32.ofNat mn)), .val (.double (own_x mn)), .second, .val (.double (own_ec sn (own_x mn))), .second, .val (.ref b2), .val (.ref b13), .unset, .unset, .unset, .unset, .unset, .unset, .unset, .unset, .unset, .unset] [(.int (2 : Int32)), (.ref b13), (.int (3 : Int32)), (.ref b13)])) _
    refine X17.laload hx (j := (2 : Int32)) (v := (.long (own_mp mn 2))) (by rw [e17]; exact Ar_b13_18.1) (State.isArrayOf_alike hZ.alike Ar_b13_18.2.1) Ar_b13_18.2.2 hin_b13_18 hat_b13_18 (g := (mkF m 125 #[.val (.int p0), .val (.int p1), .val (.int (Int32.ofNat sn)), .val (.int (Int32.ofNat mn)), .val (.double (own_x mn)), .second, .val (.double (own_ec sn (own_x mn))), .second, .val (.ref b2), .val (.ref b13), .unset, .unset, .unset, .unset, .unset, .unset, .unset, .unset, .unset, .unset] [(.int (2 : Int32)), (.ref b13), (.int (3 : Int32)), (.ref b13)])) rfl rfl (hb hby at_125) _ ?_
    show Steps p.tables e below (T17.setTop (mkF m 126 #[.val (.int p0), .val (.int p1), .val (.int (Int32.ofNat sn)), .val (.int (Int32.ofNat mn)), .val (.double (own_x mn)), .second, .val (.double (own_ec sn (own_x mn))), .second, .val (.ref b2), .val (.ref b13), .unset, .unset, .unset, .unset, .unset, .unset, .unset, .unset, .unset, .unset] [(.long (own_mp mn 2)), (.int (3 : Int32)), (.ref b13)])) _
    refine XS.iloadN X17.here hx rfl (hb hby at_126) rfl ?_
    show Steps p.tables e below (T17.setTop (mkF m 127 #[.val (.int p0), .val (.int p1), .val (.int (Int32.ofNat sn)), .val (.int (Int32.ofNat mn)), .val (.double (own_x mn)), .second, .val (.double (own_ec sn (own_x mn))), .second, .val (.ref b2), .val (.ref b13), .unset, .unset, .unset, .unset, .unset, .unset, .unset, .unset, .unset, .unset] [(.int (Int32.ofNat mn)), (.long (own_mp mn 2)), (.int (3 : Int32)), (.ref b13)])) _
    refine XS.i2l X17.here hx rfl (hb hby at_127) rfl ?_
    show Steps p.tables e below (T17.setTop (mkF m 128 #[.val (.int p0), .val (.int p1), .val (.int (Int32.ofNat sn)), .val (.int (Int32.ofNat mn)), .val (.double (own_x mn)), .second, .val (.double (own_ec sn (own_x mn))), .second, .val (.ref b2), .val (.ref b13), .unset, .unset, .unset, .unset, .unset, .unset, .unset, .unset, .unset, .unset] [(.long ((Int32.ofNat mn).toInt64)), (.long (own_mp mn 2)), (.int (3 : Int32)), (.ref b13)])) _
    refine XS.lmul X17.here hx rfl (hb hby at_128) rfl ?_
    show Steps p.tables e below (T17.setTop (mkF m 129 #[.val (.int p0), .val (.int p1), .val (.int (Int32.ofNat sn)), .val (.int (Int32.ofNat mn)), .val (.double (own_x mn)), .second, .val (.double (own_ec sn (own_x mn))), .second, .val (.ref b2), .val (.ref b13), .unset, .unset, .unset, .unset, .unset, .unset, .unset, .unset, .unset, .unset] [(.long ((own_mp mn 2) * ((Int32.ofNat mn).toInt64))), (.int (3 : Int32)), (.ref b13)])) _
    refine st19 _ ?_
    show Steps p.tables e below (T19.setTop (mkF m 130 #[.val (.int p0), .val (.int p1), .val (.int (Int32.ofNat sn)), .val (.int (Int32.ofNat mn)), .val (.double (own_x mn)), .second, .val (.double (own_ec sn (own_x mn))), .second, .val (.ref b2), .val (.ref b13), .unset, .unset, .unset, .unset, .unset, .unset, .unset, .unset, .unset, .unset] [])) _
    refine XS.aload X19.here hx rfl (hb hby at_130) rfl rfl ?_
    show Steps p.tables e below (T19.setTop (mkF m 132 #[.val (.int p0), .val (.int p1), .val (.int (Int32.ofNat sn)), .val (.int (Int32.ofNat mn)), .val (.double (own_x mn)), .second, .val (.double (own_ec sn (own_x mn))), .second, .val (.ref b2), .val (.ref b13), .unset, .unset, .unset, .unset, .unset, .unset, .unset, .unset, .unset, .unset] [(.ref b13)])) _
    refine XS.iconst X19.here hx rfl (hb hby at_132) ?_
    show Steps p.tables e below (T19.setTop (mkF m 133 #[.val (.int p0), .val (.int p1), .val (.int (Int32.ofNat sn)), .val (.int (Int32.ofNat mn)), .val (.double (own_x mn)), .second, .val (.double (own_ec sn (own_x mn))), .second, .val (.ref b2), .val (.ref b13), .unset, .unset, .unset, .unset, .unset, .unset, .unset, .unset, .unset, .unset] [(.int (4 : Int32)), (.ref b13)])) _
    refine XS.aload X19.here hx rfl (hb hby at_133) rfl rfl ?_
    show Steps p.tables e below (T19.setTop (mkF m 135 #[.val (.int p0), .val (.int p1), .val (.int (Int32.ofNat sn)), .val (.int (Int32.ofNat mn)), .val (.double (own_x mn)), .second, .val (.double (own_ec sn (own_x mn))), .second, .val (.ref b2), .val (.ref b13), .unset, .unset, .unset, .unset, .unset, .unset, .unset, .unset, .unset, .unset] [(.ref b13), (.int (4 : Int32)), (.ref b13)])) _
    refine XS.iconst X19.here hx rfl (hb hby at_135) ?_
    show Steps p.tables e below (T19.setTop (mkF m 136 #[.val (.int p0), .val (.int p1), .val (.int (Int32.ofNat sn)), .val (.int (Int32.ofNat mn)), .val (.double (own_x mn)), .second, .val (.double (own_ec sn (own_x mn))), .second, .val (.ref b2), .val (.ref b13), .unset, .unset, .unset, .unset, .unset, .unset, .unset, .unset, .unset, .unset] [(.int (3 : Int32)), (.ref b13), (.int (4 : Int32)), (.ref b13)])) _
    refine X19.laload hx (j := (3 : Int32)) (v := (.long (own_mp mn 3))) (by rw [e19]; exact Ar_b13_20.1) (State.isArrayOf_alike hZ.alike Ar_b13_20.2.1) Ar_b13_20.2.2 hin_b13_20 hat_b13_20 (g := (mkF m 136 #[.val (.int p0), .val (.int p1), .val (.int (Int32.ofNat sn)), .val (.int (Int32.ofNat mn)), .val (.double (own_x mn)), .second, .val (.double (own_ec sn (own_x mn))), .second, .val (.ref b2), .val (.ref b13), .unset, .unset, .unset, .unset, .unset, .unset, .unset, .unset, .unset, .unset] [(.int (3 : Int32)), (.ref b13), (.int (4 : Int32)), (.ref b13)])) rfl rfl (hb hby at_136) _ ?_
    show Steps p.tables e below (T19.setTop (mkF m 137 #[.val (.int p0), .val (.int p1), .val (.int (Int32.ofNat sn)), .val (.int (Int32.ofNat mn)), .val (.double (own_x mn)), .second, .val (.double (own_ec sn (own_x mn))), .second, .val (.ref b2), .val (.ref b13), .unset, .unset, .unset, .unset, .unset, .unset, .unset, .unset, .unset, .unset] [(.long (own_mp mn 3)), (.int (4 : Int32)), (.ref b13)])) _
    refine XS.iloadN X19.here hx rfl (hb hby at_137) rfl ?_
    show Steps p.tables e below (T19.setTop (mkF m 138 #[.val (.int p0), .val (.int p1), .val (.int (Int32.ofNat sn)), .val (.int (Int32.ofNat mn)), .val (.double (own_x mn)), .second, .val (.double (own_ec sn (own_x mn))), .second, .val (.ref b2), .val (.ref b13), .unset, .unset, .unset, .unset, .unset, .unset, .unset, .unset, .unset, .unset] [(.int (Int32.ofNat mn)), (.long (own_mp mn 3)), (.int (4 : Int32)), (.ref b13)])) _
    refine XS.i2l X19.here hx rfl (hb hby at_138) rfl ?_
    show Steps p.tables e below (T19.setTop (mkF m 139 #[.val (.int p0), .val (.int p1), .val (.int (Int32.ofNat sn)), .val (.int (Int32.ofNat mn)), .val (.double (own_x mn)), .second, .val (.double (own_ec sn (own_x mn))), .second, .val (.ref b2), .val (.ref b13), .unset, .unset, .unset, .unset, .unset, .unset, .unset, .unset, .unset, .unset] [(.long ((Int32.ofNat mn).toInt64)), (.long (own_mp mn 3)), (.int (4 : Int32)), (.ref b13)])) _
    refine XS.lmul X19.here hx rfl (hb hby at_139) rfl ?_
    show Steps p.tables e below (T19.setTop (mkF m 140 #[.val (.int p0), .val (.int p1), .val (.int (Int32.ofNat sn)), .val (.int (Int32.ofNat mn)), .val (.double (own_x mn)), .second, .val (.double (own_ec sn (own_x mn))), .second, .val (.ref b2), .val (.ref b13), .unset, .unset, .unset, .unset, .unset, .unset, .unset, .unset, .unset, .unset] [(.long ((own_mp mn 3) * ((Int32.ofNat mn).toInt64))), (.int (4 : Int32)), (.ref b13)])) _
    refine st21 _ ?_
    show Steps p.tables e below (T21.setTop (mkF m 141 #[.val (.int p0), .val (.int p1), .val (.int (Int32.ofNat sn)), .val (.int (Int32.ofNat mn)), .val (.double (own_x mn)), .second, .val (.double (own_ec sn (own_x mn))), .second, .val (.ref b2), .val (.ref b13), .unset, .unset, .unset, .unset, .unset, .unset, .unset, .unset, .unset, .unset] [])) _
    refine XS.aload X21.here hx rfl (hb hby at_141) rfl rfl ?_
    show Steps p.tables e below (T21.setTop (mkF m 143 #[.val (.int p0), .val (.int p1), .val (.int (Int32.ofNat sn)), .val (.int (Int32.ofNat mn)), .val (.double (own_x mn)), .second, .val (.double (own_ec sn (own_x mn))), .second, .val (.ref b2), .val (.ref b13), .unset, .unset, .unset, .unset, .unset, .unset, .unset, .unset, .unset, .unset] [(.ref b13)])) _
    refine XS.iconst X21.here hx rfl (hb hby at_143) ?_
    show Steps p.tables e below (T21.setTop (mkF m 144 #[.val (.int p0), .val (.int p1), .val (.int (Int32.ofNat sn)), .val (.int (Int32.ofNat mn)), .val (.double (own_x mn)), .second, .val (.double (own_ec sn (own_x mn))), .second, .val (.ref b2), .val (.ref b13), .unset, .unset, .unset, .unset, .unset, .unset, .unset, .unset, .unset, .unset] [(.int (5 : Int32)), (.ref b13)])) _
    refine XS.aload X21.here hx rfl (hb hby at_144) rfl rfl ?_
    show Steps p.tables e below (T21.setTop (mkF m 146 #[.val (.int p0), .val (.int p1), .val (.int (Int32.ofNat sn)), .val (.int (Int32.ofNat mn)), .val (.double (own_x mn)), .second, .val (.double (own_ec sn (own_x mn))), .second, .val (.ref b2), .val (.ref b13), .unset, .unset, .unset, .unset, .unset, .unset, .unset, .unset, .unset, .unset] [(.ref b13), (.int (5 : Int32)), (.ref b13)])) _
    refine XS.iconst X21.here hx rfl (hb hby at_146) ?_
    show Steps p.tables e below (T21.setTop (mkF m 147 #[.val (.int p0), .val (.int p1), .val (.int (Int32.ofNat sn)), .val (.int (Int32.ofNat mn)), .val (.double (own_x mn)), .second, .val (.double (own_ec sn (own_x mn))), .second, .val (.ref b2), .val (.ref b13), .unset, .unset, .unset, .unset, .unset, .unset, .unset, .unset, .unset, .unset] [(.int (4 : Int32)), (.ref b13), (.int (5 : Int32)), (.ref b13)])) _
    refine X21.laload hx (j := (4 : Int32)) (v := (.long (own_mp mn 4))) (by rw [e21]; exact Ar_b13_22.1) (State.isArrayOf_alike hZ.alike Ar_b13_22.2.1) Ar_b13_22.2.2 hin_b13_22 hat_b13_22 (g := (mkF m 147 #[.val (.int p0), .val (.int p1), .val (.int (Int32.ofNat sn)), .val (.int (Int32.ofNat mn)), .val (.double (own_x mn)), .second, .val (.double (own_ec sn (own_x mn))), .second, .val (.ref b2), .val (.ref b13), .unset, .unset, .unset, .unset, .unset, .unset, .unset, .unset, .unset, .unset] [(.int (4 : Int32)), (.ref b13), (.int (5 : Int32)), (.ref b13)])) rfl rfl (hb hby at_147) _ ?_
    show Steps p.tables e below (T21.setTop (mkF m 148 #[.val (.int p0), .val (.int p1), .val (.int (Int32.ofNat sn)), .val (.int (Int32.ofNat mn)), .val (.double (own_x mn)), .second, .val (.double (own_ec sn (own_x mn))), .second, .val (.ref b2), .val (.ref b13), .unset, .unset, .unset, .unset, .unset, .unset, .unset, .unset, .unset, .unset] [(.long (own_mp mn 4)), (.int (5 : Int32)), (.ref b13)])) _
    refine XS.iloadN X21.here hx rfl (hb hby at_148) rfl ?_
    show Steps p.tables e below (T21.setTop (mkF m 149 #[.val (.int p0), .val (.int p1), .val (.int (Int32.ofNat sn)), .val (.int (Int32.ofNat mn)), .val (.double (own_x mn)), .second, .val (.double (own_ec sn (own_x mn))), .second, .val (.ref b2), .val (.ref b13), .unset, .unset, .unset, .unset, .unset, .unset, .unset, .unset, .unset, .unset] [(.int (Int32.ofNat mn)), (.long (own_mp mn 4)), (.int (5 : Int32)), (.ref b13)])) _
    refine XS.i2l X21.here hx rfl (hb hby at_149) rfl ?_
    show Steps p.tables e below (T21.setTop (mkF m 150 #[.val (.int p0), .val (.int p1), .val (.int (Int32.ofNat sn)), .val (.int (Int32.ofNat mn)), .val (.double (own_x mn)), .second, .val (.double (own_ec sn (own_x mn))), .second, .val (.ref b2), .val (.ref b13), .unset, .unset, .unset, .unset, .unset, .unset, .unset, .unset, .unset, .unset] [(.long ((Int32.ofNat mn).toInt64)), (.long (own_mp mn 4)), (.int (5 : Int32)), (.ref b13)])) _
    refine XS.lmul X21.here hx rfl (hb hby at_150) rfl ?_
    show Steps p.tables e below (T21.setTop (mkF m 151 #[.val (.int p0), .val (.int p1), .val (.int (Int32.ofNat sn)), .val (.int (Int32.ofNat mn)), .val (.double (own_x mn)), .second, .val (.double (own_ec sn (own_x mn))), .second, .val (.ref b2), .val (.ref b13), .unset, .unset, .unset, .unset, .unset, .unset, .unset, .unset, .unset, .unset] [(.long ((own_mp mn 4) * ((Int32.ofNat mn).toInt64))), (.int (5 : Int32)), (.ref b13)])) _
    refine st23 _ ?_
    show Steps p.tables e below (T23.setTop (mkF m 152 #[.val (.int p0), .val (.int p1), .val (.int (Int32.ofNat sn)), .val (.int (Int32.ofNat mn)), .val (.double (own_x mn)), .second, .val (.double (own_ec sn (own_x mn))), .second, .val (.ref b2), .val (.ref b13), .unset, .unset, .unset, .unset, .unset, .unset, .unset, .unset, .unset, .unset] [])) _
    refine XS.aload X23.here hx rfl (hb hby at_152) rfl rfl ?_
    show Steps p.tables e below (T23.setTop (mkF m 154 #[.val (.int p0), .val (.int p1), .val (.int (Int32.ofNat sn)), .val (.int (Int32.ofNat mn)), .val (.double (own_x mn)), .second, .val (.double (own_ec sn (own_x mn))), .second, .val (.ref b2), .val (.ref b13), .unset, .unset, .unset, .unset, .unset, .unset, .unset, .unset, .unset, .unset] [(.ref b13)])) _
    refine XS.bipush X23.here hx rfl (hb hby at_154) ?_
    show Steps p.tables e below (T23.setTop (mkF m 156 #[.val (.int p0), .val (.int p1), .val (.int (Int32.ofNat sn)), .val (.int (Int32.ofNat mn)), .val (.double (own_x mn)), .second, .val (.double (own_ec sn (own_x mn))), .second, .val (.ref b2), .val (.ref b13), .unset, .unset, .unset, .unset, .unset, .unset, .unset, .unset, .unset, .unset] [(.int (6 : Int32)), (.ref b13)])) _
    refine XS.aload X23.here hx rfl (hb hby at_156) rfl rfl ?_
    show Steps p.tables e below (T23.setTop (mkF m 158 #[.val (.int p0), .val (.int p1), .val (.int (Int32.ofNat sn)), .val (.int (Int32.ofNat mn)), .val (.double (own_x mn)), .second, .val (.double (own_ec sn (own_x mn))), .second, .val (.ref b2), .val (.ref b13), .unset, .unset, .unset, .unset, .unset, .unset, .unset, .unset, .unset, .unset] [(.ref b13), (.int (6 : Int32)), (.ref b13)])) _
    refine XS.iconst X23.here hx rfl (hb hby at_158) ?_
    show Steps p.tables e below (T23.setTop (mkF m 159 #[.val (.int p0), .val (.int p1), .val (.int (Int32.ofNat sn)), .val (.int (Int32.ofNat mn)), .val (.double (own_x mn)), .second, .val (.double (own_ec sn (own_x mn))), .second, .val (.ref b2), .val (.ref b13), .unset, .unset, .unset, .unset, .unset, .unset, .unset, .unset, .unset, .unset] [(.int (5 : Int32)), (.ref b13), (.int (6 : Int32)), (.ref b13)])) _
    refine X23.laload hx (j := (5 : Int32)) (v := (.long (own_mp mn 5))) (by rw [e23]; exact Ar_b13_24.1) (State.isArrayOf_alike hZ.alike Ar_b13_24.2.1) Ar_b13_24.2.2 hin_b13_24 hat_b13_24 (g := (mkF m 159 #[.val (.int p0), .val (.int p1), .val (.int (Int32.ofNat sn)), .val (.int (Int32.ofNat mn)), .val (.double (own_x mn)), .second, .val (.double (own_ec sn (own_x mn))), .second, .val (.ref b2), .val (.ref b13), .unset, .unset, .unset, .unset, .unset, .unset, .unset, .unset, .unset, .unset] [(.int (5 : Int32)), (.ref b13), (.int (6 : Int32)), (.ref b13)])) rfl rfl (hb hby at_159) _ ?_
    show Steps p.tables e below (T23.setTop (mkF m 160 #[.val (.int p0), .val (.int p1), .val (.int (Int32.ofNat sn)), .val (.int (Int32.ofNat mn)), .val (.double (own_x mn)), .second, .val (.double (own_ec sn (own_x mn))), .second, .val (.ref b2), .val (.ref b13), .unset, .unset, .unset, .unset, .unset, .unset, .unset, .unset, .unset, .unset] [(.long (own_mp mn 5)), (.int (6 : Int32)), (.ref b13)])) _
    refine XS.iloadN X23.here hx rfl (hb hby at_160) rfl ?_
    show Steps p.tables e below (T23.setTop (mkF m 161 #[.val (.int p0), .val (.int p1), .val (.int (Int32.ofNat sn)), .val (.int (Int32.ofNat mn)), .val (.double (own_x mn)), .second, .val (.double (own_ec sn (own_x mn))), .second, .val (.ref b2), .val (.ref b13), .unset, .unset, .unset, .unset, .unset, .unset, .unset, .unset, .unset, .unset] [(.int (Int32.ofNat mn)), (.long (own_mp mn 5)), (.int (6 : Int32)), (.ref b13)])) _
    refine XS.i2l X23.here hx rfl (hb hby at_161) rfl ?_
    show Steps p.tables e below (T23.setTop (mkF m 162 #[.val (.int p0), .val (.int p1), .val (.int (Int32.ofNat sn)), .val (.int (Int32.ofNat mn)), .val (.double (own_x mn)), .second, .val (.double (own_ec sn (own_x mn))), .second, .val (.ref b2), .val (.ref b13), .unset, .unset, .unset, .unset, .unset, .unset, .unset, .unset, .unset, .unset] [(.long ((Int32.ofNat mn).toInt64)), (.long (own_mp mn 5)), (.int (6 : Int32)), (.ref b13)])) _
    refine XS.lmul X23.here hx rfl (hb hby at_162) rfl ?_
    show Steps p.tables e below (T23.setTop (mkF m 163 #[.val (.int p0), .val (.int p1), .val (.int (Int32.ofNat sn)), .val (.int (Int32.ofNat mn)), .val (.double (own_x mn)), .second, .val (.double (own_ec sn (own_x mn))), .second, .val (.ref b2), .val (.ref b13), .unset, .unset, .unset, .unset, .unset, .unset, .unset, .unset, .unset, .unset] [(.long ((own_mp mn 5) * ((Int32.ofNat mn).toInt64))), (.int (6 : Int32)), (.ref b13)])) _
    refine st25 _ ?_
    show Steps p.tables e below (T25.setTop (mkF m 164 #[.val (.int p0), .val (.int p1), .val (.int (Int32.ofNat sn)), .val (.int (Int32.ofNat mn)), .val (.double (own_x mn)), .second, .val (.double (own_ec sn (own_x mn))), .second, .val (.ref b2), .val (.ref b13), .unset, .unset, .unset, .unset, .unset, .unset, .unset, .unset, .unset, .unset] [])) _
    refine XS.aload X25.here hx rfl (hb hby at_164) rfl rfl ?_
    show Steps p.tables e below (T25.setTop (mkF m 166 #[.val (.int p0), .val (.int p1), .val (.int (Int32.ofNat sn)), .val (.int (Int32.ofNat mn)), .val (.double (own_x mn)), .second, .val (.double (own_ec sn (own_x mn))), .second, .val (.ref b2), .val (.ref b13), .unset, .unset, .unset, .unset, .unset, .unset, .unset, .unset, .unset, .unset] [(.ref b13)])) _
    refine XS.bipush X25.here hx rfl (hb hby at_166) ?_
    show Steps p.tables e below (T25.setTop (mkF m 168 #[.val (.int p0), .val (.int p1), .val (.int (Int32.ofNat sn)), .val (.int (Int32.ofNat mn)), .val (.double (own_x mn)), .second, .val (.double (own_ec sn (own_x mn))), .second, .val (.ref b2), .val (.ref b13), .unset, .unset, .unset, .unset, .unset, .unset, .unset, .unset, .unset, .unset] [(.int (7 : Int32)), (.ref b13)])) _
    refine XS.aload X25.here hx rfl (hb hby at_168) rfl rfl ?_
    show Steps p.tables e below (T25.setTop (mkF m 170 #[.val (.int p0), .val (.int p1), .val (.int (Int32.ofNat sn)), .val (.int (Int32.ofNat mn)), .val (.double (own_x mn)), .second, .val (.double (own_ec sn (own_x mn))), .second, .val (.ref b2), .val (.ref b13), .unset, .unset, .unset, .unset, .unset, .unset, .unset, .unset, .unset, .unset] [(.ref b13), (.int (7 : Int32)), (.ref b13)])) _
    refine XS.bipush X25.here hx rfl (hb hby at_170) ?_
    show Steps p.tables e below (T25.setTop (mkF m 172 #[.val (.int p0), .val (.int p1), .val (.int (Int32.ofNat sn)), .val (.int (Int32.ofNat mn)), .val (.double (own_x mn)), .second, .val (.double (own_ec sn (own_x mn))), .second, .val (.ref b2), .val (.ref b13), .unset, .unset, .unset, .unset, .unset, .unset, .unset, .unset, .unset, .unset] [(.int (6 : Int32)), (.ref b13), (.int (7 : Int32)), (.ref b13)])) _
    refine X25.laload hx (j := (6 : Int32)) (v := (.long (own_mp mn 6))) (by rw [e25]; exact Ar_b13_26.1) (State.isArrayOf_alike hZ.alike Ar_b13_26.2.1) Ar_b13_26.2.2 hin_b13_26 hat_b13_26 (g := (mkF m 172 #[.val (.int p0), .val (.int p1), .val (.int (Int32.ofNat sn)), .val (.int (Int32.ofNat mn)), .val (.double (own_x mn)), .second, .val (.double (own_ec sn (own_x mn))), .second, .val (.ref b2), .val (.ref b13), .unset, .unset, .unset, .unset, .unset, .unset, .unset, .unset, .unset, .unset] [(.int (6 : Int32)), (.ref b13), (.int (7 : Int32)), (.ref b13)])) rfl rfl (hb hby at_172) _ ?_
    show Steps p.tables e below (T25.setTop (mkF m 173 #[.val (.int p0), .val (.int p1), .val (.int (Int32.ofNat sn)), .val (.int (Int32.ofNat mn)), .val (.double (own_x mn)), .second, .val (.double (own_ec sn (own_x mn))), .second, .val (.ref b2), .val (.ref b13), .unset, .unset, .unset, .unset, .unset, .unset, .unset, .unset, .unset, .unset] [(.long (own_mp mn 6)), (.int (7 : Int32)), (.ref b13)])) _
    refine XS.iloadN X25.here hx rfl (hb hby at_173) rfl ?_
    show Steps p.tables e below (T25.setTop (mkF m 174 #[.val (.int p0), .val (.int p1), .val (.int (Int32.ofNat sn)), .val (.int (Int32.ofNat mn)), .val (.double (own_x mn)), .second, .val (.double (own_ec sn (own_x mn))), .second, .val (.ref b2), .val (.ref b13), .unset, .unset, .unset, .unset, .unset, .unset, .unset, .unset, .unset, .unset] [(.int (Int32.ofNat mn)), (.long (own_mp mn 6)), (.int (7 : Int32)), (.ref b13)])) _
    refine XS.i2l X25.here hx rfl (hb hby at_174) rfl ?_
    show Steps p.tables e below (T25.setTop (mkF m 175 #[.val (.int p0), .val (.int p1), .val (.int (Int32.ofNat sn)), .val (.int (Int32.ofNat mn)), .val (.double (own_x mn)), .second, .val (.double (own_ec sn (own_x mn))), .second, .val (.ref b2), .val (.ref b13), .unset, .unset, .unset, .unset, .unset, .unset, .unset, .unset, .unset, .unset] [(.long ((Int32.ofNat mn).toInt64)), (.long (own_mp mn 6)), (.int (7 : Int32)), (.ref b13)])) _
    refine XS.lmul X25.here hx rfl (hb hby at_175) rfl ?_
    show Steps p.tables e below (T25.setTop (mkF m 176 #[.val (.int p0), .val (.int p1), .val (.int (Int32.ofNat sn)), .val (.int (Int32.ofNat mn)), .val (.double (own_x mn)), .second, .val (.double (own_ec sn (own_x mn))), .second, .val (.ref b2), .val (.ref b13), .unset, .unset, .unset, .unset, .unset, .unset, .unset, .unset, .unset, .unset] [(.long ((own_mp mn 6) * ((Int32.ofNat mn).toInt64))), (.int (7 : Int32)), (.ref b13)])) _
    refine st27 _ ?_
    show Steps p.tables e below (T27.setTop (mkF m 177 #[.val (.int p0), .val (.int p1), .val (.int (Int32.ofNat sn)), .val (.int (Int32.ofNat mn)), .val (.double (own_x mn)), .second, .val (.double (own_ec sn (own_x mn))), .second, .val (.ref b2), .val (.ref b13), .unset, .unset, .unset, .unset, .unset, .unset, .unset, .unset, .unset, .unset] [])) _
    refine XS.aload X27.here hx rfl (hb hby at_177) rfl rfl ?_
    show Steps p.tables e below (T27.setTop (mkF m 179 #[.val (.int p0), .val (.int p1), .val (.int (Int32.ofNat sn)), .val (.int (Int32.ofNat mn)), .val (.double (own_x mn)), .second, .val (.double (own_ec sn (own_x mn))), .second, .val (.ref b2), .val (.ref b13), .unset, .unset, .unset, .unset, .unset, .unset, .unset, .unset, .unset, .unset] [(.ref b13)])) _
    refine XS.bipush X27.here hx rfl (hb hby at_179) ?_
    show Steps p.tables e below (T27.setTop (mkF m 181 #[.val (.int p0), .val (.int p1), .val (.int (Int32.ofNat sn)), .val (.int (Int32.ofNat mn)), .val (.double (own_x mn)), .second, .val (.double (own_ec sn (own_x mn))), .second, .val (.ref b2), .val (.ref b13), .unset, .unset, .unset, .unset, .unset, .unset, .unset, .unset, .unset, .unset] [(.int (8 : Int32)), (.ref b13)])) _
    refine XS.aload X27.here hx rfl (hb hby at_181) rfl rfl ?_
    show Steps p.tables e below (T27.setTop (mkF m 183 #[.val (.int p0), .val (.int p1), .val (.int (Int32.ofNat sn)), .val (.int (Int32.ofNat mn)), .val (.double (own_x mn)), .second, .val (.double (own_ec sn (own_x mn))), .second, .val (.ref b2), .val (.ref b13), .unset, .unset, .unset, .unset, .unset, .unset, .unset, .unset, .unset, .unset] [(.ref b13), (.int (8 : Int32)), (.ref b13)])) _
    refine XS.bipush X27.here hx rfl (hb hby at_183) ?_
    show Steps p.tables e below (T27.setTop (mkF m 185 #[.val (.int p0), .val (.int p1), .val (.int (Int32.ofNat sn)), .val (.int (Int32.ofNat mn)), .val (.double (own_x mn)), .second, .val (.double (own_ec sn (own_x mn))), .second, .val (.ref b2), .val (.ref b13), .unset, .unset, .unset, .unset, .unset, .unset, .unset, .unset, .unset, .unset] [(.int (7 : Int32)), (.ref b13), (.int (8 : Int32)), (.ref b13)])) _
    refine X27.laload hx (j := (7 : Int32)) (v := (.long (own_mp mn 7))) (by rw [e27]; exact Ar_b13_28.1) (State.isArrayOf_alike hZ.alike Ar_b13_28.2.1) Ar_b13_28.2.2 hin_b13_28 hat_b13_28 (g := (mkF m 185 #[.val (.int p0), .val (.int p1), .val (.int (Int32.ofNat sn)), .val (.int (Int32.ofNat mn)), .val (.double (own_x mn)), .second, .val (.double (own_ec sn (own_x mn))), .second, .val (.ref b2), .val (.ref b13), .unset, .unset, .unset, .unset, .unset, .unset, .unset, .unset, .unset, .unset] [(.int (7 : Int32)), (.ref b13), (.int (8 : Int32)), (.ref b13)])) rfl rfl (hb hby at_185) _ ?_
    show Steps p.tables e below (T27.setTop (mkF m 186 #[.val (.int p0), .val (.int p1), .val (.int (Int32.ofNat sn)), .val (.int (Int32.ofNat mn)), .val (.double (own_x mn)), .second, .val (.double (own_ec sn (own_x mn))), .second, .val (.ref b2), .val (.ref b13), .unset, .unset, .unset, .unset, .unset, .unset, .unset, .unset, .unset, .unset] [(.long (own_mp mn 7)), (.int (8 : Int32)), (.ref b13)])) _
    refine XS.iloadN X27.here hx rfl (hb hby at_186) rfl ?_
    show Steps p.tables e below (T27.setTop (mkF m 187 #[.val (.int p0), .val (.int p1), .val (.int (Int32.ofNat sn)), .val (.int (Int32.ofNat mn)), .val (.double (own_x mn)), .second, .val (.double (own_ec sn (own_x mn))), .second, .val (.ref b2), .val (.ref b13), .unset, .unset, .unset, .unset, .unset, .unset, .unset, .unset, .unset, .unset] [(.int (Int32.ofNat mn)), (.long (own_mp mn 7)), (.int (8 : Int32)), (.ref b13)])) _
    refine XS.i2l X27.here hx rfl (hb hby at_187) rfl ?_
    show Steps p.tables e below (T27.setTop (mkF m 188 #[.val (.int p0), .val (.int p1), .val (.int (Int32.ofNat sn)), .val (.int (Int32.ofNat mn)), .val (.double (own_x mn)), .second, .val (.double (own_ec sn (own_x mn))), .second, .val (.ref b2), .val (.ref b13), .unset, .unset, .unset, .unset, .unset, .unset, .unset, .unset, .unset, .unset] [(.long ((Int32.ofNat mn).toInt64)), (.long (own_mp mn 7)), (.int (8 : Int32)), (.ref b13)])) _
    refine XS.lmul X27.here hx rfl (hb hby at_188) rfl ?_
    show Steps p.tables e below (T27.setTop (mkF m 189 #[.val (.int p0), .val (.int p1), .val (.int (Int32.ofNat sn)), .val (.int (Int32.ofNat mn)), .val (.double (own_x mn)), .second, .val (.double (own_ec sn (own_x mn))), .second, .val (.ref b2), .val (.ref b13), .unset, .unset, .unset, .unset, .unset, .unset, .unset, .unset, .unset, .unset] [(.long ((own_mp mn 7) * ((Int32.ofNat mn).toInt64))), (.int (8 : Int32)), (.ref b13)])) _
    refine st29 _ ?_
    show Steps p.tables e below (T29.setTop (mkF m 190 #[.val (.int p0), .val (.int p1), .val (.int (Int32.ofNat sn)), .val (.int (Int32.ofNat mn)), .val (.double (own_x mn)), .second, .val (.double (own_ec sn (own_x mn))), .second, .val (.ref b2), .val (.ref b13), .unset, .unset, .unset, .unset, .unset, .unset, .unset, .unset, .unset, .unset] [])) _
    refine XS.iconst X29.here hx rfl (hb hby at_190) ?_
    show Steps p.tables e below (T29.setTop (mkF m 191 #[.val (.int p0), .val (.int p1), .val (.int (Int32.ofNat sn)), .val (.int (Int32.ofNat mn)), .val (.double (own_x mn)), .second, .val (.double (own_ec sn (own_x mn))), .second, .val (.ref b2), .val (.ref b13), .unset, .unset, .unset, .unset, .unset, .unset, .unset, .unset, .unset, .unset] [(.int (0 : Int32))])) _
    refine XS.iloadN X29.here hx rfl (hb hby at_191) rfl ?_
    show Steps p.tables e below (T29.setTop (mkF m 192 #[.val (.int p0), .val (.int p1), .val (.int (Int32.ofNat sn)), .val (.int (Int32.ofNat mn)), .val (.double (own_x mn)), .second, .val (.double (own_ec sn (own_x mn))), .second, .val (.ref b2), .val (.ref b13), .unset, .unset, .unset, .unset, .unset, .unset, .unset, .unset, .unset, .unset] [(.int (Int32.ofNat sn)), (.int (0 : Int32))])) _
    refine XS.aload X29.here hx rfl (hb hby at_192) rfl rfl ?_
    show Steps p.tables e below (T29.setTop (mkF m 194 #[.val (.int p0), .val (.int p1), .val (.int (Int32.ofNat sn)), .val (.int (Int32.ofNat mn)), .val (.double (own_x mn)), .second, .val (.double (own_ec sn (own_x mn))), .second, .val (.ref b2), .val (.ref b13), .unset, .unset, .unset, .unset, .unset, .unset, .unset, .unset, .unset, .unset] [(.ref b13), (.int (Int32.ofNat sn)), (.int (0 : Int32))])) _
    refine XS.aload X29.here hx rfl (hb hby at_194) rfl rfl ?_
    show Steps p.tables e below (T29.setTop (mkF m 196 #[.val (.int p0), .val (.int p1), .val (.int (Int32.ofNat sn)), .val (.int (Int32.ofNat mn)), .val (.double (own_x mn)), .second, .val (.double (own_ec sn (own_x mn))), .second, .val (.ref b2), .val (.ref b13), .unset, .unset, .unset, .unset, .unset, .unset, .unset, .unset, .unset, .unset] [(.ref b2), (.ref b13), (.int (Int32.ofNat sn)), (.int (0 : Int32))])) _
    refine st31 _ ?_
    show Steps p.tables e below (T31.setTop (mkF m 199 #[.val (.int p0), .val (.int p1), .val (.int (Int32.ofNat sn)), .val (.int (Int32.ofNat mn)), .val (.double (own_x mn)), .second, .val (.double (own_ec sn (own_x mn))), .second, .val (.ref b2), .val (.ref b13), .unset, .unset, .unset, .unset, .unset, .unset, .unset, .unset, .unset, .unset] [(.long (own_t sn mn 0))])) _
    refine XS.iconst X31.here hx rfl (hb hby at_199) ?_
    show Steps p.tables e below (T31.setTop (mkF m 200 #[.val (.int p0), .val (.int p1), .val (.int (Int32.ofNat sn)), .val (.int (Int32.ofNat mn)), .val (.double (own_x mn)), .second, .val (.double (own_ec sn (own_x mn))), .second, .val (.ref b2), .val (.ref b13), .unset, .unset, .unset, .unset, .unset, .unset, .unset, .unset, .unset, .unset] [(.int (1 : Int32)), (.long (own_t sn mn 0))])) _
    refine XS.iloadN X31.here hx rfl (hb hby at_200) rfl ?_
    show Steps p.tables e below (T31.setTop (mkF m 201 #[.val (.int p0), .val (.int p1), .val (.int (Int32.ofNat sn)), .val (.int (Int32.ofNat mn)), .val (.double (own_x mn)), .second, .val (.double (own_ec sn (own_x mn))), .second, .val (.ref b2), .val (.ref b13), .unset, .unset, .unset, .unset, .unset, .unset, .unset, .unset, .unset, .unset] [(.int (Int32.ofNat sn)), (.int (1 : Int32)), (.long (own_t sn mn 0))])) _
    refine XS.aload X31.here hx rfl (hb hby at_201) rfl rfl ?_
    show Steps p.tables e below (T31.setTop (mkF m 203 #[.val (.int p0), .val (.int p1), .val (.int (Int32.ofNat sn)), .val (.int (Int32.ofNat mn)), .val (.double (own_x mn)), .second, .val (.double (own_ec sn (own_x mn))), .second, .val (.ref b2), .val (.ref b13), .unset, .unset, .unset, .unset, .unset, .unset, .unset, .unset, .unset, .unset] [(.ref b13), (.int (Int32.ofNat sn)), (.int (1 : Int32)), (.long (own_t sn mn 0))])) _
    refine XS.aload X31.here hx rfl (hb hby at_203) rfl rfl ?_
    show Steps p.tables e below (T31.setTop (mkF m 205 #[.val (.int p0), .val (.int p1), .val (.int (Int32.ofNat sn)), .val (.int (Int32.ofNat mn)), .val (.double (own_x mn)), .second, .val (.double (own_ec sn (own_x mn))), .second, .val (.ref b2), .val (.ref b13), .unset, .unset, .unset, .unset, .unset, .unset, .unset, .unset, .unset, .unset] [(.ref b2), (.ref b13), (.int (Int32.ofNat sn)), (.int (1 : Int32)), (.long (own_t sn mn 0))])) _
    refine st33 _ ?_
    show Steps p.tables e below (T33.setTop (mkF m 208 #[.val (.int p0), .val (.int p1), .val (.int (Int32.ofNat sn)), .val (.int (Int32.ofNat mn)), .val (.double (own_x mn)), .second, .val (.double (own_ec sn (own_x mn))), .second, .val (.ref b2), .val (.ref b13), .unset, .unset, .unset, .unset, .unset, .unset, .unset, .unset, .unset, .unset] [(.long (own_t sn mn 1)), (.long (own_t sn mn 0))])) _
    refine XS.ladd X33.here hx rfl (hb hby at_208) rfl ?_
    show Steps p.tables e below (T33.setTop (mkF m 209 #[.val (.int p0), .val (.int p1), .val (.int (Int32.ofNat sn)), .val (.int (Int32.ofNat mn)), .val (.double (own_x mn)), .second, .val (.double (own_ec sn (own_x mn))), .second, .val (.ref b2), .val (.ref b13), .unset, .unset, .unset, .unset, .unset, .unset, .unset, .unset, .unset, .unset] [(.long ((own_t sn mn 0) + (own_t sn mn 1)))])) _
    refine XS.iconst X33.here hx rfl (hb hby at_209) ?_
    show Steps p.tables e below (T33.setTop (mkF m 210 #[.val (.int p0), .val (.int p1), .val (.int (Int32.ofNat sn)), .val (.int (Int32.ofNat mn)), .val (.double (own_x mn)), .second, .val (.double (own_ec sn (own_x mn))), .second, .val (.ref b2), .val (.ref b13), .unset, .unset, .unset, .unset, .unset, .unset, .unset, .unset, .unset, .unset] [(.int (2 : Int32)), (.long ((own_t sn mn 0) + (own_t sn mn 1)))])) _
    refine XS.iloadN X33.here hx rfl (hb hby at_210) rfl ?_
    show Steps p.tables e below (T33.setTop (mkF m 211 #[.val (.int p0), .val (.int p1), .val (.int (Int32.ofNat sn)), .val (.int (Int32.ofNat mn)), .val (.double (own_x mn)), .second, .val (.double (own_ec sn (own_x mn))), .second, .val (.ref b2), .val (.ref b13), .unset, .unset, .unset, .unset, .unset, .unset, .unset, .unset, .unset, .unset] [(.int (Int32.ofNat sn)), (.int (2 : Int32)), (.long ((own_t sn mn 0) + (own_t sn mn 1)))])) _
    refine XS.aload X33.here hx rfl (hb hby at_211) rfl rfl ?_
    show Steps p.tables e below (T33.setTop (mkF m 213 #[.val (.int p0), .val (.int p1), .val (.int (Int32.ofNat sn)), .val (.int (Int32.ofNat mn)), .val (.double (own_x mn)), .second, .val (.double (own_ec sn (own_x mn))), .second, .val (.ref b2), .val (.ref b13), .unset, .unset, .unset, .unset, .unset, .unset, .unset, .unset, .unset, .unset] [(.ref b13), (.int (Int32.ofNat sn)), (.int (2 : Int32)), (.long ((own_t sn mn 0) + (own_t sn mn 1)))])) _
    refine XS.aload X33.here hx rfl (hb hby at_213) rfl rfl ?_
    show Steps p.tables e below (T33.setTop (mkF m 215 #[.val (.int p0), .val (.int p1), .val (.int (Int32.ofNat sn)), .val (.int (Int32.ofNat mn)), .val (.double (own_x mn)), .second, .val (.double (own_ec sn (own_x mn))), .second, .val (.ref b2), .val (.ref b13), .unset, .unset, .unset, .unset, .unset, .unset, .unset, .unset, .unset, .unset] [(.ref b2), (.ref b13), (.int (Int32.ofNat sn)), (.int (2 : Int32)), (.long ((own_t sn mn 0) + (own_t sn mn 1)))])) _
    refine st34 _ ?_
    show Steps p.tables e below (T34.setTop (mkF m 218 #[.val (.int p0), .val (.int p1), .val (.int (Int32.ofNat sn)), .val (.int (Int32.ofNat mn)), .val (.double (own_x mn)), .second, .val (.double (own_ec sn (own_x mn))), .second, .val (.ref b2), .val (.ref b13), .unset, .unset, .unset, .unset, .unset, .unset, .unset, .unset, .unset, .unset] [(.long (own_t sn mn 2)), (.long ((own_t sn mn 0) + (own_t sn mn 1)))])) _
    refine XS.ladd X34.here hx rfl (hb hby at_218) rfl ?_
    show Steps p.tables e below (T34.setTop (mkF m 219 #[.val (.int p0), .val (.int p1), .val (.int (Int32.ofNat sn)), .val (.int (Int32.ofNat mn)), .val (.double (own_x mn)), .second, .val (.double (own_ec sn (own_x mn))), .second, .val (.ref b2), .val (.ref b13), .unset, .unset, .unset, .unset, .unset, .unset, .unset, .unset, .unset, .unset] [(.long (((own_t sn mn 0) + (own_t sn mn 1)) + (own_t sn mn 2)))])) _
    refine XS.iconst X34.here hx rfl (hb hby at_219) ?_
    show Steps p.tables e below (T34.setTop (mkF m 220 #[.val (.int p0), .val (.int p1), .val (.int (Int32.ofNat sn)), .val (.int (Int32.ofNat mn)), .val (.double (own_x mn)), .second, .val (.double (own_ec sn (own_x mn))), .second, .val (.ref b2), .val (.ref b13), .unset, .unset, .unset, .unset, .unset, .unset, .unset, .unset, .unset, .unset] [(.int (3 : Int32)), (.long (((own_t sn mn 0) + (own_t sn mn 1)) + (own_t sn mn 2)))])) _
    refine XS.iloadN X34.here hx rfl (hb hby at_220) rfl ?_
    show Steps p.tables e below (T34.setTop (mkF m 221 #[.val (.int p0), .val (.int p1), .val (.int (Int32.ofNat sn)), .val (.int (Int32.ofNat mn)), .val (.double (own_x mn)), .second, .val (.double (own_ec sn (own_x mn))), .second, .val (.ref b2), .val (.ref b13), .unset, .unset, .unset, .unset, .unset, .unset, .unset, .unset, .unset, .unset] [(.int (Int32.ofNat sn)), (.int (3 : Int32)), (.long (((own_t sn mn 0) + (own_t sn mn 1)) + (own_t sn mn 2)))])) _
    refine XS.aload X34.here hx rfl (hb hby at_221) rfl rfl ?_
    show Steps p.tables e below (T34.setTop (mkF m 223 #[.val (.int p0), .val (.int p1), .val (.int (Int32.ofNat sn)), .val (.int (Int32.ofNat mn)), .val (.double (own_x mn)), .second, .val (.double (own_ec sn (own_x mn))), .second, .val (.ref b2), .val (.ref b13), .unset, .unset, .unset, .unset, .unset, .unset, .unset, .unset, .unset, .unset] [(.ref b13), (.int (Int32.ofNat sn)), (.int (3 : Int32)), (.long (((own_t sn mn 0) + (own_t sn mn 1)) + (own_t sn mn 2)))])) _
    refine XS.aload X34.here hx rfl (hb hby at_223) rfl rfl ?_
    show Steps p.tables e below (T34.setTop (mkF m 225 #[.val (.int p0), .val (.int p1), .val (.int (Int32.ofNat sn)), .val (.int (Int32.ofNat mn)), .val (.double (own_x mn)), .second, .val (.double (own_ec sn (own_x mn))), .second, .val (.ref b2), .val (.ref b13), .unset, .unset, .unset, .unset, .unset, .unset, .unset, .unset, .unset, .unset] [(.ref b2), (.ref b13), (.int (Int32.ofNat sn)), (.int (3 : Int32)), (.long (((own_t sn mn 0) + (own_t sn mn 1)) + (own_t sn mn 2)))])) _
    refine st35 _ ?_
    show Steps p.tables e below (T35.setTop (mkF m 228 #[.val (.int p0), .val (.int p1), .val (.int (Int32.ofNat sn)), .val (.int (Int32.ofNat mn)), .val (.double (own_x mn)), .second, .val (.double (own_ec sn (own_x mn))), .second, .val (.ref b2), .val (.ref b13), .unset, .unset, .unset, .unset, .unset, .unset, .unset, .unset, .unset, .unset] [(.long (own_t sn mn 3)), (.long (((own_t sn mn 0) + (own_t sn mn 1)) + (own_t sn mn 2)))])) _
    refine XS.ladd X35.here hx rfl (hb hby at_228) rfl ?_
    show Steps p.tables e below (T35.setTop (mkF m 229 #[.val (.int p0), .val (.int p1), .val (.int (Int32.ofNat sn)), .val (.int (Int32.ofNat mn)), .val (.double (own_x mn)), .second, .val (.double (own_ec sn (own_x mn))), .second, .val (.ref b2), .val (.ref b13), .unset, .unset, .unset, .unset, .unset, .unset, .unset, .unset, .unset, .unset] [(.long ((((own_t sn mn 0) + (own_t sn mn 1)) + (own_t sn mn 2)) + (own_t sn mn 3)))])) _
    refine XS.iconst X35.here hx rfl (hb hby at_229) ?_
    show Steps p.tables e below (T35.setTop (mkF m 230 #[.val (.int p0), .val (.int p1), .val (.int (Int32.ofNat sn)), .val (.int (Int32.ofNat mn)), .val (.double (own_x mn)), .second, .val (.double (own_ec sn (own_x mn))), .second, .val (.ref b2), .val (.ref b13), .unset, .unset, .unset, .unset, .unset, .unset, .unset, .unset, .unset, .unset] [(.int (4 : Int32)), (.long ((((own_t sn mn 0) + (own_t sn mn 1)) + (own_t sn mn 2)) + (own_t sn mn 3)))])) _
    refine XS.iloadN X35.here hx rfl (hb hby at_230) rfl ?_
    show Steps p.tables e below (T35.setTop (mkF m 231 #[.val (.int p0), .val (.int p1), .val (.int (Int32.ofNat sn)), .val (.int (Int32.ofNat mn)), .val (.double (own_x mn)), .second, .val (.double (own_ec sn (own_x mn))), .second, .val (.ref b2), .val (.ref b13), .unset, .unset, .unset, .unset, .unset, .unset, .unset, .unset, .unset, .unset] [(.int (Int32.ofNat sn)), (.int (4 : Int32)), (.long ((((own_t sn mn 0) + (own_t sn mn 1)) + (own_t sn mn 2)) + (own_t sn mn 3)))])) _
    refine XS.aload X35.here hx rfl (hb hby at_231) rfl rfl ?_
    show Steps p.tables e below (T35.setTop (mkF m 233 #[.val (.int p0), .val (.int p1), .val (.int (Int32.ofNat sn)), .val (.int (Int32.ofNat mn)), .val (.double (own_x mn)), .second, .val (.double (own_ec sn (own_x mn))), .second, .val (.ref b2), .val (.ref b13), .unset, .unset, .unset, .unset, .unset, .unset, .unset, .unset, .unset, .unset] [(.ref b13), (.int (Int32.ofNat sn)), (.int (4 : Int32)), (.long ((((own_t sn mn 0) + (own_t sn mn 1)) + (own_t sn mn 2)) + (own_t sn mn 3)))])) _
    refine XS.aload X35.here hx rfl (hb hby at_233) rfl rfl ?_
    show Steps p.tables e below (T35.setTop (mkF m 235 #[.val (.int p0), .val (.int p1), .val (.int (Int32.ofNat sn)), .val (.int (Int32.ofNat mn)), .val (.double (own_x mn)), .second, .val (.double (own_ec sn (own_x mn))), .second, .val (.ref b2), .val (.ref b13), .unset, .unset, .unset, .unset, .unset, .unset, .unset, .unset, .unset, .unset] [(.ref b2), (.ref b13), (.int (Int32.ofNat sn)), (.int (4 : Int32)), (.long ((((own_t sn mn 0) + (own_t sn mn 1)) + (own_t sn mn 2)) + (own_t sn mn 3)))])) _
    refine st36 _ ?_
    show Steps p.tables e below (T36.setTop (mkF m 238 #[.val (.int p0), .val (.int p1), .val (.int (Int32.ofNat sn)), .val (.int (Int32.ofNat mn)), .val (.double (own_x mn)), .second, .val (.double (own_ec sn (own_x mn))), .second, .val (.ref b2), .val (.ref b13), .unset, .unset, .unset, .unset, .unset, .unset, .unset, .unset, .unset, .unset] [(.long (own_t sn mn 4)), (.long ((((own_t sn mn 0) + (own_t sn mn 1)) + (own_t sn mn 2)) + (own_t sn mn 3)))])) _
    refine XS.ladd X36.here hx rfl (hb hby at_238) rfl ?_
    show Steps p.tables e below (T36.setTop (mkF m 239 #[.val (.int p0), .val (.int p1), .val (.int (Int32.ofNat sn)), .val (.int (Int32.ofNat mn)), .val (.double (own_x mn)), .second, .val (.double (own_ec sn (own_x mn))), .second, .val (.ref b2), .val (.ref b13), .unset, .unset, .unset, .unset, .unset, .unset, .unset, .unset, .unset, .unset] [(.long (((((own_t sn mn 0) + (own_t sn mn 1)) + (own_t sn mn 2)) + (own_t sn mn 3)) + (own_t sn mn 4)))])) _
    refine XS.iconst X36.here hx rfl (hb hby at_239) ?_
    show Steps p.tables e below (T36.setTop (mkF m 240 #[.val (.int p0), .val (.int p1), .val (.int (Int32.ofNat sn)), .val (.int (Int32.ofNat mn)), .val (.double (own_x mn)), .second, .val (.double (own_ec sn (own_x mn))), .second, .val (.ref b2), .val (.ref b13), .unset, .unset, .unset, .unset, .unset, .unset, .unset, .unset, .unset, .unset] [(.int (5 : Int32)), (.long (((((own_t sn mn 0) + (own_t sn mn 1)) + (own_t sn mn 2)) + (own_t sn mn 3)) + (own_t sn mn 4)))])) _
    refine XS.iloadN X36.here hx rfl (hb hby at_240) rfl ?_
    show Steps p.tables e below (T36.setTop (mkF m 241 #[.val (.int p0), .val (.int p1), .val (.int (Int32.ofNat sn)), .val (.int (Int32.ofNat mn)), .val (.double (own_x mn)), .second, .val (.double (own_ec sn (own_x mn))), .second, .val (.ref b2), .val (.ref b13), .unset, .unset, .unset, .unset, .unset, .unset, .unset, .unset, .unset, .unset] [(.int (Int32.ofNat sn)), (.int (5 : Int32)), (.long (((((own_t sn mn 0) + (own_t sn mn 1)) + (own_t sn mn 2)) + (own_t sn mn 3)) + (own_t sn mn 4)))])) _
    refine XS.aload X36.here hx rfl (hb hby at_241) rfl rfl ?_
    show Steps p.tables e below (T36.setTop (mkF m 243 #[.val (.int p0), .val (.int p1), .val (.int (Int32.ofNat sn)), .val (.int (Int32.ofNat mn)), .val (.double (own_x mn)), .second, .val (.double (own_ec sn (own_x mn))), .second, .val (.ref b2), .val (.ref b13), .unset, .unset, .unset, .unset, .unset, .unset, .unset, .unset, .unset, .unset] [(.ref b13), (.int (Int32.ofNat sn)), (.int (5 : Int32)), (.long (((((own_t sn mn 0) + (own_t sn mn 1)) + (own_t sn mn 2)) + (own_t sn mn 3)) + (own_t sn mn 4)))])) _
    refine XS.aload X36.here hx rfl (hb hby at_243) rfl rfl ?_
    show Steps p.tables e below (T36.setTop (mkF m 245 #[.val (.int p0), .val (.int p1), .val (.int (Int32.ofNat sn)), .val (.int (Int32.ofNat mn)), .val (.double (own_x mn)), .second, .val (.double (own_ec sn (own_x mn))), .second, .val (.ref b2), .val (.ref b13), .unset, .unset, .unset, .unset, .unset, .unset, .unset, .unset, .unset, .unset] [(.ref b2), (.ref b13), (.int (Int32.ofNat sn)), (.int (5 : Int32)), (.long (((((own_t sn mn 0) + (own_t sn mn 1)) + (own_t sn mn 2)) + (own_t sn mn 3)) + (own_t sn mn 4)))])) _
    refine st37 _ ?_
    show Steps p.tables e below (T37.setTop (mkF m 248 #[.val (.int p0), .val (.int p1), .val (.int (Int32.ofNat sn)), .val (.int (Int32.ofNat mn)), .val (.double (own_x mn)), .second, .val (.double (own_ec sn (own_x mn))), .second, .val (.ref b2), .val (.ref b13), .unset, .unset, .unset, .unset, .unset, .unset, .unset, .unset, .unset, .unset] [(.long (own_t sn mn 5)), (.long (((((own_t sn mn 0) + (own_t sn mn 1)) + (own_t sn mn 2)) + (own_t sn mn 3)) + (own_t sn mn 4)))])) _
    refine XS.ladd X37.here hx rfl (hb hby at_248) rfl ?_
    show Steps p.tables e below (T37.setTop (mkF m 249 #[.val (.int p0), .val (.int p1), .val (.int (Int32.ofNat sn)), .val (.int (Int32.ofNat mn)), .val (.double (own_x mn)), .second, .val (.double (own_ec sn (own_x mn))), .second, .val (.ref b2), .val (.ref b13), .unset, .unset, .unset, .unset, .unset, .unset, .unset, .unset, .unset, .unset] [(.long ((((((own_t sn mn 0) + (own_t sn mn 1)) + (own_t sn mn 2)) + (own_t sn mn 3)) + (own_t sn mn 4)) + (own_t sn mn 5)))])) _
    refine XS.bipush X37.here hx rfl (hb hby at_249) ?_
    show Steps p.tables e below (T37.setTop (mkF m 251 #[.val (.int p0), .val (.int p1), .val (.int (Int32.ofNat sn)), .val (.int (Int32.ofNat mn)), .val (.double (own_x mn)), .second, .val (.double (own_ec sn (own_x mn))), .second, .val (.ref b2), .val (.ref b13), .unset, .unset, .unset, .unset, .unset, .unset, .unset, .unset, .unset, .unset] [(.int (6 : Int32)), (.long ((((((own_t sn mn 0) + (own_t sn mn 1)) + (own_t sn mn 2)) + (own_t sn mn 3)) + (own_t sn mn 4)) + (own_t sn mn 5)))])) _
    refine XS.iloadN X37.here hx rfl (hb hby at_251) rfl ?_
    show Steps p.tables e below (T37.setTop (mkF m 252 #[.val (.int p0), .val (.int p1), .val (.int (Int32.ofNat sn)), .val (.int (Int32.ofNat mn)), .val (.double (own_x mn)), .second, .val (.double (own_ec sn (own_x mn))), .second, .val (.ref b2), .val (.ref b13), .unset, .unset, .unset, .unset, .unset, .unset, .unset, .unset, .unset, .unset] [(.int (Int32.ofNat sn)), (.int (6 : Int32)), (.long ((((((own_t sn mn 0) + (own_t sn mn 1)) + (own_t sn mn 2)) + (own_t sn mn 3)) + (own_t sn mn 4)) + (own_t sn mn 5)))])) _
    refine XS.aload X37.here hx rfl (hb hby at_252) rfl rfl ?_
    show Steps p.tables e below (T37.setTop (mkF m 254 #[.val (.int p0), .val (.int p1), .val (.int (Int32.ofNat sn)), .val (.int (Int32.ofNat mn)), .val (.double (own_x mn)), .second, .val (.double (own_ec sn (own_x mn))), .second, .val (.ref b2), .val (.ref b13), .unset, .unset, .unset, .unset, .unset, .unset, .unset, .unset, .unset, .unset] [(.ref b13), (.int (Int32.ofNat sn)), (.int (6 : Int32)), (.long ((((((own_t sn mn 0) + (own_t sn mn 1)) + (own_t sn mn 2)) + (own_t sn mn 3)) + (own_t sn mn 4)) + (own_t sn mn 5)))])) _
    refine XS.aload X37.here hx rfl (hb hby at_254) rfl rfl ?_
    show Steps p.tables e below (T37.setTop (mkF m 256 #[.val (.int p0), .val (.int p1), .val (.int (Int32.ofNat sn)), .val (.int (Int32.ofNat mn)), .val (.double (own_x mn)), .second, .val (.double (own_ec sn (own_x mn))), .second, .val (.ref b2), .val (.ref b13), .unset, .unset, .unset, .unset, .unset, .unset, .unset, .unset, .unset, .unset] [(.ref b2), (.ref b13), (.int (Int32.ofNat sn)), (.int (6 : Int32)), (.long ((((((own_t sn mn 0) + (own_t sn mn 1)) + (own_t sn mn 2)) + (own_t sn mn 3)) + (own_t sn mn 4)) + (own_t sn mn 5)))])) _
    refine st38 _ ?_
    show Steps p.tables e below (T38.setTop (mkF m 259 #[.val (.int p0), .val (.int p1), .val (.int (Int32.ofNat sn)), .val (.int (Int32.ofNat mn)), .val (.double (own_x mn)), .second, .val (.double (own_ec sn (own_x mn))), .second, .val (.ref b2), .val (.ref b13), .unset, .unset, .unset, .unset, .unset, .unset, .unset, .unset, .unset, .unset] [(.long (own_t sn mn 6)), (.long ((((((own_t sn mn 0) + (own_t sn mn 1)) + (own_t sn mn 2)) + (own_t sn mn 3)) + (own_t sn mn 4)) + (own_t sn mn 5)))])) _
    refine XS.ladd X38.here hx rfl (hb hby at_259) rfl ?_
    show Steps p.tables e below (T38.setTop (mkF m 260 #[.val (.int p0), .val (.int p1), .val (.int (Int32.ofNat sn)), .val (.int (Int32.ofNat mn)), .val (.double (own_x mn)), .second, .val (.double (own_ec sn (own_x mn))), .second, .val (.ref b2), .val (.ref b13), .unset, .unset, .unset, .unset, .unset, .unset, .unset, .unset, .unset, .unset] [(.long (((((((own_t sn mn 0) + (own_t sn mn 1)) + (own_t sn mn 2)) + (own_t sn mn 3)) + (own_t sn mn 4)) + (own_t sn mn 5)) + (own_t sn mn 6)))])) _
    refine XS.bipush X38.here hx rfl (hb hby at_260) ?_
    show Steps p.tables e below (T38.setTop (mkF m 262 #[.val (.int p0), .val (.int p1), .val (.int (Int32.ofNat sn)), .val (.int (Int32.ofNat mn)), .val (.double (own_x mn)), .second, .val (.double (own_ec sn (own_x mn))), .second, .val (.ref b2), .val (.ref b13), .unset, .unset, .unset, .unset, .unset, .unset, .unset, .unset, .unset, .unset] [(.int (7 : Int32)), (.long (((((((own_t sn mn 0) + (own_t sn mn 1)) + (own_t sn mn 2)) + (own_t sn mn 3)) + (own_t sn mn 4)) + (own_t sn mn 5)) + (own_t sn mn 6)))])) _
    refine XS.iloadN X38.here hx rfl (hb hby at_262) rfl ?_
    show Steps p.tables e below (T38.setTop (mkF m 263 #[.val (.int p0), .val (.int p1), .val (.int (Int32.ofNat sn)), .val (.int (Int32.ofNat mn)), .val (.double (own_x mn)), .second, .val (.double (own_ec sn (own_x mn))), .second, .val (.ref b2), .val (.ref b13), .unset, .unset, .unset, .unset, .unset, .unset, .unset, .unset, .unset, .unset] [(.int (Int32.ofNat sn)), (.int (7 : Int32)), (.long (((((((own_t sn mn 0) + (own_t sn mn 1)) + (own_t sn mn 2)) + (own_t sn mn 3)) + (own_t sn mn 4)) + (own_t sn mn 5)) + (own_t sn mn 6)))])) _
    refine XS.aload X38.here hx rfl (hb hby at_263) rfl rfl ?_
    show Steps p.tables e below (T38.setTop (mkF m 265 #[.val (.int p0), .val (.int p1), .val (.int (Int32.ofNat sn)), .val (.int (Int32.ofNat mn)), .val (.double (own_x mn)), .second, .val (.double (own_ec sn (own_x mn))), .second, .val (.ref b2), .val (.ref b13), .unset, .unset, .unset, .unset, .unset, .unset, .unset, .unset, .unset, .unset] [(.ref b13), (.int (Int32.ofNat sn)), (.int (7 : Int32)), (.long (((((((own_t sn mn 0) + (own_t sn mn 1)) + (own_t sn mn 2)) + (own_t sn mn 3)) + (own_t sn mn 4)) + (own_t sn mn 5)) + (own_t sn mn 6)))])) _
    refine XS.aload X38.here hx rfl (hb hby at_265) rfl rfl ?_
    show Steps p.tables e below (T38.setTop (mkF m 267 #[.val (.int p0), .val (.int p1), .val (.int (Int32.ofNat sn)), .val (.int (Int32.ofNat mn)), .val (.double (own_x mn)), .second, .val (.double (own_ec sn (own_x mn))), .second, .val (.ref b2), .val (.ref b13), .unset, .unset, .unset, .unset, .unset, .unset, .unset, .unset, .unset, .unset] [(.ref b2), (.ref b13), (.int (Int32.ofNat sn)), (.int (7 : Int32)), (.long (((((((own_t sn mn 0) + (own_t sn mn 1)) + (own_t sn mn 2)) + (own_t sn mn 3)) + (own_t sn mn 4)) + (own_t sn mn 5)) + (own_t sn mn 6)))])) _
    refine st39 _ ?_
    show Steps p.tables e below (T39.setTop (mkF m 270 #[.val (.int p0), .val (.int p1), .val (.int (Int32.ofNat sn)), .val (.int (Int32.ofNat mn)), .val (.double (own_x mn)), .second, .val (.double (own_ec sn (own_x mn))), .second, .val (.ref b2), .val (.ref b13), .unset, .unset, .unset, .unset, .unset, .unset, .unset, .unset, .unset, .unset] [(.long (own_t sn mn 7)), (.long (((((((own_t sn mn 0) + (own_t sn mn 1)) + (own_t sn mn 2)) + (own_t sn mn 3)) + (own_t sn mn 4)) + (own_t sn mn 5)) + (own_t sn mn 6)))])) _
    refine XS.ladd X39.here hx rfl (hb hby at_270) rfl ?_
    show Steps p.tables e below (T39.setTop (mkF m 271 #[.val (.int p0), .val (.int p1), .val (.int (Int32.ofNat sn)), .val (.int (Int32.ofNat mn)), .val (.double (own_x mn)), .second, .val (.double (own_ec sn (own_x mn))), .second, .val (.ref b2), .val (.ref b13), .unset, .unset, .unset, .unset, .unset, .unset, .unset, .unset, .unset, .unset] [(.long ((((((((own_t sn mn 0) + (own_t sn mn 1)) + (own_t sn mn 2)) + (own_t sn mn 3)) + (own_t sn mn 4)) + (own_t sn mn 5)) + (own_t sn mn 6)) + (own_t sn mn 7)))])) _
    refine XS.lstore X39.here hx rfl (hb hby at_271) rfl (l' := #[.val (.int p0), .val (.int p1), .val (.int (Int32.ofNat sn)), .val (.int (Int32.ofNat mn)), .val (.double (own_x mn)), .second, .val (.double (own_ec sn (own_x mn))), .second, .val (.ref b2), .val (.ref b13), .val (.long (own_sum sn mn)), .second, .unset, .unset, .unset, .unset, .unset, .unset, .unset, .unset]) rfl ?_
    show Steps p.tables e below (T39.setTop (mkF m 273 #[.val (.int p0), .val (.int p1), .val (.int (Int32.ofNat sn)), .val (.int (Int32.ofNat mn)), .val (.double (own_x mn)), .second, .val (.double (own_ec sn (own_x mn))), .second, .val (.ref b2), .val (.ref b13), .val (.long (own_sum sn mn)), .second, .unset, .unset, .unset, .unset, .unset, .unset, .unset, .unset] [])) _
    refine XS.aload X39.here hx rfl (hb hby at_273) rfl rfl ?_
    show Steps p.tables e below (T39.setTop (mkF m 275 #[.val (.int p0), .val (.int p1), .val (.int (Int32.ofNat sn)), .val (.int (Int32.ofNat mn)), .val (.double (own_x mn)), .second, .val (.double (own_ec sn (own_x mn))), .second, .val (.ref b2), .val (.ref b13), .val (.long (own_sum sn mn)), .second, .unset, .unset, .unset, .unset, .unset, .unset, .unset, .unset] [(.ref b13)])) _
    refine XS.iloadN X39.here hx rfl (hb hby at_275) rfl ?_
    show Steps p.tables e below (T39.setTop (mkF m 276 #[.val (.int p0), .val (.int p1), .val (.int (Int32.ofNat sn)), .val (.int (Int32.ofNat mn)), .val (.double (own_x mn)), .second, .val (.double (own_ec sn (own_x mn))), .second, .val (.ref b2), .val (.ref b13), .val (.long (own_sum sn mn)), .second, .unset, .unset, .unset, .unset, .unset, .unset, .unset, .unset] [(.int (Int32.ofNat sn)), (.ref b13)])) _
    refine X39.laload hx (j := (Int32.ofNat sn)) (v := (.long (own_mp mn sn))) (by rw [eq39]; exact Arm.1) (State.isArrayOf_alike hZ.alike Arm.2.1) Arm.2.2 hinq hatq (g := (mkF m 276 #[.val (.int p0), .val (.int p1), .val (.int (Int32.ofNat sn)), .val (.int (Int32.ofNat mn)), .val (.double (own_x mn)), .second, .val (.double (own_ec sn (own_x mn))), .second, .val (.ref b2), .val (.ref b13), .val (.long (own_sum sn mn)), .second, .unset, .unset, .unset, .unset, .unset, .unset, .unset, .unset] [(.int (Int32.ofNat sn)), (.ref b13)])) rfl rfl (hb hby at_276) _ ?_
    show Steps p.tables e below (T39.setTop (mkF m 277 #[.val (.int p0), .val (.int p1), .val (.int (Int32.ofNat sn)), .val (.int (Int32.ofNat mn)), .val (.double (own_x mn)), .second, .val (.double (own_ec sn (own_x mn))), .second, .val (.ref b2), .val (.ref b13), .val (.long (own_sum sn mn)), .second, .unset, .unset, .unset, .unset, .unset, .unset, .unset, .unset] [(.long (own_mp mn sn))])) _
    refine XS.iloadN X39.here hx rfl (hb hby at_277) rfl ?_
    show Steps p.tables e below (T39.setTop (mkF m 278 #[.val (.int p0), .val (.int p1), .val (.int (Int32.ofNat sn)), .val (.int (Int32.ofNat mn)), .val (.double (own_x mn)), .second, .val (.double (own_ec sn (own_x mn))), .second, .val (.ref b2), .val (.ref b13), .val (.long (own_sum sn mn)), .second, .unset, .unset, .unset, .unset, .unset, .unset, .unset, .unset] [(.int (Int32.ofNat sn)), (.long (own_mp mn sn))])) _
    refine XS.i2l X39.here hx rfl (hb hby at_278) rfl ?_
    show Steps p.tables e below (T39.setTop (mkF m 279 #[.val (.int p0), .val (.int p1), .val (.int (Int32.ofNat sn)), .val (.int (Int32.ofNat mn)), .val (.double (own_x mn)), .second, .val (.double (own_ec sn (own_x mn))), .second, .val (.ref b2), .val (.ref b13), .val (.long (own_sum sn mn)), .second, .unset, .unset, .unset, .unset, .unset, .unset, .unset, .unset] [(.long ((Int32.ofNat sn).toInt64)), (.long (own_mp mn sn))])) _
    refine XS.lmul X39.here hx rfl (hb hby at_279) rfl ?_
    show Steps p.tables e below (T39.setTop (mkF m 280 #[.val (.int p0), .val (.int p1), .val (.int (Int32.ofNat sn)), .val (.int (Int32.ofNat mn)), .val (.double (own_x mn)), .second, .val (.double (own_ec sn (own_x mn))), .second, .val (.ref b2), .val (.ref b13), .val (.long (own_sum sn mn)), .second, .unset, .unset, .unset, .unset, .unset, .unset, .unset, .unset] [(.long ((own_mp mn sn) * ((Int32.ofNat sn).toInt64)))])) _
    refine X39.ldc2Long hx hown (mvT hZ (hw _ (List.mem_of_getElem? (i := 18) rfl))) (g := (mkF m 280 #[.val (.int p0), .val (.int p1), .val (.int (Int32.ofNat sn)), .val (.int (Int32.ofNat mn)), .val (.double (own_x mn)), .second, .val (.double (own_ec sn (own_x mn))), .second, .val (.ref b2), .val (.ref b13), .val (.long (own_sum sn mn)), .second, .unset, .unset, .unset, .unset, .unset, .unset, .unset, .unset] [(.long ((own_mp mn sn) * ((Int32.ofNat sn).toInt64)))])) rfl (hb hby at_280) _ ?_
    show Steps p.tables e below (T39.setTop (mkF m 283 #[.val (.int p0), .val (.int p1), .val (.int (Int32.ofNat sn)), .val (.int (Int32.ofNat mn)), .val (.double (own_x mn)), .second, .val (.double (own_ec sn (own_x mn))), .second, .val (.ref b2), .val (.ref b13), .val (.long (own_sum sn mn)), .second, .unset, .unset, .unset, .unset, .unset, .unset, .unset, .unset] [(.long (4 : Int64)), (.long ((own_mp mn sn) * ((Int32.ofNat sn).toInt64)))])) _
    refine XS.lmul X39.here hx rfl (hb hby at_283) rfl ?_
    show Steps p.tables e below (T39.setTop (mkF m 284 #[.val (.int p0), .val (.int p1), .val (.int (Int32.ofNat sn)), .val (.int (Int32.ofNat mn)), .val (.double (own_x mn)), .second, .val (.double (own_ec sn (own_x mn))), .second, .val (.ref b2), .val (.ref b13), .val (.long (own_sum sn mn)), .second, .unset, .unset, .unset, .unset, .unset, .unset, .unset, .unset] [(.long (((own_mp mn sn) * ((Int32.ofNat sn).toInt64)) * (4 : Int64)))])) _
    refine XS.lstore X39.here hx rfl (hb hby at_284) rfl (l' := #[.val (.int p0), .val (.int p1), .val (.int (Int32.ofNat sn)), .val (.int (Int32.ofNat mn)), .val (.double (own_x mn)), .second, .val (.double (own_ec sn (own_x mn))), .second, .val (.ref b2), .val (.ref b13), .val (.long (own_sum sn mn)), .second, .val (.long (own_nv sn mn)), .second, .unset, .unset, .unset, .unset, .unset, .unset]) rfl ?_
    show Steps p.tables e below (T39.setTop (mkF m 286 #[.val (.int p0), .val (.int p1), .val (.int (Int32.ofNat sn)), .val (.int (Int32.ofNat mn)), .val (.double (own_x mn)), .second, .val (.double (own_ec sn (own_x mn))), .second, .val (.ref b2), .val (.ref b13), .val (.long (own_sum sn mn)), .second, .val (.long (own_nv sn mn)), .second, .unset, .unset, .unset, .unset, .unset, .unset] [])) _
    refine X39.ldc2Long hx hown (mvT hZ (hw _ (List.mem_of_getElem? (i := 18) rfl))) (g := (mkF m 286 #[.val (.int p0), .val (.int p1), .val (.int (Int32.ofNat sn)), .val (.int (Int32.ofNat mn)), .val (.double (own_x mn)), .second, .val (.double (own_ec sn (own_x mn))), .second, .val (.ref b2), .val (.ref b13), .val (.long (own_sum sn mn)), .second, .val (.long (own_nv sn mn)), .second, .unset, .unset, .unset, .unset, .unset, .unset] [])) rfl (hb hby at_286) _ ?_
    show Steps p.tables e below (T39.setTop (mkF m 289 #[.val (.int p0), .val (.int p1), .val (.int (Int32.ofNat sn)), .val (.int (Int32.ofNat mn)), .val (.double (own_x mn)), .second, .val (.double (own_ec sn (own_x mn))), .second, .val (.ref b2), .val (.ref b13), .val (.long (own_sum sn mn)), .second, .val (.long (own_nv sn mn)), .second, .unset, .unset, .unset, .unset, .unset, .unset] [(.long (4 : Int64))])) _
    refine XS.iloadN X39.here hx rfl (hb hby at_289) rfl ?_
    show Steps p.tables e below (T39.setTop (mkF m 290 #[.val (.int p0), .val (.int p1), .val (.int (Int32.ofNat sn)), .val (.int (Int32.ofNat mn)), .val (.double (own_x mn)), .second, .val (.double (own_ec sn (own_x mn))), .second, .val (.ref b2), .val (.ref b13), .val (.long (own_sum sn mn)), .second, .val (.long (own_nv sn mn)), .second, .unset, .unset, .unset, .unset, .unset, .unset] [(.int (Int32.ofNat sn)), (.long (4 : Int64))])) _
    refine XS.i2l X39.here hx rfl (hb hby at_290) rfl ?_
    show Steps p.tables e below (T39.setTop (mkF m 291 #[.val (.int p0), .val (.int p1), .val (.int (Int32.ofNat sn)), .val (.int (Int32.ofNat mn)), .val (.double (own_x mn)), .second, .val (.double (own_ec sn (own_x mn))), .second, .val (.ref b2), .val (.ref b13), .val (.long (own_sum sn mn)), .second, .val (.long (own_nv sn mn)), .second, .unset, .unset, .unset, .unset, .unset, .unset] [(.long ((Int32.ofNat sn).toInt64)), (.long (4 : Int64))])) _
    refine XS.lmul X39.here hx rfl (hb hby at_291) rfl ?_
    show Steps p.tables e below (T39.setTop (mkF m 292 #[.val (.int p0), .val (.int p1), .val (.int (Int32.ofNat sn)), .val (.int (Int32.ofNat mn)), .val (.double (own_x mn)), .second, .val (.double (own_ec sn (own_x mn))), .second, .val (.ref b2), .val (.ref b13), .val (.long (own_sum sn mn)), .second, .val (.long (own_nv sn mn)), .second, .unset, .unset, .unset, .unset, .unset, .unset] [(.long ((4 : Int64) * ((Int32.ofNat sn).toInt64)))])) _
    refine XS.iloadN X39.here hx rfl (hb hby at_292) rfl ?_
    show Steps p.tables e below (T39.setTop (mkF m 293 #[.val (.int p0), .val (.int p1), .val (.int (Int32.ofNat sn)), .val (.int (Int32.ofNat mn)), .val (.double (own_x mn)), .second, .val (.double (own_ec sn (own_x mn))), .second, .val (.ref b2), .val (.ref b13), .val (.long (own_sum sn mn)), .second, .val (.long (own_nv sn mn)), .second, .unset, .unset, .unset, .unset, .unset, .unset] [(.int (Int32.ofNat mn)), (.long ((4 : Int64) * ((Int32.ofNat sn).toInt64)))])) _
    refine XS.i2l X39.here hx rfl (hb hby at_293) rfl ?_
    show Steps p.tables e below (T39.setTop (mkF m 294 #[.val (.int p0), .val (.int p1), .val (.int (Int32.ofNat sn)), .val (.int (Int32.ofNat mn)), .val (.double (own_x mn)), .second, .val (.double (own_ec sn (own_x mn))), .second, .val (.ref b2), .val (.ref b13), .val (.long (own_sum sn mn)), .second, .val (.long (own_nv sn mn)), .second, .unset, .unset, .unset, .unset, .unset, .unset] [(.long ((Int32.ofNat mn).toInt64)), (.long ((4 : Int64) * ((Int32.ofNat sn).toInt64)))])) _
    refine XS.lsub X39.here hx rfl (hb hby at_294) rfl ?_
    show Steps p.tables e below (T39.setTop (mkF m 295 #[.val (.int p0), .val (.int p1), .val (.int (Int32.ofNat sn)), .val (.int (Int32.ofNat mn)), .val (.double (own_x mn)), .second, .val (.double (own_ec sn (own_x mn))), .second, .val (.ref b2), .val (.ref b13), .val (.long (own_sum sn mn)), .second, .val (.long (own_nv sn mn)), .second, .unset, .unset, .unset, .unset, .unset, .unset] [(.long (((4 : Int64) * ((Int32.ofNat sn).toInt64)) - ((Int32.ofNat mn).toInt64)))])) _
    refine XS.lload X39.here hx rfl (hb hby at_295) rfl ?_
    show Steps p.tables e below (T39.setTop (mkF m 297 #[.val (.int p0), .val (.int p1), .val (.int (Int32.ofNat sn)), .val (.int (Int32.ofNat mn)), .val (.double (own_x mn)), .second, .val (.double (own_ec sn (own_x mn))), .second, .val (.ref b2), .val (.ref b13), .val (.long (own_sum sn mn)), .second, .val (.long (own_nv sn mn)), .second, .unset, .unset, .unset, .unset, .unset, .unset] [(.long (own_sum sn mn)), (.long (((4 : Int64) * ((Int32.ofNat sn).toInt64)) - ((Int32.ofNat mn).toInt64)))])) _
    refine XS.lmul X39.here hx rfl (hb hby at_297) rfl ?_
    show Steps p.tables e below (T39.setTop (mkF m 298 #[.val (.int p0), .val (.int p1), .val (.int (Int32.ofNat sn)), .val (.int (Int32.ofNat mn)), .val (.double (own_x mn)), .second, .val (.double (own_ec sn (own_x mn))), .second, .val (.ref b2), .val (.ref b13), .val (.long (own_sum sn mn)), .second, .val (.long (own_nv sn mn)), .second, .unset, .unset, .unset, .unset, .unset, .unset] [(.long ((((4 : Int64) * ((Int32.ofNat sn).toInt64)) - ((Int32.ofNat mn).toInt64)) * (own_sum sn mn)))])) _
    refine XS.lload X39.here hx rfl (hb hby at_298) rfl ?_
    show Steps p.tables e below (T39.setTop (mkF m 300 #[.val (.int p0), .val (.int p1), .val (.int (Int32.ofNat sn)), .val (.int (Int32.ofNat mn)), .val (.double (own_x mn)), .second, .val (.double (own_ec sn (own_x mn))), .second, .val (.ref b2), .val (.ref b13), .val (.long (own_sum sn mn)), .second, .val (.long (own_nv sn mn)), .second, .unset, .unset, .unset, .unset, .unset, .unset] [(.long (own_nv sn mn)), (.long ((((4 : Int64) * ((Int32.ofNat sn).toInt64)) - ((Int32.ofNat mn).toInt64)) * (own_sum sn mn)))])) _
    refine XS.ladd X39.here hx rfl (hb hby at_300) rfl ?_
    show Steps p.tables e below (T39.setTop (mkF m 301 #[.val (.int p0), .val (.int p1), .val (.int (Int32.ofNat sn)), .val (.int (Int32.ofNat mn)), .val (.double (own_x mn)), .second, .val (.double (own_ec sn (own_x mn))), .second, .val (.ref b2), .val (.ref b13), .val (.long (own_sum sn mn)), .second, .val (.long (own_nv sn mn)), .second, .unset, .unset, .unset, .unset, .unset, .unset] [(.long (((((4 : Int64) * ((Int32.ofNat sn).toInt64)) - ((Int32.ofNat mn).toInt64)) * (own_sum sn mn)) + (own_nv sn mn)))])) _
    refine XS.lstore X39.here hx rfl (hb hby at_301) rfl (l' := #[.val (.int p0), .val (.int p1), .val (.int (Int32.ofNat sn)), .val (.int (Int32.ofNat mn)), .val (.double (own_x mn)), .second, .val (.double (own_ec sn (own_x mn))), .second, .val (.ref b2), .val (.ref b13), .val (.long (own_sum sn mn)), .second, .val (.long (own_nv sn mn)), .second, .val (.long (own_dv sn mn)), .second, .unset, .unset, .unset, .unset]) rfl ?_
    show Steps p.tables e below (T39.setTop (mkF m 303 #[.val (.int p0), .val (.int p1), .val (.int (Int32.ofNat sn)), .val (.int (Int32.ofNat mn)), .val (.double (own_x mn)), .second, .val (.double (own_ec sn (own_x mn))), .second, .val (.ref b2), .val (.ref b13), .val (.long (own_sum sn mn)), .second, .val (.long (own_nv sn mn)), .second, .val (.long (own_dv sn mn)), .second, .unset, .unset, .unset, .unset] [])) _
    refine XS.dload X39.here hx rfl (hb hby at_303) rfl ?_
    show Steps p.tables e below (T39.setTop (mkF m 305 #[.val (.int p0), .val (.int p1), .val (.int (Int32.ofNat sn)), .val (.int (Int32.ofNat mn)), .val (.double (own_x mn)), .second, .val (.double (own_ec sn (own_x mn))), .second, .val (.ref b2), .val (.ref b13), .val (.long (own_sum sn mn)), .second, .val (.long (own_nv sn mn)), .second, .val (.long (own_dv sn mn)), .second, .unset, .unset, .unset, .unset] [(.double (own_ec sn (own_x mn)))])) _
    refine XS.lload X39.here hx rfl (hb hby at_305) rfl ?_
    show Steps p.tables e below (T39.setTop (mkF m 307 #[.val (.int p0), .val (.int p1), .val (.int (Int32.ofNat sn)), .val (.int (Int32.ofNat mn)), .val (.double (own_x mn)), .second, .val (.double (own_ec sn (own_x mn))), .second, .val (.ref b2), .val (.ref b13), .val (.long (own_sum sn mn)), .second, .val (.long (own_nv sn mn)), .second, .val (.long (own_dv sn mn)), .second, .unset, .unset, .unset, .unset] [(.long (own_dv sn mn)), (.double (own_ec sn (own_x mn)))])) _
    refine XS.l2dS X39.here hx rfl (hb hby at_307) rfl rfl ?_
    show Steps p.tables e below (T39.setTop (mkF m 308 #[.val (.int p0), .val (.int p1), .val (.int (Int32.ofNat sn)), .val (.int (Int32.ofNat mn)), .val (.double (own_x mn)), .second, .val (.double (own_ec sn (own_x mn))), .second, .val (.ref b2), .val (.ref b13), .val (.long (own_sum sn mn)), .second, .val (.long (own_nv sn mn)), .second, .val (.long (own_dv sn mn)), .second, .unset, .unset, .unset, .unset] [(.double (FP.l2d (own_dv sn mn))), (.double (own_ec sn (own_x mn)))])) _
    refine XS.dmulS X39.here hx rfl (hb hby at_308) rfl hC.2.1 rfl ?_
    show Steps p.tables e below (T39.setTop (mkF m 309 #[.val (.int p0), .val (.int p1), .val (.int (Int32.ofNat sn)), .val (.int (Int32.ofNat mn)), .val (.double (own_x mn)), .second, .val (.double (own_ec sn (own_x mn))), .second, .val (.ref b2), .val (.ref b13), .val (.long (own_sum sn mn)), .second, .val (.long (own_nv sn mn)), .second, .val (.long (own_dv sn mn)), .second, .unset, .unset, .unset, .unset] [(.double (FP.dmul (own_ec sn (own_x mn)) (FP.l2d (own_dv sn mn))))])) _
    refine XS.lload X39.here hx rfl (hb hby at_309) rfl ?_
    show Steps p.tables e below (T39.setTop (mkF m 311 #[.val (.int p0), .val (.int p1), .val (.int (Int32.ofNat sn)), .val (.int (Int32.ofNat mn)), .val (.double (own_x mn)), .second, .val (.double (own_ec sn (own_x mn))), .second, .val (.ref b2), .val (.ref b13), .val (.long (own_sum sn mn)), .second, .val (.long (own_nv sn mn)), .second, .val (.long (own_dv sn mn)), .second, .unset, .unset, .unset, .unset] [(.long (own_nv sn mn)), (.double (FP.dmul (own_ec sn (own_x mn)) (FP.l2d (own_dv sn mn))))])) _
    refine XS.l2dS X39.here hx rfl (hb hby at_311) rfl rfl ?_
    show Steps p.tables e below (T39.setTop (mkF m 312 #[.val (.int p0), .val (.int p1), .val (.int (Int32.ofNat sn)), .val (.int (Int32.ofNat mn)), .val (.double (own_x mn)), .second, .val (.double (own_ec sn (own_x mn))), .second, .val (.ref b2), .val (.ref b13), .val (.long (own_sum sn mn)), .second, .val (.long (own_nv sn mn)), .second, .val (.long (own_dv sn mn)), .second, .unset, .unset, .unset, .unset] [(.double (FP.l2d (own_nv sn mn))), (.double (FP.dmul (own_ec sn (own_x mn)) (FP.l2d (own_dv sn mn))))])) _
    refine XS.dsubS X39.here hx rfl (hb hby at_312) rfl hC.2.2.1 rfl ?_
    show Steps p.tables e below (T39.setTop (mkF m 313 #[.val (.int p0), .val (.int p1), .val (.int (Int32.ofNat sn)), .val (.int (Int32.ofNat mn)), .val (.double (own_x mn)), .second, .val (.double (own_ec sn (own_x mn))), .second, .val (.ref b2), .val (.ref b13), .val (.long (own_sum sn mn)), .second, .val (.long (own_nv sn mn)), .second, .val (.long (own_dv sn mn)), .second, .unset, .unset, .unset, .unset] [(.double (FP.dsub (FP.dmul (own_ec sn (own_x mn)) (FP.l2d (own_dv sn mn))) (FP.l2d (own_nv sn mn))))])) _
    refine XS.dstore X39.here hx rfl (hb hby at_313) rfl (l' := #[.val (.int p0), .val (.int p1), .val (.int (Int32.ofNat sn)), .val (.int (Int32.ofNat mn)), .val (.double (own_x mn)), .second, .val (.double (own_ec sn (own_x mn))), .second, .val (.ref b2), .val (.ref b13), .val (.long (own_sum sn mn)), .second, .val (.long (own_nv sn mn)), .second, .val (.long (own_dv sn mn)), .second, .val (.double (own_diff sn mn)), .second, .unset, .unset]) rfl ?_
    show Steps p.tables e below (T39.setTop (mkF m 315 #[.val (.int p0), .val (.int p1), .val (.int (Int32.ofNat sn)), .val (.int (Int32.ofNat mn)), .val (.double (own_x mn)), .second, .val (.double (own_ec sn (own_x mn))), .second, .val (.ref b2), .val (.ref b13), .val (.long (own_sum sn mn)), .second, .val (.long (own_nv sn mn)), .second, .val (.long (own_dv sn mn)), .second, .val (.double (own_diff sn mn)), .second, .unset, .unset] [])) _
    refine XS.lload X39.here hx rfl (hb hby at_315) rfl ?_
    show Steps p.tables e below (T39.setTop (mkF m 317 #[.val (.int p0), .val (.int p1), .val (.int (Int32.ofNat sn)), .val (.int (Int32.ofNat mn)), .val (.double (own_x mn)), .second, .val (.double (own_ec sn (own_x mn))), .second, .val (.ref b2), .val (.ref b13), .val (.long (own_sum sn mn)), .second, .val (.long (own_nv sn mn)), .second, .val (.long (own_dv sn mn)), .second, .val (.double (own_diff sn mn)), .second, .unset, .unset] [(.long (own_dv sn mn))])) _
    refine XS.l2dS X39.here hx rfl (hb hby at_317) rfl rfl ?_
    show Steps p.tables e below (T39.setTop (mkF m 318 #[.val (.int p0), .val (.int p1), .val (.int (Int32.ofNat sn)), .val (.int (Int32.ofNat mn)), .val (.double (own_x mn)), .second, .val (.double (own_ec sn (own_x mn))), .second, .val (.ref b2), .val (.ref b13), .val (.long (own_sum sn mn)), .second, .val (.long (own_nv sn mn)), .second, .val (.long (own_dv sn mn)), .second, .val (.double (own_diff sn mn)), .second, .unset, .unset] [(.double (FP.l2d (own_dv sn mn)))])) _
    refine X39.ldc2DoubleC hx hown (mvT hZ (hw _ (List.mem_of_getElem? (i := 19) rfl))) (g := (mkF m 318 #[.val (.int p0), .val (.int p1), .val (.int (Int32.ofNat sn)), .val (.int (Int32.ofNat mn)), .val (.double (own_x mn)), .second, .val (.double (own_ec sn (own_x mn))), .second, .val (.ref b2), .val (.ref b13), .val (.long (own_sum sn mn)), .second, .val (.long (own_nv sn mn)), .second, .val (.long (own_dv sn mn)), .second, .val (.double (own_diff sn mn)), .second, .unset, .unset] [(.double (FP.l2d (own_dv sn mn)))])) rfl (hb hby at_318) _ ?_
    show Steps p.tables e below (T39.setTop (mkF m 321 #[.val (.int p0), .val (.int p1), .val (.int (Int32.ofNat sn)), .val (.int (Int32.ofNat mn)), .val (.double (own_x mn)), .second, .val (.double (own_ec sn (own_x mn))), .second, .val (.ref b2), .val (.ref b13), .val (.long (own_sum sn mn)), .second, .val (.long (own_nv sn mn)), .second, .val (.long (own_dv sn mn)), .second, .val (.double (own_diff sn mn)), .second, .unset, .unset] [(.double (4741671816366391296 : UInt64)), (.double (FP.l2d (own_dv sn mn)))])) _
    refine XS.ddivS X39.here hx rfl (hb hby at_321) rfl hC.2.2.2.1 rfl ?_
    show Steps p.tables e below (T39.setTop (mkF m 322 #[.val (.int p0), .val (.int p1), .val (.int (Int32.ofNat sn)), .val (.int (Int32.ofNat mn)), .val (.double (own_x mn)), .second, .val (.double (own_ec sn (own_x mn))), .second, .val (.ref b2), .val (.ref b13), .val (.long (own_sum sn mn)), .second, .val (.long (own_nv sn mn)), .second, .val (.long (own_dv sn mn)), .second, .val (.double (own_diff sn mn)), .second, .unset, .unset] [(.double (FP.ddiv (FP.l2d (own_dv sn mn)) (4741671816366391296 : UInt64)))])) _
    refine XS.dstore X39.here hx rfl (hb hby at_322) rfl (l' := #[.val (.int p0), .val (.int p1), .val (.int (Int32.ofNat sn)), .val (.int (Int32.ofNat mn)), .val (.double (own_x mn)), .second, .val (.double (own_ec sn (own_x mn))), .second, .val (.ref b2), .val (.ref b13), .val (.long (own_sum sn mn)), .second, .val (.long (own_nv sn mn)), .second, .val (.long (own_dv sn mn)), .second, .val (.double (own_diff sn mn)), .second, .val (.double (own_tol sn mn)), .second]) rfl ?_
    show Steps p.tables e below (T39.setTop (mkF m 324 #[.val (.int p0), .val (.int p1), .val (.int (Int32.ofNat sn)), .val (.int (Int32.ofNat mn)), .val (.double (own_x mn)), .second, .val (.double (own_ec sn (own_x mn))), .second, .val (.ref b2), .val (.ref b13), .val (.long (own_sum sn mn)), .second, .val (.long (own_nv sn mn)), .second, .val (.long (own_dv sn mn)), .second, .val (.double (own_diff sn mn)), .second, .val (.double (own_tol sn mn)), .second] [])) _
    refine XS.dload X39.here hx rfl (hb hby at_324) rfl ?_
    show Steps p.tables e below (T39.setTop (mkF m 326 #[.val (.int p0), .val (.int p1), .val (.int (Int32.ofNat sn)), .val (.int (Int32.ofNat mn)), .val (.double (own_x mn)), .second, .val (.double (own_ec sn (own_x mn))), .second, .val (.ref b2), .val (.ref b13), .val (.long (own_sum sn mn)), .second, .val (.long (own_nv sn mn)), .second, .val (.long (own_dv sn mn)), .second, .val (.double (own_diff sn mn)), .second, .val (.double (own_tol sn mn)), .second] [(.double (own_ec sn (own_x mn)))])) _
    refine XS.dconst0 X39.here hx rfl (hb hby at_326) rfl ?_
    show Steps p.tables e below (T39.setTop (mkF m 327 #[.val (.int p0), .val (.int p1), .val (.int (Int32.ofNat sn)), .val (.int (Int32.ofNat mn)), .val (.double (own_x mn)), .second, .val (.double (own_ec sn (own_x mn))), .second, .val (.ref b2), .val (.ref b13), .val (.long (own_sum sn mn)), .second, .val (.long (own_nv sn mn)), .second, .val (.long (own_dv sn mn)), .second, .val (.double (own_diff sn mn)), .second, .val (.double (own_tol sn mn)), .second] [(.double FP.dconst0), (.double (own_ec sn (own_x mn)))])) _
    refine XS.dcmpS X39.here hx rfl (hb hby at_327) rfl rfl ?_
    show Steps p.tables e below (T39.setTop (mkF m 328 #[.val (.int p0), .val (.int p1), .val (.int (Int32.ofNat sn)), .val (.int (Int32.ofNat mn)), .val (.double (own_x mn)), .second, .val (.double (own_ec sn (own_x mn))), .second, .val (.ref b2), .val (.ref b13), .val (.long (own_sum sn mn)), .second, .val (.long (own_nv sn mn)), .second, .val (.long (own_dv sn mn)), .second, .val (.double (own_diff sn mn)), .second, .val (.double (own_tol sn mn)), .second] [(.int (cmpValue (FP.dcmp (own_ec sn (own_x mn)) FP.dconst0) .l))])) _
    refine XS.ifNo X39.here hx rfl (hb hby at_328) rfl ((if0 _ _).trans (flt hC.2.2.2.2.1).1) ?_
    show Steps p.tables e below (T39.setTop (mkF m 331 #[.val (.int p0), .val (.int p1), .val (.int (Int32.ofNat sn)), .val (.int (Int32.ofNat mn)), .val (.double (own_x mn)), .second, .val (.double (own_ec sn (own_x mn))), .second, .val (.ref b2), .val (.ref b13), .val (.long (own_sum sn mn)), .second, .val (.long (own_nv sn mn)), .second, .val (.long (own_dv sn mn)), .second, .val (.double (own_diff sn mn)), .second, .val (.double (own_tol sn mn)), .second] [])) _
    refine XS.dload X39.here hx rfl (hb hby at_331) rfl ?_
    show Steps p.tables e below (T39.setTop (mkF m 333 #[.val (.int p0), .val (.int p1), .val (.int (Int32.ofNat sn)), .val (.int (Int32.ofNat mn)), .val (.double (own_x mn)), .second, .val (.double (own_ec sn (own_x mn))), .second, .val (.ref b2), .val (.ref b13), .val (.long (own_sum sn mn)), .second, .val (.long (own_nv sn mn)), .second, .val (.long (own_dv sn mn)), .second, .val (.double (own_diff sn mn)), .second, .val (.double (own_tol sn mn)), .second] [(.double (own_ec sn (own_x mn)))])) _
    refine XS.dconst1 X39.here hx rfl (hb hby at_333) rfl ?_
    show Steps p.tables e below (T39.setTop (mkF m 334 #[.val (.int p0), .val (.int p1), .val (.int (Int32.ofNat sn)), .val (.int (Int32.ofNat mn)), .val (.double (own_x mn)), .second, .val (.double (own_ec sn (own_x mn))), .second, .val (.ref b2), .val (.ref b13), .val (.long (own_sum sn mn)), .second, .val (.long (own_nv sn mn)), .second, .val (.long (own_dv sn mn)), .second, .val (.double (own_diff sn mn)), .second, .val (.double (own_tol sn mn)), .second] [(.double FP.dconst1), (.double (own_ec sn (own_x mn)))])) _
    refine XS.dcmpS X39.here hx rfl (hb hby at_334) rfl rfl ?_
    show Steps p.tables e below (T39.setTop (mkF m 335 #[.val (.int p0), .val (.int p1), .val (.int (Int32.ofNat sn)), .val (.int (Int32.ofNat mn)), .val (.double (own_x mn)), .second, .val (.double (own_ec sn (own_x mn))), .second, .val (.ref b2), .val (.ref b13), .val (.long (own_sum sn mn)), .second, .val (.long (own_nv sn mn)), .second, .val (.long (own_dv sn mn)), .second, .val (.double (own_diff sn mn)), .second, .val (.double (own_tol sn mn)), .second] [(.int (cmpValue (FP.dcmp (own_ec sn (own_x mn)) FP.dconst1) .g))])) _
    refine XS.ifNo X39.here hx rfl (hb hby at_335) rfl ((if0 _ _).trans (flt hC.2.2.2.2.2.1).2.2.1) ?_
    show Steps p.tables e below (T39.setTop (mkF m 338 #[.val (.int p0), .val (.int p1), .val (.int (Int32.ofNat sn)), .val (.int (Int32.ofNat mn)), .val (.double (own_x mn)), .second, .val (.double (own_ec sn (own_x mn))), .second, .val (.ref b2), .val (.ref b13), .val (.long (own_sum sn mn)), .second, .val (.long (own_nv sn mn)), .second, .val (.long (own_dv sn mn)), .second, .val (.double (own_diff sn mn)), .second, .val (.double (own_tol sn mn)), .second] [])) _
    refine XS.dload X39.here hx rfl (hb hby at_338) rfl ?_
    show Steps p.tables e below (T39.setTop (mkF m 340 #[.val (.int p0), .val (.int p1), .val (.int (Int32.ofNat sn)), .val (.int (Int32.ofNat mn)), .val (.double (own_x mn)), .second, .val (.double (own_ec sn (own_x mn))), .second, .val (.ref b2), .val (.ref b13), .val (.long (own_sum sn mn)), .second, .val (.long (own_nv sn mn)), .second, .val (.long (own_dv sn mn)), .second, .val (.double (own_diff sn mn)), .second, .val (.double (own_tol sn mn)), .second] [(.double (own_diff sn mn))])) _
    refine XS.dload X39.here hx rfl (hb hby at_340) rfl ?_
    show Steps p.tables e below (T39.setTop (mkF m 342 #[.val (.int p0), .val (.int p1), .val (.int (Int32.ofNat sn)), .val (.int (Int32.ofNat mn)), .val (.double (own_x mn)), .second, .val (.double (own_ec sn (own_x mn))), .second, .val (.ref b2), .val (.ref b13), .val (.long (own_sum sn mn)), .second, .val (.long (own_nv sn mn)), .second, .val (.long (own_dv sn mn)), .second, .val (.double (own_diff sn mn)), .second, .val (.double (own_tol sn mn)), .second] [(.double (own_tol sn mn)), (.double (own_diff sn mn))])) _
    refine XS.dcmpS X39.here hx rfl (hb hby at_342) rfl rfl ?_
    show Steps p.tables e below (T39.setTop (mkF m 343 #[.val (.int p0), .val (.int p1), .val (.int (Int32.ofNat sn)), .val (.int (Int32.ofNat mn)), .val (.double (own_x mn)), .second, .val (.double (own_ec sn (own_x mn))), .second, .val (.ref b2), .val (.ref b13), .val (.long (own_sum sn mn)), .second, .val (.long (own_nv sn mn)), .second, .val (.long (own_dv sn mn)), .second, .val (.double (own_diff sn mn)), .second, .val (.double (own_tol sn mn)), .second] [(.int (cmpValue (FP.dcmp (own_diff sn mn) (own_tol sn mn)) .g))])) _
    refine XS.ifNo X39.here hx rfl (hb hby at_343) rfl ((if0 _ _).trans (tlt hC.2.2.2.2.2.2.1).2.1) ?_
    show Steps p.tables e below (T39.setTop (mkF m 346 #[.val (.int p0), .val (.int p1), .val (.int (Int32.ofNat sn)), .val (.int (Int32.ofNat mn)), .val (.double (own_x mn)), .second, .val (.double (own_ec sn (own_x mn))), .second, .val (.ref b2), .val (.ref b13), .val (.long (own_sum sn mn)), .second, .val (.long (own_nv sn mn)), .second, .val (.long (own_dv sn mn)), .second, .val (.double (own_diff sn mn)), .second, .val (.double (own_tol sn mn)), .second] [])) _
    refine XS.dload X39.here hx rfl (hb hby at_346) rfl ?_
    show Steps p.tables e below (T39.setTop (mkF m 348 #[.val (.int p0), .val (.int p1), .val (.int (Int32.ofNat sn)), .val (.int (Int32.ofNat mn)), .val (.double (own_x mn)), .second, .val (.double (own_ec sn (own_x mn))), .second, .val (.ref b2), .val (.ref b13), .val (.long (own_sum sn mn)), .second, .val (.long (own_nv sn mn)), .second, .val (.long (own_dv sn mn)), .second, .val (.double (own_diff sn mn)), .second, .val (.double (own_tol sn mn)), .second] [(.double (own_diff sn mn))])) _
    refine XS.dnegS X39.here hx rfl (hb hby at_348) rfl rfl ?_
    show Steps p.tables e below (T39.setTop (mkF m 349 #[.val (.int p0), .val (.int p1), .val (.int (Int32.ofNat sn)), .val (.int (Int32.ofNat mn)), .val (.double (own_x mn)), .second, .val (.double (own_ec sn (own_x mn))), .second, .val (.ref b2), .val (.ref b13), .val (.long (own_sum sn mn)), .second, .val (.long (own_nv sn mn)), .second, .val (.long (own_dv sn mn)), .second, .val (.double (own_diff sn mn)), .second, .val (.double (own_tol sn mn)), .second] [(.double (FP.dneg (own_diff sn mn)))])) _
    refine XS.dload X39.here hx rfl (hb hby at_349) rfl ?_
    show Steps p.tables e below (T39.setTop (mkF m 351 #[.val (.int p0), .val (.int p1), .val (.int (Int32.ofNat sn)), .val (.int (Int32.ofNat mn)), .val (.double (own_x mn)), .second, .val (.double (own_ec sn (own_x mn))), .second, .val (.ref b2), .val (.ref b13), .val (.long (own_sum sn mn)), .second, .val (.long (own_nv sn mn)), .second, .val (.long (own_dv sn mn)), .second, .val (.double (own_diff sn mn)), .second, .val (.double (own_tol sn mn)), .second] [(.double (own_tol sn mn)), (.double (FP.dneg (own_diff sn mn)))])) _
    refine XS.dcmpS X39.here hx rfl (hb hby at_351) rfl rfl ?_
    show Steps p.tables e below (T39.setTop (mkF m 352 #[.val (.int p0), .val (.int p1), .val (.int (Int32.ofNat sn)), .val (.int (Int32.ofNat mn)), .val (.double (own_x mn)), .second, .val (.double (own_ec sn (own_x mn))), .second, .val (.ref b2), .val (.ref b13), .val (.long (own_sum sn mn)), .second, .val (.long (own_nv sn mn)), .second, .val (.long (own_dv sn mn)), .second, .val (.double (own_diff sn mn)), .second, .val (.double (own_tol sn mn)), .second] [(.int (cmpValue (FP.dcmp (FP.dneg (own_diff sn mn)) (own_tol sn mn)) .g))])) _
    refine XS.ifNo X39.here hx rfl (hb hby at_352) rfl ((if0 _ _).trans (tlt hC.2.2.2.2.2.2.2).2.1) ?_
    show Steps p.tables e below (T39.setTop (mkF m 355 #[.val (.int p0), .val (.int p1), .val (.int (Int32.ofNat sn)), .val (.int (Int32.ofNat mn)), .val (.double (own_x mn)), .second, .val (.double (own_ec sn (own_x mn))), .second, .val (.ref b2), .val (.ref b13), .val (.long (own_sum sn mn)), .second, .val (.long (own_nv sn mn)), .second, .val (.long (own_dv sn mn)), .second, .val (.double (own_diff sn mn)), .second, .val (.double (own_tol sn mn)), .second] [])) _
    refine XS.iconst X39.here hx rfl (hb hby at_355) ?_
    show Steps p.tables e below (T39.setTop (mkF m 356 #[.val (.int p0), .val (.int p1), .val (.int (Int32.ofNat sn)), .val (.int (Int32.ofNat mn)), .val (.double (own_x mn)), .second, .val (.double (own_ec sn (own_x mn))), .second, .val (.ref b2), .val (.ref b13), .val (.long (own_sum sn mn)), .second, .val (.long (own_nv sn mn)), .second, .val (.long (own_dv sn mn)), .second, .val (.double (own_diff sn mn)), .second, .val (.double (own_tol sn mn)), .second] [(.int (1 : Int32))])) _
    refine XS.goto X39.here hx rfl (pc0 := 356) (pc' := 360) rfl (hb hby at_356) (by decide) (by decide) ?_
    show Steps p.tables e below (T39.setTop (mkF m 360 #[.val (.int p0), .val (.int p1), .val (.int (Int32.ofNat sn)), .val (.int (Int32.ofNat mn)), .val (.double (own_x mn)), .second, .val (.double (own_ec sn (own_x mn))), .second, .val (.ref b2), .val (.ref b13), .val (.long (own_sum sn mn)), .second, .val (.long (own_nv sn mn)), .second, .val (.long (own_dv sn mn)), .second, .val (.double (own_diff sn mn)), .second, .val (.double (own_tol sn mn)), .second] [(.int (1 : Int32))])) _
    exact retN X39 hx (t := .boolean) Bd.returns (by simp) (hb hby at_360) hr
  · show Q0 Z p0 h0 n0 _ T39.heap _
    rw [eq39]
    exact ⟨rfl, N39⟩
set_option maxRecDepth 65536 in
set_option maxHeartbeats 40000000 in
theorem comes_1 {Post : Tables → Env → Array Value → State → Outcome → State → Prop} (hpost : ∀ tb e args s v u, (limb_1_1.after args s (.returned v) u = true ∧ limb_1_2.after args s (.returned v) u = true ∧ True) → FrameEnd s (.returned v) u (Jvm.fieldLocs frame_1_writes args s ++ Jvm.arrayLocs frame_1_arrays args s ++ Jvm.staticLocs frame_1_statics s) 16 128 → Post tb e args s (.returned v) u) :
    ArmFor flags0 classFile x code maxLocals ret World_1 tables_1 room_1 Calls_1 rest_1 Pre_1 Post := by
  intro l hfl _ _ p e ha hc hk s m args below hf hA hF happ hP
  obtain ⟨hcalls, hrest, hpre⟩ := hP
  obtain ⟨-, -, -, hnamed, -, -, -, hat⟩ := (Spec.applies_iff hf).mp happ
  obtain ⟨hg, hn⟩ := and_e (Cond.before_iff.mp (show (Jvm.Cond.and given_1 narrow_1).before args s = true from hpre))
  obtain ⟨g1, g2⟩ := and_e hg
  obtain ⟨g3, g4⟩ := and_e g2
  obtain ⟨w0, w1, rfl⟩ : ∃ w0 w1 : Value, args = #[w0, w1] := by
    have hs : args.size = 2 := by simpa [Cond.value, given_1] using g1
    obtain ⟨L⟩ := args
    match L, hs with
    | [w0, w1], _ => exact ⟨w0, w1, rfl⟩
  have hw := fun d (hd : d ∈ tables_1) => atoms_spec (ws := Jvm.Cond.code x code maxLocals ret :: tables_1) hat d (List.mem_cons_of_mem _ hd)
  have hfit : Fit s := fun {y c} hc i hi => by
    obtain ⟨ha, rfl⟩ := Array.getElem?_eq_some_iff.mp hc
    have q := List.all_eq_true.mp ((Array.all_eq_true_iff_forall_mem.mp hF) _ (Array.getElem_mem ha)) i (List.mem_range.mpr hi)
    simpa [Array.getElem?_eq_getElem hi] using q
  obtain ⟨i0, ei0⟩ := is_v g3
  obtain rfl : w0 = (.int i0) := Option.some.inj ei0
  obtain ⟨i1, ei1⟩ := is_v g4
  obtain rfl : w1 = (.int i1) := Option.some.inj ei1
  obtain ⟨n, o, h1, h2, h3, _, L, rfl, ⟨rfl, N⟩, hq⟩ := rm0 l s _ hw tables_1 i0 i1 s.heap s.heap.size (Nat.le_refl _) p e ha hc hk s m _ below hf ((Spec.applies_iff_loose hf).mp happ).1 ⟨rfl, State.Warmed39.refl s, rfl⟩ trivial
  refine ⟨n, _, h1, h2, h3, hpost _ _ _ _ _ _ ⟨Cond.after_iff.mpr rfl, Cond.after_iff.mpr (eq_i res_at (Term.int_eval (1)) rfl), trivial⟩ ⟨hq.1, hq.2.1, (hq.2.2.sift fun y hy => Or.inr (N y hy)).mono (by decide) (by decide)⟩⟩
theorem main_1_1 : Claimed_1_1 := comes_1 fun _ _ _ _ _ _ h hF => ⟨h.1, hF⟩
theorem main_1_2 : Claimed_1_2 := comes_1 fun _ _ _ _ _ _ h hF => ⟨h.2.1, hF⟩
end Jvm.Pilot.@@N@@
namespace Jvm.Pilot.@@N@@
open Jvm Jvm.ClassFile Sem Op Lib Jvm.Free Jvm.Stand Jvm.Pilot.@@N@@.Jvm.D
/-! MADE BY PROGRAM (witnessworld.py) out of the Statement's table words and the real class files: 11 classes; the members and pool entries that the words name. The judged class is class 1, her method 1. -/
namespace start1
open Jvm.ClassFile
def u (s : String) : CpInfo := .utf8 (stringToUtf16 s)
/-- a pool by its gaps: so many unusable entries, then the entry; so many at the end -/
def gap : Nat → List CpInfo → List CpInfo
  | 0, r => r
  | n + 1, r => .unusable :: gap n r
def poolList (es : List (Nat × CpInfo)) (last : Nat) : List CpInfo := es.foldr (fun e r => gap e.1 (e.2 :: r)) (gap last [])
def pool (es : List (Nat × CpInfo)) (last : Nat) : Array CpInfo := ⟨poolList es last⟩
def fileOf (pool : Array CpInfo) (this : Nat) (attrs : Array Attribute := #[]) (ms : Array MethodInfo := #[]) (fl : Nat := 33) (sup : Nat := 0) (ifs : Array Nat := #[]) (fds : Array FieldInfo := #[]) : ClassFile where
  minorVersion := 0
  majorVersion := 65
  constantPool := pool
  accessFlags := fl
  thisClass := this
  superClass := sup
  interfaces := ifs
  fields := fds
  methods := ms
  attributes := attrs
def plain (name : String) (sup : Option ClassId) : Class where
  name := name
  kind := .ordinary
  loader := none
  accessFlags := 33
  super := sup
  interfaces := #[]
  cf := none
  fields := #[]
  methods := #[]
  instanceTypes := #[]
  staticTypes := #[]
  resolved := #[]
  callSites := []
  init := .initialized
  statics := none
  mirror := none

def pool0 : Array CpInfo := pool [(5, u "<init>"), (0, u "()V"), (1, .class_ 10), (1, u "java/lang/Object")] 113

def k0m0 : Method := { name := "<init>", desc := "()V", sig := { parameters := [], returnType := none }, accessFlags := 1, code := none }
/-- java/lang/Object -/
def k0 : Class := { plain "java/lang/Object" none with
  accessFlags := 33
  interfaces := #[]
  cf := some (fileOf pool0 8 #[] #[{ accessFlags := 1, nameIndex := 5, descriptorIndex := 6, attributes := #[] }] 33 0 #[] #[])
  fields := #[]
  methods := #[k0m0]
  instanceTypes := #[]
  staticTypes := #[]
  resolved := Array.replicate 124 none
  statics := none }

def pool1 : Array CpInfo := pool [(2, .class_ 4), (1, u "java/lang/Object"), (0, u "<init>"), (0, u "()V"), (0, .integer 2147483647), (0, .double 4616189618054758400), (1, .methodref 11 12), (0, .class_ 13), (0, .nameAndType 14 15), (0, u "com/example/cloudletry/cloudletry/core/ResponseTimeModel"), (0, u "erlangC"), (0, u "(ID)D"), (0, .long 2), (1, .long 6), (1, .long 24), (1, .long 120), (1, .long 720), (1, .long 5040), (1, .long 40320), (1, .methodref 31 32), (0, .class_ 33), (0, .nameAndType 34 35), (0, u "com/example/cloudletry/cloudletry/core/ResponseTimeModelErlangCPinLaw"), (0, u "term"), (0, u "(II[J[J)J"), (0, .long 4), (1, .double 4741671816366391296), (3, u "law"), (0, u "(II)Z")] 5

def k1m0 : Method := { name := "<init>", desc := "()V", sig := { parameters := [], returnType := none }, accessFlags := 1, code := none }
def k1c1 : Code := { maxStack := 6, maxLocals := 20, code := code, exceptionTable := #[], attributes := #[] }
def k1m1 : Method := { name := "law", desc := "(II)Z", sig := { parameters := [.int, .int], returnType := some .boolean }, accessFlags := 9, code := some k1c1 }
def k1c2 : Code := { maxStack := 7, maxLocals := 4, code := method_3_code, exceptionTable := #[], attributes := #[] }
def k1m2 : Method := { name := "term", desc := "(II[J[J)J", sig := { parameters := [.int, .int, (.array .long), (.array .long)], returnType := some .long }, accessFlags := 10, code := some k1c2 }
/-- com/example/cloudletry/cloudletry/core/ResponseTimeModelErlangCPinLaw -/
def k1 : Class := { plain "com/example/cloudletry/cloudletry/core/ResponseTimeModelErlangCPinLaw" (some 0) with
  accessFlags := 49
  interfaces := #[]
  cf := some (fileOf pool1 31 #[] #[{ accessFlags := 1, nameIndex := 5, descriptorIndex := 6, attributes := #[] }, { accessFlags := 9, nameIndex := 42, descriptorIndex := 43, attributes := #[] }, { accessFlags := 10, nameIndex := 34, descriptorIndex := 35, attributes := #[] }] 49 2 #[] #[])
  fields := #[]
  methods := #[k1m0, k1m1, k1m2]
  instanceTypes := #[]
  staticTypes := #[]
  resolved := Array.replicate 49 none
  statics := none }

def pool2 : Array CpInfo := pool [(2, .class_ 4), (1, u "java/lang/Object"), (25, .class_ 32), (1, u "com/example/cloudletry/cloudletry/core/ResponseTimeModel"), (0, u "servers"), (0, u "I"), (2, u "serviceRate"), (0, u "D"), (2, u "maxLoad"), (2, u "cloudDelay"), (32, .class_ 79), (1, u "com/example/cloudletry/cloudletry/core/ResponseTimeModel$SiteLoad"), (18, .class_ 99), (0, u "com/example/cloudletry/cloudletry/core/ResponseTimeModel$Score"), (30, u "erlangC"), (0, u "(ID)D")] 45

def k2c0 : Code := { maxStack := 10, maxLocals := 7, code := prog_12_method_7_code, exceptionTable := #[], attributes := #[] }
def k2m0 : Method := { name := "erlangC", desc := "(ID)D", sig := { parameters := [.int, .double], returnType := some .double }, accessFlags := 8, code := some k2c0 }
/-- com/example/cloudletry/cloudletry/core/ResponseTimeModel -/
def k2 : Class := { plain "com/example/cloudletry/cloudletry/core/ResponseTimeModel" (some 0) with
  accessFlags := 49
  interfaces := #[]
  cf := some (fileOf pool2 30 #[.nestMembers #[98, 77]] #[{ accessFlags := 8, nameIndex := 130, descriptorIndex := 131, attributes := #[] }] 49 2 #[] #[{ accessFlags := 18, nameIndex := 33, descriptorIndex := 34, attributes := #[] }, { accessFlags := 18, nameIndex := 37, descriptorIndex := 38, attributes := #[] }, { accessFlags := 18, nameIndex := 41, descriptorIndex := 38, attributes := #[] }, { accessFlags := 18, nameIndex := 44, descriptorIndex := 38, attributes := #[] }])
  fields := #[{ name := "servers", type := .int, accessFlags := 18, slot := 0, constantValue := 0 }, { name := "serviceRate", type := .double, accessFlags := 18, slot := 1, constantValue := 0 }, { name := "maxLoad", type := .double, accessFlags := 18, slot := 2, constantValue := 0 }, { name := "cloudDelay", type := .double, accessFlags := 18, slot := 3, constantValue := 0 }]
  methods := #[k2m0]
  instanceTypes := #[.int, .double, .double, .double]
  staticTypes := #[]
  resolved := Array.replicate 177 none
  statics := none }

def pool3 : Array CpInfo := pool [(1, u "java/lang/Cloneable"), (0, .class_ 1), (0, u "java/lang/Object"), (0, .class_ 3)] 3

/-- java/lang/Cloneable -/
def k3 : Class := { plain "java/lang/Cloneable" (some 0) with
  accessFlags := 1537
  interfaces := #[]
  cf := some (fileOf pool3 2 #[] #[] 1537 4 #[] #[])
  fields := #[]
  methods := #[]
  instanceTypes := #[]
  staticTypes := #[]
  resolved := Array.replicate 8 none
  statics := none }

def pool4 : Array CpInfo := pool [(1, u "java/io/Serializable"), (0, .class_ 1), (0, u "java/lang/Object"), (0, .class_ 3)] 3

/-- java/io/Serializable -/
def k4 : Class := { plain "java/io/Serializable" (some 0) with
  accessFlags := 1537
  interfaces := #[]
  cf := some (fileOf pool4 2 #[] #[] 1537 4 #[] #[])
  fields := #[]
  methods := #[]
  instanceTypes := #[]
  staticTypes := #[]
  resolved := Array.replicate 8 none
  statics := none }

/-- the primitive byte -/
def k5 : Class := { plain "byte" none with kind := .primitive 'B', accessFlags := 0x411 }
/-- [B -/
def k6 : Class := { plain "[B" (some 0) with kind := .array 5 .byte, interfaces := #[3, 4], accessFlags := 1041 }

/-- the primitive int -/
def k7 : Class := { plain "int" none with kind := .primitive 'I', accessFlags := 0x411 }
/-- [I -/
def k8 : Class := { plain "[I" (some 0) with kind := .array 7 .int, interfaces := #[3, 4], accessFlags := 1041 }

/-- the primitive long -/
def k9 : Class := { plain "long" none with kind := .primitive 'J', accessFlags := 0x411 }
/-- [J -/
def k10 : Class := { plain "[J" (some 0) with kind := .array 9 .long, interfaces := #[3, 4], accessFlags := 1041 }

def heap : Heap := #[]
def classes : Array Class := #[k0, k1, k2, k3, k4, k5, k6, k7, k8, k9, k10]
def interned : List (Array UInt16 × Addr) := []
def slotsUsed : Nat := 0
def theMethod : MethodId := ⟨1, 1⟩
def args0 : Array Value := #[.int 5, .int 6]
def aboutOver (below : List Frame) : State where
  vm := { classes := classes, interned := interned.toArray }
  heap := heap
  slotsUsed := slotsUsed
  threads := #[{ frames := .invoking theMethod args0 :: below }]
def below0 : List Frame := [.native { method := ⟨0, 0⟩, args := #[] }]
def about1 : State := aboutOver below0
def p0 : Program := .bare "" "" ""
def e0 : Env := launch0.env 0 0 0
theorem w_frames : about1.frames = Frame.invoking theMethod args0 :: below0 := rfl
set_option maxRecDepth 65536 in
theorem w_args : argsFit about1.vm theMethod args0 = true := by decide +kernel
set_option maxRecDepth 65536 in
theorem w_heap : heapFits about1 = true := by decide +kernel
set_option maxRecDepth 65536 in
theorem w_runnable : about1.curStatus? = some .runnable := by decide +kernel
set_option maxRecDepth 65536 in
theorem w_alone : about1.alone = true := by decide +kernel
set_option maxRecDepth 65536 in
theorem w_named : about1.methodNamed? x = some theMethod := by decide +kernel
set_option maxRecDepth 65536 in
theorem w_hears : about1.hears theMethod below0 = true := by decide +kernel
set_option maxRecDepth 65536 in
theorem w_ripe : about1.ripe theMethod args0 below0 = true := by decide +kernel
theorem w_running : about1.status = .running := rfl
set_option maxRecDepth 65536 in
theorem w_room : about1.hasRoom e0.platform room_1 = true :=
  launch0.hasRoom_least _ room_1 (by decide +kernel) (by decide +kernel) (by decide +kernel) (by decide +kernel) (by decide +kernel) (by decide +kernel)
theorem allAtoms_all (ts : List Jvm.Cond) (a : Array Jvm.Value) (st : Jvm.State) : (allAtoms ts).before a st = ts.all (fun c => c.before a st) := by
  induction ts with
  | nil => rfl
  | cons c t ih =>
    show (Jvm.Cond.and c (allAtoms t)).before a st = _
    rw [Jvm.Cond.before_and, ih, List.all_cons]
def words1 : List Jvm.Cond := Jvm.Cond.code x code maxLocals ret :: tables_1
/-- a 'code' word, met by the world's own term for the bytes: nothing is compared byte by byte -/
theorem code_word {y : MethodName} {bytes : ByteArray} {mx : Nat} {rt : Option FieldType} {a : Array Value} {s : State} {m : MethodId} {meth : Method} {c : Code} (h1 : s.methodNamed? y = some m) (h2 : s.vm.method? m = some meth) (h3 : meth.code = some c) (h4 : c.code = bytes)
    (h5 : (c.maxLocals == mx && c.exceptionTable.isEmpty && decide (c.maxStack ≤ mostOperands) && decide (meth.sig.returnType = rt) && !meth.locks && decide (parseMethodDescriptor y.desc = some meth.sig)) = true) : (Jvm.Cond.code y bytes mx rt).before a s = true := by
  simp only [Bool.and_eq_true, beq_iff_eq, Bool.not_eq_true', decide_eq_true_eq] at h5
  obtain ⟨⟨⟨⟨⟨g1, g2⟩, g3⟩, g4⟩, g5⟩, g6⟩ := h5
  simp [Cond.before, Cond.holds, Cond.value, h1, h2, h3, h4, g1, g2, g3, g4, g5, g6]
def isCode : Jvm.Cond → Bool
  | .code _ _ _ _ => true
  | _ => false
theorem all_split {L : List Jvm.Cond} {P : Jvm.Cond → Bool} (h1 : L.all (fun c => isCode c || P c) = true) (h2 : ∀ c ∈ L.filter isCode, P c = true) : L.all P = true := by
  refine List.all_eq_true.mpr fun c hc => ?_
  have h := List.all_eq_true.mp h1 c hc
  rcases Bool.eq_false_or_eq_true (isCode c) with hi | hi
  · exact h2 c (List.mem_filter.mpr ⟨hc, hi⟩)
  · simpa [hi] using h
set_option maxRecDepth 65536 in
theorem w_c0 : (Jvm.Cond.code x code maxLocals ret).before args0 about1 = true := code_word (m := ⟨1, 1⟩) (meth := k1m1) (c := k1c1) (by decide +kernel) rfl rfl rfl (by decide +kernel)
set_option maxRecDepth 65536 in
theorem w_c1 : (Jvm.Cond.code ({ cls := "com/example/cloudletry/cloudletry/core/ResponseTimeModel", name := "erlangC", desc := "(ID)D" } : Jvm.MethodName) prog_12_method_7_code (7 : Nat) (Option.some Jvm.ClassFile.FieldType.double)).before args0 about1 = true := code_word (m := ⟨2, 0⟩) (meth := k2m0) (c := k2c0) (by decide +kernel) rfl rfl rfl (by decide +kernel)
set_option maxRecDepth 65536 in
theorem w_c2 : (Jvm.Cond.code ({ cls := "com/example/cloudletry/cloudletry/core/ResponseTimeModelErlangCPinLaw", name := "term", desc := "(II[J[J)J" } : Jvm.MethodName) method_3_code (4 : Nat) (Option.some Jvm.ClassFile.FieldType.long)).before args0 about1 = true := code_word (m := ⟨1, 2⟩) (meth := k1m2) (c := k1c2) (by decide +kernel) rfl rfl rfl (by decide +kernel)
def codes1 : List Jvm.Cond := [Jvm.Cond.code x code maxLocals ret, Jvm.Cond.code ({ cls := "com/example/cloudletry/cloudletry/core/ResponseTimeModel", name := "erlangC", desc := "(ID)D" } : Jvm.MethodName) prog_12_method_7_code (7 : Nat) (Option.some Jvm.ClassFile.FieldType.double), Jvm.Cond.code ({ cls := "com/example/cloudletry/cloudletry/core/ResponseTimeModelErlangCPinLaw", name := "term", desc := "(II[J[J)J" } : Jvm.MethodName) method_3_code (4 : Nat) (Option.some Jvm.ClassFile.FieldType.long)]
set_option maxRecDepth 65536 in
theorem codes_eq : words1.filter isCode = codes1 := rfl
theorem w_codes : ∀ c ∈ words1.filter isCode, c.before args0 about1 = true := by
  rw [codes_eq]
  intro c hc
  simp only [codes1, List.mem_cons, List.not_mem_nil, or_false] at hc
  rcases hc with rfl | rfl | rfl
  · exact w_c0
  · exact w_c1
  · exact w_c2
set_option maxRecDepth 65536 in
theorem w_t1 : words1.all (fun c => isCode c || c.before args0 about1) = true := by decide +kernel
theorem w_tables : (allAtoms (Jvm.Cond.code x code maxLocals ret :: tables_1)).before args0 about1 = true := by
  rw [allAtoms_all]
  show words1.all (fun c => c.before args0 about1) = true
  refine all_split ?_ w_codes
  rw [w_t1]
set_option maxRecDepth 65536 in
theorem w_case : (Jvm.Cond.and given_1 narrow_1).before args0 about1 = true := by decide +kernel
theorem w_applies : (headSpec (Jvm.Cond.code x code maxLocals ret :: tables_1) room_1).applies x e0.platform about1 = true :=
  (Spec.applies_iff w_frames).mpr ⟨w_running, w_runnable, w_alone, w_named, w_hears, w_ripe, w_room, w_tables⟩
theorem atStart : AtStart classFile x code maxLocals ret World_1 tables_1 room_1 Calls_1 rest_1 Pre_1 launch0 p0 e0 about1 theMethod args0 below0 :=
  ⟨lists_1, trivial, launch0.admits_env _ _ _, launch0.least_env, fairChoices_fair.cas, fairChoices_fair.clock, w_frames, w_args, w_heap, w_applies, trivial, trivial, w_case⟩
end start1
theorem witness_1 : WitnessClaimed_1 := ⟨start1.p0, start1.e0, start1.about1, start1.theMethod, start1.args0, start1.below0, start1.atStart⟩
end Jvm.Pilot.@@N@@
