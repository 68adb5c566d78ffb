import JvmDerived
import JvmDerived.Pilot.@@N@@Statement
import JvmDerived.Pilot.@@N@@Code
set_option linter.unusedVariables false
set_option linter.unusedSimpArgs false
namespace Jvm.RoadKit
open Sem ClassFile Op Lib Jvm.Stand Jvm.Free Jvm.LawKit
section New
variable {p : Program} {l : Launch} {e : Env} {R : Room} {s : State} {m : MethodId} {args : Array Value} {below : List Frame} {meth : Method} {c : Code} {T : State} {locs : List Loc} {cells slots : Nat}
theorem retI (X : Stand p l e R s m args below meth c T locs cells slots) (hx : p.tables.exec = Jvm.exec) {pc : Nat} {Ls : Array Slot} {z : Int32} {rest : List Value} (hret : meth.sig.returnType = some .int) (hd : decode c.code pc = .ok (.ireturn, 1)) {fs : List Frame}
    (hl : ∀ (f : JFrame) (acts : List Action), f.method = m → f.locked = none → f.entered = [] → (doReturn e (T.setTop f) acts (some (.int z))).1 = T.setFrames fs) : Steps p.tables e below (T.setTop (mkF m pc Ls (.int z :: rest))) (T.setFrames fs) := by
  have hm' : T.vm.method? m = some meth := X.method'
  have hn : narrow .int (.int z) = .int z := rfl
  show Steps p.tables e below (T.setTop { method := m, pc := pc, locals := Ls, stack := _ :: rest, locked := none }) _
  jvm_step X.here [X.here.top, hx, hd, hm', hret, hn]
  first | (intro acts; rw [hl _ acts rfl rfl rfl]) | rw [hl _ _ rfl rfl rfl]
  exact Steps.refl _
theorem own_retJ (X : Stand p l e R s m args below meth c T locs cells slots) (hx : p.tables.exec = Jvm.exec) {pc : Nat} {Ls : Array Slot} {z : Int64} {rest : List Value} (hret : meth.sig.returnType = some .long) (hd : decode c.code pc = .ok (.lreturn, 1)) {fs : List Frame}
    (hl : ∀ (f : JFrame) (acts : List Action), f.method = m → f.locked = none → f.entered = [] → (doReturn e (T.setTop f) acts (some (.long z))).1 = T.setFrames fs) : Steps p.tables e below (T.setTop (mkF m pc Ls (.long z :: rest))) (T.setFrames fs) := by
  have hm' : T.vm.method? m = some meth := X.method'
  have hn : narrow .long (.long z) = .long z := rfl
  show Steps p.tables e below (T.setTop { method := m, pc := pc, locals := Ls, stack := _ :: rest, locked := none }) _
  jvm_step X.here [X.here.top, hx, hd, hm', hret, hn]
  first | (intro acts; rw [hl _ acts rfl rfl rfl]) | rw [hl _ _ rfl rfl rfl]
  exact Steps.refl _
theorem own_retD (X : Stand p l e R s m args below meth c T locs cells slots) (hx : p.tables.exec = Jvm.exec) {pc : Nat} {Ls : Array Slot} {z : UInt64} {rest : List Value} (hret : meth.sig.returnType = some .double) (hd : decode c.code pc = .ok (.dreturn, 1)) {fs : List Frame}
    (hl : ∀ (f : JFrame) (acts : List Action), f.method = m → f.locked = none → f.entered = [] → (doReturn e (T.setTop f) acts (some (.double z))).1 = T.setFrames fs) : Steps p.tables e below (T.setTop (mkF m pc Ls (.double z :: rest))) (T.setFrames fs) := by
  have hm' : T.vm.method? m = some meth := X.method'
  have hn : narrow .double (.double z) = .double z := rfl
  show Steps p.tables e below (T.setTop { method := m, pc := pc, locals := Ls, stack := _ :: rest, locked := none }) _
  jvm_step X.here [X.here.top, hx, hd, hm', hret, hn]
  first | (intro acts; rw [hl _ acts rfl rfl rfl]) | rw [hl _ _ rfl rfl rfl]
  exact Steps.refl _
end New
end Jvm.RoadKit
namespace Jvm.Pilot.@@N@@
open Jvm Jvm.ClassFile Sem Op Lib Jvm.Free Jvm.Stand Jvm.LawKit Jvm.RoadKit Bundle Jvm.Pilot.@@N@@.Jvm.D
theorem own_hide {p : Program} {l : Launch} {e : Env} {R : Room} {s : State} {m : MethodId} {args : Array Value} {below : List Frame} {meth : Method} {c : Code} {T : State} {locs : List Loc} {cells slots k : Nat} (X : Stand p l e R s m args below meth c T locs cells slots) (N : Fr k locs) : ∃ L', Stand p l e R s m args below meth c T L' cells slots ∧ Fr k L' := ⟨_, X, N⟩
theorem own_W {a0 : Array Value} {Z : State} (hw : ∀ d ∈ tables_1, d.before a0 Z = true) (i : Nat) {d : Jvm.Cond} (h : tables_1[i]? = some d) : d.before a0 Z = true := hw _ (List.mem_of_getElem? h)
theorem own_nin0 {a : Addr} : a ∉ ([] : List Addr) := by simp
theorem own_nin1 {a b : Addr} (h : a ≠ b) : a ∉ [b] := by simpa using h
theorem own_nin2 {a b c : Addr} (h : a ≠ b) (h' : a ≠ c) : a ∉ [b, c] := by simp [h, h']
theorem own_nin3 {a b c d : Addr} (h : a ≠ b) (h' : a ≠ c) (h'' : a ≠ d) : a ∉ [b, c, d] := by simp [h, h', h'']
theorem own_in0 {P : Addr → Prop} : ∀ x ∈ ([] : List Addr), P x := by simp
theorem own_in1 {P : Addr → Prop} {a : Addr} (h : P a) : ∀ x ∈ [a], P x := by simpa using h
theorem own_in2 {P : Addr → Prop} {a b : Addr} (h : P a) (h' : P b) : ∀ x ∈ [a, b], P x := by simp [h, h']
theorem own_in3 {P : Addr → Prop} {a b c : Addr} (h : P a) (h' : P b) (h'' : P c) : ∀ x ∈ [a, b, c], P x := by simp [h, h', h'']
theorem own_le {a b : Nat} (h : a = b) : a ≤ b := Nat.le_of_eq h
def own_us (x : Int64) (k : Int32) : Int64 := (x.toUInt64 >>> (k &&& 0x3f).toInt64.toUInt64).toInt64
def own_v (a : Int64) : UInt64 := FP.l2d (a &&& (2147483647 : Int64))
theorem own_vf (a : Int64) : Fl.Fin64 (own_v a) := Fl.l2d_fin _
theorem own_vr (a : Int64) : 0 ≤ (a &&& (2147483647 : Int64)).toInt ∧ (a &&& (2147483647 : Int64)).toInt < 2147483648 := by
  have h := c_maskL a 2147483647 31 (by decide) (by decide)
  have e : ((2 ^ 31 : Nat) : Int) = 2147483648 := by decide
  rw [e] at h
  omega
theorem own_vn (a : Int64) : ¬ cmpValue (FP.dcmp (own_v a) FP.dconst0) .l < (0 : Int32) := by
  have r := own_vr a
  have e : FP.dconst0 = FP.l2d 0 := by decide +kernel
  unfold own_v
  rw [e, dcmpV_w (by unfold B53; omega) (by unfold B53; decide)]
  rw [lw_lt, Int64.lt_iff_toInt_lt]
  have e0 : (0 : Int64).toInt = 0 := by decide
  omega
theorem own_eqv (a : Int64) : cmpValue (FP.dcmp (own_v a) (own_v a)) .l = (0 : Int32) := dcmpV_self (own_vf a).noNaN .l
theorem own_pinf {x : UInt64} (h : Fl.Fin64 x) : cmpValue (FP.dcmp x (9218868437227405312 : UInt64)) .g < (0 : Int32) := by rw [dcmp_pinf h .g]; decide
theorem own_lits (x : Int32) (h0 : 0 ≤ x.toInt) (h : x.toInt < 3) : x = 0 ∨ x = 1 ∨ x = 2 := by
  have : x.toInt = 0 ∨ x.toInt = 1 ∨ x.toInt = 2 := by omega
  rcases this with e | e | e
  · exact Or.inl (Int32.toInt_inj.mp (by rw [e]; decide))
  · exact Or.inr (Or.inl (Int32.toInt_inj.mp (by rw [e]; decide)))
  · exact Or.inr (Or.inr (Int32.toInt_inj.mp (by rw [e]; decide)))
theorem own_rem3 (x : Int32) (h : 0 ≤ x.toInt) : x % 3 = 0 ∨ x % 3 = 1 ∨ x % 3 = 2 := by
  have h2 := (c_irem x 3 3 (by decide)).1 h
  exact own_lits _ (by omega) (by omega)
theorem own_nine (p : Int32) : (((1 : Int32) + ((p &&& (2147483647 : Int32)) % (3 : Int32))) = 1 ∨ ((1 : Int32) + ((p &&& (2147483647 : Int32)) % (3 : Int32))) = 2 ∨ ((1 : Int32) + ((p &&& (2147483647 : Int32)) % (3 : Int32))) = 3) ∧ ((((p &&& (2147483647 : Int32)) / (3 : Int32)) % (3 : Int32)) = 0 ∨ (((p &&& (2147483647 : Int32)) / (3 : Int32)) % (3 : Int32)) = 1 ∨ (((p &&& (2147483647 : Int32)) / (3 : Int32)) % (3 : Int32)) = 2) := by
  have h1 := c_and p 2147483647 (by decide)
  have h2 := (c_idiv (p &&& 2147483647) 3 3 (by decide) (by decide)).1 h1.1
  refine ⟨?_, own_rem3 _ (by omega)⟩
  rcases own_rem3 (p &&& 2147483647) h1.1 with e | e | e <;> rw [e]
  · exact Or.inl (by decide)
  · exact Or.inr (Or.inl (by decide))
  · exact Or.inr (Or.inr (by decide))
theorem own_c1 {c : Int32} (h : c = 1 ∨ c = 2 ∨ c = 3) : ¬ c < (1 : Int32) := by rcases h with rfl | rfl | rfl <;> decide
theorem own_c2 {c : Int32} (h : c = 1 ∨ c = 2 ∨ c = 3) : ¬ c.toInt64 = (0 : Int64) := by rcases h with rfl | rfl | rfl <;> decide
theorem own_c3 {c : Int32} (h : c = 1 ∨ c = 2 ∨ c = 3) : ¬ ((9223372036854775807 : Int64) / c.toInt64) < (1 : Int64) := by rcases h with rfl | rfl | rfl <;> decide
theorem own_c4 {c : Int32} (h : c = 1 ∨ c = 2 ∨ c = 3) : ¬ ((9223372036854775807 : Int64) / c.toInt64) < (2 : Int64) := by rcases h with rfl | rfl | rfl <;> decide
theorem d7_0 : decode jdk_2529_method_6_code 0 = .ok (.iload_n 1, 1) := by decide +kernel
theorem d7_1 : decode jdk_2529_method_6_code 1 = .ok (.istore 4, 2) := by decide +kernel
theorem d7_3 : decode jdk_2529_method_6_code 3 = .ok (.iinc 4 1, 3) := by decide +kernel
theorem d7_6 : decode jdk_2529_method_6_code 6 = .ok (.iload 4, 2) := by decide +kernel
theorem d7_8 : decode jdk_2529_method_6_code 8 = .ok (.iload_n 2, 1) := by decide +kernel
theorem d7_9 : decode jdk_2529_method_6_code 9 = .ok (.if_icmp .ge 58, 3) := by decide +kernel
theorem d7_67 : decode jdk_2529_method_6_code 67 = .ok (.return_, 1) := by decide +kernel
abbrev Rrm_ins_0 : Room := ({ frames := 0, cells := 0, slots := 0, locals := 0 } : Room)
theorem pn_0 : plainName "java/util/DualPivotQuicksort" = true := by first | (simp [plainName, overriddenIn]; done) | decide +kernel
theorem ef_rm_ins_0 (m : MethodId) (r0 : Addr) : entryFrame m #[(.ref r0), (.int (0 : Int32)), (.int (1 : Int32))] 6 = mkF m 0 #[.val (.ref r0), .val (.int (0 : Int32)), .val (.int (1 : Int32)), .unset, .unset, .unset] [] := by first | (simp [entryFrame, mkF, argsToLocals, Value.category]; done) | rfl
def Q_ins_0 (Z : State) (r0 : Addr) (k_r0 : ClassId) (h0 : Heap) (n0 : Nat) (v : Option Value) (h : Heap) (L : List Loc) : Prop := v = none ∧ Fr n0 L ∧ Keep h0 h [r0] ∧ Arv Z h r0 k_r0 .int (1 : Int32) [(.int (4 : Int32))] (.int (0 : Int32))
set_option maxRecDepth 65536 in
set_option maxHeartbeats 40000000 in
theorem rm_ins_0 (l : Launch) (Z : State) (a0 : Array Value) (hw : ∀ d ∈ tables_1, d.before a0 Z = true) (ws : List Jvm.Cond) (r0 : Addr) (k_r0 : ClassId) (h0 : Heap) (n0 : Nat) (Z0 : n0 ≤ h0.size) (V_r0 : Arv Z h0 r0 k_r0 .int (1 : Int32) [(.int (4 : Int32))] (.int (0 : Int32))) (g_r0 : n0 ≤ r0) :
    MetFree l (⟨"java/util/DualPivotQuicksort", "insertionSort", "([III)V"⟩ : MethodName) (head1 (Jvm.Cond.code (⟨"java/util/DualPivotQuicksort", "insertionSort", "([III)V"⟩ : MethodName) jdk_2529_method_6_code 6 none :: ws) Rrm_ins_0) (fun a U => a = #[(.ref r0), (.int (0 : Int32)), (.int (1 : Int32))] ∧ Z.Warmed39 U.vm ∧ U.heap = h0) (fun _ _ _ _ _ => True) (fun _ U o U' => ∃ v L, o = .returned v ∧ Q_ins_0 Z r0 k_r0 h0 n0 v U'.heap L ∧ FrameEnd U o U' L Rrm_ins_0.cells Rrm_ins_0.slots) := by
  refine MetFree.of_bodySF (plainFor_of_name pn_0) hisR ?_
  intro p e s m args below meth c s₁ Bd hml0 hP hK
  obtain ⟨rfl, hZ, hh⟩ := hP
  have hx := Bd.exec
  have hby := Bd.bytes
  have hml : c.maxLocals = 6 := hml0
  have hown : s.vm.findClass "java/util/DualPivotQuicksort" = some m.cls := findClass_of_methodNamed Bd.named
  have hnm := (name_of_methodNamed Bd.named Bd.method).1
  have X0 : Stand p l e Rrm_ins_0 s m #[(.ref r0), (.int (0 : Int32)), (.int (1 : Int32))] below meth c s₁ [] 0 0 := Stand.of_body Bd
  have e0 : s₁.heap = h0 := by rw [← hh, Bd.state]; rfl
  have N0 := Fr.nil n0
  have W := @own_W a0 Z hw
  have pre0 : ∀ t, Steps p.tables e below (s₁.setTop (mkF m 0 #[.val (.ref r0), .val (.int (0 : Int32)), .val (.int (1 : Int32)), .unset, .unset, .unset] [])) t → Steps p.tables e below (s₁.setTop (entryFrame m #[(.ref r0), (.int (0 : Int32)), (.int (1 : Int32))] 6)) t := fun t k => castTop (ef_rm_ins_0 m r0) k
  have KK1 : Keep h0 h0 [r0] := (Keep.refl h0 [r0])
  obtain ⟨fs, hr, hrun, hended, hW, hsame⟩ := X0.leave (v := none) (fun _ => rfl)
  refine ⟨_, _, pre0 _ ?_, hrun, hended, _, _, rfl, ?_, ⟨_, rfl⟩, hW, hsame.mono (by decide) (by decide)⟩
  · show Steps p.tables e below (s₁.setTop (mkF m 0 #[.val (.ref r0), .val (.int (0 : Int32)), .val (.int (1 : Int32)), .unset, .unset, .unset] [])) _
    refine XS.iloadN X0.here hx rfl (hb hby d7_0) rfl ?_
    refine XS.istore X0.here hx rfl (hb hby d7_1) rfl (l' := #[.val (.ref r0), .val (.int (0 : Int32)), .val (.int (1 : Int32)), .unset, .val (.int (0 : Int32)), .unset]) rfl ?_
    refine XS.iinc X0.here hx rfl (hb hby d7_3) rfl (l' := #[.val (.ref r0), .val (.int (0 : Int32)), .val (.int (1 : Int32)), .unset, .val (.int ((0 : Int32) + (1 : Int32))), .unset]) rfl ?_
    show Steps p.tables e below (s₁.setTop (mkF m 6 #[.val (.ref r0), .val (.int (0 : Int32)), .val (.int (1 : Int32)), .unset, .val (.int ((0 : Int32) + (1 : Int32))), .unset] [])) _
    rw [show ((0 : Int32) + (1 : Int32)) = (1 : Int32) from (by decide)]
    refine XS.iload X0.here hx rfl (hb hby d7_6) rfl ?_
    refine XS.iloadN X0.here hx rfl (hb hby d7_8) rfl ?_
    refine XS.icmpYes X0.here hx rfl (pc0 := 9) (pc' := 67) rfl (hb hby d7_9) rfl (flt (by decide : ¬ ((1 : Int32) < (1 : Int32)))).2.1 (by decide) (by decide) ?_
    show Steps p.tables e below (s₁.setTop (mkF m 67 #[.val (.ref r0), .val (.int (0 : Int32)), .val (.int (1 : Int32)), .unset, .val (.int (1 : Int32)), .unset] [])) _
    exact X0.returnOut hx Bd.returns (hb hby d7_67) hr
  · show Q_ins_0 Z r0 k_r0 h0 n0 _ s₁.heap _
    rw [e0]
    exact ⟨rfl, N0, KK1, V_r0⟩
theorem d6_0 : decode jdk_2529_method_4_code 0 = .ok (.iload 4, 2) := by decide +kernel
theorem d6_2 : decode jdk_2529_method_4_code 2 = .ok (.iconst 1, 1) := by decide +kernel
theorem d6_3 : decode jdk_2529_method_4_code 3 = .ok (.isub, 1) := by decide +kernel
theorem d6_4 : decode jdk_2529_method_4_code 4 = .ok (.istore 5, 2) := by decide +kernel
theorem d6_6 : decode jdk_2529_method_4_code 6 = .ok (.iload 4, 2) := by decide +kernel
theorem d6_8 : decode jdk_2529_method_4_code 8 = .ok (.iload_n 3, 1) := by decide +kernel
theorem d6_9 : decode jdk_2529_method_4_code 9 = .ok (.isub, 1) := by decide +kernel
theorem d6_10 : decode jdk_2529_method_4_code 10 = .ok (.istore 6, 2) := by decide +kernel
theorem d6_12 : decode jdk_2529_method_4_code 12 = .ok (.iload 6, 2) := by decide +kernel
theorem d6_14 : decode jdk_2529_method_4_code 14 = .ok (.bipush 65, 2) := by decide +kernel
theorem d6_16 : decode jdk_2529_method_4_code 16 = .ok (.iload_n 2, 1) := by decide +kernel
theorem d6_17 : decode jdk_2529_method_4_code 17 = .ok (.iadd, 1) := by decide +kernel
theorem d6_18 : decode jdk_2529_method_4_code 18 = .ok (.if_icmp .ge 28, 3) := by decide +kernel
theorem d6_21 : decode jdk_2529_method_4_code 21 = .ok (.iload_n 2, 1) := by decide +kernel
theorem d6_22 : decode jdk_2529_method_4_code 22 = .ok (.iconst 1, 1) := by decide +kernel
theorem d6_23 : decode jdk_2529_method_4_code 23 = .ok (.iand, 1) := by decide +kernel
theorem d6_24 : decode jdk_2529_method_4_code 24 = .ok (.ifCond .le 22, 3) := by decide +kernel
theorem d6_46 : decode jdk_2529_method_4_code 46 = .ok (.iload 6, 2) := by decide +kernel
theorem d6_48 : decode jdk_2529_method_4_code 48 = .ok (.bipush 44, 2) := by decide +kernel
theorem d6_50 : decode jdk_2529_method_4_code 50 = .ok (.if_icmp .ge 11, 3) := by decide +kernel
theorem d6_53 : decode jdk_2529_method_4_code 53 = .ok (.aload_n 1, 1) := by decide +kernel
theorem d6_54 : decode jdk_2529_method_4_code 54 = .ok (.iload_n 3, 1) := by decide +kernel
theorem d6_55 : decode jdk_2529_method_4_code 55 = .ok (.iload 4, 2) := by decide +kernel
theorem d6_57 : decode jdk_2529_method_4_code 57 = .ok (.invokestatic 34, 3) := by decide +kernel
theorem pd_0 : parseMethodDescriptor "([III)V" = some ⟨[(.array .int), .int, .int], none⟩ := by decide +kernel
theorem d6_60 : decode jdk_2529_method_4_code 60 = .ok (.return_, 1) := by decide +kernel
abbrev Rrm_srt6_0 : Room := ({ frames := 1, cells := 0, slots := 0, locals := 17 } : Room)
theorem ef_rm_srt6_0 (m : MethodId) (r1 : Addr) : entryFrame m #[.null, (.ref r1), (.int (0 : Int32)), (.int (0 : Int32)), (.int (1 : Int32))] 21 = mkF m 0 #[.val .null, .val (.ref r1), .val (.int (0 : Int32)), .val (.int (0 : Int32)), .val (.int (1 : Int32)), .unset, .unset, .unset, .unset, .unset, .unset, .unset, .unset, .unset, .unset, .unset, .unset, .unset, .unset, .unset, .unset] [] := by first | (simp [entryFrame, mkF, argsToLocals, Value.category]; done) | rfl
def Q_srt6_0 (Z : State) (r1 : Addr) (k_r1 : ClassId) (h0 : Heap) (n0 : Nat) (v : Option Value) (h : Heap) (L : List Loc) : Prop := v = none ∧ Fr n0 L ∧ Keep h0 h [r1] ∧ Arv Z h r1 k_r1 .int (1 : Int32) [(.int (4 : Int32))] (.int (0 : Int32))
set_option maxRecDepth 65536 in
set_option maxHeartbeats 40000000 in
theorem rm_srt6_0 (l : Launch) (Z : State) (a0 : Array Value) (hw : ∀ d ∈ tables_1, d.before a0 Z = true) (ws : List Jvm.Cond) (r1 : Addr) (k_r1 : ClassId) (h0 : Heap) (n0 : Nat) (Z0 : n0 ≤ h0.size) (V_r1 : Arv Z h0 r1 k_r1 .int (1 : Int32) [(.int (4 : Int32))] (.int (0 : Int32))) (g_r1 : n0 ≤ r1) :
    MetFree l (⟨"java/util/DualPivotQuicksort", "sort", "(Ljava/util/DualPivotQuicksort$Sorter;[IIII)V"⟩ : MethodName) (head1 (Jvm.Cond.code (⟨"java/util/DualPivotQuicksort", "sort", "(Ljava/util/DualPivotQuicksort$Sorter;[IIII)V"⟩ : MethodName) jdk_2529_method_4_code 21 none :: ws) Rrm_srt6_0) (fun a U => a = #[.null, (.ref r1), (.int (0 : Int32)), (.int (0 : Int32)), (.int (1 : Int32))] ∧ Z.Warmed39 U.vm ∧ U.heap = h0) (fun _ _ _ _ _ => True) (fun _ U o U' => ∃ v L, o = .returned v ∧ Q_srt6_0 Z r1 k_r1 h0 n0 v U'.heap L ∧ FrameEnd U o U' L Rrm_srt6_0.cells Rrm_srt6_0.slots) := by
  refine MetFree.of_bodySF (plainFor_of_name pn_0) hisR ?_
  intro p e s m args below meth c s₁ Bd hml0 hP hK
  obtain ⟨rfl, hZ, hh⟩ := hP
  have hx := Bd.exec
  have hby := Bd.bytes
  have hml : c.maxLocals = 21 := hml0
  have hown : s.vm.findClass "java/util/DualPivotQuicksort" = some m.cls := findClass_of_methodNamed Bd.named
  have hnm := (name_of_methodNamed Bd.named Bd.method).1
  have X0 : Stand p l e Rrm_srt6_0 s m #[.null, (.ref r1), (.int (0 : Int32)), (.int (0 : Int32)), (.int (1 : Int32))] below meth c s₁ [] 0 0 := Stand.of_body Bd
  have e0 : s₁.heap = h0 := by rw [← hh, Bd.state]; rfl
  have N0 := Fr.nil n0
  have W := @own_W a0 Z hw
  have pre0 : ∀ t, Steps p.tables e below (s₁.setTop (mkF m 0 #[.val .null, .val (.ref r1), .val (.int (0 : Int32)), .val (.int (0 : Int32)), .val (.int (1 : Int32)), .unset, .unset, .unset, .unset, .unset, .unset, .unset, .unset, .unset, .unset, .unset, .unset, .unset, .unset, .unset, .unset] [])) t → Steps p.tables e below (s₁.setTop (entryFrame m #[.null, (.ref r1), (.int (0 : Int32)), (.int (0 : Int32)), (.int (1 : Int32))] 21)) t := fun t k => castTop (ef_rm_srt6_0 m r1) k
  obtain ⟨_, _, ⟨T1, L1, k1, n1⟩, -, X1, ⟨Lc1, hQ1, l1, y1, z1⟩, st1⟩ := Jvm.LawKit.callS X0 hx (y := (⟨"java/util/DualPivotQuicksort", "insertionSort", "([III)V"⟩ : MethodName)) hown (mvT hZ (W 36 rfl)) (mvT hZ (W 37 rfl)) (mvT hZ (W 31 rfl)) (mvT hZ (W 38 rfl)) (by decide) (backOf (W := 0) (rm_ins_0 l Z a0 hw [] r1 k_r1 h0 n0 Z0 V_r1 g_r1) hZ (W 38 rfl) (W 31 rfl) (by decide) (by decide)) (g := (mkF m 57 #[.val .null, .val (.ref r1), .val (.int (0 : Int32)), .val (.int (0 : Int32)), .val (.int (1 : Int32)), .val (.int (0 : Int32)), .val (.int (1 : Int32)), .unset, .unset, .unset, .unset, .unset, .unset, .unset, .unset, .unset, .unset, .unset, .unset, .unset, .unset] [(.int (1 : Int32)), (.int (0 : Int32)), (.ref r1)])) rfl (by rw [hml]; rfl) (argsL := [(.ref r1), (.int (0 : Int32)), (.int (1 : Int32))]) (rest := []) (lenOf pd_0 rfl) rfl (own_le rfl) (hb hby d6_57) (fun _ _ => ⟨rfl, e0, (by decide : 0 + 0 ≤ _), (by decide : 0 + 0 ≤ _)⟩)
  dsimp only [Pt.U, Pt.locs, Pt.cells, Pt.slots] at X1 l1 y1 z1 st1 hQ1
  subst l1 y1 z1
  obtain ⟨rfl, N1q, K1, V1⟩ := hQ1
  have N1 := Fr.app N0 N1q
  obtain ⟨LL1, X1, N1⟩ := own_hide X1 N1
  have KK2 : Keep h0 T1.heap [r1] := ((Keep.refl h0 [r1]).trans K1 (own_in1 (Or.inl (List.mem_of_getElem? (i := 0) rfl))))
  obtain ⟨fs, hr, hrun, hended, hW, hsame⟩ := X1.leave (v := none) (fun _ => rfl)
  refine ⟨_, _, pre0 _ ?_, hrun, hended, _, _, rfl, ?_, ⟨_, rfl⟩, hW, hsame.mono (by decide) (by decide)⟩
  · show Steps p.tables e below (s₁.setTop (mkF m 0 #[.val .null, .val (.ref r1), .val (.int (0 : Int32)), .val (.int (0 : Int32)), .val (.int (1 : Int32)), .unset, .unset, .unset, .unset, .unset, .unset, .unset, .unset, .unset, .unset, .unset, .unset, .unset, .unset, .unset, .unset] [])) _
    refine XS.iload X0.here hx rfl (hb hby d6_0) rfl ?_
    refine XS.iconst X0.here hx rfl (hb hby d6_2) ?_
    refine XS.isub X0.here hx rfl (hb hby d6_3) rfl ?_
    show Steps p.tables e below (s₁.setTop (mkF m 4 #[.val .null, .val (.ref r1), .val (.int (0 : Int32)), .val (.int (0 : Int32)), .val (.int (1 : Int32)), .unset, .unset, .unset, .unset, .unset, .unset, .unset, .unset, .unset, .unset, .unset, .unset, .unset, .unset, .unset, .unset] [(.int ((1 : Int32) - (1 : Int32)))])) _
    rw [show ((1 : Int32) - (1 : Int32)) = (0 : Int32) from (by decide)]
    refine XS.istore X0.here hx rfl (hb hby d6_4) rfl (l' := #[.val .null, .val (.ref r1), .val (.int (0 : Int32)), .val (.int (0 : Int32)), .val (.int (1 : Int32)), .val (.int (0 : Int32)), .unset, .unset, .unset, .unset, .unset, .unset, .unset, .unset, .unset, .unset, .unset, .unset, .unset, .unset, .unset]) rfl ?_
    refine XS.iload X0.here hx rfl (hb hby d6_6) rfl ?_
    refine XS.iloadN X0.here hx rfl (hb hby d6_8) rfl ?_
    refine XS.isub X0.here hx rfl (hb hby d6_9) rfl ?_
    show Steps p.tables e below (s₁.setTop (mkF m 10 #[.val .null, .val (.ref r1), .val (.int (0 : Int32)), .val (.int (0 : Int32)), .val (.int (1 : Int32)), .val (.int (0 : Int32)), .unset, .unset, .unset, .unset, .unset, .unset, .unset, .unset, .unset, .unset, .unset, .unset, .unset, .unset, .unset] [(.int ((1 : Int32) - (0 : Int32)))])) _
    rw [show ((1 : Int32) - (0 : Int32)) = (1 : Int32) from (by decide)]
    refine XS.istore X0.here hx rfl (hb hby d6_10) rfl (l' := #[.val .null, .val (.ref r1), .val (.int (0 : Int32)), .val (.int (0 : Int32)), .val (.int (1 : Int32)), .val (.int (0 : Int32)), .val (.int (1 : Int32)), .unset, .unset, .unset, .unset, .unset, .unset, .unset, .unset, .unset, .unset, .unset, .unset, .unset, .unset]) rfl ?_
    refine XS.iload X0.here hx rfl (hb hby d6_12) rfl ?_
    refine XS.bipush X0.here hx rfl (hb hby d6_14) ?_
    refine XS.iloadN X0.here hx rfl (hb hby d6_16) rfl ?_
    refine XS.iadd X0.here hx rfl (hb hby d6_17) rfl ?_
    show Steps p.tables e below (s₁.setTop (mkF m 18 #[.val .null, .val (.ref r1), .val (.int (0 : Int32)), .val (.int (0 : Int32)), .val (.int (1 : Int32)), .val (.int (0 : Int32)), .val (.int (1 : Int32)), .unset, .unset, .unset, .unset, .unset, .unset, .unset, .unset, .unset, .unset, .unset, .unset, .unset, .unset] [(.int ((65 : Int32) + (0 : Int32))), (.int (1 : Int32))])) _
    rw [show ((65 : Int32) + (0 : Int32)) = (65 : Int32) from (by decide)]
    refine XS.icmpNo X0.here hx rfl (hb hby d6_18) rfl (tlt (by decide : (1 : Int32) < (65 : Int32))).2.1 ?_
    refine XS.iloadN X0.here hx rfl (hb hby d6_21) rfl ?_
    refine XS.iconst X0.here hx rfl (hb hby d6_22) ?_
    refine XS.iand X0.here hx rfl (hb hby d6_23) rfl ?_
    show Steps p.tables e below (s₁.setTop (mkF m 24 #[.val .null, .val (.ref r1), .val (.int (0 : Int32)), .val (.int (0 : Int32)), .val (.int (1 : Int32)), .val (.int (0 : Int32)), .val (.int (1 : Int32)), .unset, .unset, .unset, .unset, .unset, .unset, .unset, .unset, .unset, .unset, .unset, .unset, .unset, .unset] [(.int ((0 : Int32) &&& (1 : Int32)))])) _
    rw [show ((0 : Int32) &&& (1 : Int32)) = (0 : Int32) from (by decide)]
    refine XS.ifYes X0.here hx rfl (pc0 := 24) (pc' := 46) rfl (hb hby d6_24) rfl ((if0 _ _).trans (flt (by decide : ¬ ((0 : Int32) < (0 : Int32)))).2.2.2) (by decide) (by decide) ?_
    refine XS.iload X0.here hx rfl (hb hby d6_46) rfl ?_
    refine XS.bipush X0.here hx rfl (hb hby d6_48) ?_
    refine XS.icmpNo X0.here hx rfl (hb hby d6_50) rfl (tlt (by decide : (1 : Int32) < (44 : Int32))).2.1 ?_
    refine XS.aloadN X0.here hx rfl (hb hby d6_53) rfl rfl ?_
    refine XS.iloadN X0.here hx rfl (hb hby d6_54) rfl ?_
    refine XS.iload X0.here hx rfl (hb hby d6_55) rfl ?_
    refine st1 _ ?_
    show Steps p.tables e below (T1.setTop (mkF m 60 #[.val .null, .val (.ref r1), .val (.int (0 : Int32)), .val (.int (0 : Int32)), .val (.int (1 : Int32)), .val (.int (0 : Int32)), .val (.int (1 : Int32)), .unset, .unset, .unset, .unset, .unset, .unset, .unset, .unset, .unset, .unset, .unset, .unset, .unset, .unset] [])) _
    exact X1.returnOut hx Bd.returns (hb hby d6_60) hr
  · show Q_srt6_0 Z r1 k_r1 h0 n0 _ T1.heap _
    exact ⟨rfl, N1, KK2, V1⟩
theorem d5_0 : decode jdk_2529_method_3_code 0 = .ok (.iload_n 3, 1) := by decide +kernel
theorem d5_1 : decode jdk_2529_method_3_code 1 = .ok (.iload_n 2, 1) := by decide +kernel
theorem d5_2 : decode jdk_2529_method_3_code 2 = .ok (.isub, 1) := by decide +kernel
theorem d5_3 : decode jdk_2529_method_3_code 3 = .ok (.istore 4, 2) := by decide +kernel
theorem d5_5 : decode jdk_2529_method_3_code 5 = .ok (.iload_n 1, 1) := by decide +kernel
theorem d5_6 : decode jdk_2529_method_3_code 6 = .ok (.iconst 1, 1) := by decide +kernel
theorem d5_7 : decode jdk_2529_method_3_code 7 = .ok (.if_icmp .le 61, 3) := by decide +kernel
theorem d5_68 : decode jdk_2529_method_3_code 68 = .ok (.aconst_null, 1) := by decide +kernel
theorem d5_69 : decode jdk_2529_method_3_code 69 = .ok (.aload_n 0, 1) := by decide +kernel
theorem d5_70 : decode jdk_2529_method_3_code 70 = .ok (.iconst 0, 1) := by decide +kernel
theorem d5_71 : decode jdk_2529_method_3_code 71 = .ok (.iload_n 2, 1) := by decide +kernel
theorem d5_72 : decode jdk_2529_method_3_code 72 = .ok (.iload_n 3, 1) := by decide +kernel
theorem d5_73 : decode jdk_2529_method_3_code 73 = .ok (.invokestatic 26, 3) := by decide +kernel
theorem pd_1 : parseMethodDescriptor "(Ljava/util/DualPivotQuicksort$Sorter;[IIII)V" = some ⟨[(.object "java/util/DualPivotQuicksort$Sorter"), (.array .int), .int, .int, .int], none⟩ := by decide +kernel
theorem d5_76 : decode jdk_2529_method_3_code 76 = .ok (.return_, 1) := by decide +kernel
abbrev Rrm_srt5_0 : Room := ({ frames := 2, cells := 0, slots := 0, locals := 49 } : Room)
theorem ef_rm_srt5_0 (m : MethodId) (r0 : Addr) : entryFrame m #[(.ref r0), (.int (0 : Int32)), (.int (0 : Int32)), (.int (1 : Int32))] 7 = mkF m 0 #[.val (.ref r0), .val (.int (0 : Int32)), .val (.int (0 : Int32)), .val (.int (1 : Int32)), .unset, .unset, .unset] [] := by first | (simp [entryFrame, mkF, argsToLocals, Value.category]; done) | rfl
def Q_srt5_0 (Z : State) (r0 : Addr) (k_r0 : ClassId) (h0 : Heap) (n0 : Nat) (v : Option Value) (h : Heap) (L : List Loc) : Prop := v = none ∧ Fr n0 L ∧ Keep h0 h [r0] ∧ Arv Z h r0 k_r0 .int (1 : Int32) [(.int (4 : Int32))] (.int (0 : Int32))
set_option maxRecDepth 65536 in
set_option maxHeartbeats 40000000 in
theorem rm_srt5_0 (l : Launch) (Z : State) (a0 : Array Value) (hw : ∀ d ∈ tables_1, d.before a0 Z = true) (ws : List Jvm.Cond) (r0 : Addr) (k_r0 : ClassId) (h0 : Heap) (n0 : Nat) (Z0 : n0 ≤ h0.size) (V_r0 : Arv Z h0 r0 k_r0 .int (1 : Int32) [(.int (4 : Int32))] (.int (0 : Int32))) (g_r0 : n0 ≤ r0) :
    MetFree l (⟨"java/util/DualPivotQuicksort", "sort", "([IIII)V"⟩ : MethodName) (head1 (Jvm.Cond.code (⟨"java/util/DualPivotQuicksort", "sort", "([IIII)V"⟩ : MethodName) jdk_2529_method_3_code 7 none :: ws) Rrm_srt5_0) (fun a U => a = #[(.ref r0), (.int (0 : Int32)), (.int (0 : Int32)), (.int (1 : Int32))] ∧ Z.Warmed39 U.vm ∧ U.heap = h0) (fun _ _ _ _ _ => True) (fun _ U o U' => ∃ v L, o = .returned v ∧ Q_srt5_0 Z r0 k_r0 h0 n0 v U'.heap L ∧ FrameEnd U o U' L Rrm_srt5_0.cells Rrm_srt5_0.slots) := by
  refine MetFree.of_bodySF (plainFor_of_name pn_0) hisR ?_
  intro p e s m args below meth c s₁ Bd hml0 hP hK
  obtain ⟨rfl, hZ, hh⟩ := hP
  have hx := Bd.exec
  have hby := Bd.bytes
  have hml : c.maxLocals = 7 := hml0
  have hown : s.vm.findClass "java/util/DualPivotQuicksort" = some m.cls := findClass_of_methodNamed Bd.named
  have hnm := (name_of_methodNamed Bd.named Bd.method).1
  have X0 : Stand p l e Rrm_srt5_0 s m #[(.ref r0), (.int (0 : Int32)), (.int (0 : Int32)), (.int (1 : Int32))] below meth c s₁ [] 0 0 := Stand.of_body Bd
  have e0 : s₁.heap = h0 := by rw [← hh, Bd.state]; rfl
  have N0 := Fr.nil n0
  have W := @own_W a0 Z hw
  have pre0 : ∀ t, Steps p.tables e below (s₁.setTop (mkF m 0 #[.val (.ref r0), .val (.int (0 : Int32)), .val (.int (0 : Int32)), .val (.int (1 : Int32)), .unset, .unset, .unset] [])) t → Steps p.tables e below (s₁.setTop (entryFrame m #[(.ref r0), (.int (0 : Int32)), (.int (0 : Int32)), (.int (1 : Int32))] 7)) t := fun t k => castTop (ef_rm_srt5_0 m r0) k
  obtain ⟨_, _, ⟨T1, L1, k1, n1⟩, -, X1, ⟨Lc1, hQ1, l1, y1, z1⟩, st1⟩ := Jvm.LawKit.callS X0 hx (y := (⟨"java/util/DualPivotQuicksort", "sort", "(Ljava/util/DualPivotQuicksort$Sorter;[IIII)V"⟩ : MethodName)) hown (mvT hZ (W 33 rfl)) (mvT hZ (W 34 rfl)) (mvT hZ (W 31 rfl)) (mvT hZ (W 35 rfl)) (by decide) (backOf (W := 0) (rm_srt6_0 l Z a0 hw [] r0 k_r0 h0 n0 Z0 V_r0 g_r0) hZ (W 35 rfl) (W 31 rfl) (by decide) (by decide)) (g := (mkF m 73 #[.val (.ref r0), .val (.int (0 : Int32)), .val (.int (0 : Int32)), .val (.int (1 : Int32)), .val (.int (1 : Int32)), .unset, .unset] [(.int (1 : Int32)), (.int (0 : Int32)), (.int (0 : Int32)), (.ref r0), .null])) rfl (by rw [hml]; rfl) (argsL := [.null, (.ref r0), (.int (0 : Int32)), (.int (0 : Int32)), (.int (1 : Int32))]) (rest := []) (lenOf pd_1 rfl) rfl (own_le rfl) (hb hby d5_73) (fun _ _ => ⟨rfl, e0, (by decide : 0 + 0 ≤ _), (by decide : 0 + 0 ≤ _)⟩)
  dsimp only [Pt.U, Pt.locs, Pt.cells, Pt.slots] at X1 l1 y1 z1 st1 hQ1
  subst l1 y1 z1
  obtain ⟨rfl, N1q, K1, V1⟩ := hQ1
  have N1 := Fr.app N0 N1q
  obtain ⟨LL1, X1, N1⟩ := own_hide X1 N1
  have KK2 : Keep h0 T1.heap [r0] := ((Keep.refl h0 [r0]).trans K1 (own_in1 (Or.inl (List.mem_of_getElem? (i := 0) rfl))))
  obtain ⟨fs, hr, hrun, hended, hW, hsame⟩ := X1.leave (v := none) (fun _ => rfl)
  refine ⟨_, _, pre0 _ ?_, hrun, hended, _, _, rfl, ?_, ⟨_, rfl⟩, hW, hsame.mono (by decide) (by decide)⟩
  · show Steps p.tables e below (s₁.setTop (mkF m 0 #[.val (.ref r0), .val (.int (0 : Int32)), .val (.int (0 : Int32)), .val (.int (1 : Int32)), .unset, .unset, .unset] [])) _
    refine XS.iloadN X0.here hx rfl (hb hby d5_0) rfl ?_
    refine XS.iloadN X0.here hx rfl (hb hby d5_1) rfl ?_
    refine XS.isub X0.here hx rfl (hb hby d5_2) rfl ?_
    show Steps p.tables e below (s₁.setTop (mkF m 3 #[.val (.ref r0), .val (.int (0 : Int32)), .val (.int (0 : Int32)), .val (.int (1 : Int32)), .unset, .unset, .unset] [(.int ((1 : Int32) - (0 : Int32)))])) _
    rw [show ((1 : Int32) - (0 : Int32)) = (1 : Int32) from (by decide)]
    refine XS.istore X0.here hx rfl (hb hby d5_3) rfl (l' := #[.val (.ref r0), .val (.int (0 : Int32)), .val (.int (0 : Int32)), .val (.int (1 : Int32)), .val (.int (1 : Int32)), .unset, .unset]) rfl ?_
    refine XS.iloadN X0.here hx rfl (hb hby d5_5) rfl ?_
    refine XS.iconst X0.here hx rfl (hb hby d5_6) ?_
    refine XS.icmpYes X0.here hx rfl (pc0 := 7) (pc' := 68) rfl (hb hby d5_7) rfl (flt (by decide : ¬ ((1 : Int32) < (0 : Int32)))).2.2.2 (by decide) (by decide) ?_
    refine XS.aconstNull X0.here hx rfl (hb hby d5_68) ?_
    refine XS.aloadN X0.here hx rfl (hb hby d5_69) rfl rfl ?_
    refine XS.iconst X0.here hx rfl (hb hby d5_70) ?_
    refine XS.iloadN X0.here hx rfl (hb hby d5_71) rfl ?_
    refine XS.iloadN X0.here hx rfl (hb hby d5_72) rfl ?_
    refine st1 _ ?_
    show Steps p.tables e below (T1.setTop (mkF m 76 #[.val (.ref r0), .val (.int (0 : Int32)), .val (.int (0 : Int32)), .val (.int (1 : Int32)), .val (.int (1 : Int32)), .unset, .unset] [])) _
    exact X1.returnOut hx Bd.returns (hb hby d5_76) hr
  · show Q_srt5_0 Z r0 k_r0 h0 n0 _ T1.heap _
    exact ⟨rfl, N1, KK2, V1⟩
theorem d4_0 : decode jdk_65_method_2_code 0 = .ok (.aload_n 0, 1) := by decide +kernel
theorem d4_1 : decode jdk_65_method_2_code 1 = .ok (.iconst 0, 1) := by decide +kernel
theorem d4_2 : decode jdk_65_method_2_code 2 = .ok (.iconst 0, 1) := by decide +kernel
theorem d4_3 : decode jdk_65_method_2_code 3 = .ok (.aload_n 0, 1) := by decide +kernel
theorem d4_4 : decode jdk_65_method_2_code 4 = .ok (.arraylength, 1) := by decide +kernel
theorem d4_5 : decode jdk_65_method_2_code 5 = .ok (.invokestatic 7, 3) := by decide +kernel
theorem pd_2 : parseMethodDescriptor "([IIII)V" = some ⟨[(.array .int), .int, .int, .int], none⟩ := by decide +kernel
theorem d4_8 : decode jdk_65_method_2_code 8 = .ok (.return_, 1) := by decide +kernel
abbrev Rrm_srt4_0 : Room := ({ frames := 3, cells := 0, slots := 0, locals := 67 } : Room)
theorem pn_1 : plainName "java/util/Arrays" = true := by first | (simp [plainName, overriddenIn]; done) | decide +kernel
theorem ef_rm_srt4_0 (m : MethodId) (r0 : Addr) : entryFrame m #[(.ref r0)] 1 = mkF m 0 #[.val (.ref r0)] [] := by first | (simp [entryFrame, mkF, argsToLocals, Value.category]; done) | rfl
def Q_srt4_0 (Z : State) (r0 : Addr) (k_r0 : ClassId) (h0 : Heap) (n0 : Nat) (v : Option Value) (h : Heap) (L : List Loc) : Prop := v = none ∧ Fr n0 L ∧ Keep h0 h [r0] ∧ Arv Z h r0 k_r0 .int (1 : Int32) [(.int (4 : Int32))] (.int (0 : Int32))
set_option maxRecDepth 65536 in
set_option maxHeartbeats 40000000 in
theorem rm_srt4_0 (l : Launch) (Z : State) (a0 : Array Value) (hw : ∀ d ∈ tables_1, d.before a0 Z = true) (ws : List Jvm.Cond) (r0 : Addr) (k_r0 : ClassId) (h0 : Heap) (n0 : Nat) (Z0 : n0 ≤ h0.size) (V_r0 : Arv Z h0 r0 k_r0 .int (1 : Int32) [(.int (4 : Int32))] (.int (0 : Int32))) (g_r0 : n0 ≤ r0) :
    MetFree l (⟨"java/util/Arrays", "sort", "([I)V"⟩ : MethodName) (head1 (Jvm.Cond.code (⟨"java/util/Arrays", "sort", "([I)V"⟩ : MethodName) jdk_65_method_2_code 1 none :: ws) Rrm_srt4_0) (fun a U => a = #[(.ref r0)] ∧ Z.Warmed39 U.vm ∧ U.heap = h0) (fun _ _ _ _ _ => True) (fun _ U o U' => ∃ v L, o = .returned v ∧ Q_srt4_0 Z r0 k_r0 h0 n0 v U'.heap L ∧ FrameEnd U o U' L Rrm_srt4_0.cells Rrm_srt4_0.slots) := by
  refine MetFree.of_bodySF (plainFor_of_name pn_1) hisR ?_
  intro p e s m args below meth c s₁ Bd hml0 hP hK
  obtain ⟨rfl, hZ, hh⟩ := hP
  have hx := Bd.exec
  have hby := Bd.bytes
  have hml : c.maxLocals = 1 := hml0
  have hown : s.vm.findClass "java/util/Arrays" = some m.cls := findClass_of_methodNamed Bd.named
  have hnm := (name_of_methodNamed Bd.named Bd.method).1
  have X0 : Stand p l e Rrm_srt4_0 s m #[(.ref r0)] below meth c s₁ [] 0 0 := Stand.of_body Bd
  have e0 : s₁.heap = h0 := by rw [← hh, Bd.state]; rfl
  have N0 := Fr.nil n0
  have W := @own_W a0 Z hw
  have pre0 : ∀ t, Steps p.tables e below (s₁.setTop (mkF m 0 #[.val (.ref r0)] [])) t → Steps p.tables e below (s₁.setTop (entryFrame m #[(.ref r0)] 1)) t := fun t k => castTop (ef_rm_srt4_0 m r0) k
  obtain ⟨cl_r0_1, Ar_r0_1, q_r0_1, S_r0_1, N_r0_1, H_r0_1, G_r0_1⟩ := id V_r0
  have Al_r0_1 := State.isArrayOf_alike hZ.alike Ar_r0_1.2.1
  obtain ⟨_, _, ⟨T2, L2, k2, n2⟩, -, X2, ⟨Lc2, hQ2, l2, y2, z2⟩, st2⟩ := Jvm.LawKit.callS X0 hx (y := (⟨"java/util/DualPivotQuicksort", "sort", "([IIII)V"⟩ : MethodName)) hown (mvT hZ (W 29 rfl)) (mvT hZ (W 30 rfl)) (mvT hZ (W 31 rfl)) (mvT hZ (W 32 rfl)) (by decide) (backOf (W := 0) (rm_srt5_0 l Z a0 hw [] r0 k_r0 h0 n0 Z0 V_r0 g_r0) hZ (W 32 rfl) (W 31 rfl) (by decide) (by decide)) (g := (mkF m 5 #[.val (.ref r0)] [(.int (1 : Int32)), (.int (0 : Int32)), (.int (0 : Int32)), (.ref r0)])) rfl (by rw [hml]; rfl) (argsL := [(.ref r0), (.int (0 : Int32)), (.int (0 : Int32)), (.int (1 : Int32))]) (rest := []) (lenOf pd_2 rfl) rfl (own_le rfl) (hb hby d4_5) (fun _ _ => ⟨rfl, e0, (by decide : 0 + 0 ≤ _), (by decide : 0 + 0 ≤ _)⟩)
  dsimp only [Pt.U, Pt.locs, Pt.cells, Pt.slots] at X2 l2 y2 z2 st2 hQ2
  subst l2 y2 z2
  obtain ⟨rfl, N2q, K2, V2⟩ := hQ2
  have N2 := Fr.app N0 N2q
  obtain ⟨LL2, X2, N2⟩ := own_hide X2 N2
  have KK3 : Keep h0 T2.heap [r0] := ((Keep.refl h0 [r0]).trans K2 (own_in1 (Or.inl (List.mem_of_getElem? (i := 0) rfl))))
  obtain ⟨fs, hr, hrun, hended, hW, hsame⟩ := X2.leave (v := none) (fun _ => rfl)
  refine ⟨_, _, pre0 _ ?_, hrun, hended, _, _, rfl, ?_, ⟨_, rfl⟩, hW, hsame.mono (by decide) (by decide)⟩
  · show Steps p.tables e below (s₁.setTop (mkF m 0 #[.val (.ref r0)] [])) _
    refine XS.aloadN X0.here hx rfl (hb hby d4_0) rfl rfl ?_
    refine XS.iconst X0.here hx rfl (hb hby d4_1) ?_
    refine XS.iconst X0.here hx rfl (hb hby d4_2) ?_
    refine XS.aloadN X0.here hx rfl (hb hby d4_3) rfl rfl ?_
    refine X0.arraylength hx (by rw [e0]; exact Ar_r0_1.1) Al_r0_1 (g := (mkF m 4 #[.val (.ref r0)] [(.ref r0), (.int (0 : Int32)), (.int (0 : Int32)), (.ref r0)])) rfl rfl (hb hby d4_4) _ ?_
    rw [len_of S_r0_1 N_r0_1]
    refine st2 _ ?_
    show Steps p.tables e below (T2.setTop (mkF m 8 #[.val (.ref r0)] [])) _
    exact X2.returnOut hx Bd.returns (hb hby d4_8) hr
  · show Q_srt4_0 Z r0 k_r0 h0 n0 _ T2.heap _
    exact ⟨rfl, N2, KK3, V2⟩
theorem d7_12 : decode jdk_2529_method_6_code 12 = .ok (.aload_n 0, 1) := by decide +kernel
theorem d7_13 : decode jdk_2529_method_6_code 13 = .ok (.iload 4, 2) := by decide +kernel
theorem d7_15 : decode jdk_2529_method_6_code 15 = .ok (.dup, 1) := by decide +kernel
theorem d7_16 : decode jdk_2529_method_6_code 16 = .ok (.istore_n 3, 1) := by decide +kernel
theorem d7_17 : decode jdk_2529_method_6_code 17 = .ok (.iaload, 1) := by decide +kernel
theorem d7_18 : decode jdk_2529_method_6_code 18 = .ok (.istore 5, 2) := by decide +kernel
theorem d7_20 : decode jdk_2529_method_6_code 20 = .ok (.iload 5, 2) := by decide +kernel
theorem d7_22 : decode jdk_2529_method_6_code 22 = .ok (.aload_n 0, 1) := by decide +kernel
theorem d7_23 : decode jdk_2529_method_6_code 23 = .ok (.iload_n 3, 1) := by decide +kernel
theorem d7_24 : decode jdk_2529_method_6_code 24 = .ok (.iconst 1, 1) := by decide +kernel
theorem d7_25 : decode jdk_2529_method_6_code 25 = .ok (.isub, 1) := by decide +kernel
theorem d7_26 : decode jdk_2529_method_6_code 26 = .ok (.iaload, 1) := by decide +kernel
theorem d7_27 : decode jdk_2529_method_6_code 27 = .ok (.if_icmp .ge 37, 3) := by decide +kernel
theorem d7_30 : decode jdk_2529_method_6_code 30 = .ok (.iinc 3 (-1), 3) := by decide +kernel
theorem d7_33 : decode jdk_2529_method_6_code 33 = .ok (.iload_n 3, 1) := by decide +kernel
theorem d7_34 : decode jdk_2529_method_6_code 34 = .ok (.iload_n 1, 1) := by decide +kernel
theorem d7_35 : decode jdk_2529_method_6_code 35 = .ok (.if_icmp .lt 22, 3) := by decide +kernel
theorem d7_38 : decode jdk_2529_method_6_code 38 = .ok (.iload 5, 2) := by decide +kernel
theorem d7_40 : decode jdk_2529_method_6_code 40 = .ok (.aload_n 0, 1) := by decide +kernel
theorem d7_41 : decode jdk_2529_method_6_code 41 = .ok (.iload_n 3, 1) := by decide +kernel
theorem d7_42 : decode jdk_2529_method_6_code 42 = .ok (.iaload, 1) := by decide +kernel
theorem d7_43 : decode jdk_2529_method_6_code 43 = .ok (.if_icmp .ge 14, 3) := by decide +kernel
theorem d7_46 : decode jdk_2529_method_6_code 46 = .ok (.aload_n 0, 1) := by decide +kernel
theorem d7_47 : decode jdk_2529_method_6_code 47 = .ok (.iload_n 3, 1) := by decide +kernel
theorem d7_48 : decode jdk_2529_method_6_code 48 = .ok (.iconst 1, 1) := by decide +kernel
theorem d7_49 : decode jdk_2529_method_6_code 49 = .ok (.iadd, 1) := by decide +kernel
theorem d7_50 : decode jdk_2529_method_6_code 50 = .ok (.aload_n 0, 1) := by decide +kernel
theorem d7_51 : decode jdk_2529_method_6_code 51 = .ok (.iload_n 3, 1) := by decide +kernel
theorem d7_52 : decode jdk_2529_method_6_code 52 = .ok (.iaload, 1) := by decide +kernel
theorem d7_53 : decode jdk_2529_method_6_code 53 = .ok (.iastore, 1) := by decide +kernel
theorem d7_54 : decode jdk_2529_method_6_code 54 = .ok (.goto (-24), 3) := by decide +kernel
theorem d7_57 : decode jdk_2529_method_6_code 57 = .ok (.aload_n 0, 1) := by decide +kernel
theorem d7_58 : decode jdk_2529_method_6_code 58 = .ok (.iload_n 3, 1) := by decide +kernel
theorem d7_59 : decode jdk_2529_method_6_code 59 = .ok (.iconst 1, 1) := by decide +kernel
theorem d7_60 : decode jdk_2529_method_6_code 60 = .ok (.iadd, 1) := by decide +kernel
theorem d7_61 : decode jdk_2529_method_6_code 61 = .ok (.iload 5, 2) := by decide +kernel
theorem d7_63 : decode jdk_2529_method_6_code 63 = .ok (.iastore, 1) := by decide +kernel
theorem d7_64 : decode jdk_2529_method_6_code 64 = .ok (.goto (-61), 3) := by decide +kernel
abbrev Rrm_ins_1 : Room := ({ frames := 0, cells := 0, slots := 0, locals := 0 } : Room)
theorem ef_rm_ins_1 (m : MethodId) (r0 : Addr) : entryFrame m #[(.ref r0), (.int (0 : Int32)), (.int (2 : Int32))] 6 = mkF m 0 #[.val (.ref r0), .val (.int (0 : Int32)), .val (.int (2 : Int32)), .unset, .unset, .unset] [] := by first | (simp [entryFrame, mkF, argsToLocals, Value.category]; done) | rfl
def Q_ins_1 (Z : State) (r0 : Addr) (k_r0 : ClassId) (h0 : Heap) (n0 : Nat) (v : Option Value) (h : Heap) (L : List Loc) : Prop := v = none ∧ Fr n0 L ∧ Keep h0 h [r0] ∧ Arv Z h r0 k_r0 .int (2 : Int32) [(.int (3 : Int32)), (.int (7 : Int32))] (.int (0 : Int32))
set_option maxRecDepth 65536 in
set_option maxHeartbeats 40000000 in
theorem rm_ins_1 (l : Launch) (Z : State) (a0 : Array Value) (hw : ∀ d ∈ tables_1, d.before a0 Z = true) (ws : List Jvm.Cond) (r0 : Addr) (k_r0 : ClassId) (h0 : Heap) (n0 : Nat) (Z0 : n0 ≤ h0.size) (V_r0 : Arv Z h0 r0 k_r0 .int (2 : Int32) [(.int (7 : Int32)), (.int (3 : Int32))] (.int (0 : Int32))) (g_r0 : n0 ≤ r0) :
    MetFree l (⟨"java/util/DualPivotQuicksort", "insertionSort", "([III)V"⟩ : MethodName) (head1 (Jvm.Cond.code (⟨"java/util/DualPivotQuicksort", "insertionSort", "([III)V"⟩ : MethodName) jdk_2529_method_6_code 6 none :: ws) Rrm_ins_1) (fun a U => a = #[(.ref r0), (.int (0 : Int32)), (.int (2 : Int32))] ∧ Z.Warmed39 U.vm ∧ U.heap = h0) (fun _ _ _ _ _ => True) (fun _ U o U' => ∃ v L, o = .returned v ∧ Q_ins_1 Z r0 k_r0 h0 n0 v U'.heap L ∧ FrameEnd U o U' L Rrm_ins_1.cells Rrm_ins_1.slots) := by
  refine MetFree.of_bodySF (plainFor_of_name pn_0) hisR ?_
  intro p e s m args below meth c s₁ Bd hml0 hP hK
  obtain ⟨rfl, hZ, hh⟩ := hP
  have hx := Bd.exec
  have hby := Bd.bytes
  have hml : c.maxLocals = 6 := hml0
  have hown : s.vm.findClass "java/util/DualPivotQuicksort" = some m.cls := findClass_of_methodNamed Bd.named
  have hnm := (name_of_methodNamed Bd.named Bd.method).1
  have X0 : Stand p l e Rrm_ins_1 s m #[(.ref r0), (.int (0 : Int32)), (.int (2 : Int32))] below meth c s₁ [] 0 0 := Stand.of_body Bd
  have e0 : s₁.heap = h0 := by rw [← hh, Bd.state]; rfl
  have N0 := Fr.nil n0
  have W := @own_W a0 Z hw
  have pre0 : ∀ t, Steps p.tables e below (s₁.setTop (mkF m 0 #[.val (.ref r0), .val (.int (0 : Int32)), .val (.int (2 : Int32)), .unset, .unset, .unset] [])) t → Steps p.tables e below (s₁.setTop (entryFrame m #[(.ref r0), (.int (0 : Int32)), (.int (2 : Int32))] 6)) t := fun t k => castTop (ef_rm_ins_1 m r0) k
  obtain ⟨cl_r0_1, Ar_r0_1, q_r0_1, S_r0_1, N_r0_1, H_r0_1, G_r0_1⟩ := id V_r0
  have Al_r0_1 := State.isArrayOf_alike hZ.alike Ar_r0_1.2.1
  have hin_r0_1_1 : ¬ ((1 : Int32) < 0 ∨ cl_r0_1.slots.size ≤ ((1 : Int32)).toNatClampNeg) := inb_of S_r0_1 ⟨by decide, by decide⟩
  have hat_r0_1_1 : cl_r0_1.slots[((1 : Int32)).toNatClampNeg]? = some (.int (3 : Int32)) := H_r0_1 _ (by rw [S_r0_1]; decide)
  have hin_r0_1_0 : ¬ ((0 : Int32) < 0 ∨ cl_r0_1.slots.size ≤ ((0 : Int32)).toNatClampNeg) := inb_of S_r0_1 ⟨by decide, by decide⟩
  have hat_r0_1_0 : cl_r0_1.slots[((0 : Int32)).toNatClampNeg]? = some (.int (7 : Int32)) := H_r0_1 _ (by rw [S_r0_1]; decide)
  obtain ⟨cl_r0_53_2, Ar_r0_53_2, q_r0_53_2, S_r0_53_2, N_r0_53_2, H_r0_53_2, G_r0_53_2⟩ := id V_r0
  have hin_r0_53_2 : ¬ ((1 : Int32) < 0 ∨ cl_r0_53_2.slots.size ≤ ((1 : Int32)).toNatClampNeg) := inb_of S_r0_53_2 ⟨by decide, by decide⟩
  obtain ⟨T3, h3, X3, e3, W3, st3⟩ := stI X0 hx hZ e0 Ar_r0_53_2 (j := (1 : Int32)) hin_r0_53_2 (g := (mkF m 53 #[.val (.ref r0), .val (.int (0 : Int32)), .val (.int (2 : Int32)), .val (.int (0 : Int32)), .val (.int (1 : Int32)), .val (.int (3 : Int32))] [(.int (7 : Int32)), (.int (1 : Int32)), (.ref r0)])) rfl rfl (hb hby d7_53)
  have V_r0_3 := Arv.set Ar_r0_53_2 q_r0_53_2 S_r0_53_2 N_r0_53_2 H_r0_53_2 G_r0_53_2 rfl W3 1 rfl (Nat.le_of_ble_eq_true rfl)
  have N3 := Fr.snoc X3 N0 g_r0
  obtain ⟨LL3, X3, N3⟩ := own_hide X3 N3
  obtain ⟨cl_r0_63_4, Ar_r0_63_4, q_r0_63_4, S_r0_63_4, N_r0_63_4, H_r0_63_4, G_r0_63_4⟩ := id V_r0_3
  have hin_r0_63_4 : ¬ ((0 : Int32) < 0 ∨ cl_r0_63_4.slots.size ≤ ((0 : Int32)).toNatClampNeg) := inb_of S_r0_63_4 ⟨by decide, by decide⟩
  obtain ⟨T5, h5, X5, e5, W5, st5⟩ := stI X3 hx hZ e3 Ar_r0_63_4 (j := (0 : Int32)) hin_r0_63_4 (g := (mkF m 63 #[.val (.ref r0), .val (.int (0 : Int32)), .val (.int (2 : Int32)), .val (.int (-1 : Int32)), .val (.int (1 : Int32)), .val (.int (3 : Int32))] [(.int (3 : Int32)), (.int (0 : Int32)), (.ref r0)])) rfl rfl (hb hby d7_63)
  have V_r0_5 := Arv.set Ar_r0_63_4 q_r0_63_4 S_r0_63_4 N_r0_63_4 H_r0_63_4 G_r0_63_4 rfl W5 0 rfl (Nat.le_of_ble_eq_true rfl)
  have N5 := Fr.snoc X5 N3 g_r0
  obtain ⟨LL5, X5, N5⟩ := own_hide X5 N5
  have KK6 : Keep h0 h5 [r0] := (((Keep.refl h0 [r0]).wr W3 (Or.inl (List.mem_of_getElem? (i := 0) rfl))).wr W5 (Or.inl (List.mem_of_getElem? (i := 0) rfl)))
  obtain ⟨fs, hr, hrun, hended, hW, hsame⟩ := X5.leave (v := none) (fun _ => rfl)
  refine ⟨_, _, pre0 _ ?_, hrun, hended, _, _, rfl, ?_, ⟨_, rfl⟩, hW, hsame.mono (by decide) (by decide)⟩
  · show Steps p.tables e below (s₁.setTop (mkF m 0 #[.val (.ref r0), .val (.int (0 : Int32)), .val (.int (2 : Int32)), .unset, .unset, .unset] [])) _
    refine XS.iloadN X0.here hx rfl (hb hby d7_0) rfl ?_
    refine XS.istore X0.here hx rfl (hb hby d7_1) rfl (l' := #[.val (.ref r0), .val (.int (0 : Int32)), .val (.int (2 : Int32)), .unset, .val (.int (0 : Int32)), .unset]) rfl ?_
    refine XS.iinc X0.here hx rfl (hb hby d7_3) rfl (l' := #[.val (.ref r0), .val (.int (0 : Int32)), .val (.int (2 : Int32)), .unset, .val (.int ((0 : Int32) + (1 : Int32))), .unset]) rfl ?_
    show Steps p.tables e below (s₁.setTop (mkF m 6 #[.val (.ref r0), .val (.int (0 : Int32)), .val (.int (2 : Int32)), .unset, .val (.int ((0 : Int32) + (1 : Int32))), .unset] [])) _
    rw [show ((0 : Int32) + (1 : Int32)) = (1 : Int32) from (by decide)]
    refine XS.iload X0.here hx rfl (hb hby d7_6) rfl ?_
    refine XS.iloadN X0.here hx rfl (hb hby d7_8) rfl ?_
    refine XS.icmpNo X0.here hx rfl (hb hby d7_9) rfl (tlt (by decide : (1 : Int32) < (2 : Int32))).2.1 ?_
    refine XS.aloadN X0.here hx rfl (hb hby d7_12) rfl rfl ?_
    refine XS.iload X0.here hx rfl (hb hby d7_13) rfl ?_
    refine XS.dup X0.here hx rfl (hb hby d7_15) rfl rfl ?_
    refine XS.istoreN X0.here hx rfl (hb hby d7_16) rfl (l' := #[.val (.ref r0), .val (.int (0 : Int32)), .val (.int (2 : Int32)), .val (.int (1 : Int32)), .val (.int (1 : Int32)), .unset]) rfl ?_
    refine X0.iaload hx (j := (1 : Int32)) (v := (.int (3 : Int32))) (by rw [e0]; exact Ar_r0_1.1) Al_r0_1 Ar_r0_1.2.2 hin_r0_1_1 hat_r0_1_1 (g := (mkF m 17 #[.val (.ref r0), .val (.int (0 : Int32)), .val (.int (2 : Int32)), .val (.int (1 : Int32)), .val (.int (1 : Int32)), .unset] [(.int (1 : Int32)), (.ref r0)])) rfl rfl (hb hby d7_17) _ ?_
    refine XS.istore X0.here hx rfl (hb hby d7_18) rfl (l' := #[.val (.ref r0), .val (.int (0 : Int32)), .val (.int (2 : Int32)), .val (.int (1 : Int32)), .val (.int (1 : Int32)), .val (.int (3 : Int32))]) rfl ?_
    refine XS.iload X0.here hx rfl (hb hby d7_20) rfl ?_
    refine XS.aloadN X0.here hx rfl (hb hby d7_22) rfl rfl ?_
    refine XS.iloadN X0.here hx rfl (hb hby d7_23) rfl ?_
    refine XS.iconst X0.here hx rfl (hb hby d7_24) ?_
    refine XS.isub X0.here hx rfl (hb hby d7_25) rfl ?_
    show Steps p.tables e below (s₁.setTop (mkF m 26 #[.val (.ref r0), .val (.int (0 : Int32)), .val (.int (2 : Int32)), .val (.int (1 : Int32)), .val (.int (1 : Int32)), .val (.int (3 : Int32))] [(.int ((1 : Int32) - (1 : Int32))), (.ref r0), (.int (3 : Int32))])) _
    rw [show ((1 : Int32) - (1 : Int32)) = (0 : Int32) from (by decide)]
    refine X0.iaload hx (j := (0 : Int32)) (v := (.int (7 : Int32))) (by rw [e0]; exact Ar_r0_1.1) Al_r0_1 Ar_r0_1.2.2 hin_r0_1_0 hat_r0_1_0 (g := (mkF m 26 #[.val (.ref r0), .val (.int (0 : Int32)), .val (.int (2 : Int32)), .val (.int (1 : Int32)), .val (.int (1 : Int32)), .val (.int (3 : Int32))] [(.int (0 : Int32)), (.ref r0), (.int (3 : Int32))])) rfl rfl (hb hby d7_26) _ ?_
    refine XS.icmpNo X0.here hx rfl (hb hby d7_27) rfl (tlt (by decide : (3 : Int32) < (7 : Int32))).2.1 ?_
    refine XS.iinc X0.here hx rfl (hb hby d7_30) rfl (l' := #[.val (.ref r0), .val (.int (0 : Int32)), .val (.int (2 : Int32)), .val (.int ((1 : Int32) + (-1 : Int32))), .val (.int (1 : Int32)), .val (.int (3 : Int32))]) rfl ?_
    show Steps p.tables e below (s₁.setTop (mkF m 33 #[.val (.ref r0), .val (.int (0 : Int32)), .val (.int (2 : Int32)), .val (.int ((1 : Int32) + (-1 : Int32))), .val (.int (1 : Int32)), .val (.int (3 : Int32))] [])) _
    rw [show ((1 : Int32) + (-1 : Int32)) = (0 : Int32) from (by decide)]
    refine XS.iloadN X0.here hx rfl (hb hby d7_33) rfl ?_
    refine XS.iloadN X0.here hx rfl (hb hby d7_34) rfl ?_
    refine XS.icmpNo X0.here hx rfl (hb hby d7_35) rfl (flt (by decide : ¬ ((0 : Int32) < (0 : Int32)))).1 ?_
    refine XS.iload X0.here hx rfl (hb hby d7_38) rfl ?_
    refine XS.aloadN X0.here hx rfl (hb hby d7_40) rfl rfl ?_
    refine XS.iloadN X0.here hx rfl (hb hby d7_41) rfl ?_
    refine X0.iaload hx (j := (0 : Int32)) (v := (.int (7 : Int32))) (by rw [e0]; exact Ar_r0_1.1) Al_r0_1 Ar_r0_1.2.2 hin_r0_1_0 hat_r0_1_0 (g := (mkF m 42 #[.val (.ref r0), .val (.int (0 : Int32)), .val (.int (2 : Int32)), .val (.int (0 : Int32)), .val (.int (1 : Int32)), .val (.int (3 : Int32))] [(.int (0 : Int32)), (.ref r0), (.int (3 : Int32))])) rfl rfl (hb hby d7_42) _ ?_
    refine XS.icmpNo X0.here hx rfl (hb hby d7_43) rfl (tlt (by decide : (3 : Int32) < (7 : Int32))).2.1 ?_
    refine XS.aloadN X0.here hx rfl (hb hby d7_46) rfl rfl ?_
    refine XS.iloadN X0.here hx rfl (hb hby d7_47) rfl ?_
    refine XS.iconst X0.here hx rfl (hb hby d7_48) ?_
    refine XS.iadd X0.here hx rfl (hb hby d7_49) rfl ?_
    show Steps p.tables e below (s₁.setTop (mkF m 50 #[.val (.ref r0), .val (.int (0 : Int32)), .val (.int (2 : Int32)), .val (.int (0 : Int32)), .val (.int (1 : Int32)), .val (.int (3 : Int32))] [(.int ((0 : Int32) + (1 : Int32))), (.ref r0)])) _
    rw [show ((0 : Int32) + (1 : Int32)) = (1 : Int32) from (by decide)]
    refine XS.aloadN X0.here hx rfl (hb hby d7_50) rfl rfl ?_
    refine XS.iloadN X0.here hx rfl (hb hby d7_51) rfl ?_
    refine X0.iaload hx (j := (0 : Int32)) (v := (.int (7 : Int32))) (by rw [e0]; exact Ar_r0_1.1) Al_r0_1 Ar_r0_1.2.2 hin_r0_1_0 hat_r0_1_0 (g := (mkF m 52 #[.val (.ref r0), .val (.int (0 : Int32)), .val (.int (2 : Int32)), .val (.int (0 : Int32)), .val (.int (1 : Int32)), .val (.int (3 : Int32))] [(.int (0 : Int32)), (.ref r0), (.int (1 : Int32)), (.ref r0)])) rfl rfl (hb hby d7_52) _ ?_
    refine st3 _ ?_
    refine XS.goto X3.here hx rfl (pc0 := 54) (pc' := 30) rfl (hb hby d7_54) (by decide) (by decide) ?_
    refine XS.iinc X3.here hx rfl (hb hby d7_30) rfl (l' := #[.val (.ref r0), .val (.int (0 : Int32)), .val (.int (2 : Int32)), .val (.int ((0 : Int32) + (-1 : Int32))), .val (.int (1 : Int32)), .val (.int (3 : Int32))]) rfl ?_
    show Steps p.tables e below (T3.setTop (mkF m 33 #[.val (.ref r0), .val (.int (0 : Int32)), .val (.int (2 : Int32)), .val (.int ((0 : Int32) + (-1 : Int32))), .val (.int (1 : Int32)), .val (.int (3 : Int32))] [])) _
    rw [show ((0 : Int32) + (-1 : Int32)) = (-1 : Int32) from (by decide)]
    refine XS.iloadN X3.here hx rfl (hb hby d7_33) rfl ?_
    refine XS.iloadN X3.here hx rfl (hb hby d7_34) rfl ?_
    refine XS.icmpYes X3.here hx rfl (pc0 := 35) (pc' := 57) rfl (hb hby d7_35) rfl (tlt (by decide : (-1 : Int32) < (0 : Int32))).1 (by decide) (by decide) ?_
    refine XS.aloadN X3.here hx rfl (hb hby d7_57) rfl rfl ?_
    refine XS.iloadN X3.here hx rfl (hb hby d7_58) rfl ?_
    refine XS.iconst X3.here hx rfl (hb hby d7_59) ?_
    refine XS.iadd X3.here hx rfl (hb hby d7_60) rfl ?_
    show Steps p.tables e below (T3.setTop (mkF m 61 #[.val (.ref r0), .val (.int (0 : Int32)), .val (.int (2 : Int32)), .val (.int (-1 : Int32)), .val (.int (1 : Int32)), .val (.int (3 : Int32))] [(.int ((-1 : Int32) + (1 : Int32))), (.ref r0)])) _
    rw [show ((-1 : Int32) + (1 : Int32)) = (0 : Int32) from (by decide)]
    refine XS.iload X3.here hx rfl (hb hby d7_61) rfl ?_
    refine st5 _ ?_
    refine XS.goto X5.here hx rfl (pc0 := 64) (pc' := 3) rfl (hb hby d7_64) (by decide) (by decide) ?_
    refine XS.iinc X5.here hx rfl (hb hby d7_3) rfl (l' := #[.val (.ref r0), .val (.int (0 : Int32)), .val (.int (2 : Int32)), .val (.int (-1 : Int32)), .val (.int ((1 : Int32) + (1 : Int32))), .val (.int (3 : Int32))]) rfl ?_
    show Steps p.tables e below (T5.setTop (mkF m 6 #[.val (.ref r0), .val (.int (0 : Int32)), .val (.int (2 : Int32)), .val (.int (-1 : Int32)), .val (.int ((1 : Int32) + (1 : Int32))), .val (.int (3 : Int32))] [])) _
    rw [show ((1 : Int32) + (1 : Int32)) = (2 : Int32) from (by decide)]
    refine XS.iload X5.here hx rfl (hb hby d7_6) rfl ?_
    refine XS.iloadN X5.here hx rfl (hb hby d7_8) rfl ?_
    refine XS.icmpYes X5.here hx rfl (pc0 := 9) (pc' := 67) rfl (hb hby d7_9) rfl (flt (by decide : ¬ ((2 : Int32) < (2 : Int32)))).2.1 (by decide) (by decide) ?_
    show Steps p.tables e below (T5.setTop (mkF m 67 #[.val (.ref r0), .val (.int (0 : Int32)), .val (.int (2 : Int32)), .val (.int (-1 : Int32)), .val (.int (2 : Int32)), .val (.int (3 : Int32))] [])) _
    exact X5.returnOut hx Bd.returns (hb hby d7_67) hr
  · show Q_ins_1 Z r0 k_r0 h0 n0 _ T5.heap _
    rw [e5]
    exact ⟨rfl, N5, KK6, V_r0_5⟩
abbrev Rrm_srt6_1 : Room := ({ frames := 1, cells := 0, slots := 0, locals := 17 } : Room)
theorem ef_rm_srt6_1 (m : MethodId) (r1 : Addr) : entryFrame m #[.null, (.ref r1), (.int (0 : Int32)), (.int (0 : Int32)), (.int (2 : Int32))] 21 = mkF m 0 #[.val .null, .val (.ref r1), .val (.int (0 : Int32)), .val (.int (0 : Int32)), .val (.int (2 : Int32)), .unset, .unset, .unset, .unset, .unset, .unset, .unset, .unset, .unset, .unset, .unset, .unset, .unset, .unset, .unset, .unset] [] := by first | (simp [entryFrame, mkF, argsToLocals, Value.category]; done) | rfl
def Q_srt6_1 (Z : State) (r1 : Addr) (k_r1 : ClassId) (h0 : Heap) (n0 : Nat) (v : Option Value) (h : Heap) (L : List Loc) : Prop := v = none ∧ Fr n0 L ∧ Keep h0 h [r1] ∧ Arv Z h r1 k_r1 .int (2 : Int32) [(.int (3 : Int32)), (.int (7 : Int32))] (.int (0 : Int32))
set_option maxRecDepth 65536 in
set_option maxHeartbeats 40000000 in
theorem rm_srt6_1 (l : Launch) (Z : State) (a0 : Array Value) (hw : ∀ d ∈ tables_1, d.before a0 Z = true) (ws : List Jvm.Cond) (r1 : Addr) (k_r1 : ClassId) (h0 : Heap) (n0 : Nat) (Z0 : n0 ≤ h0.size) (V_r1 : Arv Z h0 r1 k_r1 .int (2 : Int32) [(.int (7 : Int32)), (.int (3 : Int32))] (.int (0 : Int32))) (g_r1 : n0 ≤ r1) :
    MetFree l (⟨"java/util/DualPivotQuicksort", "sort", "(Ljava/util/DualPivotQuicksort$Sorter;[IIII)V"⟩ : MethodName) (head1 (Jvm.Cond.code (⟨"java/util/DualPivotQuicksort", "sort", "(Ljava/util/DualPivotQuicksort$Sorter;[IIII)V"⟩ : MethodName) jdk_2529_method_4_code 21 none :: ws) Rrm_srt6_1) (fun a U => a = #[.null, (.ref r1), (.int (0 : Int32)), (.int (0 : Int32)), (.int (2 : Int32))] ∧ Z.Warmed39 U.vm ∧ U.heap = h0) (fun _ _ _ _ _ => True) (fun _ U o U' => ∃ v L, o = .returned v ∧ Q_srt6_1 Z r1 k_r1 h0 n0 v U'.heap L ∧ FrameEnd U o U' L Rrm_srt6_1.cells Rrm_srt6_1.slots) := by
  refine MetFree.of_bodySF (plainFor_of_name pn_0) hisR ?_
  intro p e s m args below meth c s₁ Bd hml0 hP hK
  obtain ⟨rfl, hZ, hh⟩ := hP
  have hx := Bd.exec
  have hby := Bd.bytes
  have hml : c.maxLocals = 21 := hml0
  have hown : s.vm.findClass "java/util/DualPivotQuicksort" = some m.cls := findClass_of_methodNamed Bd.named
  have hnm := (name_of_methodNamed Bd.named Bd.method).1
  have X0 : Stand p l e Rrm_srt6_1 s m #[.null, (.ref r1), (.int (0 : Int32)), (.int (0 : Int32)), (.int (2 : Int32))] below meth c s₁ [] 0 0 := Stand.of_body Bd
  have e0 : s₁.heap = h0 := by rw [← hh, Bd.state]; rfl
  have N0 := Fr.nil n0
  have W := @own_W a0 Z hw
  have pre0 : ∀ t, Steps p.tables e below (s₁.setTop (mkF m 0 #[.val .null, .val (.ref r1), .val (.int (0 : Int32)), .val (.int (0 : Int32)), .val (.int (2 : Int32)), .unset, .unset, .unset, .unset, .unset, .unset, .unset, .unset, .unset, .unset, .unset, .unset, .unset, .unset, .unset, .unset] [])) t → Steps p.tables e below (s₁.setTop (entryFrame m #[.null, (.ref r1), (.int (0 : Int32)), (.int (0 : Int32)), (.int (2 : Int32))] 21)) t := fun t k => castTop (ef_rm_srt6_1 m r1) k
  obtain ⟨_, _, ⟨T1, L1, k1, n1⟩, -, X1, ⟨Lc1, hQ1, l1, y1, z1⟩, st1⟩ := Jvm.LawKit.callS X0 hx (y := (⟨"java/util/DualPivotQuicksort", "insertionSort", "([III)V"⟩ : MethodName)) hown (mvT hZ (W 36 rfl)) (mvT hZ (W 37 rfl)) (mvT hZ (W 31 rfl)) (mvT hZ (W 38 rfl)) (by decide) (backOf (W := 0) (rm_ins_1 l Z a0 hw [] r1 k_r1 h0 n0 Z0 V_r1 g_r1) hZ (W 38 rfl) (W 31 rfl) (by decide) (by decide)) (g := (mkF m 57 #[.val .null, .val (.ref r1), .val (.int (0 : Int32)), .val (.int (0 : Int32)), .val (.int (2 : Int32)), .val (.int (1 : Int32)), .val (.int (2 : Int32)), .unset, .unset, .unset, .unset, .unset, .unset, .unset, .unset, .unset, .unset, .unset, .unset, .unset, .unset] [(.int (2 : Int32)), (.int (0 : Int32)), (.ref r1)])) rfl (by rw [hml]; rfl) (argsL := [(.ref r1), (.int (0 : Int32)), (.int (2 : Int32))]) (rest := []) (lenOf pd_0 rfl) rfl (own_le rfl) (hb hby d6_57) (fun _ _ => ⟨rfl, e0, (by decide : 0 + 0 ≤ _), (by decide : 0 + 0 ≤ _)⟩)
  dsimp only [Pt.U, Pt.locs, Pt.cells, Pt.slots] at X1 l1 y1 z1 st1 hQ1
  subst l1 y1 z1
  obtain ⟨rfl, N1q, K1, V1⟩ := hQ1
  have N1 := Fr.app N0 N1q
  obtain ⟨LL1, X1, N1⟩ := own_hide X1 N1
  have KK2 : Keep h0 T1.heap [r1] := ((Keep.refl h0 [r1]).trans K1 (own_in1 (Or.inl (List.mem_of_getElem? (i := 0) rfl))))
  obtain ⟨fs, hr, hrun, hended, hW, hsame⟩ := X1.leave (v := none) (fun _ => rfl)
  refine ⟨_, _, pre0 _ ?_, hrun, hended, _, _, rfl, ?_, ⟨_, rfl⟩, hW, hsame.mono (by decide) (by decide)⟩
  · show Steps p.tables e below (s₁.setTop (mkF m 0 #[.val .null, .val (.ref r1), .val (.int (0 : Int32)), .val (.int (0 : Int32)), .val (.int (2 : Int32)), .unset, .unset, .unset, .unset, .unset, .unset, .unset, .unset, .unset, .unset, .unset, .unset, .unset, .unset, .unset, .unset] [])) _
    refine XS.iload X0.here hx rfl (hb hby d6_0) rfl ?_
    refine XS.iconst X0.here hx rfl (hb hby d6_2) ?_
    refine XS.isub X0.here hx rfl (hb hby d6_3) rfl ?_
    show Steps p.tables e below (s₁.setTop (mkF m 4 #[.val .null, .val (.ref r1), .val (.int (0 : Int32)), .val (.int (0 : Int32)), .val (.int (2 : Int32)), .unset, .unset, .unset, .unset, .unset, .unset, .unset, .unset, .unset, .unset, .unset, .unset, .unset, .unset, .unset, .unset] [(.int ((2 : Int32) - (1 : Int32)))])) _
    rw [show ((2 : Int32) - (1 : Int32)) = (1 : Int32) from (by decide)]
    refine XS.istore X0.here hx rfl (hb hby d6_4) rfl (l' := #[.val .null, .val (.ref r1), .val (.int (0 : Int32)), .val (.int (0 : Int32)), .val (.int (2 : Int32)), .val (.int (1 : Int32)), .unset, .unset, .unset, .unset, .unset, .unset, .unset, .unset, .unset, .unset, .unset, .unset, .unset, .unset, .unset]) rfl ?_
    refine XS.iload X0.here hx rfl (hb hby d6_6) rfl ?_
    refine XS.iloadN X0.here hx rfl (hb hby d6_8) rfl ?_
    refine XS.isub X0.here hx rfl (hb hby d6_9) rfl ?_
    show Steps p.tables e below (s₁.setTop (mkF m 10 #[.val .null, .val (.ref r1), .val (.int (0 : Int32)), .val (.int (0 : Int32)), .val (.int (2 : Int32)), .val (.int (1 : Int32)), .unset, .unset, .unset, .unset, .unset, .unset, .unset, .unset, .unset, .unset, .unset, .unset, .unset, .unset, .unset] [(.int ((2 : Int32) - (0 : Int32)))])) _
    rw [show ((2 : Int32) - (0 : Int32)) = (2 : Int32) from (by decide)]
    refine XS.istore X0.here hx rfl (hb hby d6_10) rfl (l' := #[.val .null, .val (.ref r1), .val (.int (0 : Int32)), .val (.int (0 : Int32)), .val (.int (2 : Int32)), .val (.int (1 : Int32)), .val (.int (2 : Int32)), .unset, .unset, .unset, .unset, .unset, .unset, .unset, .unset, .unset, .unset, .unset, .unset, .unset, .unset]) rfl ?_
    refine XS.iload X0.here hx rfl (hb hby d6_12) rfl ?_
    refine XS.bipush X0.here hx rfl (hb hby d6_14) ?_
    refine XS.iloadN X0.here hx rfl (hb hby d6_16) rfl ?_
    refine XS.iadd X0.here hx rfl (hb hby d6_17) rfl ?_
    show Steps p.tables e below (s₁.setTop (mkF m 18 #[.val .null, .val (.ref r1), .val (.int (0 : Int32)), .val (.int (0 : Int32)), .val (.int (2 : Int32)), .val (.int (1 : Int32)), .val (.int (2 : Int32)), .unset, .unset, .unset, .unset, .unset, .unset, .unset, .unset, .unset, .unset, .unset, .unset, .unset, .unset] [(.int ((65 : Int32) + (0 : Int32))), (.int (2 : Int32))])) _
    rw [show ((65 : Int32) + (0 : Int32)) = (65 : Int32) from (by decide)]
    refine XS.icmpNo X0.here hx rfl (hb hby d6_18) rfl (tlt (by decide : (2 : Int32) < (65 : Int32))).2.1 ?_
    refine XS.iloadN X0.here hx rfl (hb hby d6_21) rfl ?_
    refine XS.iconst X0.here hx rfl (hb hby d6_22) ?_
    refine XS.iand X0.here hx rfl (hb hby d6_23) rfl ?_
    show Steps p.tables e below (s₁.setTop (mkF m 24 #[.val .null, .val (.ref r1), .val (.int (0 : Int32)), .val (.int (0 : Int32)), .val (.int (2 : Int32)), .val (.int (1 : Int32)), .val (.int (2 : Int32)), .unset, .unset, .unset, .unset, .unset, .unset, .unset, .unset, .unset, .unset, .unset, .unset, .unset, .unset] [(.int ((0 : Int32) &&& (1 : Int32)))])) _
    rw [show ((0 : Int32) &&& (1 : Int32)) = (0 : Int32) from (by decide)]
    refine XS.ifYes X0.here hx rfl (pc0 := 24) (pc' := 46) rfl (hb hby d6_24) rfl ((if0 _ _).trans (flt (by decide : ¬ ((0 : Int32) < (0 : Int32)))).2.2.2) (by decide) (by decide) ?_
    refine XS.iload X0.here hx rfl (hb hby d6_46) rfl ?_
    refine XS.bipush X0.here hx rfl (hb hby d6_48) ?_
    refine XS.icmpNo X0.here hx rfl (hb hby d6_50) rfl (tlt (by decide : (2 : Int32) < (44 : Int32))).2.1 ?_
    refine XS.aloadN X0.here hx rfl (hb hby d6_53) rfl rfl ?_
    refine XS.iloadN X0.here hx rfl (hb hby d6_54) rfl ?_
    refine XS.iload X0.here hx rfl (hb hby d6_55) rfl ?_
    refine st1 _ ?_
    show Steps p.tables e below (T1.setTop (mkF m 60 #[.val .null, .val (.ref r1), .val (.int (0 : Int32)), .val (.int (0 : Int32)), .val (.int (2 : Int32)), .val (.int (1 : Int32)), .val (.int (2 : Int32)), .unset, .unset, .unset, .unset, .unset, .unset, .unset, .unset, .unset, .unset, .unset, .unset, .unset, .unset] [])) _
    exact X1.returnOut hx Bd.returns (hb hby d6_60) hr
  · show Q_srt6_1 Z r1 k_r1 h0 n0 _ T1.heap _
    exact ⟨rfl, N1, KK2, V1⟩
abbrev Rrm_srt5_1 : Room := ({ frames := 2, cells := 0, slots := 0, locals := 49 } : Room)
theorem ef_rm_srt5_1 (m : MethodId) (r0 : Addr) : entryFrame m #[(.ref r0), (.int (0 : Int32)), (.int (0 : Int32)), (.int (2 : Int32))] 7 = mkF m 0 #[.val (.ref r0), .val (.int (0 : Int32)), .val (.int (0 : Int32)), .val (.int (2 : Int32)), .unset, .unset, .unset] [] := by first | (simp [entryFrame, mkF, argsToLocals, Value.category]; done) | rfl
def Q_srt5_1 (Z : State) (r0 : Addr) (k_r0 : ClassId) (h0 : Heap) (n0 : Nat) (v : Option Value) (h : Heap) (L : List Loc) : Prop := v = none ∧ Fr n0 L ∧ Keep h0 h [r0] ∧ Arv Z h r0 k_r0 .int (2 : Int32) [(.int (3 : Int32)), (.int (7 : Int32))] (.int (0 : Int32))
set_option maxRecDepth 65536 in
set_option maxHeartbeats 40000000 in
theorem rm_srt5_1 (l : Launch) (Z : State) (a0 : Array Value) (hw : ∀ d ∈ tables_1, d.before a0 Z = true) (ws : List Jvm.Cond) (r0 : Addr) (k_r0 : ClassId) (h0 : Heap) (n0 : Nat) (Z0 : n0 ≤ h0.size) (V_r0 : Arv Z h0 r0 k_r0 .int (2 : Int32) [(.int (7 : Int32)), (.int (3 : Int32))] (.int (0 : Int32))) (g_r0 : n0 ≤ r0) :
    MetFree l (⟨"java/util/DualPivotQuicksort", "sort", "([IIII)V"⟩ : MethodName) (head1 (Jvm.Cond.code (⟨"java/util/DualPivotQuicksort", "sort", "([IIII)V"⟩ : MethodName) jdk_2529_method_3_code 7 none :: ws) Rrm_srt5_1) (fun a U => a = #[(.ref r0), (.int (0 : Int32)), (.int (0 : Int32)), (.int (2 : Int32))] ∧ Z.Warmed39 U.vm ∧ U.heap = h0) (fun _ _ _ _ _ => True) (fun _ U o U' => ∃ v L, o = .returned v ∧ Q_srt5_1 Z r0 k_r0 h0 n0 v U'.heap L ∧ FrameEnd U o U' L Rrm_srt5_1.cells Rrm_srt5_1.slots) := by
  refine MetFree.of_bodySF (plainFor_of_name pn_0) hisR ?_
  intro p e s m args below meth c s₁ Bd hml0 hP hK
  obtain ⟨rfl, hZ, hh⟩ := hP
  have hx := Bd.exec
  have hby := Bd.bytes
  have hml : c.maxLocals = 7 := hml0
  have hown : s.vm.findClass "java/util/DualPivotQuicksort" = some m.cls := findClass_of_methodNamed Bd.named
  have hnm := (name_of_methodNamed Bd.named Bd.method).1
  have X0 : Stand p l e Rrm_srt5_1 s m #[(.ref r0), (.int (0 : Int32)), (.int (0 : Int32)), (.int (2 : Int32))] below meth c s₁ [] 0 0 := Stand.of_body Bd
  have e0 : s₁.heap = h0 := by rw [← hh, Bd.state]; rfl
  have N0 := Fr.nil n0
  have W := @own_W a0 Z hw
  have pre0 : ∀ t, Steps p.tables e below (s₁.setTop (mkF m 0 #[.val (.ref r0), .val (.int (0 : Int32)), .val (.int (0 : Int32)), .val (.int (2 : Int32)), .unset, .unset, .unset] [])) t → Steps p.tables e below (s₁.setTop (entryFrame m #[(.ref r0), (.int (0 : Int32)), (.int (0 : Int32)), (.int (2 : Int32))] 7)) t := fun t k => castTop (ef_rm_srt5_1 m r0) k
  obtain ⟨_, _, ⟨T1, L1, k1, n1⟩, -, X1, ⟨Lc1, hQ1, l1, y1, z1⟩, st1⟩ := Jvm.LawKit.callS X0 hx (y := (⟨"java/util/DualPivotQuicksort", "sort", "(Ljava/util/DualPivotQuicksort$Sorter;[IIII)V"⟩ : MethodName)) hown (mvT hZ (W 33 rfl)) (mvT hZ (W 34 rfl)) (mvT hZ (W 31 rfl)) (mvT hZ (W 35 rfl)) (by decide) (backOf (W := 0) (rm_srt6_1 l Z a0 hw [] r0 k_r0 h0 n0 Z0 V_r0 g_r0) hZ (W 35 rfl) (W 31 rfl) (by decide) (by decide)) (g := (mkF m 73 #[.val (.ref r0), .val (.int (0 : Int32)), .val (.int (0 : Int32)), .val (.int (2 : Int32)), .val (.int (2 : Int32)), .unset, .unset] [(.int (2 : Int32)), (.int (0 : Int32)), (.int (0 : Int32)), (.ref r0), .null])) rfl (by rw [hml]; rfl) (argsL := [.null, (.ref r0), (.int (0 : Int32)), (.int (0 : Int32)), (.int (2 : Int32))]) (rest := []) (lenOf pd_1 rfl) rfl (own_le rfl) (hb hby d5_73) (fun _ _ => ⟨rfl, e0, (by decide : 0 + 0 ≤ _), (by decide : 0 + 0 ≤ _)⟩)
  dsimp only [Pt.U, Pt.locs, Pt.cells, Pt.slots] at X1 l1 y1 z1 st1 hQ1
  subst l1 y1 z1
  obtain ⟨rfl, N1q, K1, V1⟩ := hQ1
  have N1 := Fr.app N0 N1q
  obtain ⟨LL1, X1, N1⟩ := own_hide X1 N1
  have KK2 : Keep h0 T1.heap [r0] := ((Keep.refl h0 [r0]).trans K1 (own_in1 (Or.inl (List.mem_of_getElem? (i := 0) rfl))))
  obtain ⟨fs, hr, hrun, hended, hW, hsame⟩ := X1.leave (v := none) (fun _ => rfl)
  refine ⟨_, _, pre0 _ ?_, hrun, hended, _, _, rfl, ?_, ⟨_, rfl⟩, hW, hsame.mono (by decide) (by decide)⟩
  · show Steps p.tables e below (s₁.setTop (mkF m 0 #[.val (.ref r0), .val (.int (0 : Int32)), .val (.int (0 : Int32)), .val (.int (2 : Int32)), .unset, .unset, .unset] [])) _
    refine XS.iloadN X0.here hx rfl (hb hby d5_0) rfl ?_
    refine XS.iloadN X0.here hx rfl (hb hby d5_1) rfl ?_
    refine XS.isub X0.here hx rfl (hb hby d5_2) rfl ?_
    show Steps p.tables e below (s₁.setTop (mkF m 3 #[.val (.ref r0), .val (.int (0 : Int32)), .val (.int (0 : Int32)), .val (.int (2 : Int32)), .unset, .unset, .unset] [(.int ((2 : Int32) - (0 : Int32)))])) _
    rw [show ((2 : Int32) - (0 : Int32)) = (2 : Int32) from (by decide)]
    refine XS.istore X0.here hx rfl (hb hby d5_3) rfl (l' := #[.val (.ref r0), .val (.int (0 : Int32)), .val (.int (0 : Int32)), .val (.int (2 : Int32)), .val (.int (2 : Int32)), .unset, .unset]) rfl ?_
    refine XS.iloadN X0.here hx rfl (hb hby d5_5) rfl ?_
    refine XS.iconst X0.here hx rfl (hb hby d5_6) ?_
    refine XS.icmpYes X0.here hx rfl (pc0 := 7) (pc' := 68) rfl (hb hby d5_7) rfl (flt (by decide : ¬ ((1 : Int32) < (0 : Int32)))).2.2.2 (by decide) (by decide) ?_
    refine XS.aconstNull X0.here hx rfl (hb hby d5_68) ?_
    refine XS.aloadN X0.here hx rfl (hb hby d5_69) rfl rfl ?_
    refine XS.iconst X0.here hx rfl (hb hby d5_70) ?_
    refine XS.iloadN X0.here hx rfl (hb hby d5_71) rfl ?_
    refine XS.iloadN X0.here hx rfl (hb hby d5_72) rfl ?_
    refine st1 _ ?_
    show Steps p.tables e below (T1.setTop (mkF m 76 #[.val (.ref r0), .val (.int (0 : Int32)), .val (.int (0 : Int32)), .val (.int (2 : Int32)), .val (.int (2 : Int32)), .unset, .unset] [])) _
    exact X1.returnOut hx Bd.returns (hb hby d5_76) hr
  · show Q_srt5_1 Z r0 k_r0 h0 n0 _ T1.heap _
    exact ⟨rfl, N1, KK2, V1⟩
abbrev Rrm_srt4_1 : Room := ({ frames := 3, cells := 0, slots := 0, locals := 67 } : Room)
theorem ef_rm_srt4_1 (m : MethodId) (r0 : Addr) : entryFrame m #[(.ref r0)] 1 = mkF m 0 #[.val (.ref r0)] [] := by first | (simp [entryFrame, mkF, argsToLocals, Value.category]; done) | rfl
def Q_srt4_1 (Z : State) (r0 : Addr) (k_r0 : ClassId) (h0 : Heap) (n0 : Nat) (v : Option Value) (h : Heap) (L : List Loc) : Prop := v = none ∧ Fr n0 L ∧ Keep h0 h [r0] ∧ Arv Z h r0 k_r0 .int (2 : Int32) [(.int (3 : Int32)), (.int (7 : Int32))] (.int (0 : Int32))
set_option maxRecDepth 65536 in
set_option maxHeartbeats 40000000 in
theorem rm_srt4_1 (l : Launch) (Z : State) (a0 : Array Value) (hw : ∀ d ∈ tables_1, d.before a0 Z = true) (ws : List Jvm.Cond) (r0 : Addr) (k_r0 : ClassId) (h0 : Heap) (n0 : Nat) (Z0 : n0 ≤ h0.size) (V_r0 : Arv Z h0 r0 k_r0 .int (2 : Int32) [(.int (7 : Int32)), (.int (3 : Int32))] (.int (0 : Int32))) (g_r0 : n0 ≤ r0) :
    MetFree l (⟨"java/util/Arrays", "sort", "([I)V"⟩ : MethodName) (head1 (Jvm.Cond.code (⟨"java/util/Arrays", "sort", "([I)V"⟩ : MethodName) jdk_65_method_2_code 1 none :: ws) Rrm_srt4_1) (fun a U => a = #[(.ref r0)] ∧ Z.Warmed39 U.vm ∧ U.heap = h0) (fun _ _ _ _ _ => True) (fun _ U o U' => ∃ v L, o = .returned v ∧ Q_srt4_1 Z r0 k_r0 h0 n0 v U'.heap L ∧ FrameEnd U o U' L Rrm_srt4_1.cells Rrm_srt4_1.slots) := by
  refine MetFree.of_bodySF (plainFor_of_name pn_1) hisR ?_
  intro p e s m args below meth c s₁ Bd hml0 hP hK
  obtain ⟨rfl, hZ, hh⟩ := hP
  have hx := Bd.exec
  have hby := Bd.bytes
  have hml : c.maxLocals = 1 := hml0
  have hown : s.vm.findClass "java/util/Arrays" = some m.cls := findClass_of_methodNamed Bd.named
  have hnm := (name_of_methodNamed Bd.named Bd.method).1
  have X0 : Stand p l e Rrm_srt4_1 s m #[(.ref r0)] below meth c s₁ [] 0 0 := Stand.of_body Bd
  have e0 : s₁.heap = h0 := by rw [← hh, Bd.state]; rfl
  have N0 := Fr.nil n0
  have W := @own_W a0 Z hw
  have pre0 : ∀ t, Steps p.tables e below (s₁.setTop (mkF m 0 #[.val (.ref r0)] [])) t → Steps p.tables e below (s₁.setTop (entryFrame m #[(.ref r0)] 1)) t := fun t k => castTop (ef_rm_srt4_1 m r0) k
  obtain ⟨cl_r0_1, Ar_r0_1, q_r0_1, S_r0_1, N_r0_1, H_r0_1, G_r0_1⟩ := id V_r0
  have Al_r0_1 := State.isArrayOf_alike hZ.alike Ar_r0_1.2.1
  obtain ⟨_, _, ⟨T2, L2, k2, n2⟩, -, X2, ⟨Lc2, hQ2, l2, y2, z2⟩, st2⟩ := Jvm.LawKit.callS X0 hx (y := (⟨"java/util/DualPivotQuicksort", "sort", "([IIII)V"⟩ : MethodName)) hown (mvT hZ (W 29 rfl)) (mvT hZ (W 30 rfl)) (mvT hZ (W 31 rfl)) (mvT hZ (W 32 rfl)) (by decide) (backOf (W := 0) (rm_srt5_1 l Z a0 hw [] r0 k_r0 h0 n0 Z0 V_r0 g_r0) hZ (W 32 rfl) (W 31 rfl) (by decide) (by decide)) (g := (mkF m 5 #[.val (.ref r0)] [(.int (2 : Int32)), (.int (0 : Int32)), (.int (0 : Int32)), (.ref r0)])) rfl (by rw [hml]; rfl) (argsL := [(.ref r0), (.int (0 : Int32)), (.int (0 : Int32)), (.int (2 : Int32))]) (rest := []) (lenOf pd_2 rfl) rfl (own_le rfl) (hb hby d4_5) (fun _ _ => ⟨rfl, e0, (by decide : 0 + 0 ≤ _), (by decide : 0 + 0 ≤ _)⟩)
  dsimp only [Pt.U, Pt.locs, Pt.cells, Pt.slots] at X2 l2 y2 z2 st2 hQ2
  subst l2 y2 z2
  obtain ⟨rfl, N2q, K2, V2⟩ := hQ2
  have N2 := Fr.app N0 N2q
  obtain ⟨LL2, X2, N2⟩ := own_hide X2 N2
  have KK3 : Keep h0 T2.heap [r0] := ((Keep.refl h0 [r0]).trans K2 (own_in1 (Or.inl (List.mem_of_getElem? (i := 0) rfl))))
  obtain ⟨fs, hr, hrun, hended, hW, hsame⟩ := X2.leave (v := none) (fun _ => rfl)
  refine ⟨_, _, pre0 _ ?_, hrun, hended, _, _, rfl, ?_, ⟨_, rfl⟩, hW, hsame.mono (by decide) (by decide)⟩
  · show Steps p.tables e below (s₁.setTop (mkF m 0 #[.val (.ref r0)] [])) _
    refine XS.aloadN X0.here hx rfl (hb hby d4_0) rfl rfl ?_
    refine XS.iconst X0.here hx rfl (hb hby d4_1) ?_
    refine XS.iconst X0.here hx rfl (hb hby d4_2) ?_
    refine XS.aloadN X0.here hx rfl (hb hby d4_3) rfl rfl ?_
    refine X0.arraylength hx (by rw [e0]; exact Ar_r0_1.1) Al_r0_1 (g := (mkF m 4 #[.val (.ref r0)] [(.ref r0), (.int (0 : Int32)), (.int (0 : Int32)), (.ref r0)])) rfl rfl (hb hby d4_4) _ ?_
    rw [len_of S_r0_1 N_r0_1]
    refine st2 _ ?_
    show Steps p.tables e below (T2.setTop (mkF m 8 #[.val (.ref r0)] [])) _
    exact X2.returnOut hx Bd.returns (hb hby d4_8) hr
  · show Q_srt4_1 Z r0 k_r0 h0 n0 _ T2.heap _
    exact ⟨rfl, N2, KK3, V2⟩
abbrev Rrm_ins_2 : Room := ({ frames := 0, cells := 0, slots := 0, locals := 0 } : Room)
theorem ef_rm_ins_2 (m : MethodId) (r0 : Addr) : entryFrame m #[(.ref r0), (.int (0 : Int32)), (.int (3 : Int32))] 6 = mkF m 0 #[.val (.ref r0), .val (.int (0 : Int32)), .val (.int (3 : Int32)), .unset, .unset, .unset] [] := by first | (simp [entryFrame, mkF, argsToLocals, Value.category]; done) | rfl
def Q_ins_2 (Z : State) (r0 : Addr) (k_r0 : ClassId) (h0 : Heap) (n0 : Nat) (v : Option Value) (h : Heap) (L : List Loc) : Prop := v = none ∧ Fr n0 L ∧ Keep h0 h [r0] ∧ Arv Z h r0 k_r0 .int (3 : Int32) [(.int (0 : Int32)), (.int (1 : Int32)), (.int (2 : Int32))] (.int (0 : Int32))
set_option maxRecDepth 65536 in
set_option maxHeartbeats 40000000 in
theorem rm_ins_2 (l : Launch) (Z : State) (a0 : Array Value) (hw : ∀ d ∈ tables_1, d.before a0 Z = true) (ws : List Jvm.Cond) (r0 : Addr) (k_r0 : ClassId) (h0 : Heap) (n0 : Nat) (Z0 : n0 ≤ h0.size) (V_r0 : Arv Z h0 r0 k_r0 .int (3 : Int32) [(.int (1 : Int32)), (.int (0 : Int32)), (.int (2 : Int32))] (.int (0 : Int32))) (g_r0 : n0 ≤ r0) :
    MetFree l (⟨"java/util/DualPivotQuicksort", "insertionSort", "([III)V"⟩ : MethodName) (head1 (Jvm.Cond.code (⟨"java/util/DualPivotQuicksort", "insertionSort", "([III)V"⟩ : MethodName) jdk_2529_method_6_code 6 none :: ws) Rrm_ins_2) (fun a U => a = #[(.ref r0), (.int (0 : Int32)), (.int (3 : Int32))] ∧ Z.Warmed39 U.vm ∧ U.heap = h0) (fun _ _ _ _ _ => True) (fun _ U o U' => ∃ v L, o = .returned v ∧ Q_ins_2 Z r0 k_r0 h0 n0 v U'.heap L ∧ FrameEnd U o U' L Rrm_ins_2.cells Rrm_ins_2.slots) := by
  refine MetFree.of_bodySF (plainFor_of_name pn_0) hisR ?_
  intro p e s m args below meth c s₁ Bd hml0 hP hK
  obtain ⟨rfl, hZ, hh⟩ := hP
  have hx := Bd.exec
  have hby := Bd.bytes
  have hml : c.maxLocals = 6 := hml0
  have hown : s.vm.findClass "java/util/DualPivotQuicksort" = some m.cls := findClass_of_methodNamed Bd.named
  have hnm := (name_of_methodNamed Bd.named Bd.method).1
  have X0 : Stand p l e Rrm_ins_2 s m #[(.ref r0), (.int (0 : Int32)), (.int (3 : Int32))] below meth c s₁ [] 0 0 := Stand.of_body Bd
  have e0 : s₁.heap = h0 := by rw [← hh, Bd.state]; rfl
  have N0 := Fr.nil n0
  have W := @own_W a0 Z hw
  have pre0 : ∀ t, Steps p.tables e below (s₁.setTop (mkF m 0 #[.val (.ref r0), .val (.int (0 : Int32)), .val (.int (3 : Int32)), .unset, .unset, .unset] [])) t → Steps p.tables e below (s₁.setTop (entryFrame m #[(.ref r0), (.int (0 : Int32)), (.int (3 : Int32))] 6)) t := fun t k => castTop (ef_rm_ins_2 m r0) k
  obtain ⟨cl_r0_1, Ar_r0_1, q_r0_1, S_r0_1, N_r0_1, H_r0_1, G_r0_1⟩ := id V_r0
  have Al_r0_1 := State.isArrayOf_alike hZ.alike Ar_r0_1.2.1
  have hin_r0_1_1 : ¬ ((1 : Int32) < 0 ∨ cl_r0_1.slots.size ≤ ((1 : Int32)).toNatClampNeg) := inb_of S_r0_1 ⟨by decide, by decide⟩
  have hat_r0_1_1 : cl_r0_1.slots[((1 : Int32)).toNatClampNeg]? = some (.int (0 : Int32)) := H_r0_1 _ (by rw [S_r0_1]; decide)
  have hin_r0_1_0 : ¬ ((0 : Int32) < 0 ∨ cl_r0_1.slots.size ≤ ((0 : Int32)).toNatClampNeg) := inb_of S_r0_1 ⟨by decide, by decide⟩
  have hat_r0_1_0 : cl_r0_1.slots[((0 : Int32)).toNatClampNeg]? = some (.int (1 : Int32)) := H_r0_1 _ (by rw [S_r0_1]; decide)
  obtain ⟨cl_r0_53_2, Ar_r0_53_2, q_r0_53_2, S_r0_53_2, N_r0_53_2, H_r0_53_2, G_r0_53_2⟩ := id V_r0
  have hin_r0_53_2 : ¬ ((1 : Int32) < 0 ∨ cl_r0_53_2.slots.size ≤ ((1 : Int32)).toNatClampNeg) := inb_of S_r0_53_2 ⟨by decide, by decide⟩
  obtain ⟨T3, h3, X3, e3, W3, st3⟩ := stI X0 hx hZ e0 Ar_r0_53_2 (j := (1 : Int32)) hin_r0_53_2 (g := (mkF m 53 #[.val (.ref r0), .val (.int (0 : Int32)), .val (.int (3 : Int32)), .val (.int (0 : Int32)), .val (.int (1 : Int32)), .val (.int (0 : Int32))] [(.int (1 : Int32)), (.int (1 : Int32)), (.ref r0)])) rfl rfl (hb hby d7_53)
  have V_r0_3 := Arv.set Ar_r0_53_2 q_r0_53_2 S_r0_53_2 N_r0_53_2 H_r0_53_2 G_r0_53_2 rfl W3 1 rfl (Nat.le_of_ble_eq_true rfl)
  have N3 := Fr.snoc X3 N0 g_r0
  obtain ⟨LL3, X3, N3⟩ := own_hide X3 N3
  obtain ⟨cl_r0_63_4, Ar_r0_63_4, q_r0_63_4, S_r0_63_4, N_r0_63_4, H_r0_63_4, G_r0_63_4⟩ := id V_r0_3
  have hin_r0_63_4 : ¬ ((0 : Int32) < 0 ∨ cl_r0_63_4.slots.size ≤ ((0 : Int32)).toNatClampNeg) := inb_of S_r0_63_4 ⟨by decide, by decide⟩
  obtain ⟨T5, h5, X5, e5, W5, st5⟩ := stI X3 hx hZ e3 Ar_r0_63_4 (j := (0 : Int32)) hin_r0_63_4 (g := (mkF m 63 #[.val (.ref r0), .val (.int (0 : Int32)), .val (.int (3 : Int32)), .val (.int (-1 : Int32)), .val (.int (1 : Int32)), .val (.int (0 : Int32))] [(.int (0 : Int32)), (.int (0 : Int32)), (.ref r0)])) rfl rfl (hb hby d7_63)
  have V_r0_5 := Arv.set Ar_r0_63_4 q_r0_63_4 S_r0_63_4 N_r0_63_4 H_r0_63_4 G_r0_63_4 rfl W5 0 rfl (Nat.le_of_ble_eq_true rfl)
  have N5 := Fr.snoc X5 N3 g_r0
  obtain ⟨LL5, X5, N5⟩ := own_hide X5 N5
  obtain ⟨cl_r0_6, Ar_r0_6, q_r0_6, S_r0_6, N_r0_6, H_r0_6, G_r0_6⟩ := id V_r0_5
  have Al_r0_6 := State.isArrayOf_alike hZ.alike Ar_r0_6.2.1
  have hin_r0_6_2 : ¬ ((2 : Int32) < 0 ∨ cl_r0_6.slots.size ≤ ((2 : Int32)).toNatClampNeg) := inb_of S_r0_6 ⟨by decide, by decide⟩
  have hat_r0_6_2 : cl_r0_6.slots[((2 : Int32)).toNatClampNeg]? = some (.int (2 : Int32)) := H_r0_6 _ (by rw [S_r0_6]; decide)
  have hin_r0_6_1 : ¬ ((1 : Int32) < 0 ∨ cl_r0_6.slots.size ≤ ((1 : Int32)).toNatClampNeg) := inb_of S_r0_6 ⟨by decide, by decide⟩
  have hat_r0_6_1 : cl_r0_6.slots[((1 : Int32)).toNatClampNeg]? = some (.int (1 : Int32)) := H_r0_6 _ (by rw [S_r0_6]; decide)
  have KK7 : Keep h0 h5 [r0] := (((Keep.refl h0 [r0]).wr W3 (Or.inl (List.mem_of_getElem? (i := 0) rfl))).wr W5 (Or.inl (List.mem_of_getElem? (i := 0) rfl)))
  obtain ⟨fs, hr, hrun, hended, hW, hsame⟩ := X5.leave (v := none) (fun _ => rfl)
  refine ⟨_, _, pre0 _ ?_, hrun, hended, _, _, rfl, ?_, ⟨_, rfl⟩, hW, hsame.mono (by decide) (by decide)⟩
  · show Steps p.tables e below (s₁.setTop (mkF m 0 #[.val (.ref r0), .val (.int (0 : Int32)), .val (.int (3 : Int32)), .unset, .unset, .unset] [])) _
    refine XS.iloadN X0.here hx rfl (hb hby d7_0) rfl ?_
    refine XS.istore X0.here hx rfl (hb hby d7_1) rfl (l' := #[.val (.ref r0), .val (.int (0 : Int32)), .val (.int (3 : Int32)), .unset, .val (.int (0 : Int32)), .unset]) rfl ?_
    refine XS.iinc X0.here hx rfl (hb hby d7_3) rfl (l' := #[.val (.ref r0), .val (.int (0 : Int32)), .val (.int (3 : Int32)), .unset, .val (.int ((0 : Int32) + (1 : Int32))), .unset]) rfl ?_
    show Steps p.tables e below (s₁.setTop (mkF m 6 #[.val (.ref r0), .val (.int (0 : Int32)), .val (.int (3 : Int32)), .unset, .val (.int ((0 : Int32) + (1 : Int32))), .unset] [])) _
    rw [show ((0 : Int32) + (1 : Int32)) = (1 : Int32) from (by decide)]
    refine XS.iload X0.here hx rfl (hb hby d7_6) rfl ?_
    refine XS.iloadN X0.here hx rfl (hb hby d7_8) rfl ?_
    refine XS.icmpNo X0.here hx rfl (hb hby d7_9) rfl (tlt (by decide : (1 : Int32) < (3 : Int32))).2.1 ?_
    refine XS.aloadN X0.here hx rfl (hb hby d7_12) rfl rfl ?_
    refine XS.iload X0.here hx rfl (hb hby d7_13) rfl ?_
    refine XS.dup X0.here hx rfl (hb hby d7_15) rfl rfl ?_
    refine XS.istoreN X0.here hx rfl (hb hby d7_16) rfl (l' := #[.val (.ref r0), .val (.int (0 : Int32)), .val (.int (3 : Int32)), .val (.int (1 : Int32)), .val (.int (1 : Int32)), .unset]) rfl ?_
    refine X0.iaload hx (j := (1 : Int32)) (v := (.int (0 : Int32))) (by rw [e0]; exact Ar_r0_1.1) Al_r0_1 Ar_r0_1.2.2 hin_r0_1_1 hat_r0_1_1 (g := (mkF m 17 #[.val (.ref r0), .val (.int (0 : Int32)), .val (.int (3 : Int32)), .val (.int (1 : Int32)), .val (.int (1 : Int32)), .unset] [(.int (1 : Int32)), (.ref r0)])) rfl rfl (hb hby d7_17) _ ?_
    refine XS.istore X0.here hx rfl (hb hby d7_18) rfl (l' := #[.val (.ref r0), .val (.int (0 : Int32)), .val (.int (3 : Int32)), .val (.int (1 : Int32)), .val (.int (1 : Int32)), .val (.int (0 : Int32))]) rfl ?_
    refine XS.iload X0.here hx rfl (hb hby d7_20) rfl ?_
    refine XS.aloadN X0.here hx rfl (hb hby d7_22) rfl rfl ?_
    refine XS.iloadN X0.here hx rfl (hb hby d7_23) rfl ?_
    refine XS.iconst X0.here hx rfl (hb hby d7_24) ?_
    refine XS.isub X0.here hx rfl (hb hby d7_25) rfl ?_
    show Steps p.tables e below (s₁.setTop (mkF m 26 #[.val (.ref r0), .val (.int (0 : Int32)), .val (.int (3 : Int32)), .val (.int (1 : Int32)), .val (.int (1 : Int32)), .val (.int (0 : Int32))] [(.int ((1 : Int32) - (1 : Int32))), (.ref r0), (.int (0 : Int32))])) _
    rw [show ((1 : Int32) - (1 : Int32)) = (0 : Int32) from (by decide)]
    refine X0.iaload hx (j := (0 : Int32)) (v := (.int (1 : Int32))) (by rw [e0]; exact Ar_r0_1.1) Al_r0_1 Ar_r0_1.2.2 hin_r0_1_0 hat_r0_1_0 (g := (mkF m 26 #[.val (.ref r0), .val (.int (0 : Int32)), .val (.int (3 : Int32)), .val (.int (1 : Int32)), .val (.int (1 : Int32)), .val (.int (0 : Int32))] [(.int (0 : Int32)), (.ref r0), (.int (0 : Int32))])) rfl rfl (hb hby d7_26) _ ?_
    refine XS.icmpNo X0.here hx rfl (hb hby d7_27) rfl (tlt (by decide : (0 : Int32) < (1 : Int32))).2.1 ?_
    refine XS.iinc X0.here hx rfl (hb hby d7_30) rfl (l' := #[.val (.ref r0), .val (.int (0 : Int32)), .val (.int (3 : Int32)), .val (.int ((1 : Int32) + (-1 : Int32))), .val (.int (1 : Int32)), .val (.int (0 : Int32))]) rfl ?_
    show Steps p.tables e below (s₁.setTop (mkF m 33 #[.val (.ref r0), .val (.int (0 : Int32)), .val (.int (3 : Int32)), .val (.int ((1 : Int32) + (-1 : Int32))), .val (.int (1 : Int32)), .val (.int (0 : Int32))] [])) _
    rw [show ((1 : Int32) + (-1 : Int32)) = (0 : Int32) from (by decide)]
    refine XS.iloadN X0.here hx rfl (hb hby d7_33) rfl ?_
    refine XS.iloadN X0.here hx rfl (hb hby d7_34) rfl ?_
    refine XS.icmpNo X0.here hx rfl (hb hby d7_35) rfl (flt (by decide : ¬ ((0 : Int32) < (0 : Int32)))).1 ?_
    refine XS.iload X0.here hx rfl (hb hby d7_38) rfl ?_
    refine XS.aloadN X0.here hx rfl (hb hby d7_40) rfl rfl ?_
    refine XS.iloadN X0.here hx rfl (hb hby d7_41) rfl ?_
    refine X0.iaload hx (j := (0 : Int32)) (v := (.int (1 : Int32))) (by rw [e0]; exact Ar_r0_1.1) Al_r0_1 Ar_r0_1.2.2 hin_r0_1_0 hat_r0_1_0 (g := (mkF m 42 #[.val (.ref r0), .val (.int (0 : Int32)), .val (.int (3 : Int32)), .val (.int (0 : Int32)), .val (.int (1 : Int32)), .val (.int (0 : Int32))] [(.int (0 : Int32)), (.ref r0), (.int (0 : Int32))])) rfl rfl (hb hby d7_42) _ ?_
    refine XS.icmpNo X0.here hx rfl (hb hby d7_43) rfl (tlt (by decide : (0 : Int32) < (1 : Int32))).2.1 ?_
    refine XS.aloadN X0.here hx rfl (hb hby d7_46) rfl rfl ?_
    refine XS.iloadN X0.here hx rfl (hb hby d7_47) rfl ?_
    refine XS.iconst X0.here hx rfl (hb hby d7_48) ?_
    refine XS.iadd X0.here hx rfl (hb hby d7_49) rfl ?_
    show Steps p.tables e below (s₁.setTop (mkF m 50 #[.val (.ref r0), .val (.int (0 : Int32)), .val (.int (3 : Int32)), .val (.int (0 : Int32)), .val (.int (1 : Int32)), .val (.int (0 : Int32))] [(.int ((0 : Int32) + (1 : Int32))), (.ref r0)])) _
    rw [show ((0 : Int32) + (1 : Int32)) = (1 : Int32) from (by decide)]
    refine XS.aloadN X0.here hx rfl (hb hby d7_50) rfl rfl ?_
    refine XS.iloadN X0.here hx rfl (hb hby d7_51) rfl ?_
    refine X0.iaload hx (j := (0 : Int32)) (v := (.int (1 : Int32))) (by rw [e0]; exact Ar_r0_1.1) Al_r0_1 Ar_r0_1.2.2 hin_r0_1_0 hat_r0_1_0 (g := (mkF m 52 #[.val (.ref r0), .val (.int (0 : Int32)), .val (.int (3 : Int32)), .val (.int (0 : Int32)), .val (.int (1 : Int32)), .val (.int (0 : Int32))] [(.int (0 : Int32)), (.ref r0), (.int (1 : Int32)), (.ref r0)])) rfl rfl (hb hby d7_52) _ ?_
    refine st3 _ ?_
    refine XS.goto X3.here hx rfl (pc0 := 54) (pc' := 30) rfl (hb hby d7_54) (by decide) (by decide) ?_
    refine XS.iinc X3.here hx rfl (hb hby d7_30) rfl (l' := #[.val (.ref r0), .val (.int (0 : Int32)), .val (.int (3 : Int32)), .val (.int ((0 : Int32) + (-1 : Int32))), .val (.int (1 : Int32)), .val (.int (0 : Int32))]) rfl ?_
    show Steps p.tables e below (T3.setTop (mkF m 33 #[.val (.ref r0), .val (.int (0 : Int32)), .val (.int (3 : Int32)), .val (.int ((0 : Int32) + (-1 : Int32))), .val (.int (1 : Int32)), .val (.int (0 : Int32))] [])) _
    rw [show ((0 : Int32) + (-1 : Int32)) = (-1 : Int32) from (by decide)]
    refine XS.iloadN X3.here hx rfl (hb hby d7_33) rfl ?_
    refine XS.iloadN X3.here hx rfl (hb hby d7_34) rfl ?_
    refine XS.icmpYes X3.here hx rfl (pc0 := 35) (pc' := 57) rfl (hb hby d7_35) rfl (tlt (by decide : (-1 : Int32) < (0 : Int32))).1 (by decide) (by decide) ?_
    refine XS.aloadN X3.here hx rfl (hb hby d7_57) rfl rfl ?_
    refine XS.iloadN X3.here hx rfl (hb hby d7_58) rfl ?_
    refine XS.iconst X3.here hx rfl (hb hby d7_59) ?_
    refine XS.iadd X3.here hx rfl (hb hby d7_60) rfl ?_
    show Steps p.tables e below (T3.setTop (mkF m 61 #[.val (.ref r0), .val (.int (0 : Int32)), .val (.int (3 : Int32)), .val (.int (-1 : Int32)), .val (.int (1 : Int32)), .val (.int (0 : Int32))] [(.int ((-1 : Int32) + (1 : Int32))), (.ref r0)])) _
    rw [show ((-1 : Int32) + (1 : Int32)) = (0 : Int32) from (by decide)]
    refine XS.iload X3.here hx rfl (hb hby d7_61) rfl ?_
    refine st5 _ ?_
    refine XS.goto X5.here hx rfl (pc0 := 64) (pc' := 3) rfl (hb hby d7_64) (by decide) (by decide) ?_
    refine XS.iinc X5.here hx rfl (hb hby d7_3) rfl (l' := #[.val (.ref r0), .val (.int (0 : Int32)), .val (.int (3 : Int32)), .val (.int (-1 : Int32)), .val (.int ((1 : Int32) + (1 : Int32))), .val (.int (0 : Int32))]) rfl ?_
    show Steps p.tables e below (T5.setTop (mkF m 6 #[.val (.ref r0), .val (.int (0 : Int32)), .val (.int (3 : Int32)), .val (.int (-1 : Int32)), .val (.int ((1 : Int32) + (1 : Int32))), .val (.int (0 : Int32))] [])) _
    rw [show ((1 : Int32) + (1 : Int32)) = (2 : Int32) from (by decide)]
    refine XS.iload X5.here hx rfl (hb hby d7_6) rfl ?_
    refine XS.iloadN X5.here hx rfl (hb hby d7_8) rfl ?_
    refine XS.icmpNo X5.here hx rfl (hb hby d7_9) rfl (tlt (by decide : (2 : Int32) < (3 : Int32))).2.1 ?_
    refine XS.aloadN X5.here hx rfl (hb hby d7_12) rfl rfl ?_
    refine XS.iload X5.here hx rfl (hb hby d7_13) rfl ?_
    refine XS.dup X5.here hx rfl (hb hby d7_15) rfl rfl ?_
    refine XS.istoreN X5.here hx rfl (hb hby d7_16) rfl (l' := #[.val (.ref r0), .val (.int (0 : Int32)), .val (.int (3 : Int32)), .val (.int (2 : Int32)), .val (.int (2 : Int32)), .val (.int (0 : Int32))]) rfl ?_
    refine X5.iaload hx (j := (2 : Int32)) (v := (.int (2 : Int32))) (by rw [e5]; exact Ar_r0_6.1) Al_r0_6 Ar_r0_6.2.2 hin_r0_6_2 hat_r0_6_2 (g := (mkF m 17 #[.val (.ref r0), .val (.int (0 : Int32)), .val (.int (3 : Int32)), .val (.int (2 : Int32)), .val (.int (2 : Int32)), .val (.int (0 : Int32))] [(.int (2 : Int32)), (.ref r0)])) rfl rfl (hb hby d7_17) _ ?_
    refine XS.istore X5.here hx rfl (hb hby d7_18) rfl (l' := #[.val (.ref r0), .val (.int (0 : Int32)), .val (.int (3 : Int32)), .val (.int (2 : Int32)), .val (.int (2 : Int32)), .val (.int (2 : Int32))]) rfl ?_
    refine XS.iload X5.here hx rfl (hb hby d7_20) rfl ?_
    refine XS.aloadN X5.here hx rfl (hb hby d7_22) rfl rfl ?_
    refine XS.iloadN X5.here hx rfl (hb hby d7_23) rfl ?_
    refine XS.iconst X5.here hx rfl (hb hby d7_24) ?_
    refine XS.isub X5.here hx rfl (hb hby d7_25) rfl ?_
    show Steps p.tables e below (T5.setTop (mkF m 26 #[.val (.ref r0), .val (.int (0 : Int32)), .val (.int (3 : Int32)), .val (.int (2 : Int32)), .val (.int (2 : Int32)), .val (.int (2 : Int32))] [(.int ((2 : Int32) - (1 : Int32))), (.ref r0), (.int (2 : Int32))])) _
    rw [show ((2 : Int32) - (1 : Int32)) = (1 : Int32) from (by decide)]
    refine X5.iaload hx (j := (1 : Int32)) (v := (.int (1 : Int32))) (by rw [e5]; exact Ar_r0_6.1) Al_r0_6 Ar_r0_6.2.2 hin_r0_6_1 hat_r0_6_1 (g := (mkF m 26 #[.val (.ref r0), .val (.int (0 : Int32)), .val (.int (3 : Int32)), .val (.int (2 : Int32)), .val (.int (2 : Int32)), .val (.int (2 : Int32))] [(.int (1 : Int32)), (.ref r0), (.int (2 : Int32))])) rfl rfl (hb hby d7_26) _ ?_
    refine XS.icmpYes X5.here hx rfl (pc0 := 27) (pc' := 64) rfl (hb hby d7_27) rfl (flt (by decide : ¬ ((2 : Int32) < (1 : Int32)))).2.1 (by decide) (by decide) ?_
    refine XS.goto X5.here hx rfl (pc0 := 64) (pc' := 3) rfl (hb hby d7_64) (by decide) (by decide) ?_
    refine XS.iinc X5.here hx rfl (hb hby d7_3) rfl (l' := #[.val (.ref r0), .val (.int (0 : Int32)), .val (.int (3 : Int32)), .val (.int (2 : Int32)), .val (.int ((2 : Int32) + (1 : Int32))), .val (.int (2 : Int32))]) rfl ?_
    show Steps p.tables e below (T5.setTop (mkF m 6 #[.val (.ref r0), .val (.int (0 : Int32)), .val (.int (3 : Int32)), .val (.int (2 : Int32)), .val (.int ((2 : Int32) + (1 : Int32))), .val (.int (2 : Int32))] [])) _
    rw [show ((2 : Int32) + (1 : Int32)) = (3 : Int32) from (by decide)]
    refine XS.iload X5.here hx rfl (hb hby d7_6) rfl ?_
    refine XS.iloadN X5.here hx rfl (hb hby d7_8) rfl ?_
    refine XS.icmpYes X5.here hx rfl (pc0 := 9) (pc' := 67) rfl (hb hby d7_9) rfl (flt (by decide : ¬ ((3 : Int32) < (3 : Int32)))).2.1 (by decide) (by decide) ?_
    show Steps p.tables e below (T5.setTop (mkF m 67 #[.val (.ref r0), .val (.int (0 : Int32)), .val (.int (3 : Int32)), .val (.int (2 : Int32)), .val (.int (3 : Int32)), .val (.int (2 : Int32))] [])) _
    exact X5.returnOut hx Bd.returns (hb hby d7_67) hr
  · show Q_ins_2 Z r0 k_r0 h0 n0 _ T5.heap _
    rw [e5]
    exact ⟨rfl, N5, KK7, V_r0_5⟩
abbrev Rrm_srt6_2 : Room := ({ frames := 1, cells := 0, slots := 0, locals := 17 } : Room)
theorem ef_rm_srt6_2 (m : MethodId) (r1 : Addr) : entryFrame m #[.null, (.ref r1), (.int (0 : Int32)), (.int (0 : Int32)), (.int (3 : Int32))] 21 = mkF m 0 #[.val .null, .val (.ref r1), .val (.int (0 : Int32)), .val (.int (0 : Int32)), .val (.int (3 : Int32)), .unset, .unset, .unset, .unset, .unset, .unset, .unset, .unset, .unset, .unset, .unset, .unset, .unset, .unset, .unset, .unset] [] := by first | (simp [entryFrame, mkF, argsToLocals, Value.category]; done) | rfl
def Q_srt6_2 (Z : State) (r1 : Addr) (k_r1 : ClassId) (h0 : Heap) (n0 : Nat) (v : Option Value) (h : Heap) (L : List Loc) : Prop := v = none ∧ Fr n0 L ∧ Keep h0 h [r1] ∧ Arv Z h r1 k_r1 .int (3 : Int32) [(.int (0 : Int32)), (.int (1 : Int32)), (.int (2 : Int32))] (.int (0 : Int32))
set_option maxRecDepth 65536 in
set_option maxHeartbeats 40000000 in
theorem rm_srt6_2 (l : Launch) (Z : State) (a0 : Array Value) (hw : ∀ d ∈ tables_1, d.before a0 Z = true) (ws : List Jvm.Cond) (r1 : Addr) (k_r1 : ClassId) (h0 : Heap) (n0 : Nat) (Z0 : n0 ≤ h0.size) (V_r1 : Arv Z h0 r1 k_r1 .int (3 : Int32) [(.int (1 : Int32)), (.int (0 : Int32)), (.int (2 : Int32))] (.int (0 : Int32))) (g_r1 : n0 ≤ r1) :
    MetFree l (⟨"java/util/DualPivotQuicksort", "sort", "(Ljava/util/DualPivotQuicksort$Sorter;[IIII)V"⟩ : MethodName) (head1 (Jvm.Cond.code (⟨"java/util/DualPivotQuicksort", "sort", "(Ljava/util/DualPivotQuicksort$Sorter;[IIII)V"⟩ : MethodName) jdk_2529_method_4_code 21 none :: ws) Rrm_srt6_2) (fun a U => a = #[.null, (.ref r1), (.int (0 : Int32)), (.int (0 : Int32)), (.int (3 : Int32))] ∧ Z.Warmed39 U.vm ∧ U.heap = h0) (fun _ _ _ _ _ => True) (fun _ U o U' => ∃ v L, o = .returned v ∧ Q_srt6_2 Z r1 k_r1 h0 n0 v U'.heap L ∧ FrameEnd U o U' L Rrm_srt6_2.cells Rrm_srt6_2.slots) := by
  refine MetFree.of_bodySF (plainFor_of_name pn_0) hisR ?_
  intro p e s m args below meth c s₁ Bd hml0 hP hK
  obtain ⟨rfl, hZ, hh⟩ := hP
  have hx := Bd.exec
  have hby := Bd.bytes
  have hml : c.maxLocals = 21 := hml0
  have hown : s.vm.findClass "java/util/DualPivotQuicksort" = some m.cls := findClass_of_methodNamed Bd.named
  have hnm := (name_of_methodNamed Bd.named Bd.method).1
  have X0 : Stand p l e Rrm_srt6_2 s m #[.null, (.ref r1), (.int (0 : Int32)), (.int (0 : Int32)), (.int (3 : Int32))] below meth c s₁ [] 0 0 := Stand.of_body Bd
  have e0 : s₁.heap = h0 := by rw [← hh, Bd.state]; rfl
  have N0 := Fr.nil n0
  have W := @own_W a0 Z hw
  have pre0 : ∀ t, Steps p.tables e below (s₁.setTop (mkF m 0 #[.val .null, .val (.ref r1), .val (.int (0 : Int32)), .val (.int (0 : Int32)), .val (.int (3 : Int32)), .unset, .unset, .unset, .unset, .unset, .unset, .unset, .unset, .unset, .unset, .unset, .unset, .unset, .unset, .unset, .unset] [])) t → Steps p.tables e below (s₁.setTop (entryFrame m #[.null, (.ref r1), (.int (0 : Int32)), (.int (0 : Int32)), (.int (3 : Int32))] 21)) t := fun t k => castTop (ef_rm_srt6_2 m r1) k
  obtain ⟨_, _, ⟨T1, L1, k1, n1⟩, -, X1, ⟨Lc1, hQ1, l1, y1, z1⟩, st1⟩ := Jvm.LawKit.callS X0 hx (y := (⟨"java/util/DualPivotQuicksort", "insertionSort", "([III)V"⟩ : MethodName)) hown (mvT hZ (W 36 rfl)) (mvT hZ (W 37 rfl)) (mvT hZ (W 31 rfl)) (mvT hZ (W 38 rfl)) (by decide) (backOf (W := 0) (rm_ins_2 l Z a0 hw [] r1 k_r1 h0 n0 Z0 V_r1 g_r1) hZ (W 38 rfl) (W 31 rfl) (by decide) (by decide)) (g := (mkF m 57 #[.val .null, .val (.ref r1), .val (.int (0 : Int32)), .val (.int (0 : Int32)), .val (.int (3 : Int32)), .val (.int (2 : Int32)), .val (.int (3 : Int32)), .unset, .unset, .unset, .unset, .unset, .unset, .unset, .unset, .unset, .unset, .unset, .unset, .unset, .unset] [(.int (3 : Int32)), (.int (0 : Int32)), (.ref r1)])) rfl (by rw [hml]; rfl) (argsL := [(.ref r1), (.int (0 : Int32)), (.int (3 : Int32))]) (rest := []) (lenOf pd_0 rfl) rfl (own_le rfl) (hb hby d6_57) (fun _ _ => ⟨rfl, e0, (by decide : 0 + 0 ≤ _), (by decide : 0 + 0 ≤ _)⟩)
  dsimp only [Pt.U, Pt.locs, Pt.cells, Pt.slots] at X1 l1 y1 z1 st1 hQ1
  subst l1 y1 z1
  obtain ⟨rfl, N1q, K1, V1⟩ := hQ1
  have N1 := Fr.app N0 N1q
  obtain ⟨LL1, X1, N1⟩ := own_hide X1 N1
  have KK2 : Keep h0 T1.heap [r1] := ((Keep.refl h0 [r1]).trans K1 (own_in1 (Or.inl (List.mem_of_getElem? (i := 0) rfl))))
  obtain ⟨fs, hr, hrun, hended, hW, hsame⟩ := X1.leave (v := none) (fun _ => rfl)
  refine ⟨_, _, pre0 _ ?_, hrun, hended, _, _, rfl, ?_, ⟨_, rfl⟩, hW, hsame.mono (by decide) (by decide)⟩
  · show Steps p.tables e below (s₁.setTop (mkF m 0 #[.val .null, .val (.ref r1), .val (.int (0 : Int32)), .val (.int (0 : Int32)), .val (.int (3 : Int32)), .unset, .unset, .unset, .unset, .unset, .unset, .unset, .unset, .unset, .unset, .unset, .unset, .unset, .unset, .unset, .unset] [])) _
    refine XS.iload X0.here hx rfl (hb hby d6_0) rfl ?_
    refine XS.iconst X0.here hx rfl (hb hby d6_2) ?_
    refine XS.isub X0.here hx rfl (hb hby d6_3) rfl ?_
    show Steps p.tables e below (s₁.setTop (mkF m 4 #[.val .null, .val (.ref r1), .val (.int (0 : Int32)), .val (.int (0 : Int32)), .val (.int (3 : Int32)), .unset, .unset, .unset, .unset, .unset, .unset, .unset, .unset, .unset, .unset, .unset, .unset, .unset, .unset, .unset, .unset] [(.int ((3 : Int32) - (1 : Int32)))])) _
    rw [show ((3 : Int32) - (1 : Int32)) = (2 : Int32) from (by decide)]
    refine XS.istore X0.here hx rfl (hb hby d6_4) rfl (l' := #[.val .null, .val (.ref r1), .val (.int (0 : Int32)), .val (.int (0 : Int32)), .val (.int (3 : Int32)), .val (.int (2 : Int32)), .unset, .unset, .unset, .unset, .unset, .unset, .unset, .unset, .unset, .unset, .unset, .unset, .unset, .unset, .unset]) rfl ?_
    refine XS.iload X0.here hx rfl (hb hby d6_6) rfl ?_
    refine XS.iloadN X0.here hx rfl (hb hby d6_8) rfl ?_
    refine XS.isub X0.here hx rfl (hb hby d6_9) rfl ?_
    show Steps p.tables e below (s₁.setTop (mkF m 10 #[.val .null, .val (.ref r1), .val (.int (0 : Int32)), .val (.int (0 : Int32)), .val (.int (3 : Int32)), .val (.int (2 : Int32)), .unset, .unset, .unset, .unset, .unset, .unset, .unset, .unset, .unset, .unset, .unset, .unset, .unset, .unset, .unset] [(.int ((3 : Int32) - (0 : Int32)))])) _
    rw [show ((3 : Int32) - (0 : Int32)) = (3 : Int32) from (by decide)]
    refine XS.istore X0.here hx rfl (hb hby d6_10) rfl (l' := #[.val .null, .val (.ref r1), .val (.int (0 : Int32)), .val (.int (0 : Int32)), .val (.int (3 : Int32)), .val (.int (2 : Int32)), .val (.int (3 : Int32)), .unset, .unset, .unset, .unset, .unset, .unset, .unset, .unset, .unset, .unset, .unset, .unset, .unset, .unset]) rfl ?_
    refine XS.iload X0.here hx rfl (hb hby d6_12) rfl ?_
    refine XS.bipush X0.here hx rfl (hb hby d6_14) ?_
    refine XS.iloadN X0.here hx rfl (hb hby d6_16) rfl ?_
    refine XS.iadd X0.here hx rfl (hb hby d6_17) rfl ?_
    show Steps p.tables e below (s₁.setTop (mkF m 18 #[.val .null, .val (.ref r1), .val (.int (0 : Int32)), .val (.int (0 : Int32)), .val (.int (3 : Int32)), .val (.int (2 : Int32)), .val (.int (3 : Int32)), .unset, .unset, .unset, .unset, .unset, .unset, .unset, .unset, .unset, .unset, .unset, .unset, .unset, .unset] [(.int ((65 : Int32) + (0 : Int32))), (.int (3 : Int32))])) _
    rw [show ((65 : Int32) + (0 : Int32)) = (65 : Int32) from (by decide)]
    refine XS.icmpNo X0.here hx rfl (hb hby d6_18) rfl (tlt (by decide : (3 : Int32) < (65 : Int32))).2.1 ?_
    refine XS.iloadN X0.here hx rfl (hb hby d6_21) rfl ?_
    refine XS.iconst X0.here hx rfl (hb hby d6_22) ?_
    refine XS.iand X0.here hx rfl (hb hby d6_23) rfl ?_
    show Steps p.tables e below (s₁.setTop (mkF m 24 #[.val .null, .val (.ref r1), .val (.int (0 : Int32)), .val (.int (0 : Int32)), .val (.int (3 : Int32)), .val (.int (2 : Int32)), .val (.int (3 : Int32)), .unset, .unset, .unset, .unset, .unset, .unset, .unset, .unset, .unset, .unset, .unset, .unset, .unset, .unset] [(.int ((0 : Int32) &&& (1 : Int32)))])) _
    rw [show ((0 : Int32) &&& (1 : Int32)) = (0 : Int32) from (by decide)]
    refine XS.ifYes X0.here hx rfl (pc0 := 24) (pc' := 46) rfl (hb hby d6_24) rfl ((if0 _ _).trans (flt (by decide : ¬ ((0 : Int32) < (0 : Int32)))).2.2.2) (by decide) (by decide) ?_
    refine XS.iload X0.here hx rfl (hb hby d6_46) rfl ?_
    refine XS.bipush X0.here hx rfl (hb hby d6_48) ?_
    refine XS.icmpNo X0.here hx rfl (hb hby d6_50) rfl (tlt (by decide : (3 : Int32) < (44 : Int32))).2.1 ?_
    refine XS.aloadN X0.here hx rfl (hb hby d6_53) rfl rfl ?_
    refine XS.iloadN X0.here hx rfl (hb hby d6_54) rfl ?_
    refine XS.iload X0.here hx rfl (hb hby d6_55) rfl ?_
    refine st1 _ ?_
    show Steps p.tables e below (T1.setTop (mkF m 60 #[.val .null, .val (.ref r1), .val (.int (0 : Int32)), .val (.int (0 : Int32)), .val (.int (3 : Int32)), .val (.int (2 : Int32)), .val (.int (3 : Int32)), .unset, .unset, .unset, .unset, .unset, .unset, .unset, .unset, .unset, .unset, .unset, .unset, .unset, .unset] [])) _
    exact X1.returnOut hx Bd.returns (hb hby d6_60) hr
  · show Q_srt6_2 Z r1 k_r1 h0 n0 _ T1.heap _
    exact ⟨rfl, N1, KK2, V1⟩
abbrev Rrm_srt5_2 : Room := ({ frames := 2, cells := 0, slots := 0, locals := 49 } : Room)
theorem ef_rm_srt5_2 (m : MethodId) (r0 : Addr) : entryFrame m #[(.ref r0), (.int (0 : Int32)), (.int (0 : Int32)), (.int (3 : Int32))] 7 = mkF m 0 #[.val (.ref r0), .val (.int (0 : Int32)), .val (.int (0 : Int32)), .val (.int (3 : Int32)), .unset, .unset, .unset] [] := by first | (simp [entryFrame, mkF, argsToLocals, Value.category]; done) | rfl
def Q_srt5_2 (Z : State) (r0 : Addr) (k_r0 : ClassId) (h0 : Heap) (n0 : Nat) (v : Option Value) (h : Heap) (L : List Loc) : Prop := v = none ∧ Fr n0 L ∧ Keep h0 h [r0] ∧ Arv Z h r0 k_r0 .int (3 : Int32) [(.int (0 : Int32)), (.int (1 : Int32)), (.int (2 : Int32))] (.int (0 : Int32))
set_option maxRecDepth 65536 in
set_option maxHeartbeats 40000000 in
theorem rm_srt5_2 (l : Launch) (Z : State) (a0 : Array Value) (hw : ∀ d ∈ tables_1, d.before a0 Z = true) (ws : List Jvm.Cond) (r0 : Addr) (k_r0 : ClassId) (h0 : Heap) (n0 : Nat) (Z0 : n0 ≤ h0.size) (V_r0 : Arv Z h0 r0 k_r0 .int (3 : Int32) [(.int (1 : Int32)), (.int (0 : Int32)), (.int (2 : Int32))] (.int (0 : Int32))) (g_r0 : n0 ≤ r0) :
    MetFree l (⟨"java/util/DualPivotQuicksort", "sort", "([IIII)V"⟩ : MethodName) (head1 (Jvm.Cond.code (⟨"java/util/DualPivotQuicksort", "sort", "([IIII)V"⟩ : MethodName) jdk_2529_method_3_code 7 none :: ws) Rrm_srt5_2) (fun a U => a = #[(.ref r0), (.int (0 : Int32)), (.int (0 : Int32)), (.int (3 : Int32))] ∧ Z.Warmed39 U.vm ∧ U.heap = h0) (fun _ _ _ _ _ => True) (fun _ U o U' => ∃ v L, o = .returned v ∧ Q_srt5_2 Z r0 k_r0 h0 n0 v U'.heap L ∧ FrameEnd U o U' L Rrm_srt5_2.cells Rrm_srt5_2.slots) := by
  refine MetFree.of_bodySF (plainFor_of_name pn_0) hisR ?_
  intro p e s m args below meth c s₁ Bd hml0 hP hK
  obtain ⟨rfl, hZ, hh⟩ := hP
  have hx := Bd.exec
  have hby := Bd.bytes
  have hml : c.maxLocals = 7 := hml0
  have hown : s.vm.findClass "java/util/DualPivotQuicksort" = some m.cls := findClass_of_methodNamed Bd.named
  have hnm := (name_of_methodNamed Bd.named Bd.method).1
  have X0 : Stand p l e Rrm_srt5_2 s m #[(.ref r0), (.int (0 : Int32)), (.int (0 : Int32)), (.int (3 : Int32))] below meth c s₁ [] 0 0 := Stand.of_body Bd
  have e0 : s₁.heap = h0 := by rw [← hh, Bd.state]; rfl
  have N0 := Fr.nil n0
  have W := @own_W a0 Z hw
  have pre0 : ∀ t, Steps p.tables e below (s₁.setTop (mkF m 0 #[.val (.ref r0), .val (.int (0 : Int32)), .val (.int (0 : Int32)), .val (.int (3 : Int32)), .unset, .unset, .unset] [])) t → Steps p.tables e below (s₁.setTop (entryFrame m #[(.ref r0), (.int (0 : Int32)), (.int (0 : Int32)), (.int (3 : Int32))] 7)) t := fun t k => castTop (ef_rm_srt5_2 m r0) k
  obtain ⟨_, _, ⟨T1, L1, k1, n1⟩, -, X1, ⟨Lc1, hQ1, l1, y1, z1⟩, st1⟩ := Jvm.LawKit.callS X0 hx (y := (⟨"java/util/DualPivotQuicksort", "sort", "(Ljava/util/DualPivotQuicksort$Sorter;[IIII)V"⟩ : MethodName)) hown (mvT hZ (W 33 rfl)) (mvT hZ (W 34 rfl)) (mvT hZ (W 31 rfl)) (mvT hZ (W 35 rfl)) (by decide) (backOf (W := 0) (rm_srt6_2 l Z a0 hw [] r0 k_r0 h0 n0 Z0 V_r0 g_r0) hZ (W 35 rfl) (W 31 rfl) (by decide) (by decide)) (g := (mkF m 73 #[.val (.ref r0), .val (.int (0 : Int32)), .val (.int (0 : Int32)), .val (.int (3 : Int32)), .val (.int (3 : Int32)), .unset, .unset] [(.int (3 : Int32)), (.int (0 : Int32)), (.int (0 : Int32)), (.ref r0), .null])) rfl (by rw [hml]; rfl) (argsL := [.null, (.ref r0), (.int (0 : Int32)), (.int (0 : Int32)), (.int (3 : Int32))]) (rest := []) (lenOf pd_1 rfl) rfl (own_le rfl) (hb hby d5_73) (fun _ _ => ⟨rfl, e0, (by decide : 0 + 0 ≤ _), (by decide : 0 + 0 ≤ _)⟩)
  dsimp only [Pt.U, Pt.locs, Pt.cells, Pt.slots] at X1 l1 y1 z1 st1 hQ1
  subst l1 y1 z1
  obtain ⟨rfl, N1q, K1, V1⟩ := hQ1
  have N1 := Fr.app N0 N1q
  obtain ⟨LL1, X1, N1⟩ := own_hide X1 N1
  have KK2 : Keep h0 T1.heap [r0] := ((Keep.refl h0 [r0]).trans K1 (own_in1 (Or.inl (List.mem_of_getElem? (i := 0) rfl))))
  obtain ⟨fs, hr, hrun, hended, hW, hsame⟩ := X1.leave (v := none) (fun _ => rfl)
  refine ⟨_, _, pre0 _ ?_, hrun, hended, _, _, rfl, ?_, ⟨_, rfl⟩, hW, hsame.mono (by decide) (by decide)⟩
  · show Steps p.tables e below (s₁.setTop (mkF m 0 #[.val (.ref r0), .val (.int (0 : Int32)), .val (.int (0 : Int32)), .val (.int (3 : Int32)), .unset, .unset, .unset] [])) _
    refine XS.iloadN X0.here hx rfl (hb hby d5_0) rfl ?_
    refine XS.iloadN X0.here hx rfl (hb hby d5_1) rfl ?_
    refine XS.isub X0.here hx rfl (hb hby d5_2) rfl ?_
    show Steps p.tables e below (s₁.setTop (mkF m 3 #[.val (.ref r0), .val (.int (0 : Int32)), .val (.int (0 : Int32)), .val (.int (3 : Int32)), .unset, .unset, .unset] [(.int ((3 : Int32) - (0 : Int32)))])) _
    rw [show ((3 : Int32) - (0 : Int32)) = (3 : Int32) from (by decide)]
    refine XS.istore X0.here hx rfl (hb hby d5_3) rfl (l' := #[.val (.ref r0), .val (.int (0 : Int32)), .val (.int (0 : Int32)), .val (.int (3 : Int32)), .val (.int (3 : Int32)), .unset, .unset]) rfl ?_
    refine XS.iloadN X0.here hx rfl (hb hby d5_5) rfl ?_
    refine XS.iconst X0.here hx rfl (hb hby d5_6) ?_
    refine XS.icmpYes X0.here hx rfl (pc0 := 7) (pc' := 68) rfl (hb hby d5_7) rfl (flt (by decide : ¬ ((1 : Int32) < (0 : Int32)))).2.2.2 (by decide) (by decide) ?_
    refine XS.aconstNull X0.here hx rfl (hb hby d5_68) ?_
    refine XS.aloadN X0.here hx rfl (hb hby d5_69) rfl rfl ?_
    refine XS.iconst X0.here hx rfl (hb hby d5_70) ?_
    refine XS.iloadN X0.here hx rfl (hb hby d5_71) rfl ?_
    refine XS.iloadN X0.here hx rfl (hb hby d5_72) rfl ?_
    refine st1 _ ?_
    show Steps p.tables e below (T1.setTop (mkF m 76 #[.val (.ref r0), .val (.int (0 : Int32)), .val (.int (0 : Int32)), .val (.int (3 : Int32)), .val (.int (3 : Int32)), .unset, .unset] [])) _
    exact X1.returnOut hx Bd.returns (hb hby d5_76) hr
  · show Q_srt5_2 Z r0 k_r0 h0 n0 _ T1.heap _
    exact ⟨rfl, N1, KK2, V1⟩
abbrev Rrm_srt4_2 : Room := ({ frames := 3, cells := 0, slots := 0, locals := 67 } : Room)
theorem ef_rm_srt4_2 (m : MethodId) (r0 : Addr) : entryFrame m #[(.ref r0)] 1 = mkF m 0 #[.val (.ref r0)] [] := by first | (simp [entryFrame, mkF, argsToLocals, Value.category]; done) | rfl
def Q_srt4_2 (Z : State) (r0 : Addr) (k_r0 : ClassId) (h0 : Heap) (n0 : Nat) (v : Option Value) (h : Heap) (L : List Loc) : Prop := v = none ∧ Fr n0 L ∧ Keep h0 h [r0] ∧ Arv Z h r0 k_r0 .int (3 : Int32) [(.int (0 : Int32)), (.int (1 : Int32)), (.int (2 : Int32))] (.int (0 : Int32))
set_option maxRecDepth 65536 in
set_option maxHeartbeats 40000000 in
theorem rm_srt4_2 (l : Launch) (Z : State) (a0 : Array Value) (hw : ∀ d ∈ tables_1, d.before a0 Z = true) (ws : List Jvm.Cond) (r0 : Addr) (k_r0 : ClassId) (h0 : Heap) (n0 : Nat) (Z0 : n0 ≤ h0.size) (V_r0 : Arv Z h0 r0 k_r0 .int (3 : Int32) [(.int (1 : Int32)), (.int (0 : Int32)), (.int (2 : Int32))] (.int (0 : Int32))) (g_r0 : n0 ≤ r0) :
    MetFree l (⟨"java/util/Arrays", "sort", "([I)V"⟩ : MethodName) (head1 (Jvm.Cond.code (⟨"java/util/Arrays", "sort", "([I)V"⟩ : MethodName) jdk_65_method_2_code 1 none :: ws) Rrm_srt4_2) (fun a U => a = #[(.ref r0)] ∧ Z.Warmed39 U.vm ∧ U.heap = h0) (fun _ _ _ _ _ => True) (fun _ U o U' => ∃ v L, o = .returned v ∧ Q_srt4_2 Z r0 k_r0 h0 n0 v U'.heap L ∧ FrameEnd U o U' L Rrm_srt4_2.cells Rrm_srt4_2.slots) := by
  refine MetFree.of_bodySF (plainFor_of_name pn_1) hisR ?_
  intro p e s m args below meth c s₁ Bd hml0 hP hK
  obtain ⟨rfl, hZ, hh⟩ := hP
  have hx := Bd.exec
  have hby := Bd.bytes
  have hml : c.maxLocals = 1 := hml0
  have hown : s.vm.findClass "java/util/Arrays" = some m.cls := findClass_of_methodNamed Bd.named
  have hnm := (name_of_methodNamed Bd.named Bd.method).1
  have X0 : Stand p l e Rrm_srt4_2 s m #[(.ref r0)] below meth c s₁ [] 0 0 := Stand.of_body Bd
  have e0 : s₁.heap = h0 := by rw [← hh, Bd.state]; rfl
  have N0 := Fr.nil n0
  have W := @own_W a0 Z hw
  have pre0 : ∀ t, Steps p.tables e below (s₁.setTop (mkF m 0 #[.val (.ref r0)] [])) t → Steps p.tables e below (s₁.setTop (entryFrame m #[(.ref r0)] 1)) t := fun t k => castTop (ef_rm_srt4_2 m r0) k
  obtain ⟨cl_r0_1, Ar_r0_1, q_r0_1, S_r0_1, N_r0_1, H_r0_1, G_r0_1⟩ := id V_r0
  have Al_r0_1 := State.isArrayOf_alike hZ.alike Ar_r0_1.2.1
  obtain ⟨_, _, ⟨T2, L2, k2, n2⟩, -, X2, ⟨Lc2, hQ2, l2, y2, z2⟩, st2⟩ := Jvm.LawKit.callS X0 hx (y := (⟨"java/util/DualPivotQuicksort", "sort", "([IIII)V"⟩ : MethodName)) hown (mvT hZ (W 29 rfl)) (mvT hZ (W 30 rfl)) (mvT hZ (W 31 rfl)) (mvT hZ (W 32 rfl)) (by decide) (backOf (W := 0) (rm_srt5_2 l Z a0 hw [] r0 k_r0 h0 n0 Z0 V_r0 g_r0) hZ (W 32 rfl) (W 31 rfl) (by decide) (by decide)) (g := (mkF m 5 #[.val (.ref r0)] [(.int (3 : Int32)), (.int (0 : Int32)), (.int (0 : Int32)), (.ref r0)])) rfl (by rw [hml]; rfl) (argsL := [(.ref r0), (.int (0 : Int32)), (.int (0 : Int32)), (.int (3 : Int32))]) (rest := []) (lenOf pd_2 rfl) rfl (own_le rfl) (hb hby d4_5) (fun _ _ => ⟨rfl, e0, (by decide : 0 + 0 ≤ _), (by decide : 0 + 0 ≤ _)⟩)
  dsimp only [Pt.U, Pt.locs, Pt.cells, Pt.slots] at X2 l2 y2 z2 st2 hQ2
  subst l2 y2 z2
  obtain ⟨rfl, N2q, K2, V2⟩ := hQ2
  have N2 := Fr.app N0 N2q
  obtain ⟨LL2, X2, N2⟩ := own_hide X2 N2
  have KK3 : Keep h0 T2.heap [r0] := ((Keep.refl h0 [r0]).trans K2 (own_in1 (Or.inl (List.mem_of_getElem? (i := 0) rfl))))
  obtain ⟨fs, hr, hrun, hended, hW, hsame⟩ := X2.leave (v := none) (fun _ => rfl)
  refine ⟨_, _, pre0 _ ?_, hrun, hended, _, _, rfl, ?_, ⟨_, rfl⟩, hW, hsame.mono (by decide) (by decide)⟩
  · show Steps p.tables e below (s₁.setTop (mkF m 0 #[.val (.ref r0)] [])) _
    refine XS.aloadN X0.here hx rfl (hb hby d4_0) rfl rfl ?_
    refine XS.iconst X0.here hx rfl (hb hby d4_1) ?_
    refine XS.iconst X0.here hx rfl (hb hby d4_2) ?_
    refine XS.aloadN X0.here hx rfl (hb hby d4_3) rfl rfl ?_
    refine X0.arraylength hx (by rw [e0]; exact Ar_r0_1.1) Al_r0_1 (g := (mkF m 4 #[.val (.ref r0)] [(.ref r0), (.int (0 : Int32)), (.int (0 : Int32)), (.ref r0)])) rfl rfl (hb hby d4_4) _ ?_
    rw [len_of S_r0_1 N_r0_1]
    refine st2 _ ?_
    show Steps p.tables e below (T2.setTop (mkF m 8 #[.val (.ref r0)] [])) _
    exact X2.returnOut hx Bd.returns (hb hby d4_8) hr
  · show Q_srt4_2 Z r0 k_r0 h0 n0 _ T2.heap _
    exact ⟨rfl, N2, KK3, V2⟩
theorem d8_0 : decode prog_60_method_3_code 0 = .ok (.lconst 1, 1) := by decide +kernel
theorem d8_1 : decode prog_60_method_3_code 1 = .ok (.lstore_n 1, 1) := by decide +kernel
theorem d8_2 : decode prog_60_method_3_code 2 = .ok (.aload_n 0, 1) := by decide +kernel
theorem d8_3 : decode prog_60_method_3_code 3 = .ok (.astore_n 3, 1) := by decide +kernel
theorem d8_4 : decode prog_60_method_3_code 4 = .ok (.aload_n 3, 1) := by decide +kernel
theorem d8_5 : decode prog_60_method_3_code 5 = .ok (.arraylength, 1) := by decide +kernel
theorem d8_6 : decode prog_60_method_3_code 6 = .ok (.istore 4, 2) := by decide +kernel
theorem d8_8 : decode prog_60_method_3_code 8 = .ok (.iconst 0, 1) := by decide +kernel
theorem d8_9 : decode prog_60_method_3_code 9 = .ok (.istore 5, 2) := by decide +kernel
theorem d8_11 : decode prog_60_method_3_code 11 = .ok (.iload 5, 2) := by decide +kernel
theorem d8_13 : decode prog_60_method_3_code 13 = .ok (.iload 4, 2) := by decide +kernel
theorem d8_15 : decode prog_60_method_3_code 15 = .ok (.if_icmp .ge 58, 3) := by decide +kernel
theorem d8_18 : decode prog_60_method_3_code 18 = .ok (.aload_n 3, 1) := by decide +kernel
theorem d8_19 : decode prog_60_method_3_code 19 = .ok (.iload 5, 2) := by decide +kernel
theorem d8_21 : decode prog_60_method_3_code 21 = .ok (.iaload, 1) := by decide +kernel
theorem d8_22 : decode prog_60_method_3_code 22 = .ok (.istore 6, 2) := by decide +kernel
theorem d8_24 : decode prog_60_method_3_code 24 = .ok (.iload 6, 2) := by decide +kernel
theorem d8_26 : decode prog_60_method_3_code 26 = .ok (.iconst 1, 1) := by decide +kernel
theorem d8_27 : decode prog_60_method_3_code 27 = .ok (.if_icmp .ge 18, 3) := by decide +kernel
theorem d8_45 : decode prog_60_method_3_code 45 = .ok (.lload_n 1, 1) := by decide +kernel
theorem d8_46 : decode prog_60_method_3_code 46 = .ok (.ldc2_w 64, 3) := by decide +kernel
theorem d8_49 : decode prog_60_method_3_code 49 = .ok (.iload 6, 2) := by decide +kernel
theorem d8_51 : decode prog_60_method_3_code 51 = .ok (.i2l, 1) := by decide +kernel
theorem d8_52 : decode prog_60_method_3_code 52 = .ok (.ldiv, 1) := by decide +kernel
theorem d8_53 : decode prog_60_method_3_code 53 = .ok (.lcmp, 1) := by decide +kernel
theorem d8_54 : decode prog_60_method_3_code 54 = .ok (.ifCond .le 7, 3) := by decide +kernel
theorem d8_61 : decode prog_60_method_3_code 61 = .ok (.lload_n 1, 1) := by decide +kernel
theorem d8_62 : decode prog_60_method_3_code 62 = .ok (.iload 6, 2) := by decide +kernel
theorem d8_64 : decode prog_60_method_3_code 64 = .ok (.i2l, 1) := by decide +kernel
theorem d8_65 : decode prog_60_method_3_code 65 = .ok (.lmul, 1) := by decide +kernel
theorem d8_66 : decode prog_60_method_3_code 66 = .ok (.lstore_n 1, 1) := by decide +kernel
theorem d8_67 : decode prog_60_method_3_code 67 = .ok (.iinc 5 1, 3) := by decide +kernel
theorem d8_70 : decode prog_60_method_3_code 70 = .ok (.goto (-59), 3) := by decide +kernel
theorem d8_73 : decode prog_60_method_3_code 73 = .ok (.lload_n 1, 1) := by decide +kernel
theorem d8_74 : decode prog_60_method_3_code 74 = .ok (.lreturn, 1) := by decide +kernel
abbrev Rrm_ts_0 : Room := ({ frames := 0, cells := 0, slots := 0, locals := 0 } : Room)
theorem pn_2 : plainName "com/example/beliefwire/beliefwire/model/Factor" = true := by first | (simp [plainName, overriddenIn]; done) | decide +kernel
theorem ef_rm_ts_0 (m : MethodId) (r0 : Addr) : entryFrame m #[(.ref r0)] 7 = mkF m 0 #[.val (.ref r0), .unset, .unset, .unset, .unset, .unset, .unset] [] := by first | (simp [entryFrame, mkF, argsToLocals, Value.category]; done) | rfl
def Q_ts_0 (Z : State) (pc : Int32) (h0 : Heap) (n0 : Nat) (v : Option Value) (h : Heap) (L : List Loc) : Prop := v = some (.long ((1 : Int64) * (pc.toInt64))) ∧ Fr n0 L ∧ h = h0
set_option maxRecDepth 65536 in
set_option maxHeartbeats 40000000 in
theorem rm_ts_0 (l : Launch) (Z : State) (a0 : Array Value) (hw : ∀ d ∈ tables_1, d.before a0 Z = true) (ws : List Jvm.Cond) (r0 : Addr) (pc : Int32) (k_r0 : ClassId) (h0 : Heap) (n0 : Nat) (Z0 : n0 ≤ h0.size) (V_r0 : Arv Z h0 r0 k_r0 .int (1 : Int32) [(.int pc)] (.int (0 : Int32))) (hc : pc = 1 ∨ pc = 2 ∨ pc = 3) :
    MetFree l (⟨"com/example/beliefwire/beliefwire/model/Factor", "tableSize", "([I)J"⟩ : MethodName) (head1 (Jvm.Cond.code (⟨"com/example/beliefwire/beliefwire/model/Factor", "tableSize", "([I)J"⟩ : MethodName) prog_60_method_3_code 7 (some .long) :: ws) Rrm_ts_0) (fun a U => a = #[(.ref r0)] ∧ Z.Warmed39 U.vm ∧ U.heap = h0) (fun _ _ _ _ _ => True) (fun _ U o U' => ∃ v L, o = .returned v ∧ Q_ts_0 Z pc h0 n0 v U'.heap L ∧ FrameEnd U o U' L Rrm_ts_0.cells Rrm_ts_0.slots) := by
  refine MetFree.of_bodySF (plainFor_of_name pn_2) hisR ?_
  intro p e s m args below meth c s₁ Bd hml0 hP hK
  obtain ⟨rfl, hZ, hh⟩ := hP
  have hx := Bd.exec
  have hby := Bd.bytes
  have hml : c.maxLocals = 7 := hml0
  have hown : s.vm.findClass "com/example/beliefwire/beliefwire/model/Factor" = some m.cls := findClass_of_methodNamed Bd.named
  have hnm := (name_of_methodNamed Bd.named Bd.method).1
  have X0 : Stand p l e Rrm_ts_0 s m #[(.ref r0)] below meth c s₁ [] 0 0 := Stand.of_body Bd
  have e0 : s₁.heap = h0 := by rw [← hh, Bd.state]; rfl
  have N0 := Fr.nil n0
  have W := @own_W a0 Z hw
  have pre0 : ∀ t, Steps p.tables e below (s₁.setTop (mkF m 0 #[.val (.ref r0), .unset, .unset, .unset, .unset, .unset, .unset] [])) t → Steps p.tables e below (s₁.setTop (entryFrame m #[(.ref r0)] 7)) t := fun t k => castTop (ef_rm_ts_0 m r0) k
  obtain ⟨cl_r0_1, Ar_r0_1, q_r0_1, S_r0_1, N_r0_1, H_r0_1, G_r0_1⟩ := id V_r0
  have Al_r0_1 := State.isArrayOf_alike hZ.alike Ar_r0_1.2.1
  have hin_r0_1_0 : ¬ ((0 : Int32) < 0 ∨ cl_r0_1.slots.size ≤ ((0 : Int32)).toNatClampNeg) := inb_of S_r0_1 ⟨by decide, by decide⟩
  have hat_r0_1_0 : cl_r0_1.slots[((0 : Int32)).toNatClampNeg]? = some (.int pc) := H_r0_1 _ (by rw [S_r0_1]; decide)
  obtain ⟨fs, hr, hrun, hended, hW, hsame⟩ := X0.leave (v := some (.long ((1 : Int64) * (pc.toInt64)))) (fun h => by rw [Bd.returns] at h; cases h)
  refine ⟨_, _, pre0 _ ?_, hrun, hended, _, _, rfl, ?_, ⟨_, rfl⟩, hW, hsame.mono (by decide) (by decide)⟩
  · show Steps p.tables e below (s₁.setTop (mkF m 0 #[.val (.ref r0), .unset, .unset, .unset, .unset, .unset, .unset] [])) _
    refine XS.lconst X0.here hx rfl (hb hby d8_0) ?_
    refine XS.lstoreN X0.here hx rfl (hb hby d8_1) rfl (l' := #[.val (.ref r0), .val (.long (1 : Int64)), .second, .unset, .unset, .unset, .unset]) rfl ?_
    refine XS.aloadN X0.here hx rfl (hb hby d8_2) rfl rfl ?_
    refine XS.astoreN X0.here hx rfl (hb hby d8_3) rfl rfl (l' := #[.val (.ref r0), .val (.long (1 : Int64)), .second, .val (.ref r0), .unset, .unset, .unset]) rfl ?_
    refine XS.aloadN X0.here hx rfl (hb hby d8_4) rfl rfl ?_
    refine X0.arraylength hx (by rw [e0]; exact Ar_r0_1.1) Al_r0_1 (g := (mkF m 5 #[.val (.ref r0), .val (.long (1 : Int64)), .second, .val (.ref r0), .unset, .unset, .unset] [(.ref r0)])) rfl rfl (hb hby d8_5) _ ?_
    rw [len_of S_r0_1 N_r0_1]
    refine XS.istore X0.here hx rfl (hb hby d8_6) rfl (l' := #[.val (.ref r0), .val (.long (1 : Int64)), .second, .val (.ref r0), .val (.int (1 : Int32)), .unset, .unset]) rfl ?_
    refine XS.iconst X0.here hx rfl (hb hby d8_8) ?_
    refine XS.istore X0.here hx rfl (hb hby d8_9) rfl (l' := #[.val (.ref r0), .val (.long (1 : Int64)), .second, .val (.ref r0), .val (.int (1 : Int32)), .val (.int (0 : Int32)), .unset]) rfl ?_
    refine XS.iload X0.here hx rfl (hb hby d8_11) rfl ?_
    refine XS.iload X0.here hx rfl (hb hby d8_13) rfl ?_
    refine XS.icmpNo X0.here hx rfl (hb hby d8_15) rfl (tlt (by decide : (0 : Int32) < (1 : Int32))).2.1 ?_
    refine XS.aloadN X0.here hx rfl (hb hby d8_18) rfl rfl ?_
    refine XS.iload X0.here hx rfl (hb hby d8_19) rfl ?_
    refine X0.iaload hx (j := (0 : Int32)) (v := (.int pc)) (by rw [e0]; exact Ar_r0_1.1) Al_r0_1 Ar_r0_1.2.2 hin_r0_1_0 hat_r0_1_0 (g := (mkF m 21 #[.val (.ref r0), .val (.long (1 : Int64)), .second, .val (.ref r0), .val (.int (1 : Int32)), .val (.int (0 : Int32)), .unset] [(.int (0 : Int32)), (.ref r0)])) rfl rfl (hb hby d8_21) _ ?_
    refine XS.istore X0.here hx rfl (hb hby d8_22) rfl (l' := #[.val (.ref r0), .val (.long (1 : Int64)), .second, .val (.ref r0), .val (.int (1 : Int32)), .val (.int (0 : Int32)), .val (.int pc)]) rfl ?_
    refine XS.iload X0.here hx rfl (hb hby d8_24) rfl ?_
    refine XS.iconst X0.here hx rfl (hb hby d8_26) ?_
    refine XS.icmpYes X0.here hx rfl (pc0 := 27) (pc' := 45) rfl (hb hby d8_27) rfl (flt (own_c1 hc)).2.1 (by decide) (by decide) ?_
    refine XS.lloadN X0.here hx rfl (hb hby d8_45) rfl ?_
    refine X0.ldc2Long hx hown (mvT hZ (W 42 rfl)) (g := (mkF m 46 #[.val (.ref r0), .val (.long (1 : Int64)), .second, .val (.ref r0), .val (.int (1 : Int32)), .val (.int (0 : Int32)), .val (.int pc)] [(.long (1 : Int64))])) rfl (hb hby d8_46) _ ?_
    refine XS.iload X0.here hx rfl (hb hby d8_49) rfl ?_
    refine XS.i2l X0.here hx rfl (hb hby d8_51) rfl ?_
    refine XS.ldiv X0.here hx rfl (hb hby d8_52) rfl (own_c2 hc) ?_
    refine XS.lcmp X0.here hx rfl (hb hby d8_53) rfl ?_
    refine XS.ifYes X0.here hx rfl (pc0 := 54) (pc' := 61) rfl (hb hby d8_54) rfl ((if0 _ _).trans (flt (fun q => (own_c3 hc) ((lw_gt _ _).mp q))).2.2.2) (by decide) (by decide) ?_
    refine XS.lloadN X0.here hx rfl (hb hby d8_61) rfl ?_
    refine XS.iload X0.here hx rfl (hb hby d8_62) rfl ?_
    refine XS.i2l X0.here hx rfl (hb hby d8_64) rfl ?_
    refine XS.lmul X0.here hx rfl (hb hby d8_65) rfl ?_
    refine XS.lstoreN X0.here hx rfl (hb hby d8_66) rfl (l' := #[.val (.ref r0), .val (.long ((1 : Int64) * (pc.toInt64))), .second, .val (.ref r0), .val (.int (1 : Int32)), .val (.int (0 : Int32)), .val (.int pc)]) rfl ?_
    refine XS.iinc X0.here hx rfl (hb hby d8_67) rfl (l' := #[.val (.ref r0), .val (.long ((1 : Int64) * (pc.toInt64))), .second, .val (.ref r0), .val (.int (1 : Int32)), .val (.int ((0 : Int32) + (1 : Int32))), .val (.int pc)]) rfl ?_
    show Steps p.tables e below (s₁.setTop (mkF m 70 #[.val (.ref r0), .val (.long ((1 : Int64) * (pc.toInt64))), .second, .val (.ref r0), .val (.int (1 : Int32)), .val (.int ((0 : Int32) + (1 : Int32))), .val (.int pc)] [])) _
    rw [show ((0 : Int32) + (1 : Int32)) = (1 : Int32) from (by decide)]
    refine XS.goto X0.here hx rfl (pc0 := 70) (pc' := 11) rfl (hb hby d8_70) (by decide) (by decide) ?_
    refine XS.iload X0.here hx rfl (hb hby d8_11) rfl ?_
    refine XS.iload X0.here hx rfl (hb hby d8_13) rfl ?_
    refine XS.icmpYes X0.here hx rfl (pc0 := 15) (pc' := 73) rfl (hb hby d8_15) rfl (flt (by decide : ¬ ((1 : Int32) < (1 : Int32)))).2.1 (by decide) (by decide) ?_
    refine XS.lloadN X0.here hx rfl (hb hby d8_73) rfl ?_
    show Steps p.tables e below (s₁.setTop (mkF m 74 #[.val (.ref r0), .val (.long ((1 : Int64) * (pc.toInt64))), .second, .val (.ref r0), .val (.int (1 : Int32)), .val (.int (1 : Int32)), .val (.int pc)] [(.long ((1 : Int64) * (pc.toInt64)))])) _
    exact own_retJ X0 hx Bd.returns (hb hby d8_74) hr
  · show Q_ts_0 Z pc h0 n0 _ s₁.heap _
    rw [e0]
    exact ⟨rfl, N0, rfl⟩
theorem d3_0 : decode prog_60_method_11_code 0 = .ok (.aload_n 0, 1) := by decide +kernel
theorem d3_1 : decode prog_60_method_11_code 1 = .ok (.arraylength, 1) := by decide +kernel
theorem d3_2 : decode prog_60_method_11_code 2 = .ok (.aload_n 1, 1) := by decide +kernel
theorem d3_3 : decode prog_60_method_11_code 3 = .ok (.arraylength, 1) := by decide +kernel
theorem d3_4 : decode prog_60_method_11_code 4 = .ok (.if_icmp .eq 20, 3) := by decide +kernel
theorem d3_24 : decode prog_60_method_11_code 24 = .ok (.aload_n 0, 1) := by decide +kernel
theorem d3_25 : decode prog_60_method_11_code 25 = .ok (.astore_n 2, 1) := by decide +kernel
theorem d3_26 : decode prog_60_method_11_code 26 = .ok (.aload_n 2, 1) := by decide +kernel
theorem d3_27 : decode prog_60_method_11_code 27 = .ok (.arraylength, 1) := by decide +kernel
theorem d3_28 : decode prog_60_method_11_code 28 = .ok (.istore_n 3, 1) := by decide +kernel
theorem d3_29 : decode prog_60_method_11_code 29 = .ok (.iconst 0, 1) := by decide +kernel
theorem d3_30 : decode prog_60_method_11_code 30 = .ok (.istore 4, 2) := by decide +kernel
theorem d3_32 : decode prog_60_method_11_code 32 = .ok (.iload 4, 2) := by decide +kernel
theorem d3_34 : decode prog_60_method_11_code 34 = .ok (.iload_n 3, 1) := by decide +kernel
theorem d3_35 : decode prog_60_method_11_code 35 = .ok (.if_icmp .ge 35, 3) := by decide +kernel
theorem d3_38 : decode prog_60_method_11_code 38 = .ok (.aload_n 2, 1) := by decide +kernel
theorem d3_39 : decode prog_60_method_11_code 39 = .ok (.iload 4, 2) := by decide +kernel
theorem d3_41 : decode prog_60_method_11_code 41 = .ok (.iaload, 1) := by decide +kernel
theorem d3_42 : decode prog_60_method_11_code 42 = .ok (.istore 5, 2) := by decide +kernel
theorem d3_44 : decode prog_60_method_11_code 44 = .ok (.iload 5, 2) := by decide +kernel
theorem d3_46 : decode prog_60_method_11_code 46 = .ok (.ifCond .ge 18, 3) := by decide +kernel
theorem d3_64 : decode prog_60_method_11_code 64 = .ok (.iinc 4 1, 3) := by decide +kernel
theorem d3_67 : decode prog_60_method_11_code 67 = .ok (.goto (-35), 3) := by decide +kernel
theorem d3_70 : decode prog_60_method_11_code 70 = .ok (.aload_n 0, 1) := by decide +kernel
theorem d3_71 : decode prog_60_method_11_code 71 = .ok (.invokevirtual 41, 3) := by decide +kernel
theorem d3_74 : decode prog_60_method_11_code 74 = .ok (.checkcast 42, 3) := by decide +kernel
theorem d3_77 : decode prog_60_method_11_code 77 = .ok (.astore_n 2, 1) := by decide +kernel
theorem d3_78 : decode prog_60_method_11_code 78 = .ok (.aload_n 2, 1) := by decide +kernel
theorem d3_79 : decode prog_60_method_11_code 79 = .ok (.invokestatic 94, 3) := by decide +kernel
theorem pd_3 : parseMethodDescriptor "([I)V" = some ⟨[(.array .int)], none⟩ := by decide +kernel
theorem d3_82 : decode prog_60_method_11_code 82 = .ok (.iconst 1, 1) := by decide +kernel
theorem d3_83 : decode prog_60_method_11_code 83 = .ok (.istore_n 3, 1) := by decide +kernel
theorem d3_84 : decode prog_60_method_11_code 84 = .ok (.iload_n 3, 1) := by decide +kernel
theorem d3_85 : decode prog_60_method_11_code 85 = .ok (.aload_n 2, 1) := by decide +kernel
theorem d3_86 : decode prog_60_method_11_code 86 = .ok (.arraylength, 1) := by decide +kernel
theorem d3_87 : decode prog_60_method_11_code 87 = .ok (.if_icmp .ge 36, 3) := by decide +kernel
theorem d3_123 : decode prog_60_method_11_code 123 = .ok (.aload_n 1, 1) := by decide +kernel
theorem d3_124 : decode prog_60_method_11_code 124 = .ok (.invokestatic 15, 3) := by decide +kernel
theorem pd_4 : parseMethodDescriptor "([I)J" = some ⟨[(.array .int)], some .long⟩ := by decide +kernel
theorem d3_127 : decode prog_60_method_11_code 127 = .ok (.pop2, 1) := by decide +kernel
theorem d3_128 : decode prog_60_method_11_code 128 = .ok (.return_, 1) := by decide +kernel
abbrev Rrm_cs_0 : Room := ({ frames := 4, cells := 1, slots := 1, locals := 79 } : Room)
theorem ef_rm_cs_0 (m : MethodId) (r0 : Addr) (r1 : Addr) : entryFrame m #[(.ref r0), (.ref r1)] 6 = mkF m 0 #[.val (.ref r0), .val (.ref r1), .unset, .unset, .unset, .unset] [] := by first | (simp [entryFrame, mkF, argsToLocals, Value.category]; done) | rfl
def Q_cs_0 (Z : State) (r0 : Addr) (h0 : Heap) (n0 : Nat) (v : Option Value) (h : Heap) (L : List Loc) : Prop := v = none ∧ Fr n0 L ∧ Keep h0 h []
set_option maxRecDepth 65536 in
set_option maxHeartbeats 40000000 in
theorem rm_cs_0 (l : Launch) (Z : State) (a0 : Array Value) (hw : ∀ d ∈ tables_1, d.before a0 Z = true) (ws : List Jvm.Cond) (r0 : Addr) (r1 : Addr) (pc : Int32) (k_r0 : ClassId) (k_r1 : ClassId) (h0 : Heap) (n0 : Nat) (Z0 : n0 ≤ h0.size) (V_r0 : Arv Z h0 r0 k_r0 .int (1 : Int32) [(.int (4 : Int32))] (.int (0 : Int32))) (E_r0 : Exa Z h0 r0 "[I") (V_r1 : Arv Z h0 r1 k_r1 .int (1 : Int32) [(.int pc)] (.int (0 : Int32))) (hc : pc = 1 ∨ pc = 2 ∨ pc = 3) :
    MetFree l (⟨"com/example/beliefwire/beliefwire/model/Factor", "checkScope", "([I[I)V"⟩ : MethodName) (head1 (Jvm.Cond.code (⟨"com/example/beliefwire/beliefwire/model/Factor", "checkScope", "([I[I)V"⟩ : MethodName) prog_60_method_11_code 6 none :: ws) Rrm_cs_0) (fun a U => a = #[(.ref r0), (.ref r1)] ∧ Z.Warmed39 U.vm ∧ U.heap = h0) (fun _ _ _ _ _ => True) (fun _ U o U' => ∃ v L, o = .returned v ∧ Q_cs_0 Z r0 h0 n0 v U'.heap L ∧ FrameEnd U o U' L Rrm_cs_0.cells Rrm_cs_0.slots) := by
  refine MetFree.of_bodySF (plainFor_of_name pn_2) hisR ?_
  intro p e s m args below meth c s₁ Bd hml0 hP hK
  obtain ⟨rfl, hZ, hh⟩ := hP
  have hx := Bd.exec
  have hby := Bd.bytes
  have hml : c.maxLocals = 6 := hml0
  have hown : s.vm.findClass "com/example/beliefwire/beliefwire/model/Factor" = some m.cls := findClass_of_methodNamed Bd.named
  have hnm := (name_of_methodNamed Bd.named Bd.method).1
  have X0 : Stand p l e Rrm_cs_0 s m #[(.ref r0), (.ref r1)] below meth c s₁ [] 0 0 := Stand.of_body Bd
  have e0 : s₁.heap = h0 := by rw [← hh, Bd.state]; rfl
  have N0 := Fr.nil n0
  have W := @own_W a0 Z hw
  have pre0 : ∀ t, Steps p.tables e below (s₁.setTop (mkF m 0 #[.val (.ref r0), .val (.ref r1), .unset, .unset, .unset, .unset] [])) t → Steps p.tables e below (s₁.setTop (entryFrame m #[(.ref r0), (.ref r1)] 6)) t := fun t k => castTop (ef_rm_cs_0 m r0 r1) k
  obtain ⟨cl_r0_1, Ar_r0_1, q_r0_1, S_r0_1, N_r0_1, H_r0_1, G_r0_1⟩ := id V_r0
  have Al_r0_1 := State.isArrayOf_alike hZ.alike Ar_r0_1.2.1
  obtain ⟨cl_r1_2, Ar_r1_2, q_r1_2, S_r1_2, N_r1_2, H_r1_2, G_r1_2⟩ := id V_r1
  have Al_r1_2 := State.isArrayOf_alike hZ.alike Ar_r1_2.2.1
  have hin_r0_1_0 : ¬ ((0 : Int32) < 0 ∨ cl_r0_1.slots.size ≤ ((0 : Int32)).toNatClampNeg) := inb_of S_r0_1 ⟨by decide, by decide⟩
  have hat_r0_1_0 : cl_r0_1.slots[((0 : Int32)).toNatClampNeg]? = some (.int (4 : Int32)) := H_r0_1 _ (by rw [S_r0_1]; decide)
  obtain ⟨T3, h3, X3, e3, E3, V3, B3, st3⟩ := cloneH X0 hx hZ hown (W 16 rfl) (W 17 rfl) (W 21 rfl) (W 19 rfl) (W 20 rfl) (W 22 rfl) e0 (Arv.arh V_r0) E_r0 (g := (mkF m 71 #[.val (.ref r0), .val (.ref r1), .val (.ref r0), .val (.int (1 : Int32)), .val (.int (1 : Int32)), .val (.int (4 : Int32))] [(.ref r0)])) rfl (by rw [hml]; rfl) rfl (hb hby d3_71) (by decide) (W := 0) (cap := 1) (own_le rfl) (by decide) (by decide) (by decide) (by decide)
  obtain ⟨b3, gg3⟩ : ∃ z, z = h0.size := ⟨_, rfl⟩
  rw [← gg3] at V3 B3 st3
  have g_b3 : n0 ≤ b3 := Nat.le_trans Z0 (Nat.le_of_eq gg3.symm)
  have sz_b3 : h0.size ≤ b3 := Nat.le_trans (Nat.le_refl h0.size) (Nat.le_of_eq gg3.symm)
  have V_b3 : Arv Z h3 b3 k_r0 .int (1 : Int32) [(.int (4 : Int32))] (.int (0 : Int32)) := V3
  obtain ⟨T4, X4, e4, st4⟩ := castY X3 hx hZ hown (W 23 rfl) e3 (Ins.self B3) (g := (mkF m 74 #[.val (.ref r0), .val (.ref r1), .val (.ref r0), .val (.int (1 : Int32)), .val (.int (1 : Int32)), .val (.int (4 : Int32))] [(.ref b3)])) rfl rfl (hb hby d3_74)
  have Z6z : n0 ≤ h3.size := (Nat.le_trans Z0 E3.1)
  obtain ⟨_, _, ⟨T5, L5, k5, n5⟩, -, X5, ⟨Lc5, hQ5, l5, y5, z5⟩, st5⟩ := Jvm.LawKit.callS X4 hx (y := (⟨"java/util/Arrays", "sort", "([I)V"⟩ : MethodName)) hown (mvT hZ (W 25 rfl)) (mvT hZ (W 26 rfl)) (mvT hZ (W 27 rfl)) (mvT hZ (W 28 rfl)) (by decide) (backOf (W := 0) (rm_srt4_0 l Z a0 hw [] b3 k_r0 h3 n0 Z6z V_b3 g_b3) hZ (W 28 rfl) (W 27 rfl) (by decide) (by decide)) (g := (mkF m 79 #[.val (.ref r0), .val (.ref r1), .val (.ref b3), .val (.int (1 : Int32)), .val (.int (1 : Int32)), .val (.int (4 : Int32))] [(.ref b3)])) rfl (by rw [hml]; rfl) (argsL := [(.ref b3)]) (rest := []) (lenOf pd_3 rfl) rfl (own_le rfl) (hb hby d3_79) (fun _ _ => ⟨rfl, e4, (by decide : 1 + 0 ≤ _), (by decide : 1 + 0 ≤ _)⟩)
  dsimp only [Pt.U, Pt.locs, Pt.cells, Pt.slots] at X5 l5 y5 z5 st5 hQ5
  subst l5 y5 z5
  obtain ⟨rfl, N5q, K5, V5⟩ := hQ5
  have N5 := Fr.app N0 N5q
  obtain ⟨LL5, X5, N5⟩ := own_hide X5 N5
  obtain ⟨cl_b3_7, Ar_b3_7, q_b3_7, S_b3_7, N_b3_7, H_b3_7, G_b3_7⟩ := id V5
  have Al_b3_7 := State.isArrayOf_alike hZ.alike Ar_b3_7.2.1
  have Z9z : n0 ≤ T5.heap.size := (Nat.le_trans Z6z K5.1)
  have ne_r1_b3 : r1 ≠ b3 := Nat.ne_of_lt (Nat.lt_of_lt_of_le (V_r1).lt (Nat.le_of_eq gg3.symm))
  have V_r1_10 := ((V_r1.ext E3).keep K5 (own_nin1 ne_r1_b3))
  obtain ⟨_, _, ⟨T8, L8, k8, n8⟩, -, X8, ⟨Lc8, hQ8, l8, y8, z8⟩, st8⟩ := Jvm.LawKit.callS X5 hx (y := (⟨"com/example/beliefwire/beliefwire/model/Factor", "tableSize", "([I)J"⟩ : MethodName)) hown (mvT hZ (W 39 rfl)) (mvT hZ (W 40 rfl)) (mvT hZ (W 6 rfl)) (mvT hZ (W 41 rfl)) (by decide) (backOf (W := 0) (rm_ts_0 l Z a0 hw [] r1 pc k_r1 T5.heap n0 Z9z V_r1_10 hc) hZ (W 41 rfl) (W 6 rfl) (by decide) (by decide)) (g := (mkF m 124 #[.val (.ref r0), .val (.ref r1), .val (.ref b3), .val (.int (1 : Int32)), .val (.int (1 : Int32)), .val (.int (4 : Int32))] [(.ref r1)])) rfl (by rw [hml]; rfl) (argsL := [(.ref r1)]) (rest := []) (lenOf pd_4 rfl) rfl (own_le rfl) (hb hby d3_124) (fun _ _ => ⟨rfl, rfl, (by decide : 1 + 0 ≤ _), (by decide : 1 + 0 ≤ _)⟩)
  dsimp only [Pt.U, Pt.locs, Pt.cells, Pt.slots] at X8 l8 y8 z8 st8 hQ8
  subst l8 y8 z8
  obtain ⟨rfl, N8q, eq8⟩ := hQ8
  have N8 := Fr.app N5 N8q
  obtain ⟨LL8, X8, N8⟩ := own_hide X8 N8
  have KK11 : Keep h0 T5.heap [] := (((Keep.refl h0 []).ext E3).trans K5 (own_in1 (Or.inr sz_b3)))
  obtain ⟨fs, hr, hrun, hended, hW, hsame⟩ := X8.leave (v := none) (fun _ => rfl)
  refine ⟨_, _, pre0 _ ?_, hrun, hended, _, _, rfl, ?_, ⟨_, rfl⟩, hW, hsame.mono (by decide) (by decide)⟩
  · show Steps p.tables e below (s₁.setTop (mkF m 0 #[.val (.ref r0), .val (.ref r1), .unset, .unset, .unset, .unset] [])) _
    refine XS.aloadN X0.here hx rfl (hb hby d3_0) rfl rfl ?_
    refine X0.arraylength hx (by rw [e0]; exact Ar_r0_1.1) Al_r0_1 (g := (mkF m 1 #[.val (.ref r0), .val (.ref r1), .unset, .unset, .unset, .unset] [(.ref r0)])) rfl rfl (hb hby d3_1) _ ?_
    rw [len_of S_r0_1 N_r0_1]
    refine XS.aloadN X0.here hx rfl (hb hby d3_2) rfl rfl ?_
    refine X0.arraylength hx (by rw [e0]; exact Ar_r1_2.1) Al_r1_2 (g := (mkF m 3 #[.val (.ref r0), .val (.ref r1), .unset, .unset, .unset, .unset] [(.ref r1), (.int (1 : Int32))])) rfl rfl (hb hby d3_3) _ ?_
    rw [len_of S_r1_2 N_r1_2]
    refine XS.icmpYes X0.here hx rfl (pc0 := 4) (pc' := 24) rfl (hb hby d3_4) rfl (teq (by decide : (1 : Int32) = (1 : Int32))).1 (by decide) (by decide) ?_
    refine XS.aloadN X0.here hx rfl (hb hby d3_24) rfl rfl ?_
    refine XS.astoreN X0.here hx rfl (hb hby d3_25) rfl rfl (l' := #[.val (.ref r0), .val (.ref r1), .val (.ref r0), .unset, .unset, .unset]) rfl ?_
    refine XS.aloadN X0.here hx rfl (hb hby d3_26) rfl rfl ?_
    refine X0.arraylength hx (by rw [e0]; exact Ar_r0_1.1) Al_r0_1 (g := (mkF m 27 #[.val (.ref r0), .val (.ref r1), .val (.ref r0), .unset, .unset, .unset] [(.ref r0)])) rfl rfl (hb hby d3_27) _ ?_
    rw [len_of S_r0_1 N_r0_1]
    refine XS.istoreN X0.here hx rfl (hb hby d3_28) rfl (l' := #[.val (.ref r0), .val (.ref r1), .val (.ref r0), .val (.int (1 : Int32)), .unset, .unset]) rfl ?_
    refine XS.iconst X0.here hx rfl (hb hby d3_29) ?_
    refine XS.istore X0.here hx rfl (hb hby d3_30) rfl (l' := #[.val (.ref r0), .val (.ref r1), .val (.ref r0), .val (.int (1 : Int32)), .val (.int (0 : Int32)), .unset]) rfl ?_
    refine XS.iload X0.here hx rfl (hb hby d3_32) rfl ?_
    refine XS.iloadN X0.here hx rfl (hb hby d3_34) rfl ?_
    refine XS.icmpNo X0.here hx rfl (hb hby d3_35) rfl (tlt (by decide : (0 : Int32) < (1 : Int32))).2.1 ?_
    refine XS.aloadN X0.here hx rfl (hb hby d3_38) rfl rfl ?_
    refine XS.iload X0.here hx rfl (hb hby d3_39) rfl ?_
    refine X0.iaload hx (j := (0 : Int32)) (v := (.int (4 : Int32))) (by rw [e0]; exact Ar_r0_1.1) Al_r0_1 Ar_r0_1.2.2 hin_r0_1_0 hat_r0_1_0 (g := (mkF m 41 #[.val (.ref r0), .val (.ref r1), .val (.ref r0), .val (.int (1 : Int32)), .val (.int (0 : Int32)), .unset] [(.int (0 : Int32)), (.ref r0)])) rfl rfl (hb hby d3_41) _ ?_
    refine XS.istore X0.here hx rfl (hb hby d3_42) rfl (l' := #[.val (.ref r0), .val (.ref r1), .val (.ref r0), .val (.int (1 : Int32)), .val (.int (0 : Int32)), .val (.int (4 : Int32))]) rfl ?_
    refine XS.iload X0.here hx rfl (hb hby d3_44) rfl ?_
    refine XS.ifYes X0.here hx rfl (pc0 := 46) (pc' := 64) rfl (hb hby d3_46) rfl ((if0 _ _).trans (flt (by decide : ¬ ((4 : Int32) < (0 : Int32)))).2.1) (by decide) (by decide) ?_
    refine XS.iinc X0.here hx rfl (hb hby d3_64) rfl (l' := #[.val (.ref r0), .val (.ref r1), .val (.ref r0), .val (.int (1 : Int32)), .val (.int ((0 : Int32) + (1 : Int32))), .val (.int (4 : Int32))]) rfl ?_
    show Steps p.tables e below (s₁.setTop (mkF m 67 #[.val (.ref r0), .val (.ref r1), .val (.ref r0), .val (.int (1 : Int32)), .val (.int ((0 : Int32) + (1 : Int32))), .val (.int (4 : Int32))] [])) _
    rw [show ((0 : Int32) + (1 : Int32)) = (1 : Int32) from (by decide)]
    refine XS.goto X0.here hx rfl (pc0 := 67) (pc' := 32) rfl (hb hby d3_67) (by decide) (by decide) ?_
    refine XS.iload X0.here hx rfl (hb hby d3_32) rfl ?_
    refine XS.iloadN X0.here hx rfl (hb hby d3_34) rfl ?_
    refine XS.icmpYes X0.here hx rfl (pc0 := 35) (pc' := 70) rfl (hb hby d3_35) rfl (flt (by decide : ¬ ((1 : Int32) < (1 : Int32)))).2.1 (by decide) (by decide) ?_
    refine XS.aloadN X0.here hx rfl (hb hby d3_70) rfl rfl ?_
    refine st3 _ ?_
    refine st4 _ ?_
    refine XS.astoreN X4.here hx rfl (hb hby d3_77) rfl rfl (l' := #[.val (.ref r0), .val (.ref r1), .val (.ref b3), .val (.int (1 : Int32)), .val (.int (1 : Int32)), .val (.int (4 : Int32))]) rfl ?_
    refine XS.aloadN X4.here hx rfl (hb hby d3_78) rfl rfl ?_
    refine st5 _ ?_
    refine XS.iconst X5.here hx rfl (hb hby d3_82) ?_
    refine XS.istoreN X5.here hx rfl (hb hby d3_83) rfl (l' := #[.val (.ref r0), .val (.ref r1), .val (.ref b3), .val (.int (1 : Int32)), .val (.int (1 : Int32)), .val (.int (4 : Int32))]) rfl ?_
    refine XS.iloadN X5.here hx rfl (hb hby d3_84) rfl ?_
    refine XS.aloadN X5.here hx rfl (hb hby d3_85) rfl rfl ?_
    refine X5.arraylength hx Ar_b3_7.1 Al_b3_7 (g := (mkF m 86 #[.val (.ref r0), .val (.ref r1), .val (.ref b3), .val (.int (1 : Int32)), .val (.int (1 : Int32)), .val (.int (4 : Int32))] [(.ref b3), (.int (1 : Int32))])) rfl rfl (hb hby d3_86) _ ?_
    rw [len_of S_b3_7 N_b3_7]
    refine XS.icmpYes X5.here hx rfl (pc0 := 87) (pc' := 123) rfl (hb hby d3_87) rfl (flt (by decide : ¬ ((1 : Int32) < (1 : Int32)))).2.1 (by decide) (by decide) ?_
    refine XS.aloadN X5.here hx rfl (hb hby d3_123) rfl rfl ?_
    refine st8 _ ?_
    show Steps p.tables e below (T8.setTop (mkF m 127 #[.val (.ref r0), .val (.ref r1), .val (.ref b3), .val (.int (1 : Int32)), .val (.int (1 : Int32)), .val (.int (4 : Int32))] [(.long ((1 : Int64) * (pc.toInt64)))])) _
    jvm_step X8.here [X8.here.top, hx, (hb hby d3_127), Value.category]
    show Steps p.tables e below (T8.setTop (mkF m 128 #[.val (.ref r0), .val (.ref r1), .val (.ref b3), .val (.int (1 : Int32)), .val (.int (1 : Int32)), .val (.int (4 : Int32))] [])) _
    exact X8.returnOut hx Bd.returns (hb hby d3_128) hr
  · show Q_cs_0 Z r0 h0 n0 _ T8.heap _
    rw [eq8]
    exact ⟨rfl, N8, KK11⟩
abbrev Rrm_ts_1 : Room := ({ frames := 0, cells := 0, slots := 0, locals := 0 } : Room)
theorem ef_rm_ts_1 (m : MethodId) (r0 : Addr) : entryFrame m #[(.ref r0)] 7 = mkF m 0 #[.val (.ref r0), .unset, .unset, .unset, .unset, .unset, .unset] [] := by first | (simp [entryFrame, mkF, argsToLocals, Value.category]; done) | rfl
def Q_ts_1 (Z : State) (pc : Int32) (h0 : Heap) (n0 : Nat) (v : Option Value) (h : Heap) (L : List Loc) : Prop := v = some (.long ((2 : Int64) * (pc.toInt64))) ∧ Fr n0 L ∧ h = h0
set_option maxRecDepth 65536 in
set_option maxHeartbeats 40000000 in
theorem rm_ts_1 (l : Launch) (Z : State) (a0 : Array Value) (hw : ∀ d ∈ tables_1, d.before a0 Z = true) (ws : List Jvm.Cond) (r0 : Addr) (pc : Int32) (k_r0 : ClassId) (h0 : Heap) (n0 : Nat) (Z0 : n0 ≤ h0.size) (V_r0 : Arv Z h0 r0 k_r0 .int (2 : Int32) [(.int (2 : Int32)), (.int pc)] (.int (0 : Int32))) (hc : pc = 1 ∨ pc = 2 ∨ pc = 3) :
    MetFree l (⟨"com/example/beliefwire/beliefwire/model/Factor", "tableSize", "([I)J"⟩ : MethodName) (head1 (Jvm.Cond.code (⟨"com/example/beliefwire/beliefwire/model/Factor", "tableSize", "([I)J"⟩ : MethodName) prog_60_method_3_code 7 (some .long) :: ws) Rrm_ts_1) (fun a U => a = #[(.ref r0)] ∧ Z.Warmed39 U.vm ∧ U.heap = h0) (fun _ _ _ _ _ => True) (fun _ U o U' => ∃ v L, o = .returned v ∧ Q_ts_1 Z pc h0 n0 v U'.heap L ∧ FrameEnd U o U' L Rrm_ts_1.cells Rrm_ts_1.slots) := by
  refine MetFree.of_bodySF (plainFor_of_name pn_2) hisR ?_
  intro p e s m args below meth c s₁ Bd hml0 hP hK
  obtain ⟨rfl, hZ, hh⟩ := hP
  have hx := Bd.exec
  have hby := Bd.bytes
  have hml : c.maxLocals = 7 := hml0
  have hown : s.vm.findClass "com/example/beliefwire/beliefwire/model/Factor" = some m.cls := findClass_of_methodNamed Bd.named
  have hnm := (name_of_methodNamed Bd.named Bd.method).1
  have X0 : Stand p l e Rrm_ts_1 s m #[(.ref r0)] below meth c s₁ [] 0 0 := Stand.of_body Bd
  have e0 : s₁.heap = h0 := by rw [← hh, Bd.state]; rfl
  have N0 := Fr.nil n0
  have W := @own_W a0 Z hw
  have pre0 : ∀ t, Steps p.tables e below (s₁.setTop (mkF m 0 #[.val (.ref r0), .unset, .unset, .unset, .unset, .unset, .unset] [])) t → Steps p.tables e below (s₁.setTop (entryFrame m #[(.ref r0)] 7)) t := fun t k => castTop (ef_rm_ts_1 m r0) k
  obtain ⟨cl_r0_1, Ar_r0_1, q_r0_1, S_r0_1, N_r0_1, H_r0_1, G_r0_1⟩ := id V_r0
  have Al_r0_1 := State.isArrayOf_alike hZ.alike Ar_r0_1.2.1
  have hin_r0_1_0 : ¬ ((0 : Int32) < 0 ∨ cl_r0_1.slots.size ≤ ((0 : Int32)).toNatClampNeg) := inb_of S_r0_1 ⟨by decide, by decide⟩
  have hat_r0_1_0 : cl_r0_1.slots[((0 : Int32)).toNatClampNeg]? = some (.int (2 : Int32)) := H_r0_1 _ (by rw [S_r0_1]; decide)
  have hin_r0_1_1 : ¬ ((1 : Int32) < 0 ∨ cl_r0_1.slots.size ≤ ((1 : Int32)).toNatClampNeg) := inb_of S_r0_1 ⟨by decide, by decide⟩
  have hat_r0_1_1 : cl_r0_1.slots[((1 : Int32)).toNatClampNeg]? = some (.int pc) := H_r0_1 _ (by rw [S_r0_1]; decide)
  obtain ⟨fs, hr, hrun, hended, hW, hsame⟩ := X0.leave (v := some (.long ((2 : Int64) * (pc.toInt64)))) (fun h => by rw [Bd.returns] at h; cases h)
  refine ⟨_, _, pre0 _ ?_, hrun, hended, _, _, rfl, ?_, ⟨_, rfl⟩, hW, hsame.mono (by decide) (by decide)⟩
  · show Steps p.tables e below (s₁.setTop (mkF m 0 #[.val (.ref r0), .unset, .unset, .unset, .unset, .unset, .unset] [])) _
    refine XS.lconst X0.here hx rfl (hb hby d8_0) ?_
    refine XS.lstoreN X0.here hx rfl (hb hby d8_1) rfl (l' := #[.val (.ref r0), .val (.long (1 : Int64)), .second, .unset, .unset, .unset, .unset]) rfl ?_
    refine XS.aloadN X0.here hx rfl (hb hby d8_2) rfl rfl ?_
    refine XS.astoreN X0.here hx rfl (hb hby d8_3) rfl rfl (l' := #[.val (.ref r0), .val (.long (1 : Int64)), .second, .val (.ref r0), .unset, .unset, .unset]) rfl ?_
    refine XS.aloadN X0.here hx rfl (hb hby d8_4) rfl rfl ?_
    refine X0.arraylength hx (by rw [e0]; exact Ar_r0_1.1) Al_r0_1 (g := (mkF m 5 #[.val (.ref r0), .val (.long (1 : Int64)), .second, .val (.ref r0), .unset, .unset, .unset] [(.ref r0)])) rfl rfl (hb hby d8_5) _ ?_
    rw [len_of S_r0_1 N_r0_1]
    refine XS.istore X0.here hx rfl (hb hby d8_6) rfl (l' := #[.val (.ref r0), .val (.long (1 : Int64)), .second, .val (.ref r0), .val (.int (2 : Int32)), .unset, .unset]) rfl ?_
    refine XS.iconst X0.here hx rfl (hb hby d8_8) ?_
    refine XS.istore X0.here hx rfl (hb hby d8_9) rfl (l' := #[.val (.ref r0), .val (.long (1 : Int64)), .second, .val (.ref r0), .val (.int (2 : Int32)), .val (.int (0 : Int32)), .unset]) rfl ?_
    refine XS.iload X0.here hx rfl (hb hby d8_11) rfl ?_
    refine XS.iload X0.here hx rfl (hb hby d8_13) rfl ?_
    refine XS.icmpNo X0.here hx rfl (hb hby d8_15) rfl (tlt (by decide : (0 : Int32) < (2 : Int32))).2.1 ?_
    refine XS.aloadN X0.here hx rfl (hb hby d8_18) rfl rfl ?_
    refine XS.iload X0.here hx rfl (hb hby d8_19) rfl ?_
    refine X0.iaload hx (j := (0 : Int32)) (v := (.int (2 : Int32))) (by rw [e0]; exact Ar_r0_1.1) Al_r0_1 Ar_r0_1.2.2 hin_r0_1_0 hat_r0_1_0 (g := (mkF m 21 #[.val (.ref r0), .val (.long (1 : Int64)), .second, .val (.ref r0), .val (.int (2 : Int32)), .val (.int (0 : Int32)), .unset] [(.int (0 : Int32)), (.ref r0)])) rfl rfl (hb hby d8_21) _ ?_
    refine XS.istore X0.here hx rfl (hb hby d8_22) rfl (l' := #[.val (.ref r0), .val (.long (1 : Int64)), .second, .val (.ref r0), .val (.int (2 : Int32)), .val (.int (0 : Int32)), .val (.int (2 : Int32))]) rfl ?_
    refine XS.iload X0.here hx rfl (hb hby d8_24) rfl ?_
    refine XS.iconst X0.here hx rfl (hb hby d8_26) ?_
    refine XS.icmpYes X0.here hx rfl (pc0 := 27) (pc' := 45) rfl (hb hby d8_27) rfl (flt (by decide : ¬ ((2 : Int32) < (1 : Int32)))).2.1 (by decide) (by decide) ?_
    refine XS.lloadN X0.here hx rfl (hb hby d8_45) rfl ?_
    refine X0.ldc2Long hx hown (mvT hZ (W 42 rfl)) (g := (mkF m 46 #[.val (.ref r0), .val (.long (1 : Int64)), .second, .val (.ref r0), .val (.int (2 : Int32)), .val (.int (0 : Int32)), .val (.int (2 : Int32))] [(.long (1 : Int64))])) rfl (hb hby d8_46) _ ?_
    refine XS.iload X0.here hx rfl (hb hby d8_49) rfl ?_
    refine XS.i2l X0.here hx rfl (hb hby d8_51) rfl ?_
    show Steps p.tables e below (s₁.setTop (mkF m 52 #[.val (.ref r0), .val (.long (1 : Int64)), .second, .val (.ref r0), .val (.int (2 : Int32)), .val (.int (0 : Int32)), .val (.int (2 : Int32))] [(.long ((2 : Int32).toInt64)), (.long (9223372036854775807 : Int64)), (.long (1 : Int64))])) _
    rw [show ((2 : Int32).toInt64) = (2 : Int64) from (by decide)]
    refine XS.ldiv X0.here hx rfl (hb hby d8_52) rfl (by decide) ?_
    show Steps p.tables e below (s₁.setTop (mkF m 53 #[.val (.ref r0), .val (.long (1 : Int64)), .second, .val (.ref r0), .val (.int (2 : Int32)), .val (.int (0 : Int32)), .val (.int (2 : Int32))] [(.long ((9223372036854775807 : Int64) / (2 : Int64))), (.long (1 : Int64))])) _
    rw [show ((9223372036854775807 : Int64) / (2 : Int64)) = (4611686018427387903 : Int64) from (by decide)]
    refine XS.lcmp X0.here hx rfl (hb hby d8_53) rfl ?_
    refine XS.ifYes X0.here hx rfl (pc0 := 54) (pc' := 61) rfl (hb hby d8_54) rfl ((if0 _ _).trans (flt (fun q => (by decide : ¬ ((4611686018427387903 : Int64) < (1 : Int64))) ((lw_gt _ _).mp q))).2.2.2) (by decide) (by decide) ?_
    refine XS.lloadN X0.here hx rfl (hb hby d8_61) rfl ?_
    refine XS.iload X0.here hx rfl (hb hby d8_62) rfl ?_
    refine XS.i2l X0.here hx rfl (hb hby d8_64) rfl ?_
    show Steps p.tables e below (s₁.setTop (mkF m 65 #[.val (.ref r0), .val (.long (1 : Int64)), .second, .val (.ref r0), .val (.int (2 : Int32)), .val (.int (0 : Int32)), .val (.int (2 : Int32))] [(.long ((2 : Int32).toInt64)), (.long (1 : Int64))])) _
    rw [show ((2 : Int32).toInt64) = (2 : Int64) from (by decide)]
    refine XS.lmul X0.here hx rfl (hb hby d8_65) rfl ?_
    show Steps p.tables e below (s₁.setTop (mkF m 66 #[.val (.ref r0), .val (.long (1 : Int64)), .second, .val (.ref r0), .val (.int (2 : Int32)), .val (.int (0 : Int32)), .val (.int (2 : Int32))] [(.long ((1 : Int64) * (2 : Int64)))])) _
    rw [show ((1 : Int64) * (2 : Int64)) = (2 : Int64) from (by decide)]
    refine XS.lstoreN X0.here hx rfl (hb hby d8_66) rfl (l' := #[.val (.ref r0), .val (.long (2 : Int64)), .second, .val (.ref r0), .val (.int (2 : Int32)), .val (.int (0 : Int32)), .val (.int (2 : Int32))]) rfl ?_
    refine XS.iinc X0.here hx rfl (hb hby d8_67) rfl (l' := #[.val (.ref r0), .val (.long (2 : Int64)), .second, .val (.ref r0), .val (.int (2 : Int32)), .val (.int ((0 : Int32) + (1 : Int32))), .val (.int (2 : Int32))]) rfl ?_
    show Steps p.tables e below (s₁.setTop (mkF m 70 #[.val (.ref r0), .val (.long (2 : Int64)), .second, .val (.ref r0), .val (.int (2 : Int32)), .val (.int ((0 : Int32) + (1 : Int32))), .val (.int (2 : Int32))] [])) _
    rw [show ((0 : Int32) + (1 : Int32)) = (1 : Int32) from (by decide)]
    refine XS.goto X0.here hx rfl (pc0 := 70) (pc' := 11) rfl (hb hby d8_70) (by decide) (by decide) ?_
    refine XS.iload X0.here hx rfl (hb hby d8_11) rfl ?_
    refine XS.iload X0.here hx rfl (hb hby d8_13) rfl ?_
    refine XS.icmpNo X0.here hx rfl (hb hby d8_15) rfl (tlt (by decide : (1 : Int32) < (2 : Int32))).2.1 ?_
    refine XS.aloadN X0.here hx rfl (hb hby d8_18) rfl rfl ?_
    refine XS.iload X0.here hx rfl (hb hby d8_19) rfl ?_
    refine X0.iaload hx (j := (1 : Int32)) (v := (.int pc)) (by rw [e0]; exact Ar_r0_1.1) Al_r0_1 Ar_r0_1.2.2 hin_r0_1_1 hat_r0_1_1 (g := (mkF m 21 #[.val (.ref r0), .val (.long (2 : Int64)), .second, .val (.ref r0), .val (.int (2 : Int32)), .val (.int (1 : Int32)), .val (.int (2 : Int32))] [(.int (1 : Int32)), (.ref r0)])) rfl rfl (hb hby d8_21) _ ?_
    refine XS.istore X0.here hx rfl (hb hby d8_22) rfl (l' := #[.val (.ref r0), .val (.long (2 : Int64)), .second, .val (.ref r0), .val (.int (2 : Int32)), .val (.int (1 : Int32)), .val (.int pc)]) rfl ?_
    refine XS.iload X0.here hx rfl (hb hby d8_24) rfl ?_
    refine XS.iconst X0.here hx rfl (hb hby d8_26) ?_
    refine XS.icmpYes X0.here hx rfl (pc0 := 27) (pc' := 45) rfl (hb hby d8_27) rfl (flt (own_c1 hc)).2.1 (by decide) (by decide) ?_
    refine XS.lloadN X0.here hx rfl (hb hby d8_45) rfl ?_
    refine X0.ldc2Long hx hown (mvT hZ (W 42 rfl)) (g := (mkF m 46 #[.val (.ref r0), .val (.long (2 : Int64)), .second, .val (.ref r0), .val (.int (2 : Int32)), .val (.int (1 : Int32)), .val (.int pc)] [(.long (2 : Int64))])) rfl (hb hby d8_46) _ ?_
    refine XS.iload X0.here hx rfl (hb hby d8_49) rfl ?_
    refine XS.i2l X0.here hx rfl (hb hby d8_51) rfl ?_
    refine XS.ldiv X0.here hx rfl (hb hby d8_52) rfl (own_c2 hc) ?_
    refine XS.lcmp X0.here hx rfl (hb hby d8_53) rfl ?_
    refine XS.ifYes X0.here hx rfl (pc0 := 54) (pc' := 61) rfl (hb hby d8_54) rfl ((if0 _ _).trans (flt (fun q => (own_c4 hc) ((lw_gt _ _).mp q))).2.2.2) (by decide) (by decide) ?_
    refine XS.lloadN X0.here hx rfl (hb hby d8_61) rfl ?_
    refine XS.iload X0.here hx rfl (hb hby d8_62) rfl ?_
    refine XS.i2l X0.here hx rfl (hb hby d8_64) rfl ?_
    refine XS.lmul X0.here hx rfl (hb hby d8_65) rfl ?_
    refine XS.lstoreN X0.here hx rfl (hb hby d8_66) rfl (l' := #[.val (.ref r0), .val (.long ((2 : Int64) * (pc.toInt64))), .second, .val (.ref r0), .val (.int (2 : Int32)), .val (.int (1 : Int32)), .val (.int pc)]) rfl ?_
    refine XS.iinc X0.here hx rfl (hb hby d8_67) rfl (l' := #[.val (.ref r0), .val (.long ((2 : Int64) * (pc.toInt64))), .second, .val (.ref r0), .val (.int (2 : Int32)), .val (.int ((1 : Int32) + (1 : Int32))), .val (.int pc)]) rfl ?_
    show Steps p.tables e below (s₁.setTop (mkF m 70 #[.val (.ref r0), .val (.long ((2 : Int64) * (pc.toInt64))), .second, .val (.ref r0), .val (.int (2 : Int32)), .val (.int ((1 : Int32) + (1 : Int32))), .val (.int pc)] [])) _
    rw [show ((1 : Int32) + (1 : Int32)) = (2 : Int32) from (by decide)]
    refine XS.goto X0.here hx rfl (pc0 := 70) (pc' := 11) rfl (hb hby d8_70) (by decide) (by decide) ?_
    refine XS.iload X0.here hx rfl (hb hby d8_11) rfl ?_
    refine XS.iload X0.here hx rfl (hb hby d8_13) rfl ?_
    refine XS.icmpYes X0.here hx rfl (pc0 := 15) (pc' := 73) rfl (hb hby d8_15) rfl (flt (by decide : ¬ ((2 : Int32) < (2 : Int32)))).2.1 (by decide) (by decide) ?_
    refine XS.lloadN X0.here hx rfl (hb hby d8_73) rfl ?_
    show Steps p.tables e below (s₁.setTop (mkF m 74 #[.val (.ref r0), .val (.long ((2 : Int64) * (pc.toInt64))), .second, .val (.ref r0), .val (.int (2 : Int32)), .val (.int (2 : Int32)), .val (.int pc)] [(.long ((2 : Int64) * (pc.toInt64)))])) _
    exact own_retJ X0 hx Bd.returns (hb hby d8_74) hr
  · show Q_ts_1 Z pc h0 n0 _ s₁.heap _
    rw [e0]
    exact ⟨rfl, N0, rfl⟩
theorem d3_90 : decode prog_60_method_11_code 90 = .ok (.aload_n 2, 1) := by decide +kernel
theorem d3_91 : decode prog_60_method_11_code 91 = .ok (.iload_n 3, 1) := by decide +kernel
theorem d3_92 : decode prog_60_method_11_code 92 = .ok (.iaload, 1) := by decide +kernel
theorem d3_93 : decode prog_60_method_11_code 93 = .ok (.aload_n 2, 1) := by decide +kernel
theorem d3_94 : decode prog_60_method_11_code 94 = .ok (.iload_n 3, 1) := by decide +kernel
theorem d3_95 : decode prog_60_method_11_code 95 = .ok (.iconst 1, 1) := by decide +kernel
theorem d3_96 : decode prog_60_method_11_code 96 = .ok (.isub, 1) := by decide +kernel
theorem d3_97 : decode prog_60_method_11_code 97 = .ok (.iaload, 1) := by decide +kernel
theorem d3_98 : decode prog_60_method_11_code 98 = .ok (.if_icmp .ne 19, 3) := by decide +kernel
theorem d3_117 : decode prog_60_method_11_code 117 = .ok (.iinc 3 1, 3) := by decide +kernel
theorem d3_120 : decode prog_60_method_11_code 120 = .ok (.goto (-36), 3) := by decide +kernel
abbrev Rrm_cs_1 : Room := ({ frames := 4, cells := 1, slots := 2, locals := 79 } : Room)
theorem ef_rm_cs_1 (m : MethodId) (r0 : Addr) (r1 : Addr) : entryFrame m #[(.ref r0), (.ref r1)] 6 = mkF m 0 #[.val (.ref r0), .val (.ref r1), .unset, .unset, .unset, .unset] [] := by first | (simp [entryFrame, mkF, argsToLocals, Value.category]; done) | rfl
def Q_cs_1 (Z : State) (r0 : Addr) (h0 : Heap) (n0 : Nat) (v : Option Value) (h : Heap) (L : List Loc) : Prop := v = none ∧ Fr n0 L ∧ Keep h0 h []
set_option maxRecDepth 65536 in
set_option maxHeartbeats 40000000 in
theorem rm_cs_1 (l : Launch) (Z : State) (a0 : Array Value) (hw : ∀ d ∈ tables_1, d.before a0 Z = true) (ws : List Jvm.Cond) (r0 : Addr) (r1 : Addr) (pc : Int32) (k_r0 : ClassId) (k_r1 : ClassId) (h0 : Heap) (n0 : Nat) (Z0 : n0 ≤ h0.size) (V_r0 : Arv Z h0 r0 k_r0 .int (2 : Int32) [(.int (7 : Int32)), (.int (3 : Int32))] (.int (0 : Int32))) (E_r0 : Exa Z h0 r0 "[I") (V_r1 : Arv Z h0 r1 k_r1 .int (2 : Int32) [(.int (2 : Int32)), (.int pc)] (.int (0 : Int32))) (hc : pc = 1 ∨ pc = 2 ∨ pc = 3) :
    MetFree l (⟨"com/example/beliefwire/beliefwire/model/Factor", "checkScope", "([I[I)V"⟩ : MethodName) (head1 (Jvm.Cond.code (⟨"com/example/beliefwire/beliefwire/model/Factor", "checkScope", "([I[I)V"⟩ : MethodName) prog_60_method_11_code 6 none :: ws) Rrm_cs_1) (fun a U => a = #[(.ref r0), (.ref r1)] ∧ Z.Warmed39 U.vm ∧ U.heap = h0) (fun _ _ _ _ _ => True) (fun _ U o U' => ∃ v L, o = .returned v ∧ Q_cs_1 Z r0 h0 n0 v U'.heap L ∧ FrameEnd U o U' L Rrm_cs_1.cells Rrm_cs_1.slots) := by
  refine MetFree.of_bodySF (plainFor_of_name pn_2) hisR ?_
  intro p e s m args below meth c s₁ Bd hml0 hP hK
  obtain ⟨rfl, hZ, hh⟩ := hP
  have hx := Bd.exec
  have hby := Bd.bytes
  have hml : c.maxLocals = 6 := hml0
  have hown : s.vm.findClass "com/example/beliefwire/beliefwire/model/Factor" = some m.cls := findClass_of_methodNamed Bd.named
  have hnm := (name_of_methodNamed Bd.named Bd.method).1
  have X0 : Stand p l e Rrm_cs_1 s m #[(.ref r0), (.ref r1)] below meth c s₁ [] 0 0 := Stand.of_body Bd
  have e0 : s₁.heap = h0 := by rw [← hh, Bd.state]; rfl
  have N0 := Fr.nil n0
  have W := @own_W a0 Z hw
  have pre0 : ∀ t, Steps p.tables e below (s₁.setTop (mkF m 0 #[.val (.ref r0), .val (.ref r1), .unset, .unset, .unset, .unset] [])) t → Steps p.tables e below (s₁.setTop (entryFrame m #[(.ref r0), (.ref r1)] 6)) t := fun t k => castTop (ef_rm_cs_1 m r0 r1) k
  obtain ⟨cl_r0_1, Ar_r0_1, q_r0_1, S_r0_1, N_r0_1, H_r0_1, G_r0_1⟩ := id V_r0
  have Al_r0_1 := State.isArrayOf_alike hZ.alike Ar_r0_1.2.1
  obtain ⟨cl_r1_2, Ar_r1_2, q_r1_2, S_r1_2, N_r1_2, H_r1_2, G_r1_2⟩ := id V_r1
  have Al_r1_2 := State.isArrayOf_alike hZ.alike Ar_r1_2.2.1
  have hin_r0_1_0 : ¬ ((0 : Int32) < 0 ∨ cl_r0_1.slots.size ≤ ((0 : Int32)).toNatClampNeg) := inb_of S_r0_1 ⟨by decide, by decide⟩
  have hat_r0_1_0 : cl_r0_1.slots[((0 : Int32)).toNatClampNeg]? = some (.int (7 : Int32)) := H_r0_1 _ (by rw [S_r0_1]; decide)
  have hin_r0_1_1 : ¬ ((1 : Int32) < 0 ∨ cl_r0_1.slots.size ≤ ((1 : Int32)).toNatClampNeg) := inb_of S_r0_1 ⟨by decide, by decide⟩
  have hat_r0_1_1 : cl_r0_1.slots[((1 : Int32)).toNatClampNeg]? = some (.int (3 : Int32)) := H_r0_1 _ (by rw [S_r0_1]; decide)
  obtain ⟨T3, h3, X3, e3, E3, V3, B3, st3⟩ := cloneH X0 hx hZ hown (W 16 rfl) (W 17 rfl) (W 21 rfl) (W 19 rfl) (W 20 rfl) (W 22 rfl) e0 (Arv.arh V_r0) E_r0 (g := (mkF m 71 #[.val (.ref r0), .val (.ref r1), .val (.ref r0), .val (.int (2 : Int32)), .val (.int (2 : Int32)), .val (.int (3 : Int32))] [(.ref r0)])) rfl (by rw [hml]; rfl) rfl (hb hby d3_71) (by decide) (W := 0) (cap := 2) (own_le rfl) (by decide) (by decide) (by decide) (by decide)
  obtain ⟨b3, gg3⟩ : ∃ z, z = h0.size := ⟨_, rfl⟩
  rw [← gg3] at V3 B3 st3
  have g_b3 : n0 ≤ b3 := Nat.le_trans Z0 (Nat.le_of_eq gg3.symm)
  have sz_b3 : h0.size ≤ b3 := Nat.le_trans (Nat.le_refl h0.size) (Nat.le_of_eq gg3.symm)
  have V_b3 : Arv Z h3 b3 k_r0 .int (2 : Int32) [(.int (7 : Int32)), (.int (3 : Int32))] (.int (0 : Int32)) := V3
  obtain ⟨T4, X4, e4, st4⟩ := castY X3 hx hZ hown (W 23 rfl) e3 (Ins.self B3) (g := (mkF m 74 #[.val (.ref r0), .val (.ref r1), .val (.ref r0), .val (.int (2 : Int32)), .val (.int (2 : Int32)), .val (.int (3 : Int32))] [(.ref b3)])) rfl rfl (hb hby d3_74)
  have Z6z : n0 ≤ h3.size := (Nat.le_trans Z0 E3.1)
  obtain ⟨_, _, ⟨T5, L5, k5, n5⟩, -, X5, ⟨Lc5, hQ5, l5, y5, z5⟩, st5⟩ := Jvm.LawKit.callS X4 hx (y := (⟨"java/util/Arrays", "sort", "([I)V"⟩ : MethodName)) hown (mvT hZ (W 25 rfl)) (mvT hZ (W 26 rfl)) (mvT hZ (W 27 rfl)) (mvT hZ (W 28 rfl)) (by decide) (backOf (W := 0) (rm_srt4_1 l Z a0 hw [] b3 k_r0 h3 n0 Z6z V_b3 g_b3) hZ (W 28 rfl) (W 27 rfl) (by decide) (by decide)) (g := (mkF m 79 #[.val (.ref r0), .val (.ref r1), .val (.ref b3), .val (.int (2 : Int32)), .val (.int (2 : Int32)), .val (.int (3 : Int32))] [(.ref b3)])) rfl (by rw [hml]; rfl) (argsL := [(.ref b3)]) (rest := []) (lenOf pd_3 rfl) rfl (own_le rfl) (hb hby d3_79) (fun _ _ => ⟨rfl, e4, (by decide : 1 + 0 ≤ _), (by decide : 2 + 0 ≤ _)⟩)
  dsimp only [Pt.U, Pt.locs, Pt.cells, Pt.slots] at X5 l5 y5 z5 st5 hQ5
  subst l5 y5 z5
  obtain ⟨rfl, N5q, K5, V5⟩ := hQ5
  have N5 := Fr.app N0 N5q
  obtain ⟨LL5, X5, N5⟩ := own_hide X5 N5
  obtain ⟨cl_b3_7, Ar_b3_7, q_b3_7, S_b3_7, N_b3_7, H_b3_7, G_b3_7⟩ := id V5
  have Al_b3_7 := State.isArrayOf_alike hZ.alike Ar_b3_7.2.1
  have hin_b3_7_1 : ¬ ((1 : Int32) < 0 ∨ cl_b3_7.slots.size ≤ ((1 : Int32)).toNatClampNeg) := inb_of S_b3_7 ⟨by decide, by decide⟩
  have hat_b3_7_1 : cl_b3_7.slots[((1 : Int32)).toNatClampNeg]? = some (.int (7 : Int32)) := H_b3_7 _ (by rw [S_b3_7]; decide)
  have hin_b3_7_0 : ¬ ((0 : Int32) < 0 ∨ cl_b3_7.slots.size ≤ ((0 : Int32)).toNatClampNeg) := inb_of S_b3_7 ⟨by decide, by decide⟩
  have hat_b3_7_0 : cl_b3_7.slots[((0 : Int32)).toNatClampNeg]? = some (.int (3 : Int32)) := H_b3_7 _ (by rw [S_b3_7]; decide)
  have Z9z : n0 ≤ T5.heap.size := (Nat.le_trans Z6z K5.1)
  have ne_r1_b3 : r1 ≠ b3 := Nat.ne_of_lt (Nat.lt_of_lt_of_le (V_r1).lt (Nat.le_of_eq gg3.symm))
  have V_r1_10 := ((V_r1.ext E3).keep K5 (own_nin1 ne_r1_b3))
  obtain ⟨_, _, ⟨T8, L8, k8, n8⟩, -, X8, ⟨Lc8, hQ8, l8, y8, z8⟩, st8⟩ := Jvm.LawKit.callS X5 hx (y := (⟨"com/example/beliefwire/beliefwire/model/Factor", "tableSize", "([I)J"⟩ : MethodName)) hown (mvT hZ (W 39 rfl)) (mvT hZ (W 40 rfl)) (mvT hZ (W 6 rfl)) (mvT hZ (W 41 rfl)) (by decide) (backOf (W := 0) (rm_ts_1 l Z a0 hw [] r1 pc k_r1 T5.heap n0 Z9z V_r1_10 hc) hZ (W 41 rfl) (W 6 rfl) (by decide) (by decide)) (g := (mkF m 124 #[.val (.ref r0), .val (.ref r1), .val (.ref b3), .val (.int (2 : Int32)), .val (.int (2 : Int32)), .val (.int (3 : Int32))] [(.ref r1)])) rfl (by rw [hml]; rfl) (argsL := [(.ref r1)]) (rest := []) (lenOf pd_4 rfl) rfl (own_le rfl) (hb hby d3_124) (fun _ _ => ⟨rfl, rfl, (by decide : 1 + 0 ≤ _), (by decide : 2 + 0 ≤ _)⟩)
  dsimp only [Pt.U, Pt.locs, Pt.cells, Pt.slots] at X8 l8 y8 z8 st8 hQ8
  subst l8 y8 z8
  obtain ⟨rfl, N8q, eq8⟩ := hQ8
  have N8 := Fr.app N5 N8q
  obtain ⟨LL8, X8, N8⟩ := own_hide X8 N8
  have KK11 : Keep h0 T5.heap [] := (((Keep.refl h0 []).ext E3).trans K5 (own_in1 (Or.inr sz_b3)))
  obtain ⟨fs, hr, hrun, hended, hW, hsame⟩ := X8.leave (v := none) (fun _ => rfl)
  refine ⟨_, _, pre0 _ ?_, hrun, hended, _, _, rfl, ?_, ⟨_, rfl⟩, hW, hsame.mono (by decide) (by decide)⟩
  · show Steps p.tables e below (s₁.setTop (mkF m 0 #[.val (.ref r0), .val (.ref r1), .unset, .unset, .unset, .unset] [])) _
    refine XS.aloadN X0.here hx rfl (hb hby d3_0) rfl rfl ?_
    refine X0.arraylength hx (by rw [e0]; exact Ar_r0_1.1) Al_r0_1 (g := (mkF m 1 #[.val (.ref r0), .val (.ref r1), .unset, .unset, .unset, .unset] [(.ref r0)])) rfl rfl (hb hby d3_1) _ ?_
    rw [len_of S_r0_1 N_r0_1]
    refine XS.aloadN X0.here hx rfl (hb hby d3_2) rfl rfl ?_
    refine X0.arraylength hx (by rw [e0]; exact Ar_r1_2.1) Al_r1_2 (g := (mkF m 3 #[.val (.ref r0), .val (.ref r1), .unset, .unset, .unset, .unset] [(.ref r1), (.int (2 : Int32))])) rfl rfl (hb hby d3_3) _ ?_
    rw [len_of S_r1_2 N_r1_2]
    refine XS.icmpYes X0.here hx rfl (pc0 := 4) (pc' := 24) rfl (hb hby d3_4) rfl (teq (by decide : (2 : Int32) = (2 : Int32))).1 (by decide) (by decide) ?_
    refine XS.aloadN X0.here hx rfl (hb hby d3_24) rfl rfl ?_
    refine XS.astoreN X0.here hx rfl (hb hby d3_25) rfl rfl (l' := #[.val (.ref r0), .val (.ref r1), .val (.ref r0), .unset, .unset, .unset]) rfl ?_
    refine XS.aloadN X0.here hx rfl (hb hby d3_26) rfl rfl ?_
    refine X0.arraylength hx (by rw [e0]; exact Ar_r0_1.1) Al_r0_1 (g := (mkF m 27 #[.val (.ref r0), .val (.ref r1), .val (.ref r0), .unset, .unset, .unset] [(.ref r0)])) rfl rfl (hb hby d3_27) _ ?_
    rw [len_of S_r0_1 N_r0_1]
    refine XS.istoreN X0.here hx rfl (hb hby d3_28) rfl (l' := #[.val (.ref r0), .val (.ref r1), .val (.ref r0), .val (.int (2 : Int32)), .unset, .unset]) rfl ?_
    refine XS.iconst X0.here hx rfl (hb hby d3_29) ?_
    refine XS.istore X0.here hx rfl (hb hby d3_30) rfl (l' := #[.val (.ref r0), .val (.ref r1), .val (.ref r0), .val (.int (2 : Int32)), .val (.int (0 : Int32)), .unset]) rfl ?_
    refine XS.iload X0.here hx rfl (hb hby d3_32) rfl ?_
    refine XS.iloadN X0.here hx rfl (hb hby d3_34) rfl ?_
    refine XS.icmpNo X0.here hx rfl (hb hby d3_35) rfl (tlt (by decide : (0 : Int32) < (2 : Int32))).2.1 ?_
    refine XS.aloadN X0.here hx rfl (hb hby d3_38) rfl rfl ?_
    refine XS.iload X0.here hx rfl (hb hby d3_39) rfl ?_
    refine X0.iaload hx (j := (0 : Int32)) (v := (.int (7 : Int32))) (by rw [e0]; exact Ar_r0_1.1) Al_r0_1 Ar_r0_1.2.2 hin_r0_1_0 hat_r0_1_0 (g := (mkF m 41 #[.val (.ref r0), .val (.ref r1), .val (.ref r0), .val (.int (2 : Int32)), .val (.int (0 : Int32)), .unset] [(.int (0 : Int32)), (.ref r0)])) rfl rfl (hb hby d3_41) _ ?_
    refine XS.istore X0.here hx rfl (hb hby d3_42) rfl (l' := #[.val (.ref r0), .val (.ref r1), .val (.ref r0), .val (.int (2 : Int32)), .val (.int (0 : Int32)), .val (.int (7 : Int32))]) rfl ?_
    refine XS.iload X0.here hx rfl (hb hby d3_44) rfl ?_
    refine XS.ifYes X0.here hx rfl (pc0 := 46) (pc' := 64) rfl (hb hby d3_46) rfl ((if0 _ _).trans (flt (by decide : ¬ ((7 : Int32) < (0 : Int32)))).2.1) (by decide) (by decide) ?_
    refine XS.iinc X0.here hx rfl (hb hby d3_64) rfl (l' := #[.val (.ref r0), .val (.ref r1), .val (.ref r0), .val (.int (2 : Int32)), .val (.int ((0 : Int32) + (1 : Int32))), .val (.int (7 : Int32))]) rfl ?_
    show Steps p.tables e below (s₁.setTop (mkF m 67 #[.val (.ref r0), .val (.ref r1), .val (.ref r0), .val (.int (2 : Int32)), .val (.int ((0 : Int32) + (1 : Int32))), .val (.int (7 : Int32))] [])) _
    rw [show ((0 : Int32) + (1 : Int32)) = (1 : Int32) from (by decide)]
    refine XS.goto X0.here hx rfl (pc0 := 67) (pc' := 32) rfl (hb hby d3_67) (by decide) (by decide) ?_
    refine XS.iload X0.here hx rfl (hb hby d3_32) rfl ?_
    refine XS.iloadN X0.here hx rfl (hb hby d3_34) rfl ?_
    refine XS.icmpNo X0.here hx rfl (hb hby d3_35) rfl (tlt (by decide : (1 : Int32) < (2 : Int32))).2.1 ?_
    refine XS.aloadN X0.here hx rfl (hb hby d3_38) rfl rfl ?_
    refine XS.iload X0.here hx rfl (hb hby d3_39) rfl ?_
    refine X0.iaload hx (j := (1 : Int32)) (v := (.int (3 : Int32))) (by rw [e0]; exact Ar_r0_1.1) Al_r0_1 Ar_r0_1.2.2 hin_r0_1_1 hat_r0_1_1 (g := (mkF m 41 #[.val (.ref r0), .val (.ref r1), .val (.ref r0), .val (.int (2 : Int32)), .val (.int (1 : Int32)), .val (.int (7 : Int32))] [(.int (1 : Int32)), (.ref r0)])) rfl rfl (hb hby d3_41) _ ?_
    refine XS.istore X0.here hx rfl (hb hby d3_42) rfl (l' := #[.val (.ref r0), .val (.ref r1), .val (.ref r0), .val (.int (2 : Int32)), .val (.int (1 : Int32)), .val (.int (3 : Int32))]) rfl ?_
    refine XS.iload X0.here hx rfl (hb hby d3_44) rfl ?_
    refine XS.ifYes X0.here hx rfl (pc0 := 46) (pc' := 64) rfl (hb hby d3_46) rfl ((if0 _ _).trans (flt (by decide : ¬ ((3 : Int32) < (0 : Int32)))).2.1) (by decide) (by decide) ?_
    refine XS.iinc X0.here hx rfl (hb hby d3_64) rfl (l' := #[.val (.ref r0), .val (.ref r1), .val (.ref r0), .val (.int (2 : Int32)), .val (.int ((1 : Int32) + (1 : Int32))), .val (.int (3 : Int32))]) rfl ?_
    show Steps p.tables e below (s₁.setTop (mkF m 67 #[.val (.ref r0), .val (.ref r1), .val (.ref r0), .val (.int (2 : Int32)), .val (.int ((1 : Int32) + (1 : Int32))), .val (.int (3 : Int32))] [])) _
    rw [show ((1 : Int32) + (1 : Int32)) = (2 : Int32) from (by decide)]
    refine XS.goto X0.here hx rfl (pc0 := 67) (pc' := 32) rfl (hb hby d3_67) (by decide) (by decide) ?_
    refine XS.iload X0.here hx rfl (hb hby d3_32) rfl ?_
    refine XS.iloadN X0.here hx rfl (hb hby d3_34) rfl ?_
    refine XS.icmpYes X0.here hx rfl (pc0 := 35) (pc' := 70) rfl (hb hby d3_35) rfl (flt (by decide : ¬ ((2 : Int32) < (2 : Int32)))).2.1 (by decide) (by decide) ?_
    refine XS.aloadN X0.here hx rfl (hb hby d3_70) rfl rfl ?_
    refine st3 _ ?_
    refine st4 _ ?_
    refine XS.astoreN X4.here hx rfl (hb hby d3_77) rfl rfl (l' := #[.val (.ref r0), .val (.ref r1), .val (.ref b3), .val (.int (2 : Int32)), .val (.int (2 : Int32)), .val (.int (3 : Int32))]) rfl ?_
    refine XS.aloadN X4.here hx rfl (hb hby d3_78) rfl rfl ?_
    refine st5 _ ?_
    refine XS.iconst X5.here hx rfl (hb hby d3_82) ?_
    refine XS.istoreN X5.here hx rfl (hb hby d3_83) rfl (l' := #[.val (.ref r0), .val (.ref r1), .val (.ref b3), .val (.int (1 : Int32)), .val (.int (2 : Int32)), .val (.int (3 : Int32))]) rfl ?_
    refine XS.iloadN X5.here hx rfl (hb hby d3_84) rfl ?_
    refine XS.aloadN X5.here hx rfl (hb hby d3_85) rfl rfl ?_
    refine X5.arraylength hx Ar_b3_7.1 Al_b3_7 (g := (mkF m 86 #[.val (.ref r0), .val (.ref r1), .val (.ref b3), .val (.int (1 : Int32)), .val (.int (2 : Int32)), .val (.int (3 : Int32))] [(.ref b3), (.int (1 : Int32))])) rfl rfl (hb hby d3_86) _ ?_
    rw [len_of S_b3_7 N_b3_7]
    refine XS.icmpNo X5.here hx rfl (hb hby d3_87) rfl (tlt (by decide : (1 : Int32) < (2 : Int32))).2.1 ?_
    refine XS.aloadN X5.here hx rfl (hb hby d3_90) rfl rfl ?_
    refine XS.iloadN X5.here hx rfl (hb hby d3_91) rfl ?_
    refine X5.iaload hx (j := (1 : Int32)) (v := (.int (7 : Int32))) Ar_b3_7.1 Al_b3_7 Ar_b3_7.2.2 hin_b3_7_1 hat_b3_7_1 (g := (mkF m 92 #[.val (.ref r0), .val (.ref r1), .val (.ref b3), .val (.int (1 : Int32)), .val (.int (2 : Int32)), .val (.int (3 : Int32))] [(.int (1 : Int32)), (.ref b3)])) rfl rfl (hb hby d3_92) _ ?_
    refine XS.aloadN X5.here hx rfl (hb hby d3_93) rfl rfl ?_
    refine XS.iloadN X5.here hx rfl (hb hby d3_94) rfl ?_
    refine XS.iconst X5.here hx rfl (hb hby d3_95) ?_
    refine XS.isub X5.here hx rfl (hb hby d3_96) rfl ?_
    show Steps p.tables e below (T5.setTop (mkF m 97 #[.val (.ref r0), .val (.ref r1), .val (.ref b3), .val (.int (1 : Int32)), .val (.int (2 : Int32)), .val (.int (3 : Int32))] [(.int ((1 : Int32) - (1 : Int32))), (.ref b3), (.int (7 : Int32))])) _
    rw [show ((1 : Int32) - (1 : Int32)) = (0 : Int32) from (by decide)]
    refine X5.iaload hx (j := (0 : Int32)) (v := (.int (3 : Int32))) Ar_b3_7.1 Al_b3_7 Ar_b3_7.2.2 hin_b3_7_0 hat_b3_7_0 (g := (mkF m 97 #[.val (.ref r0), .val (.ref r1), .val (.ref b3), .val (.int (1 : Int32)), .val (.int (2 : Int32)), .val (.int (3 : Int32))] [(.int (0 : Int32)), (.ref b3), (.int (7 : Int32))])) rfl rfl (hb hby d3_97) _ ?_
    refine XS.icmpYes X5.here hx rfl (pc0 := 98) (pc' := 117) rfl (hb hby d3_98) rfl (feq (by decide : ¬ ((7 : Int32) = (3 : Int32)))).2 (by decide) (by decide) ?_
    refine XS.iinc X5.here hx rfl (hb hby d3_117) rfl (l' := #[.val (.ref r0), .val (.ref r1), .val (.ref b3), .val (.int ((1 : Int32) + (1 : Int32))), .val (.int (2 : Int32)), .val (.int (3 : Int32))]) rfl ?_
    show Steps p.tables e below (T5.setTop (mkF m 120 #[.val (.ref r0), .val (.ref r1), .val (.ref b3), .val (.int ((1 : Int32) + (1 : Int32))), .val (.int (2 : Int32)), .val (.int (3 : Int32))] [])) _
    rw [show ((1 : Int32) + (1 : Int32)) = (2 : Int32) from (by decide)]
    refine XS.goto X5.here hx rfl (pc0 := 120) (pc' := 84) rfl (hb hby d3_120) (by decide) (by decide) ?_
    refine XS.iloadN X5.here hx rfl (hb hby d3_84) rfl ?_
    refine XS.aloadN X5.here hx rfl (hb hby d3_85) rfl rfl ?_
    refine X5.arraylength hx Ar_b3_7.1 Al_b3_7 (g := (mkF m 86 #[.val (.ref r0), .val (.ref r1), .val (.ref b3), .val (.int (2 : Int32)), .val (.int (2 : Int32)), .val (.int (3 : Int32))] [(.ref b3), (.int (2 : Int32))])) rfl rfl (hb hby d3_86) _ ?_
    rw [len_of S_b3_7 N_b3_7]
    refine XS.icmpYes X5.here hx rfl (pc0 := 87) (pc' := 123) rfl (hb hby d3_87) rfl (flt (by decide : ¬ ((2 : Int32) < (2 : Int32)))).2.1 (by decide) (by decide) ?_
    refine XS.aloadN X5.here hx rfl (hb hby d3_123) rfl rfl ?_
    refine st8 _ ?_
    show Steps p.tables e below (T8.setTop (mkF m 127 #[.val (.ref r0), .val (.ref r1), .val (.ref b3), .val (.int (2 : Int32)), .val (.int (2 : Int32)), .val (.int (3 : Int32))] [(.long ((2 : Int64) * (pc.toInt64)))])) _
    jvm_step X8.here [X8.here.top, hx, (hb hby d3_127), Value.category]
    show Steps p.tables e below (T8.setTop (mkF m 128 #[.val (.ref r0), .val (.ref r1), .val (.ref b3), .val (.int (2 : Int32)), .val (.int (2 : Int32)), .val (.int (3 : Int32))] [])) _
    exact X8.returnOut hx Bd.returns (hb hby d3_128) hr
  · show Q_cs_1 Z r0 h0 n0 _ T8.heap _
    rw [eq8]
    exact ⟨rfl, N8, KK11⟩
abbrev Rrm_ts_2 : Room := ({ frames := 0, cells := 0, slots := 0, locals := 0 } : Room)
theorem ef_rm_ts_2 (m : MethodId) (r0 : Addr) : entryFrame m #[(.ref r0)] 7 = mkF m 0 #[.val (.ref r0), .unset, .unset, .unset, .unset, .unset, .unset] [] := by first | (simp [entryFrame, mkF, argsToLocals, Value.category]; done) | rfl
def Q_ts_2 (Z : State) (pc : Int32) (h0 : Heap) (n0 : Nat) (v : Option Value) (h : Heap) (L : List Loc) : Prop := v = some (.long ((2 : Int64) * (pc.toInt64))) ∧ Fr n0 L ∧ h = h0
set_option maxRecDepth 65536 in
set_option maxHeartbeats 40000000 in
theorem rm_ts_2 (l : Launch) (Z : State) (a0 : Array Value) (hw : ∀ d ∈ tables_1, d.before a0 Z = true) (ws : List Jvm.Cond) (r0 : Addr) (pc : Int32) (k_r0 : ClassId) (h0 : Heap) (n0 : Nat) (Z0 : n0 ≤ h0.size) (V_r0 : Arv Z h0 r0 k_r0 .int (3 : Int32) [(.int (1 : Int32)), (.int (2 : Int32)), (.int pc)] (.int (0 : Int32))) (hc : pc = 1 ∨ pc = 2 ∨ pc = 3) :
    MetFree l (⟨"com/example/beliefwire/beliefwire/model/Factor", "tableSize", "([I)J"⟩ : MethodName) (head1 (Jvm.Cond.code (⟨"com/example/beliefwire/beliefwire/model/Factor", "tableSize", "([I)J"⟩ : MethodName) prog_60_method_3_code 7 (some .long) :: ws) Rrm_ts_2) (fun a U => a = #[(.ref r0)] ∧ Z.Warmed39 U.vm ∧ U.heap = h0) (fun _ _ _ _ _ => True) (fun _ U o U' => ∃ v L, o = .returned v ∧ Q_ts_2 Z pc h0 n0 v U'.heap L ∧ FrameEnd U o U' L Rrm_ts_2.cells Rrm_ts_2.slots) := by
  refine MetFree.of_bodySF (plainFor_of_name pn_2) hisR ?_
  intro p e s m args below meth c s₁ Bd hml0 hP hK
  obtain ⟨rfl, hZ, hh⟩ := hP
  have hx := Bd.exec
  have hby := Bd.bytes
  have hml : c.maxLocals = 7 := hml0
  have hown : s.vm.findClass "com/example/beliefwire/beliefwire/model/Factor" = some m.cls := findClass_of_methodNamed Bd.named
  have hnm := (name_of_methodNamed Bd.named Bd.method).1
  have X0 : Stand p l e Rrm_ts_2 s m #[(.ref r0)] below meth c s₁ [] 0 0 := Stand.of_body Bd
  have e0 : s₁.heap = h0 := by rw [← hh, Bd.state]; rfl
  have N0 := Fr.nil n0
  have W := @own_W a0 Z hw
  have pre0 : ∀ t, Steps p.tables e below (s₁.setTop (mkF m 0 #[.val (.ref r0), .unset, .unset, .unset, .unset, .unset, .unset] [])) t → Steps p.tables e below (s₁.setTop (entryFrame m #[(.ref r0)] 7)) t := fun t k => castTop (ef_rm_ts_2 m r0) k
  obtain ⟨cl_r0_1, Ar_r0_1, q_r0_1, S_r0_1, N_r0_1, H_r0_1, G_r0_1⟩ := id V_r0
  have Al_r0_1 := State.isArrayOf_alike hZ.alike Ar_r0_1.2.1
  have hin_r0_1_0 : ¬ ((0 : Int32) < 0 ∨ cl_r0_1.slots.size ≤ ((0 : Int32)).toNatClampNeg) := inb_of S_r0_1 ⟨by decide, by decide⟩
  have hat_r0_1_0 : cl_r0_1.slots[((0 : Int32)).toNatClampNeg]? = some (.int (1 : Int32)) := H_r0_1 _ (by rw [S_r0_1]; decide)
  have hin_r0_1_1 : ¬ ((1 : Int32) < 0 ∨ cl_r0_1.slots.size ≤ ((1 : Int32)).toNatClampNeg) := inb_of S_r0_1 ⟨by decide, by decide⟩
  have hat_r0_1_1 : cl_r0_1.slots[((1 : Int32)).toNatClampNeg]? = some (.int (2 : Int32)) := H_r0_1 _ (by rw [S_r0_1]; decide)
  have hin_r0_1_2 : ¬ ((2 : Int32) < 0 ∨ cl_r0_1.slots.size ≤ ((2 : Int32)).toNatClampNeg) := inb_of S_r0_1 ⟨by decide, by decide⟩
  have hat_r0_1_2 : cl_r0_1.slots[((2 : Int32)).toNatClampNeg]? = some (.int pc) := H_r0_1 _ (by rw [S_r0_1]; decide)
  obtain ⟨fs, hr, hrun, hended, hW, hsame⟩ := X0.leave (v := some (.long ((2 : Int64) * (pc.toInt64)))) (fun h => by rw [Bd.returns] at h; cases h)
  refine ⟨_, _, pre0 _ ?_, hrun, hended, _, _, rfl, ?_, ⟨_, rfl⟩, hW, hsame.mono (by decide) (by decide)⟩
  · show Steps p.tables e below (s₁.setTop (mkF m 0 #[.val (.ref r0), .unset, .unset, .unset, .unset, .unset, .unset] [])) _
    refine XS.lconst X0.here hx rfl (hb hby d8_0) ?_
    refine XS.lstoreN X0.here hx rfl (hb hby d8_1) rfl (l' := #[.val (.ref r0), .val (.long (1 : Int64)), .second, .unset, .unset, .unset, .unset]) rfl ?_
    refine XS.aloadN X0.here hx rfl (hb hby d8_2) rfl rfl ?_
    refine XS.astoreN X0.here hx rfl (hb hby d8_3) rfl rfl (l' := #[.val (.ref r0), .val (.long (1 : Int64)), .second, .val (.ref r0), .unset, .unset, .unset]) rfl ?_
    refine XS.aloadN X0.here hx rfl (hb hby d8_4) rfl rfl ?_
    refine X0.arraylength hx (by rw [e0]; exact Ar_r0_1.1) Al_r0_1 (g := (mkF m 5 #[.val (.ref r0), .val (.long (1 : Int64)), .second, .val (.ref r0), .unset, .unset, .unset] [(.ref r0)])) rfl rfl (hb hby d8_5) _ ?_
    rw [len_of S_r0_1 N_r0_1]
    refine XS.istore X0.here hx rfl (hb hby d8_6) rfl (l' := #[.val (.ref r0), .val (.long (1 : Int64)), .second, .val (.ref r0), .val (.int (3 : Int32)), .unset, .unset]) rfl ?_
    refine XS.iconst X0.here hx rfl (hb hby d8_8) ?_
    refine XS.istore X0.here hx rfl (hb hby d8_9) rfl (l' := #[.val (.ref r0), .val (.long (1 : Int64)), .second, .val (.ref r0), .val (.int (3 : Int32)), .val (.int (0 : Int32)), .unset]) rfl ?_
    refine XS.iload X0.here hx rfl (hb hby d8_11) rfl ?_
    refine XS.iload X0.here hx rfl (hb hby d8_13) rfl ?_
    refine XS.icmpNo X0.here hx rfl (hb hby d8_15) rfl (tlt (by decide : (0 : Int32) < (3 : Int32))).2.1 ?_
    refine XS.aloadN X0.here hx rfl (hb hby d8_18) rfl rfl ?_
    refine XS.iload X0.here hx rfl (hb hby d8_19) rfl ?_
    refine X0.iaload hx (j := (0 : Int32)) (v := (.int (1 : Int32))) (by rw [e0]; exact Ar_r0_1.1) Al_r0_1 Ar_r0_1.2.2 hin_r0_1_0 hat_r0_1_0 (g := (mkF m 21 #[.val (.ref r0), .val (.long (1 : Int64)), .second, .val (.ref r0), .val (.int (3 : Int32)), .val (.int (0 : Int32)), .unset] [(.int (0 : Int32)), (.ref r0)])) rfl rfl (hb hby d8_21) _ ?_
    refine XS.istore X0.here hx rfl (hb hby d8_22) rfl (l' := #[.val (.ref r0), .val (.long (1 : Int64)), .second, .val (.ref r0), .val (.int (3 : Int32)), .val (.int (0 : Int32)), .val (.int (1 : Int32))]) rfl ?_
    refine XS.iload X0.here hx rfl (hb hby d8_24) rfl ?_
    refine XS.iconst X0.here hx rfl (hb hby d8_26) ?_
    refine XS.icmpYes X0.here hx rfl (pc0 := 27) (pc' := 45) rfl (hb hby d8_27) rfl (flt (by decide : ¬ ((1 : Int32) < (1 : Int32)))).2.1 (by decide) (by decide) ?_
    refine XS.lloadN X0.here hx rfl (hb hby d8_45) rfl ?_
    refine X0.ldc2Long hx hown (mvT hZ (W 42 rfl)) (g := (mkF m 46 #[.val (.ref r0), .val (.long (1 : Int64)), .second, .val (.ref r0), .val (.int (3 : Int32)), .val (.int (0 : Int32)), .val (.int (1 : Int32))] [(.long (1 : Int64))])) rfl (hb hby d8_46) _ ?_
    refine XS.iload X0.here hx rfl (hb hby d8_49) rfl ?_
    refine XS.i2l X0.here hx rfl (hb hby d8_51) rfl ?_
    show Steps p.tables e below (s₁.setTop (mkF m 52 #[.val (.ref r0), .val (.long (1 : Int64)), .second, .val (.ref r0), .val (.int (3 : Int32)), .val (.int (0 : Int32)), .val (.int (1 : Int32))] [(.long ((1 : Int32).toInt64)), (.long (9223372036854775807 : Int64)), (.long (1 : Int64))])) _
    rw [show ((1 : Int32).toInt64) = (1 : Int64) from (by decide)]
    refine XS.ldiv X0.here hx rfl (hb hby d8_52) rfl (by decide) ?_
    show Steps p.tables e below (s₁.setTop (mkF m 53 #[.val (.ref r0), .val (.long (1 : Int64)), .second, .val (.ref r0), .val (.int (3 : Int32)), .val (.int (0 : Int32)), .val (.int (1 : Int32))] [(.long ((9223372036854775807 : Int64) / (1 : Int64))), (.long (1 : Int64))])) _
    rw [show ((9223372036854775807 : Int64) / (1 : Int64)) = (9223372036854775807 : Int64) from (by decide)]
    refine XS.lcmp X0.here hx rfl (hb hby d8_53) rfl ?_
    refine XS.ifYes X0.here hx rfl (pc0 := 54) (pc' := 61) rfl (hb hby d8_54) rfl ((if0 _ _).trans (flt (fun q => (by decide : ¬ ((9223372036854775807 : Int64) < (1 : Int64))) ((lw_gt _ _).mp q))).2.2.2) (by decide) (by decide) ?_
    refine XS.lloadN X0.here hx rfl (hb hby d8_61) rfl ?_
    refine XS.iload X0.here hx rfl (hb hby d8_62) rfl ?_
    refine XS.i2l X0.here hx rfl (hb hby d8_64) rfl ?_
    show Steps p.tables e below (s₁.setTop (mkF m 65 #[.val (.ref r0), .val (.long (1 : Int64)), .second, .val (.ref r0), .val (.int (3 : Int32)), .val (.int (0 : Int32)), .val (.int (1 : Int32))] [(.long ((1 : Int32).toInt64)), (.long (1 : Int64))])) _
    rw [show ((1 : Int32).toInt64) = (1 : Int64) from (by decide)]
    refine XS.lmul X0.here hx rfl (hb hby d8_65) rfl ?_
    show Steps p.tables e below (s₁.setTop (mkF m 66 #[.val (.ref r0), .val (.long (1 : Int64)), .second, .val (.ref r0), .val (.int (3 : Int32)), .val (.int (0 : Int32)), .val (.int (1 : Int32))] [(.long ((1 : Int64) * (1 : Int64)))])) _
    rw [show ((1 : Int64) * (1 : Int64)) = (1 : Int64) from (by decide)]
    refine XS.lstoreN X0.here hx rfl (hb hby d8_66) rfl (l' := #[.val (.ref r0), .val (.long (1 : Int64)), .second, .val (.ref r0), .val (.int (3 : Int32)), .val (.int (0 : Int32)), .val (.int (1 : Int32))]) rfl ?_
    refine XS.iinc X0.here hx rfl (hb hby d8_67) rfl (l' := #[.val (.ref r0), .val (.long (1 : Int64)), .second, .val (.ref r0), .val (.int (3 : Int32)), .val (.int ((0 : Int32) + (1 : Int32))), .val (.int (1 : Int32))]) rfl ?_
    show Steps p.tables e below (s₁.setTop (mkF m 70 #[.val (.ref r0), .val (.long (1 : Int64)), .second, .val (.ref r0), .val (.int (3 : Int32)), .val (.int ((0 : Int32) + (1 : Int32))), .val (.int (1 : Int32))] [])) _
    rw [show ((0 : Int32) + (1 : Int32)) = (1 : Int32) from (by decide)]
    refine XS.goto X0.here hx rfl (pc0 := 70) (pc' := 11) rfl (hb hby d8_70) (by decide) (by decide) ?_
    refine XS.iload X0.here hx rfl (hb hby d8_11) rfl ?_
    refine XS.iload X0.here hx rfl (hb hby d8_13) rfl ?_
    refine XS.icmpNo X0.here hx rfl (hb hby d8_15) rfl (tlt (by decide : (1 : Int32) < (3 : Int32))).2.1 ?_
    refine XS.aloadN X0.here hx rfl (hb hby d8_18) rfl rfl ?_
    refine XS.iload X0.here hx rfl (hb hby d8_19) rfl ?_
    refine X0.iaload hx (j := (1 : Int32)) (v := (.int (2 : Int32))) (by rw [e0]; exact Ar_r0_1.1) Al_r0_1 Ar_r0_1.2.2 hin_r0_1_1 hat_r0_1_1 (g := (mkF m 21 #[.val (.ref r0), .val (.long (1 : Int64)), .second, .val (.ref r0), .val (.int (3 : Int32)), .val (.int (1 : Int32)), .val (.int (1 : Int32))] [(.int (1 : Int32)), (.ref r0)])) rfl rfl (hb hby d8_21) _ ?_
    refine XS.istore X0.here hx rfl (hb hby d8_22) rfl (l' := #[.val (.ref r0), .val (.long (1 : Int64)), .second, .val (.ref r0), .val (.int (3 : Int32)), .val (.int (1 : Int32)), .val (.int (2 : Int32))]) rfl ?_
    refine XS.iload X0.here hx rfl (hb hby d8_24) rfl ?_
    refine XS.iconst X0.here hx rfl (hb hby d8_26) ?_
    refine XS.icmpYes X0.here hx rfl (pc0 := 27) (pc' := 45) rfl (hb hby d8_27) rfl (flt (by decide : ¬ ((2 : Int32) < (1 : Int32)))).2.1 (by decide) (by decide) ?_
    refine XS.lloadN X0.here hx rfl (hb hby d8_45) rfl ?_
    refine X0.ldc2Long hx hown (mvT hZ (W 42 rfl)) (g := (mkF m 46 #[.val (.ref r0), .val (.long (1 : Int64)), .second, .val (.ref r0), .val (.int (3 : Int32)), .val (.int (1 : Int32)), .val (.int (2 : Int32))] [(.long (1 : Int64))])) rfl (hb hby d8_46) _ ?_
    refine XS.iload X0.here hx rfl (hb hby d8_49) rfl ?_
    refine XS.i2l X0.here hx rfl (hb hby d8_51) rfl ?_
    show Steps p.tables e below (s₁.setTop (mkF m 52 #[.val (.ref r0), .val (.long (1 : Int64)), .second, .val (.ref r0), .val (.int (3 : Int32)), .val (.int (1 : Int32)), .val (.int (2 : Int32))] [(.long ((2 : Int32).toInt64)), (.long (9223372036854775807 : Int64)), (.long (1 : Int64))])) _
    rw [show ((2 : Int32).toInt64) = (2 : Int64) from (by decide)]
    refine XS.ldiv X0.here hx rfl (hb hby d8_52) rfl (by decide) ?_
    show Steps p.tables e below (s₁.setTop (mkF m 53 #[.val (.ref r0), .val (.long (1 : Int64)), .second, .val (.ref r0), .val (.int (3 : Int32)), .val (.int (1 : Int32)), .val (.int (2 : Int32))] [(.long ((9223372036854775807 : Int64) / (2 : Int64))), (.long (1 : Int64))])) _
    rw [show ((9223372036854775807 : Int64) / (2 : Int64)) = (4611686018427387903 : Int64) from (by decide)]
    refine XS.lcmp X0.here hx rfl (hb hby d8_53) rfl ?_
    refine XS.ifYes X0.here hx rfl (pc0 := 54) (pc' := 61) rfl (hb hby d8_54) rfl ((if0 _ _).trans (flt (fun q => (by decide : ¬ ((4611686018427387903 : Int64) < (1 : Int64))) ((lw_gt _ _).mp q))).2.2.2) (by decide) (by decide) ?_
    refine XS.lloadN X0.here hx rfl (hb hby d8_61) rfl ?_
    refine XS.iload X0.here hx rfl (hb hby d8_62) rfl ?_
    refine XS.i2l X0.here hx rfl (hb hby d8_64) rfl ?_
    show Steps p.tables e below (s₁.setTop (mkF m 65 #[.val (.ref r0), .val (.long (1 : Int64)), .second, .val (.ref r0), .val (.int (3 : Int32)), .val (.int (1 : Int32)), .val (.int (2 : Int32))] [(.long ((2 : Int32).toInt64)), (.long (1 : Int64))])) _
    rw [show ((2 : Int32).toInt64) = (2 : Int64) from (by decide)]
    refine XS.lmul X0.here hx rfl (hb hby d8_65) rfl ?_
    show Steps p.tables e below (s₁.setTop (mkF m 66 #[.val (.ref r0), .val (.long (1 : Int64)), .second, .val (.ref r0), .val (.int (3 : Int32)), .val (.int (1 : Int32)), .val (.int (2 : Int32))] [(.long ((1 : Int64) * (2 : Int64)))])) _
    rw [show ((1 : Int64) * (2 : Int64)) = (2 : Int64) from (by decide)]
    refine XS.lstoreN X0.here hx rfl (hb hby d8_66) rfl (l' := #[.val (.ref r0), .val (.long (2 : Int64)), .second, .val (.ref r0), .val (.int (3 : Int32)), .val (.int (1 : Int32)), .val (.int (2 : Int32))]) rfl ?_
    refine XS.iinc X0.here hx rfl (hb hby d8_67) rfl (l' := #[.val (.ref r0), .val (.long (2 : Int64)), .second, .val (.ref r0), .val (.int (3 : Int32)), .val (.int ((1 : Int32) + (1 : Int32))), .val (.int (2 : Int32))]) rfl ?_
    show Steps p.tables e below (s₁.setTop (mkF m 70 #[.val (.ref r0), .val (.long (2 : Int64)), .second, .val (.ref r0), .val (.int (3 : Int32)), .val (.int ((1 : Int32) + (1 : Int32))), .val (.int (2 : Int32))] [])) _
    rw [show ((1 : Int32) + (1 : Int32)) = (2 : Int32) from (by decide)]
    refine XS.goto X0.here hx rfl (pc0 := 70) (pc' := 11) rfl (hb hby d8_70) (by decide) (by decide) ?_
    refine XS.iload X0.here hx rfl (hb hby d8_11) rfl ?_
    refine XS.iload X0.here hx rfl (hb hby d8_13) rfl ?_
    refine XS.icmpNo X0.here hx rfl (hb hby d8_15) rfl (tlt (by decide : (2 : Int32) < (3 : Int32))).2.1 ?_
    refine XS.aloadN X0.here hx rfl (hb hby d8_18) rfl rfl ?_
    refine XS.iload X0.here hx rfl (hb hby d8_19) rfl ?_
    refine X0.iaload hx (j := (2 : Int32)) (v := (.int pc)) (by rw [e0]; exact Ar_r0_1.1) Al_r0_1 Ar_r0_1.2.2 hin_r0_1_2 hat_r0_1_2 (g := (mkF m 21 #[.val (.ref r0), .val (.long (2 : Int64)), .second, .val (.ref r0), .val (.int (3 : Int32)), .val (.int (2 : Int32)), .val (.int (2 : Int32))] [(.int (2 : Int32)), (.ref r0)])) rfl rfl (hb hby d8_21) _ ?_
    refine XS.istore X0.here hx rfl (hb hby d8_22) rfl (l' := #[.val (.ref r0), .val (.long (2 : Int64)), .second, .val (.ref r0), .val (.int (3 : Int32)), .val (.int (2 : Int32)), .val (.int pc)]) rfl ?_
    refine XS.iload X0.here hx rfl (hb hby d8_24) rfl ?_
    refine XS.iconst X0.here hx rfl (hb hby d8_26) ?_
    refine XS.icmpYes X0.here hx rfl (pc0 := 27) (pc' := 45) rfl (hb hby d8_27) rfl (flt (own_c1 hc)).2.1 (by decide) (by decide) ?_
    refine XS.lloadN X0.here hx rfl (hb hby d8_45) rfl ?_
    refine X0.ldc2Long hx hown (mvT hZ (W 42 rfl)) (g := (mkF m 46 #[.val (.ref r0), .val (.long (2 : Int64)), .second, .val (.ref r0), .val (.int (3 : Int32)), .val (.int (2 : Int32)), .val (.int pc)] [(.long (2 : Int64))])) rfl (hb hby d8_46) _ ?_
    refine XS.iload X0.here hx rfl (hb hby d8_49) rfl ?_
    refine XS.i2l X0.here hx rfl (hb hby d8_51) rfl ?_
    refine XS.ldiv X0.here hx rfl (hb hby d8_52) rfl (own_c2 hc) ?_
    refine XS.lcmp X0.here hx rfl (hb hby d8_53) rfl ?_
    refine XS.ifYes X0.here hx rfl (pc0 := 54) (pc' := 61) rfl (hb hby d8_54) rfl ((if0 _ _).trans (flt (fun q => (own_c4 hc) ((lw_gt _ _).mp q))).2.2.2) (by decide) (by decide) ?_
    refine XS.lloadN X0.here hx rfl (hb hby d8_61) rfl ?_
    refine XS.iload X0.here hx rfl (hb hby d8_62) rfl ?_
    refine XS.i2l X0.here hx rfl (hb hby d8_64) rfl ?_
    refine XS.lmul X0.here hx rfl (hb hby d8_65) rfl ?_
    refine XS.lstoreN X0.here hx rfl (hb hby d8_66) rfl (l' := #[.val (.ref r0), .val (.long ((2 : Int64) * (pc.toInt64))), .second, .val (.ref r0), .val (.int (3 : Int32)), .val (.int (2 : Int32)), .val (.int pc)]) rfl ?_
    refine XS.iinc X0.here hx rfl (hb hby d8_67) rfl (l' := #[.val (.ref r0), .val (.long ((2 : Int64) * (pc.toInt64))), .second, .val (.ref r0), .val (.int (3 : Int32)), .val (.int ((2 : Int32) + (1 : Int32))), .val (.int pc)]) rfl ?_
    show Steps p.tables e below (s₁.setTop (mkF m 70 #[.val (.ref r0), .val (.long ((2 : Int64) * (pc.toInt64))), .second, .val (.ref r0), .val (.int (3 : Int32)), .val (.int ((2 : Int32) + (1 : Int32))), .val (.int pc)] [])) _
    rw [show ((2 : Int32) + (1 : Int32)) = (3 : Int32) from (by decide)]
    refine XS.goto X0.here hx rfl (pc0 := 70) (pc' := 11) rfl (hb hby d8_70) (by decide) (by decide) ?_
    refine XS.iload X0.here hx rfl (hb hby d8_11) rfl ?_
    refine XS.iload X0.here hx rfl (hb hby d8_13) rfl ?_
    refine XS.icmpYes X0.here hx rfl (pc0 := 15) (pc' := 73) rfl (hb hby d8_15) rfl (flt (by decide : ¬ ((3 : Int32) < (3 : Int32)))).2.1 (by decide) (by decide) ?_
    refine XS.lloadN X0.here hx rfl (hb hby d8_73) rfl ?_
    show Steps p.tables e below (s₁.setTop (mkF m 74 #[.val (.ref r0), .val (.long ((2 : Int64) * (pc.toInt64))), .second, .val (.ref r0), .val (.int (3 : Int32)), .val (.int (3 : Int32)), .val (.int pc)] [(.long ((2 : Int64) * (pc.toInt64)))])) _
    exact own_retJ X0 hx Bd.returns (hb hby d8_74) hr
  · show Q_ts_2 Z pc h0 n0 _ s₁.heap _
    rw [e0]
    exact ⟨rfl, N0, rfl⟩
abbrev Rrm_cs_2 : Room := ({ frames := 4, cells := 1, slots := 3, locals := 79 } : Room)
theorem ef_rm_cs_2 (m : MethodId) (r0 : Addr) (r1 : Addr) : entryFrame m #[(.ref r0), (.ref r1)] 6 = mkF m 0 #[.val (.ref r0), .val (.ref r1), .unset, .unset, .unset, .unset] [] := by first | (simp [entryFrame, mkF, argsToLocals, Value.category]; done) | rfl
def Q_cs_2 (Z : State) (r0 : Addr) (h0 : Heap) (n0 : Nat) (v : Option Value) (h : Heap) (L : List Loc) : Prop := v = none ∧ Fr n0 L ∧ Keep h0 h []
set_option maxRecDepth 65536 in
set_option maxHeartbeats 40000000 in
theorem rm_cs_2 (l : Launch) (Z : State) (a0 : Array Value) (hw : ∀ d ∈ tables_1, d.before a0 Z = true) (ws : List Jvm.Cond) (r0 : Addr) (r1 : Addr) (pc : Int32) (k_r0 : ClassId) (k_r1 : ClassId) (h0 : Heap) (n0 : Nat) (Z0 : n0 ≤ h0.size) (V_r0 : Arv Z h0 r0 k_r0 .int (3 : Int32) [(.int (1 : Int32)), (.int (0 : Int32)), (.int (2 : Int32))] (.int (0 : Int32))) (E_r0 : Exa Z h0 r0 "[I") (V_r1 : Arv Z h0 r1 k_r1 .int (3 : Int32) [(.int (1 : Int32)), (.int (2 : Int32)), (.int pc)] (.int (0 : Int32))) (hc : pc = 1 ∨ pc = 2 ∨ pc = 3) :
    MetFree l (⟨"com/example/beliefwire/beliefwire/model/Factor", "checkScope", "([I[I)V"⟩ : MethodName) (head1 (Jvm.Cond.code (⟨"com/example/beliefwire/beliefwire/model/Factor", "checkScope", "([I[I)V"⟩ : MethodName) prog_60_method_11_code 6 none :: ws) Rrm_cs_2) (fun a U => a = #[(.ref r0), (.ref r1)] ∧ Z.Warmed39 U.vm ∧ U.heap = h0) (fun _ _ _ _ _ => True) (fun _ U o U' => ∃ v L, o = .returned v ∧ Q_cs_2 Z r0 h0 n0 v U'.heap L ∧ FrameEnd U o U' L Rrm_cs_2.cells Rrm_cs_2.slots) := by
  refine MetFree.of_bodySF (plainFor_of_name pn_2) hisR ?_
  intro p e s m args below meth c s₁ Bd hml0 hP hK
  obtain ⟨rfl, hZ, hh⟩ := hP
  have hx := Bd.exec
  have hby := Bd.bytes
  have hml : c.maxLocals = 6 := hml0
  have hown : s.vm.findClass "com/example/beliefwire/beliefwire/model/Factor" = some m.cls := findClass_of_methodNamed Bd.named
  have hnm := (name_of_methodNamed Bd.named Bd.method).1
  have X0 : Stand p l e Rrm_cs_2 s m #[(.ref r0), (.ref r1)] below meth c s₁ [] 0 0 := Stand.of_body Bd
  have e0 : s₁.heap = h0 := by rw [← hh, Bd.state]; rfl
  have N0 := Fr.nil n0
  have W := @own_W a0 Z hw
  have pre0 : ∀ t, Steps p.tables e below (s₁.setTop (mkF m 0 #[.val (.ref r0), .val (.ref r1), .unset, .unset, .unset, .unset] [])) t → Steps p.tables e below (s₁.setTop (entryFrame m #[(.ref r0), (.ref r1)] 6)) t := fun t k => castTop (ef_rm_cs_2 m r0 r1) k
  obtain ⟨cl_r0_1, Ar_r0_1, q_r0_1, S_r0_1, N_r0_1, H_r0_1, G_r0_1⟩ := id V_r0
  have Al_r0_1 := State.isArrayOf_alike hZ.alike Ar_r0_1.2.1
  obtain ⟨cl_r1_2, Ar_r1_2, q_r1_2, S_r1_2, N_r1_2, H_r1_2, G_r1_2⟩ := id V_r1
  have Al_r1_2 := State.isArrayOf_alike hZ.alike Ar_r1_2.2.1
  have hin_r0_1_0 : ¬ ((0 : Int32) < 0 ∨ cl_r0_1.slots.size ≤ ((0 : Int32)).toNatClampNeg) := inb_of S_r0_1 ⟨by decide, by decide⟩
  have hat_r0_1_0 : cl_r0_1.slots[((0 : Int32)).toNatClampNeg]? = some (.int (1 : Int32)) := H_r0_1 _ (by rw [S_r0_1]; decide)
  have hin_r0_1_1 : ¬ ((1 : Int32) < 0 ∨ cl_r0_1.slots.size ≤ ((1 : Int32)).toNatClampNeg) := inb_of S_r0_1 ⟨by decide, by decide⟩
  have hat_r0_1_1 : cl_r0_1.slots[((1 : Int32)).toNatClampNeg]? = some (.int (0 : Int32)) := H_r0_1 _ (by rw [S_r0_1]; decide)
  have hin_r0_1_2 : ¬ ((2 : Int32) < 0 ∨ cl_r0_1.slots.size ≤ ((2 : Int32)).toNatClampNeg) := inb_of S_r0_1 ⟨by decide, by decide⟩
  have hat_r0_1_2 : cl_r0_1.slots[((2 : Int32)).toNatClampNeg]? = some (.int (2 : Int32)) := H_r0_1 _ (by rw [S_r0_1]; decide)
  obtain ⟨T3, h3, X3, e3, E3, V3, B3, st3⟩ := cloneH X0 hx hZ hown (W 16 rfl) (W 17 rfl) (W 21 rfl) (W 19 rfl) (W 20 rfl) (W 22 rfl) e0 (Arv.arh V_r0) E_r0 (g := (mkF m 71 #[.val (.ref r0), .val (.ref r1), .val (.ref r0), .val (.int (3 : Int32)), .val (.int (3 : Int32)), .val (.int (2 : Int32))] [(.ref r0)])) rfl (by rw [hml]; rfl) rfl (hb hby d3_71) (by decide) (W := 0) (cap := 3) (own_le rfl) (by decide) (by decide) (by decide) (by decide)
  obtain ⟨b3, gg3⟩ : ∃ z, z = h0.size := ⟨_, rfl⟩
  rw [← gg3] at V3 B3 st3
  have g_b3 : n0 ≤ b3 := Nat.le_trans Z0 (Nat.le_of_eq gg3.symm)
  have sz_b3 : h0.size ≤ b3 := Nat.le_trans (Nat.le_refl h0.size) (Nat.le_of_eq gg3.symm)
  have V_b3 : Arv Z h3 b3 k_r0 .int (3 : Int32) [(.int (1 : Int32)), (.int (0 : Int32)), (.int (2 : Int32))] (.int (0 : Int32)) := V3
  obtain ⟨T4, X4, e4, st4⟩ := castY X3 hx hZ hown (W 23 rfl) e3 (Ins.self B3) (g := (mkF m 74 #[.val (.ref r0), .val (.ref r1), .val (.ref r0), .val (.int (3 : Int32)), .val (.int (3 : Int32)), .val (.int (2 : Int32))] [(.ref b3)])) rfl rfl (hb hby d3_74)
  have Z6z : n0 ≤ h3.size := (Nat.le_trans Z0 E3.1)
  obtain ⟨_, _, ⟨T5, L5, k5, n5⟩, -, X5, ⟨Lc5, hQ5, l5, y5, z5⟩, st5⟩ := Jvm.LawKit.callS X4 hx (y := (⟨"java/util/Arrays", "sort", "([I)V"⟩ : MethodName)) hown (mvT hZ (W 25 rfl)) (mvT hZ (W 26 rfl)) (mvT hZ (W 27 rfl)) (mvT hZ (W 28 rfl)) (by decide) (backOf (W := 0) (rm_srt4_2 l Z a0 hw [] b3 k_r0 h3 n0 Z6z V_b3 g_b3) hZ (W 28 rfl) (W 27 rfl) (by decide) (by decide)) (g := (mkF m 79 #[.val (.ref r0), .val (.ref r1), .val (.ref b3), .val (.int (3 : Int32)), .val (.int (3 : Int32)), .val (.int (2 : Int32))] [(.ref b3)])) rfl (by rw [hml]; rfl) (argsL := [(.ref b3)]) (rest := []) (lenOf pd_3 rfl) rfl (own_le rfl) (hb hby d3_79) (fun _ _ => ⟨rfl, e4, (by decide : 1 + 0 ≤ _), (by decide : 3 + 0 ≤ _)⟩)
  dsimp only [Pt.U, Pt.locs, Pt.cells, Pt.slots] at X5 l5 y5 z5 st5 hQ5
  subst l5 y5 z5
  obtain ⟨rfl, N5q, K5, V5⟩ := hQ5
  have N5 := Fr.app N0 N5q
  obtain ⟨LL5, X5, N5⟩ := own_hide X5 N5
  obtain ⟨cl_b3_7, Ar_b3_7, q_b3_7, S_b3_7, N_b3_7, H_b3_7, G_b3_7⟩ := id V5
  have Al_b3_7 := State.isArrayOf_alike hZ.alike Ar_b3_7.2.1
  have hin_b3_7_1 : ¬ ((1 : Int32) < 0 ∨ cl_b3_7.slots.size ≤ ((1 : Int32)).toNatClampNeg) := inb_of S_b3_7 ⟨by decide, by decide⟩
  have hat_b3_7_1 : cl_b3_7.slots[((1 : Int32)).toNatClampNeg]? = some (.int (1 : Int32)) := H_b3_7 _ (by rw [S_b3_7]; decide)
  have hin_b3_7_0 : ¬ ((0 : Int32) < 0 ∨ cl_b3_7.slots.size ≤ ((0 : Int32)).toNatClampNeg) := inb_of S_b3_7 ⟨by decide, by decide⟩
  have hat_b3_7_0 : cl_b3_7.slots[((0 : Int32)).toNatClampNeg]? = some (.int (0 : Int32)) := H_b3_7 _ (by rw [S_b3_7]; decide)
  have hin_b3_7_2 : ¬ ((2 : Int32) < 0 ∨ cl_b3_7.slots.size ≤ ((2 : Int32)).toNatClampNeg) := inb_of S_b3_7 ⟨by decide, by decide⟩
  have hat_b3_7_2 : cl_b3_7.slots[((2 : Int32)).toNatClampNeg]? = some (.int (2 : Int32)) := H_b3_7 _ (by rw [S_b3_7]; decide)
  have Z9z : n0 ≤ T5.heap.size := (Nat.le_trans Z6z K5.1)
  have ne_r1_b3 : r1 ≠ b3 := Nat.ne_of_lt (Nat.lt_of_lt_of_le (V_r1).lt (Nat.le_of_eq gg3.symm))
  have V_r1_10 := ((V_r1.ext E3).keep K5 (own_nin1 ne_r1_b3))
  obtain ⟨_, _, ⟨T8, L8, k8, n8⟩, -, X8, ⟨Lc8, hQ8, l8, y8, z8⟩, st8⟩ := Jvm.LawKit.callS X5 hx (y := (⟨"com/example/beliefwire/beliefwire/model/Factor", "tableSize", "([I)J"⟩ : MethodName)) hown (mvT hZ (W 39 rfl)) (mvT hZ (W 40 rfl)) (mvT hZ (W 6 rfl)) (mvT hZ (W 41 rfl)) (by decide) (backOf (W := 0) (rm_ts_2 l Z a0 hw [] r1 pc k_r1 T5.heap n0 Z9z V_r1_10 hc) hZ (W 41 rfl) (W 6 rfl) (by decide) (by decide)) (g := (mkF m 124 #[.val (.ref r0), .val (.ref r1), .val (.ref b3), .val (.int (3 : Int32)), .val (.int (3 : Int32)), .val (.int (2 : Int32))] [(.ref r1)])) rfl (by rw [hml]; rfl) (argsL := [(.ref r1)]) (rest := []) (lenOf pd_4 rfl) rfl (own_le rfl) (hb hby d3_124) (fun _ _ => ⟨rfl, rfl, (by decide : 1 + 0 ≤ _), (by decide : 3 + 0 ≤ _)⟩)
  dsimp only [Pt.U, Pt.locs, Pt.cells, Pt.slots] at X8 l8 y8 z8 st8 hQ8
  subst l8 y8 z8
  obtain ⟨rfl, N8q, eq8⟩ := hQ8
  have N8 := Fr.app N5 N8q
  obtain ⟨LL8, X8, N8⟩ := own_hide X8 N8
  have KK11 : Keep h0 T5.heap [] := (((Keep.refl h0 []).ext E3).trans K5 (own_in1 (Or.inr sz_b3)))
  obtain ⟨fs, hr, hrun, hended, hW, hsame⟩ := X8.leave (v := none) (fun _ => rfl)
  refine ⟨_, _, pre0 _ ?_, hrun, hended, _, _, rfl, ?_, ⟨_, rfl⟩, hW, hsame.mono (by decide) (by decide)⟩
  · show Steps p.tables e below (s₁.setTop (mkF m 0 #[.val (.ref r0), .val (.ref r1), .unset, .unset, .unset, .unset] [])) _
    refine XS.aloadN X0.here hx rfl (hb hby d3_0) rfl rfl ?_
    refine X0.arraylength hx (by rw [e0]; exact Ar_r0_1.1) Al_r0_1 (g := (mkF m 1 #[.val (.ref r0), .val (.ref r1), .unset, .unset, .unset, .unset] [(.ref r0)])) rfl rfl (hb hby d3_1) _ ?_
    rw [len_of S_r0_1 N_r0_1]
    refine XS.aloadN X0.here hx rfl (hb hby d3_2) rfl rfl ?_
    refine X0.arraylength hx (by rw [e0]; exact Ar_r1_2.1) Al_r1_2 (g := (mkF m 3 #[.val (.ref r0), .val (.ref r1), .unset, .unset, .unset, .unset] [(.ref r1), (.int (3 : Int32))])) rfl rfl (hb hby d3_3) _ ?_
    rw [len_of S_r1_2 N_r1_2]
    refine XS.icmpYes X0.here hx rfl (pc0 := 4) (pc' := 24) rfl (hb hby d3_4) rfl (teq (by decide : (3 : Int32) = (3 : Int32))).1 (by decide) (by decide) ?_
    refine XS.aloadN X0.here hx rfl (hb hby d3_24) rfl rfl ?_
    refine XS.astoreN X0.here hx rfl (hb hby d3_25) rfl rfl (l' := #[.val (.ref r0), .val (.ref r1), .val (.ref r0), .unset, .unset, .unset]) rfl ?_
    refine XS.aloadN X0.here hx rfl (hb hby d3_26) rfl rfl ?_
    refine X0.arraylength hx (by rw [e0]; exact Ar_r0_1.1) Al_r0_1 (g := (mkF m 27 #[.val (.ref r0), .val (.ref r1), .val (.ref r0), .unset, .unset, .unset] [(.ref r0)])) rfl rfl (hb hby d3_27) _ ?_
    rw [len_of S_r0_1 N_r0_1]
    refine XS.istoreN X0.here hx rfl (hb hby d3_28) rfl (l' := #[.val (.ref r0), .val (.ref r1), .val (.ref r0), .val (.int (3 : Int32)), .unset, .unset]) rfl ?_
    refine XS.iconst X0.here hx rfl (hb hby d3_29) ?_
    refine XS.istore X0.here hx rfl (hb hby d3_30) rfl (l' := #[.val (.ref r0), .val (.ref r1), .val (.ref r0), .val (.int (3 : Int32)), .val (.int (0 : Int32)), .unset]) rfl ?_
    refine XS.iload X0.here hx rfl (hb hby d3_32) rfl ?_
    refine XS.iloadN X0.here hx rfl (hb hby d3_34) rfl ?_
    refine XS.icmpNo X0.here hx rfl (hb hby d3_35) rfl (tlt (by decide : (0 : Int32) < (3 : Int32))).2.1 ?_
    refine XS.aloadN X0.here hx rfl (hb hby d3_38) rfl rfl ?_
    refine XS.iload X0.here hx rfl (hb hby d3_39) rfl ?_
    refine X0.iaload hx (j := (0 : Int32)) (v := (.int (1 : Int32))) (by rw [e0]; exact Ar_r0_1.1) Al_r0_1 Ar_r0_1.2.2 hin_r0_1_0 hat_r0_1_0 (g := (mkF m 41 #[.val (.ref r0), .val (.ref r1), .val (.ref r0), .val (.int (3 : Int32)), .val (.int (0 : Int32)), .unset] [(.int (0 : Int32)), (.ref r0)])) rfl rfl (hb hby d3_41) _ ?_
    refine XS.istore X0.here hx rfl (hb hby d3_42) rfl (l' := #[.val (.ref r0), .val (.ref r1), .val (.ref r0), .val (.int (3 : Int32)), .val (.int (0 : Int32)), .val (.int (1 : Int32))]) rfl ?_
    refine XS.iload X0.here hx rfl (hb hby d3_44) rfl ?_
    refine XS.ifYes X0.here hx rfl (pc0 := 46) (pc' := 64) rfl (hb hby d3_46) rfl ((if0 _ _).trans (flt (by decide : ¬ ((1 : Int32) < (0 : Int32)))).2.1) (by decide) (by decide) ?_
    refine XS.iinc X0.here hx rfl (hb hby d3_64) rfl (l' := #[.val (.ref r0), .val (.ref r1), .val (.ref r0), .val (.int (3 : Int32)), .val (.int ((0 : Int32) + (1 : Int32))), .val (.int (1 : Int32))]) rfl ?_
    show Steps p.tables e below (s₁.setTop (mkF m 67 #[.val (.ref r0), .val (.ref r1), .val (.ref r0), .val (.int (3 : Int32)), .val (.int ((0 : Int32) + (1 : Int32))), .val (.int (1 : Int32))] [])) _
    rw [show ((0 : Int32) + (1 : Int32)) = (1 : Int32) from (by decide)]
    refine XS.goto X0.here hx rfl (pc0 := 67) (pc' := 32) rfl (hb hby d3_67) (by decide) (by decide) ?_
    refine XS.iload X0.here hx rfl (hb hby d3_32) rfl ?_
    refine XS.iloadN X0.here hx rfl (hb hby d3_34) rfl ?_
    refine XS.icmpNo X0.here hx rfl (hb hby d3_35) rfl (tlt (by decide : (1 : Int32) < (3 : Int32))).2.1 ?_
    refine XS.aloadN X0.here hx rfl (hb hby d3_38) rfl rfl ?_
    refine XS.iload X0.here hx rfl (hb hby d3_39) rfl ?_
    refine X0.iaload hx (j := (1 : Int32)) (v := (.int (0 : Int32))) (by rw [e0]; exact Ar_r0_1.1) Al_r0_1 Ar_r0_1.2.2 hin_r0_1_1 hat_r0_1_1 (g := (mkF m 41 #[.val (.ref r0), .val (.ref r1), .val (.ref r0), .val (.int (3 : Int32)), .val (.int (1 : Int32)), .val (.int (1 : Int32))] [(.int (1 : Int32)), (.ref r0)])) rfl rfl (hb hby d3_41) _ ?_
    refine XS.istore X0.here hx rfl (hb hby d3_42) rfl (l' := #[.val (.ref r0), .val (.ref r1), .val (.ref r0), .val (.int (3 : Int32)), .val (.int (1 : Int32)), .val (.int (0 : Int32))]) rfl ?_
    refine XS.iload X0.here hx rfl (hb hby d3_44) rfl ?_
    refine XS.ifYes X0.here hx rfl (pc0 := 46) (pc' := 64) rfl (hb hby d3_46) rfl ((if0 _ _).trans (flt (by decide : ¬ ((0 : Int32) < (0 : Int32)))).2.1) (by decide) (by decide) ?_
    refine XS.iinc X0.here hx rfl (hb hby d3_64) rfl (l' := #[.val (.ref r0), .val (.ref r1), .val (.ref r0), .val (.int (3 : Int32)), .val (.int ((1 : Int32) + (1 : Int32))), .val (.int (0 : Int32))]) rfl ?_
    show Steps p.tables e below (s₁.setTop (mkF m 67 #[.val (.ref r0), .val (.ref r1), .val (.ref r0), .val (.int (3 : Int32)), .val (.int ((1 : Int32) + (1 : Int32))), .val (.int (0 : Int32))] [])) _
    rw [show ((1 : Int32) + (1 : Int32)) = (2 : Int32) from (by decide)]
    refine XS.goto X0.here hx rfl (pc0 := 67) (pc' := 32) rfl (hb hby d3_67) (by decide) (by decide) ?_
    refine XS.iload X0.here hx rfl (hb hby d3_32) rfl ?_
    refine XS.iloadN X0.here hx rfl (hb hby d3_34) rfl ?_
    refine XS.icmpNo X0.here hx rfl (hb hby d3_35) rfl (tlt (by decide : (2 : Int32) < (3 : Int32))).2.1 ?_
    refine XS.aloadN X0.here hx rfl (hb hby d3_38) rfl rfl ?_
    refine XS.iload X0.here hx rfl (hb hby d3_39) rfl ?_
    refine X0.iaload hx (j := (2 : Int32)) (v := (.int (2 : Int32))) (by rw [e0]; exact Ar_r0_1.1) Al_r0_1 Ar_r0_1.2.2 hin_r0_1_2 hat_r0_1_2 (g := (mkF m 41 #[.val (.ref r0), .val (.ref r1), .val (.ref r0), .val (.int (3 : Int32)), .val (.int (2 : Int32)), .val (.int (0 : Int32))] [(.int (2 : Int32)), (.ref r0)])) rfl rfl (hb hby d3_41) _ ?_
    refine XS.istore X0.here hx rfl (hb hby d3_42) rfl (l' := #[.val (.ref r0), .val (.ref r1), .val (.ref r0), .val (.int (3 : Int32)), .val (.int (2 : Int32)), .val (.int (2 : Int32))]) rfl ?_
    refine XS.iload X0.here hx rfl (hb hby d3_44) rfl ?_
    refine XS.ifYes X0.here hx rfl (pc0 := 46) (pc' := 64) rfl (hb hby d3_46) rfl ((if0 _ _).trans (flt (by decide : ¬ ((2 : Int32) < (0 : Int32)))).2.1) (by decide) (by decide) ?_
    refine XS.iinc X0.here hx rfl (hb hby d3_64) rfl (l' := #[.val (.ref r0), .val (.ref r1), .val (.ref r0), .val (.int (3 : Int32)), .val (.int ((2 : Int32) + (1 : Int32))), .val (.int (2 : Int32))]) rfl ?_
    show Steps p.tables e below (s₁.setTop (mkF m 67 #[.val (.ref r0), .val (.ref r1), .val (.ref r0), .val (.int (3 : Int32)), .val (.int ((2 : Int32) + (1 : Int32))), .val (.int (2 : Int32))] [])) _
    rw [show ((2 : Int32) + (1 : Int32)) = (3 : Int32) from (by decide)]
    refine XS.goto X0.here hx rfl (pc0 := 67) (pc' := 32) rfl (hb hby d3_67) (by decide) (by decide) ?_
    refine XS.iload X0.here hx rfl (hb hby d3_32) rfl ?_
    refine XS.iloadN X0.here hx rfl (hb hby d3_34) rfl ?_
    refine XS.icmpYes X0.here hx rfl (pc0 := 35) (pc' := 70) rfl (hb hby d3_35) rfl (flt (by decide : ¬ ((3 : Int32) < (3 : Int32)))).2.1 (by decide) (by decide) ?_
    refine XS.aloadN X0.here hx rfl (hb hby d3_70) rfl rfl ?_
    refine st3 _ ?_
    refine st4 _ ?_
    refine XS.astoreN X4.here hx rfl (hb hby d3_77) rfl rfl (l' := #[.val (.ref r0), .val (.ref r1), .val (.ref b3), .val (.int (3 : Int32)), .val (.int (3 : Int32)), .val (.int (2 : Int32))]) rfl ?_
    refine XS.aloadN X4.here hx rfl (hb hby d3_78) rfl rfl ?_
    refine st5 _ ?_
    refine XS.iconst X5.here hx rfl (hb hby d3_82) ?_
    refine XS.istoreN X5.here hx rfl (hb hby d3_83) rfl (l' := #[.val (.ref r0), .val (.ref r1), .val (.ref b3), .val (.int (1 : Int32)), .val (.int (3 : Int32)), .val (.int (2 : Int32))]) rfl ?_
    refine XS.iloadN X5.here hx rfl (hb hby d3_84) rfl ?_
    refine XS.aloadN X5.here hx rfl (hb hby d3_85) rfl rfl ?_
    refine X5.arraylength hx Ar_b3_7.1 Al_b3_7 (g := (mkF m 86 #[.val (.ref r0), .val (.ref r1), .val (.ref b3), .val (.int (1 : Int32)), .val (.int (3 : Int32)), .val (.int (2 : Int32))] [(.ref b3), (.int (1 : Int32))])) rfl rfl (hb hby d3_86) _ ?_
    rw [len_of S_b3_7 N_b3_7]
    refine XS.icmpNo X5.here hx rfl (hb hby d3_87) rfl (tlt (by decide : (1 : Int32) < (3 : Int32))).2.1 ?_
    refine XS.aloadN X5.here hx rfl (hb hby d3_90) rfl rfl ?_
    refine XS.iloadN X5.here hx rfl (hb hby d3_91) rfl ?_
    refine X5.iaload hx (j := (1 : Int32)) (v := (.int (1 : Int32))) Ar_b3_7.1 Al_b3_7 Ar_b3_7.2.2 hin_b3_7_1 hat_b3_7_1 (g := (mkF m 92 #[.val (.ref r0), .val (.ref r1), .val (.ref b3), .val (.int (1 : Int32)), .val (.int (3 : Int32)), .val (.int (2 : Int32))] [(.int (1 : Int32)), (.ref b3)])) rfl rfl (hb hby d3_92) _ ?_
    refine XS.aloadN X5.here hx rfl (hb hby d3_93) rfl rfl ?_
    refine XS.iloadN X5.here hx rfl (hb hby d3_94) rfl ?_
    refine XS.iconst X5.here hx rfl (hb hby d3_95) ?_
    refine XS.isub X5.here hx rfl (hb hby d3_96) rfl ?_
    show Steps p.tables e below (T5.setTop (mkF m 97 #[.val (.ref r0), .val (.ref r1), .val (.ref b3), .val (.int (1 : Int32)), .val (.int (3 : Int32)), .val (.int (2 : Int32))] [(.int ((1 : Int32) - (1 : Int32))), (.ref b3), (.int (1 : Int32))])) _
    rw [show ((1 : Int32) - (1 : Int32)) = (0 : Int32) from (by decide)]
    refine X5.iaload hx (j := (0 : Int32)) (v := (.int (0 : Int32))) Ar_b3_7.1 Al_b3_7 Ar_b3_7.2.2 hin_b3_7_0 hat_b3_7_0 (g := (mkF m 97 #[.val (.ref r0), .val (.ref r1), .val (.ref b3), .val (.int (1 : Int32)), .val (.int (3 : Int32)), .val (.int (2 : Int32))] [(.int (0 : Int32)), (.ref b3), (.int (1 : Int32))])) rfl rfl (hb hby d3_97) _ ?_
    refine XS.icmpYes X5.here hx rfl (pc0 := 98) (pc' := 117) rfl (hb hby d3_98) rfl (feq (by decide : ¬ ((1 : Int32) = (0 : Int32)))).2 (by decide) (by decide) ?_
    refine XS.iinc X5.here hx rfl (hb hby d3_117) rfl (l' := #[.val (.ref r0), .val (.ref r1), .val (.ref b3), .val (.int ((1 : Int32) + (1 : Int32))), .val (.int (3 : Int32)), .val (.int (2 : Int32))]) rfl ?_
    show Steps p.tables e below (T5.setTop (mkF m 120 #[.val (.ref r0), .val (.ref r1), .val (.ref b3), .val (.int ((1 : Int32) + (1 : Int32))), .val (.int (3 : Int32)), .val (.int (2 : Int32))] [])) _
    rw [show ((1 : Int32) + (1 : Int32)) = (2 : Int32) from (by decide)]
    refine XS.goto X5.here hx rfl (pc0 := 120) (pc' := 84) rfl (hb hby d3_120) (by decide) (by decide) ?_
    refine XS.iloadN X5.here hx rfl (hb hby d3_84) rfl ?_
    refine XS.aloadN X5.here hx rfl (hb hby d3_85) rfl rfl ?_
    refine X5.arraylength hx Ar_b3_7.1 Al_b3_7 (g := (mkF m 86 #[.val (.ref r0), .val (.ref r1), .val (.ref b3), .val (.int (2 : Int32)), .val (.int (3 : Int32)), .val (.int (2 : Int32))] [(.ref b3), (.int (2 : Int32))])) rfl rfl (hb hby d3_86) _ ?_
    rw [len_of S_b3_7 N_b3_7]
    refine XS.icmpNo X5.here hx rfl (hb hby d3_87) rfl (tlt (by decide : (2 : Int32) < (3 : Int32))).2.1 ?_
    refine XS.aloadN X5.here hx rfl (hb hby d3_90) rfl rfl ?_
    refine XS.iloadN X5.here hx rfl (hb hby d3_91) rfl ?_
    refine X5.iaload hx (j := (2 : Int32)) (v := (.int (2 : Int32))) Ar_b3_7.1 Al_b3_7 Ar_b3_7.2.2 hin_b3_7_2 hat_b3_7_2 (g := (mkF m 92 #[.val (.ref r0), .val (.ref r1), .val (.ref b3), .val (.int (2 : Int32)), .val (.int (3 : Int32)), .val (.int (2 : Int32))] [(.int (2 : Int32)), (.ref b3)])) rfl rfl (hb hby d3_92) _ ?_
    refine XS.aloadN X5.here hx rfl (hb hby d3_93) rfl rfl ?_
    refine XS.iloadN X5.here hx rfl (hb hby d3_94) rfl ?_
    refine XS.iconst X5.here hx rfl (hb hby d3_95) ?_
    refine XS.isub X5.here hx rfl (hb hby d3_96) rfl ?_
    show Steps p.tables e below (T5.setTop (mkF m 97 #[.val (.ref r0), .val (.ref r1), .val (.ref b3), .val (.int (2 : Int32)), .val (.int (3 : Int32)), .val (.int (2 : Int32))] [(.int ((2 : Int32) - (1 : Int32))), (.ref b3), (.int (2 : Int32))])) _
    rw [show ((2 : Int32) - (1 : Int32)) = (1 : Int32) from (by decide)]
    refine X5.iaload hx (j := (1 : Int32)) (v := (.int (1 : Int32))) Ar_b3_7.1 Al_b3_7 Ar_b3_7.2.2 hin_b3_7_1 hat_b3_7_1 (g := (mkF m 97 #[.val (.ref r0), .val (.ref r1), .val (.ref b3), .val (.int (2 : Int32)), .val (.int (3 : Int32)), .val (.int (2 : Int32))] [(.int (1 : Int32)), (.ref b3), (.int (2 : Int32))])) rfl rfl (hb hby d3_97) _ ?_
    refine XS.icmpYes X5.here hx rfl (pc0 := 98) (pc' := 117) rfl (hb hby d3_98) rfl (feq (by decide : ¬ ((2 : Int32) = (1 : Int32)))).2 (by decide) (by decide) ?_
    refine XS.iinc X5.here hx rfl (hb hby d3_117) rfl (l' := #[.val (.ref r0), .val (.ref r1), .val (.ref b3), .val (.int ((2 : Int32) + (1 : Int32))), .val (.int (3 : Int32)), .val (.int (2 : Int32))]) rfl ?_
    show Steps p.tables e below (T5.setTop (mkF m 120 #[.val (.ref r0), .val (.ref r1), .val (.ref b3), .val (.int ((2 : Int32) + (1 : Int32))), .val (.int (3 : Int32)), .val (.int (2 : Int32))] [])) _
    rw [show ((2 : Int32) + (1 : Int32)) = (3 : Int32) from (by decide)]
    refine XS.goto X5.here hx rfl (pc0 := 120) (pc' := 84) rfl (hb hby d3_120) (by decide) (by decide) ?_
    refine XS.iloadN X5.here hx rfl (hb hby d3_84) rfl ?_
    refine XS.aloadN X5.here hx rfl (hb hby d3_85) rfl rfl ?_
    refine X5.arraylength hx Ar_b3_7.1 Al_b3_7 (g := (mkF m 86 #[.val (.ref r0), .val (.ref r1), .val (.ref b3), .val (.int (3 : Int32)), .val (.int (3 : Int32)), .val (.int (2 : Int32))] [(.ref b3), (.int (3 : Int32))])) rfl rfl (hb hby d3_86) _ ?_
    rw [len_of S_b3_7 N_b3_7]
    refine XS.icmpYes X5.here hx rfl (pc0 := 87) (pc' := 123) rfl (hb hby d3_87) rfl (flt (by decide : ¬ ((3 : Int32) < (3 : Int32)))).2.1 (by decide) (by decide) ?_
    refine XS.aloadN X5.here hx rfl (hb hby d3_123) rfl rfl ?_
    refine st8 _ ?_
    show Steps p.tables e below (T8.setTop (mkF m 127 #[.val (.ref r0), .val (.ref r1), .val (.ref b3), .val (.int (3 : Int32)), .val (.int (3 : Int32)), .val (.int (2 : Int32))] [(.long ((2 : Int64) * (pc.toInt64)))])) _
    jvm_step X8.here [X8.here.top, hx, (hb hby d3_127), Value.category]
    show Steps p.tables e below (T8.setTop (mkF m 128 #[.val (.ref r0), .val (.ref r1), .val (.ref b3), .val (.int (3 : Int32)), .val (.int (3 : Int32)), .val (.int (2 : Int32))] [])) _
    exact X8.returnOut hx Bd.returns (hb hby d3_128) hr
  · show Q_cs_2 Z r0 h0 n0 _ T8.heap _
    rw [eq8]
    exact ⟨rfl, N8, KK11⟩
theorem d12_0 : decode prog_60_method_8_code 0 = .ok (.aload_n 0, 1) := by decide +kernel
theorem d12_1 : decode prog_60_method_8_code 1 = .ok (.getfield 56, 3) := by decide +kernel
theorem d12_4 : decode prog_60_method_8_code 4 = .ok (.iload_n 1, 1) := by decide +kernel
theorem d12_5 : decode prog_60_method_8_code 5 = .ok (.daload, 1) := by decide +kernel
theorem d12_6 : decode prog_60_method_8_code 6 = .ok (.dreturn, 1) := by decide +kernel
abbrev Rrm_en : Room := ({ frames := 0, cells := 0, slots := 0, locals := 0 } : Room)
theorem ef_rm_en (m : MethodId) (r0 : Addr) (p1 : Int32) : entryFrame m #[(.ref r0), (.int p1)] 2 = mkF m 0 #[.val (.ref r0), .val (.int p1)] [] := by first | (simp [entryFrame, mkF, argsToLocals, Value.category]; done) | rfl
def Q_en (Z : State) (x : UInt64) (h0 : Heap) (n0 : Nat) (v : Option Value) (h : Heap) (L : List Loc) : Prop := v = some (.double x) ∧ Fr n0 L ∧ h = h0
set_option maxRecDepth 65536 in
set_option maxHeartbeats 40000000 in
theorem rm_en (l : Launch) (Z : State) (a0 : Array Value) (hw : ∀ d ∈ tables_1, d.before a0 Z = true) (ws : List Jvm.Cond) (r0 : Addr) (p1 : Int32) (re : Addr) (ce : Cell) (x : UInt64) (h0 : Heap) (n0 : Nat) (Z0 : n0 ≤ h0.size) (F_entries_r0 : Fld Z h0 r0 "com/example/beliefwire/beliefwire/model/Factor" "entries" "[D" (.ref re)) (Ar : Arr Z h0 re ce .double) (hin : ¬ (p1 < 0 ∨ ce.slots.size ≤ p1.toNatClampNeg)) (hat : ce.slots[p1.toNatClampNeg]? = some (.double x)) :
    MetFree l (⟨"com/example/beliefwire/beliefwire/model/Factor", "entry", "(I)D"⟩ : MethodName) (head1 (Jvm.Cond.code (⟨"com/example/beliefwire/beliefwire/model/Factor", "entry", "(I)D"⟩ : MethodName) prog_60_method_8_code 2 (some .double) :: ws) Rrm_en) (fun a U => a = #[(.ref r0), (.int p1)] ∧ Z.Warmed39 U.vm ∧ U.heap = h0) (fun _ _ _ _ _ => True) (fun _ U o U' => ∃ v L, o = .returned v ∧ Q_en Z x h0 n0 v U'.heap L ∧ FrameEnd U o U' L Rrm_en.cells Rrm_en.slots) := by
  refine MetFree.of_bodySF (plainFor_of_name pn_2) hisR ?_
  intro p e s m args below meth c s₁ Bd hml0 hP hK
  obtain ⟨rfl, hZ, hh⟩ := hP
  have hx := Bd.exec
  have hby := Bd.bytes
  have hml : c.maxLocals = 2 := hml0
  have hown : s.vm.findClass "com/example/beliefwire/beliefwire/model/Factor" = some m.cls := findClass_of_methodNamed Bd.named
  have hnm := (name_of_methodNamed Bd.named Bd.method).1
  have X0 : Stand p l e Rrm_en s m #[(.ref r0), (.int p1)] below meth c s₁ [] 0 0 := Stand.of_body Bd
  have e0 : s₁.heap = h0 := by rw [← hh, Bd.state]; rfl
  have N0 := Fr.nil n0
  have W := @own_W a0 Z hw
  have pre0 : ∀ t, Steps p.tables e below (s₁.setTop (mkF m 0 #[.val (.ref r0), .val (.int p1)] [])) t → Steps p.tables e below (s₁.setTop (entryFrame m #[(.ref r0), (.int p1)] 2)) t := fun t k => castTop (ef_rm_en m r0 p1) k
  obtain ⟨T1, X1, e1, st1⟩ := getF X0 hx hZ hown (host := "") (Or.inl (W 54 rfl)) Via.refl e0 F_entries_r0 (g := (mkF m 1 #[.val (.ref r0), .val (.int p1)] [(.ref r0)])) rfl rfl (hb hby d12_1)
  obtain ⟨fs, hr, hrun, hended, hW, hsame⟩ := X1.leave (v := some (.double x)) (fun h => by rw [Bd.returns] at h; cases h)
  refine ⟨_, _, pre0 _ ?_, hrun, hended, _, _, rfl, ?_, ⟨_, rfl⟩, hW, hsame.mono (by decide) (by decide)⟩
  · show Steps p.tables e below (s₁.setTop (mkF m 0 #[.val (.ref r0), .val (.int p1)] [])) _
    refine XS.aloadN X0.here hx rfl (hb hby d12_0) rfl rfl ?_
    refine st1 _ ?_
    refine XS.iloadN X1.here hx rfl (hb hby d12_4) rfl ?_
    refine X1.daload hx (j := p1) (v := (.double x)) (by rw [e1]; exact Ar.1) (State.isArrayOf_alike hZ.alike Ar.2.1) Ar.2.2 hin hat (g := (mkF m 5 #[.val (.ref r0), .val (.int p1)] [(.int p1), (.ref re)])) rfl rfl (hb hby d12_5) _ ?_
    show Steps p.tables e below (T1.setTop (mkF m 6 #[.val (.ref r0), .val (.int p1)] [(.double x)])) _
    exact own_retD X1 hx Bd.returns (hb hby d12_6) hr
  · show Q_en Z x h0 n0 _ T1.heap _
    rw [e1]
    exact ⟨rfl, N0, rfl⟩
theorem d10_0 : decode prog_60_method_5_code 0 = .ok (.aload_n 0, 1) := by decide +kernel
theorem d10_1 : decode prog_60_method_5_code 1 = .ok (.getfield 50, 3) := by decide +kernel
theorem d10_4 : decode prog_60_method_5_code 4 = .ok (.invokevirtual 41, 3) := by decide +kernel
theorem d10_7 : decode prog_60_method_5_code 7 = .ok (.checkcast 42, 3) := by decide +kernel
theorem d10_10 : decode prog_60_method_5_code 10 = .ok (.areturn, 1) := by decide +kernel
abbrev Rrm_ca_0 : Room := ({ frames := 1, cells := 1, slots := 1, locals := 14 } : Room)
theorem ef_rm_ca_0 (m : MethodId) (r0 : Addr) : entryFrame m #[(.ref r0)] 1 = mkF m 0 #[.val (.ref r0)] [] := by first | (simp [entryFrame, mkF, argsToLocals, Value.category]; done) | rfl
def Q_ca_0 (Z : State) (pc : Int32) (k_rc : ClassId) (h0 : Heap) (n0 : Nat) (v : Option Value) (h : Heap) (L : List Loc) : Prop := (∃ b : Addr, v = some (.ref b) ∧ Arv Z h b k_rc .int (1 : Int32) [(.int pc)] (.int (0 : Int32))) ∧ Fr n0 L ∧ Keep h0 h []
set_option maxRecDepth 65536 in
set_option maxHeartbeats 40000000 in
theorem rm_ca_0 (l : Launch) (Z : State) (a0 : Array Value) (hw : ∀ d ∈ tables_1, d.before a0 Z = true) (ws : List Jvm.Cond) (r0 : Addr) (rc : Addr) (pc : Int32) (k_rc : ClassId) (h0 : Heap) (n0 : Nat) (Z0 : n0 ≤ h0.size) (F_cardinalities_r0 : Fld Z h0 r0 "com/example/beliefwire/beliefwire/model/Factor" "cardinalities" "[I" (.ref rc)) (V_rc : Arv Z h0 rc k_rc .int (1 : Int32) [(.int pc)] (.int (0 : Int32))) (E_rc : Exa Z h0 rc "[I") :
    MetFree l (⟨"com/example/beliefwire/beliefwire/model/Factor", "cardinalities", "()[I"⟩ : MethodName) (head1 (Jvm.Cond.code (⟨"com/example/beliefwire/beliefwire/model/Factor", "cardinalities", "()[I"⟩ : MethodName) prog_60_method_5_code 1 (some (.array .int)) :: ws) Rrm_ca_0) (fun a U => a = #[(.ref r0)] ∧ Z.Warmed39 U.vm ∧ U.heap = h0) (fun _ _ _ _ _ => True) (fun _ U o U' => ∃ v L, o = .returned v ∧ Q_ca_0 Z pc k_rc h0 n0 v U'.heap L ∧ FrameEnd U o U' L Rrm_ca_0.cells Rrm_ca_0.slots) := by
  refine MetFree.of_bodySF (plainFor_of_name pn_2) hisR ?_
  intro p e s m args below meth c s₁ Bd hml0 hP hK
  obtain ⟨rfl, hZ, hh⟩ := hP
  have hx := Bd.exec
  have hby := Bd.bytes
  have hml : c.maxLocals = 1 := hml0
  have hown : s.vm.findClass "com/example/beliefwire/beliefwire/model/Factor" = some m.cls := findClass_of_methodNamed Bd.named
  have hnm := (name_of_methodNamed Bd.named Bd.method).1
  have X0 : Stand p l e Rrm_ca_0 s m #[(.ref r0)] below meth c s₁ [] 0 0 := Stand.of_body Bd
  have e0 : s₁.heap = h0 := by rw [← hh, Bd.state]; rfl
  have N0 := Fr.nil n0
  have W := @own_W a0 Z hw
  have pre0 : ∀ t, Steps p.tables e below (s₁.setTop (mkF m 0 #[.val (.ref r0)] [])) t → Steps p.tables e below (s₁.setTop (entryFrame m #[(.ref r0)] 1)) t := fun t k => castTop (ef_rm_ca_0 m r0) k
  obtain ⟨T1, X1, e1, st1⟩ := getF X0 hx hZ hown (host := "") (Or.inl (W 46 rfl)) Via.refl e0 F_cardinalities_r0 (g := (mkF m 1 #[.val (.ref r0)] [(.ref r0)])) rfl rfl (hb hby d10_1)
  obtain ⟨T2, h2, X2, e2, E2, V2, B2, st2⟩ := cloneH X1 hx hZ hown (W 16 rfl) (W 17 rfl) (W 21 rfl) (W 19 rfl) (W 20 rfl) (W 22 rfl) e1 (Arv.arh V_rc) E_rc (g := (mkF m 4 #[.val (.ref r0)] [(.ref rc)])) rfl (by rw [hml]; rfl) rfl (hb hby d10_4) (by decide) (W := 0) (cap := 1) (own_le rfl) (by decide) (by decide) (by decide) (by decide)
  obtain ⟨b2, gg2⟩ : ∃ z, z = h0.size := ⟨_, rfl⟩
  rw [← gg2] at V2 B2 st2
  have g_b2 : n0 ≤ b2 := Nat.le_trans Z0 (Nat.le_of_eq gg2.symm)
  have sz_b2 : h0.size ≤ b2 := Nat.le_trans (Nat.le_refl h0.size) (Nat.le_of_eq gg2.symm)
  have V_b2 : Arv Z h2 b2 k_rc .int (1 : Int32) [(.int pc)] (.int (0 : Int32)) := V2
  obtain ⟨T3, X3, e3, st3⟩ := castY X2 hx hZ hown (W 23 rfl) e2 (Ins.self B2) (g := (mkF m 7 #[.val (.ref r0)] [(.ref b2)])) rfl rfl (hb hby d10_7)
  have KK4 : Keep h0 h2 [] := ((Keep.refl h0 []).ext E2)
  obtain ⟨fs, hr, hrun, hended, hW, hsame⟩ := X3.leave (v := some (.ref b2)) (fun h => by rw [Bd.returns] at h; cases h)
  refine ⟨_, _, pre0 _ ?_, hrun, hended, _, _, rfl, ?_, ⟨_, rfl⟩, hW, hsame.mono (by decide) (by decide)⟩
  · show Steps p.tables e below (s₁.setTop (mkF m 0 #[.val (.ref r0)] [])) _
    refine XS.aloadN X0.here hx rfl (hb hby d10_0) rfl rfl ?_
    refine st1 _ ?_
    refine st2 _ ?_
    refine st3 _ ?_
    show Steps p.tables e below (T3.setTop (mkF m 10 #[.val (.ref r0)] [(.ref b2)])) _
    jvm_step X3.here [X3.here.top, hx, (hb hby d10_10), X3.method', Bd.returns, Value.isRef, FieldType.isReference]
    first | (intro acts; rw [hr _ acts rfl rfl rfl]) | rw [hr _ _ rfl rfl rfl]
    exact Steps.refl _
  · show Q_ca_0 Z pc k_rc h0 n0 _ T3.heap _
    rw [e3]
    exact ⟨⟨b2, rfl, V_b2⟩, N0, KK4⟩
theorem d11_0 : decode prog_40_method_6_code 0 = .ok (.iload_n 2, 1) := by decide +kernel
theorem d11_1 : decode prog_40_method_6_code 1 = .ok (.newarray .double, 2) := by decide +kernel
theorem d11_3 : decode prog_40_method_6_code 3 = .ok (.astore_n 3, 1) := by decide +kernel
theorem d11_4 : decode prog_40_method_6_code 4 = .ok (.iconst 0, 1) := by decide +kernel
theorem d11_5 : decode prog_40_method_6_code 5 = .ok (.istore 4, 2) := by decide +kernel
theorem d11_7 : decode prog_40_method_6_code 7 = .ok (.iload 4, 2) := by decide +kernel
theorem d11_9 : decode prog_40_method_6_code 9 = .ok (.iload_n 2, 1) := by decide +kernel
theorem d11_10 : decode prog_40_method_6_code 10 = .ok (.if_icmp .ge 21, 3) := by decide +kernel
theorem d11_13 : decode prog_40_method_6_code 13 = .ok (.aload_n 3, 1) := by decide +kernel
theorem d11_14 : decode prog_40_method_6_code 14 = .ok (.iload 4, 2) := by decide +kernel
theorem d11_16 : decode prog_40_method_6_code 16 = .ok (.aload_n 0, 1) := by decide +kernel
theorem d11_17 : decode prog_40_method_6_code 17 = .ok (.iload_n 1, 1) := by decide +kernel
theorem d11_18 : decode prog_40_method_6_code 18 = .ok (.iload 4, 2) := by decide +kernel
theorem d11_20 : decode prog_40_method_6_code 20 = .ok (.iadd, 1) := by decide +kernel
theorem d11_21 : decode prog_40_method_6_code 21 = .ok (.invokevirtual 73, 3) := by decide +kernel
theorem pd_5 : parseMethodDescriptor "(I)D" = some ⟨[.int], some .double⟩ := by decide +kernel
theorem d11_24 : decode prog_40_method_6_code 24 = .ok (.dastore, 1) := by decide +kernel
theorem d11_25 : decode prog_40_method_6_code 25 = .ok (.iinc 4 1, 3) := by decide +kernel
theorem d11_28 : decode prog_40_method_6_code 28 = .ok (.goto (-21), 3) := by decide +kernel
theorem d11_31 : decode prog_40_method_6_code 31 = .ok (.aload_n 3, 1) := by decide +kernel
theorem d11_32 : decode prog_40_method_6_code 32 = .ok (.areturn, 1) := by decide +kernel
abbrev Rrm_es_1_1 : Room := ({ frames := 1, cells := 1, slots := 1, locals := 15 } : Room)
theorem pn_3 : plainName "com/example/beliefwire/beliefwire/io/NoisyMax" = true := by first | (simp [plainName, overriddenIn]; done) | decide +kernel
theorem ef_rm_es_1_1 (m : MethodId) (r0 : Addr) : entryFrame m #[(.ref r0), (.int (0 : Int32)), (.int (1 : Int32))] 5 = mkF m 0 #[.val (.ref r0), .val (.int (0 : Int32)), .val (.int (1 : Int32)), .unset, .unset] [] := by first | (simp [entryFrame, mkF, argsToLocals, Value.category]; done) | rfl
def Q_es_1_1 (Z : State) (x0 : UInt64) (h0 : Heap) (n0 : Nat) (v : Option Value) (h : Heap) (L : List Loc) : Prop := (∃ (b : Addr) (kb : ClassId), v = some (.ref b) ∧ Arv Z h b kb .double (1 : Int32) [(.double x0)] (.double (0 : UInt64))) ∧ Fr n0 L ∧ Keep h0 h []
set_option maxRecDepth 65536 in
set_option maxHeartbeats 40000000 in
theorem rm_es_1_1 (l : Launch) (Z : State) (a0 : Array Value) (hw : ∀ d ∈ tables_1, d.before a0 Z = true) (ws : List Jvm.Cond) (r0 : Addr) (re : Addr) (x0 : UInt64) (k_re : ClassId) (h0 : Heap) (n0 : Nat) (Z0 : n0 ≤ h0.size) (E_r0 : Exa Z h0 r0 "com/example/beliefwire/beliefwire/model/Factor") (F_entries_r0 : Fld Z h0 r0 "com/example/beliefwire/beliefwire/model/Factor" "entries" "[D" (.ref re)) (V_re : Arv Z h0 re k_re .double (1 : Int32) [(.double x0)] (.double (0 : UInt64))) :
    MetFree l (⟨"com/example/beliefwire/beliefwire/io/NoisyMax", "entries", "(Lcom/example/beliefwire/beliefwire/model/Factor;II)[D"⟩ : MethodName) (head1 (Jvm.Cond.code (⟨"com/example/beliefwire/beliefwire/io/NoisyMax", "entries", "(Lcom/example/beliefwire/beliefwire/model/Factor;II)[D"⟩ : MethodName) prog_40_method_6_code 5 (some (.array .double)) :: ws) Rrm_es_1_1) (fun a U => a = #[(.ref r0), (.int (0 : Int32)), (.int (1 : Int32))] ∧ Z.Warmed39 U.vm ∧ U.heap = h0) (fun _ _ _ _ _ => True) (fun _ U o U' => ∃ v L, o = .returned v ∧ Q_es_1_1 Z x0 h0 n0 v U'.heap L ∧ FrameEnd U o U' L Rrm_es_1_1.cells Rrm_es_1_1.slots) := by
  refine MetFree.of_bodySF (plainFor_of_name pn_3) hisR ?_
  intro p e s m args below meth c s₁ Bd hml0 hP hK
  obtain ⟨rfl, hZ, hh⟩ := hP
  have hx := Bd.exec
  have hby := Bd.bytes
  have hml : c.maxLocals = 5 := hml0
  have hown : s.vm.findClass "com/example/beliefwire/beliefwire/io/NoisyMax" = some m.cls := findClass_of_methodNamed Bd.named
  have hnm := (name_of_methodNamed Bd.named Bd.method).1
  have X0 : Stand p l e Rrm_es_1_1 s m #[(.ref r0), (.int (0 : Int32)), (.int (1 : Int32))] below meth c s₁ [] 0 0 := Stand.of_body Bd
  have e0 : s₁.heap = h0 := by rw [← hh, Bd.state]; rfl
  have N0 := Fr.nil n0
  have W := @own_W a0 Z hw
  have pre0 : ∀ t, Steps p.tables e below (s₁.setTop (mkF m 0 #[.val (.ref r0), .val (.int (0 : Int32)), .val (.int (1 : Int32)), .unset, .unset] [])) t → Steps p.tables e below (s₁.setTop (entryFrame m #[(.ref r0), (.int (0 : Int32)), (.int (1 : Int32))] 5)) t := fun t k => castTop (ef_rm_es_1_1 m r0) k
  obtain ⟨T1, h1, k1, X1, e1, E1, A1, B1, st1⟩ := newPE X0 hx hZ (W 1 rfl) e0 (g := (mkF m 1 #[.val (.ref r0), .val (.int (0 : Int32)), .val (.int (1 : Int32)), .unset, .unset] [(.int (1 : Int32))])) rfl (hb hby d11_1) rfl (by decide) (cap := 1) (by decide) (by decide) (by decide) (by decide) (ad := "[D") (by decide)
  obtain ⟨b1, gg1⟩ : ∃ z, z = h0.size := ⟨_, rfl⟩
  rw [← gg1] at A1 B1 st1
  have g_b1 : n0 ≤ b1 := Nat.le_trans Z0 (Nat.le_of_eq gg1.symm)
  have sz_b1 : h0.size ≤ b1 := Nat.le_trans (Nat.le_refl h0.size) (Nat.le_of_eq gg1.symm)
  have V_b1 : Arv Z h1 b1 k1 .double (1 : Int32) [(.double (0 : UInt64))] (.double (0 : UInt64)) := (Arv.new A1 (by decide)).pad (pad_rep [] (.double (0 : UInt64)) 1)
  have Z3z : n0 ≤ h1.size := (Nat.le_trans Z0 E1.1)
  have V_re_5 := (V_re.ext E1)
  obtain ⟨cl_re_4, Ar_re_4, q_re_4, S_re_4, N_re_4, H_re_4, G_re_4⟩ := id V_re_5
  have hin_re_4 : ¬ ((0 : Int32) < 0 ∨ cl_re_4.slots.size ≤ ((0 : Int32)).toNatClampNeg) := inb_of S_re_4 ⟨by decide, by decide⟩
  have hat_re_4 : cl_re_4.slots[((0 : Int32)).toNatClampNeg]? = some (.double x0) := H_re_4 _ (by rw [S_re_4]; decide)
  have F_entries_r0_6 := (F_entries_r0.ext E1)
  have E_r0_7 := (E_r0.ext E1)
  obtain ⟨cq2, kq2, q2a, q2b, q2c⟩ := isOf hZ e1 E_r0_7
  obtain ⟨_, _, ⟨T2, L2, k2, n2⟩, -, X2, ⟨Lc2, hQ2, l2, y2, z2⟩, st2⟩ := X1.virtualBack hx (y := (⟨"com/example/beliefwire/beliefwire/model/Factor", "entry", "(I)D"⟩ : MethodName)) (z := (⟨"com/example/beliefwire/beliefwire/model/Factor", "entry", "(I)D"⟩ : MethodName)) hown (mvT hZ (W 68 rfl)) (mvT hZ (W 69 rfl)) (notFace_of_selects (args := #[]) (mvT hZ (W 71 rfl))) (mvT hZ (W 71 rfl)) (mvT hZ (W 70 rfl)) (by decide) (backOf (W := 2) (rm_en l Z a0 hw [] r0 (0 : Int32) re cl_re_4 x0 h1 n0 Z3z F_entries_r0_6 Ar_re_4 hin_re_4 hat_re_4) hZ (W 72 rfl) (W 6 rfl) (by decide) (by decide)) q2a q2c (g := (mkF m 21 #[.val (.ref r0), .val (.int (0 : Int32)), .val (.int (1 : Int32)), .val (.ref b1), .val (.int (0 : Int32))] [(.int (0 : Int32)), (.ref r0), (.int (0 : Int32)), (.ref b1)])) rfl (by rw [hml]; rfl) (Steps.refl _) (argsL := [(.int (0 : Int32))]) (rest := [(.int (0 : Int32)), (.ref b1)]) (lenOf pd_5 rfl) rfl (own_le rfl) (hb hby d11_21) (fun _ _ => ⟨rfl, e1, (by decide : 1 + 0 ≤ _), (by decide : 1 + 0 ≤ _)⟩)
  dsimp only [Pt.U, Pt.locs, Pt.cells, Pt.slots] at X2 l2 y2 z2 st2 hQ2
  subst l2 y2 z2
  obtain ⟨rfl, N2q, eq2⟩ := hQ2
  have N2 := Fr.app N0 N2q
  obtain ⟨LL2, X2, N2⟩ := own_hide X2 N2
  obtain ⟨cl_b1_24_8, Ar_b1_24_8, q_b1_24_8, S_b1_24_8, N_b1_24_8, H_b1_24_8, G_b1_24_8⟩ := id V_b1
  have hin_b1_24_8 : ¬ ((0 : Int32) < 0 ∨ cl_b1_24_8.slots.size ≤ ((0 : Int32)).toNatClampNeg) := inb_of S_b1_24_8 ⟨by decide, by decide⟩
  obtain ⟨T9, h9, X9, e9, W9, st9⟩ := stD X2 hx hZ eq2 Ar_b1_24_8 (j := (0 : Int32)) hin_b1_24_8 (g := (mkF m 24 #[.val (.ref r0), .val (.int (0 : Int32)), .val (.int (1 : Int32)), .val (.ref b1), .val (.int (0 : Int32))] [(.double x0), (.int (0 : Int32)), (.ref b1)])) rfl rfl (hb hby d11_24)
  have V_b1_9 := Arv.set Ar_b1_24_8 q_b1_24_8 S_b1_24_8 N_b1_24_8 H_b1_24_8 G_b1_24_8 rfl W9 0 rfl (Nat.le_of_ble_eq_true rfl)
  have N9 := Fr.snoc X9 N2 g_b1
  obtain ⟨LL9, X9, N9⟩ := own_hide X9 N9
  have KK10 : Keep h0 h9 [] := (((Keep.refl h0 []).ext E1).wr W9 (Or.inr sz_b1))
  obtain ⟨fs, hr, hrun, hended, hW, hsame⟩ := X9.leave (v := some (.ref b1)) (fun h => by rw [Bd.returns] at h; cases h)
  refine ⟨_, _, pre0 _ ?_, hrun, hended, _, _, rfl, ?_, ⟨_, rfl⟩, hW, hsame.mono (by decide) (by decide)⟩
  · show Steps p.tables e below (s₁.setTop (mkF m 0 #[.val (.ref r0), .val (.int (0 : Int32)), .val (.int (1 : Int32)), .unset, .unset] [])) _
    refine XS.iloadN X0.here hx rfl (hb hby d11_0) rfl ?_
    refine st1 _ ?_
    refine XS.astoreN X1.here hx rfl (hb hby d11_3) rfl rfl (l' := #[.val (.ref r0), .val (.int (0 : Int32)), .val (.int (1 : Int32)), .val (.ref b1), .unset]) rfl ?_
    refine XS.iconst X1.here hx rfl (hb hby d11_4) ?_
    refine XS.istore X1.here hx rfl (hb hby d11_5) rfl (l' := #[.val (.ref r0), .val (.int (0 : Int32)), .val (.int (1 : Int32)), .val (.ref b1), .val (.int (0 : Int32))]) rfl ?_
    refine XS.iload X1.here hx rfl (hb hby d11_7) rfl ?_
    refine XS.iloadN X1.here hx rfl (hb hby d11_9) rfl ?_
    refine XS.icmpNo X1.here hx rfl (hb hby d11_10) rfl (tlt (by decide : (0 : Int32) < (1 : Int32))).2.1 ?_
    refine XS.aloadN X1.here hx rfl (hb hby d11_13) rfl rfl ?_
    refine XS.iload X1.here hx rfl (hb hby d11_14) rfl ?_
    refine XS.aloadN X1.here hx rfl (hb hby d11_16) rfl rfl ?_
    refine XS.iloadN X1.here hx rfl (hb hby d11_17) rfl ?_
    refine XS.iload X1.here hx rfl (hb hby d11_18) rfl ?_
    refine XS.iadd X1.here hx rfl (hb hby d11_20) rfl ?_
    show Steps p.tables e below (T1.setTop (mkF m 21 #[.val (.ref r0), .val (.int (0 : Int32)), .val (.int (1 : Int32)), .val (.ref b1), .val (.int (0 : Int32))] [(.int ((0 : Int32) + (0 : Int32))), (.ref r0), (.int (0 : Int32)), (.ref b1)])) _
    rw [show ((0 : Int32) + (0 : Int32)) = (0 : Int32) from (by decide)]
    refine st2.trans ?_
    refine st9 _ ?_
    refine XS.iinc X9.here hx rfl (hb hby d11_25) rfl (l' := #[.val (.ref r0), .val (.int (0 : Int32)), .val (.int (1 : Int32)), .val (.ref b1), .val (.int ((0 : Int32) + (1 : Int32)))]) rfl ?_
    show Steps p.tables e below (T9.setTop (mkF m 28 #[.val (.ref r0), .val (.int (0 : Int32)), .val (.int (1 : Int32)), .val (.ref b1), .val (.int ((0 : Int32) + (1 : Int32)))] [])) _
    rw [show ((0 : Int32) + (1 : Int32)) = (1 : Int32) from (by decide)]
    refine XS.goto X9.here hx rfl (pc0 := 28) (pc' := 7) rfl (hb hby d11_28) (by decide) (by decide) ?_
    refine XS.iload X9.here hx rfl (hb hby d11_7) rfl ?_
    refine XS.iloadN X9.here hx rfl (hb hby d11_9) rfl ?_
    refine XS.icmpYes X9.here hx rfl (pc0 := 10) (pc' := 31) rfl (hb hby d11_10) rfl (flt (by decide : ¬ ((1 : Int32) < (1 : Int32)))).2.1 (by decide) (by decide) ?_
    refine XS.aloadN X9.here hx rfl (hb hby d11_31) rfl rfl ?_
    show Steps p.tables e below (T9.setTop (mkF m 32 #[.val (.ref r0), .val (.int (0 : Int32)), .val (.int (1 : Int32)), .val (.ref b1), .val (.int (1 : Int32))] [(.ref b1)])) _
    jvm_step X9.here [X9.here.top, hx, (hb hby d11_32), X9.method', Bd.returns, Value.isRef, FieldType.isReference]
    first | (intro acts; rw [hr _ acts rfl rfl rfl]) | rw [hr _ _ rfl rfl rfl]
    exact Steps.refl _
  · show Q_es_1_1 Z x0 h0 n0 _ T9.heap _
    rw [e9]
    exact ⟨⟨b1, _, rfl, V_b1_9⟩, N9, KK10⟩
theorem d9_0 : decode prog_40_method_4_code 0 = .ok (.aload_n 0, 1) := by decide +kernel
theorem d9_1 : decode prog_40_method_4_code 1 = .ok (.invokevirtual 44, 3) := by decide +kernel
theorem pd_6 : parseMethodDescriptor "()[I" = some ⟨[], some (.array .int)⟩ := by decide +kernel
theorem d9_4 : decode prog_40_method_4_code 4 = .ok (.astore_n 1, 1) := by decide +kernel
theorem d9_5 : decode prog_40_method_4_code 5 = .ok (.aload_n 0, 1) := by decide +kernel
theorem d9_6 : decode prog_40_method_4_code 6 = .ok (.iconst 0, 1) := by decide +kernel
theorem d9_7 : decode prog_40_method_4_code 7 = .ok (.aload_n 1, 1) := by decide +kernel
theorem d9_8 : decode prog_40_method_4_code 8 = .ok (.aload_n 1, 1) := by decide +kernel
theorem d9_9 : decode prog_40_method_4_code 9 = .ok (.arraylength, 1) := by decide +kernel
theorem d9_10 : decode prog_40_method_4_code 10 = .ok (.iconst 1, 1) := by decide +kernel
theorem d9_11 : decode prog_40_method_4_code 11 = .ok (.isub, 1) := by decide +kernel
theorem d9_12 : decode prog_40_method_4_code 12 = .ok (.iaload, 1) := by decide +kernel
theorem d9_13 : decode prog_40_method_4_code 13 = .ok (.invokestatic 54, 3) := by decide +kernel
theorem pd_7 : parseMethodDescriptor "(Lcom/example/beliefwire/beliefwire/model/Factor;II)[D" = some ⟨[(.object "com/example/beliefwire/beliefwire/model/Factor"), .int, .int], some (.array .double)⟩ := by decide +kernel
theorem d9_16 : decode prog_40_method_4_code 16 = .ok (.areturn, 1) := by decide +kernel
abbrev Rrm_lk_01 : Room := ({ frames := 2, cells := 2, slots := 2, locals := 31 } : Room)
theorem ef_rm_lk_01 (m : MethodId) (r0 : Addr) : entryFrame m #[(.ref r0)] 2 = mkF m 0 #[.val (.ref r0), .unset] [] := by first | (simp [entryFrame, mkF, argsToLocals, Value.category]; done) | rfl
def Q_lk_01 (Z : State) (x0 : UInt64) (h0 : Heap) (n0 : Nat) (v : Option Value) (h : Heap) (L : List Loc) : Prop := (∃ (b : Addr) (kb : ClassId), v = some (.ref b) ∧ Arv Z h b kb .double (1 : Int32) [(.double x0)] (.double (0 : UInt64))) ∧ Fr n0 L ∧ Keep h0 h []
set_option maxRecDepth 65536 in
set_option maxHeartbeats 40000000 in
theorem rm_lk_01 (l : Launch) (Z : State) (a0 : Array Value) (hw : ∀ d ∈ tables_1, d.before a0 Z = true) (ws : List Jvm.Cond) (r0 : Addr) (rc : Addr) (re : Addr) (x0 : UInt64) (k_rc : ClassId) (k_re : ClassId) (h0 : Heap) (n0 : Nat) (Z0 : n0 ≤ h0.size) (E_r0 : Exa Z h0 r0 "com/example/beliefwire/beliefwire/model/Factor") (F_cardinalities_r0 : Fld Z h0 r0 "com/example/beliefwire/beliefwire/model/Factor" "cardinalities" "[I" (.ref rc)) (V_rc : Arv Z h0 rc k_rc .int (1 : Int32) [(.int (1 : Int32))] (.int (0 : Int32))) (E_rc : Exa Z h0 rc "[I") (F_entries_r0 : Fld Z h0 r0 "com/example/beliefwire/beliefwire/model/Factor" "entries" "[D" (.ref re)) (V_re : Arv Z h0 re k_re .double (1 : Int32) [(.double x0)] (.double (0 : UInt64))) :
    MetFree l (⟨"com/example/beliefwire/beliefwire/io/NoisyMax", "leak", "(Lcom/example/beliefwire/beliefwire/model/Factor;)[D"⟩ : MethodName) (head1 (Jvm.Cond.code (⟨"com/example/beliefwire/beliefwire/io/NoisyMax", "leak", "(Lcom/example/beliefwire/beliefwire/model/Factor;)[D"⟩ : MethodName) prog_40_method_4_code 2 (some (.array .double)) :: ws) Rrm_lk_01) (fun a U => a = #[(.ref r0)] ∧ Z.Warmed39 U.vm ∧ U.heap = h0) (fun _ _ _ _ _ => True) (fun _ U o U' => ∃ v L, o = .returned v ∧ Q_lk_01 Z x0 h0 n0 v U'.heap L ∧ FrameEnd U o U' L Rrm_lk_01.cells Rrm_lk_01.slots) := by
  refine MetFree.of_bodySF (plainFor_of_name pn_3) hisR ?_
  intro p e s m args below meth c s₁ Bd hml0 hP hK
  obtain ⟨rfl, hZ, hh⟩ := hP
  have hx := Bd.exec
  have hby := Bd.bytes
  have hml : c.maxLocals = 2 := hml0
  have hown : s.vm.findClass "com/example/beliefwire/beliefwire/io/NoisyMax" = some m.cls := findClass_of_methodNamed Bd.named
  have hnm := (name_of_methodNamed Bd.named Bd.method).1
  have X0 : Stand p l e Rrm_lk_01 s m #[(.ref r0)] below meth c s₁ [] 0 0 := Stand.of_body Bd
  have e0 : s₁.heap = h0 := by rw [← hh, Bd.state]; rfl
  have N0 := Fr.nil n0
  have W := @own_W a0 Z hw
  have pre0 : ∀ t, Steps p.tables e below (s₁.setTop (mkF m 0 #[.val (.ref r0), .unset] [])) t → Steps p.tables e below (s₁.setTop (entryFrame m #[(.ref r0)] 2)) t := fun t k => castTop (ef_rm_lk_01 m r0) k
  obtain ⟨cq1, kq1, q1a, q1b, q1c⟩ := isOf hZ e0 E_r0
  obtain ⟨_, _, ⟨T1, L1, k1, n1⟩, -, X1, ⟨Lc1, hQ1, l1, y1, z1⟩, st1⟩ := X0.virtualBack hx (y := (⟨"com/example/beliefwire/beliefwire/model/Factor", "cardinalities", "()[I"⟩ : MethodName)) (z := (⟨"com/example/beliefwire/beliefwire/model/Factor", "cardinalities", "()[I"⟩ : MethodName)) hown (mvT hZ (W 60 rfl)) (mvT hZ (W 61 rfl)) (notFace_of_selects (args := #[]) (mvT hZ (W 63 rfl))) (mvT hZ (W 63 rfl)) (mvT hZ (W 62 rfl)) (by decide) (backOf (W := 0) (rm_ca_0 l Z a0 hw [] r0 rc (1 : Int32) k_rc h0 n0 Z0 F_cardinalities_r0 V_rc E_rc) hZ (W 64 rfl) (W 6 rfl) (by decide) (by decide)) q1a q1c (g := (mkF m 1 #[.val (.ref r0), .unset] [(.ref r0)])) rfl (by rw [hml]; rfl) (Steps.refl _) (argsL := []) (rest := []) (lenOf pd_6 rfl) rfl (own_le rfl) (hb hby d9_1) (fun _ _ => ⟨rfl, e0, (by decide : 0 + 1 ≤ _), (by decide : 0 + 1 ≤ _)⟩)
  dsimp only [Pt.U, Pt.locs, Pt.cells, Pt.slots] at X1 l1 y1 z1 st1 hQ1
  subst l1 y1 z1
  obtain ⟨⟨b1, rfl, V1⟩, N1q, K1⟩ := hQ1
  have N1 := Fr.app N0 N1q
  obtain ⟨LL1, X1, N1⟩ := own_hide X1 N1
  obtain ⟨cl_b1_2, Ar_b1_2, q_b1_2, S_b1_2, N_b1_2, H_b1_2, G_b1_2⟩ := id V1
  have Al_b1_2 := State.isArrayOf_alike hZ.alike Ar_b1_2.2.1
  have hin_b1_2_0 : ¬ ((0 : Int32) < 0 ∨ cl_b1_2.slots.size ≤ ((0 : Int32)).toNatClampNeg) := inb_of S_b1_2 ⟨by decide, by decide⟩
  have hat_b1_2_0 : cl_b1_2.slots[((0 : Int32)).toNatClampNeg]? = some (.int (1 : Int32)) := H_b1_2 _ (by rw [S_b1_2]; decide)
  have Z4z : n0 ≤ T1.heap.size := (Nat.le_trans Z0 K1.1)
  have E_r0_5 := (E_r0.keep K1)
  have F_entries_r0_6 := (F_entries_r0.keep K1 own_nin0)
  have V_re_7 := (V_re.keep K1 own_nin0)
  obtain ⟨_, _, ⟨T3, L3, k3, n3⟩, -, X3, ⟨Lc3, hQ3, l3, y3, z3⟩, st3⟩ := Jvm.LawKit.callS X1 hx (y := (⟨"com/example/beliefwire/beliefwire/io/NoisyMax", "entries", "(Lcom/example/beliefwire/beliefwire/model/Factor;II)[D"⟩ : MethodName)) hown (mvT hZ (W 65 rfl)) (mvT hZ (W 66 rfl)) (mvT hZ (W 58 rfl)) (mvT hZ (W 67 rfl)) (by decide) (backOf (W := 0) (rm_es_1_1 l Z a0 hw [] r0 re x0 k_re T1.heap n0 Z4z E_r0_5 F_entries_r0_6 V_re_7) hZ (W 67 rfl) (W 58 rfl) (by decide) (by decide)) (g := (mkF m 13 #[.val (.ref r0), .val (.ref b1)] [(.int (1 : Int32)), (.int (0 : Int32)), (.ref r0)])) rfl (by rw [hml]; rfl) (argsL := [(.ref r0), (.int (0 : Int32)), (.int (1 : Int32))]) (rest := []) (lenOf pd_7 rfl) rfl (own_le rfl) (hb hby d9_13) (fun _ _ => ⟨rfl, rfl, (by decide : 1 + 1 ≤ _), (by decide : 1 + 1 ≤ _)⟩)
  dsimp only [Pt.U, Pt.locs, Pt.cells, Pt.slots] at X3 l3 y3 z3 st3 hQ3
  subst l3 y3 z3
  obtain ⟨⟨b3, kb3, rfl, V3⟩, N3q, K3⟩ := hQ3
  have N3 := Fr.app N1 N3q
  obtain ⟨LL3, X3, N3⟩ := own_hide X3 N3
  have KK8 : Keep h0 T3.heap [] := (((Keep.refl h0 []).trans K1 (own_in0)).trans K3 (own_in0))
  obtain ⟨fs, hr, hrun, hended, hW, hsame⟩ := X3.leave (v := some (.ref b3)) (fun h => by rw [Bd.returns] at h; cases h)
  refine ⟨_, _, pre0 _ ?_, hrun, hended, _, _, rfl, ?_, ⟨_, rfl⟩, hW, hsame.mono (by decide) (by decide)⟩
  · show Steps p.tables e below (s₁.setTop (mkF m 0 #[.val (.ref r0), .unset] [])) _
    refine XS.aloadN X0.here hx rfl (hb hby d9_0) rfl rfl ?_
    refine st1.trans ?_
    refine XS.astoreN X1.here hx rfl (hb hby d9_4) rfl rfl (l' := #[.val (.ref r0), .val (.ref b1)]) rfl ?_
    refine XS.aloadN X1.here hx rfl (hb hby d9_5) rfl rfl ?_
    refine XS.iconst X1.here hx rfl (hb hby d9_6) ?_
    refine XS.aloadN X1.here hx rfl (hb hby d9_7) rfl rfl ?_
    refine XS.aloadN X1.here hx rfl (hb hby d9_8) rfl rfl ?_
    refine X1.arraylength hx Ar_b1_2.1 Al_b1_2 (g := (mkF m 9 #[.val (.ref r0), .val (.ref b1)] [(.ref b1), (.ref b1), (.int (0 : Int32)), (.ref r0)])) rfl rfl (hb hby d9_9) _ ?_
    rw [len_of S_b1_2 N_b1_2]
    refine XS.iconst X1.here hx rfl (hb hby d9_10) ?_
    refine XS.isub X1.here hx rfl (hb hby d9_11) rfl ?_
    show Steps p.tables e below (T1.setTop (mkF m 12 #[.val (.ref r0), .val (.ref b1)] [(.int ((1 : Int32) - (1 : Int32))), (.ref b1), (.int (0 : Int32)), (.ref r0)])) _
    rw [show ((1 : Int32) - (1 : Int32)) = (0 : Int32) from (by decide)]
    refine X1.iaload hx (j := (0 : Int32)) (v := (.int (1 : Int32))) Ar_b1_2.1 Al_b1_2 Ar_b1_2.2.2 hin_b1_2_0 hat_b1_2_0 (g := (mkF m 12 #[.val (.ref r0), .val (.ref b1)] [(.int (0 : Int32)), (.ref b1), (.int (0 : Int32)), (.ref r0)])) rfl rfl (hb hby d9_12) _ ?_
    refine st3 _ ?_
    show Steps p.tables e below (T3.setTop (mkF m 16 #[.val (.ref r0), .val (.ref b1)] [(.ref b3)])) _
    jvm_step X3.here [X3.here.top, hx, (hb hby d9_16), X3.method', Bd.returns, Value.isRef, FieldType.isReference]
    first | (intro acts; rw [hr _ acts rfl rfl rfl]) | rw [hr _ _ rfl rfl rfl]
    exact Steps.refl _
  · show Q_lk_01 Z x0 h0 n0 _ T3.heap _
    exact ⟨⟨b3, _, rfl, V3⟩, N3, KK8⟩
theorem d1_0 : decode prog_60_method_1_code 0 = .ok (.aload_n 0, 1) := by decide +kernel
theorem d1_1 : decode prog_60_method_1_code 1 = .ok (.invokespecial 3, 3) := by decide +kernel
theorem d1_4 : decode prog_60_method_1_code 4 = .ok (.aload_n 1, 1) := by decide +kernel
theorem d1_5 : decode prog_60_method_1_code 5 = .ok (.aload_n 2, 1) := by decide +kernel
theorem d1_6 : decode prog_60_method_1_code 6 = .ok (.invokestatic 9, 3) := by decide +kernel
theorem pd_8 : parseMethodDescriptor "([I[I)V" = some ⟨[(.array .int), (.array .int)], none⟩ := by decide +kernel
theorem d1_9 : decode prog_60_method_1_code 9 = .ok (.aload_n 2, 1) := by decide +kernel
theorem d1_10 : decode prog_60_method_1_code 10 = .ok (.invokestatic 15, 3) := by decide +kernel
theorem d1_13 : decode prog_60_method_1_code 13 = .ok (.aload_n 3, 1) := by decide +kernel
theorem d1_14 : decode prog_60_method_1_code 14 = .ok (.arraylength, 1) := by decide +kernel
theorem d1_15 : decode prog_60_method_1_code 15 = .ok (.i2l, 1) := by decide +kernel
theorem d1_16 : decode prog_60_method_1_code 16 = .ok (.lcmp, 1) := by decide +kernel
theorem d1_17 : decode prog_60_method_1_code 17 = .ok (.ifCond .eq 22, 3) := by decide +kernel
theorem d1_39 : decode prog_60_method_1_code 39 = .ok (.iconst 0, 1) := by decide +kernel
theorem d1_40 : decode prog_60_method_1_code 40 = .ok (.istore 4, 2) := by decide +kernel
theorem d1_42 : decode prog_60_method_1_code 42 = .ok (.iload 4, 2) := by decide +kernel
theorem d1_44 : decode prog_60_method_1_code 44 = .ok (.aload_n 3, 1) := by decide +kernel
theorem d1_45 : decode prog_60_method_1_code 45 = .ok (.arraylength, 1) := by decide +kernel
theorem d1_46 : decode prog_60_method_1_code 46 = .ok (.if_icmp .ge 48, 3) := by decide +kernel
theorem d1_49 : decode prog_60_method_1_code 49 = .ok (.aload_n 3, 1) := by decide +kernel
theorem d1_50 : decode prog_60_method_1_code 50 = .ok (.iload 4, 2) := by decide +kernel
theorem d1_52 : decode prog_60_method_1_code 52 = .ok (.daload, 1) := by decide +kernel
theorem d1_53 : decode prog_60_method_1_code 53 = .ok (.dconst 0, 1) := by decide +kernel
theorem d1_54 : decode prog_60_method_1_code 54 = .ok (.dcmp .l, 1) := by decide +kernel
theorem d1_55 : decode prog_60_method_1_code 55 = .ok (.ifCond .lt 14, 3) := by decide +kernel
theorem d1_58 : decode prog_60_method_1_code 58 = .ok (.aload_n 3, 1) := by decide +kernel
theorem d1_59 : decode prog_60_method_1_code 59 = .ok (.iload 4, 2) := by decide +kernel
theorem d1_61 : decode prog_60_method_1_code 61 = .ok (.daload, 1) := by decide +kernel
theorem d1_62 : decode prog_60_method_1_code 62 = .ok (.ldc2_w 36, 3) := by decide +kernel
theorem d1_65 : decode prog_60_method_1_code 65 = .ok (.dcmp .g, 1) := by decide +kernel
theorem d1_66 : decode prog_60_method_1_code 66 = .ok (.ifCond .lt 22, 3) := by decide +kernel
theorem d1_88 : decode prog_60_method_1_code 88 = .ok (.iinc 4 1, 3) := by decide +kernel
theorem d1_91 : decode prog_60_method_1_code 91 = .ok (.goto (-49), 3) := by decide +kernel
theorem d1_94 : decode prog_60_method_1_code 94 = .ok (.aload_n 0, 1) := by decide +kernel
theorem d1_95 : decode prog_60_method_1_code 95 = .ok (.aload_n 1, 1) := by decide +kernel
theorem d1_96 : decode prog_60_method_1_code 96 = .ok (.invokevirtual 41, 3) := by decide +kernel
theorem d1_99 : decode prog_60_method_1_code 99 = .ok (.checkcast 42, 3) := by decide +kernel
theorem d1_102 : decode prog_60_method_1_code 102 = .ok (.putfield 47, 3) := by decide +kernel
theorem d1_105 : decode prog_60_method_1_code 105 = .ok (.aload_n 0, 1) := by decide +kernel
theorem d1_106 : decode prog_60_method_1_code 106 = .ok (.aload_n 2, 1) := by decide +kernel
theorem d1_107 : decode prog_60_method_1_code 107 = .ok (.invokevirtual 41, 3) := by decide +kernel
theorem d1_110 : decode prog_60_method_1_code 110 = .ok (.checkcast 42, 3) := by decide +kernel
theorem d1_113 : decode prog_60_method_1_code 113 = .ok (.putfield 50, 3) := by decide +kernel
theorem d1_116 : decode prog_60_method_1_code 116 = .ok (.aload_n 0, 1) := by decide +kernel
theorem d1_117 : decode prog_60_method_1_code 117 = .ok (.aload_n 3, 1) := by decide +kernel
theorem d1_118 : decode prog_60_method_1_code 118 = .ok (.invokevirtual 53, 3) := by decide +kernel
theorem d1_121 : decode prog_60_method_1_code 121 = .ok (.checkcast 54, 3) := by decide +kernel
theorem d1_124 : decode prog_60_method_1_code 124 = .ok (.putfield 56, 3) := by decide +kernel
theorem d1_127 : decode prog_60_method_1_code 127 = .ok (.return_, 1) := by decide +kernel
abbrev Rrm_in_01 : Room := ({ frames := 5, cells := 4, slots := 4, locals := 96 } : Room)
theorem ef_rm_in_01 (m : MethodId) (r0 : Addr) (r1 : Addr) (r2 : Addr) (r3 : Addr) : entryFrame m #[(.ref r0), (.ref r1), (.ref r2), (.ref r3)] 5 = mkF m 0 #[.val (.ref r0), .val (.ref r1), .val (.ref r2), .val (.ref r3), .unset] [] := by first | (simp [entryFrame, mkF, argsToLocals, Value.category]; done) | rfl
def Q_in_01 (Z : State) (r0 : Addr) (k_r2 : ClassId) (k_r3 : ClassId) (x0 : UInt64) (h0 : Heap) (n0 : Nat) (v : Option Value) (h : Heap) (L : List Loc) : Prop := v = none ∧ Fr n0 L ∧ Keep h0 h [r0] ∧ Exa Z h r0 "com/example/beliefwire/beliefwire/model/Factor" ∧ ∃ bc be : Addr, Fld Z h r0 "com/example/beliefwire/beliefwire/model/Factor" "cardinalities" "[I" (.ref bc) ∧ Fld Z h r0 "com/example/beliefwire/beliefwire/model/Factor" "entries" "[D" (.ref be) ∧ Exa Z h bc "[I" ∧ Arv Z h bc k_r2 .int (1 : Int32) [(.int (1 : Int32))] (.int (0 : Int32)) ∧ Arv Z h be k_r3 .double (1 : Int32) [(.double x0)] (.double (0 : UInt64))
set_option maxRecDepth 65536 in
set_option maxHeartbeats 40000000 in
theorem rm_in_01 (l : Launch) (Z : State) (a0 : Array Value) (hw : ∀ d ∈ tables_1, d.before a0 Z = true) (ws : List Jvm.Cond) (r0 : Addr) (r1 : Addr) (r2 : Addr) (r3 : Addr) (x0 : UInt64) (u_scope_r0 : Value) (u_cardinalities_r0 : Value) (u_entries_r0 : Value) (k_r1 : ClassId) (k_r2 : ClassId) (k_r3 : ClassId) (h0 : Heap) (n0 : Nat) (Z0 : n0 ≤ h0.size) (E_r0 : Exa Z h0 r0 "com/example/beliefwire/beliefwire/model/Factor") (g_r0 : n0 ≤ r0) (F_scope_r0 : Fld Z h0 r0 "com/example/beliefwire/beliefwire/model/Factor" "scope" "[I" u_scope_r0) (F_cardinalities_r0 : Fld Z h0 r0 "com/example/beliefwire/beliefwire/model/Factor" "cardinalities" "[I" u_cardinalities_r0) (F_entries_r0 : Fld Z h0 r0 "com/example/beliefwire/beliefwire/model/Factor" "entries" "[D" u_entries_r0) (V_r1 : Arv Z h0 r1 k_r1 .int (1 : Int32) [(.int (4 : Int32))] (.int (0 : Int32))) (E_r1 : Exa Z h0 r1 "[I") (V_r2 : Arv Z h0 r2 k_r2 .int (1 : Int32) [(.int (1 : Int32))] (.int (0 : Int32))) (E_r2 : Exa Z h0 r2 "[I") (V_r3 : Arv Z h0 r3 k_r3 .double (1 : Int32) [(.double x0)] (.double (0 : UInt64))) (E_r3 : Exa Z h0 r3 "[D") (hf_x0 : Fl.Fin64 x0) (hn_x0 : ¬ cmpValue (FP.dcmp x0 FP.dconst0) .l < (0 : Int32)) :
    MetFree l (⟨"com/example/beliefwire/beliefwire/model/Factor", "<init>", "([I[I[D)V"⟩ : MethodName) (head1 (Jvm.Cond.code (⟨"com/example/beliefwire/beliefwire/model/Factor", "<init>", "([I[I[D)V"⟩ : MethodName) prog_60_method_1_code 5 none :: ws) Rrm_in_01) (fun a U => a = #[(.ref r0), (.ref r1), (.ref r2), (.ref r3)] ∧ Z.Warmed39 U.vm ∧ U.heap = h0) (fun _ _ _ _ _ => True) (fun _ U o U' => ∃ v L, o = .returned v ∧ Q_in_01 Z r0 k_r2 k_r3 x0 h0 n0 v U'.heap L ∧ FrameEnd U o U' L Rrm_in_01.cells Rrm_in_01.slots) := by
  refine MetFree.of_bodySF (plainFor_of_name pn_2) hisR ?_
  intro p e s m args below meth c s₁ Bd hml0 hP hK
  obtain ⟨rfl, hZ, hh⟩ := hP
  have hx := Bd.exec
  have hby := Bd.bytes
  have hml : c.maxLocals = 5 := hml0
  have hown : s.vm.findClass "com/example/beliefwire/beliefwire/model/Factor" = some m.cls := findClass_of_methodNamed Bd.named
  have hnm := (name_of_methodNamed Bd.named Bd.method).1
  have X0 : Stand p l e Rrm_in_01 s m #[(.ref r0), (.ref r1), (.ref r2), (.ref r3)] below meth c s₁ [] 0 0 := Stand.of_body Bd
  have e0 : s₁.heap = h0 := by rw [← hh, Bd.state]; rfl
  have N0 := Fr.nil n0
  have W := @own_W a0 Z hw
  have pre0 : ∀ t, Steps p.tables e below (s₁.setTop (mkF m 0 #[.val (.ref r0), .val (.ref r1), .val (.ref r2), .val (.ref r3), .unset] [])) t → Steps p.tables e below (s₁.setTop (entryFrame m #[(.ref r0), (.ref r1), (.ref r2), (.ref r3)] 5)) t := fun t k => castTop (ef_rm_in_01 m r0 r1 r2 r3) k
  have ne_r0_r1 : r0 ≠ r1 := by obtain ⟨_, A, -⟩ := id V_r1; exact ne_arr E_r0 (W 5 rfl) A
  have ne_r0_r2 : r0 ≠ r2 := by obtain ⟨_, A, -⟩ := id V_r2; exact ne_arr E_r0 (W 5 rfl) A
  have ne_r0_r3 : r0 ≠ r3 := by obtain ⟨_, A, -⟩ := id V_r3; exact ne_arr E_r0 (W 5 rfl) A
  obtain ⟨T1, X1, e1, st1⟩ := initO X0 hx hZ hown (W 10 rfl) (W 11 rfl) (W 12 rfl) e0 (g := (mkF m 1 #[.val (.ref r0), .val (.ref r1), .val (.ref r2), .val (.ref r3), .unset] [(.ref r0)])) rfl (by rw [hml]; rfl) rfl (hb hby d1_1) (by decide) (W := 0) (own_le rfl) (by decide)
  obtain ⟨_, _, ⟨T2, L2, k2, n2⟩, -, X2, ⟨Lc2, hQ2, l2, y2, z2⟩, st2⟩ := Jvm.LawKit.callS X1 hx (y := (⟨"com/example/beliefwire/beliefwire/model/Factor", "checkScope", "([I[I)V"⟩ : MethodName)) hown (mvT hZ (W 13 rfl)) (mvT hZ (W 14 rfl)) (mvT hZ (W 6 rfl)) (mvT hZ (W 15 rfl)) (by decide) (backOf (W := 0) (rm_cs_0 l Z a0 hw [] r1 r2 (1 : Int32) k_r1 k_r2 h0 n0 Z0 V_r1 E_r1 V_r2 (by decide)) hZ (W 15 rfl) (W 6 rfl) (by decide) (by decide)) (g := (mkF m 6 #[.val (.ref r0), .val (.ref r1), .val (.ref r2), .val (.ref r3), .unset] [(.ref r2), (.ref r1)])) rfl (by rw [hml]; rfl) (argsL := [(.ref r1), (.ref r2)]) (rest := []) (lenOf pd_8 rfl) rfl (own_le rfl) (hb hby d1_6) (fun _ _ => ⟨rfl, e1, (by decide : 0 + 1 ≤ _), (by decide : 0 + 1 ≤ _)⟩)
  dsimp only [Pt.U, Pt.locs, Pt.cells, Pt.slots] at X2 l2 y2 z2 st2 hQ2
  subst l2 y2 z2
  obtain ⟨rfl, N2q, K2⟩ := hQ2
  have N2 := Fr.app N0 N2q
  obtain ⟨LL2, X2, N2⟩ := own_hide X2 N2
  have Z4z : n0 ≤ T2.heap.size := (Nat.le_trans Z0 K2.1)
  have V_r2_5 := (V_r2.keep K2 own_nin0)
  obtain ⟨_, _, ⟨T3, L3, k3, n3⟩, -, X3, ⟨Lc3, hQ3, l3, y3, z3⟩, st3⟩ := Jvm.LawKit.callS X2 hx (y := (⟨"com/example/beliefwire/beliefwire/model/Factor", "tableSize", "([I)J"⟩ : MethodName)) hown (mvT hZ (W 39 rfl)) (mvT hZ (W 40 rfl)) (mvT hZ (W 6 rfl)) (mvT hZ (W 41 rfl)) (by decide) (backOf (W := 0) (rm_ts_0 l Z a0 hw [] r2 (1 : Int32) k_r2 T2.heap n0 Z4z V_r2_5 (by decide)) hZ (W 41 rfl) (W 6 rfl) (by decide) (by decide)) (g := (mkF m 10 #[.val (.ref r0), .val (.ref r1), .val (.ref r2), .val (.ref r3), .unset] [(.ref r2)])) rfl (by rw [hml]; rfl) (argsL := [(.ref r2)]) (rest := []) (lenOf pd_4 rfl) rfl (own_le rfl) (hb hby d1_10) (fun _ _ => ⟨rfl, rfl, (by decide : 1 + 0 ≤ _), (by decide : 1 + 0 ≤ _)⟩)
  dsimp only [Pt.U, Pt.locs, Pt.cells, Pt.slots] at X3 l3 y3 z3 st3 hQ3
  subst l3 y3 z3
  obtain ⟨hv3, N3q, eq3⟩ := hQ3
  rw [show ((1 : Int64) * ((1 : Int32).toInt64)) = (1 : Int64) from by decide] at hv3
  subst hv3
  have N3 := Fr.app N2 N3q
  obtain ⟨LL3, X3, N3⟩ := own_hide X3 N3
  have V_r3_6 := (V_r3.keep K2 own_nin0)
  obtain ⟨cl_r3_7, Ar_r3_7, q_r3_7, S_r3_7, N_r3_7, H_r3_7, G_r3_7⟩ := id V_r3_6
  have Al_r3_7 := State.isArrayOf_alike hZ.alike Ar_r3_7.2.1
  have hin_r3_7_0 : ¬ ((0 : Int32) < 0 ∨ cl_r3_7.slots.size ≤ ((0 : Int32)).toNatClampNeg) := inb_of S_r3_7 ⟨by decide, by decide⟩
  have hat_r3_7_0 : cl_r3_7.slots[((0 : Int32)).toNatClampNeg]? = some (.double x0) := H_r3_7 _ (by rw [S_r3_7]; decide)
  have V_r1_8 := (V_r1.keep K2 own_nin0)
  have E_r1_9 := (E_r1.keep K2)
  have hz10 : h0.size ≤ T2.heap.size := (Nat.le_trans (Nat.le_refl h0.size) K2.1)
  obtain ⟨T11, h11, X11, e11, E11, V11, B11, st11⟩ := cloneH X3 hx hZ hown (W 16 rfl) (W 17 rfl) (W 21 rfl) (W 19 rfl) (W 20 rfl) (W 22 rfl) eq3 (Arv.arh V_r1_8) E_r1_9 (g := (mkF m 96 #[.val (.ref r0), .val (.ref r1), .val (.ref r2), .val (.ref r3), .val (.int (1 : Int32))] [(.ref r1), (.ref r0)])) rfl (by rw [hml]; rfl) rfl (hb hby d1_96) (by decide) (W := 1) (cap := 1) (own_le rfl) (by decide) (by decide) (by decide) (by decide)
  obtain ⟨b11, gg11⟩ : ∃ z, z = T2.heap.size := ⟨_, rfl⟩
  rw [← gg11] at V11 B11 st11
  have g_b11 : n0 ≤ b11 := Nat.le_trans Z4z (Nat.le_of_eq gg11.symm)
  have sz_b11 : h0.size ≤ b11 := Nat.le_trans hz10 (Nat.le_of_eq gg11.symm)
  have V_b11 : Arv Z h11 b11 k_r1 .int (1 : Int32) [(.int (4 : Int32))] (.int (0 : Int32)) := V11
  obtain ⟨T12, X12, e12, st12⟩ := castY X11 hx hZ hown (W 23 rfl) e11 (Ins.self B11) (g := (mkF m 99 #[.val (.ref r0), .val (.ref r1), .val (.ref r2), .val (.ref r3), .val (.int (1 : Int32))] [(.ref b11), (.ref r0)])) rfl rfl (hb hby d1_99)
  have E_r0_13 := ((E_r0.keep K2).ext E11)
  have F_scope_r0_14 := ((F_scope_r0.keep K2 own_nin0).ext E11)
  obtain ⟨T15, h15, X15, e15, W15, st15⟩ := putF X12 hx hZ hown (host := "") (Or.inl (W 44 rfl)) Via.refl e12 F_scope_r0_14 E_r0_13 (Or.inr ⟨(W 45 rfl), rfl, hnm⟩) (W 5 rfl) (ty := (.array .int)) (by decide) rfl rfl (g := (mkF m 102 #[.val (.ref r0), .val (.ref r1), .val (.ref r2), .val (.ref r3), .val (.int (1 : Int32))] [(.ref b11), (.ref r0)])) rfl rfl (hb hby d1_102)
  have Fw15 := F_scope_r0_14.same W15
  have N15 := Fr.snoc X15 N3 g_r0
  obtain ⟨LL15, X15, N15⟩ := own_hide X15 N15
  have V_r2_16 := ((V_r2_5.ext E11).other W15 (Ne.symm ne_r0_r2))
  have E_r2_17 := (((E_r2.keep K2).ext E11).wr W15)
  have Z18z : n0 ≤ h15.size := (Nat.le_trans (Nat.le_trans Z4z E11.1) (Keep.of_wr W15).1)
  have hz19 : h0.size ≤ h15.size := (Nat.le_trans (Nat.le_trans hz10 E11.1) (Keep.of_wr W15).1)
  obtain ⟨T20, h20, X20, e20, E20, V20, B20, st20⟩ := cloneH X15 hx hZ hown (W 16 rfl) (W 17 rfl) (W 21 rfl) (W 19 rfl) (W 20 rfl) (W 22 rfl) e15 (Arv.arh V_r2_16) E_r2_17 (g := (mkF m 107 #[.val (.ref r0), .val (.ref r1), .val (.ref r2), .val (.ref r3), .val (.int (1 : Int32))] [(.ref r2), (.ref r0)])) rfl (by rw [hml]; rfl) rfl (hb hby d1_107) (by decide) (W := 1) (cap := 1) (own_le rfl) (by decide) (by decide) (by decide) (by decide)
  obtain ⟨b20, gg20⟩ : ∃ z, z = h15.size := ⟨_, rfl⟩
  rw [← gg20] at V20 B20 st20
  have g_b20 : n0 ≤ b20 := Nat.le_trans Z18z (Nat.le_of_eq gg20.symm)
  have sz_b20 : h0.size ≤ b20 := Nat.le_trans hz19 (Nat.le_of_eq gg20.symm)
  have V_b20 : Arv Z h20 b20 k_r2 .int (1 : Int32) [(.int (1 : Int32))] (.int (0 : Int32)) := V20
  obtain ⟨T21, X21, e21, st21⟩ := castY X20 hx hZ hown (W 23 rfl) e20 (Ins.self B20) (g := (mkF m 110 #[.val (.ref r0), .val (.ref r1), .val (.ref r2), .val (.ref r3), .val (.int (1 : Int32))] [(.ref b20), (.ref r0)])) rfl rfl (hb hby d1_110)
  have E_r0_22 := ((E_r0_13.wr W15).ext E20)
  have F_cardinalities_r0_23 := ((((F_cardinalities_r0.keep K2 own_nin0).ext E11).other W15 (Or.inr (slot_ne (Or.inr (W 47 rfl)) (Or.inr (W 45 rfl)) (by decide) (t := (.array .int)) (t' := (.array .int)) (by decide) (by decide)))).ext E20)
  obtain ⟨T24, h24, X24, e24, W24, st24⟩ := putF X21 hx hZ hown (host := "") (Or.inl (W 46 rfl)) Via.refl e21 F_cardinalities_r0_23 E_r0_22 (Or.inr ⟨(W 47 rfl), rfl, hnm⟩) (W 5 rfl) (ty := (.array .int)) (by decide) rfl rfl (g := (mkF m 113 #[.val (.ref r0), .val (.ref r1), .val (.ref r2), .val (.ref r3), .val (.int (1 : Int32))] [(.ref b20), (.ref r0)])) rfl rfl (hb hby d1_113)
  have Fw24 := F_cardinalities_r0_23.same W24
  have N24 := Fr.snoc X24 N15 g_r0
  obtain ⟨LL24, X24, N24⟩ := own_hide X24 N24
  have V_r3_25 := ((((V_r3_6.ext E11).other W15 (Ne.symm ne_r0_r3)).ext E20).other W24 (Ne.symm ne_r0_r3))
  have E_r3_26 := (((((E_r3.keep K2).ext E11).wr W15).ext E20).wr W24)
  have Z27z : n0 ≤ h24.size := (Nat.le_trans (Nat.le_trans Z18z E20.1) (Keep.of_wr W24).1)
  have hz28 : h0.size ≤ h24.size := (Nat.le_trans (Nat.le_trans hz19 E20.1) (Keep.of_wr W24).1)
  obtain ⟨T29, h29, X29, e29, E29, V29, B29, st29⟩ := cloneH X24 hx hZ hown (W 48 rfl) (W 49 rfl) (W 21 rfl) (W 19 rfl) (W 50 rfl) (W 51 rfl) e24 (Arv.arh V_r3_25) E_r3_26 (g := (mkF m 118 #[.val (.ref r0), .val (.ref r1), .val (.ref r2), .val (.ref r3), .val (.int (1 : Int32))] [(.ref r3), (.ref r0)])) rfl (by rw [hml]; rfl) rfl (hb hby d1_118) (by decide) (W := 1) (cap := 1) (own_le rfl) (by decide) (by decide) (by decide) (by decide)
  obtain ⟨b29, gg29⟩ : ∃ z, z = h24.size := ⟨_, rfl⟩
  rw [← gg29] at V29 B29 st29
  have g_b29 : n0 ≤ b29 := Nat.le_trans Z27z (Nat.le_of_eq gg29.symm)
  have sz_b29 : h0.size ≤ b29 := Nat.le_trans hz28 (Nat.le_of_eq gg29.symm)
  have V_b29 : Arv Z h29 b29 k_r3 .double (1 : Int32) [(.double x0)] (.double (0 : UInt64)) := V29
  obtain ⟨T30, X30, e30, st30⟩ := castY X29 hx hZ hown (W 52 rfl) e29 (Ins.self B29) (g := (mkF m 121 #[.val (.ref r0), .val (.ref r1), .val (.ref r2), .val (.ref r3), .val (.int (1 : Int32))] [(.ref b29), (.ref r0)])) rfl rfl (hb hby d1_121)
  have E_r0_31 := ((E_r0_22.wr W24).ext E29)
  have F_entries_r0_32 := ((((((F_entries_r0.keep K2 own_nin0).ext E11).other W15 (Or.inr (slot_ne (Or.inr (W 55 rfl)) (Or.inr (W 45 rfl)) (by decide) (t := (.array .double)) (t' := (.array .int)) (by decide) (by decide)))).ext E20).other W24 (Or.inr (slot_ne (Or.inr (W 55 rfl)) (Or.inr (W 47 rfl)) (by decide) (t := (.array .double)) (t' := (.array .int)) (by decide) (by decide)))).ext E29)
  obtain ⟨T33, h33, X33, e33, W33, st33⟩ := putF X30 hx hZ hown (host := "") (Or.inl (W 54 rfl)) Via.refl e30 F_entries_r0_32 E_r0_31 (Or.inr ⟨(W 55 rfl), rfl, hnm⟩) (W 5 rfl) (ty := (.array .double)) (by decide) rfl rfl (g := (mkF m 124 #[.val (.ref r0), .val (.ref r1), .val (.ref r2), .val (.ref r3), .val (.int (1 : Int32))] [(.ref b29), (.ref r0)])) rfl rfl (hb hby d1_124)
  have Fw33 := F_entries_r0_32.same W33
  have N33 := Fr.snoc X33 N24 g_r0
  obtain ⟨LL33, X33, N33⟩ := own_hide X33 N33
  have KK34 : Keep h0 h33 [r0] := ((((((((Keep.refl h0 [r0]).trans K2 (own_in0)).ext E11).wr W15 (Or.inl (List.mem_of_getElem? (i := 0) rfl))).ext E20).wr W24 (Or.inl (List.mem_of_getElem? (i := 0) rfl))).ext E29).wr W33 (Or.inl (List.mem_of_getElem? (i := 0) rfl)))
  have E_r0_35 := (E_r0_31.wr W33)
  have Fw24_36 := ((Fw24.ext E29).other W33 (Or.inr (slot_ne (Or.inr (W 47 rfl)) (Or.inr (W 55 rfl)) (by decide) (t := (.array .int)) (t' := (.array .double)) (by decide) (by decide))))
  have B20_37 := (((B20.wr W24).ext E29).wr W33)
  have ne_r0_b20 : r0 ≠ b20 := Nat.ne_of_lt (Nat.lt_of_lt_of_le (Nat.lt_of_lt_of_le (E_r0_13).lt (Keep.of_wr W15).1) (Nat.le_of_eq gg20.symm))
  have V_b20_38 := (((V_b20.other W24 (Ne.symm ne_r0_b20)).ext E29).other W33 (Ne.symm ne_r0_b20))
  have ne_r0_b29 : r0 ≠ b29 := Nat.ne_of_lt (Nat.lt_of_lt_of_le (Nat.lt_of_lt_of_le (E_r0_22).lt (Keep.of_wr W24).1) (Nat.le_of_eq gg29.symm))
  have V_b29_39 := (V_b29.other W33 (Ne.symm ne_r0_b29))
  obtain ⟨fs, hr, hrun, hended, hW, hsame⟩ := X33.leave (v := none) (fun _ => rfl)
  refine ⟨_, _, pre0 _ ?_, hrun, hended, _, _, rfl, ?_, ⟨_, rfl⟩, hW, hsame.mono (by decide) (by decide)⟩
  · show Steps p.tables e below (s₁.setTop (mkF m 0 #[.val (.ref r0), .val (.ref r1), .val (.ref r2), .val (.ref r3), .unset] [])) _
    refine XS.aloadN X0.here hx rfl (hb hby d1_0) rfl rfl ?_
    refine st1 _ ?_
    refine XS.aloadN X1.here hx rfl (hb hby d1_4) rfl rfl ?_
    refine XS.aloadN X1.here hx rfl (hb hby d1_5) rfl rfl ?_
    refine st2 _ ?_
    refine XS.aloadN X2.here hx rfl (hb hby d1_9) rfl rfl ?_
    refine st3 _ ?_
    refine XS.aloadN X3.here hx rfl (hb hby d1_13) rfl rfl ?_
    refine X3.arraylength hx (by rw [eq3]; exact Ar_r3_7.1) Al_r3_7 (g := (mkF m 14 #[.val (.ref r0), .val (.ref r1), .val (.ref r2), .val (.ref r3), .unset] [(.ref r3), (.long (1 : Int64))])) rfl rfl (hb hby d1_14) _ ?_
    rw [len_of S_r3_7 N_r3_7]
    refine XS.i2l X3.here hx rfl (hb hby d1_15) rfl ?_
    show Steps p.tables e below (T3.setTop (mkF m 16 #[.val (.ref r0), .val (.ref r1), .val (.ref r2), .val (.ref r3), .unset] [(.long ((1 : Int32).toInt64)), (.long (1 : Int64))])) _
    rw [show ((1 : Int32).toInt64) = (1 : Int64) from (by decide)]
    refine XS.lcmp X3.here hx rfl (hb hby d1_16) rfl ?_
    refine XS.ifYes X3.here hx rfl (pc0 := 17) (pc' := 39) rfl (hb hby d1_17) rfl ((if0 _ _).trans (teq ((lw_eq _ _).mpr (by decide : (1 : Int64) = (1 : Int64)))).1) (by decide) (by decide) ?_
    refine XS.iconst X3.here hx rfl (hb hby d1_39) ?_
    refine XS.istore X3.here hx rfl (hb hby d1_40) rfl (l' := #[.val (.ref r0), .val (.ref r1), .val (.ref r2), .val (.ref r3), .val (.int (0 : Int32))]) rfl ?_
    refine XS.iload X3.here hx rfl (hb hby d1_42) rfl ?_
    refine XS.aloadN X3.here hx rfl (hb hby d1_44) rfl rfl ?_
    refine X3.arraylength hx (by rw [eq3]; exact Ar_r3_7.1) Al_r3_7 (g := (mkF m 45 #[.val (.ref r0), .val (.ref r1), .val (.ref r2), .val (.ref r3), .val (.int (0 : Int32))] [(.ref r3), (.int (0 : Int32))])) rfl rfl (hb hby d1_45) _ ?_
    rw [len_of S_r3_7 N_r3_7]
    refine XS.icmpNo X3.here hx rfl (hb hby d1_46) rfl (tlt (by decide : (0 : Int32) < (1 : Int32))).2.1 ?_
    refine XS.aloadN X3.here hx rfl (hb hby d1_49) rfl rfl ?_
    refine XS.iload X3.here hx rfl (hb hby d1_50) rfl ?_
    refine X3.daload hx (j := (0 : Int32)) (v := (.double x0)) (by rw [eq3]; exact Ar_r3_7.1) Al_r3_7 Ar_r3_7.2.2 hin_r3_7_0 hat_r3_7_0 (g := (mkF m 52 #[.val (.ref r0), .val (.ref r1), .val (.ref r2), .val (.ref r3), .val (.int (0 : Int32))] [(.int (0 : Int32)), (.ref r3)])) rfl rfl (hb hby d1_52) _ ?_
    refine XS.dconst0 X3.here hx rfl (hb hby d1_53) rfl ?_
    refine XS.dcmpS X3.here hx rfl (hb hby d1_54) rfl rfl ?_
    refine XS.ifNo X3.here hx rfl (hb hby d1_55) rfl ((if0 _ _).trans (flt hn_x0).1) ?_
    refine XS.aloadN X3.here hx rfl (hb hby d1_58) rfl rfl ?_
    refine XS.iload X3.here hx rfl (hb hby d1_59) rfl ?_
    refine X3.daload hx (j := (0 : Int32)) (v := (.double x0)) (by rw [eq3]; exact Ar_r3_7.1) Al_r3_7 Ar_r3_7.2.2 hin_r3_7_0 hat_r3_7_0 (g := (mkF m 61 #[.val (.ref r0), .val (.ref r1), .val (.ref r2), .val (.ref r3), .val (.int (0 : Int32))] [(.int (0 : Int32)), (.ref r3)])) rfl rfl (hb hby d1_61) _ ?_
    refine X3.ldc2DoubleC hx hown (mvT hZ (W 43 rfl)) (g := (mkF m 62 #[.val (.ref r0), .val (.ref r1), .val (.ref r2), .val (.ref r3), .val (.int (0 : Int32))] [(.double x0)])) rfl (hb hby d1_62) _ ?_
    refine XS.dcmpS X3.here hx rfl (hb hby d1_65) rfl rfl ?_
    refine XS.ifYes X3.here hx rfl (pc0 := 66) (pc' := 88) rfl (hb hby d1_66) rfl ((if0 _ _).trans (tlt (own_pinf hf_x0)).1) (by decide) (by decide) ?_
    refine XS.iinc X3.here hx rfl (hb hby d1_88) rfl (l' := #[.val (.ref r0), .val (.ref r1), .val (.ref r2), .val (.ref r3), .val (.int ((0 : Int32) + (1 : Int32)))]) rfl ?_
    show Steps p.tables e below (T3.setTop (mkF m 91 #[.val (.ref r0), .val (.ref r1), .val (.ref r2), .val (.ref r3), .val (.int ((0 : Int32) + (1 : Int32)))] [])) _
    rw [show ((0 : Int32) + (1 : Int32)) = (1 : Int32) from (by decide)]
    refine XS.goto X3.here hx rfl (pc0 := 91) (pc' := 42) rfl (hb hby d1_91) (by decide) (by decide) ?_
    refine XS.iload X3.here hx rfl (hb hby d1_42) rfl ?_
    refine XS.aloadN X3.here hx rfl (hb hby d1_44) rfl rfl ?_
    refine X3.arraylength hx (by rw [eq3]; exact Ar_r3_7.1) Al_r3_7 (g := (mkF m 45 #[.val (.ref r0), .val (.ref r1), .val (.ref r2), .val (.ref r3), .val (.int (1 : Int32))] [(.ref r3), (.int (1 : Int32))])) rfl rfl (hb hby d1_45) _ ?_
    rw [len_of S_r3_7 N_r3_7]
    refine XS.icmpYes X3.here hx rfl (pc0 := 46) (pc' := 94) rfl (hb hby d1_46) rfl (flt (by decide : ¬ ((1 : Int32) < (1 : Int32)))).2.1 (by decide) (by decide) ?_
    refine XS.aloadN X3.here hx rfl (hb hby d1_94) rfl rfl ?_
    refine XS.aloadN X3.here hx rfl (hb hby d1_95) rfl rfl ?_
    refine st11 _ ?_
    refine st12 _ ?_
    refine st15 _ ?_
    refine XS.aloadN X15.here hx rfl (hb hby d1_105) rfl rfl ?_
    refine XS.aloadN X15.here hx rfl (hb hby d1_106) rfl rfl ?_
    refine st20 _ ?_
    refine st21 _ ?_
    refine st24 _ ?_
    refine XS.aloadN X24.here hx rfl (hb hby d1_116) rfl rfl ?_
    refine XS.aloadN X24.here hx rfl (hb hby d1_117) rfl rfl ?_
    refine st29 _ ?_
    refine st30 _ ?_
    refine st33 _ ?_
    show Steps p.tables e below (T33.setTop (mkF m 127 #[.val (.ref r0), .val (.ref r1), .val (.ref r2), .val (.ref r3), .val (.int (1 : Int32))] [])) _
    exact X33.returnOut hx Bd.returns (hb hby d1_127) hr
  · show Q_in_01 Z r0 k_r2 k_r3 x0 h0 n0 _ T33.heap _
    rw [e33]
    exact ⟨rfl, N33, KK34, E_r0_35, b20, b29, Fw24_36, Fw33, B20_37, V_b20_38, V_b29_39⟩
abbrev Rrm_es_2_2 : Room := ({ frames := 1, cells := 1, slots := 2, locals := 15 } : Room)
theorem ef_rm_es_2_2 (m : MethodId) (r0 : Addr) : entryFrame m #[(.ref r0), (.int (0 : Int32)), (.int (2 : Int32))] 5 = mkF m 0 #[.val (.ref r0), .val (.int (0 : Int32)), .val (.int (2 : Int32)), .unset, .unset] [] := by first | (simp [entryFrame, mkF, argsToLocals, Value.category]; done) | rfl
def Q_es_2_2 (Z : State) (x0 : UInt64) (x1 : UInt64) (h0 : Heap) (n0 : Nat) (v : Option Value) (h : Heap) (L : List Loc) : Prop := (∃ (b : Addr) (kb : ClassId), v = some (.ref b) ∧ Arv Z h b kb .double (2 : Int32) [(.double x0), (.double x1)] (.double (0 : UInt64))) ∧ Fr n0 L ∧ Keep h0 h []
set_option maxRecDepth 65536 in
set_option maxHeartbeats 40000000 in
theorem rm_es_2_2 (l : Launch) (Z : State) (a0 : Array Value) (hw : ∀ d ∈ tables_1, d.before a0 Z = true) (ws : List Jvm.Cond) (r0 : Addr) (re : Addr) (x0 : UInt64) (x1 : UInt64) (k_re : ClassId) (h0 : Heap) (n0 : Nat) (Z0 : n0 ≤ h0.size) (E_r0 : Exa Z h0 r0 "com/example/beliefwire/beliefwire/model/Factor") (F_entries_r0 : Fld Z h0 r0 "com/example/beliefwire/beliefwire/model/Factor" "entries" "[D" (.ref re)) (V_re : Arv Z h0 re k_re .double (2 : Int32) [(.double x0), (.double x1)] (.double (0 : UInt64))) :
    MetFree l (⟨"com/example/beliefwire/beliefwire/io/NoisyMax", "entries", "(Lcom/example/beliefwire/beliefwire/model/Factor;II)[D"⟩ : MethodName) (head1 (Jvm.Cond.code (⟨"com/example/beliefwire/beliefwire/io/NoisyMax", "entries", "(Lcom/example/beliefwire/beliefwire/model/Factor;II)[D"⟩ : MethodName) prog_40_method_6_code 5 (some (.array .double)) :: ws) Rrm_es_2_2) (fun a U => a = #[(.ref r0), (.int (0 : Int32)), (.int (2 : Int32))] ∧ Z.Warmed39 U.vm ∧ U.heap = h0) (fun _ _ _ _ _ => True) (fun _ U o U' => ∃ v L, o = .returned v ∧ Q_es_2_2 Z x0 x1 h0 n0 v U'.heap L ∧ FrameEnd U o U' L Rrm_es_2_2.cells Rrm_es_2_2.slots) := by
  refine MetFree.of_bodySF (plainFor_of_name pn_3) hisR ?_
  intro p e s m args below meth c s₁ Bd hml0 hP hK
  obtain ⟨rfl, hZ, hh⟩ := hP
  have hx := Bd.exec
  have hby := Bd.bytes
  have hml : c.maxLocals = 5 := hml0
  have hown : s.vm.findClass "com/example/beliefwire/beliefwire/io/NoisyMax" = some m.cls := findClass_of_methodNamed Bd.named
  have hnm := (name_of_methodNamed Bd.named Bd.method).1
  have X0 : Stand p l e Rrm_es_2_2 s m #[(.ref r0), (.int (0 : Int32)), (.int (2 : Int32))] below meth c s₁ [] 0 0 := Stand.of_body Bd
  have e0 : s₁.heap = h0 := by rw [← hh, Bd.state]; rfl
  have N0 := Fr.nil n0
  have W := @own_W a0 Z hw
  have pre0 : ∀ t, Steps p.tables e below (s₁.setTop (mkF m 0 #[.val (.ref r0), .val (.int (0 : Int32)), .val (.int (2 : Int32)), .unset, .unset] [])) t → Steps p.tables e below (s₁.setTop (entryFrame m #[(.ref r0), (.int (0 : Int32)), (.int (2 : Int32))] 5)) t := fun t k => castTop (ef_rm_es_2_2 m r0) k
  obtain ⟨T1, h1, k1, X1, e1, E1, A1, B1, st1⟩ := newPE X0 hx hZ (W 1 rfl) e0 (g := (mkF m 1 #[.val (.ref r0), .val (.int (0 : Int32)), .val (.int (2 : Int32)), .unset, .unset] [(.int (2 : Int32))])) rfl (hb hby d11_1) rfl (by decide) (cap := 2) (by decide) (by decide) (by decide) (by decide) (ad := "[D") (by decide)
  obtain ⟨b1, gg1⟩ : ∃ z, z = h0.size := ⟨_, rfl⟩
  rw [← gg1] at A1 B1 st1
  have g_b1 : n0 ≤ b1 := Nat.le_trans Z0 (Nat.le_of_eq gg1.symm)
  have sz_b1 : h0.size ≤ b1 := Nat.le_trans (Nat.le_refl h0.size) (Nat.le_of_eq gg1.symm)
  have V_b1 : Arv Z h1 b1 k1 .double (2 : Int32) [(.double (0 : UInt64)), (.double (0 : UInt64))] (.double (0 : UInt64)) := (Arv.new A1 (by decide)).pad (pad_rep [] (.double (0 : UInt64)) 2)
  have Z3z : n0 ≤ h1.size := (Nat.le_trans Z0 E1.1)
  have V_re_5 := (V_re.ext E1)
  obtain ⟨cl_re_4, Ar_re_4, q_re_4, S_re_4, N_re_4, H_re_4, G_re_4⟩ := id V_re_5
  have hin_re_4 : ¬ ((0 : Int32) < 0 ∨ cl_re_4.slots.size ≤ ((0 : Int32)).toNatClampNeg) := inb_of S_re_4 ⟨by decide, by decide⟩
  have hat_re_4 : cl_re_4.slots[((0 : Int32)).toNatClampNeg]? = some (.double x0) := H_re_4 _ (by rw [S_re_4]; decide)
  have F_entries_r0_6 := (F_entries_r0.ext E1)
  have E_r0_7 := (E_r0.ext E1)
  obtain ⟨cq2, kq2, q2a, q2b, q2c⟩ := isOf hZ e1 E_r0_7
  obtain ⟨_, _, ⟨T2, L2, k2, n2⟩, -, X2, ⟨Lc2, hQ2, l2, y2, z2⟩, st2⟩ := X1.virtualBack hx (y := (⟨"com/example/beliefwire/beliefwire/model/Factor", "entry", "(I)D"⟩ : MethodName)) (z := (⟨"com/example/beliefwire/beliefwire/model/Factor", "entry", "(I)D"⟩ : MethodName)) hown (mvT hZ (W 68 rfl)) (mvT hZ (W 69 rfl)) (notFace_of_selects (args := #[]) (mvT hZ (W 71 rfl))) (mvT hZ (W 71 rfl)) (mvT hZ (W 70 rfl)) (by decide) (backOf (W := 2) (rm_en l Z a0 hw [] r0 (0 : Int32) re cl_re_4 x0 h1 n0 Z3z F_entries_r0_6 Ar_re_4 hin_re_4 hat_re_4) hZ (W 72 rfl) (W 6 rfl) (by decide) (by decide)) q2a q2c (g := (mkF m 21 #[.val (.ref r0), .val (.int (0 : Int32)), .val (.int (2 : Int32)), .val (.ref b1), .val (.int (0 : Int32))] [(.int (0 : Int32)), (.ref r0), (.int (0 : Int32)), (.ref b1)])) rfl (by rw [hml]; rfl) (Steps.refl _) (argsL := [(.int (0 : Int32))]) (rest := [(.int (0 : Int32)), (.ref b1)]) (lenOf pd_5 rfl) rfl (own_le rfl) (hb hby d11_21) (fun _ _ => ⟨rfl, e1, (by decide : 1 + 0 ≤ _), (by decide : 2 + 0 ≤ _)⟩)
  dsimp only [Pt.U, Pt.locs, Pt.cells, Pt.slots] at X2 l2 y2 z2 st2 hQ2
  subst l2 y2 z2
  obtain ⟨rfl, N2q, eq2⟩ := hQ2
  have N2 := Fr.app N0 N2q
  obtain ⟨LL2, X2, N2⟩ := own_hide X2 N2
  obtain ⟨cl_b1_24_8, Ar_b1_24_8, q_b1_24_8, S_b1_24_8, N_b1_24_8, H_b1_24_8, G_b1_24_8⟩ := id V_b1
  have hin_b1_24_8 : ¬ ((0 : Int32) < 0 ∨ cl_b1_24_8.slots.size ≤ ((0 : Int32)).toNatClampNeg) := inb_of S_b1_24_8 ⟨by decide, by decide⟩
  obtain ⟨T9, h9, X9, e9, W9, st9⟩ := stD X2 hx hZ eq2 Ar_b1_24_8 (j := (0 : Int32)) hin_b1_24_8 (g := (mkF m 24 #[.val (.ref r0), .val (.int (0 : Int32)), .val (.int (2 : Int32)), .val (.ref b1), .val (.int (0 : Int32))] [(.double x0), (.int (0 : Int32)), (.ref b1)])) rfl rfl (hb hby d11_24)
  have V_b1_9 := Arv.set Ar_b1_24_8 q_b1_24_8 S_b1_24_8 N_b1_24_8 H_b1_24_8 G_b1_24_8 rfl W9 0 rfl (Nat.le_of_ble_eq_true rfl)
  have N9 := Fr.snoc X9 N2 g_b1
  obtain ⟨LL9, X9, N9⟩ := own_hide X9 N9
  have Z11z : n0 ≤ h9.size := (Nat.le_trans Z3z (Keep.of_wr W9).1)
  have ne_re_b1 : re ≠ b1 := Nat.ne_of_lt (Nat.lt_of_lt_of_le (V_re).lt (Nat.le_of_eq gg1.symm))
  have V_re_13 := (V_re_5.other W9 ne_re_b1)
  obtain ⟨cl_re_12, Ar_re_12, q_re_12, S_re_12, N_re_12, H_re_12, G_re_12⟩ := id V_re_13
  have hin_re_12 : ¬ ((1 : Int32) < 0 ∨ cl_re_12.slots.size ≤ ((1 : Int32)).toNatClampNeg) := inb_of S_re_12 ⟨by decide, by decide⟩
  have hat_re_12 : cl_re_12.slots[((1 : Int32)).toNatClampNeg]? = some (.double x1) := H_re_12 _ (by rw [S_re_12]; decide)
  have ne_r0_b1 : r0 ≠ b1 := Nat.ne_of_lt (Nat.lt_of_lt_of_le (E_r0).lt (Nat.le_of_eq gg1.symm))
  have F_entries_r0_14 := (F_entries_r0_6.other W9 (Or.inl ne_r0_b1))
  have E_r0_15 := (E_r0_7.wr W9)
  obtain ⟨cq10, kq10, q10a, q10b, q10c⟩ := isOf hZ e9 E_r0_15
  obtain ⟨_, _, ⟨T10, L10, k10, n10⟩, -, X10, ⟨Lc10, hQ10, l10, y10, z10⟩, st10⟩ := X9.virtualBack hx (y := (⟨"com/example/beliefwire/beliefwire/model/Factor", "entry", "(I)D"⟩ : MethodName)) (z := (⟨"com/example/beliefwire/beliefwire/model/Factor", "entry", "(I)D"⟩ : MethodName)) hown (mvT hZ (W 68 rfl)) (mvT hZ (W 69 rfl)) (notFace_of_selects (args := #[]) (mvT hZ (W 71 rfl))) (mvT hZ (W 71 rfl)) (mvT hZ (W 70 rfl)) (by decide) (backOf (W := 2) (rm_en l Z a0 hw [] r0 (1 : Int32) re cl_re_12 x1 h9 n0 Z11z F_entries_r0_14 Ar_re_12 hin_re_12 hat_re_12) hZ (W 72 rfl) (W 6 rfl) (by decide) (by decide)) q10a q10c (g := (mkF m 21 #[.val (.ref r0), .val (.int (0 : Int32)), .val (.int (2 : Int32)), .val (.ref b1), .val (.int (1 : Int32))] [(.int (1 : Int32)), (.ref r0), (.int (1 : Int32)), (.ref b1)])) rfl (by rw [hml]; rfl) (Steps.refl _) (argsL := [(.int (1 : Int32))]) (rest := [(.int (1 : Int32)), (.ref b1)]) (lenOf pd_5 rfl) rfl (own_le rfl) (hb hby d11_21) (fun _ _ => ⟨rfl, e9, (by decide : 1 + 0 ≤ _), (by decide : 2 + 0 ≤ _)⟩)
  dsimp only [Pt.U, Pt.locs, Pt.cells, Pt.slots] at X10 l10 y10 z10 st10 hQ10
  subst l10 y10 z10
  obtain ⟨rfl, N10q, eq10⟩ := hQ10
  have N10 := Fr.app N9 N10q
  obtain ⟨LL10, X10, N10⟩ := own_hide X10 N10
  obtain ⟨cl_b1_24_16, Ar_b1_24_16, q_b1_24_16, S_b1_24_16, N_b1_24_16, H_b1_24_16, G_b1_24_16⟩ := id V_b1_9
  have hin_b1_24_16 : ¬ ((1 : Int32) < 0 ∨ cl_b1_24_16.slots.size ≤ ((1 : Int32)).toNatClampNeg) := inb_of S_b1_24_16 ⟨by decide, by decide⟩
  obtain ⟨T17, h17, X17, e17, W17, st17⟩ := stD X10 hx hZ eq10 Ar_b1_24_16 (j := (1 : Int32)) hin_b1_24_16 (g := (mkF m 24 #[.val (.ref r0), .val (.int (0 : Int32)), .val (.int (2 : Int32)), .val (.ref b1), .val (.int (1 : Int32))] [(.double x1), (.int (1 : Int32)), (.ref b1)])) rfl rfl (hb hby d11_24)
  have V_b1_17 := Arv.set Ar_b1_24_16 q_b1_24_16 S_b1_24_16 N_b1_24_16 H_b1_24_16 G_b1_24_16 rfl W17 1 rfl (Nat.le_of_ble_eq_true rfl)
  have N17 := Fr.snoc X17 N10 g_b1
  obtain ⟨LL17, X17, N17⟩ := own_hide X17 N17
  have KK18 : Keep h0 h17 [] := ((((Keep.refl h0 []).ext E1).wr W9 (Or.inr sz_b1)).wr W17 (Or.inr sz_b1))
  obtain ⟨fs, hr, hrun, hended, hW, hsame⟩ := X17.leave (v := some (.ref b1)) (fun h => by rw [Bd.returns] at h; cases h)
  refine ⟨_, _, pre0 _ ?_, hrun, hended, _, _, rfl, ?_, ⟨_, rfl⟩, hW, hsame.mono (by decide) (by decide)⟩
  · show Steps p.tables e below (s₁.setTop (mkF m 0 #[.val (.ref r0), .val (.int (0 : Int32)), .val (.int (2 : Int32)), .unset, .unset] [])) _
    refine XS.iloadN X0.here hx rfl (hb hby d11_0) rfl ?_
    refine st1 _ ?_
    refine XS.astoreN X1.here hx rfl (hb hby d11_3) rfl rfl (l' := #[.val (.ref r0), .val (.int (0 : Int32)), .val (.int (2 : Int32)), .val (.ref b1), .unset]) rfl ?_
    refine XS.iconst X1.here hx rfl (hb hby d11_4) ?_
    refine XS.istore X1.here hx rfl (hb hby d11_5) rfl (l' := #[.val (.ref r0), .val (.int (0 : Int32)), .val (.int (2 : Int32)), .val (.ref b1), .val (.int (0 : Int32))]) rfl ?_
    refine XS.iload X1.here hx rfl (hb hby d11_7) rfl ?_
    refine XS.iloadN X1.here hx rfl (hb hby d11_9) rfl ?_
    refine XS.icmpNo X1.here hx rfl (hb hby d11_10) rfl (tlt (by decide : (0 : Int32) < (2 : Int32))).2.1 ?_
    refine XS.aloadN X1.here hx rfl (hb hby d11_13) rfl rfl ?_
    refine XS.iload X1.here hx rfl (hb hby d11_14) rfl ?_
    refine XS.aloadN X1.here hx rfl (hb hby d11_16) rfl rfl ?_
    refine XS.iloadN X1.here hx rfl (hb hby d11_17) rfl ?_
    refine XS.iload X1.here hx rfl (hb hby d11_18) rfl ?_
    refine XS.iadd X1.here hx rfl (hb hby d11_20) rfl ?_
    show Steps p.tables e below (T1.setTop (mkF m 21 #[.val (.ref r0), .val (.int (0 : Int32)), .val (.int (2 : Int32)), .val (.ref b1), .val (.int (0 : Int32))] [(.int ((0 : Int32) + (0 : Int32))), (.ref r0), (.int (0 : Int32)), (.ref b1)])) _
    rw [show ((0 : Int32) + (0 : Int32)) = (0 : Int32) from (by decide)]
    refine st2.trans ?_
    refine st9 _ ?_
    refine XS.iinc X9.here hx rfl (hb hby d11_25) rfl (l' := #[.val (.ref r0), .val (.int (0 : Int32)), .val (.int (2 : Int32)), .val (.ref b1), .val (.int ((0 : Int32) + (1 : Int32)))]) rfl ?_
    show Steps p.tables e below (T9.setTop (mkF m 28 #[.val (.ref r0), .val (.int (0 : Int32)), .val (.int (2 : Int32)), .val (.ref b1), .val (.int ((0 : Int32) + (1 : Int32)))] [])) _
    rw [show ((0 : Int32) + (1 : Int32)) = (1 : Int32) from (by decide)]
    refine XS.goto X9.here hx rfl (pc0 := 28) (pc' := 7) rfl (hb hby d11_28) (by decide) (by decide) ?_
    refine XS.iload X9.here hx rfl (hb hby d11_7) rfl ?_
    refine XS.iloadN X9.here hx rfl (hb hby d11_9) rfl ?_
    refine XS.icmpNo X9.here hx rfl (hb hby d11_10) rfl (tlt (by decide : (1 : Int32) < (2 : Int32))).2.1 ?_
    refine XS.aloadN X9.here hx rfl (hb hby d11_13) rfl rfl ?_
    refine XS.iload X9.here hx rfl (hb hby d11_14) rfl ?_
    refine XS.aloadN X9.here hx rfl (hb hby d11_16) rfl rfl ?_
    refine XS.iloadN X9.here hx rfl (hb hby d11_17) rfl ?_
    refine XS.iload X9.here hx rfl (hb hby d11_18) rfl ?_
    refine XS.iadd X9.here hx rfl (hb hby d11_20) rfl ?_
    show Steps p.tables e below (T9.setTop (mkF m 21 #[.val (.ref r0), .val (.int (0 : Int32)), .val (.int (2 : Int32)), .val (.ref b1), .val (.int (1 : Int32))] [(.int ((0 : Int32) + (1 : Int32))), (.ref r0), (.int (1 : Int32)), (.ref b1)])) _
    rw [show ((0 : Int32) + (1 : Int32)) = (1 : Int32) from (by decide)]
    refine st10.trans ?_
    refine st17 _ ?_
    refine XS.iinc X17.here hx rfl (hb hby d11_25) rfl (l' := #[.val (.ref r0), .val (.int (0 : Int32)), .val (.int (2 : Int32)), .val (.ref b1), .val (.int ((1 : Int32) + (1 : Int32)))]) rfl ?_
    show Steps p.tables e below (T17.setTop (mkF m 28 #[.val (.ref r0), .val (.int (0 : Int32)), .val (.int (2 : Int32)), .val (.ref b1), .val (.int ((1 : Int32) + (1 : Int32)))] [])) _
    rw [show ((1 : Int32) + (1 : Int32)) = (2 : Int32) from (by decide)]
    refine XS.goto X17.here hx rfl (pc0 := 28) (pc' := 7) rfl (hb hby d11_28) (by decide) (by decide) ?_
    refine XS.iload X17.here hx rfl (hb hby d11_7) rfl ?_
    refine XS.iloadN X17.here hx rfl (hb hby d11_9) rfl ?_
    refine XS.icmpYes X17.here hx rfl (pc0 := 10) (pc' := 31) rfl (hb hby d11_10) rfl (flt (by decide : ¬ ((2 : Int32) < (2 : Int32)))).2.1 (by decide) (by decide) ?_
    refine XS.aloadN X17.here hx rfl (hb hby d11_31) rfl rfl ?_
    show Steps p.tables e below (T17.setTop (mkF m 32 #[.val (.ref r0), .val (.int (0 : Int32)), .val (.int (2 : Int32)), .val (.ref b1), .val (.int (2 : Int32))] [(.ref b1)])) _
    jvm_step X17.here [X17.here.top, hx, (hb hby d11_32), X17.method', Bd.returns, Value.isRef, FieldType.isReference]
    first | (intro acts; rw [hr _ acts rfl rfl rfl]) | rw [hr _ _ rfl rfl rfl]
    exact Steps.refl _
  · show Q_es_2_2 Z x0 x1 h0 n0 _ T17.heap _
    rw [e17]
    exact ⟨⟨b1, _, rfl, V_b1_17⟩, N17, KK18⟩
abbrev Rrm_lk_02 : Room := ({ frames := 2, cells := 2, slots := 3, locals := 31 } : Room)
theorem ef_rm_lk_02 (m : MethodId) (r0 : Addr) : entryFrame m #[(.ref r0)] 2 = mkF m 0 #[.val (.ref r0), .unset] [] := by first | (simp [entryFrame, mkF, argsToLocals, Value.category]; done) | rfl
def Q_lk_02 (Z : State) (x0 : UInt64) (x1 : UInt64) (h0 : Heap) (n0 : Nat) (v : Option Value) (h : Heap) (L : List Loc) : Prop := (∃ (b : Addr) (kb : ClassId), v = some (.ref b) ∧ Arv Z h b kb .double (2 : Int32) [(.double x0), (.double x1)] (.double (0 : UInt64))) ∧ Fr n0 L ∧ Keep h0 h []
set_option maxRecDepth 65536 in
set_option maxHeartbeats 40000000 in
theorem rm_lk_02 (l : Launch) (Z : State) (a0 : Array Value) (hw : ∀ d ∈ tables_1, d.before a0 Z = true) (ws : List Jvm.Cond) (r0 : Addr) (rc : Addr) (re : Addr) (x0 : UInt64) (x1 : UInt64) (k_rc : ClassId) (k_re : ClassId) (h0 : Heap) (n0 : Nat) (Z0 : n0 ≤ h0.size) (E_r0 : Exa Z h0 r0 "com/example/beliefwire/beliefwire/model/Factor") (F_cardinalities_r0 : Fld Z h0 r0 "com/example/beliefwire/beliefwire/model/Factor" "cardinalities" "[I" (.ref rc)) (V_rc : Arv Z h0 rc k_rc .int (1 : Int32) [(.int (2 : Int32))] (.int (0 : Int32))) (E_rc : Exa Z h0 rc "[I") (F_entries_r0 : Fld Z h0 r0 "com/example/beliefwire/beliefwire/model/Factor" "entries" "[D" (.ref re)) (V_re : Arv Z h0 re k_re .double (2 : Int32) [(.double x0), (.double x1)] (.double (0 : UInt64))) :
    MetFree l (⟨"com/example/beliefwire/beliefwire/io/NoisyMax", "leak", "(Lcom/example/beliefwire/beliefwire/model/Factor;)[D"⟩ : MethodName) (head1 (Jvm.Cond.code (⟨"com/example/beliefwire/beliefwire/io/NoisyMax", "leak", "(Lcom/example/beliefwire/beliefwire/model/Factor;)[D"⟩ : MethodName) prog_40_method_4_code 2 (some (.array .double)) :: ws) Rrm_lk_02) (fun a U => a = #[(.ref r0)] ∧ Z.Warmed39 U.vm ∧ U.heap = h0) (fun _ _ _ _ _ => True) (fun _ U o U' => ∃ v L, o = .returned v ∧ Q_lk_02 Z x0 x1 h0 n0 v U'.heap L ∧ FrameEnd U o U' L Rrm_lk_02.cells Rrm_lk_02.slots) := by
  refine MetFree.of_bodySF (plainFor_of_name pn_3) hisR ?_
  intro p e s m args below meth c s₁ Bd hml0 hP hK
  obtain ⟨rfl, hZ, hh⟩ := hP
  have hx := Bd.exec
  have hby := Bd.bytes
  have hml : c.maxLocals = 2 := hml0
  have hown : s.vm.findClass "com/example/beliefwire/beliefwire/io/NoisyMax" = some m.cls := findClass_of_methodNamed Bd.named
  have hnm := (name_of_methodNamed Bd.named Bd.method).1
  have X0 : Stand p l e Rrm_lk_02 s m #[(.ref r0)] below meth c s₁ [] 0 0 := Stand.of_body Bd
  have e0 : s₁.heap = h0 := by rw [← hh, Bd.state]; rfl
  have N0 := Fr.nil n0
  have W := @own_W a0 Z hw
  have pre0 : ∀ t, Steps p.tables e below (s₁.setTop (mkF m 0 #[.val (.ref r0), .unset] [])) t → Steps p.tables e below (s₁.setTop (entryFrame m #[(.ref r0)] 2)) t := fun t k => castTop (ef_rm_lk_02 m r0) k
  obtain ⟨cq1, kq1, q1a, q1b, q1c⟩ := isOf hZ e0 E_r0
  obtain ⟨_, _, ⟨T1, L1, k1, n1⟩, -, X1, ⟨Lc1, hQ1, l1, y1, z1⟩, st1⟩ := X0.virtualBack hx (y := (⟨"com/example/beliefwire/beliefwire/model/Factor", "cardinalities", "()[I"⟩ : MethodName)) (z := (⟨"com/example/beliefwire/beliefwire/model/Factor", "cardinalities", "()[I"⟩ : MethodName)) hown (mvT hZ (W 60 rfl)) (mvT hZ (W 61 rfl)) (notFace_of_selects (args := #[]) (mvT hZ (W 63 rfl))) (mvT hZ (W 63 rfl)) (mvT hZ (W 62 rfl)) (by decide) (backOf (W := 0) (rm_ca_0 l Z a0 hw [] r0 rc (2 : Int32) k_rc h0 n0 Z0 F_cardinalities_r0 V_rc E_rc) hZ (W 64 rfl) (W 6 rfl) (by decide) (by decide)) q1a q1c (g := (mkF m 1 #[.val (.ref r0), .unset] [(.ref r0)])) rfl (by rw [hml]; rfl) (Steps.refl _) (argsL := []) (rest := []) (lenOf pd_6 rfl) rfl (own_le rfl) (hb hby d9_1) (fun _ _ => ⟨rfl, e0, (by decide : 0 + 1 ≤ _), (by decide : 0 + 1 ≤ _)⟩)
  dsimp only [Pt.U, Pt.locs, Pt.cells, Pt.slots] at X1 l1 y1 z1 st1 hQ1
  subst l1 y1 z1
  obtain ⟨⟨b1, rfl, V1⟩, N1q, K1⟩ := hQ1
  have N1 := Fr.app N0 N1q
  obtain ⟨LL1, X1, N1⟩ := own_hide X1 N1
  obtain ⟨cl_b1_2, Ar_b1_2, q_b1_2, S_b1_2, N_b1_2, H_b1_2, G_b1_2⟩ := id V1
  have Al_b1_2 := State.isArrayOf_alike hZ.alike Ar_b1_2.2.1
  have hin_b1_2_0 : ¬ ((0 : Int32) < 0 ∨ cl_b1_2.slots.size ≤ ((0 : Int32)).toNatClampNeg) := inb_of S_b1_2 ⟨by decide, by decide⟩
  have hat_b1_2_0 : cl_b1_2.slots[((0 : Int32)).toNatClampNeg]? = some (.int (2 : Int32)) := H_b1_2 _ (by rw [S_b1_2]; decide)
  have Z4z : n0 ≤ T1.heap.size := (Nat.le_trans Z0 K1.1)
  have E_r0_5 := (E_r0.keep K1)
  have F_entries_r0_6 := (F_entries_r0.keep K1 own_nin0)
  have V_re_7 := (V_re.keep K1 own_nin0)
  obtain ⟨_, _, ⟨T3, L3, k3, n3⟩, -, X3, ⟨Lc3, hQ3, l3, y3, z3⟩, st3⟩ := Jvm.LawKit.callS X1 hx (y := (⟨"com/example/beliefwire/beliefwire/io/NoisyMax", "entries", "(Lcom/example/beliefwire/beliefwire/model/Factor;II)[D"⟩ : MethodName)) hown (mvT hZ (W 65 rfl)) (mvT hZ (W 66 rfl)) (mvT hZ (W 58 rfl)) (mvT hZ (W 67 rfl)) (by decide) (backOf (W := 0) (rm_es_2_2 l Z a0 hw [] r0 re x0 x1 k_re T1.heap n0 Z4z E_r0_5 F_entries_r0_6 V_re_7) hZ (W 67 rfl) (W 58 rfl) (by decide) (by decide)) (g := (mkF m 13 #[.val (.ref r0), .val (.ref b1)] [(.int (2 : Int32)), (.int (0 : Int32)), (.ref r0)])) rfl (by rw [hml]; rfl) (argsL := [(.ref r0), (.int (0 : Int32)), (.int (2 : Int32))]) (rest := []) (lenOf pd_7 rfl) rfl (own_le rfl) (hb hby d9_13) (fun _ _ => ⟨rfl, rfl, (by decide : 1 + 1 ≤ _), (by decide : 1 + 2 ≤ _)⟩)
  dsimp only [Pt.U, Pt.locs, Pt.cells, Pt.slots] at X3 l3 y3 z3 st3 hQ3
  subst l3 y3 z3
  obtain ⟨⟨b3, kb3, rfl, V3⟩, N3q, K3⟩ := hQ3
  have N3 := Fr.app N1 N3q
  obtain ⟨LL3, X3, N3⟩ := own_hide X3 N3
  have KK8 : Keep h0 T3.heap [] := (((Keep.refl h0 []).trans K1 (own_in0)).trans K3 (own_in0))
  obtain ⟨fs, hr, hrun, hended, hW, hsame⟩ := X3.leave (v := some (.ref b3)) (fun h => by rw [Bd.returns] at h; cases h)
  refine ⟨_, _, pre0 _ ?_, hrun, hended, _, _, rfl, ?_, ⟨_, rfl⟩, hW, hsame.mono (by decide) (by decide)⟩
  · show Steps p.tables e below (s₁.setTop (mkF m 0 #[.val (.ref r0), .unset] [])) _
    refine XS.aloadN X0.here hx rfl (hb hby d9_0) rfl rfl ?_
    refine st1.trans ?_
    refine XS.astoreN X1.here hx rfl (hb hby d9_4) rfl rfl (l' := #[.val (.ref r0), .val (.ref b1)]) rfl ?_
    refine XS.aloadN X1.here hx rfl (hb hby d9_5) rfl rfl ?_
    refine XS.iconst X1.here hx rfl (hb hby d9_6) ?_
    refine XS.aloadN X1.here hx rfl (hb hby d9_7) rfl rfl ?_
    refine XS.aloadN X1.here hx rfl (hb hby d9_8) rfl rfl ?_
    refine X1.arraylength hx Ar_b1_2.1 Al_b1_2 (g := (mkF m 9 #[.val (.ref r0), .val (.ref b1)] [(.ref b1), (.ref b1), (.int (0 : Int32)), (.ref r0)])) rfl rfl (hb hby d9_9) _ ?_
    rw [len_of S_b1_2 N_b1_2]
    refine XS.iconst X1.here hx rfl (hb hby d9_10) ?_
    refine XS.isub X1.here hx rfl (hb hby d9_11) rfl ?_
    show Steps p.tables e below (T1.setTop (mkF m 12 #[.val (.ref r0), .val (.ref b1)] [(.int ((1 : Int32) - (1 : Int32))), (.ref b1), (.int (0 : Int32)), (.ref r0)])) _
    rw [show ((1 : Int32) - (1 : Int32)) = (0 : Int32) from (by decide)]
    refine X1.iaload hx (j := (0 : Int32)) (v := (.int (2 : Int32))) Ar_b1_2.1 Al_b1_2 Ar_b1_2.2.2 hin_b1_2_0 hat_b1_2_0 (g := (mkF m 12 #[.val (.ref r0), .val (.ref b1)] [(.int (0 : Int32)), (.ref b1), (.int (0 : Int32)), (.ref r0)])) rfl rfl (hb hby d9_12) _ ?_
    refine st3 _ ?_
    show Steps p.tables e below (T3.setTop (mkF m 16 #[.val (.ref r0), .val (.ref b1)] [(.ref b3)])) _
    jvm_step X3.here [X3.here.top, hx, (hb hby d9_16), X3.method', Bd.returns, Value.isRef, FieldType.isReference]
    first | (intro acts; rw [hr _ acts rfl rfl rfl]) | rw [hr _ _ rfl rfl rfl]
    exact Steps.refl _
  · show Q_lk_02 Z x0 x1 h0 n0 _ T3.heap _
    exact ⟨⟨b3, _, rfl, V3⟩, N3, KK8⟩
abbrev Rrm_in_02 : Room := ({ frames := 5, cells := 4, slots := 5, locals := 96 } : Room)
theorem ef_rm_in_02 (m : MethodId) (r0 : Addr) (r1 : Addr) (r2 : Addr) (r3 : Addr) : entryFrame m #[(.ref r0), (.ref r1), (.ref r2), (.ref r3)] 5 = mkF m 0 #[.val (.ref r0), .val (.ref r1), .val (.ref r2), .val (.ref r3), .unset] [] := by first | (simp [entryFrame, mkF, argsToLocals, Value.category]; done) | rfl
def Q_in_02 (Z : State) (r0 : Addr) (k_r2 : ClassId) (k_r3 : ClassId) (x0 : UInt64) (x1 : UInt64) (h0 : Heap) (n0 : Nat) (v : Option Value) (h : Heap) (L : List Loc) : Prop := v = none ∧ Fr n0 L ∧ Keep h0 h [r0] ∧ Exa Z h r0 "com/example/beliefwire/beliefwire/model/Factor" ∧ ∃ bc be : Addr, Fld Z h r0 "com/example/beliefwire/beliefwire/model/Factor" "cardinalities" "[I" (.ref bc) ∧ Fld Z h r0 "com/example/beliefwire/beliefwire/model/Factor" "entries" "[D" (.ref be) ∧ Exa Z h bc "[I" ∧ Arv Z h bc k_r2 .int (1 : Int32) [(.int (2 : Int32))] (.int (0 : Int32)) ∧ Arv Z h be k_r3 .double (2 : Int32) [(.double x0), (.double x1)] (.double (0 : UInt64))
set_option maxRecDepth 65536 in
set_option maxHeartbeats 40000000 in
theorem rm_in_02 (l : Launch) (Z : State) (a0 : Array Value) (hw : ∀ d ∈ tables_1, d.before a0 Z = true) (ws : List Jvm.Cond) (r0 : Addr) (r1 : Addr) (r2 : Addr) (r3 : Addr) (x0 : UInt64) (x1 : UInt64) (u_scope_r0 : Value) (u_cardinalities_r0 : Value) (u_entries_r0 : Value) (k_r1 : ClassId) (k_r2 : ClassId) (k_r3 : ClassId) (h0 : Heap) (n0 : Nat) (Z0 : n0 ≤ h0.size) (E_r0 : Exa Z h0 r0 "com/example/beliefwire/beliefwire/model/Factor") (g_r0 : n0 ≤ r0) (F_scope_r0 : Fld Z h0 r0 "com/example/beliefwire/beliefwire/model/Factor" "scope" "[I" u_scope_r0) (F_cardinalities_r0 : Fld Z h0 r0 "com/example/beliefwire/beliefwire/model/Factor" "cardinalities" "[I" u_cardinalities_r0) (F_entries_r0 : Fld Z h0 r0 "com/example/beliefwire/beliefwire/model/Factor" "entries" "[D" u_entries_r0) (V_r1 : Arv Z h0 r1 k_r1 .int (1 : Int32) [(.int (4 : Int32))] (.int (0 : Int32))) (E_r1 : Exa Z h0 r1 "[I") (V_r2 : Arv Z h0 r2 k_r2 .int (1 : Int32) [(.int (2 : Int32))] (.int (0 : Int32))) (E_r2 : Exa Z h0 r2 "[I") (V_r3 : Arv Z h0 r3 k_r3 .double (2 : Int32) [(.double x0), (.double x1)] (.double (0 : UInt64))) (E_r3 : Exa Z h0 r3 "[D") (hf_x0 : Fl.Fin64 x0) (hn_x0 : ¬ cmpValue (FP.dcmp x0 FP.dconst0) .l < (0 : Int32)) (hf_x1 : Fl.Fin64 x1) (hn_x1 : ¬ cmpValue (FP.dcmp x1 FP.dconst0) .l < (0 : Int32)) :
    MetFree l (⟨"com/example/beliefwire/beliefwire/model/Factor", "<init>", "([I[I[D)V"⟩ : MethodName) (head1 (Jvm.Cond.code (⟨"com/example/beliefwire/beliefwire/model/Factor", "<init>", "([I[I[D)V"⟩ : MethodName) prog_60_method_1_code 5 none :: ws) Rrm_in_02) (fun a U => a = #[(.ref r0), (.ref r1), (.ref r2), (.ref r3)] ∧ Z.Warmed39 U.vm ∧ U.heap = h0) (fun _ _ _ _ _ => True) (fun _ U o U' => ∃ v L, o = .returned v ∧ Q_in_02 Z r0 k_r2 k_r3 x0 x1 h0 n0 v U'.heap L ∧ FrameEnd U o U' L Rrm_in_02.cells Rrm_in_02.slots) := by
  refine MetFree.of_bodySF (plainFor_of_name pn_2) hisR ?_
  intro p e s m args below meth c s₁ Bd hml0 hP hK
  obtain ⟨rfl, hZ, hh⟩ := hP
  have hx := Bd.exec
  have hby := Bd.bytes
  have hml : c.maxLocals = 5 := hml0
  have hown : s.vm.findClass "com/example/beliefwire/beliefwire/model/Factor" = some m.cls := findClass_of_methodNamed Bd.named
  have hnm := (name_of_methodNamed Bd.named Bd.method).1
  have X0 : Stand p l e Rrm_in_02 s m #[(.ref r0), (.ref r1), (.ref r2), (.ref r3)] below meth c s₁ [] 0 0 := Stand.of_body Bd
  have e0 : s₁.heap = h0 := by rw [← hh, Bd.state]; rfl
  have N0 := Fr.nil n0
  have W := @own_W a0 Z hw
  have pre0 : ∀ t, Steps p.tables e below (s₁.setTop (mkF m 0 #[.val (.ref r0), .val (.ref r1), .val (.ref r2), .val (.ref r3), .unset] [])) t → Steps p.tables e below (s₁.setTop (entryFrame m #[(.ref r0), (.ref r1), (.ref r2), (.ref r3)] 5)) t := fun t k => castTop (ef_rm_in_02 m r0 r1 r2 r3) k
  have ne_r0_r1 : r0 ≠ r1 := by obtain ⟨_, A, -⟩ := id V_r1; exact ne_arr E_r0 (W 5 rfl) A
  have ne_r0_r2 : r0 ≠ r2 := by obtain ⟨_, A, -⟩ := id V_r2; exact ne_arr E_r0 (W 5 rfl) A
  have ne_r0_r3 : r0 ≠ r3 := by obtain ⟨_, A, -⟩ := id V_r3; exact ne_arr E_r0 (W 5 rfl) A
  obtain ⟨T1, X1, e1, st1⟩ := initO X0 hx hZ hown (W 10 rfl) (W 11 rfl) (W 12 rfl) e0 (g := (mkF m 1 #[.val (.ref r0), .val (.ref r1), .val (.ref r2), .val (.ref r3), .unset] [(.ref r0)])) rfl (by rw [hml]; rfl) rfl (hb hby d1_1) (by decide) (W := 0) (own_le rfl) (by decide)
  obtain ⟨_, _, ⟨T2, L2, k2, n2⟩, -, X2, ⟨Lc2, hQ2, l2, y2, z2⟩, st2⟩ := Jvm.LawKit.callS X1 hx (y := (⟨"com/example/beliefwire/beliefwire/model/Factor", "checkScope", "([I[I)V"⟩ : MethodName)) hown (mvT hZ (W 13 rfl)) (mvT hZ (W 14 rfl)) (mvT hZ (W 6 rfl)) (mvT hZ (W 15 rfl)) (by decide) (backOf (W := 0) (rm_cs_0 l Z a0 hw [] r1 r2 (2 : Int32) k_r1 k_r2 h0 n0 Z0 V_r1 E_r1 V_r2 (by decide)) hZ (W 15 rfl) (W 6 rfl) (by decide) (by decide)) (g := (mkF m 6 #[.val (.ref r0), .val (.ref r1), .val (.ref r2), .val (.ref r3), .unset] [(.ref r2), (.ref r1)])) rfl (by rw [hml]; rfl) (argsL := [(.ref r1), (.ref r2)]) (rest := []) (lenOf pd_8 rfl) rfl (own_le rfl) (hb hby d1_6) (fun _ _ => ⟨rfl, e1, (by decide : 0 + 1 ≤ _), (by decide : 0 + 1 ≤ _)⟩)
  dsimp only [Pt.U, Pt.locs, Pt.cells, Pt.slots] at X2 l2 y2 z2 st2 hQ2
  subst l2 y2 z2
  obtain ⟨rfl, N2q, K2⟩ := hQ2
  have N2 := Fr.app N0 N2q
  obtain ⟨LL2, X2, N2⟩ := own_hide X2 N2
  have Z4z : n0 ≤ T2.heap.size := (Nat.le_trans Z0 K2.1)
  have V_r2_5 := (V_r2.keep K2 own_nin0)
  obtain ⟨_, _, ⟨T3, L3, k3, n3⟩, -, X3, ⟨Lc3, hQ3, l3, y3, z3⟩, st3⟩ := Jvm.LawKit.callS X2 hx (y := (⟨"com/example/beliefwire/beliefwire/model/Factor", "tableSize", "([I)J"⟩ : MethodName)) hown (mvT hZ (W 39 rfl)) (mvT hZ (W 40 rfl)) (mvT hZ (W 6 rfl)) (mvT hZ (W 41 rfl)) (by decide) (backOf (W := 0) (rm_ts_0 l Z a0 hw [] r2 (2 : Int32) k_r2 T2.heap n0 Z4z V_r2_5 (by decide)) hZ (W 41 rfl) (W 6 rfl) (by decide) (by decide)) (g := (mkF m 10 #[.val (.ref r0), .val (.ref r1), .val (.ref r2), .val (.ref r3), .unset] [(.ref r2)])) rfl (by rw [hml]; rfl) (argsL := [(.ref r2)]) (rest := []) (lenOf pd_4 rfl) rfl (own_le rfl) (hb hby d1_10) (fun _ _ => ⟨rfl, rfl, (by decide : 1 + 0 ≤ _), (by decide : 1 + 0 ≤ _)⟩)
  dsimp only [Pt.U, Pt.locs, Pt.cells, Pt.slots] at X3 l3 y3 z3 st3 hQ3
  subst l3 y3 z3
  obtain ⟨hv3, N3q, eq3⟩ := hQ3
  rw [show ((1 : Int64) * ((2 : Int32).toInt64)) = (2 : Int64) from by decide] at hv3
  subst hv3
  have N3 := Fr.app N2 N3q
  obtain ⟨LL3, X3, N3⟩ := own_hide X3 N3
  have V_r3_6 := (V_r3.keep K2 own_nin0)
  obtain ⟨cl_r3_7, Ar_r3_7, q_r3_7, S_r3_7, N_r3_7, H_r3_7, G_r3_7⟩ := id V_r3_6
  have Al_r3_7 := State.isArrayOf_alike hZ.alike Ar_r3_7.2.1
  have hin_r3_7_0 : ¬ ((0 : Int32) < 0 ∨ cl_r3_7.slots.size ≤ ((0 : Int32)).toNatClampNeg) := inb_of S_r3_7 ⟨by decide, by decide⟩
  have hat_r3_7_0 : cl_r3_7.slots[((0 : Int32)).toNatClampNeg]? = some (.double x0) := H_r3_7 _ (by rw [S_r3_7]; decide)
  have hin_r3_7_1 : ¬ ((1 : Int32) < 0 ∨ cl_r3_7.slots.size ≤ ((1 : Int32)).toNatClampNeg) := inb_of S_r3_7 ⟨by decide, by decide⟩
  have hat_r3_7_1 : cl_r3_7.slots[((1 : Int32)).toNatClampNeg]? = some (.double x1) := H_r3_7 _ (by rw [S_r3_7]; decide)
  have V_r1_8 := (V_r1.keep K2 own_nin0)
  have E_r1_9 := (E_r1.keep K2)
  have hz10 : h0.size ≤ T2.heap.size := (Nat.le_trans (Nat.le_refl h0.size) K2.1)
  obtain ⟨T11, h11, X11, e11, E11, V11, B11, st11⟩ := cloneH X3 hx hZ hown (W 16 rfl) (W 17 rfl) (W 21 rfl) (W 19 rfl) (W 20 rfl) (W 22 rfl) eq3 (Arv.arh V_r1_8) E_r1_9 (g := (mkF m 96 #[.val (.ref r0), .val (.ref r1), .val (.ref r2), .val (.ref r3), .val (.int (2 : Int32))] [(.ref r1), (.ref r0)])) rfl (by rw [hml]; rfl) rfl (hb hby d1_96) (by decide) (W := 1) (cap := 1) (own_le rfl) (by decide) (by decide) (by decide) (by decide)
  obtain ⟨b11, gg11⟩ : ∃ z, z = T2.heap.size := ⟨_, rfl⟩
  rw [← gg11] at V11 B11 st11
  have g_b11 : n0 ≤ b11 := Nat.le_trans Z4z (Nat.le_of_eq gg11.symm)
  have sz_b11 : h0.size ≤ b11 := Nat.le_trans hz10 (Nat.le_of_eq gg11.symm)
  have V_b11 : Arv Z h11 b11 k_r1 .int (1 : Int32) [(.int (4 : Int32))] (.int (0 : Int32)) := V11
  obtain ⟨T12, X12, e12, st12⟩ := castY X11 hx hZ hown (W 23 rfl) e11 (Ins.self B11) (g := (mkF m 99 #[.val (.ref r0), .val (.ref r1), .val (.ref r2), .val (.ref r3), .val (.int (2 : Int32))] [(.ref b11), (.ref r0)])) rfl rfl (hb hby d1_99)
  have E_r0_13 := ((E_r0.keep K2).ext E11)
  have F_scope_r0_14 := ((F_scope_r0.keep K2 own_nin0).ext E11)
  obtain ⟨T15, h15, X15, e15, W15, st15⟩ := putF X12 hx hZ hown (host := "") (Or.inl (W 44 rfl)) Via.refl e12 F_scope_r0_14 E_r0_13 (Or.inr ⟨(W 45 rfl), rfl, hnm⟩) (W 5 rfl) (ty := (.array .int)) (by decide) rfl rfl (g := (mkF m 102 #[.val (.ref r0), .val (.ref r1), .val (.ref r2), .val (.ref r3), .val (.int (2 : Int32))] [(.ref b11), (.ref r0)])) rfl rfl (hb hby d1_102)
  have Fw15 := F_scope_r0_14.same W15
  have N15 := Fr.snoc X15 N3 g_r0
  obtain ⟨LL15, X15, N15⟩ := own_hide X15 N15
  have V_r2_16 := ((V_r2_5.ext E11).other W15 (Ne.symm ne_r0_r2))
  have E_r2_17 := (((E_r2.keep K2).ext E11).wr W15)
  have Z18z : n0 ≤ h15.size := (Nat.le_trans (Nat.le_trans Z4z E11.1) (Keep.of_wr W15).1)
  have hz19 : h0.size ≤ h15.size := (Nat.le_trans (Nat.le_trans hz10 E11.1) (Keep.of_wr W15).1)
  obtain ⟨T20, h20, X20, e20, E20, V20, B20, st20⟩ := cloneH X15 hx hZ hown (W 16 rfl) (W 17 rfl) (W 21 rfl) (W 19 rfl) (W 20 rfl) (W 22 rfl) e15 (Arv.arh V_r2_16) E_r2_17 (g := (mkF m 107 #[.val (.ref r0), .val (.ref r1), .val (.ref r2), .val (.ref r3), .val (.int (2 : Int32))] [(.ref r2), (.ref r0)])) rfl (by rw [hml]; rfl) rfl (hb hby d1_107) (by decide) (W := 1) (cap := 1) (own_le rfl) (by decide) (by decide) (by decide) (by decide)
  obtain ⟨b20, gg20⟩ : ∃ z, z = h15.size := ⟨_, rfl⟩
  rw [← gg20] at V20 B20 st20
  have g_b20 : n0 ≤ b20 := Nat.le_trans Z18z (Nat.le_of_eq gg20.symm)
  have sz_b20 : h0.size ≤ b20 := Nat.le_trans hz19 (Nat.le_of_eq gg20.symm)
  have V_b20 : Arv Z h20 b20 k_r2 .int (1 : Int32) [(.int (2 : Int32))] (.int (0 : Int32)) := V20
  obtain ⟨T21, X21, e21, st21⟩ := castY X20 hx hZ hown (W 23 rfl) e20 (Ins.self B20) (g := (mkF m 110 #[.val (.ref r0), .val (.ref r1), .val (.ref r2), .val (.ref r3), .val (.int (2 : Int32))] [(.ref b20), (.ref r0)])) rfl rfl (hb hby d1_110)
  have E_r0_22 := ((E_r0_13.wr W15).ext E20)
  have F_cardinalities_r0_23 := ((((F_cardinalities_r0.keep K2 own_nin0).ext E11).other W15 (Or.inr (slot_ne (Or.inr (W 47 rfl)) (Or.inr (W 45 rfl)) (by decide) (t := (.array .int)) (t' := (.array .int)) (by decide) (by decide)))).ext E20)
  obtain ⟨T24, h24, X24, e24, W24, st24⟩ := putF X21 hx hZ hown (host := "") (Or.inl (W 46 rfl)) Via.refl e21 F_cardinalities_r0_23 E_r0_22 (Or.inr ⟨(W 47 rfl), rfl, hnm⟩) (W 5 rfl) (ty := (.array .int)) (by decide) rfl rfl (g := (mkF m 113 #[.val (.ref r0), .val (.ref r1), .val (.ref r2), .val (.ref r3), .val (.int (2 : Int32))] [(.ref b20), (.ref r0)])) rfl rfl (hb hby d1_113)
  have Fw24 := F_cardinalities_r0_23.same W24
  have N24 := Fr.snoc X24 N15 g_r0
  obtain ⟨LL24, X24, N24⟩ := own_hide X24 N24
  have V_r3_25 := ((((V_r3_6.ext E11).other W15 (Ne.symm ne_r0_r3)).ext E20).other W24 (Ne.symm ne_r0_r3))
  have E_r3_26 := (((((E_r3.keep K2).ext E11).wr W15).ext E20).wr W24)
  have Z27z : n0 ≤ h24.size := (Nat.le_trans (Nat.le_trans Z18z E20.1) (Keep.of_wr W24).1)
  have hz28 : h0.size ≤ h24.size := (Nat.le_trans (Nat.le_trans hz19 E20.1) (Keep.of_wr W24).1)
  obtain ⟨T29, h29, X29, e29, E29, V29, B29, st29⟩ := cloneH X24 hx hZ hown (W 48 rfl) (W 49 rfl) (W 21 rfl) (W 19 rfl) (W 50 rfl) (W 51 rfl) e24 (Arv.arh V_r3_25) E_r3_26 (g := (mkF m 118 #[.val (.ref r0), .val (.ref r1), .val (.ref r2), .val (.ref r3), .val (.int (2 : Int32))] [(.ref r3), (.ref r0)])) rfl (by rw [hml]; rfl) rfl (hb hby d1_118) (by decide) (W := 1) (cap := 2) (own_le rfl) (by decide) (by decide) (by decide) (by decide)
  obtain ⟨b29, gg29⟩ : ∃ z, z = h24.size := ⟨_, rfl⟩
  rw [← gg29] at V29 B29 st29
  have g_b29 : n0 ≤ b29 := Nat.le_trans Z27z (Nat.le_of_eq gg29.symm)
  have sz_b29 : h0.size ≤ b29 := Nat.le_trans hz28 (Nat.le_of_eq gg29.symm)
  have V_b29 : Arv Z h29 b29 k_r3 .double (2 : Int32) [(.double x0), (.double x1)] (.double (0 : UInt64)) := V29
  obtain ⟨T30, X30, e30, st30⟩ := castY X29 hx hZ hown (W 52 rfl) e29 (Ins.self B29) (g := (mkF m 121 #[.val (.ref r0), .val (.ref r1), .val (.ref r2), .val (.ref r3), .val (.int (2 : Int32))] [(.ref b29), (.ref r0)])) rfl rfl (hb hby d1_121)
  have E_r0_31 := ((E_r0_22.wr W24).ext E29)
  have F_entries_r0_32 := ((((((F_entries_r0.keep K2 own_nin0).ext E11).other W15 (Or.inr (slot_ne (Or.inr (W 55 rfl)) (Or.inr (W 45 rfl)) (by decide) (t := (.array .double)) (t' := (.array .int)) (by decide) (by decide)))).ext E20).other W24 (Or.inr (slot_ne (Or.inr (W 55 rfl)) (Or.inr (W 47 rfl)) (by decide) (t := (.array .double)) (t' := (.array .int)) (by decide) (by decide)))).ext E29)
  obtain ⟨T33, h33, X33, e33, W33, st33⟩ := putF X30 hx hZ hown (host := "") (Or.inl (W 54 rfl)) Via.refl e30 F_entries_r0_32 E_r0_31 (Or.inr ⟨(W 55 rfl), rfl, hnm⟩) (W 5 rfl) (ty := (.array .double)) (by decide) rfl rfl (g := (mkF m 124 #[.val (.ref r0), .val (.ref r1), .val (.ref r2), .val (.ref r3), .val (.int (2 : Int32))] [(.ref b29), (.ref r0)])) rfl rfl (hb hby d1_124)
  have Fw33 := F_entries_r0_32.same W33
  have N33 := Fr.snoc X33 N24 g_r0
  obtain ⟨LL33, X33, N33⟩ := own_hide X33 N33
  have KK34 : Keep h0 h33 [r0] := ((((((((Keep.refl h0 [r0]).trans K2 (own_in0)).ext E11).wr W15 (Or.inl (List.mem_of_getElem? (i := 0) rfl))).ext E20).wr W24 (Or.inl (List.mem_of_getElem? (i := 0) rfl))).ext E29).wr W33 (Or.inl (List.mem_of_getElem? (i := 0) rfl)))
  have E_r0_35 := (E_r0_31.wr W33)
  have Fw24_36 := ((Fw24.ext E29).other W33 (Or.inr (slot_ne (Or.inr (W 47 rfl)) (Or.inr (W 55 rfl)) (by decide) (t := (.array .int)) (t' := (.array .double)) (by decide) (by decide))))
  have B20_37 := (((B20.wr W24).ext E29).wr W33)
  have ne_r0_b20 : r0 ≠ b20 := Nat.ne_of_lt (Nat.lt_of_lt_of_le (Nat.lt_of_lt_of_le (E_r0_13).lt (Keep.of_wr W15).1) (Nat.le_of_eq gg20.symm))
  have V_b20_38 := (((V_b20.other W24 (Ne.symm ne_r0_b20)).ext E29).other W33 (Ne.symm ne_r0_b20))
  have ne_r0_b29 : r0 ≠ b29 := Nat.ne_of_lt (Nat.lt_of_lt_of_le (Nat.lt_of_lt_of_le (E_r0_22).lt (Keep.of_wr W24).1) (Nat.le_of_eq gg29.symm))
  have V_b29_39 := (V_b29.other W33 (Ne.symm ne_r0_b29))
  obtain ⟨fs, hr, hrun, hended, hW, hsame⟩ := X33.leave (v := none) (fun _ => rfl)
  refine ⟨_, _, pre0 _ ?_, hrun, hended, _, _, rfl, ?_, ⟨_, rfl⟩, hW, hsame.mono (by decide) (by decide)⟩
  · show Steps p.tables e below (s₁.setTop (mkF m 0 #[.val (.ref r0), .val (.ref r1), .val (.ref r2), .val (.ref r3), .unset] [])) _
    refine XS.aloadN X0.here hx rfl (hb hby d1_0) rfl rfl ?_
    refine st1 _ ?_
    refine XS.aloadN X1.here hx rfl (hb hby d1_4) rfl rfl ?_
    refine XS.aloadN X1.here hx rfl (hb hby d1_5) rfl rfl ?_
    refine st2 _ ?_
    refine XS.aloadN X2.here hx rfl (hb hby d1_9) rfl rfl ?_
    refine st3 _ ?_
    refine XS.aloadN X3.here hx rfl (hb hby d1_13) rfl rfl ?_
    refine X3.arraylength hx (by rw [eq3]; exact Ar_r3_7.1) Al_r3_7 (g := (mkF m 14 #[.val (.ref r0), .val (.ref r1), .val (.ref r2), .val (.ref r3), .unset] [(.ref r3), (.long (2 : Int64))])) rfl rfl (hb hby d1_14) _ ?_
    rw [len_of S_r3_7 N_r3_7]
    refine XS.i2l X3.here hx rfl (hb hby d1_15) rfl ?_
    show Steps p.tables e below (T3.setTop (mkF m 16 #[.val (.ref r0), .val (.ref r1), .val (.ref r2), .val (.ref r3), .unset] [(.long ((2 : Int32).toInt64)), (.long (2 : Int64))])) _
    rw [show ((2 : Int32).toInt64) = (2 : Int64) from (by decide)]
    refine XS.lcmp X3.here hx rfl (hb hby d1_16) rfl ?_
    refine XS.ifYes X3.here hx rfl (pc0 := 17) (pc' := 39) rfl (hb hby d1_17) rfl ((if0 _ _).trans (teq ((lw_eq _ _).mpr (by decide : (2 : Int64) = (2 : Int64)))).1) (by decide) (by decide) ?_
    refine XS.iconst X3.here hx rfl (hb hby d1_39) ?_
    refine XS.istore X3.here hx rfl (hb hby d1_40) rfl (l' := #[.val (.ref r0), .val (.ref r1), .val (.ref r2), .val (.ref r3), .val (.int (0 : Int32))]) rfl ?_
    refine XS.iload X3.here hx rfl (hb hby d1_42) rfl ?_
    refine XS.aloadN X3.here hx rfl (hb hby d1_44) rfl rfl ?_
    refine X3.arraylength hx (by rw [eq3]; exact Ar_r3_7.1) Al_r3_7 (g := (mkF m 45 #[.val (.ref r0), .val (.ref r1), .val (.ref r2), .val (.ref r3), .val (.int (0 : Int32))] [(.ref r3), (.int (0 : Int32))])) rfl rfl (hb hby d1_45) _ ?_
    rw [len_of S_r3_7 N_r3_7]
    refine XS.icmpNo X3.here hx rfl (hb hby d1_46) rfl (tlt (by decide : (0 : Int32) < (2 : Int32))).2.1 ?_
    refine XS.aloadN X3.here hx rfl (hb hby d1_49) rfl rfl ?_
    refine XS.iload X3.here hx rfl (hb hby d1_50) rfl ?_
    refine X3.daload hx (j := (0 : Int32)) (v := (.double x0)) (by rw [eq3]; exact Ar_r3_7.1) Al_r3_7 Ar_r3_7.2.2 hin_r3_7_0 hat_r3_7_0 (g := (mkF m 52 #[.val (.ref r0), .val (.ref r1), .val (.ref r2), .val (.ref r3), .val (.int (0 : Int32))] [(.int (0 : Int32)), (.ref r3)])) rfl rfl (hb hby d1_52) _ ?_
    refine XS.dconst0 X3.here hx rfl (hb hby d1_53) rfl ?_
    refine XS.dcmpS X3.here hx rfl (hb hby d1_54) rfl rfl ?_
    refine XS.ifNo X3.here hx rfl (hb hby d1_55) rfl ((if0 _ _).trans (flt hn_x0).1) ?_
    refine XS.aloadN X3.here hx rfl (hb hby d1_58) rfl rfl ?_
    refine XS.iload X3.here hx rfl (hb hby d1_59) rfl ?_
    refine X3.daload hx (j := (0 : Int32)) (v := (.double x0)) (by rw [eq3]; exact Ar_r3_7.1) Al_r3_7 Ar_r3_7.2.2 hin_r3_7_0 hat_r3_7_0 (g := (mkF m 61 #[.val (.ref r0), .val (.ref r1), .val (.ref r2), .val (.ref r3), .val (.int (0 : Int32))] [(.int (0 : Int32)), (.ref r3)])) rfl rfl (hb hby d1_61) _ ?_
    refine X3.ldc2DoubleC hx hown (mvT hZ (W 43 rfl)) (g := (mkF m 62 #[.val (.ref r0), .val (.ref r1), .val (.ref r2), .val (.ref r3), .val (.int (0 : Int32))] [(.double x0)])) rfl (hb hby d1_62) _ ?_
    refine XS.dcmpS X3.here hx rfl (hb hby d1_65) rfl rfl ?_
    refine XS.ifYes X3.here hx rfl (pc0 := 66) (pc' := 88) rfl (hb hby d1_66) rfl ((if0 _ _).trans (tlt (own_pinf hf_x0)).1) (by decide) (by decide) ?_
    refine XS.iinc X3.here hx rfl (hb hby d1_88) rfl (l' := #[.val (.ref r0), .val (.ref r1), .val (.ref r2), .val (.ref r3), .val (.int ((0 : Int32) + (1 : Int32)))]) rfl ?_
    show Steps p.tables e below (T3.setTop (mkF m 91 #[.val (.ref r0), .val (.ref r1), .val (.ref r2), .val (.ref r3), .val (.int ((0 : Int32) + (1 : Int32)))] [])) _
    rw [show ((0 : Int32) + (1 : Int32)) = (1 : Int32) from (by decide)]
    refine XS.goto X3.here hx rfl (pc0 := 91) (pc' := 42) rfl (hb hby d1_91) (by decide) (by decide) ?_
    refine XS.iload X3.here hx rfl (hb hby d1_42) rfl ?_
    refine XS.aloadN X3.here hx rfl (hb hby d1_44) rfl rfl ?_
    refine X3.arraylength hx (by rw [eq3]; exact Ar_r3_7.1) Al_r3_7 (g := (mkF m 45 #[.val (.ref r0), .val (.ref r1), .val (.ref r2), .val (.ref r3), .val (.int (1 : Int32))] [(.ref r3), (.int (1 : Int32))])) rfl rfl (hb hby d1_45) _ ?_
    rw [len_of S_r3_7 N_r3_7]
    refine XS.icmpNo X3.here hx rfl (hb hby d1_46) rfl (tlt (by decide : (1 : Int32) < (2 : Int32))).2.1 ?_
    refine XS.aloadN X3.here hx rfl (hb hby d1_49) rfl rfl ?_
    refine XS.iload X3.here hx rfl (hb hby d1_50) rfl ?_
    refine X3.daload hx (j := (1 : Int32)) (v := (.double x1)) (by rw [eq3]; exact Ar_r3_7.1) Al_r3_7 Ar_r3_7.2.2 hin_r3_7_1 hat_r3_7_1 (g := (mkF m 52 #[.val (.ref r0), .val (.ref r1), .val (.ref r2), .val (.ref r3), .val (.int (1 : Int32))] [(.int (1 : Int32)), (.ref r3)])) rfl rfl (hb hby d1_52) _ ?_
    refine XS.dconst0 X3.here hx rfl (hb hby d1_53) rfl ?_
    refine XS.dcmpS X3.here hx rfl (hb hby d1_54) rfl rfl ?_
    refine XS.ifNo X3.here hx rfl (hb hby d1_55) rfl ((if0 _ _).trans (flt hn_x1).1) ?_
    refine XS.aloadN X3.here hx rfl (hb hby d1_58) rfl rfl ?_
    refine XS.iload X3.here hx rfl (hb hby d1_59) rfl ?_
    refine X3.daload hx (j := (1 : Int32)) (v := (.double x1)) (by rw [eq3]; exact Ar_r3_7.1) Al_r3_7 Ar_r3_7.2.2 hin_r3_7_1 hat_r3_7_1 (g := (mkF m 61 #[.val (.ref r0), .val (.ref r1), .val (.ref r2), .val (.ref r3), .val (.int (1 : Int32))] [(.int (1 : Int32)), (.ref r3)])) rfl rfl (hb hby d1_61) _ ?_
    refine X3.ldc2DoubleC hx hown (mvT hZ (W 43 rfl)) (g := (mkF m 62 #[.val (.ref r0), .val (.ref r1), .val (.ref r2), .val (.ref r3), .val (.int (1 : Int32))] [(.double x1)])) rfl (hb hby d1_62) _ ?_
    refine XS.dcmpS X3.here hx rfl (hb hby d1_65) rfl rfl ?_
    refine XS.ifYes X3.here hx rfl (pc0 := 66) (pc' := 88) rfl (hb hby d1_66) rfl ((if0 _ _).trans (tlt (own_pinf hf_x1)).1) (by decide) (by decide) ?_
    refine XS.iinc X3.here hx rfl (hb hby d1_88) rfl (l' := #[.val (.ref r0), .val (.ref r1), .val (.ref r2), .val (.ref r3), .val (.int ((1 : Int32) + (1 : Int32)))]) rfl ?_
    show Steps p.tables e below (T3.setTop (mkF m 91 #[.val (.ref r0), .val (.ref r1), .val (.ref r2), .val (.ref r3), .val (.int ((1 : Int32) + (1 : Int32)))] [])) _
    rw [show ((1 : Int32) + (1 : Int32)) = (2 : Int32) from (by decide)]
    refine XS.goto X3.here hx rfl (pc0 := 91) (pc' := 42) rfl (hb hby d1_91) (by decide) (by decide) ?_
    refine XS.iload X3.here hx rfl (hb hby d1_42) rfl ?_
    refine XS.aloadN X3.here hx rfl (hb hby d1_44) rfl rfl ?_
    refine X3.arraylength hx (by rw [eq3]; exact Ar_r3_7.1) Al_r3_7 (g := (mkF m 45 #[.val (.ref r0), .val (.ref r1), .val (.ref r2), .val (.ref r3), .val (.int (2 : Int32))] [(.ref r3), (.int (2 : Int32))])) rfl rfl (hb hby d1_45) _ ?_
    rw [len_of S_r3_7 N_r3_7]
    refine XS.icmpYes X3.here hx rfl (pc0 := 46) (pc' := 94) rfl (hb hby d1_46) rfl (flt (by decide : ¬ ((2 : Int32) < (2 : Int32)))).2.1 (by decide) (by decide) ?_
    refine XS.aloadN X3.here hx rfl (hb hby d1_94) rfl rfl ?_
    refine XS.aloadN X3.here hx rfl (hb hby d1_95) rfl rfl ?_
    refine st11 _ ?_
    refine st12 _ ?_
    refine st15 _ ?_
    refine XS.aloadN X15.here hx rfl (hb hby d1_105) rfl rfl ?_
    refine XS.aloadN X15.here hx rfl (hb hby d1_106) rfl rfl ?_
    refine st20 _ ?_
    refine st21 _ ?_
    refine st24 _ ?_
    refine XS.aloadN X24.here hx rfl (hb hby d1_116) rfl rfl ?_
    refine XS.aloadN X24.here hx rfl (hb hby d1_117) rfl rfl ?_
    refine st29 _ ?_
    refine st30 _ ?_
    refine st33 _ ?_
    show Steps p.tables e below (T33.setTop (mkF m 127 #[.val (.ref r0), .val (.ref r1), .val (.ref r2), .val (.ref r3), .val (.int (2 : Int32))] [])) _
    exact X33.returnOut hx Bd.returns (hb hby d1_127) hr
  · show Q_in_02 Z r0 k_r2 k_r3 x0 x1 h0 n0 _ T33.heap _
    rw [e33]
    exact ⟨rfl, N33, KK34, E_r0_35, b20, b29, Fw24_36, Fw33, B20_37, V_b20_38, V_b29_39⟩
abbrev Rrm_es_3_3 : Room := ({ frames := 1, cells := 1, slots := 3, locals := 15 } : Room)
theorem ef_rm_es_3_3 (m : MethodId) (r0 : Addr) : entryFrame m #[(.ref r0), (.int (0 : Int32)), (.int (3 : Int32))] 5 = mkF m 0 #[.val (.ref r0), .val (.int (0 : Int32)), .val (.int (3 : Int32)), .unset, .unset] [] := by first | (simp [entryFrame, mkF, argsToLocals, Value.category]; done) | rfl
def Q_es_3_3 (Z : State) (x0 : UInt64) (x1 : UInt64) (x2 : UInt64) (h0 : Heap) (n0 : Nat) (v : Option Value) (h : Heap) (L : List Loc) : Prop := (∃ (b : Addr) (kb : ClassId), v = some (.ref b) ∧ Arv Z h b kb .double (3 : Int32) [(.double x0), (.double x1), (.double x2)] (.double (0 : UInt64))) ∧ Fr n0 L ∧ Keep h0 h []
set_option maxRecDepth 65536 in
set_option maxHeartbeats 40000000 in
theorem rm_es_3_3 (l : Launch) (Z : State) (a0 : Array Value) (hw : ∀ d ∈ tables_1, d.before a0 Z = true) (ws : List Jvm.Cond) (r0 : Addr) (re : Addr) (x0 : UInt64) (x1 : UInt64) (x2 : UInt64) (k_re : ClassId) (h0 : Heap) (n0 : Nat) (Z0 : n0 ≤ h0.size) (E_r0 : Exa Z h0 r0 "com/example/beliefwire/beliefwire/model/Factor") (F_entries_r0 : Fld Z h0 r0 "com/example/beliefwire/beliefwire/model/Factor" "entries" "[D" (.ref re)) (V_re : Arv Z h0 re k_re .double (3 : Int32) [(.double x0), (.double x1), (.double x2)] (.double (0 : UInt64))) :
    MetFree l (⟨"com/example/beliefwire/beliefwire/io/NoisyMax", "entries", "(Lcom/example/beliefwire/beliefwire/model/Factor;II)[D"⟩ : MethodName) (head1 (Jvm.Cond.code (⟨"com/example/beliefwire/beliefwire/io/NoisyMax", "entries", "(Lcom/example/beliefwire/beliefwire/model/Factor;II)[D"⟩ : MethodName) prog_40_method_6_code 5 (some (.array .double)) :: ws) Rrm_es_3_3) (fun a U => a = #[(.ref r0), (.int (0 : Int32)), (.int (3 : Int32))] ∧ Z.Warmed39 U.vm ∧ U.heap = h0) (fun _ _ _ _ _ => True) (fun _ U o U' => ∃ v L, o = .returned v ∧ Q_es_3_3 Z x0 x1 x2 h0 n0 v U'.heap L ∧ FrameEnd U o U' L Rrm_es_3_3.cells Rrm_es_3_3.slots) := by
  refine MetFree.of_bodySF (plainFor_of_name pn_3) hisR ?_
  intro p e s m args below meth c s₁ Bd hml0 hP hK
  obtain ⟨rfl, hZ, hh⟩ := hP
  have hx := Bd.exec
  have hby := Bd.bytes
  have hml : c.maxLocals = 5 := hml0
  have hown : s.vm.findClass "com/example/beliefwire/beliefwire/io/NoisyMax" = some m.cls := findClass_of_methodNamed Bd.named
  have hnm := (name_of_methodNamed Bd.named Bd.method).1
  have X0 : Stand p l e Rrm_es_3_3 s m #[(.ref r0), (.int (0 : Int32)), (.int (3 : Int32))] below meth c s₁ [] 0 0 := Stand.of_body Bd
  have e0 : s₁.heap = h0 := by rw [← hh, Bd.state]; rfl
  have N0 := Fr.nil n0
  have W := @own_W a0 Z hw
  have pre0 : ∀ t, Steps p.tables e below (s₁.setTop (mkF m 0 #[.val (.ref r0), .val (.int (0 : Int32)), .val (.int (3 : Int32)), .unset, .unset] [])) t → Steps p.tables e below (s₁.setTop (entryFrame m #[(.ref r0), (.int (0 : Int32)), (.int (3 : Int32))] 5)) t := fun t k => castTop (ef_rm_es_3_3 m r0) k
  obtain ⟨T1, h1, k1, X1, e1, E1, A1, B1, st1⟩ := newPE X0 hx hZ (W 1 rfl) e0 (g := (mkF m 1 #[.val (.ref r0), .val (.int (0 : Int32)), .val (.int (3 : Int32)), .unset, .unset] [(.int (3 : Int32))])) rfl (hb hby d11_1) rfl (by decide) (cap := 3) (by decide) (by decide) (by decide) (by decide) (ad := "[D") (by decide)
  obtain ⟨b1, gg1⟩ : ∃ z, z = h0.size := ⟨_, rfl⟩
  rw [← gg1] at A1 B1 st1
  have g_b1 : n0 ≤ b1 := Nat.le_trans Z0 (Nat.le_of_eq gg1.symm)
  have sz_b1 : h0.size ≤ b1 := Nat.le_trans (Nat.le_refl h0.size) (Nat.le_of_eq gg1.symm)
  have V_b1 : Arv Z h1 b1 k1 .double (3 : Int32) [(.double (0 : UInt64)), (.double (0 : UInt64)), (.double (0 : UInt64))] (.double (0 : UInt64)) := (Arv.new A1 (by decide)).pad (pad_rep [] (.double (0 : UInt64)) 3)
  have Z3z : n0 ≤ h1.size := (Nat.le_trans Z0 E1.1)
  have V_re_5 := (V_re.ext E1)
  obtain ⟨cl_re_4, Ar_re_4, q_re_4, S_re_4, N_re_4, H_re_4, G_re_4⟩ := id V_re_5
  have hin_re_4 : ¬ ((0 : Int32) < 0 ∨ cl_re_4.slots.size ≤ ((0 : Int32)).toNatClampNeg) := inb_of S_re_4 ⟨by decide, by decide⟩
  have hat_re_4 : cl_re_4.slots[((0 : Int32)).toNatClampNeg]? = some (.double x0) := H_re_4 _ (by rw [S_re_4]; decide)
  have F_entries_r0_6 := (F_entries_r0.ext E1)
  have E_r0_7 := (E_r0.ext E1)
  obtain ⟨cq2, kq2, q2a, q2b, q2c⟩ := isOf hZ e1 E_r0_7
  obtain ⟨_, _, ⟨T2, L2, k2, n2⟩, -, X2, ⟨Lc2, hQ2, l2, y2, z2⟩, st2⟩ := X1.virtualBack hx (y := (⟨"com/example/beliefwire/beliefwire/model/Factor", "entry", "(I)D"⟩ : MethodName)) (z := (⟨"com/example/beliefwire/beliefwire/model/Factor", "entry", "(I)D"⟩ : MethodName)) hown (mvT hZ (W 68 rfl)) (mvT hZ (W 69 rfl)) (notFace_of_selects (args := #[]) (mvT hZ (W 71 rfl))) (mvT hZ (W 71 rfl)) (mvT hZ (W 70 rfl)) (by decide) (backOf (W := 2) (rm_en l Z a0 hw [] r0 (0 : Int32) re cl_re_4 x0 h1 n0 Z3z F_entries_r0_6 Ar_re_4 hin_re_4 hat_re_4) hZ (W 72 rfl) (W 6 rfl) (by decide) (by decide)) q2a q2c (g := (mkF m 21 #[.val (.ref r0), .val (.int (0 : Int32)), .val (.int (3 : Int32)), .val (.ref b1), .val (.int (0 : Int32))] [(.int (0 : Int32)), (.ref r0), (.int (0 : Int32)), (.ref b1)])) rfl (by rw [hml]; rfl) (Steps.refl _) (argsL := [(.int (0 : Int32))]) (rest := [(.int (0 : Int32)), (.ref b1)]) (lenOf pd_5 rfl) rfl (own_le rfl) (hb hby d11_21) (fun _ _ => ⟨rfl, e1, (by decide : 1 + 0 ≤ _), (by decide : 3 + 0 ≤ _)⟩)
  dsimp only [Pt.U, Pt.locs, Pt.cells, Pt.slots] at X2 l2 y2 z2 st2 hQ2
  subst l2 y2 z2
  obtain ⟨rfl, N2q, eq2⟩ := hQ2
  have N2 := Fr.app N0 N2q
  obtain ⟨LL2, X2, N2⟩ := own_hide X2 N2
  obtain ⟨cl_b1_24_8, Ar_b1_24_8, q_b1_24_8, S_b1_24_8, N_b1_24_8, H_b1_24_8, G_b1_24_8⟩ := id V_b1
  have hin_b1_24_8 : ¬ ((0 : Int32) < 0 ∨ cl_b1_24_8.slots.size ≤ ((0 : Int32)).toNatClampNeg) := inb_of S_b1_24_8 ⟨by decide, by decide⟩
  obtain ⟨T9, h9, X9, e9, W9, st9⟩ := stD X2 hx hZ eq2 Ar_b1_24_8 (j := (0 : Int32)) hin_b1_24_8 (g := (mkF m 24 #[.val (.ref r0), .val (.int (0 : Int32)), .val (.int (3 : Int32)), .val (.ref b1), .val (.int (0 : Int32))] [(.double x0), (.int (0 : Int32)), (.ref b1)])) rfl rfl (hb hby d11_24)
  have V_b1_9 := Arv.set Ar_b1_24_8 q_b1_24_8 S_b1_24_8 N_b1_24_8 H_b1_24_8 G_b1_24_8 rfl W9 0 rfl (Nat.le_of_ble_eq_true rfl)
  have N9 := Fr.snoc X9 N2 g_b1
  obtain ⟨LL9, X9, N9⟩ := own_hide X9 N9
  have Z11z : n0 ≤ h9.size := (Nat.le_trans Z3z (Keep.of_wr W9).1)
  have ne_re_b1 : re ≠ b1 := Nat.ne_of_lt (Nat.lt_of_lt_of_le (V_re).lt (Nat.le_of_eq gg1.symm))
  have V_re_13 := (V_re_5.other W9 ne_re_b1)
  obtain ⟨cl_re_12, Ar_re_12, q_re_12, S_re_12, N_re_12, H_re_12, G_re_12⟩ := id V_re_13
  have hin_re_12 : ¬ ((1 : Int32) < 0 ∨ cl_re_12.slots.size ≤ ((1 : Int32)).toNatClampNeg) := inb_of S_re_12 ⟨by decide, by decide⟩
  have hat_re_12 : cl_re_12.slots[((1 : Int32)).toNatClampNeg]? = some (.double x1) := H_re_12 _ (by rw [S_re_12]; decide)
  have ne_r0_b1 : r0 ≠ b1 := Nat.ne_of_lt (Nat.lt_of_lt_of_le (E_r0).lt (Nat.le_of_eq gg1.symm))
  have F_entries_r0_14 := (F_entries_r0_6.other W9 (Or.inl ne_r0_b1))
  have E_r0_15 := (E_r0_7.wr W9)
  obtain ⟨cq10, kq10, q10a, q10b, q10c⟩ := isOf hZ e9 E_r0_15
  obtain ⟨_, _, ⟨T10, L10, k10, n10⟩, -, X10, ⟨Lc10, hQ10, l10, y10, z10⟩, st10⟩ := X9.virtualBack hx (y := (⟨"com/example/beliefwire/beliefwire/model/Factor", "entry", "(I)D"⟩ : MethodName)) (z := (⟨"com/example/beliefwire/beliefwire/model/Factor", "entry", "(I)D"⟩ : MethodName)) hown (mvT hZ (W 68 rfl)) (mvT hZ (W 69 rfl)) (notFace_of_selects (args := #[]) (mvT hZ (W 71 rfl))) (mvT hZ (W 71 rfl)) (mvT hZ (W 70 rfl)) (by decide) (backOf (W := 2) (rm_en l Z a0 hw [] r0 (1 : Int32) re cl_re_12 x1 h9 n0 Z11z F_entries_r0_14 Ar_re_12 hin_re_12 hat_re_12) hZ (W 72 rfl) (W 6 rfl) (by decide) (by decide)) q10a q10c (g := (mkF m 21 #[.val (.ref r0), .val (.int (0 : Int32)), .val (.int (3 : Int32)), .val (.ref b1), .val (.int (1 : Int32))] [(.int (1 : Int32)), (.ref r0), (.int (1 : Int32)), (.ref b1)])) rfl (by rw [hml]; rfl) (Steps.refl _) (argsL := [(.int (1 : Int32))]) (rest := [(.int (1 : Int32)), (.ref b1)]) (lenOf pd_5 rfl) rfl (own_le rfl) (hb hby d11_21) (fun _ _ => ⟨rfl, e9, (by decide : 1 + 0 ≤ _), (by decide : 3 + 0 ≤ _)⟩)
  dsimp only [Pt.U, Pt.locs, Pt.cells, Pt.slots] at X10 l10 y10 z10 st10 hQ10
  subst l10 y10 z10
  obtain ⟨rfl, N10q, eq10⟩ := hQ10
  have N10 := Fr.app N9 N10q
  obtain ⟨LL10, X10, N10⟩ := own_hide X10 N10
  obtain ⟨cl_b1_24_16, Ar_b1_24_16, q_b1_24_16, S_b1_24_16, N_b1_24_16, H_b1_24_16, G_b1_24_16⟩ := id V_b1_9
  have hin_b1_24_16 : ¬ ((1 : Int32) < 0 ∨ cl_b1_24_16.slots.size ≤ ((1 : Int32)).toNatClampNeg) := inb_of S_b1_24_16 ⟨by decide, by decide⟩
  obtain ⟨T17, h17, X17, e17, W17, st17⟩ := stD X10 hx hZ eq10 Ar_b1_24_16 (j := (1 : Int32)) hin_b1_24_16 (g := (mkF m 24 #[.val (.ref r0), .val (.int (0 : Int32)), .val (.int (3 : Int32)), .val (.ref b1), .val (.int (1 : Int32))] [(.double x1), (.int (1 : Int32)), (.ref b1)])) rfl rfl (hb hby d11_24)
  have V_b1_17 := Arv.set Ar_b1_24_16 q_b1_24_16 S_b1_24_16 N_b1_24_16 H_b1_24_16 G_b1_24_16 rfl W17 1 rfl (Nat.le_of_ble_eq_true rfl)
  have N17 := Fr.snoc X17 N10 g_b1
  obtain ⟨LL17, X17, N17⟩ := own_hide X17 N17
  have Z19z : n0 ≤ h17.size := (Nat.le_trans Z11z (Keep.of_wr W17).1)
  have V_re_21 := (V_re_13.other W17 ne_re_b1)
  obtain ⟨cl_re_20, Ar_re_20, q_re_20, S_re_20, N_re_20, H_re_20, G_re_20⟩ := id V_re_21
  have hin_re_20 : ¬ ((2 : Int32) < 0 ∨ cl_re_20.slots.size ≤ ((2 : Int32)).toNatClampNeg) := inb_of S_re_20 ⟨by decide, by decide⟩
  have hat_re_20 : cl_re_20.slots[((2 : Int32)).toNatClampNeg]? = some (.double x2) := H_re_20 _ (by rw [S_re_20]; decide)
  have F_entries_r0_22 := (F_entries_r0_14.other W17 (Or.inl ne_r0_b1))
  have E_r0_23 := (E_r0_15.wr W17)
  obtain ⟨cq18, kq18, q18a, q18b, q18c⟩ := isOf hZ e17 E_r0_23
  obtain ⟨_, _, ⟨T18, L18, k18, n18⟩, -, X18, ⟨Lc18, hQ18, l18, y18, z18⟩, st18⟩ := X17.virtualBack hx (y := (⟨"com/example/beliefwire/beliefwire/model/Factor", "entry", "(I)D"⟩ : MethodName)) (z := (⟨"com/example/beliefwire/beliefwire/model/Factor", "entry", "(I)D"⟩ : MethodName)) hown (mvT hZ (W 68 rfl)) (mvT hZ (W 69 rfl)) (notFace_of_selects (args := #[]) (mvT hZ (W 71 rfl))) (mvT hZ (W 71 rfl)) (mvT hZ (W 70 rfl)) (by decide) (backOf (W := 2) (rm_en l Z a0 hw [] r0 (2 : Int32) re cl_re_20 x2 h17 n0 Z19z F_entries_r0_22 Ar_re_20 hin_re_20 hat_re_20) hZ (W 72 rfl) (W 6 rfl) (by decide) (by decide)) q18a q18c (g := (mkF m 21 #[.val (.ref r0), .val (.int (0 : Int32)), .val (.int (3 : Int32)), .val (.ref b1), .val (.int (2 : Int32))] [(.int (2 : Int32)), (.ref r0), (.int (2 : Int32)), (.ref b1)])) rfl (by rw [hml]; rfl) (Steps.refl _) (argsL := [(.int (2 : Int32))]) (rest := [(.int (2 : Int32)), (.ref b1)]) (lenOf pd_5 rfl) rfl (own_le rfl) (hb hby d11_21) (fun _ _ => ⟨rfl, e17, (by decide : 1 + 0 ≤ _), (by decide : 3 + 0 ≤ _)⟩)
  dsimp only [Pt.U, Pt.locs, Pt.cells, Pt.slots] at X18 l18 y18 z18 st18 hQ18
  subst l18 y18 z18
  obtain ⟨rfl, N18q, eq18⟩ := hQ18
  have N18 := Fr.app N17 N18q
  obtain ⟨LL18, X18, N18⟩ := own_hide X18 N18
  obtain ⟨cl_b1_24_24, Ar_b1_24_24, q_b1_24_24, S_b1_24_24, N_b1_24_24, H_b1_24_24, G_b1_24_24⟩ := id V_b1_17
  have hin_b1_24_24 : ¬ ((2 : Int32) < 0 ∨ cl_b1_24_24.slots.size ≤ ((2 : Int32)).toNatClampNeg) := inb_of S_b1_24_24 ⟨by decide, by decide⟩
  obtain ⟨T25, h25, X25, e25, W25, st25⟩ := stD X18 hx hZ eq18 Ar_b1_24_24 (j := (2 : Int32)) hin_b1_24_24 (g := (mkF m 24 #[.val (.ref r0), .val (.int (0 : Int32)), .val (.int (3 : Int32)), .val (.ref b1), .val (.int (2 : Int32))] [(.double x2), (.int (2 : Int32)), (.ref b1)])) rfl rfl (hb hby d11_24)
  have V_b1_25 := Arv.set Ar_b1_24_24 q_b1_24_24 S_b1_24_24 N_b1_24_24 H_b1_24_24 G_b1_24_24 rfl W25 2 rfl (Nat.le_of_ble_eq_true rfl)
  have N25 := Fr.snoc X25 N18 g_b1
  obtain ⟨LL25, X25, N25⟩ := own_hide X25 N25
  have KK26 : Keep h0 h25 [] := (((((Keep.refl h0 []).ext E1).wr W9 (Or.inr sz_b1)).wr W17 (Or.inr sz_b1)).wr W25 (Or.inr sz_b1))
  obtain ⟨fs, hr, hrun, hended, hW, hsame⟩ := X25.leave (v := some (.ref b1)) (fun h => by rw [Bd.returns] at h; cases h)
  refine ⟨_, _, pre0 _ ?_, hrun, hended, _, _, rfl, ?_, ⟨_, rfl⟩, hW, hsame.mono (by decide) (by decide)⟩
  · show Steps p.tables e below (s₁.setTop (mkF m 0 #[.val (.ref r0), .val (.int (0 : Int32)), .val (.int (3 : Int32)), .unset, .unset] [])) _
    refine XS.iloadN X0.here hx rfl (hb hby d11_0) rfl ?_
    refine st1 _ ?_
    refine XS.astoreN X1.here hx rfl (hb hby d11_3) rfl rfl (l' := #[.val (.ref r0), .val (.int (0 : Int32)), .val (.int (3 : Int32)), .val (.ref b1), .unset]) rfl ?_
    refine XS.iconst X1.here hx rfl (hb hby d11_4) ?_
    refine XS.istore X1.here hx rfl (hb hby d11_5) rfl (l' := #[.val (.ref r0), .val (.int (0 : Int32)), .val (.int (3 : Int32)), .val (.ref b1), .val (.int (0 : Int32))]) rfl ?_
    refine XS.iload X1.here hx rfl (hb hby d11_7) rfl ?_
    refine XS.iloadN X1.here hx rfl (hb hby d11_9) rfl ?_
    refine XS.icmpNo X1.here hx rfl (hb hby d11_10) rfl (tlt (by decide : (0 : Int32) < (3 : Int32))).2.1 ?_
    refine XS.aloadN X1.here hx rfl (hb hby d11_13) rfl rfl ?_
    refine XS.iload X1.here hx rfl (hb hby d11_14) rfl ?_
    refine XS.aloadN X1.here hx rfl (hb hby d11_16) rfl rfl ?_
    refine XS.iloadN X1.here hx rfl (hb hby d11_17) rfl ?_
    refine XS.iload X1.here hx rfl (hb hby d11_18) rfl ?_
    refine XS.iadd X1.here hx rfl (hb hby d11_20) rfl ?_
    show Steps p.tables e below (T1.setTop (mkF m 21 #[.val (.ref r0), .val (.int (0 : Int32)), .val (.int (3 : Int32)), .val (.ref b1), .val (.int (0 : Int32))] [(.int ((0 : Int32) + (0 : Int32))), (.ref r0), (.int (0 : Int32)), (.ref b1)])) _
    rw [show ((0 : Int32) + (0 : Int32)) = (0 : Int32) from (by decide)]
    refine st2.trans ?_
    refine st9 _ ?_
    refine XS.iinc X9.here hx rfl (hb hby d11_25) rfl (l' := #[.val (.ref r0), .val (.int (0 : Int32)), .val (.int (3 : Int32)), .val (.ref b1), .val (.int ((0 : Int32) + (1 : Int32)))]) rfl ?_
    show Steps p.tables e below (T9.setTop (mkF m 28 #[.val (.ref r0), .val (.int (0 : Int32)), .val (.int (3 : Int32)), .val (.ref b1), .val (.int ((0 : Int32) + (1 : Int32)))] [])) _
    rw [show ((0 : Int32) + (1 : Int32)) = (1 : Int32) from (by decide)]
    refine XS.goto X9.here hx rfl (pc0 := 28) (pc' := 7) rfl (hb hby d11_28) (by decide) (by decide) ?_
    refine XS.iload X9.here hx rfl (hb hby d11_7) rfl ?_
    refine XS.iloadN X9.here hx rfl (hb hby d11_9) rfl ?_
    refine XS.icmpNo X9.here hx rfl (hb hby d11_10) rfl (tlt (by decide : (1 : Int32) < (3 : Int32))).2.1 ?_
    refine XS.aloadN X9.here hx rfl (hb hby d11_13) rfl rfl ?_
    refine XS.iload X9.here hx rfl (hb hby d11_14) rfl ?_
    refine XS.aloadN X9.here hx rfl (hb hby d11_16) rfl rfl ?_
    refine XS.iloadN X9.here hx rfl (hb hby d11_17) rfl ?_
    refine XS.iload X9.here hx rfl (hb hby d11_18) rfl ?_
    refine XS.iadd X9.here hx rfl (hb hby d11_20) rfl ?_
    show Steps p.tables e below (T9.setTop (mkF m 21 #[.val (.ref r0), .val (.int (0 : Int32)), .val (.int (3 : Int32)), .val (.ref b1), .val (.int (1 : Int32))] [(.int ((0 : Int32) + (1 : Int32))), (.ref r0), (.int (1 : Int32)), (.ref b1)])) _
    rw [show ((0 : Int32) + (1 : Int32)) = (1 : Int32) from (by decide)]
    refine st10.trans ?_
    refine st17 _ ?_
    refine XS.iinc X17.here hx rfl (hb hby d11_25) rfl (l' := #[.val (.ref r0), .val (.int (0 : Int32)), .val (.int (3 : Int32)), .val (.ref b1), .val (.int ((1 : Int32) + (1 : Int32)))]) rfl ?_
    show Steps p.tables e below (T17.setTop (mkF m 28 #[.val (.ref r0), .val (.int (0 : Int32)), .val (.int (3 : Int32)), .val (.ref b1), .val (.int ((1 : Int32) + (1 : Int32)))] [])) _
    rw [show ((1 : Int32) + (1 : Int32)) = (2 : Int32) from (by decide)]
    refine XS.goto X17.here hx rfl (pc0 := 28) (pc' := 7) rfl (hb hby d11_28) (by decide) (by decide) ?_
    refine XS.iload X17.here hx rfl (hb hby d11_7) rfl ?_
    refine XS.iloadN X17.here hx rfl (hb hby d11_9) rfl ?_
    refine XS.icmpNo X17.here hx rfl (hb hby d11_10) rfl (tlt (by decide : (2 : Int32) < (3 : Int32))).2.1 ?_
    refine XS.aloadN X17.here hx rfl (hb hby d11_13) rfl rfl ?_
    refine XS.iload X17.here hx rfl (hb hby d11_14) rfl ?_
    refine XS.aloadN X17.here hx rfl (hb hby d11_16) rfl rfl ?_
    refine XS.iloadN X17.here hx rfl (hb hby d11_17) rfl ?_
    refine XS.iload X17.here hx rfl (hb hby d11_18) rfl ?_
    refine XS.iadd X17.here hx rfl (hb hby d11_20) rfl ?_
    show Steps p.tables e below (T17.setTop (mkF m 21 #[.val (.ref r0), .val (.int (0 : Int32)), .val (.int (3 : Int32)), .val (.ref b1), .val (.int (2 : Int32))] [(.int ((0 : Int32) + (2 : Int32))), (.ref r0), (.int (2 : Int32)), (.ref b1)])) _
    rw [show ((0 : Int32) + (2 : Int32)) = (2 : Int32) from (by decide)]
    refine st18.trans ?_
    refine st25 _ ?_
    refine XS.iinc X25.here hx rfl (hb hby d11_25) rfl (l' := #[.val (.ref r0), .val (.int (0 : Int32)), .val (.int (3 : Int32)), .val (.ref b1), .val (.int ((2 : Int32) + (1 : Int32)))]) rfl ?_
    show Steps p.tables e below (T25.setTop (mkF m 28 #[.val (.ref r0), .val (.int (0 : Int32)), .val (.int (3 : Int32)), .val (.ref b1), .val (.int ((2 : Int32) + (1 : Int32)))] [])) _
    rw [show ((2 : Int32) + (1 : Int32)) = (3 : Int32) from (by decide)]
    refine XS.goto X25.here hx rfl (pc0 := 28) (pc' := 7) rfl (hb hby d11_28) (by decide) (by decide) ?_
    refine XS.iload X25.here hx rfl (hb hby d11_7) rfl ?_
    refine XS.iloadN X25.here hx rfl (hb hby d11_9) rfl ?_
    refine XS.icmpYes X25.here hx rfl (pc0 := 10) (pc' := 31) rfl (hb hby d11_10) rfl (flt (by decide : ¬ ((3 : Int32) < (3 : Int32)))).2.1 (by decide) (by decide) ?_
    refine XS.aloadN X25.here hx rfl (hb hby d11_31) rfl rfl ?_
    show Steps p.tables e below (T25.setTop (mkF m 32 #[.val (.ref r0), .val (.int (0 : Int32)), .val (.int (3 : Int32)), .val (.ref b1), .val (.int (3 : Int32))] [(.ref b1)])) _
    jvm_step X25.here [X25.here.top, hx, (hb hby d11_32), X25.method', Bd.returns, Value.isRef, FieldType.isReference]
    first | (intro acts; rw [hr _ acts rfl rfl rfl]) | rw [hr _ _ rfl rfl rfl]
    exact Steps.refl _
  · show Q_es_3_3 Z x0 x1 x2 h0 n0 _ T25.heap _
    rw [e25]
    exact ⟨⟨b1, _, rfl, V_b1_25⟩, N25, KK26⟩
abbrev Rrm_lk_03 : Room := ({ frames := 2, cells := 2, slots := 4, locals := 31 } : Room)
theorem ef_rm_lk_03 (m : MethodId) (r0 : Addr) : entryFrame m #[(.ref r0)] 2 = mkF m 0 #[.val (.ref r0), .unset] [] := by first | (simp [entryFrame, mkF, argsToLocals, Value.category]; done) | rfl
def Q_lk_03 (Z : State) (x0 : UInt64) (x1 : UInt64) (x2 : UInt64) (h0 : Heap) (n0 : Nat) (v : Option Value) (h : Heap) (L : List Loc) : Prop := (∃ (b : Addr) (kb : ClassId), v = some (.ref b) ∧ Arv Z h b kb .double (3 : Int32) [(.double x0), (.double x1), (.double x2)] (.double (0 : UInt64))) ∧ Fr n0 L ∧ Keep h0 h []
set_option maxRecDepth 65536 in
set_option maxHeartbeats 40000000 in
theorem rm_lk_03 (l : Launch) (Z : State) (a0 : Array Value) (hw : ∀ d ∈ tables_1, d.before a0 Z = true) (ws : List Jvm.Cond) (r0 : Addr) (rc : Addr) (re : Addr) (x0 : UInt64) (x1 : UInt64) (x2 : UInt64) (k_rc : ClassId) (k_re : ClassId) (h0 : Heap) (n0 : Nat) (Z0 : n0 ≤ h0.size) (E_r0 : Exa Z h0 r0 "com/example/beliefwire/beliefwire/model/Factor") (F_cardinalities_r0 : Fld Z h0 r0 "com/example/beliefwire/beliefwire/model/Factor" "cardinalities" "[I" (.ref rc)) (V_rc : Arv Z h0 rc k_rc .int (1 : Int32) [(.int (3 : Int32))] (.int (0 : Int32))) (E_rc : Exa Z h0 rc "[I") (F_entries_r0 : Fld Z h0 r0 "com/example/beliefwire/beliefwire/model/Factor" "entries" "[D" (.ref re)) (V_re : Arv Z h0 re k_re .double (3 : Int32) [(.double x0), (.double x1), (.double x2)] (.double (0 : UInt64))) :
    MetFree l (⟨"com/example/beliefwire/beliefwire/io/NoisyMax", "leak", "(Lcom/example/beliefwire/beliefwire/model/Factor;)[D"⟩ : MethodName) (head1 (Jvm.Cond.code (⟨"com/example/beliefwire/beliefwire/io/NoisyMax", "leak", "(Lcom/example/beliefwire/beliefwire/model/Factor;)[D"⟩ : MethodName) prog_40_method_4_code 2 (some (.array .double)) :: ws) Rrm_lk_03) (fun a U => a = #[(.ref r0)] ∧ Z.Warmed39 U.vm ∧ U.heap = h0) (fun _ _ _ _ _ => True) (fun _ U o U' => ∃ v L, o = .returned v ∧ Q_lk_03 Z x0 x1 x2 h0 n0 v U'.heap L ∧ FrameEnd U o U' L Rrm_lk_03.cells Rrm_lk_03.slots) := by
  refine MetFree.of_bodySF (plainFor_of_name pn_3) hisR ?_
  intro p e s m args below meth c s₁ Bd hml0 hP hK
  obtain ⟨rfl, hZ, hh⟩ := hP
  have hx := Bd.exec
  have hby := Bd.bytes
  have hml : c.maxLocals = 2 := hml0
  have hown : s.vm.findClass "com/example/beliefwire/beliefwire/io/NoisyMax" = some m.cls := findClass_of_methodNamed Bd.named
  have hnm := (name_of_methodNamed Bd.named Bd.method).1
  have X0 : Stand p l e Rrm_lk_03 s m #[(.ref r0)] below meth c s₁ [] 0 0 := Stand.of_body Bd
  have e0 : s₁.heap = h0 := by rw [← hh, Bd.state]; rfl
  have N0 := Fr.nil n0
  have W := @own_W a0 Z hw
  have pre0 : ∀ t, Steps p.tables e below (s₁.setTop (mkF m 0 #[.val (.ref r0), .unset] [])) t → Steps p.tables e below (s₁.setTop (entryFrame m #[(.ref r0)] 2)) t := fun t k => castTop (ef_rm_lk_03 m r0) k
  obtain ⟨cq1, kq1, q1a, q1b, q1c⟩ := isOf hZ e0 E_r0
  obtain ⟨_, _, ⟨T1, L1, k1, n1⟩, -, X1, ⟨Lc1, hQ1, l1, y1, z1⟩, st1⟩ := X0.virtualBack hx (y := (⟨"com/example/beliefwire/beliefwire/model/Factor", "cardinalities", "()[I"⟩ : MethodName)) (z := (⟨"com/example/beliefwire/beliefwire/model/Factor", "cardinalities", "()[I"⟩ : MethodName)) hown (mvT hZ (W 60 rfl)) (mvT hZ (W 61 rfl)) (notFace_of_selects (args := #[]) (mvT hZ (W 63 rfl))) (mvT hZ (W 63 rfl)) (mvT hZ (W 62 rfl)) (by decide) (backOf (W := 0) (rm_ca_0 l Z a0 hw [] r0 rc (3 : Int32) k_rc h0 n0 Z0 F_cardinalities_r0 V_rc E_rc) hZ (W 64 rfl) (W 6 rfl) (by decide) (by decide)) q1a q1c (g := (mkF m 1 #[.val (.ref r0), .unset] [(.ref r0)])) rfl (by rw [hml]; rfl) (Steps.refl _) (argsL := []) (rest := []) (lenOf pd_6 rfl) rfl (own_le rfl) (hb hby d9_1) (fun _ _ => ⟨rfl, e0, (by decide : 0 + 1 ≤ _), (by decide : 0 + 1 ≤ _)⟩)
  dsimp only [Pt.U, Pt.locs, Pt.cells, Pt.slots] at X1 l1 y1 z1 st1 hQ1
  subst l1 y1 z1
  obtain ⟨⟨b1, rfl, V1⟩, N1q, K1⟩ := hQ1
  have N1 := Fr.app N0 N1q
  obtain ⟨LL1, X1, N1⟩ := own_hide X1 N1
  obtain ⟨cl_b1_2, Ar_b1_2, q_b1_2, S_b1_2, N_b1_2, H_b1_2, G_b1_2⟩ := id V1
  have Al_b1_2 := State.isArrayOf_alike hZ.alike Ar_b1_2.2.1
  have hin_b1_2_0 : ¬ ((0 : Int32) < 0 ∨ cl_b1_2.slots.size ≤ ((0 : Int32)).toNatClampNeg) := inb_of S_b1_2 ⟨by decide, by decide⟩
  have hat_b1_2_0 : cl_b1_2.slots[((0 : Int32)).toNatClampNeg]? = some (.int (3 : Int32)) := H_b1_2 _ (by rw [S_b1_2]; decide)
  have Z4z : n0 ≤ T1.heap.size := (Nat.le_trans Z0 K1.1)
  have E_r0_5 := (E_r0.keep K1)
  have F_entries_r0_6 := (F_entries_r0.keep K1 own_nin0)
  have V_re_7 := (V_re.keep K1 own_nin0)
  obtain ⟨_, _, ⟨T3, L3, k3, n3⟩, -, X3, ⟨Lc3, hQ3, l3, y3, z3⟩, st3⟩ := Jvm.LawKit.callS X1 hx (y := (⟨"com/example/beliefwire/beliefwire/io/NoisyMax", "entries", "(Lcom/example/beliefwire/beliefwire/model/Factor;II)[D"⟩ : MethodName)) hown (mvT hZ (W 65 rfl)) (mvT hZ (W 66 rfl)) (mvT hZ (W 58 rfl)) (mvT hZ (W 67 rfl)) (by decide) (backOf (W := 0) (rm_es_3_3 l Z a0 hw [] r0 re x0 x1 x2 k_re T1.heap n0 Z4z E_r0_5 F_entries_r0_6 V_re_7) hZ (W 67 rfl) (W 58 rfl) (by decide) (by decide)) (g := (mkF m 13 #[.val (.ref r0), .val (.ref b1)] [(.int (3 : Int32)), (.int (0 : Int32)), (.ref r0)])) rfl (by rw [hml]; rfl) (argsL := [(.ref r0), (.int (0 : Int32)), (.int (3 : Int32))]) (rest := []) (lenOf pd_7 rfl) rfl (own_le rfl) (hb hby d9_13) (fun _ _ => ⟨rfl, rfl, (by decide : 1 + 1 ≤ _), (by decide : 1 + 3 ≤ _)⟩)
  dsimp only [Pt.U, Pt.locs, Pt.cells, Pt.slots] at X3 l3 y3 z3 st3 hQ3
  subst l3 y3 z3
  obtain ⟨⟨b3, kb3, rfl, V3⟩, N3q, K3⟩ := hQ3
  have N3 := Fr.app N1 N3q
  obtain ⟨LL3, X3, N3⟩ := own_hide X3 N3
  have KK8 : Keep h0 T3.heap [] := (((Keep.refl h0 []).trans K1 (own_in0)).trans K3 (own_in0))
  obtain ⟨fs, hr, hrun, hended, hW, hsame⟩ := X3.leave (v := some (.ref b3)) (fun h => by rw [Bd.returns] at h; cases h)
  refine ⟨_, _, pre0 _ ?_, hrun, hended, _, _, rfl, ?_, ⟨_, rfl⟩, hW, hsame.mono (by decide) (by decide)⟩
  · show Steps p.tables e below (s₁.setTop (mkF m 0 #[.val (.ref r0), .unset] [])) _
    refine XS.aloadN X0.here hx rfl (hb hby d9_0) rfl rfl ?_
    refine st1.trans ?_
    refine XS.astoreN X1.here hx rfl (hb hby d9_4) rfl rfl (l' := #[.val (.ref r0), .val (.ref b1)]) rfl ?_
    refine XS.aloadN X1.here hx rfl (hb hby d9_5) rfl rfl ?_
    refine XS.iconst X1.here hx rfl (hb hby d9_6) ?_
    refine XS.aloadN X1.here hx rfl (hb hby d9_7) rfl rfl ?_
    refine XS.aloadN X1.here hx rfl (hb hby d9_8) rfl rfl ?_
    refine X1.arraylength hx Ar_b1_2.1 Al_b1_2 (g := (mkF m 9 #[.val (.ref r0), .val (.ref b1)] [(.ref b1), (.ref b1), (.int (0 : Int32)), (.ref r0)])) rfl rfl (hb hby d9_9) _ ?_
    rw [len_of S_b1_2 N_b1_2]
    refine XS.iconst X1.here hx rfl (hb hby d9_10) ?_
    refine XS.isub X1.here hx rfl (hb hby d9_11) rfl ?_
    show Steps p.tables e below (T1.setTop (mkF m 12 #[.val (.ref r0), .val (.ref b1)] [(.int ((1 : Int32) - (1 : Int32))), (.ref b1), (.int (0 : Int32)), (.ref r0)])) _
    rw [show ((1 : Int32) - (1 : Int32)) = (0 : Int32) from (by decide)]
    refine X1.iaload hx (j := (0 : Int32)) (v := (.int (3 : Int32))) Ar_b1_2.1 Al_b1_2 Ar_b1_2.2.2 hin_b1_2_0 hat_b1_2_0 (g := (mkF m 12 #[.val (.ref r0), .val (.ref b1)] [(.int (0 : Int32)), (.ref b1), (.int (0 : Int32)), (.ref r0)])) rfl rfl (hb hby d9_12) _ ?_
    refine st3 _ ?_
    show Steps p.tables e below (T3.setTop (mkF m 16 #[.val (.ref r0), .val (.ref b1)] [(.ref b3)])) _
    jvm_step X3.here [X3.here.top, hx, (hb hby d9_16), X3.method', Bd.returns, Value.isRef, FieldType.isReference]
    first | (intro acts; rw [hr _ acts rfl rfl rfl]) | rw [hr _ _ rfl rfl rfl]
    exact Steps.refl _
  · show Q_lk_03 Z x0 x1 x2 h0 n0 _ T3.heap _
    exact ⟨⟨b3, _, rfl, V3⟩, N3, KK8⟩
abbrev Rrm_in_03 : Room := ({ frames := 5, cells := 4, slots := 6, locals := 96 } : Room)
theorem ef_rm_in_03 (m : MethodId) (r0 : Addr) (r1 : Addr) (r2 : Addr) (r3 : Addr) : entryFrame m #[(.ref r0), (.ref r1), (.ref r2), (.ref r3)] 5 = mkF m 0 #[.val (.ref r0), .val (.ref r1), .val (.ref r2), .val (.ref r3), .unset] [] := by first | (simp [entryFrame, mkF, argsToLocals, Value.category]; done) | rfl
def Q_in_03 (Z : State) (r0 : Addr) (k_r2 : ClassId) (k_r3 : ClassId) (x0 : UInt64) (x1 : UInt64) (x2 : UInt64) (h0 : Heap) (n0 : Nat) (v : Option Value) (h : Heap) (L : List Loc) : Prop := v = none ∧ Fr n0 L ∧ Keep h0 h [r0] ∧ Exa Z h r0 "com/example/beliefwire/beliefwire/model/Factor" ∧ ∃ bc be : Addr, Fld Z h r0 "com/example/beliefwire/beliefwire/model/Factor" "cardinalities" "[I" (.ref bc) ∧ Fld Z h r0 "com/example/beliefwire/beliefwire/model/Factor" "entries" "[D" (.ref be) ∧ Exa Z h bc "[I" ∧ Arv Z h bc k_r2 .int (1 : Int32) [(.int (3 : Int32))] (.int (0 : Int32)) ∧ Arv Z h be k_r3 .double (3 : Int32) [(.double x0), (.double x1), (.double x2)] (.double (0 : UInt64))
set_option maxRecDepth 65536 in
set_option maxHeartbeats 40000000 in
theorem rm_in_03 (l : Launch) (Z : State) (a0 : Array Value) (hw : ∀ d ∈ tables_1, d.before a0 Z = true) (ws : List Jvm.Cond) (r0 : Addr) (r1 : Addr) (r2 : Addr) (r3 : Addr) (x0 : UInt64) (x1 : UInt64) (x2 : UInt64) (u_scope_r0 : Value) (u_cardinalities_r0 : Value) (u_entries_r0 : Value) (k_r1 : ClassId) (k_r2 : ClassId) (k_r3 : ClassId) (h0 : Heap) (n0 : Nat) (Z0 : n0 ≤ h0.size) (E_r0 : Exa Z h0 r0 "com/example/beliefwire/beliefwire/model/Factor") (g_r0 : n0 ≤ r0) (F_scope_r0 : Fld Z h0 r0 "com/example/beliefwire/beliefwire/model/Factor" "scope" "[I" u_scope_r0) (F_cardinalities_r0 : Fld Z h0 r0 "com/example/beliefwire/beliefwire/model/Factor" "cardinalities" "[I" u_cardinalities_r0) (F_entries_r0 : Fld Z h0 r0 "com/example/beliefwire/beliefwire/model/Factor" "entries" "[D" u_entries_r0) (V_r1 : Arv Z h0 r1 k_r1 .int (1 : Int32) [(.int (4 : Int32))] (.int (0 : Int32))) (E_r1 : Exa Z h0 r1 "[I") (V_r2 : Arv Z h0 r2 k_r2 .int (1 : Int32) [(.int (3 : Int32))] (.int (0 : Int32))) (E_r2 : Exa Z h0 r2 "[I") (V_r3 : Arv Z h0 r3 k_r3 .double (3 : Int32) [(.double x0), (.double x1), (.double x2)] (.double (0 : UInt64))) (E_r3 : Exa Z h0 r3 "[D") (hf_x0 : Fl.Fin64 x0) (hn_x0 : ¬ cmpValue (FP.dcmp x0 FP.dconst0) .l < (0 : Int32)) (hf_x1 : Fl.Fin64 x1) (hn_x1 : ¬ cmpValue (FP.dcmp x1 FP.dconst0) .l < (0 : Int32)) (hf_x2 : Fl.Fin64 x2) (hn_x2 : ¬ cmpValue (FP.dcmp x2 FP.dconst0) .l < (0 : Int32)) :
    MetFree l (⟨"com/example/beliefwire/beliefwire/model/Factor", "<init>", "([I[I[D)V"⟩ : MethodName) (head1 (Jvm.Cond.code (⟨"com/example/beliefwire/beliefwire/model/Factor", "<init>", "([I[I[D)V"⟩ : MethodName) prog_60_method_1_code 5 none :: ws) Rrm_in_03) (fun a U => a = #[(.ref r0), (.ref r1), (.ref r2), (.ref r3)] ∧ Z.Warmed39 U.vm ∧ U.heap = h0) (fun _ _ _ _ _ => True) (fun _ U o U' => ∃ v L, o = .returned v ∧ Q_in_03 Z r0 k_r2 k_r3 x0 x1 x2 h0 n0 v U'.heap L ∧ FrameEnd U o U' L Rrm_in_03.cells Rrm_in_03.slots) := by
  refine MetFree.of_bodySF (plainFor_of_name pn_2) hisR ?_
  intro p e s m args below meth c s₁ Bd hml0 hP hK
  obtain ⟨rfl, hZ, hh⟩ := hP
  have hx := Bd.exec
  have hby := Bd.bytes
  have hml : c.maxLocals = 5 := hml0
  have hown : s.vm.findClass "com/example/beliefwire/beliefwire/model/Factor" = some m.cls := findClass_of_methodNamed Bd.named
  have hnm := (name_of_methodNamed Bd.named Bd.method).1
  have X0 : Stand p l e Rrm_in_03 s m #[(.ref r0), (.ref r1), (.ref r2), (.ref r3)] below meth c s₁ [] 0 0 := Stand.of_body Bd
  have e0 : s₁.heap = h0 := by rw [← hh, Bd.state]; rfl
  have N0 := Fr.nil n0
  have W := @own_W a0 Z hw
  have pre0 : ∀ t, Steps p.tables e below (s₁.setTop (mkF m 0 #[.val (.ref r0), .val (.ref r1), .val (.ref r2), .val (.ref r3), .unset] [])) t → Steps p.tables e below (s₁.setTop (entryFrame m #[(.ref r0), (.ref r1), (.ref r2), (.ref r3)] 5)) t := fun t k => castTop (ef_rm_in_03 m r0 r1 r2 r3) k
  have ne_r0_r1 : r0 ≠ r1 := by obtain ⟨_, A, -⟩ := id V_r1; exact ne_arr E_r0 (W 5 rfl) A
  have ne_r0_r2 : r0 ≠ r2 := by obtain ⟨_, A, -⟩ := id V_r2; exact ne_arr E_r0 (W 5 rfl) A
  have ne_r0_r3 : r0 ≠ r3 := by obtain ⟨_, A, -⟩ := id V_r3; exact ne_arr E_r0 (W 5 rfl) A
  obtain ⟨T1, X1, e1, st1⟩ := initO X0 hx hZ hown (W 10 rfl) (W 11 rfl) (W 12 rfl) e0 (g := (mkF m 1 #[.val (.ref r0), .val (.ref r1), .val (.ref r2), .val (.ref r3), .unset] [(.ref r0)])) rfl (by rw [hml]; rfl) rfl (hb hby d1_1) (by decide) (W := 0) (own_le rfl) (by decide)
  obtain ⟨_, _, ⟨T2, L2, k2, n2⟩, -, X2, ⟨Lc2, hQ2, l2, y2, z2⟩, st2⟩ := Jvm.LawKit.callS X1 hx (y := (⟨"com/example/beliefwire/beliefwire/model/Factor", "checkScope", "([I[I)V"⟩ : MethodName)) hown (mvT hZ (W 13 rfl)) (mvT hZ (W 14 rfl)) (mvT hZ (W 6 rfl)) (mvT hZ (W 15 rfl)) (by decide) (backOf (W := 0) (rm_cs_0 l Z a0 hw [] r1 r2 (3 : Int32) k_r1 k_r2 h0 n0 Z0 V_r1 E_r1 V_r2 (by decide)) hZ (W 15 rfl) (W 6 rfl) (by decide) (by decide)) (g := (mkF m 6 #[.val (.ref r0), .val (.ref r1), .val (.ref r2), .val (.ref r3), .unset] [(.ref r2), (.ref r1)])) rfl (by rw [hml]; rfl) (argsL := [(.ref r1), (.ref r2)]) (rest := []) (lenOf pd_8 rfl) rfl (own_le rfl) (hb hby d1_6) (fun _ _ => ⟨rfl, e1, (by decide : 0 + 1 ≤ _), (by decide : 0 + 1 ≤ _)⟩)
  dsimp only [Pt.U, Pt.locs, Pt.cells, Pt.slots] at X2 l2 y2 z2 st2 hQ2
  subst l2 y2 z2
  obtain ⟨rfl, N2q, K2⟩ := hQ2
  have N2 := Fr.app N0 N2q
  obtain ⟨LL2, X2, N2⟩ := own_hide X2 N2
  have Z4z : n0 ≤ T2.heap.size := (Nat.le_trans Z0 K2.1)
  have V_r2_5 := (V_r2.keep K2 own_nin0)
  obtain ⟨_, _, ⟨T3, L3, k3, n3⟩, -, X3, ⟨Lc3, hQ3, l3, y3, z3⟩, st3⟩ := Jvm.LawKit.callS X2 hx (y := (⟨"com/example/beliefwire/beliefwire/model/Factor", "tableSize", "([I)J"⟩ : MethodName)) hown (mvT hZ (W 39 rfl)) (mvT hZ (W 40 rfl)) (mvT hZ (W 6 rfl)) (mvT hZ (W 41 rfl)) (by decide) (backOf (W := 0) (rm_ts_0 l Z a0 hw [] r2 (3 : Int32) k_r2 T2.heap n0 Z4z V_r2_5 (by decide)) hZ (W 41 rfl) (W 6 rfl) (by decide) (by decide)) (g := (mkF m 10 #[.val (.ref r0), .val (.ref r1), .val (.ref r2), .val (.ref r3), .unset] [(.ref r2)])) rfl (by rw [hml]; rfl) (argsL := [(.ref r2)]) (rest := []) (lenOf pd_4 rfl) rfl (own_le rfl) (hb hby d1_10) (fun _ _ => ⟨rfl, rfl, (by decide : 1 + 0 ≤ _), (by decide : 1 + 0 ≤ _)⟩)
  dsimp only [Pt.U, Pt.locs, Pt.cells, Pt.slots] at X3 l3 y3 z3 st3 hQ3
  subst l3 y3 z3
  obtain ⟨hv3, N3q, eq3⟩ := hQ3
  rw [show ((1 : Int64) * ((3 : Int32).toInt64)) = (3 : Int64) from by decide] at hv3
  subst hv3
  have N3 := Fr.app N2 N3q
  obtain ⟨LL3, X3, N3⟩ := own_hide X3 N3
  have V_r3_6 := (V_r3.keep K2 own_nin0)
  obtain ⟨cl_r3_7, Ar_r3_7, q_r3_7, S_r3_7, N_r3_7, H_r3_7, G_r3_7⟩ := id V_r3_6
  have Al_r3_7 := State.isArrayOf_alike hZ.alike Ar_r3_7.2.1
  have hin_r3_7_0 : ¬ ((0 : Int32) < 0 ∨ cl_r3_7.slots.size ≤ ((0 : Int32)).toNatClampNeg) := inb_of S_r3_7 ⟨by decide, by decide⟩
  have hat_r3_7_0 : cl_r3_7.slots[((0 : Int32)).toNatClampNeg]? = some (.double x0) := H_r3_7 _ (by rw [S_r3_7]; decide)
  have hin_r3_7_1 : ¬ ((1 : Int32) < 0 ∨ cl_r3_7.slots.size ≤ ((1 : Int32)).toNatClampNeg) := inb_of S_r3_7 ⟨by decide, by decide⟩
  have hat_r3_7_1 : cl_r3_7.slots[((1 : Int32)).toNatClampNeg]? = some (.double x1) := H_r3_7 _ (by rw [S_r3_7]; decide)
  have hin_r3_7_2 : ¬ ((2 : Int32) < 0 ∨ cl_r3_7.slots.size ≤ ((2 : Int32)).toNatClampNeg) := inb_of S_r3_7 ⟨by decide, by decide⟩
  have hat_r3_7_2 : cl_r3_7.slots[((2 : Int32)).toNatClampNeg]? = some (.double x2) := H_r3_7 _ (by rw [S_r3_7]; decide)
  have V_r1_8 := (V_r1.keep K2 own_nin0)
  have E_r1_9 := (E_r1.keep K2)
  have hz10 : h0.size ≤ T2.heap.size := (Nat.le_trans (Nat.le_refl h0.size) K2.1)
  obtain ⟨T11, h11, X11, e11, E11, V11, B11, st11⟩ := cloneH X3 hx hZ hown (W 16 rfl) (W 17 rfl) (W 21 rfl) (W 19 rfl) (W 20 rfl) (W 22 rfl) eq3 (Arv.arh V_r1_8) E_r1_9 (g := (mkF m 96 #[.val (.ref r0), .val (.ref r1), .val (.ref r2), .val (.ref r3), .val (.int (3 : Int32))] [(.ref r1), (.ref r0)])) rfl (by rw [hml]; rfl) rfl (hb hby d1_96) (by decide) (W := 1) (cap := 1) (own_le rfl) (by decide) (by decide) (by decide) (by decide)
  obtain ⟨b11, gg11⟩ : ∃ z, z = T2.heap.size := ⟨_, rfl⟩
  rw [← gg11] at V11 B11 st11
  have g_b11 : n0 ≤ b11 := Nat.le_trans Z4z (Nat.le_of_eq gg11.symm)
  have sz_b11 : h0.size ≤ b11 := Nat.le_trans hz10 (Nat.le_of_eq gg11.symm)
  have V_b11 : Arv Z h11 b11 k_r1 .int (1 : Int32) [(.int (4 : Int32))] (.int (0 : Int32)) := V11
  obtain ⟨T12, X12, e12, st12⟩ := castY X11 hx hZ hown (W 23 rfl) e11 (Ins.self B11) (g := (mkF m 99 #[.val (.ref r0), .val (.ref r1), .val (.ref r2), .val (.ref r3), .val (.int (3 : Int32))] [(.ref b11), (.ref r0)])) rfl rfl (hb hby d1_99)
  have E_r0_13 := ((E_r0.keep K2).ext E11)
  have F_scope_r0_14 := ((F_scope_r0.keep K2 own_nin0).ext E11)
  obtain ⟨T15, h15, X15, e15, W15, st15⟩ := putF X12 hx hZ hown (host := "") (Or.inl (W 44 rfl)) Via.refl e12 F_scope_r0_14 E_r0_13 (Or.inr ⟨(W 45 rfl), rfl, hnm⟩) (W 5 rfl) (ty := (.array .int)) (by decide) rfl rfl (g := (mkF m 102 #[.val (.ref r0), .val (.ref r1), .val (.ref r2), .val (.ref r3), .val (.int (3 : Int32))] [(.ref b11), (.ref r0)])) rfl rfl (hb hby d1_102)
  have Fw15 := F_scope_r0_14.same W15
  have N15 := Fr.snoc X15 N3 g_r0
  obtain ⟨LL15, X15, N15⟩ := own_hide X15 N15
  have V_r2_16 := ((V_r2_5.ext E11).other W15 (Ne.symm ne_r0_r2))
  have E_r2_17 := (((E_r2.keep K2).ext E11).wr W15)
  have Z18z : n0 ≤ h15.size := (Nat.le_trans (Nat.le_trans Z4z E11.1) (Keep.of_wr W15).1)
  have hz19 : h0.size ≤ h15.size := (Nat.le_trans (Nat.le_trans hz10 E11.1) (Keep.of_wr W15).1)
  obtain ⟨T20, h20, X20, e20, E20, V20, B20, st20⟩ := cloneH X15 hx hZ hown (W 16 rfl) (W 17 rfl) (W 21 rfl) (W 19 rfl) (W 20 rfl) (W 22 rfl) e15 (Arv.arh V_r2_16) E_r2_17 (g := (mkF m 107 #[.val (.ref r0), .val (.ref r1), .val (.ref r2), .val (.ref r3), .val (.int (3 : Int32))] [(.ref r2), (.ref r0)])) rfl (by rw [hml]; rfl) rfl (hb hby d1_107) (by decide) (W := 1) (cap := 1) (own_le rfl) (by decide) (by decide) (by decide) (by decide)
  obtain ⟨b20, gg20⟩ : ∃ z, z = h15.size := ⟨_, rfl⟩
  rw [← gg20] at V20 B20 st20
  have g_b20 : n0 ≤ b20 := Nat.le_trans Z18z (Nat.le_of_eq gg20.symm)
  have sz_b20 : h0.size ≤ b20 := Nat.le_trans hz19 (Nat.le_of_eq gg20.symm)
  have V_b20 : Arv Z h20 b20 k_r2 .int (1 : Int32) [(.int (3 : Int32))] (.int (0 : Int32)) := V20
  obtain ⟨T21, X21, e21, st21⟩ := castY X20 hx hZ hown (W 23 rfl) e20 (Ins.self B20) (g := (mkF m 110 #[.val (.ref r0), .val (.ref r1), .val (.ref r2), .val (.ref r3), .val (.int (3 : Int32))] [(.ref b20), (.ref r0)])) rfl rfl (hb hby d1_110)
  have E_r0_22 := ((E_r0_13.wr W15).ext E20)
  have F_cardinalities_r0_23 := ((((F_cardinalities_r0.keep K2 own_nin0).ext E11).other W15 (Or.inr (slot_ne (Or.inr (W 47 rfl)) (Or.inr (W 45 rfl)) (by decide) (t := (.array .int)) (t' := (.array .int)) (by decide) (by decide)))).ext E20)
  obtain ⟨T24, h24, X24, e24, W24, st24⟩ := putF X21 hx hZ hown (host := "") (Or.inl (W 46 rfl)) Via.refl e21 F_cardinalities_r0_23 E_r0_22 (Or.inr ⟨(W 47 rfl), rfl, hnm⟩) (W 5 rfl) (ty := (.array .int)) (by decide) rfl rfl (g := (mkF m 113 #[.val (.ref r0), .val (.ref r1), .val (.ref r2), .val (.ref r3), .val (.int (3 : Int32))] [(.ref b20), (.ref r0)])) rfl rfl (hb hby d1_113)
  have Fw24 := F_cardinalities_r0_23.same W24
  have N24 := Fr.snoc X24 N15 g_r0
  obtain ⟨LL24, X24, N24⟩ := own_hide X24 N24
  have V_r3_25 := ((((V_r3_6.ext E11).other W15 (Ne.symm ne_r0_r3)).ext E20).other W24 (Ne.symm ne_r0_r3))
  have E_r3_26 := (((((E_r3.keep K2).ext E11).wr W15).ext E20).wr W24)
  have Z27z : n0 ≤ h24.size := (Nat.le_trans (Nat.le_trans Z18z E20.1) (Keep.of_wr W24).1)
  have hz28 : h0.size ≤ h24.size := (Nat.le_trans (Nat.le_trans hz19 E20.1) (Keep.of_wr W24).1)
  obtain ⟨T29, h29, X29, e29, E29, V29, B29, st29⟩ := cloneH X24 hx hZ hown (W 48 rfl) (W 49 rfl) (W 21 rfl) (W 19 rfl) (W 50 rfl) (W 51 rfl) e24 (Arv.arh V_r3_25) E_r3_26 (g := (mkF m 118 #[.val (.ref r0), .val (.ref r1), .val (.ref r2), .val (.ref r3), .val (.int (3 : Int32))] [(.ref r3), (.ref r0)])) rfl (by rw [hml]; rfl) rfl (hb hby d1_118) (by decide) (W := 1) (cap := 3) (own_le rfl) (by decide) (by decide) (by decide) (by decide)
  obtain ⟨b29, gg29⟩ : ∃ z, z = h24.size := ⟨_, rfl⟩
  rw [← gg29] at V29 B29 st29
  have g_b29 : n0 ≤ b29 := Nat.le_trans Z27z (Nat.le_of_eq gg29.symm)
  have sz_b29 : h0.size ≤ b29 := Nat.le_trans hz28 (Nat.le_of_eq gg29.symm)
  have V_b29 : Arv Z h29 b29 k_r3 .double (3 : Int32) [(.double x0), (.double x1), (.double x2)] (.double (0 : UInt64)) := V29
  obtain ⟨T30, X30, e30, st30⟩ := castY X29 hx hZ hown (W 52 rfl) e29 (Ins.self B29) (g := (mkF m 121 #[.val (.ref r0), .val (.ref r1), .val (.ref r2), .val (.ref r3), .val (.int (3 : Int32))] [(.ref b29), (.ref r0)])) rfl rfl (hb hby d1_121)
  have E_r0_31 := ((E_r0_22.wr W24).ext E29)
  have F_entries_r0_32 := ((((((F_entries_r0.keep K2 own_nin0).ext E11).other W15 (Or.inr (slot_ne (Or.inr (W 55 rfl)) (Or.inr (W 45 rfl)) (by decide) (t := (.array .double)) (t' := (.array .int)) (by decide) (by decide)))).ext E20).other W24 (Or.inr (slot_ne (Or.inr (W 55 rfl)) (Or.inr (W 47 rfl)) (by decide) (t := (.array .double)) (t' := (.array .int)) (by decide) (by decide)))).ext E29)
  obtain ⟨T33, h33, X33, e33, W33, st33⟩ := putF X30 hx hZ hown (host := "") (Or.inl (W 54 rfl)) Via.refl e30 F_entries_r0_32 E_r0_31 (Or.inr ⟨(W 55 rfl), rfl, hnm⟩) (W 5 rfl) (ty := (.array .double)) (by decide) rfl rfl (g := (mkF m 124 #[.val (.ref r0), .val (.ref r1), .val (.ref r2), .val (.ref r3), .val (.int (3 : Int32))] [(.ref b29), (.ref r0)])) rfl rfl (hb hby d1_124)
  have Fw33 := F_entries_r0_32.same W33
  have N33 := Fr.snoc X33 N24 g_r0
  obtain ⟨LL33, X33, N33⟩ := own_hide X33 N33
  have KK34 : Keep h0 h33 [r0] := ((((((((Keep.refl h0 [r0]).trans K2 (own_in0)).ext E11).wr W15 (Or.inl (List.mem_of_getElem? (i := 0) rfl))).ext E20).wr W24 (Or.inl (List.mem_of_getElem? (i := 0) rfl))).ext E29).wr W33 (Or.inl (List.mem_of_getElem? (i := 0) rfl)))
  have E_r0_35 := (E_r0_31.wr W33)
  have Fw24_36 := ((Fw24.ext E29).other W33 (Or.inr (slot_ne (Or.inr (W 47 rfl)) (Or.inr (W 55 rfl)) (by decide) (t := (.array .int)) (t' := (.array .double)) (by decide) (by decide))))
  have B20_37 := (((B20.wr W24).ext E29).wr W33)
  have ne_r0_b20 : r0 ≠ b20 := Nat.ne_of_lt (Nat.lt_of_lt_of_le (Nat.lt_of_lt_of_le (E_r0_13).lt (Keep.of_wr W15).1) (Nat.le_of_eq gg20.symm))
  have V_b20_38 := (((V_b20.other W24 (Ne.symm ne_r0_b20)).ext E29).other W33 (Ne.symm ne_r0_b20))
  have ne_r0_b29 : r0 ≠ b29 := Nat.ne_of_lt (Nat.lt_of_lt_of_le (Nat.lt_of_lt_of_le (E_r0_22).lt (Keep.of_wr W24).1) (Nat.le_of_eq gg29.symm))
  have V_b29_39 := (V_b29.other W33 (Ne.symm ne_r0_b29))
  obtain ⟨fs, hr, hrun, hended, hW, hsame⟩ := X33.leave (v := none) (fun _ => rfl)
  refine ⟨_, _, pre0 _ ?_, hrun, hended, _, _, rfl, ?_, ⟨_, rfl⟩, hW, hsame.mono (by decide) (by decide)⟩
  · show Steps p.tables e below (s₁.setTop (mkF m 0 #[.val (.ref r0), .val (.ref r1), .val (.ref r2), .val (.ref r3), .unset] [])) _
    refine XS.aloadN X0.here hx rfl (hb hby d1_0) rfl rfl ?_
    refine st1 _ ?_
    refine XS.aloadN X1.here hx rfl (hb hby d1_4) rfl rfl ?_
    refine XS.aloadN X1.here hx rfl (hb hby d1_5) rfl rfl ?_
    refine st2 _ ?_
    refine XS.aloadN X2.here hx rfl (hb hby d1_9) rfl rfl ?_
    refine st3 _ ?_
    refine XS.aloadN X3.here hx rfl (hb hby d1_13) rfl rfl ?_
    refine X3.arraylength hx (by rw [eq3]; exact Ar_r3_7.1) Al_r3_7 (g := (mkF m 14 #[.val (.ref r0), .val (.ref r1), .val (.ref r2), .val (.ref r3), .unset] [(.ref r3), (.long (3 : Int64))])) rfl rfl (hb hby d1_14) _ ?_
    rw [len_of S_r3_7 N_r3_7]
    refine XS.i2l X3.here hx rfl (hb hby d1_15) rfl ?_
    show Steps p.tables e below (T3.setTop (mkF m 16 #[.val (.ref r0), .val (.ref r1), .val (.ref r2), .val (.ref r3), .unset] [(.long ((3 : Int32).toInt64)), (.long (3 : Int64))])) _
    rw [show ((3 : Int32).toInt64) = (3 : Int64) from (by decide)]
    refine XS.lcmp X3.here hx rfl (hb hby d1_16) rfl ?_
    refine XS.ifYes X3.here hx rfl (pc0 := 17) (pc' := 39) rfl (hb hby d1_17) rfl ((if0 _ _).trans (teq ((lw_eq _ _).mpr (by decide : (3 : Int64) = (3 : Int64)))).1) (by decide) (by decide) ?_
    refine XS.iconst X3.here hx rfl (hb hby d1_39) ?_
    refine XS.istore X3.here hx rfl (hb hby d1_40) rfl (l' := #[.val (.ref r0), .val (.ref r1), .val (.ref r2), .val (.ref r3), .val (.int (0 : Int32))]) rfl ?_
    refine XS.iload X3.here hx rfl (hb hby d1_42) rfl ?_
    refine XS.aloadN X3.here hx rfl (hb hby d1_44) rfl rfl ?_
    refine X3.arraylength hx (by rw [eq3]; exact Ar_r3_7.1) Al_r3_7 (g := (mkF m 45 #[.val (.ref r0), .val (.ref r1), .val (.ref r2), .val (.ref r3), .val (.int (0 : Int32))] [(.ref r3), (.int (0 : Int32))])) rfl rfl (hb hby d1_45) _ ?_
    rw [len_of S_r3_7 N_r3_7]
    refine XS.icmpNo X3.here hx rfl (hb hby d1_46) rfl (tlt (by decide : (0 : Int32) < (3 : Int32))).2.1 ?_
    refine XS.aloadN X3.here hx rfl (hb hby d1_49) rfl rfl ?_
    refine XS.iload X3.here hx rfl (hb hby d1_50) rfl ?_
    refine X3.daload hx (j := (0 : Int32)) (v := (.double x0)) (by rw [eq3]; exact Ar_r3_7.1) Al_r3_7 Ar_r3_7.2.2 hin_r3_7_0 hat_r3_7_0 (g := (mkF m 52 #[.val (.ref r0), .val (.ref r1), .val (.ref r2), .val (.ref r3), .val (.int (0 : Int32))] [(.int (0 : Int32)), (.ref r3)])) rfl rfl (hb hby d1_52) _ ?_
    refine XS.dconst0 X3.here hx rfl (hb hby d1_53) rfl ?_
    refine XS.dcmpS X3.here hx rfl (hb hby d1_54) rfl rfl ?_
    refine XS.ifNo X3.here hx rfl (hb hby d1_55) rfl ((if0 _ _).trans (flt hn_x0).1) ?_
    refine XS.aloadN X3.here hx rfl (hb hby d1_58) rfl rfl ?_
    refine XS.iload X3.here hx rfl (hb hby d1_59) rfl ?_
    refine X3.daload hx (j := (0 : Int32)) (v := (.double x0)) (by rw [eq3]; exact Ar_r3_7.1) Al_r3_7 Ar_r3_7.2.2 hin_r3_7_0 hat_r3_7_0 (g := (mkF m 61 #[.val (.ref r0), .val (.ref r1), .val (.ref r2), .val (.ref r3), .val (.int (0 : Int32))] [(.int (0 : Int32)), (.ref r3)])) rfl rfl (hb hby d1_61) _ ?_
    refine X3.ldc2DoubleC hx hown (mvT hZ (W 43 rfl)) (g := (mkF m 62 #[.val (.ref r0), .val (.ref r1), .val (.ref r2), .val (.ref r3), .val (.int (0 : Int32))] [(.double x0)])) rfl (hb hby d1_62) _ ?_
    refine XS.dcmpS X3.here hx rfl (hb hby d1_65) rfl rfl ?_
    refine XS.ifYes X3.here hx rfl (pc0 := 66) (pc' := 88) rfl (hb hby d1_66) rfl ((if0 _ _).trans (tlt (own_pinf hf_x0)).1) (by decide) (by decide) ?_
    refine XS.iinc X3.here hx rfl (hb hby d1_88) rfl (l' := #[.val (.ref r0), .val (.ref r1), .val (.ref r2), .val (.ref r3), .val (.int ((0 : Int32) + (1 : Int32)))]) rfl ?_
    show Steps p.tables e below (T3.setTop (mkF m 91 #[.val (.ref r0), .val (.ref r1), .val (.ref r2), .val (.ref r3), .val (.int ((0 : Int32) + (1 : Int32)))] [])) _
    rw [show ((0 : Int32) + (1 : Int32)) = (1 : Int32) from (by decide)]
    refine XS.goto X3.here hx rfl (pc0 := 91) (pc' := 42) rfl (hb hby d1_91) (by decide) (by decide) ?_
    refine XS.iload X3.here hx rfl (hb hby d1_42) rfl ?_
    refine XS.aloadN X3.here hx rfl (hb hby d1_44) rfl rfl ?_
    refine X3.arraylength hx (by rw [eq3]; exact Ar_r3_7.1) Al_r3_7 (g := (mkF m 45 #[.val (.ref r0), .val (.ref r1), .val (.ref r2), .val (.ref r3), .val (.int (1 : Int32))] [(.ref r3), (.int (1 : Int32))])) rfl rfl (hb hby d1_45) _ ?_
    rw [len_of S_r3_7 N_r3_7]
    refine XS.icmpNo X3.here hx rfl (hb hby d1_46) rfl (tlt (by decide : (1 : Int32) < (3 : Int32))).2.1 ?_
    refine XS.aloadN X3.here hx rfl (hb hby d1_49) rfl rfl ?_
    refine XS.iload X3.here hx rfl (hb hby d1_50) rfl ?_
    refine X3.daload hx (j := (1 : Int32)) (v := (.double x1)) (by rw [eq3]; exact Ar_r3_7.1) Al_r3_7 Ar_r3_7.2.2 hin_r3_7_1 hat_r3_7_1 (g := (mkF m 52 #[.val (.ref r0), .val (.ref r1), .val (.ref r2), .val (.ref r3), .val (.int (1 : Int32))] [(.int (1 : Int32)), (.ref r3)])) rfl rfl (hb hby d1_52) _ ?_
    refine XS.dconst0 X3.here hx rfl (hb hby d1_53) rfl ?_
    refine XS.dcmpS X3.here hx rfl (hb hby d1_54) rfl rfl ?_
    refine XS.ifNo X3.here hx rfl (hb hby d1_55) rfl ((if0 _ _).trans (flt hn_x1).1) ?_
    refine XS.aloadN X3.here hx rfl (hb hby d1_58) rfl rfl ?_
    refine XS.iload X3.here hx rfl (hb hby d1_59) rfl ?_
    refine X3.daload hx (j := (1 : Int32)) (v := (.double x1)) (by rw [eq3]; exact Ar_r3_7.1) Al_r3_7 Ar_r3_7.2.2 hin_r3_7_1 hat_r3_7_1 (g := (mkF m 61 #[.val (.ref r0), .val (.ref r1), .val (.ref r2), .val (.ref r3), .val (.int (1 : Int32))] [(.int (1 : Int32)), (.ref r3)])) rfl rfl (hb hby d1_61) _ ?_
    refine X3.ldc2DoubleC hx hown (mvT hZ (W 43 rfl)) (g := (mkF m 62 #[.val (.ref r0), .val (.ref r1), .val (.ref r2), .val (.ref r3), .val (.int (1 : Int32))] [(.double x1)])) rfl (hb hby d1_62) _ ?_
    refine XS.dcmpS X3.here hx rfl (hb hby d1_65) rfl rfl ?_
    refine XS.ifYes X3.here hx rfl (pc0 := 66) (pc' := 88) rfl (hb hby d1_66) rfl ((if0 _ _).trans (tlt (own_pinf hf_x1)).1) (by decide) (by decide) ?_
    refine XS.iinc X3.here hx rfl (hb hby d1_88) rfl (l' := #[.val (.ref r0), .val (.ref r1), .val (.ref r2), .val (.ref r3), .val (.int ((1 : Int32) + (1 : Int32)))]) rfl ?_
    show Steps p.tables e below (T3.setTop (mkF m 91 #[.val (.ref r0), .val (.ref r1), .val (.ref r2), .val (.ref r3), .val (.int ((1 : Int32) + (1 : Int32)))] [])) _
    rw [show ((1 : Int32) + (1 : Int32)) = (2 : Int32) from (by decide)]
    refine XS.goto X3.here hx rfl (pc0 := 91) (pc' := 42) rfl (hb hby d1_91) (by decide) (by decide) ?_
    refine XS.iload X3.here hx rfl (hb hby d1_42) rfl ?_
    refine XS.aloadN X3.here hx rfl (hb hby d1_44) rfl rfl ?_
    refine X3.arraylength hx (by rw [eq3]; exact Ar_r3_7.1) Al_r3_7 (g := (mkF m 45 #[.val (.ref r0), .val (.ref r1), .val (.ref r2), .val (.ref r3), .val (.int (2 : Int32))] [(.ref r3), (.int (2 : Int32))])) rfl rfl (hb hby d1_45) _ ?_
    rw [len_of S_r3_7 N_r3_7]
    refine XS.icmpNo X3.here hx rfl (hb hby d1_46) rfl (tlt (by decide : (2 : Int32) < (3 : Int32))).2.1 ?_
    refine XS.aloadN X3.here hx rfl (hb hby d1_49) rfl rfl ?_
    refine XS.iload X3.here hx rfl (hb hby d1_50) rfl ?_
    refine X3.daload hx (j := (2 : Int32)) (v := (.double x2)) (by rw [eq3]; exact Ar_r3_7.1) Al_r3_7 Ar_r3_7.2.2 hin_r3_7_2 hat_r3_7_2 (g := (mkF m 52 #[.val (.ref r0), .val (.ref r1), .val (.ref r2), .val (.ref r3), .val (.int (2 : Int32))] [(.int (2 : Int32)), (.ref r3)])) rfl rfl (hb hby d1_52) _ ?_
    refine XS.dconst0 X3.here hx rfl (hb hby d1_53) rfl ?_
    refine XS.dcmpS X3.here hx rfl (hb hby d1_54) rfl rfl ?_
    refine XS.ifNo X3.here hx rfl (hb hby d1_55) rfl ((if0 _ _).trans (flt hn_x2).1) ?_
    refine XS.aloadN X3.here hx rfl (hb hby d1_58) rfl rfl ?_
    refine XS.iload X3.here hx rfl (hb hby d1_59) rfl ?_
    refine X3.daload hx (j := (2 : Int32)) (v := (.double x2)) (by rw [eq3]; exact Ar_r3_7.1) Al_r3_7 Ar_r3_7.2.2 hin_r3_7_2 hat_r3_7_2 (g := (mkF m 61 #[.val (.ref r0), .val (.ref r1), .val (.ref r2), .val (.ref r3), .val (.int (2 : Int32))] [(.int (2 : Int32)), (.ref r3)])) rfl rfl (hb hby d1_61) _ ?_
    refine X3.ldc2DoubleC hx hown (mvT hZ (W 43 rfl)) (g := (mkF m 62 #[.val (.ref r0), .val (.ref r1), .val (.ref r2), .val (.ref r3), .val (.int (2 : Int32))] [(.double x2)])) rfl (hb hby d1_62) _ ?_
    refine XS.dcmpS X3.here hx rfl (hb hby d1_65) rfl rfl ?_
    refine XS.ifYes X3.here hx rfl (pc0 := 66) (pc' := 88) rfl (hb hby d1_66) rfl ((if0 _ _).trans (tlt (own_pinf hf_x2)).1) (by decide) (by decide) ?_
    refine XS.iinc X3.here hx rfl (hb hby d1_88) rfl (l' := #[.val (.ref r0), .val (.ref r1), .val (.ref r2), .val (.ref r3), .val (.int ((2 : Int32) + (1 : Int32)))]) rfl ?_
    show Steps p.tables e below (T3.setTop (mkF m 91 #[.val (.ref r0), .val (.ref r1), .val (.ref r2), .val (.ref r3), .val (.int ((2 : Int32) + (1 : Int32)))] [])) _
    rw [show ((2 : Int32) + (1 : Int32)) = (3 : Int32) from (by decide)]
    refine XS.goto X3.here hx rfl (pc0 := 91) (pc' := 42) rfl (hb hby d1_91) (by decide) (by decide) ?_
    refine XS.iload X3.here hx rfl (hb hby d1_42) rfl ?_
    refine XS.aloadN X3.here hx rfl (hb hby d1_44) rfl rfl ?_
    refine X3.arraylength hx (by rw [eq3]; exact Ar_r3_7.1) Al_r3_7 (g := (mkF m 45 #[.val (.ref r0), .val (.ref r1), .val (.ref r2), .val (.ref r3), .val (.int (3 : Int32))] [(.ref r3), (.int (3 : Int32))])) rfl rfl (hb hby d1_45) _ ?_
    rw [len_of S_r3_7 N_r3_7]
    refine XS.icmpYes X3.here hx rfl (pc0 := 46) (pc' := 94) rfl (hb hby d1_46) rfl (flt (by decide : ¬ ((3 : Int32) < (3 : Int32)))).2.1 (by decide) (by decide) ?_
    refine XS.aloadN X3.here hx rfl (hb hby d1_94) rfl rfl ?_
    refine XS.aloadN X3.here hx rfl (hb hby d1_95) rfl rfl ?_
    refine st11 _ ?_
    refine st12 _ ?_
    refine st15 _ ?_
    refine XS.aloadN X15.here hx rfl (hb hby d1_105) rfl rfl ?_
    refine XS.aloadN X15.here hx rfl (hb hby d1_106) rfl rfl ?_
    refine st20 _ ?_
    refine st21 _ ?_
    refine st24 _ ?_
    refine XS.aloadN X24.here hx rfl (hb hby d1_116) rfl rfl ?_
    refine XS.aloadN X24.here hx rfl (hb hby d1_117) rfl rfl ?_
    refine st29 _ ?_
    refine st30 _ ?_
    refine st33 _ ?_
    show Steps p.tables e below (T33.setTop (mkF m 127 #[.val (.ref r0), .val (.ref r1), .val (.ref r2), .val (.ref r3), .val (.int (3 : Int32))] [])) _
    exact X33.returnOut hx Bd.returns (hb hby d1_127) hr
  · show Q_in_03 Z r0 k_r2 k_r3 x0 x1 x2 h0 n0 _ T33.heap _
    rw [e33]
    exact ⟨rfl, N33, KK34, E_r0_35, b20, b29, Fw24_36, Fw33, B20_37, V_b20_38, V_b29_39⟩
abbrev Rrm_ca_1 : Room := ({ frames := 1, cells := 1, slots := 2, locals := 14 } : Room)
theorem ef_rm_ca_1 (m : MethodId) (r0 : Addr) : entryFrame m #[(.ref r0)] 1 = mkF m 0 #[.val (.ref r0)] [] := by first | (simp [entryFrame, mkF, argsToLocals, Value.category]; done) | rfl
def Q_ca_1 (Z : State) (pc : Int32) (k_rc : ClassId) (h0 : Heap) (n0 : Nat) (v : Option Value) (h : Heap) (L : List Loc) : Prop := (∃ b : Addr, v = some (.ref b) ∧ Arv Z h b k_rc .int (2 : Int32) [(.int (2 : Int32)), (.int pc)] (.int (0 : Int32))) ∧ Fr n0 L ∧ Keep h0 h []
set_option maxRecDepth 65536 in
set_option maxHeartbeats 40000000 in
theorem rm_ca_1 (l : Launch) (Z : State) (a0 : Array Value) (hw : ∀ d ∈ tables_1, d.before a0 Z = true) (ws : List Jvm.Cond) (r0 : Addr) (rc : Addr) (pc : Int32) (k_rc : ClassId) (h0 : Heap) (n0 : Nat) (Z0 : n0 ≤ h0.size) (F_cardinalities_r0 : Fld Z h0 r0 "com/example/beliefwire/beliefwire/model/Factor" "cardinalities" "[I" (.ref rc)) (V_rc : Arv Z h0 rc k_rc .int (2 : Int32) [(.int (2 : Int32)), (.int pc)] (.int (0 : Int32))) (E_rc : Exa Z h0 rc "[I") :
    MetFree l (⟨"com/example/beliefwire/beliefwire/model/Factor", "cardinalities", "()[I"⟩ : MethodName) (head1 (Jvm.Cond.code (⟨"com/example/beliefwire/beliefwire/model/Factor", "cardinalities", "()[I"⟩ : MethodName) prog_60_method_5_code 1 (some (.array .int)) :: ws) Rrm_ca_1) (fun a U => a = #[(.ref r0)] ∧ Z.Warmed39 U.vm ∧ U.heap = h0) (fun _ _ _ _ _ => True) (fun _ U o U' => ∃ v L, o = .returned v ∧ Q_ca_1 Z pc k_rc h0 n0 v U'.heap L ∧ FrameEnd U o U' L Rrm_ca_1.cells Rrm_ca_1.slots) := by
  refine MetFree.of_bodySF (plainFor_of_name pn_2) hisR ?_
  intro p e s m args below meth c s₁ Bd hml0 hP hK
  obtain ⟨rfl, hZ, hh⟩ := hP
  have hx := Bd.exec
  have hby := Bd.bytes
  have hml : c.maxLocals = 1 := hml0
  have hown : s.vm.findClass "com/example/beliefwire/beliefwire/model/Factor" = some m.cls := findClass_of_methodNamed Bd.named
  have hnm := (name_of_methodNamed Bd.named Bd.method).1
  have X0 : Stand p l e Rrm_ca_1 s m #[(.ref r0)] below meth c s₁ [] 0 0 := Stand.of_body Bd
  have e0 : s₁.heap = h0 := by rw [← hh, Bd.state]; rfl
  have N0 := Fr.nil n0
  have W := @own_W a0 Z hw
  have pre0 : ∀ t, Steps p.tables e below (s₁.setTop (mkF m 0 #[.val (.ref r0)] [])) t → Steps p.tables e below (s₁.setTop (entryFrame m #[(.ref r0)] 1)) t := fun t k => castTop (ef_rm_ca_1 m r0) k
  obtain ⟨T1, X1, e1, st1⟩ := getF X0 hx hZ hown (host := "") (Or.inl (W 46 rfl)) Via.refl e0 F_cardinalities_r0 (g := (mkF m 1 #[.val (.ref r0)] [(.ref r0)])) rfl rfl (hb hby d10_1)
  obtain ⟨T2, h2, X2, e2, E2, V2, B2, st2⟩ := cloneH X1 hx hZ hown (W 16 rfl) (W 17 rfl) (W 21 rfl) (W 19 rfl) (W 20 rfl) (W 22 rfl) e1 (Arv.arh V_rc) E_rc (g := (mkF m 4 #[.val (.ref r0)] [(.ref rc)])) rfl (by rw [hml]; rfl) rfl (hb hby d10_4) (by decide) (W := 0) (cap := 2) (own_le rfl) (by decide) (by decide) (by decide) (by decide)
  obtain ⟨b2, gg2⟩ : ∃ z, z = h0.size := ⟨_, rfl⟩
  rw [← gg2] at V2 B2 st2
  have g_b2 : n0 ≤ b2 := Nat.le_trans Z0 (Nat.le_of_eq gg2.symm)
  have sz_b2 : h0.size ≤ b2 := Nat.le_trans (Nat.le_refl h0.size) (Nat.le_of_eq gg2.symm)
  have V_b2 : Arv Z h2 b2 k_rc .int (2 : Int32) [(.int (2 : Int32)), (.int pc)] (.int (0 : Int32)) := V2
  obtain ⟨T3, X3, e3, st3⟩ := castY X2 hx hZ hown (W 23 rfl) e2 (Ins.self B2) (g := (mkF m 7 #[.val (.ref r0)] [(.ref b2)])) rfl rfl (hb hby d10_7)
  have KK4 : Keep h0 h2 [] := ((Keep.refl h0 []).ext E2)
  obtain ⟨fs, hr, hrun, hended, hW, hsame⟩ := X3.leave (v := some (.ref b2)) (fun h => by rw [Bd.returns] at h; cases h)
  refine ⟨_, _, pre0 _ ?_, hrun, hended, _, _, rfl, ?_, ⟨_, rfl⟩, hW, hsame.mono (by decide) (by decide)⟩
  · show Steps p.tables e below (s₁.setTop (mkF m 0 #[.val (.ref r0)] [])) _
    refine XS.aloadN X0.here hx rfl (hb hby d10_0) rfl rfl ?_
    refine st1 _ ?_
    refine st2 _ ?_
    refine st3 _ ?_
    show Steps p.tables e below (T3.setTop (mkF m 10 #[.val (.ref r0)] [(.ref b2)])) _
    jvm_step X3.here [X3.here.top, hx, (hb hby d10_10), X3.method', Bd.returns, Value.isRef, FieldType.isReference]
    first | (intro acts; rw [hr _ acts rfl rfl rfl]) | rw [hr _ _ rfl rfl rfl]
    exact Steps.refl _
  · show Q_ca_1 Z pc k_rc h0 n0 _ T3.heap _
    rw [e3]
    exact ⟨⟨b2, rfl, V_b2⟩, N0, KK4⟩
abbrev Rrm_es_1_2 : Room := ({ frames := 1, cells := 1, slots := 1, locals := 15 } : Room)
theorem ef_rm_es_1_2 (m : MethodId) (r0 : Addr) : entryFrame m #[(.ref r0), (.int (0 : Int32)), (.int (1 : Int32))] 5 = mkF m 0 #[.val (.ref r0), .val (.int (0 : Int32)), .val (.int (1 : Int32)), .unset, .unset] [] := by first | (simp [entryFrame, mkF, argsToLocals, Value.category]; done) | rfl
def Q_es_1_2 (Z : State) (x0 : UInt64) (x1 : UInt64) (h0 : Heap) (n0 : Nat) (v : Option Value) (h : Heap) (L : List Loc) : Prop := (∃ (b : Addr) (kb : ClassId), v = some (.ref b) ∧ Arv Z h b kb .double (1 : Int32) [(.double x0)] (.double (0 : UInt64))) ∧ Fr n0 L ∧ Keep h0 h []
set_option maxRecDepth 65536 in
set_option maxHeartbeats 40000000 in
theorem rm_es_1_2 (l : Launch) (Z : State) (a0 : Array Value) (hw : ∀ d ∈ tables_1, d.before a0 Z = true) (ws : List Jvm.Cond) (r0 : Addr) (re : Addr) (x0 : UInt64) (x1 : UInt64) (k_re : ClassId) (h0 : Heap) (n0 : Nat) (Z0 : n0 ≤ h0.size) (E_r0 : Exa Z h0 r0 "com/example/beliefwire/beliefwire/model/Factor") (F_entries_r0 : Fld Z h0 r0 "com/example/beliefwire/beliefwire/model/Factor" "entries" "[D" (.ref re)) (V_re : Arv Z h0 re k_re .double (2 : Int32) [(.double x0), (.double x1)] (.double (0 : UInt64))) :
    MetFree l (⟨"com/example/beliefwire/beliefwire/io/NoisyMax", "entries", "(Lcom/example/beliefwire/beliefwire/model/Factor;II)[D"⟩ : MethodName) (head1 (Jvm.Cond.code (⟨"com/example/beliefwire/beliefwire/io/NoisyMax", "entries", "(Lcom/example/beliefwire/beliefwire/model/Factor;II)[D"⟩ : MethodName) prog_40_method_6_code 5 (some (.array .double)) :: ws) Rrm_es_1_2) (fun a U => a = #[(.ref r0), (.int (0 : Int32)), (.int (1 : Int32))] ∧ Z.Warmed39 U.vm ∧ U.heap = h0) (fun _ _ _ _ _ => True) (fun _ U o U' => ∃ v L, o = .returned v ∧ Q_es_1_2 Z x0 x1 h0 n0 v U'.heap L ∧ FrameEnd U o U' L Rrm_es_1_2.cells Rrm_es_1_2.slots) := by
  refine MetFree.of_bodySF (plainFor_of_name pn_3) hisR ?_
  intro p e s m args below meth c s₁ Bd hml0 hP hK
  obtain ⟨rfl, hZ, hh⟩ := hP
  have hx := Bd.exec
  have hby := Bd.bytes
  have hml : c.maxLocals = 5 := hml0
  have hown : s.vm.findClass "com/example/beliefwire/beliefwire/io/NoisyMax" = some m.cls := findClass_of_methodNamed Bd.named
  have hnm := (name_of_methodNamed Bd.named Bd.method).1
  have X0 : Stand p l e Rrm_es_1_2 s m #[(.ref r0), (.int (0 : Int32)), (.int (1 : Int32))] below meth c s₁ [] 0 0 := Stand.of_body Bd
  have e0 : s₁.heap = h0 := by rw [← hh, Bd.state]; rfl
  have N0 := Fr.nil n0
  have W := @own_W a0 Z hw
  have pre0 : ∀ t, Steps p.tables e below (s₁.setTop (mkF m 0 #[.val (.ref r0), .val (.int (0 : Int32)), .val (.int (1 : Int32)), .unset, .unset] [])) t → Steps p.tables e below (s₁.setTop (entryFrame m #[(.ref r0), (.int (0 : Int32)), (.int (1 : Int32))] 5)) t := fun t k => castTop (ef_rm_es_1_2 m r0) k
  obtain ⟨T1, h1, k1, X1, e1, E1, A1, B1, st1⟩ := newPE X0 hx hZ (W 1 rfl) e0 (g := (mkF m 1 #[.val (.ref r0), .val (.int (0 : Int32)), .val (.int (1 : Int32)), .unset, .unset] [(.int (1 : Int32))])) rfl (hb hby d11_1) rfl (by decide) (cap := 1) (by decide) (by decide) (by decide) (by decide) (ad := "[D") (by decide)
  obtain ⟨b1, gg1⟩ : ∃ z, z = h0.size := ⟨_, rfl⟩
  rw [← gg1] at A1 B1 st1
  have g_b1 : n0 ≤ b1 := Nat.le_trans Z0 (Nat.le_of_eq gg1.symm)
  have sz_b1 : h0.size ≤ b1 := Nat.le_trans (Nat.le_refl h0.size) (Nat.le_of_eq gg1.symm)
  have V_b1 : Arv Z h1 b1 k1 .double (1 : Int32) [(.double (0 : UInt64))] (.double (0 : UInt64)) := (Arv.new A1 (by decide)).pad (pad_rep [] (.double (0 : UInt64)) 1)
  have Z3z : n0 ≤ h1.size := (Nat.le_trans Z0 E1.1)
  have V_re_5 := (V_re.ext E1)
  obtain ⟨cl_re_4, Ar_re_4, q_re_4, S_re_4, N_re_4, H_re_4, G_re_4⟩ := id V_re_5
  have hin_re_4 : ¬ ((0 : Int32) < 0 ∨ cl_re_4.slots.size ≤ ((0 : Int32)).toNatClampNeg) := inb_of S_re_4 ⟨by decide, by decide⟩
  have hat_re_4 : cl_re_4.slots[((0 : Int32)).toNatClampNeg]? = some (.double x0) := H_re_4 _ (by rw [S_re_4]; decide)
  have F_entries_r0_6 := (F_entries_r0.ext E1)
  have E_r0_7 := (E_r0.ext E1)
  obtain ⟨cq2, kq2, q2a, q2b, q2c⟩ := isOf hZ e1 E_r0_7
  obtain ⟨_, _, ⟨T2, L2, k2, n2⟩, -, X2, ⟨Lc2, hQ2, l2, y2, z2⟩, st2⟩ := X1.virtualBack hx (y := (⟨"com/example/beliefwire/beliefwire/model/Factor", "entry", "(I)D"⟩ : MethodName)) (z := (⟨"com/example/beliefwire/beliefwire/model/Factor", "entry", "(I)D"⟩ : MethodName)) hown (mvT hZ (W 68 rfl)) (mvT hZ (W 69 rfl)) (notFace_of_selects (args := #[]) (mvT hZ (W 71 rfl))) (mvT hZ (W 71 rfl)) (mvT hZ (W 70 rfl)) (by decide) (backOf (W := 2) (rm_en l Z a0 hw [] r0 (0 : Int32) re cl_re_4 x0 h1 n0 Z3z F_entries_r0_6 Ar_re_4 hin_re_4 hat_re_4) hZ (W 72 rfl) (W 6 rfl) (by decide) (by decide)) q2a q2c (g := (mkF m 21 #[.val (.ref r0), .val (.int (0 : Int32)), .val (.int (1 : Int32)), .val (.ref b1), .val (.int (0 : Int32))] [(.int (0 : Int32)), (.ref r0), (.int (0 : Int32)), (.ref b1)])) rfl (by rw [hml]; rfl) (Steps.refl _) (argsL := [(.int (0 : Int32))]) (rest := [(.int (0 : Int32)), (.ref b1)]) (lenOf pd_5 rfl) rfl (own_le rfl) (hb hby d11_21) (fun _ _ => ⟨rfl, e1, (by decide : 1 + 0 ≤ _), (by decide : 1 + 0 ≤ _)⟩)
  dsimp only [Pt.U, Pt.locs, Pt.cells, Pt.slots] at X2 l2 y2 z2 st2 hQ2
  subst l2 y2 z2
  obtain ⟨rfl, N2q, eq2⟩ := hQ2
  have N2 := Fr.app N0 N2q
  obtain ⟨LL2, X2, N2⟩ := own_hide X2 N2
  obtain ⟨cl_b1_24_8, Ar_b1_24_8, q_b1_24_8, S_b1_24_8, N_b1_24_8, H_b1_24_8, G_b1_24_8⟩ := id V_b1
  have hin_b1_24_8 : ¬ ((0 : Int32) < 0 ∨ cl_b1_24_8.slots.size ≤ ((0 : Int32)).toNatClampNeg) := inb_of S_b1_24_8 ⟨by decide, by decide⟩
  obtain ⟨T9, h9, X9, e9, W9, st9⟩ := stD X2 hx hZ eq2 Ar_b1_24_8 (j := (0 : Int32)) hin_b1_24_8 (g := (mkF m 24 #[.val (.ref r0), .val (.int (0 : Int32)), .val (.int (1 : Int32)), .val (.ref b1), .val (.int (0 : Int32))] [(.double x0), (.int (0 : Int32)), (.ref b1)])) rfl rfl (hb hby d11_24)
  have V_b1_9 := Arv.set Ar_b1_24_8 q_b1_24_8 S_b1_24_8 N_b1_24_8 H_b1_24_8 G_b1_24_8 rfl W9 0 rfl (Nat.le_of_ble_eq_true rfl)
  have N9 := Fr.snoc X9 N2 g_b1
  obtain ⟨LL9, X9, N9⟩ := own_hide X9 N9
  have KK10 : Keep h0 h9 [] := (((Keep.refl h0 []).ext E1).wr W9 (Or.inr sz_b1))
  obtain ⟨fs, hr, hrun, hended, hW, hsame⟩ := X9.leave (v := some (.ref b1)) (fun h => by rw [Bd.returns] at h; cases h)
  refine ⟨_, _, pre0 _ ?_, hrun, hended, _, _, rfl, ?_, ⟨_, rfl⟩, hW, hsame.mono (by decide) (by decide)⟩
  · show Steps p.tables e below (s₁.setTop (mkF m 0 #[.val (.ref r0), .val (.int (0 : Int32)), .val (.int (1 : Int32)), .unset, .unset] [])) _
    refine XS.iloadN X0.here hx rfl (hb hby d11_0) rfl ?_
    refine st1 _ ?_
    refine XS.astoreN X1.here hx rfl (hb hby d11_3) rfl rfl (l' := #[.val (.ref r0), .val (.int (0 : Int32)), .val (.int (1 : Int32)), .val (.ref b1), .unset]) rfl ?_
    refine XS.iconst X1.here hx rfl (hb hby d11_4) ?_
    refine XS.istore X1.here hx rfl (hb hby d11_5) rfl (l' := #[.val (.ref r0), .val (.int (0 : Int32)), .val (.int (1 : Int32)), .val (.ref b1), .val (.int (0 : Int32))]) rfl ?_
    refine XS.iload X1.here hx rfl (hb hby d11_7) rfl ?_
    refine XS.iloadN X1.here hx rfl (hb hby d11_9) rfl ?_
    refine XS.icmpNo X1.here hx rfl (hb hby d11_10) rfl (tlt (by decide : (0 : Int32) < (1 : Int32))).2.1 ?_
    refine XS.aloadN X1.here hx rfl (hb hby d11_13) rfl rfl ?_
    refine XS.iload X1.here hx rfl (hb hby d11_14) rfl ?_
    refine XS.aloadN X1.here hx rfl (hb hby d11_16) rfl rfl ?_
    refine XS.iloadN X1.here hx rfl (hb hby d11_17) rfl ?_
    refine XS.iload X1.here hx rfl (hb hby d11_18) rfl ?_
    refine XS.iadd X1.here hx rfl (hb hby d11_20) rfl ?_
    show Steps p.tables e below (T1.setTop (mkF m 21 #[.val (.ref r0), .val (.int (0 : Int32)), .val (.int (1 : Int32)), .val (.ref b1), .val (.int (0 : Int32))] [(.int ((0 : Int32) + (0 : Int32))), (.ref r0), (.int (0 : Int32)), (.ref b1)])) _
    rw [show ((0 : Int32) + (0 : Int32)) = (0 : Int32) from (by decide)]
    refine st2.trans ?_
    refine st9 _ ?_
    refine XS.iinc X9.here hx rfl (hb hby d11_25) rfl (l' := #[.val (.ref r0), .val (.int (0 : Int32)), .val (.int (1 : Int32)), .val (.ref b1), .val (.int ((0 : Int32) + (1 : Int32)))]) rfl ?_
    show Steps p.tables e below (T9.setTop (mkF m 28 #[.val (.ref r0), .val (.int (0 : Int32)), .val (.int (1 : Int32)), .val (.ref b1), .val (.int ((0 : Int32) + (1 : Int32)))] [])) _
    rw [show ((0 : Int32) + (1 : Int32)) = (1 : Int32) from (by decide)]
    refine XS.goto X9.here hx rfl (pc0 := 28) (pc' := 7) rfl (hb hby d11_28) (by decide) (by decide) ?_
    refine XS.iload X9.here hx rfl (hb hby d11_7) rfl ?_
    refine XS.iloadN X9.here hx rfl (hb hby d11_9) rfl ?_
    refine XS.icmpYes X9.here hx rfl (pc0 := 10) (pc' := 31) rfl (hb hby d11_10) rfl (flt (by decide : ¬ ((1 : Int32) < (1 : Int32)))).2.1 (by decide) (by decide) ?_
    refine XS.aloadN X9.here hx rfl (hb hby d11_31) rfl rfl ?_
    show Steps p.tables e below (T9.setTop (mkF m 32 #[.val (.ref r0), .val (.int (0 : Int32)), .val (.int (1 : Int32)), .val (.ref b1), .val (.int (1 : Int32))] [(.ref b1)])) _
    jvm_step X9.here [X9.here.top, hx, (hb hby d11_32), X9.method', Bd.returns, Value.isRef, FieldType.isReference]
    first | (intro acts; rw [hr _ acts rfl rfl rfl]) | rw [hr _ _ rfl rfl rfl]
    exact Steps.refl _
  · show Q_es_1_2 Z x0 x1 h0 n0 _ T9.heap _
    rw [e9]
    exact ⟨⟨b1, _, rfl, V_b1_9⟩, N9, KK10⟩
abbrev Rrm_lk_11 : Room := ({ frames := 2, cells := 2, slots := 3, locals := 31 } : Room)
theorem ef_rm_lk_11 (m : MethodId) (r0 : Addr) : entryFrame m #[(.ref r0)] 2 = mkF m 0 #[.val (.ref r0), .unset] [] := by first | (simp [entryFrame, mkF, argsToLocals, Value.category]; done) | rfl
def Q_lk_11 (Z : State) (x0 : UInt64) (x1 : UInt64) (h0 : Heap) (n0 : Nat) (v : Option Value) (h : Heap) (L : List Loc) : Prop := (∃ (b : Addr) (kb : ClassId), v = some (.ref b) ∧ Arv Z h b kb .double (1 : Int32) [(.double x0)] (.double (0 : UInt64))) ∧ Fr n0 L ∧ Keep h0 h []
set_option maxRecDepth 65536 in
set_option maxHeartbeats 40000000 in
theorem rm_lk_11 (l : Launch) (Z : State) (a0 : Array Value) (hw : ∀ d ∈ tables_1, d.before a0 Z = true) (ws : List Jvm.Cond) (r0 : Addr) (rc : Addr) (re : Addr) (x0 : UInt64) (x1 : UInt64) (k_rc : ClassId) (k_re : ClassId) (h0 : Heap) (n0 : Nat) (Z0 : n0 ≤ h0.size) (E_r0 : Exa Z h0 r0 "com/example/beliefwire/beliefwire/model/Factor") (F_cardinalities_r0 : Fld Z h0 r0 "com/example/beliefwire/beliefwire/model/Factor" "cardinalities" "[I" (.ref rc)) (V_rc : Arv Z h0 rc k_rc .int (2 : Int32) [(.int (2 : Int32)), (.int (1 : Int32))] (.int (0 : Int32))) (E_rc : Exa Z h0 rc "[I") (F_entries_r0 : Fld Z h0 r0 "com/example/beliefwire/beliefwire/model/Factor" "entries" "[D" (.ref re)) (V_re : Arv Z h0 re k_re .double (2 : Int32) [(.double x0), (.double x1)] (.double (0 : UInt64))) :
    MetFree l (⟨"com/example/beliefwire/beliefwire/io/NoisyMax", "leak", "(Lcom/example/beliefwire/beliefwire/model/Factor;)[D"⟩ : MethodName) (head1 (Jvm.Cond.code (⟨"com/example/beliefwire/beliefwire/io/NoisyMax", "leak", "(Lcom/example/beliefwire/beliefwire/model/Factor;)[D"⟩ : MethodName) prog_40_method_4_code 2 (some (.array .double)) :: ws) Rrm_lk_11) (fun a U => a = #[(.ref r0)] ∧ Z.Warmed39 U.vm ∧ U.heap = h0) (fun _ _ _ _ _ => True) (fun _ U o U' => ∃ v L, o = .returned v ∧ Q_lk_11 Z x0 x1 h0 n0 v U'.heap L ∧ FrameEnd U o U' L Rrm_lk_11.cells Rrm_lk_11.slots) := by
  refine MetFree.of_bodySF (plainFor_of_name pn_3) hisR ?_
  intro p e s m args below meth c s₁ Bd hml0 hP hK
  obtain ⟨rfl, hZ, hh⟩ := hP
  have hx := Bd.exec
  have hby := Bd.bytes
  have hml : c.maxLocals = 2 := hml0
  have hown : s.vm.findClass "com/example/beliefwire/beliefwire/io/NoisyMax" = some m.cls := findClass_of_methodNamed Bd.named
  have hnm := (name_of_methodNamed Bd.named Bd.method).1
  have X0 : Stand p l e Rrm_lk_11 s m #[(.ref r0)] below meth c s₁ [] 0 0 := Stand.of_body Bd
  have e0 : s₁.heap = h0 := by rw [← hh, Bd.state]; rfl
  have N0 := Fr.nil n0
  have W := @own_W a0 Z hw
  have pre0 : ∀ t, Steps p.tables e below (s₁.setTop (mkF m 0 #[.val (.ref r0), .unset] [])) t → Steps p.tables e below (s₁.setTop (entryFrame m #[(.ref r0)] 2)) t := fun t k => castTop (ef_rm_lk_11 m r0) k
  obtain ⟨cq1, kq1, q1a, q1b, q1c⟩ := isOf hZ e0 E_r0
  obtain ⟨_, _, ⟨T1, L1, k1, n1⟩, -, X1, ⟨Lc1, hQ1, l1, y1, z1⟩, st1⟩ := X0.virtualBack hx (y := (⟨"com/example/beliefwire/beliefwire/model/Factor", "cardinalities", "()[I"⟩ : MethodName)) (z := (⟨"com/example/beliefwire/beliefwire/model/Factor", "cardinalities", "()[I"⟩ : MethodName)) hown (mvT hZ (W 60 rfl)) (mvT hZ (W 61 rfl)) (notFace_of_selects (args := #[]) (mvT hZ (W 63 rfl))) (mvT hZ (W 63 rfl)) (mvT hZ (W 62 rfl)) (by decide) (backOf (W := 0) (rm_ca_1 l Z a0 hw [] r0 rc (1 : Int32) k_rc h0 n0 Z0 F_cardinalities_r0 V_rc E_rc) hZ (W 64 rfl) (W 6 rfl) (by decide) (by decide)) q1a q1c (g := (mkF m 1 #[.val (.ref r0), .unset] [(.ref r0)])) rfl (by rw [hml]; rfl) (Steps.refl _) (argsL := []) (rest := []) (lenOf pd_6 rfl) rfl (own_le rfl) (hb hby d9_1) (fun _ _ => ⟨rfl, e0, (by decide : 0 + 1 ≤ _), (by decide : 0 + 2 ≤ _)⟩)
  dsimp only [Pt.U, Pt.locs, Pt.cells, Pt.slots] at X1 l1 y1 z1 st1 hQ1
  subst l1 y1 z1
  obtain ⟨⟨b1, rfl, V1⟩, N1q, K1⟩ := hQ1
  have N1 := Fr.app N0 N1q
  obtain ⟨LL1, X1, N1⟩ := own_hide X1 N1
  obtain ⟨cl_b1_2, Ar_b1_2, q_b1_2, S_b1_2, N_b1_2, H_b1_2, G_b1_2⟩ := id V1
  have Al_b1_2 := State.isArrayOf_alike hZ.alike Ar_b1_2.2.1
  have hin_b1_2_1 : ¬ ((1 : Int32) < 0 ∨ cl_b1_2.slots.size ≤ ((1 : Int32)).toNatClampNeg) := inb_of S_b1_2 ⟨by decide, by decide⟩
  have hat_b1_2_1 : cl_b1_2.slots[((1 : Int32)).toNatClampNeg]? = some (.int (1 : Int32)) := H_b1_2 _ (by rw [S_b1_2]; decide)
  have Z4z : n0 ≤ T1.heap.size := (Nat.le_trans Z0 K1.1)
  have E_r0_5 := (E_r0.keep K1)
  have F_entries_r0_6 := (F_entries_r0.keep K1 own_nin0)
  have V_re_7 := (V_re.keep K1 own_nin0)
  obtain ⟨_, _, ⟨T3, L3, k3, n3⟩, -, X3, ⟨Lc3, hQ3, l3, y3, z3⟩, st3⟩ := Jvm.LawKit.callS X1 hx (y := (⟨"com/example/beliefwire/beliefwire/io/NoisyMax", "entries", "(Lcom/example/beliefwire/beliefwire/model/Factor;II)[D"⟩ : MethodName)) hown (mvT hZ (W 65 rfl)) (mvT hZ (W 66 rfl)) (mvT hZ (W 58 rfl)) (mvT hZ (W 67 rfl)) (by decide) (backOf (W := 0) (rm_es_1_2 l Z a0 hw [] r0 re x0 x1 k_re T1.heap n0 Z4z E_r0_5 F_entries_r0_6 V_re_7) hZ (W 67 rfl) (W 58 rfl) (by decide) (by decide)) (g := (mkF m 13 #[.val (.ref r0), .val (.ref b1)] [(.int (1 : Int32)), (.int (0 : Int32)), (.ref r0)])) rfl (by rw [hml]; rfl) (argsL := [(.ref r0), (.int (0 : Int32)), (.int (1 : Int32))]) (rest := []) (lenOf pd_7 rfl) rfl (own_le rfl) (hb hby d9_13) (fun _ _ => ⟨rfl, rfl, (by decide : 1 + 1 ≤ _), (by decide : 2 + 1 ≤ _)⟩)
  dsimp only [Pt.U, Pt.locs, Pt.cells, Pt.slots] at X3 l3 y3 z3 st3 hQ3
  subst l3 y3 z3
  obtain ⟨⟨b3, kb3, rfl, V3⟩, N3q, K3⟩ := hQ3
  have N3 := Fr.app N1 N3q
  obtain ⟨LL3, X3, N3⟩ := own_hide X3 N3
  have KK8 : Keep h0 T3.heap [] := (((Keep.refl h0 []).trans K1 (own_in0)).trans K3 (own_in0))
  obtain ⟨fs, hr, hrun, hended, hW, hsame⟩ := X3.leave (v := some (.ref b3)) (fun h => by rw [Bd.returns] at h; cases h)
  refine ⟨_, _, pre0 _ ?_, hrun, hended, _, _, rfl, ?_, ⟨_, rfl⟩, hW, hsame.mono (by decide) (by decide)⟩
  · show Steps p.tables e below (s₁.setTop (mkF m 0 #[.val (.ref r0), .unset] [])) _
    refine XS.aloadN X0.here hx rfl (hb hby d9_0) rfl rfl ?_
    refine st1.trans ?_
    refine XS.astoreN X1.here hx rfl (hb hby d9_4) rfl rfl (l' := #[.val (.ref r0), .val (.ref b1)]) rfl ?_
    refine XS.aloadN X1.here hx rfl (hb hby d9_5) rfl rfl ?_
    refine XS.iconst X1.here hx rfl (hb hby d9_6) ?_
    refine XS.aloadN X1.here hx rfl (hb hby d9_7) rfl rfl ?_
    refine XS.aloadN X1.here hx rfl (hb hby d9_8) rfl rfl ?_
    refine X1.arraylength hx Ar_b1_2.1 Al_b1_2 (g := (mkF m 9 #[.val (.ref r0), .val (.ref b1)] [(.ref b1), (.ref b1), (.int (0 : Int32)), (.ref r0)])) rfl rfl (hb hby d9_9) _ ?_
    rw [len_of S_b1_2 N_b1_2]
    refine XS.iconst X1.here hx rfl (hb hby d9_10) ?_
    refine XS.isub X1.here hx rfl (hb hby d9_11) rfl ?_
    show Steps p.tables e below (T1.setTop (mkF m 12 #[.val (.ref r0), .val (.ref b1)] [(.int ((2 : Int32) - (1 : Int32))), (.ref b1), (.int (0 : Int32)), (.ref r0)])) _
    rw [show ((2 : Int32) - (1 : Int32)) = (1 : Int32) from (by decide)]
    refine X1.iaload hx (j := (1 : Int32)) (v := (.int (1 : Int32))) Ar_b1_2.1 Al_b1_2 Ar_b1_2.2.2 hin_b1_2_1 hat_b1_2_1 (g := (mkF m 12 #[.val (.ref r0), .val (.ref b1)] [(.int (1 : Int32)), (.ref b1), (.int (0 : Int32)), (.ref r0)])) rfl rfl (hb hby d9_12) _ ?_
    refine st3 _ ?_
    show Steps p.tables e below (T3.setTop (mkF m 16 #[.val (.ref r0), .val (.ref b1)] [(.ref b3)])) _
    jvm_step X3.here [X3.here.top, hx, (hb hby d9_16), X3.method', Bd.returns, Value.isRef, FieldType.isReference]
    first | (intro acts; rw [hr _ acts rfl rfl rfl]) | rw [hr _ _ rfl rfl rfl]
    exact Steps.refl _
  · show Q_lk_11 Z x0 x1 h0 n0 _ T3.heap _
    exact ⟨⟨b3, _, rfl, V3⟩, N3, KK8⟩
abbrev Rrm_in_11 : Room := ({ frames := 5, cells := 4, slots := 8, locals := 96 } : Room)
theorem ef_rm_in_11 (m : MethodId) (r0 : Addr) (r1 : Addr) (r2 : Addr) (r3 : Addr) : entryFrame m #[(.ref r0), (.ref r1), (.ref r2), (.ref r3)] 5 = mkF m 0 #[.val (.ref r0), .val (.ref r1), .val (.ref r2), .val (.ref r3), .unset] [] := by first | (simp [entryFrame, mkF, argsToLocals, Value.category]; done) | rfl
def Q_in_11 (Z : State) (r0 : Addr) (k_r2 : ClassId) (k_r3 : ClassId) (x0 : UInt64) (x1 : UInt64) (h0 : Heap) (n0 : Nat) (v : Option Value) (h : Heap) (L : List Loc) : Prop := v = none ∧ Fr n0 L ∧ Keep h0 h [r0] ∧ Exa Z h r0 "com/example/beliefwire/beliefwire/model/Factor" ∧ ∃ bc be : Addr, Fld Z h r0 "com/example/beliefwire/beliefwire/model/Factor" "cardinalities" "[I" (.ref bc) ∧ Fld Z h r0 "com/example/beliefwire/beliefwire/model/Factor" "entries" "[D" (.ref be) ∧ Exa Z h bc "[I" ∧ Arv Z h bc k_r2 .int (2 : Int32) [(.int (2 : Int32)), (.int (1 : Int32))] (.int (0 : Int32)) ∧ Arv Z h be k_r3 .double (2 : Int32) [(.double x0), (.double x1)] (.double (0 : UInt64))
set_option maxRecDepth 65536 in
set_option maxHeartbeats 40000000 in
theorem rm_in_11 (l : Launch) (Z : State) (a0 : Array Value) (hw : ∀ d ∈ tables_1, d.before a0 Z = true) (ws : List Jvm.Cond) (r0 : Addr) (r1 : Addr) (r2 : Addr) (r3 : Addr) (x0 : UInt64) (x1 : UInt64) (u_scope_r0 : Value) (u_cardinalities_r0 : Value) (u_entries_r0 : Value) (k_r1 : ClassId) (k_r2 : ClassId) (k_r3 : ClassId) (h0 : Heap) (n0 : Nat) (Z0 : n0 ≤ h0.size) (E_r0 : Exa Z h0 r0 "com/example/beliefwire/beliefwire/model/Factor") (g_r0 : n0 ≤ r0) (F_scope_r0 : Fld Z h0 r0 "com/example/beliefwire/beliefwire/model/Factor" "scope" "[I" u_scope_r0) (F_cardinalities_r0 : Fld Z h0 r0 "com/example/beliefwire/beliefwire/model/Factor" "cardinalities" "[I" u_cardinalities_r0) (F_entries_r0 : Fld Z h0 r0 "com/example/beliefwire/beliefwire/model/Factor" "entries" "[D" u_entries_r0) (V_r1 : Arv Z h0 r1 k_r1 .int (2 : Int32) [(.int (7 : Int32)), (.int (3 : Int32))] (.int (0 : Int32))) (E_r1 : Exa Z h0 r1 "[I") (V_r2 : Arv Z h0 r2 k_r2 .int (2 : Int32) [(.int (2 : Int32)), (.int (1 : Int32))] (.int (0 : Int32))) (E_r2 : Exa Z h0 r2 "[I") (V_r3 : Arv Z h0 r3 k_r3 .double (2 : Int32) [(.double x0), (.double x1)] (.double (0 : UInt64))) (E_r3 : Exa Z h0 r3 "[D") (hf_x0 : Fl.Fin64 x0) (hn_x0 : ¬ cmpValue (FP.dcmp x0 FP.dconst0) .l < (0 : Int32)) (hf_x1 : Fl.Fin64 x1) (hn_x1 : ¬ cmpValue (FP.dcmp x1 FP.dconst0) .l < (0 : Int32)) :
    MetFree l (⟨"com/example/beliefwire/beliefwire/model/Factor", "<init>", "([I[I[D)V"⟩ : MethodName) (head1 (Jvm.Cond.code (⟨"com/example/beliefwire/beliefwire/model/Factor", "<init>", "([I[I[D)V"⟩ : MethodName) prog_60_method_1_code 5 none :: ws) Rrm_in_11) (fun a U => a = #[(.ref r0), (.ref r1), (.ref r2), (.ref r3)] ∧ Z.Warmed39 U.vm ∧ U.heap = h0) (fun _ _ _ _ _ => True) (fun _ U o U' => ∃ v L, o = .returned v ∧ Q_in_11 Z r0 k_r2 k_r3 x0 x1 h0 n0 v U'.heap L ∧ FrameEnd U o U' L Rrm_in_11.cells Rrm_in_11.slots) := by
  refine MetFree.of_bodySF (plainFor_of_name pn_2) hisR ?_
  intro p e s m args below meth c s₁ Bd hml0 hP hK
  obtain ⟨rfl, hZ, hh⟩ := hP
  have hx := Bd.exec
  have hby := Bd.bytes
  have hml : c.maxLocals = 5 := hml0
  have hown : s.vm.findClass "com/example/beliefwire/beliefwire/model/Factor" = some m.cls := findClass_of_methodNamed Bd.named
  have hnm := (name_of_methodNamed Bd.named Bd.method).1
  have X0 : Stand p l e Rrm_in_11 s m #[(.ref r0), (.ref r1), (.ref r2), (.ref r3)] below meth c s₁ [] 0 0 := Stand.of_body Bd
  have e0 : s₁.heap = h0 := by rw [← hh, Bd.state]; rfl
  have N0 := Fr.nil n0
  have W := @own_W a0 Z hw
  have pre0 : ∀ t, Steps p.tables e below (s₁.setTop (mkF m 0 #[.val (.ref r0), .val (.ref r1), .val (.ref r2), .val (.ref r3), .unset] [])) t → Steps p.tables e below (s₁.setTop (entryFrame m #[(.ref r0), (.ref r1), (.ref r2), (.ref r3)] 5)) t := fun t k => castTop (ef_rm_in_11 m r0 r1 r2 r3) k
  have ne_r0_r1 : r0 ≠ r1 := by obtain ⟨_, A, -⟩ := id V_r1; exact ne_arr E_r0 (W 5 rfl) A
  have ne_r0_r2 : r0 ≠ r2 := by obtain ⟨_, A, -⟩ := id V_r2; exact ne_arr E_r0 (W 5 rfl) A
  have ne_r0_r3 : r0 ≠ r3 := by obtain ⟨_, A, -⟩ := id V_r3; exact ne_arr E_r0 (W 5 rfl) A
  obtain ⟨T1, X1, e1, st1⟩ := initO X0 hx hZ hown (W 10 rfl) (W 11 rfl) (W 12 rfl) e0 (g := (mkF m 1 #[.val (.ref r0), .val (.ref r1), .val (.ref r2), .val (.ref r3), .unset] [(.ref r0)])) rfl (by rw [hml]; rfl) rfl (hb hby d1_1) (by decide) (W := 0) (own_le rfl) (by decide)
  obtain ⟨_, _, ⟨T2, L2, k2, n2⟩, -, X2, ⟨Lc2, hQ2, l2, y2, z2⟩, st2⟩ := Jvm.LawKit.callS X1 hx (y := (⟨"com/example/beliefwire/beliefwire/model/Factor", "checkScope", "([I[I)V"⟩ : MethodName)) hown (mvT hZ (W 13 rfl)) (mvT hZ (W 14 rfl)) (mvT hZ (W 6 rfl)) (mvT hZ (W 15 rfl)) (by decide) (backOf (W := 0) (rm_cs_1 l Z a0 hw [] r1 r2 (1 : Int32) k_r1 k_r2 h0 n0 Z0 V_r1 E_r1 V_r2 (by decide)) hZ (W 15 rfl) (W 6 rfl) (by decide) (by decide)) (g := (mkF m 6 #[.val (.ref r0), .val (.ref r1), .val (.ref r2), .val (.ref r3), .unset] [(.ref r2), (.ref r1)])) rfl (by rw [hml]; rfl) (argsL := [(.ref r1), (.ref r2)]) (rest := []) (lenOf pd_8 rfl) rfl (own_le rfl) (hb hby d1_6) (fun _ _ => ⟨rfl, e1, (by decide : 0 + 1 ≤ _), (by decide : 0 + 2 ≤ _)⟩)
  dsimp only [Pt.U, Pt.locs, Pt.cells, Pt.slots] at X2 l2 y2 z2 st2 hQ2
  subst l2 y2 z2
  obtain ⟨rfl, N2q, K2⟩ := hQ2
  have N2 := Fr.app N0 N2q
  obtain ⟨LL2, X2, N2⟩ := own_hide X2 N2
  have Z4z : n0 ≤ T2.heap.size := (Nat.le_trans Z0 K2.1)
  have V_r2_5 := (V_r2.keep K2 own_nin0)
  obtain ⟨_, _, ⟨T3, L3, k3, n3⟩, -, X3, ⟨Lc3, hQ3, l3, y3, z3⟩, st3⟩ := Jvm.LawKit.callS X2 hx (y := (⟨"com/example/beliefwire/beliefwire/model/Factor", "tableSize", "([I)J"⟩ : MethodName)) hown (mvT hZ (W 39 rfl)) (mvT hZ (W 40 rfl)) (mvT hZ (W 6 rfl)) (mvT hZ (W 41 rfl)) (by decide) (backOf (W := 0) (rm_ts_1 l Z a0 hw [] r2 (1 : Int32) k_r2 T2.heap n0 Z4z V_r2_5 (by decide)) hZ (W 41 rfl) (W 6 rfl) (by decide) (by decide)) (g := (mkF m 10 #[.val (.ref r0), .val (.ref r1), .val (.ref r2), .val (.ref r3), .unset] [(.ref r2)])) rfl (by rw [hml]; rfl) (argsL := [(.ref r2)]) (rest := []) (lenOf pd_4 rfl) rfl (own_le rfl) (hb hby d1_10) (fun _ _ => ⟨rfl, rfl, (by decide : 1 + 0 ≤ _), (by decide : 2 + 0 ≤ _)⟩)
  dsimp only [Pt.U, Pt.locs, Pt.cells, Pt.slots] at X3 l3 y3 z3 st3 hQ3
  subst l3 y3 z3
  obtain ⟨hv3, N3q, eq3⟩ := hQ3
  rw [show ((2 : Int64) * ((1 : Int32).toInt64)) = (2 : Int64) from by decide] at hv3
  subst hv3
  have N3 := Fr.app N2 N3q
  obtain ⟨LL3, X3, N3⟩ := own_hide X3 N3
  have V_r3_6 := (V_r3.keep K2 own_nin0)
  obtain ⟨cl_r3_7, Ar_r3_7, q_r3_7, S_r3_7, N_r3_7, H_r3_7, G_r3_7⟩ := id V_r3_6
  have Al_r3_7 := State.isArrayOf_alike hZ.alike Ar_r3_7.2.1
  have hin_r3_7_0 : ¬ ((0 : Int32) < 0 ∨ cl_r3_7.slots.size ≤ ((0 : Int32)).toNatClampNeg) := inb_of S_r3_7 ⟨by decide, by decide⟩
  have hat_r3_7_0 : cl_r3_7.slots[((0 : Int32)).toNatClampNeg]? = some (.double x0) := H_r3_7 _ (by rw [S_r3_7]; decide)
  have hin_r3_7_1 : ¬ ((1 : Int32) < 0 ∨ cl_r3_7.slots.size ≤ ((1 : Int32)).toNatClampNeg) := inb_of S_r3_7 ⟨by decide, by decide⟩
  have hat_r3_7_1 : cl_r3_7.slots[((1 : Int32)).toNatClampNeg]? = some (.double x1) := H_r3_7 _ (by rw [S_r3_7]; decide)
  have V_r1_8 := (V_r1.keep K2 own_nin0)
  have E_r1_9 := (E_r1.keep K2)
  have hz10 : h0.size ≤ T2.heap.size := (Nat.le_trans (Nat.le_refl h0.size) K2.1)
  obtain ⟨T11, h11, X11, e11, E11, V11, B11, st11⟩ := cloneH X3 hx hZ hown (W 16 rfl) (W 17 rfl) (W 21 rfl) (W 19 rfl) (W 20 rfl) (W 22 rfl) eq3 (Arv.arh V_r1_8) E_r1_9 (g := (mkF m 96 #[.val (.ref r0), .val (.ref r1), .val (.ref r2), .val (.ref r3), .val (.int (2 : Int32))] [(.ref r1), (.ref r0)])) rfl (by rw [hml]; rfl) rfl (hb hby d1_96) (by decide) (W := 1) (cap := 2) (own_le rfl) (by decide) (by decide) (by decide) (by decide)
  obtain ⟨b11, gg11⟩ : ∃ z, z = T2.heap.size := ⟨_, rfl⟩
  rw [← gg11] at V11 B11 st11
  have g_b11 : n0 ≤ b11 := Nat.le_trans Z4z (Nat.le_of_eq gg11.symm)
  have sz_b11 : h0.size ≤ b11 := Nat.le_trans hz10 (Nat.le_of_eq gg11.symm)
  have V_b11 : Arv Z h11 b11 k_r1 .int (2 : Int32) [(.int (7 : Int32)), (.int (3 : Int32))] (.int (0 : Int32)) := V11
  obtain ⟨T12, X12, e12, st12⟩ := castY X11 hx hZ hown (W 23 rfl) e11 (Ins.self B11) (g := (mkF m 99 #[.val (.ref r0), .val (.ref r1), .val (.ref r2), .val (.ref r3), .val (.int (2 : Int32))] [(.ref b11), (.ref r0)])) rfl rfl (hb hby d1_99)
  have E_r0_13 := ((E_r0.keep K2).ext E11)
  have F_scope_r0_14 := ((F_scope_r0.keep K2 own_nin0).ext E11)
  obtain ⟨T15, h15, X15, e15, W15, st15⟩ := putF X12 hx hZ hown (host := "") (Or.inl (W 44 rfl)) Via.refl e12 F_scope_r0_14 E_r0_13 (Or.inr ⟨(W 45 rfl), rfl, hnm⟩) (W 5 rfl) (ty := (.array .int)) (by decide) rfl rfl (g := (mkF m 102 #[.val (.ref r0), .val (.ref r1), .val (.ref r2), .val (.ref r3), .val (.int (2 : Int32))] [(.ref b11), (.ref r0)])) rfl rfl (hb hby d1_102)
  have Fw15 := F_scope_r0_14.same W15
  have N15 := Fr.snoc X15 N3 g_r0
  obtain ⟨LL15, X15, N15⟩ := own_hide X15 N15
  have V_r2_16 := ((V_r2_5.ext E11).other W15 (Ne.symm ne_r0_r2))
  have E_r2_17 := (((E_r2.keep K2).ext E11).wr W15)
  have Z18z : n0 ≤ h15.size := (Nat.le_trans (Nat.le_trans Z4z E11.1) (Keep.of_wr W15).1)
  have hz19 : h0.size ≤ h15.size := (Nat.le_trans (Nat.le_trans hz10 E11.1) (Keep.of_wr W15).1)
  obtain ⟨T20, h20, X20, e20, E20, V20, B20, st20⟩ := cloneH X15 hx hZ hown (W 16 rfl) (W 17 rfl) (W 21 rfl) (W 19 rfl) (W 20 rfl) (W 22 rfl) e15 (Arv.arh V_r2_16) E_r2_17 (g := (mkF m 107 #[.val (.ref r0), .val (.ref r1), .val (.ref r2), .val (.ref r3), .val (.int (2 : Int32))] [(.ref r2), (.ref r0)])) rfl (by rw [hml]; rfl) rfl (hb hby d1_107) (by decide) (W := 1) (cap := 2) (own_le rfl) (by decide) (by decide) (by decide) (by decide)
  obtain ⟨b20, gg20⟩ : ∃ z, z = h15.size := ⟨_, rfl⟩
  rw [← gg20] at V20 B20 st20
  have g_b20 : n0 ≤ b20 := Nat.le_trans Z18z (Nat.le_of_eq gg20.symm)
  have sz_b20 : h0.size ≤ b20 := Nat.le_trans hz19 (Nat.le_of_eq gg20.symm)
  have V_b20 : Arv Z h20 b20 k_r2 .int (2 : Int32) [(.int (2 : Int32)), (.int (1 : Int32))] (.int (0 : Int32)) := V20
  obtain ⟨T21, X21, e21, st21⟩ := castY X20 hx hZ hown (W 23 rfl) e20 (Ins.self B20) (g := (mkF m 110 #[.val (.ref r0), .val (.ref r1), .val (.ref r2), .val (.ref r3), .val (.int (2 : Int32))] [(.ref b20), (.ref r0)])) rfl rfl (hb hby d1_110)
  have E_r0_22 := ((E_r0_13.wr W15).ext E20)
  have F_cardinalities_r0_23 := ((((F_cardinalities_r0.keep K2 own_nin0).ext E11).other W15 (Or.inr (slot_ne (Or.inr (W 47 rfl)) (Or.inr (W 45 rfl)) (by decide) (t := (.array .int)) (t' := (.array .int)) (by decide) (by decide)))).ext E20)
  obtain ⟨T24, h24, X24, e24, W24, st24⟩ := putF X21 hx hZ hown (host := "") (Or.inl (W 46 rfl)) Via.refl e21 F_cardinalities_r0_23 E_r0_22 (Or.inr ⟨(W 47 rfl), rfl, hnm⟩) (W 5 rfl) (ty := (.array .int)) (by decide) rfl rfl (g := (mkF m 113 #[.val (.ref r0), .val (.ref r1), .val (.ref r2), .val (.ref r3), .val (.int (2 : Int32))] [(.ref b20), (.ref r0)])) rfl rfl (hb hby d1_113)
  have Fw24 := F_cardinalities_r0_23.same W24
  have N24 := Fr.snoc X24 N15 g_r0
  obtain ⟨LL24, X24, N24⟩ := own_hide X24 N24
  have V_r3_25 := ((((V_r3_6.ext E11).other W15 (Ne.symm ne_r0_r3)).ext E20).other W24 (Ne.symm ne_r0_r3))
  have E_r3_26 := (((((E_r3.keep K2).ext E11).wr W15).ext E20).wr W24)
  have Z27z : n0 ≤ h24.size := (Nat.le_trans (Nat.le_trans Z18z E20.1) (Keep.of_wr W24).1)
  have hz28 : h0.size ≤ h24.size := (Nat.le_trans (Nat.le_trans hz19 E20.1) (Keep.of_wr W24).1)
  obtain ⟨T29, h29, X29, e29, E29, V29, B29, st29⟩ := cloneH X24 hx hZ hown (W 48 rfl) (W 49 rfl) (W 21 rfl) (W 19 rfl) (W 50 rfl) (W 51 rfl) e24 (Arv.arh V_r3_25) E_r3_26 (g := (mkF m 118 #[.val (.ref r0), .val (.ref r1), .val (.ref r2), .val (.ref r3), .val (.int (2 : Int32))] [(.ref r3), (.ref r0)])) rfl (by rw [hml]; rfl) rfl (hb hby d1_118) (by decide) (W := 1) (cap := 2) (own_le rfl) (by decide) (by decide) (by decide) (by decide)
  obtain ⟨b29, gg29⟩ : ∃ z, z = h24.size := ⟨_, rfl⟩
  rw [← gg29] at V29 B29 st29
  have g_b29 : n0 ≤ b29 := Nat.le_trans Z27z (Nat.le_of_eq gg29.symm)
  have sz_b29 : h0.size ≤ b29 := Nat.le_trans hz28 (Nat.le_of_eq gg29.symm)
  have V_b29 : Arv Z h29 b29 k_r3 .double (2 : Int32) [(.double x0), (.double x1)] (.double (0 : UInt64)) := V29
  obtain ⟨T30, X30, e30, st30⟩ := castY X29 hx hZ hown (W 52 rfl) e29 (Ins.self B29) (g := (mkF m 121 #[.val (.ref r0), .val (.ref r1), .val (.ref r2), .val (.ref r3), .val (.int (2 : Int32))] [(.ref b29), (.ref r0)])) rfl rfl (hb hby d1_121)
  have E_r0_31 := ((E_r0_22.wr W24).ext E29)
  have F_entries_r0_32 := ((((((F_entries_r0.keep K2 own_nin0).ext E11).other W15 (Or.inr (slot_ne (Or.inr (W 55 rfl)) (Or.inr (W 45 rfl)) (by decide) (t := (.array .double)) (t' := (.array .int)) (by decide) (by decide)))).ext E20).other W24 (Or.inr (slot_ne (Or.inr (W 55 rfl)) (Or.inr (W 47 rfl)) (by decide) (t := (.array .double)) (t' := (.array .int)) (by decide) (by decide)))).ext E29)
  obtain ⟨T33, h33, X33, e33, W33, st33⟩ := putF X30 hx hZ hown (host := "") (Or.inl (W 54 rfl)) Via.refl e30 F_entries_r0_32 E_r0_31 (Or.inr ⟨(W 55 rfl), rfl, hnm⟩) (W 5 rfl) (ty := (.array .double)) (by decide) rfl rfl (g := (mkF m 124 #[.val (.ref r0), .val (.ref r1), .val (.ref r2), .val (.ref r3), .val (.int (2 : Int32))] [(.ref b29), (.ref r0)])) rfl rfl (hb hby d1_124)
  have Fw33 := F_entries_r0_32.same W33
  have N33 := Fr.snoc X33 N24 g_r0
  obtain ⟨LL33, X33, N33⟩ := own_hide X33 N33
  have KK34 : Keep h0 h33 [r0] := ((((((((Keep.refl h0 [r0]).trans K2 (own_in0)).ext E11).wr W15 (Or.inl (List.mem_of_getElem? (i := 0) rfl))).ext E20).wr W24 (Or.inl (List.mem_of_getElem? (i := 0) rfl))).ext E29).wr W33 (Or.inl (List.mem_of_getElem? (i := 0) rfl)))
  have E_r0_35 := (E_r0_31.wr W33)
  have Fw24_36 := ((Fw24.ext E29).other W33 (Or.inr (slot_ne (Or.inr (W 47 rfl)) (Or.inr (W 55 rfl)) (by decide) (t := (.array .int)) (t' := (.array .double)) (by decide) (by decide))))
  have B20_37 := (((B20.wr W24).ext E29).wr W33)
  have ne_r0_b20 : r0 ≠ b20 := Nat.ne_of_lt (Nat.lt_of_lt_of_le (Nat.lt_of_lt_of_le (E_r0_13).lt (Keep.of_wr W15).1) (Nat.le_of_eq gg20.symm))
  have V_b20_38 := (((V_b20.other W24 (Ne.symm ne_r0_b20)).ext E29).other W33 (Ne.symm ne_r0_b20))
  have ne_r0_b29 : r0 ≠ b29 := Nat.ne_of_lt (Nat.lt_of_lt_of_le (Nat.lt_of_lt_of_le (E_r0_22).lt (Keep.of_wr W24).1) (Nat.le_of_eq gg29.symm))
  have V_b29_39 := (V_b29.other W33 (Ne.symm ne_r0_b29))
  obtain ⟨fs, hr, hrun, hended, hW, hsame⟩ := X33.leave (v := none) (fun _ => rfl)
  refine ⟨_, _, pre0 _ ?_, hrun, hended, _, _, rfl, ?_, ⟨_, rfl⟩, hW, hsame.mono (by decide) (by decide)⟩
  · show Steps p.tables e below (s₁.setTop (mkF m 0 #[.val (.ref r0), .val (.ref r1), .val (.ref r2), .val (.ref r3), .unset] [])) _
    refine XS.aloadN X0.here hx rfl (hb hby d1_0) rfl rfl ?_
    refine st1 _ ?_
    refine XS.aloadN X1.here hx rfl (hb hby d1_4) rfl rfl ?_
    refine XS.aloadN X1.here hx rfl (hb hby d1_5) rfl rfl ?_
    refine st2 _ ?_
    refine XS.aloadN X2.here hx rfl (hb hby d1_9) rfl rfl ?_
    refine st3 _ ?_
    refine XS.aloadN X3.here hx rfl (hb hby d1_13) rfl rfl ?_
    refine X3.arraylength hx (by rw [eq3]; exact Ar_r3_7.1) Al_r3_7 (g := (mkF m 14 #[.val (.ref r0), .val (.ref r1), .val (.ref r2), .val (.ref r3), .unset] [(.ref r3), (.long (2 : Int64))])) rfl rfl (hb hby d1_14) _ ?_
    rw [len_of S_r3_7 N_r3_7]
    refine XS.i2l X3.here hx rfl (hb hby d1_15) rfl ?_
    show Steps p.tables e below (T3.setTop (mkF m 16 #[.val (.ref r0), .val (.ref r1), .val (.ref r2), .val (.ref r3), .unset] [(.long ((2 : Int32).toInt64)), (.long (2 : Int64))])) _
    rw [show ((2 : Int32).toInt64) = (2 : Int64) from (by decide)]
    refine XS.lcmp X3.here hx rfl (hb hby d1_16) rfl ?_
    refine XS.ifYes X3.here hx rfl (pc0 := 17) (pc' := 39) rfl (hb hby d1_17) rfl ((if0 _ _).trans (teq ((lw_eq _ _).mpr (by decide : (2 : Int64) = (2 : Int64)))).1) (by decide) (by decide) ?_
    refine XS.iconst X3.here hx rfl (hb hby d1_39) ?_
    refine XS.istore X3.here hx rfl (hb hby d1_40) rfl (l' := #[.val (.ref r0), .val (.ref r1), .val (.ref r2), .val (.ref r3), .val (.int (0 : Int32))]) rfl ?_
    refine XS.iload X3.here hx rfl (hb hby d1_42) rfl ?_
    refine XS.aloadN X3.here hx rfl (hb hby d1_44) rfl rfl ?_
    refine X3.arraylength hx (by rw [eq3]; exact Ar_r3_7.1) Al_r3_7 (g := (mkF m 45 #[.val (.ref r0), .val (.ref r1), .val (.ref r2), .val (.ref r3), .val (.int (0 : Int32))] [(.ref r3), (.int (0 : Int32))])) rfl rfl (hb hby d1_45) _ ?_
    rw [len_of S_r3_7 N_r3_7]
    refine XS.icmpNo X3.here hx rfl (hb hby d1_46) rfl (tlt (by decide : (0 : Int32) < (2 : Int32))).2.1 ?_
    refine XS.aloadN X3.here hx rfl (hb hby d1_49) rfl rfl ?_
    refine XS.iload X3.here hx rfl (hb hby d1_50) rfl ?_
    refine X3.daload hx (j := (0 : Int32)) (v := (.double x0)) (by rw [eq3]; exact Ar_r3_7.1) Al_r3_7 Ar_r3_7.2.2 hin_r3_7_0 hat_r3_7_0 (g := (mkF m 52 #[.val (.ref r0), .val (.ref r1), .val (.ref r2), .val (.ref r3), .val (.int (0 : Int32))] [(.int (0 : Int32)), (.ref r3)])) rfl rfl (hb hby d1_52) _ ?_
    refine XS.dconst0 X3.here hx rfl (hb hby d1_53) rfl ?_
    refine XS.dcmpS X3.here hx rfl (hb hby d1_54) rfl rfl ?_
    refine XS.ifNo X3.here hx rfl (hb hby d1_55) rfl ((if0 _ _).trans (flt hn_x0).1) ?_
    refine XS.aloadN X3.here hx rfl (hb hby d1_58) rfl rfl ?_
    refine XS.iload X3.here hx rfl (hb hby d1_59) rfl ?_
    refine X3.daload hx (j := (0 : Int32)) (v := (.double x0)) (by rw [eq3]; exact Ar_r3_7.1) Al_r3_7 Ar_r3_7.2.2 hin_r3_7_0 hat_r3_7_0 (g := (mkF m 61 #[.val (.ref r0), .val (.ref r1), .val (.ref r2), .val (.ref r3), .val (.int (0 : Int32))] [(.int (0 : Int32)), (.ref r3)])) rfl rfl (hb hby d1_61) _ ?_
    refine X3.ldc2DoubleC hx hown (mvT hZ (W 43 rfl)) (g := (mkF m 62 #[.val (.ref r0), .val (.ref r1), .val (.ref r2), .val (.ref r3), .val (.int (0 : Int32))] [(.double x0)])) rfl (hb hby d1_62) _ ?_
    refine XS.dcmpS X3.here hx rfl (hb hby d1_65) rfl rfl ?_
    refine XS.ifYes X3.here hx rfl (pc0 := 66) (pc' := 88) rfl (hb hby d1_66) rfl ((if0 _ _).trans (tlt (own_pinf hf_x0)).1) (by decide) (by decide) ?_
    refine XS.iinc X3.here hx rfl (hb hby d1_88) rfl (l' := #[.val (.ref r0), .val (.ref r1), .val (.ref r2), .val (.ref r3), .val (.int ((0 : Int32) + (1 : Int32)))]) rfl ?_
    show Steps p.tables e below (T3.setTop (mkF m 91 #[.val (.ref r0), .val (.ref r1), .val (.ref r2), .val (.ref r3), .val (.int ((0 : Int32) + (1 : Int32)))] [])) _
    rw [show ((0 : Int32) + (1 : Int32)) = (1 : Int32) from (by decide)]
    refine XS.goto X3.here hx rfl (pc0 := 91) (pc' := 42) rfl (hb hby d1_91) (by decide) (by decide) ?_
    refine XS.iload X3.here hx rfl (hb hby d1_42) rfl ?_
    refine XS.aloadN X3.here hx rfl (hb hby d1_44) rfl rfl ?_
    refine X3.arraylength hx (by rw [eq3]; exact Ar_r3_7.1) Al_r3_7 (g := (mkF m 45 #[.val (.ref r0), .val (.ref r1), .val (.ref r2), .val (.ref r3), .val (.int (1 : Int32))] [(.ref r3), (.int (1 : Int32))])) rfl rfl (hb hby d1_45) _ ?_
    rw [len_of S_r3_7 N_r3_7]
    refine XS.icmpNo X3.here hx rfl (hb hby d1_46) rfl (tlt (by decide : (1 : Int32) < (2 : Int32))).2.1 ?_
    refine XS.aloadN X3.here hx rfl (hb hby d1_49) rfl rfl ?_
    refine XS.iload X3.here hx rfl (hb hby d1_50) rfl ?_
    refine X3.daload hx (j := (1 : Int32)) (v := (.double x1)) (by rw [eq3]; exact Ar_r3_7.1) Al_r3_7 Ar_r3_7.2.2 hin_r3_7_1 hat_r3_7_1 (g := (mkF m 52 #[.val (.ref r0), .val (.ref r1), .val (.ref r2), .val (.ref r3), .val (.int (1 : Int32))] [(.int (1 : Int32)), (.ref r3)])) rfl rfl (hb hby d1_52) _ ?_
    refine XS.dconst0 X3.here hx rfl (hb hby d1_53) rfl ?_
    refine XS.dcmpS X3.here hx rfl (hb hby d1_54) rfl rfl ?_
    refine XS.ifNo X3.here hx rfl (hb hby d1_55) rfl ((if0 _ _).trans (flt hn_x1).1) ?_
    refine XS.aloadN X3.here hx rfl (hb hby d1_58) rfl rfl ?_
    refine XS.iload X3.here hx rfl (hb hby d1_59) rfl ?_
    refine X3.daload hx (j := (1 : Int32)) (v := (.double x1)) (by rw [eq3]; exact Ar_r3_7.1) Al_r3_7 Ar_r3_7.2.2 hin_r3_7_1 hat_r3_7_1 (g := (mkF m 61 #[.val (.ref r0), .val (.ref r1), .val (.ref r2), .val (.ref r3), .val (.int (1 : Int32))] [(.int (1 : Int32)), (.ref r3)])) rfl rfl (hb hby d1_61) _ ?_
    refine X3.ldc2DoubleC hx hown (mvT hZ (W 43 rfl)) (g := (mkF m 62 #[.val (.ref r0), .val (.ref r1), .val (.ref r2), .val (.ref r3), .val (.int (1 : Int32))] [(.double x1)])) rfl (hb hby d1_62) _ ?_
    refine XS.dcmpS X3.here hx rfl (hb hby d1_65) rfl rfl ?_
    refine XS.ifYes X3.here hx rfl (pc0 := 66) (pc' := 88) rfl (hb hby d1_66) rfl ((if0 _ _).trans (tlt (own_pinf hf_x1)).1) (by decide) (by decide) ?_
    refine XS.iinc X3.here hx rfl (hb hby d1_88) rfl (l' := #[.val (.ref r0), .val (.ref r1), .val (.ref r2), .val (.ref r3), .val (.int ((1 : Int32) + (1 : Int32)))]) rfl ?_
    show Steps p.tables e below (T3.setTop (mkF m 91 #[.val (.ref r0), .val (.ref r1), .val (.ref r2), .val (.ref r3), .val (.int ((1 : Int32) + (1 : Int32)))] [])) _
    rw [show ((1 : Int32) + (1 : Int32)) = (2 : Int32) from (by decide)]
    refine XS.goto X3.here hx rfl (pc0 := 91) (pc' := 42) rfl (hb hby d1_91) (by decide) (by decide) ?_
    refine XS.iload X3.here hx rfl (hb hby d1_42) rfl ?_
    refine XS.aloadN X3.here hx rfl (hb hby d1_44) rfl rfl ?_
    refine X3.arraylength hx (by rw [eq3]; exact Ar_r3_7.1) Al_r3_7 (g := (mkF m 45 #[.val (.ref r0), .val (.ref r1), .val (.ref r2), .val (.ref r3), .val (.int (2 : Int32))] [(.ref r3), (.int (2 : Int32))])) rfl rfl (hb hby d1_45) _ ?_
    rw [len_of S_r3_7 N_r3_7]
    refine XS.icmpYes X3.here hx rfl (pc0 := 46) (pc' := 94) rfl (hb hby d1_46) rfl (flt (by decide : ¬ ((2 : Int32) < (2 : Int32)))).2.1 (by decide) (by decide) ?_
    refine XS.aloadN X3.here hx rfl (hb hby d1_94) rfl rfl ?_
    refine XS.aloadN X3.here hx rfl (hb hby d1_95) rfl rfl ?_
    refine st11 _ ?_
    refine st12 _ ?_
    refine st15 _ ?_
    refine XS.aloadN X15.here hx rfl (hb hby d1_105) rfl rfl ?_
    refine XS.aloadN X15.here hx rfl (hb hby d1_106) rfl rfl ?_
    refine st20 _ ?_
    refine st21 _ ?_
    refine st24 _ ?_
    refine XS.aloadN X24.here hx rfl (hb hby d1_116) rfl rfl ?_
    refine XS.aloadN X24.here hx rfl (hb hby d1_117) rfl rfl ?_
    refine st29 _ ?_
    refine st30 _ ?_
    refine st33 _ ?_
    show Steps p.tables e below (T33.setTop (mkF m 127 #[.val (.ref r0), .val (.ref r1), .val (.ref r2), .val (.ref r3), .val (.int (2 : Int32))] [])) _
    exact X33.returnOut hx Bd.returns (hb hby d1_127) hr
  · show Q_in_11 Z r0 k_r2 k_r3 x0 x1 h0 n0 _ T33.heap _
    rw [e33]
    exact ⟨rfl, N33, KK34, E_r0_35, b20, b29, Fw24_36, Fw33, B20_37, V_b20_38, V_b29_39⟩
abbrev Rrm_es_2_4 : Room := ({ frames := 1, cells := 1, slots := 2, locals := 15 } : Room)
theorem ef_rm_es_2_4 (m : MethodId) (r0 : Addr) : entryFrame m #[(.ref r0), (.int (0 : Int32)), (.int (2 : Int32))] 5 = mkF m 0 #[.val (.ref r0), .val (.int (0 : Int32)), .val (.int (2 : Int32)), .unset, .unset] [] := by first | (simp [entryFrame, mkF, argsToLocals, Value.category]; done) | rfl
def Q_es_2_4 (Z : State) (x0 : UInt64) (x1 : UInt64) (x2 : UInt64) (x3 : UInt64) (h0 : Heap) (n0 : Nat) (v : Option Value) (h : Heap) (L : List Loc) : Prop := (∃ (b : Addr) (kb : ClassId), v = some (.ref b) ∧ Arv Z h b kb .double (2 : Int32) [(.double x0), (.double x1)] (.double (0 : UInt64))) ∧ Fr n0 L ∧ Keep h0 h []
set_option maxRecDepth 65536 in
set_option maxHeartbeats 40000000 in
theorem rm_es_2_4 (l : Launch) (Z : State) (a0 : Array Value) (hw : ∀ d ∈ tables_1, d.before a0 Z = true) (ws : List Jvm.Cond) (r0 : Addr) (re : Addr) (x0 : UInt64) (x1 : UInt64) (x2 : UInt64) (x3 : UInt64) (k_re : ClassId) (h0 : Heap) (n0 : Nat) (Z0 : n0 ≤ h0.size) (E_r0 : Exa Z h0 r0 "com/example/beliefwire/beliefwire/model/Factor") (F_entries_r0 : Fld Z h0 r0 "com/example/beliefwire/beliefwire/model/Factor" "entries" "[D" (.ref re)) (V_re : Arv Z h0 re k_re .double (4 : Int32) [(.double x0), (.double x1), (.double x2), (.double x3)] (.double (0 : UInt64))) :
    MetFree l (⟨"com/example/beliefwire/beliefwire/io/NoisyMax", "entries", "(Lcom/example/beliefwire/beliefwire/model/Factor;II)[D"⟩ : MethodName) (head1 (Jvm.Cond.code (⟨"com/example/beliefwire/beliefwire/io/NoisyMax", "entries", "(Lcom/example/beliefwire/beliefwire/model/Factor;II)[D"⟩ : MethodName) prog_40_method_6_code 5 (some (.array .double)) :: ws) Rrm_es_2_4) (fun a U => a = #[(.ref r0), (.int (0 : Int32)), (.int (2 : Int32))] ∧ Z.Warmed39 U.vm ∧ U.heap = h0) (fun _ _ _ _ _ => True) (fun _ U o U' => ∃ v L, o = .returned v ∧ Q_es_2_4 Z x0 x1 x2 x3 h0 n0 v U'.heap L ∧ FrameEnd U o U' L Rrm_es_2_4.cells Rrm_es_2_4.slots) := by
  refine MetFree.of_bodySF (plainFor_of_name pn_3) hisR ?_
  intro p e s m args below meth c s₁ Bd hml0 hP hK
  obtain ⟨rfl, hZ, hh⟩ := hP
  have hx := Bd.exec
  have hby := Bd.bytes
  have hml : c.maxLocals = 5 := hml0
  have hown : s.vm.findClass "com/example/beliefwire/beliefwire/io/NoisyMax" = some m.cls := findClass_of_methodNamed Bd.named
  have hnm := (name_of_methodNamed Bd.named Bd.method).1
  have X0 : Stand p l e Rrm_es_2_4 s m #[(.ref r0), (.int (0 : Int32)), (.int (2 : Int32))] below meth c s₁ [] 0 0 := Stand.of_body Bd
  have e0 : s₁.heap = h0 := by rw [← hh, Bd.state]; rfl
  have N0 := Fr.nil n0
  have W := @own_W a0 Z hw
  have pre0 : ∀ t, Steps p.tables e below (s₁.setTop (mkF m 0 #[.val (.ref r0), .val (.int (0 : Int32)), .val (.int (2 : Int32)), .unset, .unset] [])) t → Steps p.tables e below (s₁.setTop (entryFrame m #[(.ref r0), (.int (0 : Int32)), (.int (2 : Int32))] 5)) t := fun t k => castTop (ef_rm_es_2_4 m r0) k
  obtain ⟨T1, h1, k1, X1, e1, E1, A1, B1, st1⟩ := newPE X0 hx hZ (W 1 rfl) e0 (g := (mkF m 1 #[.val (.ref r0), .val (.int (0 : Int32)), .val (.int (2 : Int32)), .unset, .unset] [(.int (2 : Int32))])) rfl (hb hby d11_1) rfl (by decide) (cap := 2) (by decide) (by decide) (by decide) (by decide) (ad := "[D") (by decide)
  obtain ⟨b1, gg1⟩ : ∃ z, z = h0.size := ⟨_, rfl⟩
  rw [← gg1] at A1 B1 st1
  have g_b1 : n0 ≤ b1 := Nat.le_trans Z0 (Nat.le_of_eq gg1.symm)
  have sz_b1 : h0.size ≤ b1 := Nat.le_trans (Nat.le_refl h0.size) (Nat.le_of_eq gg1.symm)
  have V_b1 : Arv Z h1 b1 k1 .double (2 : Int32) [(.double (0 : UInt64)), (.double (0 : UInt64))] (.double (0 : UInt64)) := (Arv.new A1 (by decide)).pad (pad_rep [] (.double (0 : UInt64)) 2)
  have Z3z : n0 ≤ h1.size := (Nat.le_trans Z0 E1.1)
  have V_re_5 := (V_re.ext E1)
  obtain ⟨cl_re_4, Ar_re_4, q_re_4, S_re_4, N_re_4, H_re_4, G_re_4⟩ := id V_re_5
  have hin_re_4 : ¬ ((0 : Int32) < 0 ∨ cl_re_4.slots.size ≤ ((0 : Int32)).toNatClampNeg) := inb_of S_re_4 ⟨by decide, by decide⟩
  have hat_re_4 : cl_re_4.slots[((0 : Int32)).toNatClampNeg]? = some (.double x0) := H_re_4 _ (by rw [S_re_4]; decide)
  have F_entries_r0_6 := (F_entries_r0.ext E1)
  have E_r0_7 := (E_r0.ext E1)
  obtain ⟨cq2, kq2, q2a, q2b, q2c⟩ := isOf hZ e1 E_r0_7
  obtain ⟨_, _, ⟨T2, L2, k2, n2⟩, -, X2, ⟨Lc2, hQ2, l2, y2, z2⟩, st2⟩ := X1.virtualBack hx (y := (⟨"com/example/beliefwire/beliefwire/model/Factor", "entry", "(I)D"⟩ : MethodName)) (z := (⟨"com/example/beliefwire/beliefwire/model/Factor", "entry", "(I)D"⟩ : MethodName)) hown (mvT hZ (W 68 rfl)) (mvT hZ (W 69 rfl)) (notFace_of_selects (args := #[]) (mvT hZ (W 71 rfl))) (mvT hZ (W 71 rfl)) (mvT hZ (W 70 rfl)) (by decide) (backOf (W := 2) (rm_en l Z a0 hw [] r0 (0 : Int32) re cl_re_4 x0 h1 n0 Z3z F_entries_r0_6 Ar_re_4 hin_re_4 hat_re_4) hZ (W 72 rfl) (W 6 rfl) (by decide) (by decide)) q2a q2c (g := (mkF m 21 #[.val (.ref r0), .val (.int (0 : Int32)), .val (.int (2 : Int32)), .val (.ref b1), .val (.int (0 : Int32))] [(.int (0 : Int32)), (.ref r0), (.int (0 : Int32)), (.ref b1)])) rfl (by rw [hml]; rfl) (Steps.refl _) (argsL := [(.int (0 : Int32))]) (rest := [(.int (0 : Int32)), (.ref b1)]) (lenOf pd_5 rfl) rfl (own_le rfl) (hb hby d11_21) (fun _ _ => ⟨rfl, e1, (by decide : 1 + 0 ≤ _), (by decide : 2 + 0 ≤ _)⟩)
  dsimp only [Pt.U, Pt.locs, Pt.cells, Pt.slots] at X2 l2 y2 z2 st2 hQ2
  subst l2 y2 z2
  obtain ⟨rfl, N2q, eq2⟩ := hQ2
  have N2 := Fr.app N0 N2q
  obtain ⟨LL2, X2, N2⟩ := own_hide X2 N2
  obtain ⟨cl_b1_24_8, Ar_b1_24_8, q_b1_24_8, S_b1_24_8, N_b1_24_8, H_b1_24_8, G_b1_24_8⟩ := id V_b1
  have hin_b1_24_8 : ¬ ((0 : Int32) < 0 ∨ cl_b1_24_8.slots.size ≤ ((0 : Int32)).toNatClampNeg) := inb_of S_b1_24_8 ⟨by decide, by decide⟩
  obtain ⟨T9, h9, X9, e9, W9, st9⟩ := stD X2 hx hZ eq2 Ar_b1_24_8 (j := (0 : Int32)) hin_b1_24_8 (g := (mkF m 24 #[.val (.ref r0), .val (.int (0 : Int32)), .val (.int (2 : Int32)), .val (.ref b1), .val (.int (0 : Int32))] [(.double x0), (.int (0 : Int32)), (.ref b1)])) rfl rfl (hb hby d11_24)
  have V_b1_9 := Arv.set Ar_b1_24_8 q_b1_24_8 S_b1_24_8 N_b1_24_8 H_b1_24_8 G_b1_24_8 rfl W9 0 rfl (Nat.le_of_ble_eq_true rfl)
  have N9 := Fr.snoc X9 N2 g_b1
  obtain ⟨LL9, X9, N9⟩ := own_hide X9 N9
  have Z11z : n0 ≤ h9.size := (Nat.le_trans Z3z (Keep.of_wr W9).1)
  have ne_re_b1 : re ≠ b1 := Nat.ne_of_lt (Nat.lt_of_lt_of_le (V_re).lt (Nat.le_of_eq gg1.symm))
  have V_re_13 := (V_re_5.other W9 ne_re_b1)
  obtain ⟨cl_re_12, Ar_re_12, q_re_12, S_re_12, N_re_12, H_re_12, G_re_12⟩ := id V_re_13
  have hin_re_12 : ¬ ((1 : Int32) < 0 ∨ cl_re_12.slots.size ≤ ((1 : Int32)).toNatClampNeg) := inb_of S_re_12 ⟨by decide, by decide⟩
  have hat_re_12 : cl_re_12.slots[((1 : Int32)).toNatClampNeg]? = some (.double x1) := H_re_12 _ (by rw [S_re_12]; decide)
  have ne_r0_b1 : r0 ≠ b1 := Nat.ne_of_lt (Nat.lt_of_lt_of_le (E_r0).lt (Nat.le_of_eq gg1.symm))
  have F_entries_r0_14 := (F_entries_r0_6.other W9 (Or.inl ne_r0_b1))
  have E_r0_15 := (E_r0_7.wr W9)
  obtain ⟨cq10, kq10, q10a, q10b, q10c⟩ := isOf hZ e9 E_r0_15
  obtain ⟨_, _, ⟨T10, L10, k10, n10⟩, -, X10, ⟨Lc10, hQ10, l10, y10, z10⟩, st10⟩ := X9.virtualBack hx (y := (⟨"com/example/beliefwire/beliefwire/model/Factor", "entry", "(I)D"⟩ : MethodName)) (z := (⟨"com/example/beliefwire/beliefwire/model/Factor", "entry", "(I)D"⟩ : MethodName)) hown (mvT hZ (W 68 rfl)) (mvT hZ (W 69 rfl)) (notFace_of_selects (args := #[]) (mvT hZ (W 71 rfl))) (mvT hZ (W 71 rfl)) (mvT hZ (W 70 rfl)) (by decide) (backOf (W := 2) (rm_en l Z a0 hw [] r0 (1 : Int32) re cl_re_12 x1 h9 n0 Z11z F_entries_r0_14 Ar_re_12 hin_re_12 hat_re_12) hZ (W 72 rfl) (W 6 rfl) (by decide) (by decide)) q10a q10c (g := (mkF m 21 #[.val (.ref r0), .val (.int (0 : Int32)), .val (.int (2 : Int32)), .val (.ref b1), .val (.int (1 : Int32))] [(.int (1 : Int32)), (.ref r0), (.int (1 : Int32)), (.ref b1)])) rfl (by rw [hml]; rfl) (Steps.refl _) (argsL := [(.int (1 : Int32))]) (rest := [(.int (1 : Int32)), (.ref b1)]) (lenOf pd_5 rfl) rfl (own_le rfl) (hb hby d11_21) (fun _ _ => ⟨rfl, e9, (by decide : 1 + 0 ≤ _), (by decide : 2 + 0 ≤ _)⟩)
  dsimp only [Pt.U, Pt.locs, Pt.cells, Pt.slots] at X10 l10 y10 z10 st10 hQ10
  subst l10 y10 z10
  obtain ⟨rfl, N10q, eq10⟩ := hQ10
  have N10 := Fr.app N9 N10q
  obtain ⟨LL10, X10, N10⟩ := own_hide X10 N10
  obtain ⟨cl_b1_24_16, Ar_b1_24_16, q_b1_24_16, S_b1_24_16, N_b1_24_16, H_b1_24_16, G_b1_24_16⟩ := id V_b1_9
  have hin_b1_24_16 : ¬ ((1 : Int32) < 0 ∨ cl_b1_24_16.slots.size ≤ ((1 : Int32)).toNatClampNeg) := inb_of S_b1_24_16 ⟨by decide, by decide⟩
  obtain ⟨T17, h17, X17, e17, W17, st17⟩ := stD X10 hx hZ eq10 Ar_b1_24_16 (j := (1 : Int32)) hin_b1_24_16 (g := (mkF m 24 #[.val (.ref r0), .val (.int (0 : Int32)), .val (.int (2 : Int32)), .val (.ref b1), .val (.int (1 : Int32))] [(.double x1), (.int (1 : Int32)), (.ref b1)])) rfl rfl (hb hby d11_24)
  have V_b1_17 := Arv.set Ar_b1_24_16 q_b1_24_16 S_b1_24_16 N_b1_24_16 H_b1_24_16 G_b1_24_16 rfl W17 1 rfl (Nat.le_of_ble_eq_true rfl)
  have N17 := Fr.snoc X17 N10 g_b1
  obtain ⟨LL17, X17, N17⟩ := own_hide X17 N17
  have KK18 : Keep h0 h17 [] := ((((Keep.refl h0 []).ext E1).wr W9 (Or.inr sz_b1)).wr W17 (Or.inr sz_b1))
  obtain ⟨fs, hr, hrun, hended, hW, hsame⟩ := X17.leave (v := some (.ref b1)) (fun h => by rw [Bd.returns] at h; cases h)
  refine ⟨_, _, pre0 _ ?_, hrun, hended, _, _, rfl, ?_, ⟨_, rfl⟩, hW, hsame.mono (by decide) (by decide)⟩
  · show Steps p.tables e below (s₁.setTop (mkF m 0 #[.val (.ref r0), .val (.int (0 : Int32)), .val (.int (2 : Int32)), .unset, .unset] [])) _
    refine XS.iloadN X0.here hx rfl (hb hby d11_0) rfl ?_
    refine st1 _ ?_
    refine XS.astoreN X1.here hx rfl (hb hby d11_3) rfl rfl (l' := #[.val (.ref r0), .val (.int (0 : Int32)), .val (.int (2 : Int32)), .val (.ref b1), .unset]) rfl ?_
    refine XS.iconst X1.here hx rfl (hb hby d11_4) ?_
    refine XS.istore X1.here hx rfl (hb hby d11_5) rfl (l' := #[.val (.ref r0), .val (.int (0 : Int32)), .val (.int (2 : Int32)), .val (.ref b1), .val (.int (0 : Int32))]) rfl ?_
    refine XS.iload X1.here hx rfl (hb hby d11_7) rfl ?_
    refine XS.iloadN X1.here hx rfl (hb hby d11_9) rfl ?_
    refine XS.icmpNo X1.here hx rfl (hb hby d11_10) rfl (tlt (by decide : (0 : Int32) < (2 : Int32))).2.1 ?_
    refine XS.aloadN X1.here hx rfl (hb hby d11_13) rfl rfl ?_
    refine XS.iload X1.here hx rfl (hb hby d11_14) rfl ?_
    refine XS.aloadN X1.here hx rfl (hb hby d11_16) rfl rfl ?_
    refine XS.iloadN X1.here hx rfl (hb hby d11_17) rfl ?_
    refine XS.iload X1.here hx rfl (hb hby d11_18) rfl ?_
    refine XS.iadd X1.here hx rfl (hb hby d11_20) rfl ?_
    show Steps p.tables e below (T1.setTop (mkF m 21 #[.val (.ref r0), .val (.int (0 : Int32)), .val (.int (2 : Int32)), .val (.ref b1), .val (.int (0 : Int32))] [(.int ((0 : Int32) + (0 : Int32))), (.ref r0), (.int (0 : Int32)), (.ref b1)])) _
    rw [show ((0 : Int32) + (0 : Int32)) = (0 : Int32) from (by decide)]
    refine st2.trans ?_
    refine st9 _ ?_
    refine XS.iinc X9.here hx rfl (hb hby d11_25) rfl (l' := #[.val (.ref r0), .val (.int (0 : Int32)), .val (.int (2 : Int32)), .val (.ref b1), .val (.int ((0 : Int32) + (1 : Int32)))]) rfl ?_
    show Steps p.tables e below (T9.setTop (mkF m 28 #[.val (.ref r0), .val (.int (0 : Int32)), .val (.int (2 : Int32)), .val (.ref b1), .val (.int ((0 : Int32) + (1 : Int32)))] [])) _
    rw [show ((0 : Int32) + (1 : Int32)) = (1 : Int32) from (by decide)]
    refine XS.goto X9.here hx rfl (pc0 := 28) (pc' := 7) rfl (hb hby d11_28) (by decide) (by decide) ?_
    refine XS.iload X9.here hx rfl (hb hby d11_7) rfl ?_
    refine XS.iloadN X9.here hx rfl (hb hby d11_9) rfl ?_
    refine XS.icmpNo X9.here hx rfl (hb hby d11_10) rfl (tlt (by decide : (1 : Int32) < (2 : Int32))).2.1 ?_
    refine XS.aloadN X9.here hx rfl (hb hby d11_13) rfl rfl ?_
    refine XS.iload X9.here hx rfl (hb hby d11_14) rfl ?_
    refine XS.aloadN X9.here hx rfl (hb hby d11_16) rfl rfl ?_
    refine XS.iloadN X9.here hx rfl (hb hby d11_17) rfl ?_
    refine XS.iload X9.here hx rfl (hb hby d11_18) rfl ?_
    refine XS.iadd X9.here hx rfl (hb hby d11_20) rfl ?_
    show Steps p.tables e below (T9.setTop (mkF m 21 #[.val (.ref r0), .val (.int (0 : Int32)), .val (.int (2 : Int32)), .val (.ref b1), .val (.int (1 : Int32))] [(.int ((0 : Int32) + (1 : Int32))), (.ref r0), (.int (1 : Int32)), (.ref b1)])) _
    rw [show ((0 : Int32) + (1 : Int32)) = (1 : Int32) from (by decide)]
    refine st10.trans ?_
    refine st17 _ ?_
    refine XS.iinc X17.here hx rfl (hb hby d11_25) rfl (l' := #[.val (.ref r0), .val (.int (0 : Int32)), .val (.int (2 : Int32)), .val (.ref b1), .val (.int ((1 : Int32) + (1 : Int32)))]) rfl ?_
    show Steps p.tables e below (T17.setTop (mkF m 28 #[.val (.ref r0), .val (.int (0 : Int32)), .val (.int (2 : Int32)), .val (.ref b1), .val (.int ((1 : Int32) + (1 : Int32)))] [])) _
    rw [show ((1 : Int32) + (1 : Int32)) = (2 : Int32) from (by decide)]
    refine XS.goto X17.here hx rfl (pc0 := 28) (pc' := 7) rfl (hb hby d11_28) (by decide) (by decide) ?_
    refine XS.iload X17.here hx rfl (hb hby d11_7) rfl ?_
    refine XS.iloadN X17.here hx rfl (hb hby d11_9) rfl ?_
    refine XS.icmpYes X17.here hx rfl (pc0 := 10) (pc' := 31) rfl (hb hby d11_10) rfl (flt (by decide : ¬ ((2 : Int32) < (2 : Int32)))).2.1 (by decide) (by decide) ?_
    refine XS.aloadN X17.here hx rfl (hb hby d11_31) rfl rfl ?_
    show Steps p.tables e below (T17.setTop (mkF m 32 #[.val (.ref r0), .val (.int (0 : Int32)), .val (.int (2 : Int32)), .val (.ref b1), .val (.int (2 : Int32))] [(.ref b1)])) _
    jvm_step X17.here [X17.here.top, hx, (hb hby d11_32), X17.method', Bd.returns, Value.isRef, FieldType.isReference]
    first | (intro acts; rw [hr _ acts rfl rfl rfl]) | rw [hr _ _ rfl rfl rfl]
    exact Steps.refl _
  · show Q_es_2_4 Z x0 x1 x2 x3 h0 n0 _ T17.heap _
    rw [e17]
    exact ⟨⟨b1, _, rfl, V_b1_17⟩, N17, KK18⟩
abbrev Rrm_lk_12 : Room := ({ frames := 2, cells := 2, slots := 4, locals := 31 } : Room)
theorem ef_rm_lk_12 (m : MethodId) (r0 : Addr) : entryFrame m #[(.ref r0)] 2 = mkF m 0 #[.val (.ref r0), .unset] [] := by first | (simp [entryFrame, mkF, argsToLocals, Value.category]; done) | rfl
def Q_lk_12 (Z : State) (x0 : UInt64) (x1 : UInt64) (x2 : UInt64) (x3 : UInt64) (h0 : Heap) (n0 : Nat) (v : Option Value) (h : Heap) (L : List Loc) : Prop := (∃ (b : Addr) (kb : ClassId), v = some (.ref b) ∧ Arv Z h b kb .double (2 : Int32) [(.double x0), (.double x1)] (.double (0 : UInt64))) ∧ Fr n0 L ∧ Keep h0 h []
set_option maxRecDepth 65536 in
set_option maxHeartbeats 40000000 in
theorem rm_lk_12 (l : Launch) (Z : State) (a0 : Array Value) (hw : ∀ d ∈ tables_1, d.before a0 Z = true) (ws : List Jvm.Cond) (r0 : Addr) (rc : Addr) (re : Addr) (x0 : UInt64) (x1 : UInt64) (x2 : UInt64) (x3 : UInt64) (k_rc : ClassId) (k_re : ClassId) (h0 : Heap) (n0 : Nat) (Z0 : n0 ≤ h0.size) (E_r0 : Exa Z h0 r0 "com/example/beliefwire/beliefwire/model/Factor") (F_cardinalities_r0 : Fld Z h0 r0 "com/example/beliefwire/beliefwire/model/Factor" "cardinalities" "[I" (.ref rc)) (V_rc : Arv Z h0 rc k_rc .int (2 : Int32) [(.int (2 : Int32)), (.int (2 : Int32))] (.int (0 : Int32))) (E_rc : Exa Z h0 rc "[I") (F_entries_r0 : Fld Z h0 r0 "com/example/beliefwire/beliefwire/model/Factor" "entries" "[D" (.ref re)) (V_re : Arv Z h0 re k_re .double (4 : Int32) [(.double x0), (.double x1), (.double x2), (.double x3)] (.double (0 : UInt64))) :
    MetFree l (⟨"com/example/beliefwire/beliefwire/io/NoisyMax", "leak", "(Lcom/example/beliefwire/beliefwire/model/Factor;)[D"⟩ : MethodName) (head1 (Jvm.Cond.code (⟨"com/example/beliefwire/beliefwire/io/NoisyMax", "leak", "(Lcom/example/beliefwire/beliefwire/model/Factor;)[D"⟩ : MethodName) prog_40_method_4_code 2 (some (.array .double)) :: ws) Rrm_lk_12) (fun a U => a = #[(.ref r0)] ∧ Z.Warmed39 U.vm ∧ U.heap = h0) (fun _ _ _ _ _ => True) (fun _ U o U' => ∃ v L, o = .returned v ∧ Q_lk_12 Z x0 x1 x2 x3 h0 n0 v U'.heap L ∧ FrameEnd U o U' L Rrm_lk_12.cells Rrm_lk_12.slots) := by
  refine MetFree.of_bodySF (plainFor_of_name pn_3) hisR ?_
  intro p e s m args below meth c s₁ Bd hml0 hP hK
  obtain ⟨rfl, hZ, hh⟩ := hP
  have hx := Bd.exec
  have hby := Bd.bytes
  have hml : c.maxLocals = 2 := hml0
  have hown : s.vm.findClass "com/example/beliefwire/beliefwire/io/NoisyMax" = some m.cls := findClass_of_methodNamed Bd.named
  have hnm := (name_of_methodNamed Bd.named Bd.method).1
  have X0 : Stand p l e Rrm_lk_12 s m #[(.ref r0)] below meth c s₁ [] 0 0 := Stand.of_body Bd
  have e0 : s₁.heap = h0 := by rw [← hh, Bd.state]; rfl
  have N0 := Fr.nil n0
  have W := @own_W a0 Z hw
  have pre0 : ∀ t, Steps p.tables e below (s₁.setTop (mkF m 0 #[.val (.ref r0), .unset] [])) t → Steps p.tables e below (s₁.setTop (entryFrame m #[(.ref r0)] 2)) t := fun t k => castTop (ef_rm_lk_12 m r0) k
  obtain ⟨cq1, kq1, q1a, q1b, q1c⟩ := isOf hZ e0 E_r0
  obtain ⟨_, _, ⟨T1, L1, k1, n1⟩, -, X1, ⟨Lc1, hQ1, l1, y1, z1⟩, st1⟩ := X0.virtualBack hx (y := (⟨"com/example/beliefwire/beliefwire/model/Factor", "cardinalities", "()[I"⟩ : MethodName)) (z := (⟨"com/example/beliefwire/beliefwire/model/Factor", "cardinalities", "()[I"⟩ : MethodName)) hown (mvT hZ (W 60 rfl)) (mvT hZ (W 61 rfl)) (notFace_of_selects (args := #[]) (mvT hZ (W 63 rfl))) (mvT hZ (W 63 rfl)) (mvT hZ (W 62 rfl)) (by decide) (backOf (W := 0) (rm_ca_1 l Z a0 hw [] r0 rc (2 : Int32) k_rc h0 n0 Z0 F_cardinalities_r0 V_rc E_rc) hZ (W 64 rfl) (W 6 rfl) (by decide) (by decide)) q1a q1c (g := (mkF m 1 #[.val (.ref r0), .unset] [(.ref r0)])) rfl (by rw [hml]; rfl) (Steps.refl _) (argsL := []) (rest := []) (lenOf pd_6 rfl) rfl (own_le rfl) (hb hby d9_1) (fun _ _ => ⟨rfl, e0, (by decide : 0 + 1 ≤ _), (by decide : 0 + 2 ≤ _)⟩)
  dsimp only [Pt.U, Pt.locs, Pt.cells, Pt.slots] at X1 l1 y1 z1 st1 hQ1
  subst l1 y1 z1
  obtain ⟨⟨b1, rfl, V1⟩, N1q, K1⟩ := hQ1
  have N1 := Fr.app N0 N1q
  obtain ⟨LL1, X1, N1⟩ := own_hide X1 N1
  obtain ⟨cl_b1_2, Ar_b1_2, q_b1_2, S_b1_2, N_b1_2, H_b1_2, G_b1_2⟩ := id V1
  have Al_b1_2 := State.isArrayOf_alike hZ.alike Ar_b1_2.2.1
  have hin_b1_2_1 : ¬ ((1 : Int32) < 0 ∨ cl_b1_2.slots.size ≤ ((1 : Int32)).toNatClampNeg) := inb_of S_b1_2 ⟨by decide, by decide⟩
  have hat_b1_2_1 : cl_b1_2.slots[((1 : Int32)).toNatClampNeg]? = some (.int (2 : Int32)) := H_b1_2 _ (by rw [S_b1_2]; decide)
  have Z4z : n0 ≤ T1.heap.size := (Nat.le_trans Z0 K1.1)
  have E_r0_5 := (E_r0.keep K1)
  have F_entries_r0_6 := (F_entries_r0.keep K1 own_nin0)
  have V_re_7 := (V_re.keep K1 own_nin0)
  obtain ⟨_, _, ⟨T3, L3, k3, n3⟩, -, X3, ⟨Lc3, hQ3, l3, y3, z3⟩, st3⟩ := Jvm.LawKit.callS X1 hx (y := (⟨"com/example/beliefwire/beliefwire/io/NoisyMax", "entries", "(Lcom/example/beliefwire/beliefwire/model/Factor;II)[D"⟩ : MethodName)) hown (mvT hZ (W 65 rfl)) (mvT hZ (W 66 rfl)) (mvT hZ (W 58 rfl)) (mvT hZ (W 67 rfl)) (by decide) (backOf (W := 0) (rm_es_2_4 l Z a0 hw [] r0 re x0 x1 x2 x3 k_re T1.heap n0 Z4z E_r0_5 F_entries_r0_6 V_re_7) hZ (W 67 rfl) (W 58 rfl) (by decide) (by decide)) (g := (mkF m 13 #[.val (.ref r0), .val (.ref b1)] [(.int (2 : Int32)), (.int (0 : Int32)), (.ref r0)])) rfl (by rw [hml]; rfl) (argsL := [(.ref r0), (.int (0 : Int32)), (.int (2 : Int32))]) (rest := []) (lenOf pd_7 rfl) rfl (own_le rfl) (hb hby d9_13) (fun _ _ => ⟨rfl, rfl, (by decide : 1 + 1 ≤ _), (by decide : 2 + 2 ≤ _)⟩)
  dsimp only [Pt.U, Pt.locs, Pt.cells, Pt.slots] at X3 l3 y3 z3 st3 hQ3
  subst l3 y3 z3
  obtain ⟨⟨b3, kb3, rfl, V3⟩, N3q, K3⟩ := hQ3
  have N3 := Fr.app N1 N3q
  obtain ⟨LL3, X3, N3⟩ := own_hide X3 N3
  have KK8 : Keep h0 T3.heap [] := (((Keep.refl h0 []).trans K1 (own_in0)).trans K3 (own_in0))
  obtain ⟨fs, hr, hrun, hended, hW, hsame⟩ := X3.leave (v := some (.ref b3)) (fun h => by rw [Bd.returns] at h; cases h)
  refine ⟨_, _, pre0 _ ?_, hrun, hended, _, _, rfl, ?_, ⟨_, rfl⟩, hW, hsame.mono (by decide) (by decide)⟩
  · show Steps p.tables e below (s₁.setTop (mkF m 0 #[.val (.ref r0), .unset] [])) _
    refine XS.aloadN X0.here hx rfl (hb hby d9_0) rfl rfl ?_
    refine st1.trans ?_
    refine XS.astoreN X1.here hx rfl (hb hby d9_4) rfl rfl (l' := #[.val (.ref r0), .val (.ref b1)]) rfl ?_
    refine XS.aloadN X1.here hx rfl (hb hby d9_5) rfl rfl ?_
    refine XS.iconst X1.here hx rfl (hb hby d9_6) ?_
    refine XS.aloadN X1.here hx rfl (hb hby d9_7) rfl rfl ?_
    refine XS.aloadN X1.here hx rfl (hb hby d9_8) rfl rfl ?_
    refine X1.arraylength hx Ar_b1_2.1 Al_b1_2 (g := (mkF m 9 #[.val (.ref r0), .val (.ref b1)] [(.ref b1), (.ref b1), (.int (0 : Int32)), (.ref r0)])) rfl rfl (hb hby d9_9) _ ?_
    rw [len_of S_b1_2 N_b1_2]
    refine XS.iconst X1.here hx rfl (hb hby d9_10) ?_
    refine XS.isub X1.here hx rfl (hb hby d9_11) rfl ?_
    show Steps p.tables e below (T1.setTop (mkF m 12 #[.val (.ref r0), .val (.ref b1)] [(.int ((2 : Int32) - (1 : Int32))), (.ref b1), (.int (0 : Int32)), (.ref r0)])) _
    rw [show ((2 : Int32) - (1 : Int32)) = (1 : Int32) from (by decide)]
    refine X1.iaload hx (j := (1 : Int32)) (v := (.int (2 : Int32))) Ar_b1_2.1 Al_b1_2 Ar_b1_2.2.2 hin_b1_2_1 hat_b1_2_1 (g := (mkF m 12 #[.val (.ref r0), .val (.ref b1)] [(.int (1 : Int32)), (.ref b1), (.int (0 : Int32)), (.ref r0)])) rfl rfl (hb hby d9_12) _ ?_
    refine st3 _ ?_
    show Steps p.tables e below (T3.setTop (mkF m 16 #[.val (.ref r0), .val (.ref b1)] [(.ref b3)])) _
    jvm_step X3.here [X3.here.top, hx, (hb hby d9_16), X3.method', Bd.returns, Value.isRef, FieldType.isReference]
    first | (intro acts; rw [hr _ acts rfl rfl rfl]) | rw [hr _ _ rfl rfl rfl]
    exact Steps.refl _
  · show Q_lk_12 Z x0 x1 x2 x3 h0 n0 _ T3.heap _
    exact ⟨⟨b3, _, rfl, V3⟩, N3, KK8⟩
abbrev Rrm_in_12 : Room := ({ frames := 5, cells := 4, slots := 10, locals := 96 } : Room)
theorem ef_rm_in_12 (m : MethodId) (r0 : Addr) (r1 : Addr) (r2 : Addr) (r3 : Addr) : entryFrame m #[(.ref r0), (.ref r1), (.ref r2), (.ref r3)] 5 = mkF m 0 #[.val (.ref r0), .val (.ref r1), .val (.ref r2), .val (.ref r3), .unset] [] := by first | (simp [entryFrame, mkF, argsToLocals, Value.category]; done) | rfl
def Q_in_12 (Z : State) (r0 : Addr) (k_r2 : ClassId) (k_r3 : ClassId) (x0 : UInt64) (x1 : UInt64) (x2 : UInt64) (x3 : UInt64) (h0 : Heap) (n0 : Nat) (v : Option Value) (h : Heap) (L : List Loc) : Prop := v = none ∧ Fr n0 L ∧ Keep h0 h [r0] ∧ Exa Z h r0 "com/example/beliefwire/beliefwire/model/Factor" ∧ ∃ bc be : Addr, Fld Z h r0 "com/example/beliefwire/beliefwire/model/Factor" "cardinalities" "[I" (.ref bc) ∧ Fld Z h r0 "com/example/beliefwire/beliefwire/model/Factor" "entries" "[D" (.ref be) ∧ Exa Z h bc "[I" ∧ Arv Z h bc k_r2 .int (2 : Int32) [(.int (2 : Int32)), (.int (2 : Int32))] (.int (0 : Int32)) ∧ Arv Z h be k_r3 .double (4 : Int32) [(.double x0), (.double x1), (.double x2), (.double x3)] (.double (0 : UInt64))
set_option maxRecDepth 65536 in
set_option maxHeartbeats 40000000 in
theorem rm_in_12 (l : Launch) (Z : State) (a0 : Array Value) (hw : ∀ d ∈ tables_1, d.before a0 Z = true) (ws : List Jvm.Cond) (r0 : Addr) (r1 : Addr) (r2 : Addr) (r3 : Addr) (x0 : UInt64) (x1 : UInt64) (x2 : UInt64) (x3 : UInt64) (u_scope_r0 : Value) (u_cardinalities_r0 : Value) (u_entries_r0 : Value) (k_r1 : ClassId) (k_r2 : ClassId) (k_r3 : ClassId) (h0 : Heap) (n0 : Nat) (Z0 : n0 ≤ h0.size) (E_r0 : Exa Z h0 r0 "com/example/beliefwire/beliefwire/model/Factor") (g_r0 : n0 ≤ r0) (F_scope_r0 : Fld Z h0 r0 "com/example/beliefwire/beliefwire/model/Factor" "scope" "[I" u_scope_r0) (F_cardinalities_r0 : Fld Z h0 r0 "com/example/beliefwire/beliefwire/model/Factor" "cardinalities" "[I" u_cardinalities_r0) (F_entries_r0 : Fld Z h0 r0 "com/example/beliefwire/beliefwire/model/Factor" "entries" "[D" u_entries_r0) (V_r1 : Arv Z h0 r1 k_r1 .int (2 : Int32) [(.int (7 : Int32)), (.int (3 : Int32))] (.int (0 : Int32))) (E_r1 : Exa Z h0 r1 "[I") (V_r2 : Arv Z h0 r2 k_r2 .int (2 : Int32) [(.int (2 : Int32)), (.int (2 : Int32))] (.int (0 : Int32))) (E_r2 : Exa Z h0 r2 "[I") (V_r3 : Arv Z h0 r3 k_r3 .double (4 : Int32) [(.double x0), (.double x1), (.double x2), (.double x3)] (.double (0 : UInt64))) (E_r3 : Exa Z h0 r3 "[D") (hf_x0 : Fl.Fin64 x0) (hn_x0 : ¬ cmpValue (FP.dcmp x0 FP.dconst0) .l < (0 : Int32)) (hf_x1 : Fl.Fin64 x1) (hn_x1 : ¬ cmpValue (FP.dcmp x1 FP.dconst0) .l < (0 : Int32)) (hf_x2 : Fl.Fin64 x2) (hn_x2 : ¬ cmpValue (FP.dcmp x2 FP.dconst0) .l < (0 : Int32)) (hf_x3 : Fl.Fin64 x3) (hn_x3 : ¬ cmpValue (FP.dcmp x3 FP.dconst0) .l < (0 : Int32)) :
    MetFree l (⟨"com/example/beliefwire/beliefwire/model/Factor", "<init>", "([I[I[D)V"⟩ : MethodName) (head1 (Jvm.Cond.code (⟨"com/example/beliefwire/beliefwire/model/Factor", "<init>", "([I[I[D)V"⟩ : MethodName) prog_60_method_1_code 5 none :: ws) Rrm_in_12) (fun a U => a = #[(.ref r0), (.ref r1), (.ref r2), (.ref r3)] ∧ Z.Warmed39 U.vm ∧ U.heap = h0) (fun _ _ _ _ _ => True) (fun _ U o U' => ∃ v L, o = .returned v ∧ Q_in_12 Z r0 k_r2 k_r3 x0 x1 x2 x3 h0 n0 v U'.heap L ∧ FrameEnd U o U' L Rrm_in_12.cells Rrm_in_12.slots) := by
  refine MetFree.of_bodySF (plainFor_of_name pn_2) hisR ?_
  intro p e s m args below meth c s₁ Bd hml0 hP hK
  obtain ⟨rfl, hZ, hh⟩ := hP
  have hx := Bd.exec
  have hby := Bd.bytes
  have hml : c.maxLocals = 5 := hml0
  have hown : s.vm.findClass "com/example/beliefwire/beliefwire/model/Factor" = some m.cls := findClass_of_methodNamed Bd.named
  have hnm := (name_of_methodNamed Bd.named Bd.method).1
  have X0 : Stand p l e Rrm_in_12 s m #[(.ref r0), (.ref r1), (.ref r2), (.ref r3)] below meth c s₁ [] 0 0 := Stand.of_body Bd
  have e0 : s₁.heap = h0 := by rw [← hh, Bd.state]; rfl
  have N0 := Fr.nil n0
  have W := @own_W a0 Z hw
  have pre0 : ∀ t, Steps p.tables e below (s₁.setTop (mkF m 0 #[.val (.ref r0), .val (.ref r1), .val (.ref r2), .val (.ref r3), .unset] [])) t → Steps p.tables e below (s₁.setTop (entryFrame m #[(.ref r0), (.ref r1), (.ref r2), (.ref r3)] 5)) t := fun t k => castTop (ef_rm_in_12 m r0 r1 r2 r3) k
  have ne_r0_r1 : r0 ≠ r1 := by obtain ⟨_, A, -⟩ := id V_r1; exact ne_arr E_r0 (W 5 rfl) A
  have ne_r0_r2 : r0 ≠ r2 := by obtain ⟨_, A, -⟩ := id V_r2; exact ne_arr E_r0 (W 5 rfl) A
  have ne_r0_r3 : r0 ≠ r3 := by obtain ⟨_, A, -⟩ := id V_r3; exact ne_arr E_r0 (W 5 rfl) A
  obtain ⟨T1, X1, e1, st1⟩ := initO X0 hx hZ hown (W 10 rfl) (W 11 rfl) (W 12 rfl) e0 (g := (mkF m 1 #[.val (.ref r0), .val (.ref r1), .val (.ref r2), .val (.ref r3), .unset] [(.ref r0)])) rfl (by rw [hml]; rfl) rfl (hb hby d1_1) (by decide) (W := 0) (own_le rfl) (by decide)
  obtain ⟨_, _, ⟨T2, L2, k2, n2⟩, -, X2, ⟨Lc2, hQ2, l2, y2, z2⟩, st2⟩ := Jvm.LawKit.callS X1 hx (y := (⟨"com/example/beliefwire/beliefwire/model/Factor", "checkScope", "([I[I)V"⟩ : MethodName)) hown (mvT hZ (W 13 rfl)) (mvT hZ (W 14 rfl)) (mvT hZ (W 6 rfl)) (mvT hZ (W 15 rfl)) (by decide) (backOf (W := 0) (rm_cs_1 l Z a0 hw [] r1 r2 (2 : Int32) k_r1 k_r2 h0 n0 Z0 V_r1 E_r1 V_r2 (by decide)) hZ (W 15 rfl) (W 6 rfl) (by decide) (by decide)) (g := (mkF m 6 #[.val (.ref r0), .val (.ref r1), .val (.ref r2), .val (.ref r3), .unset] [(.ref r2), (.ref r1)])) rfl (by rw [hml]; rfl) (argsL := [(.ref r1), (.ref r2)]) (rest := []) (lenOf pd_8 rfl) rfl (own_le rfl) (hb hby d1_6) (fun _ _ => ⟨rfl, e1, (by decide : 0 + 1 ≤ _), (by decide : 0 + 2 ≤ _)⟩)
  dsimp only [Pt.U, Pt.locs, Pt.cells, Pt.slots] at X2 l2 y2 z2 st2 hQ2
  subst l2 y2 z2
  obtain ⟨rfl, N2q, K2⟩ := hQ2
  have N2 := Fr.app N0 N2q
  obtain ⟨LL2, X2, N2⟩ := own_hide X2 N2
  have Z4z : n0 ≤ T2.heap.size := (Nat.le_trans Z0 K2.1)
  have V_r2_5 := (V_r2.keep K2 own_nin0)
  obtain ⟨_, _, ⟨T3, L3, k3, n3⟩, -, X3, ⟨Lc3, hQ3, l3, y3, z3⟩, st3⟩ := Jvm.LawKit.callS X2 hx (y := (⟨"com/example/beliefwire/beliefwire/model/Factor", "tableSize", "([I)J"⟩ : MethodName)) hown (mvT hZ (W 39 rfl)) (mvT hZ (W 40 rfl)) (mvT hZ (W 6 rfl)) (mvT hZ (W 41 rfl)) (by decide) (backOf (W := 0) (rm_ts_1 l Z a0 hw [] r2 (2 : Int32) k_r2 T2.heap n0 Z4z V_r2_5 (by decide)) hZ (W 41 rfl) (W 6 rfl) (by decide) (by decide)) (g := (mkF m 10 #[.val (.ref r0), .val (.ref r1), .val (.ref r2), .val (.ref r3), .unset] [(.ref r2)])) rfl (by rw [hml]; rfl) (argsL := [(.ref r2)]) (rest := []) (lenOf pd_4 rfl) rfl (own_le rfl) (hb hby d1_10) (fun _ _ => ⟨rfl, rfl, (by decide : 1 + 0 ≤ _), (by decide : 2 + 0 ≤ _)⟩)
  dsimp only [Pt.U, Pt.locs, Pt.cells, Pt.slots] at X3 l3 y3 z3 st3 hQ3
  subst l3 y3 z3
  obtain ⟨hv3, N3q, eq3⟩ := hQ3
  rw [show ((2 : Int64) * ((2 : Int32).toInt64)) = (4 : Int64) from by decide] at hv3
  subst hv3
  have N3 := Fr.app N2 N3q
  obtain ⟨LL3, X3, N3⟩ := own_hide X3 N3
  have V_r3_6 := (V_r3.keep K2 own_nin0)
  obtain ⟨cl_r3_7, Ar_r3_7, q_r3_7, S_r3_7, N_r3_7, H_r3_7, G_r3_7⟩ := id V_r3_6
  have Al_r3_7 := State.isArrayOf_alike hZ.alike Ar_r3_7.2.1
  have hin_r3_7_0 : ¬ ((0 : Int32) < 0 ∨ cl_r3_7.slots.size ≤ ((0 : Int32)).toNatClampNeg) := inb_of S_r3_7 ⟨by decide, by decide⟩
  have hat_r3_7_0 : cl_r3_7.slots[((0 : Int32)).toNatClampNeg]? = some (.double x0) := H_r3_7 _ (by rw [S_r3_7]; decide)
  have hin_r3_7_1 : ¬ ((1 : Int32) < 0 ∨ cl_r3_7.slots.size ≤ ((1 : Int32)).toNatClampNeg) := inb_of S_r3_7 ⟨by decide, by decide⟩
  have hat_r3_7_1 : cl_r3_7.slots[((1 : Int32)).toNatClampNeg]? = some (.double x1) := H_r3_7 _ (by rw [S_r3_7]; decide)
  have hin_r3_7_2 : ¬ ((2 : Int32) < 0 ∨ cl_r3_7.slots.size ≤ ((2 : Int32)).toNatClampNeg) := inb_of S_r3_7 ⟨by decide, by decide⟩
  have hat_r3_7_2 : cl_r3_7.slots[((2 : Int32)).toNatClampNeg]? = some (.double x2) := H_r3_7 _ (by rw [S_r3_7]; decide)
  have hin_r3_7_3 : ¬ ((3 : Int32) < 0 ∨ cl_r3_7.slots.size ≤ ((3 : Int32)).toNatClampNeg) := inb_of S_r3_7 ⟨by decide, by decide⟩
  have hat_r3_7_3 : cl_r3_7.slots[((3 : Int32)).toNatClampNeg]? = some (.double x3) := H_r3_7 _ (by rw [S_r3_7]; decide)
  have V_r1_8 := (V_r1.keep K2 own_nin0)
  have E_r1_9 := (E_r1.keep K2)
  have hz10 : h0.size ≤ T2.heap.size := (Nat.le_trans (Nat.le_refl h0.size) K2.1)
  obtain ⟨T11, h11, X11, e11, E11, V11, B11, st11⟩ := cloneH X3 hx hZ hown (W 16 rfl) (W 17 rfl) (W 21 rfl) (W 19 rfl) (W 20 rfl) (W 22 rfl) eq3 (Arv.arh V_r1_8) E_r1_9 (g := (mkF m 96 #[.val (.ref r0), .val (.ref r1), .val (.ref r2), .val (.ref r3), .val (.int (4 : Int32))] [(.ref r1), (.ref r0)])) rfl (by rw [hml]; rfl) rfl (hb hby d1_96) (by decide) (W := 1) (cap := 2) (own_le rfl) (by decide) (by decide) (by decide) (by decide)
  obtain ⟨b11, gg11⟩ : ∃ z, z = T2.heap.size := ⟨_, rfl⟩
  rw [← gg11] at V11 B11 st11
  have g_b11 : n0 ≤ b11 := Nat.le_trans Z4z (Nat.le_of_eq gg11.symm)
  have sz_b11 : h0.size ≤ b11 := Nat.le_trans hz10 (Nat.le_of_eq gg11.symm)
  have V_b11 : Arv Z h11 b11 k_r1 .int (2 : Int32) [(.int (7 : Int32)), (.int (3 : Int32))] (.int (0 : Int32)) := V11
  obtain ⟨T12, X12, e12, st12⟩ := castY X11 hx hZ hown (W 23 rfl) e11 (Ins.self B11) (g := (mkF m 99 #[.val (.ref r0), .val (.ref r1), .val (.ref r2), .val (.ref r3), .val (.int (4 : Int32))] [(.ref b11), (.ref r0)])) rfl rfl (hb hby d1_99)
  have E_r0_13 := ((E_r0.keep K2).ext E11)
  have F_scope_r0_14 := ((F_scope_r0.keep K2 own_nin0).ext E11)
  obtain ⟨T15, h15, X15, e15, W15, st15⟩ := putF X12 hx hZ hown (host := "") (Or.inl (W 44 rfl)) Via.refl e12 F_scope_r0_14 E_r0_13 (Or.inr ⟨(W 45 rfl), rfl, hnm⟩) (W 5 rfl) (ty := (.array .int)) (by decide) rfl rfl (g := (mkF m 102 #[.val (.ref r0), .val (.ref r1), .val (.ref r2), .val (.ref r3), .val (.int (4 : Int32))] [(.ref b11), (.ref r0)])) rfl rfl (hb hby d1_102)
  have Fw15 := F_scope_r0_14.same W15
  have N15 := Fr.snoc X15 N3 g_r0
  obtain ⟨LL15, X15, N15⟩ := own_hide X15 N15
  have V_r2_16 := ((V_r2_5.ext E11).other W15 (Ne.symm ne_r0_r2))
  have E_r2_17 := (((E_r2.keep K2).ext E11).wr W15)
  have Z18z : n0 ≤ h15.size := (Nat.le_trans (Nat.le_trans Z4z E11.1) (Keep.of_wr W15).1)
  have hz19 : h0.size ≤ h15.size := (Nat.le_trans (Nat.le_trans hz10 E11.1) (Keep.of_wr W15).1)
  obtain ⟨T20, h20, X20, e20, E20, V20, B20, st20⟩ := cloneH X15 hx hZ hown (W 16 rfl) (W 17 rfl) (W 21 rfl) (W 19 rfl) (W 20 rfl) (W 22 rfl) e15 (Arv.arh V_r2_16) E_r2_17 (g := (mkF m 107 #[.val (.ref r0), .val (.ref r1), .val (.ref r2), .val (.ref r3), .val (.int (4 : Int32))] [(.ref r2), (.ref r0)])) rfl (by rw [hml]; rfl) rfl (hb hby d1_107) (by decide) (W := 1) (cap := 2) (own_le rfl) (by decide) (by decide) (by decide) (by decide)
  obtain ⟨b20, gg20⟩ : ∃ z, z = h15.size := ⟨_, rfl⟩
  rw [← gg20] at V20 B20 st20
  have g_b20 : n0 ≤ b20 := Nat.le_trans Z18z (Nat.le_of_eq gg20.symm)
  have sz_b20 : h0.size ≤ b20 := Nat.le_trans hz19 (Nat.le_of_eq gg20.symm)
  have V_b20 : Arv Z h20 b20 k_r2 .int (2 : Int32) [(.int (2 : Int32)), (.int (2 : Int32))] (.int (0 : Int32)) := V20
  obtain ⟨T21, X21, e21, st21⟩ := castY X20 hx hZ hown (W 23 rfl) e20 (Ins.self B20) (g := (mkF m 110 #[.val (.ref r0), .val (.ref r1), .val (.ref r2), .val (.ref r3), .val (.int (4 : Int32))] [(.ref b20), (.ref r0)])) rfl rfl (hb hby d1_110)
  have E_r0_22 := ((E_r0_13.wr W15).ext E20)
  have F_cardinalities_r0_23 := ((((F_cardinalities_r0.keep K2 own_nin0).ext E11).other W15 (Or.inr (slot_ne (Or.inr (W 47 rfl)) (Or.inr (W 45 rfl)) (by decide) (t := (.array .int)) (t' := (.array .int)) (by decide) (by decide)))).ext E20)
  obtain ⟨T24, h24, X24, e24, W24, st24⟩ := putF X21 hx hZ hown (host := "") (Or.inl (W 46 rfl)) Via.refl e21 F_cardinalities_r0_23 E_r0_22 (Or.inr ⟨(W 47 rfl), rfl, hnm⟩) (W 5 rfl) (ty := (.array .int)) (by decide) rfl rfl (g := (mkF m 113 #[.val (.ref r0), .val (.ref r1), .val (.ref r2), .val (.ref r3), .val (.int (4 : Int32))] [(.ref b20), (.ref r0)])) rfl rfl (hb hby d1_113)
  have Fw24 := F_cardinalities_r0_23.same W24
  have N24 := Fr.snoc X24 N15 g_r0
  obtain ⟨LL24, X24, N24⟩ := own_hide X24 N24
  have V_r3_25 := ((((V_r3_6.ext E11).other W15 (Ne.symm ne_r0_r3)).ext E20).other W24 (Ne.symm ne_r0_r3))
  have E_r3_26 := (((((E_r3.keep K2).ext E11).wr W15).ext E20).wr W24)
  have Z27z : n0 ≤ h24.size := (Nat.le_trans (Nat.le_trans Z18z E20.1) (Keep.of_wr W24).1)
  have hz28 : h0.size ≤ h24.size := (Nat.le_trans (Nat.le_trans hz19 E20.1) (Keep.of_wr W24).1)
  obtain ⟨T29, h29, X29, e29, E29, V29, B29, st29⟩ := cloneH X24 hx hZ hown (W 48 rfl) (W 49 rfl) (W 21 rfl) (W 19 rfl) (W 50 rfl) (W 51 rfl) e24 (Arv.arh V_r3_25) E_r3_26 (g := (mkF m 118 #[.val (.ref r0), .val (.ref r1), .val (.ref r2), .val (.ref r3), .val (.int (4 : Int32))] [(.ref r3), (.ref r0)])) rfl (by rw [hml]; rfl) rfl (hb hby d1_118) (by decide) (W := 1) (cap := 4) (own_le rfl) (by decide) (by decide) (by decide) (by decide)
  obtain ⟨b29, gg29⟩ : ∃ z, z = h24.size := ⟨_, rfl⟩
  rw [← gg29] at V29 B29 st29
  have g_b29 : n0 ≤ b29 := Nat.le_trans Z27z (Nat.le_of_eq gg29.symm)
  have sz_b29 : h0.size ≤ b29 := Nat.le_trans hz28 (Nat.le_of_eq gg29.symm)
  have V_b29 : Arv Z h29 b29 k_r3 .double (4 : Int32) [(.double x0), (.double x1), (.double x2), (.double x3)] (.double (0 : UInt64)) := V29
  obtain ⟨T30, X30, e30, st30⟩ := castY X29 hx hZ hown (W 52 rfl) e29 (Ins.self B29) (g := (mkF m 121 #[.val (.ref r0), .val (.ref r1), .val (.ref r2), .val (.ref r3), .val (.int (4 : Int32))] [(.ref b29), (.ref r0)])) rfl rfl (hb hby d1_121)
  have E_r0_31 := ((E_r0_22.wr W24).ext E29)
  have F_entries_r0_32 := ((((((F_entries_r0.keep K2 own_nin0).ext E11).other W15 (Or.inr (slot_ne (Or.inr (W 55 rfl)) (Or.inr (W 45 rfl)) (by decide) (t := (.array .double)) (t' := (.array .int)) (by decide) (by decide)))).ext E20).other W24 (Or.inr (slot_ne (Or.inr (W 55 rfl)) (Or.inr (W 47 rfl)) (by decide) (t := (.array .double)) (t' := (.array .int)) (by decide) (by decide)))).ext E29)
  obtain ⟨T33, h33, X33, e33, W33, st33⟩ := putF X30 hx hZ hown (host := "") (Or.inl (W 54 rfl)) Via.refl e30 F_entries_r0_32 E_r0_31 (Or.inr ⟨(W 55 rfl), rfl, hnm⟩) (W 5 rfl) (ty := (.array .double)) (by decide) rfl rfl (g := (mkF m 124 #[.val (.ref r0), .val (.ref r1), .val (.ref r2), .val (.ref r3), .val (.int (4 : Int32))] [(.ref b29), (.ref r0)])) rfl rfl (hb hby d1_124)
  have Fw33 := F_entries_r0_32.same W33
  have N33 := Fr.snoc X33 N24 g_r0
  obtain ⟨LL33, X33, N33⟩ := own_hide X33 N33
  have KK34 : Keep h0 h33 [r0] := ((((((((Keep.refl h0 [r0]).trans K2 (own_in0)).ext E11).wr W15 (Or.inl (List.mem_of_getElem? (i := 0) rfl))).ext E20).wr W24 (Or.inl (List.mem_of_getElem? (i := 0) rfl))).ext E29).wr W33 (Or.inl (List.mem_of_getElem? (i := 0) rfl)))
  have E_r0_35 := (E_r0_31.wr W33)
  have Fw24_36 := ((Fw24.ext E29).other W33 (Or.inr (slot_ne (Or.inr (W 47 rfl)) (Or.inr (W 55 rfl)) (by decide) (t := (.array .int)) (t' := (.array .double)) (by decide) (by decide))))
  have B20_37 := (((B20.wr W24).ext E29).wr W33)
  have ne_r0_b20 : r0 ≠ b20 := Nat.ne_of_lt (Nat.lt_of_lt_of_le (Nat.lt_of_lt_of_le (E_r0_13).lt (Keep.of_wr W15).1) (Nat.le_of_eq gg20.symm))
  have V_b20_38 := (((V_b20.other W24 (Ne.symm ne_r0_b20)).ext E29).other W33 (Ne.symm ne_r0_b20))
  have ne_r0_b29 : r0 ≠ b29 := Nat.ne_of_lt (Nat.lt_of_lt_of_le (Nat.lt_of_lt_of_le (E_r0_22).lt (Keep.of_wr W24).1) (Nat.le_of_eq gg29.symm))
  have V_b29_39 := (V_b29.other W33 (Ne.symm ne_r0_b29))
  obtain ⟨fs, hr, hrun, hended, hW, hsame⟩ := X33.leave (v := none) (fun _ => rfl)
  refine ⟨_, _, pre0 _ ?_, hrun, hended, _, _, rfl, ?_, ⟨_, rfl⟩, hW, hsame.mono (by decide) (by decide)⟩
  · show Steps p.tables e below (s₁.setTop (mkF m 0 #[.val (.ref r0), .val (.ref r1), .val (.ref r2), .val (.ref r3), .unset] [])) _
    refine XS.aloadN X0.here hx rfl (hb hby d1_0) rfl rfl ?_
    refine st1 _ ?_
    refine XS.aloadN X1.here hx rfl (hb hby d1_4) rfl rfl ?_
    refine XS.aloadN X1.here hx rfl (hb hby d1_5) rfl rfl ?_
    refine st2 _ ?_
    refine XS.aloadN X2.here hx rfl (hb hby d1_9) rfl rfl ?_
    refine st3 _ ?_
    refine XS.aloadN X3.here hx rfl (hb hby d1_13) rfl rfl ?_
    refine X3.arraylength hx (by rw [eq3]; exact Ar_r3_7.1) Al_r3_7 (g := (mkF m 14 #[.val (.ref r0), .val (.ref r1), .val (.ref r2), .val (.ref r3), .unset] [(.ref r3), (.long (4 : Int64))])) rfl rfl (hb hby d1_14) _ ?_
    rw [len_of S_r3_7 N_r3_7]
    refine XS.i2l X3.here hx rfl (hb hby d1_15) rfl ?_
    show Steps p.tables e below (T3.setTop (mkF m 16 #[.val (.ref r0), .val (.ref r1), .val (.ref r2), .val (.ref r3), .unset] [(.long ((4 : Int32).toInt64)), (.long (4 : Int64))])) _
    rw [show ((4 : Int32).toInt64) = (4 : Int64) from (by decide)]
    refine XS.lcmp X3.here hx rfl (hb hby d1_16) rfl ?_
    refine XS.ifYes X3.here hx rfl (pc0 := 17) (pc' := 39) rfl (hb hby d1_17) rfl ((if0 _ _).trans (teq ((lw_eq _ _).mpr (by decide : (4 : Int64) = (4 : Int64)))).1) (by decide) (by decide) ?_
    refine XS.iconst X3.here hx rfl (hb hby d1_39) ?_
    refine XS.istore X3.here hx rfl (hb hby d1_40) rfl (l' := #[.val (.ref r0), .val (.ref r1), .val (.ref r2), .val (.ref r3), .val (.int (0 : Int32))]) rfl ?_
    refine XS.iload X3.here hx rfl (hb hby d1_42) rfl ?_
    refine XS.aloadN X3.here hx rfl (hb hby d1_44) rfl rfl ?_
    refine X3.arraylength hx (by rw [eq3]; exact Ar_r3_7.1) Al_r3_7 (g := (mkF m 45 #[.val (.ref r0), .val (.ref r1), .val (.ref r2), .val (.ref r3), .val (.int (0 : Int32))] [(.ref r3), (.int (0 : Int32))])) rfl rfl (hb hby d1_45) _ ?_
    rw [len_of S_r3_7 N_r3_7]
    refine XS.icmpNo X3.here hx rfl (hb hby d1_46) rfl (tlt (by decide : (0 : Int32) < (4 : Int32))).2.1 ?_
    refine XS.aloadN X3.here hx rfl (hb hby d1_49) rfl rfl ?_
    refine XS.iload X3.here hx rfl (hb hby d1_50) rfl ?_
    refine X3.daload hx (j := (0 : Int32)) (v := (.double x0)) (by rw [eq3]; exact Ar_r3_7.1) Al_r3_7 Ar_r3_7.2.2 hin_r3_7_0 hat_r3_7_0 (g := (mkF m 52 #[.val (.ref r0), .val (.ref r1), .val (.ref r2), .val (.ref r3), .val (.int (0 : Int32))] [(.int (0 : Int32)), (.ref r3)])) rfl rfl (hb hby d1_52) _ ?_
    refine XS.dconst0 X3.here hx rfl (hb hby d1_53) rfl ?_
    refine XS.dcmpS X3.here hx rfl (hb hby d1_54) rfl rfl ?_
    refine XS.ifNo X3.here hx rfl (hb hby d1_55) rfl ((if0 _ _).trans (flt hn_x0).1) ?_
    refine XS.aloadN X3.here hx rfl (hb hby d1_58) rfl rfl ?_
    refine XS.iload X3.here hx rfl (hb hby d1_59) rfl ?_
    refine X3.daload hx (j := (0 : Int32)) (v := (.double x0)) (by rw [eq3]; exact Ar_r3_7.1) Al_r3_7 Ar_r3_7.2.2 hin_r3_7_0 hat_r3_7_0 (g := (mkF m 61 #[.val (.ref r0), .val (.ref r1), .val (.ref r2), .val (.ref r3), .val (.int (0 : Int32))] [(.int (0 : Int32)), (.ref r3)])) rfl rfl (hb hby d1_61) _ ?_
    refine X3.ldc2DoubleC hx hown (mvT hZ (W 43 rfl)) (g := (mkF m 62 #[.val (.ref r0), .val (.ref r1), .val (.ref r2), .val (.ref r3), .val (.int (0 : Int32))] [(.double x0)])) rfl (hb hby d1_62) _ ?_
    refine XS.dcmpS X3.here hx rfl (hb hby d1_65) rfl rfl ?_
    refine XS.ifYes X3.here hx rfl (pc0 := 66) (pc' := 88) rfl (hb hby d1_66) rfl ((if0 _ _).trans (tlt (own_pinf hf_x0)).1) (by decide) (by decide) ?_
    refine XS.iinc X3.here hx rfl (hb hby d1_88) rfl (l' := #[.val (.ref r0), .val (.ref r1), .val (.ref r2), .val (.ref r3), .val (.int ((0 : Int32) + (1 : Int32)))]) rfl ?_
    show Steps p.tables e below (T3.setTop (mkF m 91 #[.val (.ref r0), .val (.ref r1), .val (.ref r2), .val (.ref r3), .val (.int ((0 : Int32) + (1 : Int32)))] [])) _
    rw [show ((0 : Int32) + (1 : Int32)) = (1 : Int32) from (by decide)]
    refine XS.goto X3.here hx rfl (pc0 := 91) (pc' := 42) rfl (hb hby d1_91) (by decide) (by decide) ?_
    refine XS.iload X3.here hx rfl (hb hby d1_42) rfl ?_
    refine XS.aloadN X3.here hx rfl (hb hby d1_44) rfl rfl ?_
    refine X3.arraylength hx (by rw [eq3]; exact Ar_r3_7.1) Al_r3_7 (g := (mkF m 45 #[.val (.ref r0), .val (.ref r1), .val (.ref r2), .val (.ref r3), .val (.int (1 : Int32))] [(.ref r3), (.int (1 : Int32))])) rfl rfl (hb hby d1_45) _ ?_
    rw [len_of S_r3_7 N_r3_7]
    refine XS.icmpNo X3.here hx rfl (hb hby d1_46) rfl (tlt (by decide : (1 : Int32) < (4 : Int32))).2.1 ?_
    refine XS.aloadN X3.here hx rfl (hb hby d1_49) rfl rfl ?_
    refine XS.iload X3.here hx rfl (hb hby d1_50) rfl ?_
    refine X3.daload hx (j := (1 : Int32)) (v := (.double x1)) (by rw [eq3]; exact Ar_r3_7.1) Al_r3_7 Ar_r3_7.2.2 hin_r3_7_1 hat_r3_7_1 (g := (mkF m 52 #[.val (.ref r0), .val (.ref r1), .val (.ref r2), .val (.ref r3), .val (.int (1 : Int32))] [(.int (1 : Int32)), (.ref r3)])) rfl rfl (hb hby d1_52) _ ?_
    refine XS.dconst0 X3.here hx rfl (hb hby d1_53) rfl ?_
    refine XS.dcmpS X3.here hx rfl (hb hby d1_54) rfl rfl ?_
    refine XS.ifNo X3.here hx rfl (hb hby d1_55) rfl ((if0 _ _).trans (flt hn_x1).1) ?_
    refine XS.aloadN X3.here hx rfl (hb hby d1_58) rfl rfl ?_
    refine XS.iload X3.here hx rfl (hb hby d1_59) rfl ?_
    refine X3.daload hx (j := (1 : Int32)) (v := (.double x1)) (by rw [eq3]; exact Ar_r3_7.1) Al_r3_7 Ar_r3_7.2.2 hin_r3_7_1 hat_r3_7_1 (g := (mkF m 61 #[.val (.ref r0), .val (.ref r1), .val (.ref r2), .val (.ref r3), .val (.int (1 : Int32))] [(.int (1 : Int32)), (.ref r3)])) rfl rfl (hb hby d1_61) _ ?_
    refine X3.ldc2DoubleC hx hown (mvT hZ (W 43 rfl)) (g := (mkF m 62 #[.val (.ref r0), .val (.ref r1), .val (.ref r2), .val (.ref r3), .val (.int (1 : Int32))] [(.double x1)])) rfl (hb hby d1_62) _ ?_
    refine XS.dcmpS X3.here hx rfl (hb hby d1_65) rfl rfl ?_
    refine XS.ifYes X3.here hx rfl (pc0 := 66) (pc' := 88) rfl (hb hby d1_66) rfl ((if0 _ _).trans (tlt (own_pinf hf_x1)).1) (by decide) (by decide) ?_
    refine XS.iinc X3.here hx rfl (hb hby d1_88) rfl (l' := #[.val (.ref r0), .val (.ref r1), .val (.ref r2), .val (.ref r3), .val (.int ((1 : Int32) + (1 : Int32)))]) rfl ?_
    show Steps p.tables e below (T3.setTop (mkF m 91 #[.val (.ref r0), .val (.ref r1), .val (.ref r2), .val (.ref r3), .val (.int ((1 : Int32) + (1 : Int32)))] [])) _
    rw [show ((1 : Int32) + (1 : Int32)) = (2 : Int32) from (by decide)]
    refine XS.goto X3.here hx rfl (pc0 := 91) (pc' := 42) rfl (hb hby d1_91) (by decide) (by decide) ?_
    refine XS.iload X3.here hx rfl (hb hby d1_42) rfl ?_
    refine XS.aloadN X3.here hx rfl (hb hby d1_44) rfl rfl ?_
    refine X3.arraylength hx (by rw [eq3]; exact Ar_r3_7.1) Al_r3_7 (g := (mkF m 45 #[.val (.ref r0), .val (.ref r1), .val (.ref r2), .val (.ref r3), .val (.int (2 : Int32))] [(.ref r3), (.int (2 : Int32))])) rfl rfl (hb hby d1_45) _ ?_
    rw [len_of S_r3_7 N_r3_7]
    refine XS.icmpNo X3.here hx rfl (hb hby d1_46) rfl (tlt (by decide : (2 : Int32) < (4 : Int32))).2.1 ?_
    refine XS.aloadN X3.here hx rfl (hb hby d1_49) rfl rfl ?_
    refine XS.iload X3.here hx rfl (hb hby d1_50) rfl ?_
    refine X3.daload hx (j := (2 : Int32)) (v := (.double x2)) (by rw [eq3]; exact Ar_r3_7.1) Al_r3_7 Ar_r3_7.2.2 hin_r3_7_2 hat_r3_7_2 (g := (mkF m 52 #[.val (.ref r0), .val (.ref r1), .val (.ref r2), .val (.ref r3), .val (.int (2 : Int32))] [(.int (2 : Int32)), (.ref r3)])) rfl rfl (hb hby d1_52) _ ?_
    refine XS.dconst0 X3.here hx rfl (hb hby d1_53) rfl ?_
    refine XS.dcmpS X3.here hx rfl (hb hby d1_54) rfl rfl ?_
    refine XS.ifNo X3.here hx rfl (hb hby d1_55) rfl ((if0 _ _).trans (flt hn_x2).1) ?_
    refine XS.aloadN X3.here hx rfl (hb hby d1_58) rfl rfl ?_
    refine XS.iload X3.here hx rfl (hb hby d1_59) rfl ?_
    refine X3.daload hx (j := (2 : Int32)) (v := (.double x2)) (by rw [eq3]; exact Ar_r3_7.1) Al_r3_7 Ar_r3_7.2.2 hin_r3_7_2 hat_r3_7_2 (g := (mkF m 61 #[.val (.ref r0), .val (.ref r1), .val (.ref r2), .val (.ref r3), .val (.int (2 : Int32))] [(.int (2 : Int32)), (.ref r3)])) rfl rfl (hb hby d1_61) _ ?_
    refine X3.ldc2DoubleC hx hown (mvT hZ (W 43 rfl)) (g := (mkF m 62 #[.val (.ref r0), .val (.ref r1), .val (.ref r2), .val (.ref r3), .val (.int (2 : Int32))] [(.double x2)])) rfl (hb hby d1_62) _ ?_
    refine XS.dcmpS X3.here hx rfl (hb hby d1_65) rfl rfl ?_
    refine XS.ifYes X3.here hx rfl (pc0 := 66) (pc' := 88) rfl (hb hby d1_66) rfl ((if0 _ _).trans (tlt (own_pinf hf_x2)).1) (by decide) (by decide) ?_
    refine XS.iinc X3.here hx rfl (hb hby d1_88) rfl (l' := #[.val (.ref r0), .val (.ref r1), .val (.ref r2), .val (.ref r3), .val (.int ((2 : Int32) + (1 : Int32)))]) rfl ?_
    show Steps p.tables e below (T3.setTop (mkF m 91 #[.val (.ref r0), .val (.ref r1), .val (.ref r2), .val (.ref r3), .val (.int ((2 : Int32) + (1 : Int32)))] [])) _
    rw [show ((2 : Int32) + (1 : Int32)) = (3 : Int32) from (by decide)]
    refine XS.goto X3.here hx rfl (pc0 := 91) (pc' := 42) rfl (hb hby d1_91) (by decide) (by decide) ?_
    refine XS.iload X3.here hx rfl (hb hby d1_42) rfl ?_
    refine XS.aloadN X3.here hx rfl (hb hby d1_44) rfl rfl ?_
    refine X3.arraylength hx (by rw [eq3]; exact Ar_r3_7.1) Al_r3_7 (g := (mkF m 45 #[.val (.ref r0), .val (.ref r1), .val (.ref r2), .val (.ref r3), .val (.int (3 : Int32))] [(.ref r3), (.int (3 : Int32))])) rfl rfl (hb hby d1_45) _ ?_
    rw [len_of S_r3_7 N_r3_7]
    refine XS.icmpNo X3.here hx rfl (hb hby d1_46) rfl (tlt (by decide : (3 : Int32) < (4 : Int32))).2.1 ?_
    refine XS.aloadN X3.here hx rfl (hb hby d1_49) rfl rfl ?_
    refine XS.iload X3.here hx rfl (hb hby d1_50) rfl ?_
    refine X3.daload hx (j := (3 : Int32)) (v := (.double x3)) (by rw [eq3]; exact Ar_r3_7.1) Al_r3_7 Ar_r3_7.2.2 hin_r3_7_3 hat_r3_7_3 (g := (mkF m 52 #[.val (.ref r0), .val (.ref r1), .val (.ref r2), .val (.ref r3), .val (.int (3 : Int32))] [(.int (3 : Int32)), (.ref r3)])) rfl rfl (hb hby d1_52) _ ?_
    refine XS.dconst0 X3.here hx rfl (hb hby d1_53) rfl ?_
    refine XS.dcmpS X3.here hx rfl (hb hby d1_54) rfl rfl ?_
    refine XS.ifNo X3.here hx rfl (hb hby d1_55) rfl ((if0 _ _).trans (flt hn_x3).1) ?_
    refine XS.aloadN X3.here hx rfl (hb hby d1_58) rfl rfl ?_
    refine XS.iload X3.here hx rfl (hb hby d1_59) rfl ?_
    refine X3.daload hx (j := (3 : Int32)) (v := (.double x3)) (by rw [eq3]; exact Ar_r3_7.1) Al_r3_7 Ar_r3_7.2.2 hin_r3_7_3 hat_r3_7_3 (g := (mkF m 61 #[.val (.ref r0), .val (.ref r1), .val (.ref r2), .val (.ref r3), .val (.int (3 : Int32))] [(.int (3 : Int32)), (.ref r3)])) rfl rfl (hb hby d1_61) _ ?_
    refine X3.ldc2DoubleC hx hown (mvT hZ (W 43 rfl)) (g := (mkF m 62 #[.val (.ref r0), .val (.ref r1), .val (.ref r2), .val (.ref r3), .val (.int (3 : Int32))] [(.double x3)])) rfl (hb hby d1_62) _ ?_
    refine XS.dcmpS X3.here hx rfl (hb hby d1_65) rfl rfl ?_
    refine XS.ifYes X3.here hx rfl (pc0 := 66) (pc' := 88) rfl (hb hby d1_66) rfl ((if0 _ _).trans (tlt (own_pinf hf_x3)).1) (by decide) (by decide) ?_
    refine XS.iinc X3.here hx rfl (hb hby d1_88) rfl (l' := #[.val (.ref r0), .val (.ref r1), .val (.ref r2), .val (.ref r3), .val (.int ((3 : Int32) + (1 : Int32)))]) rfl ?_
    show Steps p.tables e below (T3.setTop (mkF m 91 #[.val (.ref r0), .val (.ref r1), .val (.ref r2), .val (.ref r3), .val (.int ((3 : Int32) + (1 : Int32)))] [])) _
    rw [show ((3 : Int32) + (1 : Int32)) = (4 : Int32) from (by decide)]
    refine XS.goto X3.here hx rfl (pc0 := 91) (pc' := 42) rfl (hb hby d1_91) (by decide) (by decide) ?_
    refine XS.iload X3.here hx rfl (hb hby d1_42) rfl ?_
    refine XS.aloadN X3.here hx rfl (hb hby d1_44) rfl rfl ?_
    refine X3.arraylength hx (by rw [eq3]; exact Ar_r3_7.1) Al_r3_7 (g := (mkF m 45 #[.val (.ref r0), .val (.ref r1), .val (.ref r2), .val (.ref r3), .val (.int (4 : Int32))] [(.ref r3), (.int (4 : Int32))])) rfl rfl (hb hby d1_45) _ ?_
    rw [len_of S_r3_7 N_r3_7]
    refine XS.icmpYes X3.here hx rfl (pc0 := 46) (pc' := 94) rfl (hb hby d1_46) rfl (flt (by decide : ¬ ((4 : Int32) < (4 : Int32)))).2.1 (by decide) (by decide) ?_
    refine XS.aloadN X3.here hx rfl (hb hby d1_94) rfl rfl ?_
    refine XS.aloadN X3.here hx rfl (hb hby d1_95) rfl rfl ?_
    refine st11 _ ?_
    refine st12 _ ?_
    refine st15 _ ?_
    refine XS.aloadN X15.here hx rfl (hb hby d1_105) rfl rfl ?_
    refine XS.aloadN X15.here hx rfl (hb hby d1_106) rfl rfl ?_
    refine st20 _ ?_
    refine st21 _ ?_
    refine st24 _ ?_
    refine XS.aloadN X24.here hx rfl (hb hby d1_116) rfl rfl ?_
    refine XS.aloadN X24.here hx rfl (hb hby d1_117) rfl rfl ?_
    refine st29 _ ?_
    refine st30 _ ?_
    refine st33 _ ?_
    show Steps p.tables e below (T33.setTop (mkF m 127 #[.val (.ref r0), .val (.ref r1), .val (.ref r2), .val (.ref r3), .val (.int (4 : Int32))] [])) _
    exact X33.returnOut hx Bd.returns (hb hby d1_127) hr
  · show Q_in_12 Z r0 k_r2 k_r3 x0 x1 x2 x3 h0 n0 _ T33.heap _
    rw [e33]
    exact ⟨rfl, N33, KK34, E_r0_35, b20, b29, Fw24_36, Fw33, B20_37, V_b20_38, V_b29_39⟩
abbrev Rrm_es_3_6 : Room := ({ frames := 1, cells := 1, slots := 3, locals := 15 } : Room)
theorem ef_rm_es_3_6 (m : MethodId) (r0 : Addr) : entryFrame m #[(.ref r0), (.int (0 : Int32)), (.int (3 : Int32))] 5 = mkF m 0 #[.val (.ref r0), .val (.int (0 : Int32)), .val (.int (3 : Int32)), .unset, .unset] [] := by first | (simp [entryFrame, mkF, argsToLocals, Value.category]; done) | rfl
def Q_es_3_6 (Z : State) (x0 : UInt64) (x1 : UInt64) (x2 : UInt64) (x3 : UInt64) (x4 : UInt64) (x5 : UInt64) (h0 : Heap) (n0 : Nat) (v : Option Value) (h : Heap) (L : List Loc) : Prop := (∃ (b : Addr) (kb : ClassId), v = some (.ref b) ∧ Arv Z h b kb .double (3 : Int32) [(.double x0), (.double x1), (.double x2)] (.double (0 : UInt64))) ∧ Fr n0 L ∧ Keep h0 h []
set_option maxRecDepth 65536 in
set_option maxHeartbeats 40000000 in
theorem rm_es_3_6 (l : Launch) (Z : State) (a0 : Array Value) (hw : ∀ d ∈ tables_1, d.before a0 Z = true) (ws : List Jvm.Cond) (r0 : Addr) (re : Addr) (x0 : UInt64) (x1 : UInt64) (x2 : UInt64) (x3 : UInt64) (x4 : UInt64) (x5 : UInt64) (k_re : ClassId) (h0 : Heap) (n0 : Nat) (Z0 : n0 ≤ h0.size) (E_r0 : Exa Z h0 r0 "com/example/beliefwire/beliefwire/model/Factor") (F_entries_r0 : Fld Z h0 r0 "com/example/beliefwire/beliefwire/model/Factor" "entries" "[D" (.ref re)) (V_re : Arv Z h0 re k_re .double (6 : Int32) [(.double x0), (.double x1), (.double x2), (.double x3), (.double x4), (.double x5)] (.double (0 : UInt64))) :
    MetFree l (⟨"com/example/beliefwire/beliefwire/io/NoisyMax", "entries", "(Lcom/example/beliefwire/beliefwire/model/Factor;II)[D"⟩ : MethodName) (head1 (Jvm.Cond.code (⟨"com/example/beliefwire/beliefwire/io/NoisyMax", "entries", "(Lcom/example/beliefwire/beliefwire/model/Factor;II)[D"⟩ : MethodName) prog_40_method_6_code 5 (some (.array .double)) :: ws) Rrm_es_3_6) (fun a U => a = #[(.ref r0), (.int (0 : Int32)), (.int (3 : Int32))] ∧ Z.Warmed39 U.vm ∧ U.heap = h0) (fun _ _ _ _ _ => True) (fun _ U o U' => ∃ v L, o = .returned v ∧ Q_es_3_6 Z x0 x1 x2 x3 x4 x5 h0 n0 v U'.heap L ∧ FrameEnd U o U' L Rrm_es_3_6.cells Rrm_es_3_6.slots) := by
  refine MetFree.of_bodySF (plainFor_of_name pn_3) hisR ?_
  intro p e s m args below meth c s₁ Bd hml0 hP hK
  obtain ⟨rfl, hZ, hh⟩ := hP
  have hx := Bd.exec
  have hby := Bd.bytes
  have hml : c.maxLocals = 5 := hml0
  have hown : s.vm.findClass "com/example/beliefwire/beliefwire/io/NoisyMax" = some m.cls := findClass_of_methodNamed Bd.named
  have hnm := (name_of_methodNamed Bd.named Bd.method).1
  have X0 : Stand p l e Rrm_es_3_6 s m #[(.ref r0), (.int (0 : Int32)), (.int (3 : Int32))] below meth c s₁ [] 0 0 := Stand.of_body Bd
  have e0 : s₁.heap = h0 := by rw [← hh, Bd.state]; rfl
  have N0 := Fr.nil n0
  have W := @own_W a0 Z hw
  have pre0 : ∀ t, Steps p.tables e below (s₁.setTop (mkF m 0 #[.val (.ref r0), .val (.int (0 : Int32)), .val (.int (3 : Int32)), .unset, .unset] [])) t → Steps p.tables e below (s₁.setTop (entryFrame m #[(.ref r0), (.int (0 : Int32)), (.int (3 : Int32))] 5)) t := fun t k => castTop (ef_rm_es_3_6 m r0) k
  obtain ⟨T1, h1, k1, X1, e1, E1, A1, B1, st1⟩ := newPE X0 hx hZ (W 1 rfl) e0 (g := (mkF m 1 #[.val (.ref r0), .val (.int (0 : Int32)), .val (.int (3 : Int32)), .unset, .unset] [(.int (3 : Int32))])) rfl (hb hby d11_1) rfl (by decide) (cap := 3) (by decide) (by decide) (by decide) (by decide) (ad := "[D") (by decide)
  obtain ⟨b1, gg1⟩ : ∃ z, z = h0.size := ⟨_, rfl⟩
  rw [← gg1] at A1 B1 st1
  have g_b1 : n0 ≤ b1 := Nat.le_trans Z0 (Nat.le_of_eq gg1.symm)
  have sz_b1 : h0.size ≤ b1 := Nat.le_trans (Nat.le_refl h0.size) (Nat.le_of_eq gg1.symm)
  have V_b1 : Arv Z h1 b1 k1 .double (3 : Int32) [(.double (0 : UInt64)), (.double (0 : UInt64)), (.double (0 : UInt64))] (.double (0 : UInt64)) := (Arv.new A1 (by decide)).pad (pad_rep [] (.double (0 : UInt64)) 3)
  have Z3z : n0 ≤ h1.size := (Nat.le_trans Z0 E1.1)
  have V_re_5 := (V_re.ext E1)
  obtain ⟨cl_re_4, Ar_re_4, q_re_4, S_re_4, N_re_4, H_re_4, G_re_4⟩ := id V_re_5
  have hin_re_4 : ¬ ((0 : Int32) < 0 ∨ cl_re_4.slots.size ≤ ((0 : Int32)).toNatClampNeg) := inb_of S_re_4 ⟨by decide, by decide⟩
  have hat_re_4 : cl_re_4.slots[((0 : Int32)).toNatClampNeg]? = some (.double x0) := H_re_4 _ (by rw [S_re_4]; decide)
  have F_entries_r0_6 := (F_entries_r0.ext E1)
  have E_r0_7 := (E_r0.ext E1)
  obtain ⟨cq2, kq2, q2a, q2b, q2c⟩ := isOf hZ e1 E_r0_7
  obtain ⟨_, _, ⟨T2, L2, k2, n2⟩, -, X2, ⟨Lc2, hQ2, l2, y2, z2⟩, st2⟩ := X1.virtualBack hx (y := (⟨"com/example/beliefwire/beliefwire/model/Factor", "entry", "(I)D"⟩ : MethodName)) (z := (⟨"com/example/beliefwire/beliefwire/model/Factor", "entry", "(I)D"⟩ : MethodName)) hown (mvT hZ (W 68 rfl)) (mvT hZ (W 69 rfl)) (notFace_of_selects (args := #[]) (mvT hZ (W 71 rfl))) (mvT hZ (W 71 rfl)) (mvT hZ (W 70 rfl)) (by decide) (backOf (W := 2) (rm_en l Z a0 hw [] r0 (0 : Int32) re cl_re_4 x0 h1 n0 Z3z F_entries_r0_6 Ar_re_4 hin_re_4 hat_re_4) hZ (W 72 rfl) (W 6 rfl) (by decide) (by decide)) q2a q2c (g := (mkF m 21 #[.val (.ref r0), .val (.int (0 : Int32)), .val (.int (3 : Int32)), .val (.ref b1), .val (.int (0 : Int32))] [(.int (0 : Int32)), (.ref r0), (.int (0 : Int32)), (.ref b1)])) rfl (by rw [hml]; rfl) (Steps.refl _) (argsL := [(.int (0 : Int32))]) (rest := [(.int (0 : Int32)), (.ref b1)]) (lenOf pd_5 rfl) rfl (own_le rfl) (hb hby d11_21) (fun _ _ => ⟨rfl, e1, (by decide : 1 + 0 ≤ _), (by decide : 3 + 0 ≤ _)⟩)
  dsimp only [Pt.U, Pt.locs, Pt.cells, Pt.slots] at X2 l2 y2 z2 st2 hQ2
  subst l2 y2 z2
  obtain ⟨rfl, N2q, eq2⟩ := hQ2
  have N2 := Fr.app N0 N2q
  obtain ⟨LL2, X2, N2⟩ := own_hide X2 N2
  obtain ⟨cl_b1_24_8, Ar_b1_24_8, q_b1_24_8, S_b1_24_8, N_b1_24_8, H_b1_24_8, G_b1_24_8⟩ := id V_b1
  have hin_b1_24_8 : ¬ ((0 : Int32) < 0 ∨ cl_b1_24_8.slots.size ≤ ((0 : Int32)).toNatClampNeg) := inb_of S_b1_24_8 ⟨by decide, by decide⟩
  obtain ⟨T9, h9, X9, e9, W9, st9⟩ := stD X2 hx hZ eq2 Ar_b1_24_8 (j := (0 : Int32)) hin_b1_24_8 (g := (mkF m 24 #[.val (.ref r0), .val (.int (0 : Int32)), .val (.int (3 : Int32)), .val (.ref b1), .val (.int (0 : Int32))] [(.double x0), (.int (0 : Int32)), (.ref b1)])) rfl rfl (hb hby d11_24)
  have V_b1_9 := Arv.set Ar_b1_24_8 q_b1_24_8 S_b1_24_8 N_b1_24_8 H_b1_24_8 G_b1_24_8 rfl W9 0 rfl (Nat.le_of_ble_eq_true rfl)
  have N9 := Fr.snoc X9 N2 g_b1
  obtain ⟨LL9, X9, N9⟩ := own_hide X9 N9
  have Z11z : n0 ≤ h9.size := (Nat.le_trans Z3z (Keep.of_wr W9).1)
  have ne_re_b1 : re ≠ b1 := Nat.ne_of_lt (Nat.lt_of_lt_of_le (V_re).lt (Nat.le_of_eq gg1.symm))
  have V_re_13 := (V_re_5.other W9 ne_re_b1)
  obtain ⟨cl_re_12, Ar_re_12, q_re_12, S_re_12, N_re_12, H_re_12, G_re_12⟩ := id V_re_13
  have hin_re_12 : ¬ ((1 : Int32) < 0 ∨ cl_re_12.slots.size ≤ ((1 : Int32)).toNatClampNeg) := inb_of S_re_12 ⟨by decide, by decide⟩
  have hat_re_12 : cl_re_12.slots[((1 : Int32)).toNatClampNeg]? = some (.double x1) := H_re_12 _ (by rw [S_re_12]; decide)
  have ne_r0_b1 : r0 ≠ b1 := Nat.ne_of_lt (Nat.lt_of_lt_of_le (E_r0).lt (Nat.le_of_eq gg1.symm))
  have F_entries_r0_14 := (F_entries_r0_6.other W9 (Or.inl ne_r0_b1))
  have E_r0_15 := (E_r0_7.wr W9)
  obtain ⟨cq10, kq10, q10a, q10b, q10c⟩ := isOf hZ e9 E_r0_15
  obtain ⟨_, _, ⟨T10, L10, k10, n10⟩, -, X10, ⟨Lc10, hQ10, l10, y10, z10⟩, st10⟩ := X9.virtualBack hx (y := (⟨"com/example/beliefwire/beliefwire/model/Factor", "entry", "(I)D"⟩ : MethodName)) (z := (⟨"com/example/beliefwire/beliefwire/model/Factor", "entry", "(I)D"⟩ : MethodName)) hown (mvT hZ (W 68 rfl)) (mvT hZ (W 69 rfl)) (notFace_of_selects (args := #[]) (mvT hZ (W 71 rfl))) (mvT hZ (W 71 rfl)) (mvT hZ (W 70 rfl)) (by decide) (backOf (W := 2) (rm_en l Z a0 hw [] r0 (1 : Int32) re cl_re_12 x1 h9 n0 Z11z F_entries_r0_14 Ar_re_12 hin_re_12 hat_re_12) hZ (W 72 rfl) (W 6 rfl) (by decide) (by decide)) q10a q10c (g := (mkF m 21 #[.val (.ref r0), .val (.int (0 : Int32)), .val (.int (3 : Int32)), .val (.ref b1), .val (.int (1 : Int32))] [(.int (1 : Int32)), (.ref r0), (.int (1 : Int32)), (.ref b1)])) rfl (by rw [hml]; rfl) (Steps.refl _) (argsL := [(.int (1 : Int32))]) (rest := [(.int (1 : Int32)), (.ref b1)]) (lenOf pd_5 rfl) rfl (own_le rfl) (hb hby d11_21) (fun _ _ => ⟨rfl, e9, (by decide : 1 + 0 ≤ _), (by decide : 3 + 0 ≤ _)⟩)
  dsimp only [Pt.U, Pt.locs, Pt.cells, Pt.slots] at X10 l10 y10 z10 st10 hQ10
  subst l10 y10 z10
  obtain ⟨rfl, N10q, eq10⟩ := hQ10
  have N10 := Fr.app N9 N10q
  obtain ⟨LL10, X10, N10⟩ := own_hide X10 N10
  obtain ⟨cl_b1_24_16, Ar_b1_24_16, q_b1_24_16, S_b1_24_16, N_b1_24_16, H_b1_24_16, G_b1_24_16⟩ := id V_b1_9
  have hin_b1_24_16 : ¬ ((1 : Int32) < 0 ∨ cl_b1_24_16.slots.size ≤ ((1 : Int32)).toNatClampNeg) := inb_of S_b1_24_16 ⟨by decide, by decide⟩
  obtain ⟨T17, h17, X17, e17, W17, st17⟩ := stD X10 hx hZ eq10 Ar_b1_24_16 (j := (1 : Int32)) hin_b1_24_16 (g := (mkF m 24 #[.val (.ref r0), .val (.int (0 : Int32)), .val (.int (3 : Int32)), .val (.ref b1), .val (.int (1 : Int32))] [(.double x1), (.int (1 : Int32)), (.ref b1)])) rfl rfl (hb hby d11_24)
  have V_b1_17 := Arv.set Ar_b1_24_16 q_b1_24_16 S_b1_24_16 N_b1_24_16 H_b1_24_16 G_b1_24_16 rfl W17 1 rfl (Nat.le_of_ble_eq_true rfl)
  have N17 := Fr.snoc X17 N10 g_b1
  obtain ⟨LL17, X17, N17⟩ := own_hide X17 N17
  have Z19z : n0 ≤ h17.size := (Nat.le_trans Z11z (Keep.of_wr W17).1)
  have V_re_21 := (V_re_13.other W17 ne_re_b1)
  obtain ⟨cl_re_20, Ar_re_20, q_re_20, S_re_20, N_re_20, H_re_20, G_re_20⟩ := id V_re_21
  have hin_re_20 : ¬ ((2 : Int32) < 0 ∨ cl_re_20.slots.size ≤ ((2 : Int32)).toNatClampNeg) := inb_of S_re_20 ⟨by decide, by decide⟩
  have hat_re_20 : cl_re_20.slots[((2 : Int32)).toNatClampNeg]? = some (.double x2) := H_re_20 _ (by rw [S_re_20]; decide)
  have F_entries_r0_22 := (F_entries_r0_14.other W17 (Or.inl ne_r0_b1))
  have E_r0_23 := (E_r0_15.wr W17)
  obtain ⟨cq18, kq18, q18a, q18b, q18c⟩ := isOf hZ e17 E_r0_23
  obtain ⟨_, _, ⟨T18, L18, k18, n18⟩, -, X18, ⟨Lc18, hQ18, l18, y18, z18⟩, st18⟩ := X17.virtualBack hx (y := (⟨"com/example/beliefwire/beliefwire/model/Factor", "entry", "(I)D"⟩ : MethodName)) (z := (⟨"com/example/beliefwire/beliefwire/model/Factor", "entry", "(I)D"⟩ : MethodName)) hown (mvT hZ (W 68 rfl)) (mvT hZ (W 69 rfl)) (notFace_of_selects (args := #[]) (mvT hZ (W 71 rfl))) (mvT hZ (W 71 rfl)) (mvT hZ (W 70 rfl)) (by decide) (backOf (W := 2) (rm_en l Z a0 hw [] r0 (2 : Int32) re cl_re_20 x2 h17 n0 Z19z F_entries_r0_22 Ar_re_20 hin_re_20 hat_re_20) hZ (W 72 rfl) (W 6 rfl) (by decide) (by decide)) q18a q18c (g := (mkF m 21 #[.val (.ref r0), .val (.int (0 : Int32)), .val (.int (3 : Int32)), .val (.ref b1), .val (.int (2 : Int32))] [(.int (2 : Int32)), (.ref r0), (.int (2 : Int32)), (.ref b1)])) rfl (by rw [hml]; rfl) (Steps.refl _) (argsL := [(.int (2 : Int32))]) (rest := [(.int (2 : Int32)), (.ref b1)]) (lenOf pd_5 rfl) rfl (own_le rfl) (hb hby d11_21) (fun _ _ => ⟨rfl, e17, (by decide : 1 + 0 ≤ _), (by decide : 3 + 0 ≤ _)⟩)
  dsimp only [Pt.U, Pt.locs, Pt.cells, Pt.slots] at X18 l18 y18 z18 st18 hQ18
  subst l18 y18 z18
  obtain ⟨rfl, N18q, eq18⟩ := hQ18
  have N18 := Fr.app N17 N18q
  obtain ⟨LL18, X18, N18⟩ := own_hide X18 N18
  obtain ⟨cl_b1_24_24, Ar_b1_24_24, q_b1_24_24, S_b1_24_24, N_b1_24_24, H_b1_24_24, G_b1_24_24⟩ := id V_b1_17
  have hin_b1_24_24 : ¬ ((2 : Int32) < 0 ∨ cl_b1_24_24.slots.size ≤ ((2 : Int32)).toNatClampNeg) := inb_of S_b1_24_24 ⟨by decide, by decide⟩
  obtain ⟨T25, h25, X25, e25, W25, st25⟩ := stD X18 hx hZ eq18 Ar_b1_24_24 (j := (2 : Int32)) hin_b1_24_24 (g := (mkF m 24 #[.val (.ref r0), .val (.int (0 : Int32)), .val (.int (3 : Int32)), .val (.ref b1), .val (.int (2 : Int32))] [(.double x2), (.int (2 : Int32)), (.ref b1)])) rfl rfl (hb hby d11_24)
  have V_b1_25 := Arv.set Ar_b1_24_24 q_b1_24_24 S_b1_24_24 N_b1_24_24 H_b1_24_24 G_b1_24_24 rfl W25 2 rfl (Nat.le_of_ble_eq_true rfl)
  have N25 := Fr.snoc X25 N18 g_b1
  obtain ⟨LL25, X25, N25⟩ := own_hide X25 N25
  have KK26 : Keep h0 h25 [] := (((((Keep.refl h0 []).ext E1).wr W9 (Or.inr sz_b1)).wr W17 (Or.inr sz_b1)).wr W25 (Or.inr sz_b1))
  obtain ⟨fs, hr, hrun, hended, hW, hsame⟩ := X25.leave (v := some (.ref b1)) (fun h => by rw [Bd.returns] at h; cases h)
  refine ⟨_, _, pre0 _ ?_, hrun, hended, _, _, rfl, ?_, ⟨_, rfl⟩, hW, hsame.mono (by decide) (by decide)⟩
  · show Steps p.tables e below (s₁.setTop (mkF m 0 #[.val (.ref r0), .val (.int (0 : Int32)), .val (.int (3 : Int32)), .unset, .unset] [])) _
    refine XS.iloadN X0.here hx rfl (hb hby d11_0) rfl ?_
    refine st1 _ ?_
    refine XS.astoreN X1.here hx rfl (hb hby d11_3) rfl rfl (l' := #[.val (.ref r0), .val (.int (0 : Int32)), .val (.int (3 : Int32)), .val (.ref b1), .unset]) rfl ?_
    refine XS.iconst X1.here hx rfl (hb hby d11_4) ?_
    refine XS.istore X1.here hx rfl (hb hby d11_5) rfl (l' := #[.val (.ref r0), .val (.int (0 : Int32)), .val (.int (3 : Int32)), .val (.ref b1), .val (.int (0 : Int32))]) rfl ?_
    refine XS.iload X1.here hx rfl (hb hby d11_7) rfl ?_
    refine XS.iloadN X1.here hx rfl (hb hby d11_9) rfl ?_
    refine XS.icmpNo X1.here hx rfl (hb hby d11_10) rfl (tlt (by decide : (0 : Int32) < (3 : Int32))).2.1 ?_
    refine XS.aloadN X1.here hx rfl (hb hby d11_13) rfl rfl ?_
    refine XS.iload X1.here hx rfl (hb hby d11_14) rfl ?_
    refine XS.aloadN X1.here hx rfl (hb hby d11_16) rfl rfl ?_
    refine XS.iloadN X1.here hx rfl (hb hby d11_17) rfl ?_
    refine XS.iload X1.here hx rfl (hb hby d11_18) rfl ?_
    refine XS.iadd X1.here hx rfl (hb hby d11_20) rfl ?_
    show Steps p.tables e below (T1.setTop (mkF m 21 #[.val (.ref r0), .val (.int (0 : Int32)), .val (.int (3 : Int32)), .val (.ref b1), .val (.int (0 : Int32))] [(.int ((0 : Int32) + (0 : Int32))), (.ref r0), (.int (0 : Int32)), (.ref b1)])) _
    rw [show ((0 : Int32) + (0 : Int32)) = (0 : Int32) from (by decide)]
    refine st2.trans ?_
    refine st9 _ ?_
    refine XS.iinc X9.here hx rfl (hb hby d11_25) rfl (l' := #[.val (.ref r0), .val (.int (0 : Int32)), .val (.int (3 : Int32)), .val (.ref b1), .val (.int ((0 : Int32) + (1 : Int32)))]) rfl ?_
    show Steps p.tables e below (T9.setTop (mkF m 28 #[.val (.ref r0), .val (.int (0 : Int32)), .val (.int (3 : Int32)), .val (.ref b1), .val (.int ((0 : Int32) + (1 : Int32)))] [])) _
    rw [show ((0 : Int32) + (1 : Int32)) = (1 : Int32) from (by decide)]
    refine XS.goto X9.here hx rfl (pc0 := 28) (pc' := 7) rfl (hb hby d11_28) (by decide) (by decide) ?_
    refine XS.iload X9.here hx rfl (hb hby d11_7) rfl ?_
    refine XS.iloadN X9.here hx rfl (hb hby d11_9) rfl ?_
    refine XS.icmpNo X9.here hx rfl (hb hby d11_10) rfl (tlt (by decide : (1 : Int32) < (3 : Int32))).2.1 ?_
    refine XS.aloadN X9.here hx rfl (hb hby d11_13) rfl rfl ?_
    refine XS.iload X9.here hx rfl (hb hby d11_14) rfl ?_
    refine XS.aloadN X9.here hx rfl (hb hby d11_16) rfl rfl ?_
    refine XS.iloadN X9.here hx rfl (hb hby d11_17) rfl ?_
    refine XS.iload X9.here hx rfl (hb hby d11_18) rfl ?_
    refine XS.iadd X9.here hx rfl (hb hby d11_20) rfl ?_
    show Steps p.tables e below (T9.setTop (mkF m 21 #[.val (.ref r0), .val (.int (0 : Int32)), .val (.int (3 : Int32)), .val (.ref b1), .val (.int (1 : Int32))] [(.int ((0 : Int32) + (1 : Int32))), (.ref r0), (.int (1 : Int32)), (.ref b1)])) _
    rw [show ((0 : Int32) + (1 : Int32)) = (1 : Int32) from (by decide)]
    refine st10.trans ?_
    refine st17 _ ?_
    refine XS.iinc X17.here hx rfl (hb hby d11_25) rfl (l' := #[.val (.ref r0), .val (.int (0 : Int32)), .val (.int (3 : Int32)), .val (.ref b1), .val (.int ((1 : Int32) + (1 : Int32)))]) rfl ?_
    show Steps p.tables e below (T17.setTop (mkF m 28 #[.val (.ref r0), .val (.int (0 : Int32)), .val (.int (3 : Int32)), .val (.ref b1), .val (.int ((1 : Int32) + (1 : Int32)))] [])) _
    rw [show ((1 : Int32) + (1 : Int32)) = (2 : Int32) from (by decide)]
    refine XS.goto X17.here hx rfl (pc0 := 28) (pc' := 7) rfl (hb hby d11_28) (by decide) (by decide) ?_
    refine XS.iload X17.here hx rfl (hb hby d11_7) rfl ?_
    refine XS.iloadN X17.here hx rfl (hb hby d11_9) rfl ?_
    refine XS.icmpNo X17.here hx rfl (hb hby d11_10) rfl (tlt (by decide : (2 : Int32) < (3 : Int32))).2.1 ?_
    refine XS.aloadN X17.here hx rfl (hb hby d11_13) rfl rfl ?_
    refine XS.iload X17.here hx rfl (hb hby d11_14) rfl ?_
    refine XS.aloadN X17.here hx rfl (hb hby d11_16) rfl rfl ?_
    refine XS.iloadN X17.here hx rfl (hb hby d11_17) rfl ?_
    refine XS.iload X17.here hx rfl (hb hby d11_18) rfl ?_
    refine XS.iadd X17.here hx rfl (hb hby d11_20) rfl ?_
    show Steps p.tables e below (T17.setTop (mkF m 21 #[.val (.ref r0), .val (.int (0 : Int32)), .val (.int (3 : Int32)), .val (.ref b1), .val (.int (2 : Int32))] [(.int ((0 : Int32) + (2 : Int32))), (.ref r0), (.int (2 : Int32)), (.ref b1)])) _
    rw [show ((0 : Int32) + (2 : Int32)) = (2 : Int32) from (by decide)]
    refine st18.trans ?_
    refine st25 _ ?_
    refine XS.iinc X25.here hx rfl (hb hby d11_25) rfl (l' := #[.val (.ref r0), .val (.int (0 : Int32)), .val (.int (3 : Int32)), .val (.ref b1), .val (.int ((2 : Int32) + (1 : Int32)))]) rfl ?_
    show Steps p.tables e below (T25.setTop (mkF m 28 #[.val (.ref r0), .val (.int (0 : Int32)), .val (.int (3 : Int32)), .val (.ref b1), .val (.int ((2 : Int32) + (1 : Int32)))] [])) _
    rw [show ((2 : Int32) + (1 : Int32)) = (3 : Int32) from (by decide)]
    refine XS.goto X25.here hx rfl (pc0 := 28) (pc' := 7) rfl (hb hby d11_28) (by decide) (by decide) ?_
    refine XS.iload X25.here hx rfl (hb hby d11_7) rfl ?_
    refine XS.iloadN X25.here hx rfl (hb hby d11_9) rfl ?_
    refine XS.icmpYes X25.here hx rfl (pc0 := 10) (pc' := 31) rfl (hb hby d11_10) rfl (flt (by decide : ¬ ((3 : Int32) < (3 : Int32)))).2.1 (by decide) (by decide) ?_
    refine XS.aloadN X25.here hx rfl (hb hby d11_31) rfl rfl ?_
    show Steps p.tables e below (T25.setTop (mkF m 32 #[.val (.ref r0), .val (.int (0 : Int32)), .val (.int (3 : Int32)), .val (.ref b1), .val (.int (3 : Int32))] [(.ref b1)])) _
    jvm_step X25.here [X25.here.top, hx, (hb hby d11_32), X25.method', Bd.returns, Value.isRef, FieldType.isReference]
    first | (intro acts; rw [hr _ acts rfl rfl rfl]) | rw [hr _ _ rfl rfl rfl]
    exact Steps.refl _
  · show Q_es_3_6 Z x0 x1 x2 x3 x4 x5 h0 n0 _ T25.heap _
    rw [e25]
    exact ⟨⟨b1, _, rfl, V_b1_25⟩, N25, KK26⟩
abbrev Rrm_lk_13 : Room := ({ frames := 2, cells := 2, slots := 5, locals := 31 } : Room)
theorem ef_rm_lk_13 (m : MethodId) (r0 : Addr) : entryFrame m #[(.ref r0)] 2 = mkF m 0 #[.val (.ref r0), .unset] [] := by first | (simp [entryFrame, mkF, argsToLocals, Value.category]; done) | rfl
def Q_lk_13 (Z : State) (x0 : UInt64) (x1 : UInt64) (x2 : UInt64) (x3 : UInt64) (x4 : UInt64) (x5 : UInt64) (h0 : Heap) (n0 : Nat) (v : Option Value) (h : Heap) (L : List Loc) : Prop := (∃ (b : Addr) (kb : ClassId), v = some (.ref b) ∧ Arv Z h b kb .double (3 : Int32) [(.double x0), (.double x1), (.double x2)] (.double (0 : UInt64))) ∧ Fr n0 L ∧ Keep h0 h []
set_option maxRecDepth 65536 in
set_option maxHeartbeats 40000000 in
theorem rm_lk_13 (l : Launch) (Z : State) (a0 : Array Value) (hw : ∀ d ∈ tables_1, d.before a0 Z = true) (ws : List Jvm.Cond) (r0 : Addr) (rc : Addr) (re : Addr) (x0 : UInt64) (x1 : UInt64) (x2 : UInt64) (x3 : UInt64) (x4 : UInt64) (x5 : UInt64) (k_rc : ClassId) (k_re : ClassId) (h0 : Heap) (n0 : Nat) (Z0 : n0 ≤ h0.size) (E_r0 : Exa Z h0 r0 "com/example/beliefwire/beliefwire/model/Factor") (F_cardinalities_r0 : Fld Z h0 r0 "com/example/beliefwire/beliefwire/model/Factor" "cardinalities" "[I" (.ref rc)) (V_rc : Arv Z h0 rc k_rc .int (2 : Int32) [(.int (2 : Int32)), (.int (3 : Int32))] (.int (0 : Int32))) (E_rc : Exa Z h0 rc "[I") (F_entries_r0 : Fld Z h0 r0 "com/example/beliefwire/beliefwire/model/Factor" "entries" "[D" (.ref re)) (V_re : Arv Z h0 re k_re .double (6 : Int32) [(.double x0), (.double x1), (.double x2), (.double x3), (.double x4), (.double x5)] (.double (0 : UInt64))) :
    MetFree l (⟨"com/example/beliefwire/beliefwire/io/NoisyMax", "leak", "(Lcom/example/beliefwire/beliefwire/model/Factor;)[D"⟩ : MethodName) (head1 (Jvm.Cond.code (⟨"com/example/beliefwire/beliefwire/io/NoisyMax", "leak", "(Lcom/example/beliefwire/beliefwire/model/Factor;)[D"⟩ : MethodName) prog_40_method_4_code 2 (some (.array .double)) :: ws) Rrm_lk_13) (fun a U => a = #[(.ref r0)] ∧ Z.Warmed39 U.vm ∧ U.heap = h0) (fun _ _ _ _ _ => True) (fun _ U o U' => ∃ v L, o = .returned v ∧ Q_lk_13 Z x0 x1 x2 x3 x4 x5 h0 n0 v U'.heap L ∧ FrameEnd U o U' L Rrm_lk_13.cells Rrm_lk_13.slots) := by
  refine MetFree.of_bodySF (plainFor_of_name pn_3) hisR ?_
  intro p e s m args below meth c s₁ Bd hml0 hP hK
  obtain ⟨rfl, hZ, hh⟩ := hP
  have hx := Bd.exec
  have hby := Bd.bytes
  have hml : c.maxLocals = 2 := hml0
  have hown : s.vm.findClass "com/example/beliefwire/beliefwire/io/NoisyMax" = some m.cls := findClass_of_methodNamed Bd.named
  have hnm := (name_of_methodNamed Bd.named Bd.method).1
  have X0 : Stand p l e Rrm_lk_13 s m #[(.ref r0)] below meth c s₁ [] 0 0 := Stand.of_body Bd
  have e0 : s₁.heap = h0 := by rw [← hh, Bd.state]; rfl
  have N0 := Fr.nil n0
  have W := @own_W a0 Z hw
  have pre0 : ∀ t, Steps p.tables e below (s₁.setTop (mkF m 0 #[.val (.ref r0), .unset] [])) t → Steps p.tables e below (s₁.setTop (entryFrame m #[(.ref r0)] 2)) t := fun t k => castTop (ef_rm_lk_13 m r0) k
  obtain ⟨cq1, kq1, q1a, q1b, q1c⟩ := isOf hZ e0 E_r0
  obtain ⟨_, _, ⟨T1, L1, k1, n1⟩, -, X1, ⟨Lc1, hQ1, l1, y1, z1⟩, st1⟩ := X0.virtualBack hx (y := (⟨"com/example/beliefwire/beliefwire/model/Factor", "cardinalities", "()[I"⟩ : MethodName)) (z := (⟨"com/example/beliefwire/beliefwire/model/Factor", "cardinalities", "()[I"⟩ : MethodName)) hown (mvT hZ (W 60 rfl)) (mvT hZ (W 61 rfl)) (notFace_of_selects (args := #[]) (mvT hZ (W 63 rfl))) (mvT hZ (W 63 rfl)) (mvT hZ (W 62 rfl)) (by decide) (backOf (W := 0) (rm_ca_1 l Z a0 hw [] r0 rc (3 : Int32) k_rc h0 n0 Z0 F_cardinalities_r0 V_rc E_rc) hZ (W 64 rfl) (W 6 rfl) (by decide) (by decide)) q1a q1c (g := (mkF m 1 #[.val (.ref r0), .unset] [(.ref r0)])) rfl (by rw [hml]; rfl) (Steps.refl _) (argsL := []) (rest := []) (lenOf pd_6 rfl) rfl (own_le rfl) (hb hby d9_1) (fun _ _ => ⟨rfl, e0, (by decide : 0 + 1 ≤ _), (by decide : 0 + 2 ≤ _)⟩)
  dsimp only [Pt.U, Pt.locs, Pt.cells, Pt.slots] at X1 l1 y1 z1 st1 hQ1
  subst l1 y1 z1
  obtain ⟨⟨b1, rfl, V1⟩, N1q, K1⟩ := hQ1
  have N1 := Fr.app N0 N1q
  obtain ⟨LL1, X1, N1⟩ := own_hide X1 N1
  obtain ⟨cl_b1_2, Ar_b1_2, q_b1_2, S_b1_2, N_b1_2, H_b1_2, G_b1_2⟩ := id V1
  have Al_b1_2 := State.isArrayOf_alike hZ.alike Ar_b1_2.2.1
  have hin_b1_2_1 : ¬ ((1 : Int32) < 0 ∨ cl_b1_2.slots.size ≤ ((1 : Int32)).toNatClampNeg) := inb_of S_b1_2 ⟨by decide, by decide⟩
  have hat_b1_2_1 : cl_b1_2.slots[((1 : Int32)).toNatClampNeg]? = some (.int (3 : Int32)) := H_b1_2 _ (by rw [S_b1_2]; decide)
  have Z4z : n0 ≤ T1.heap.size := (Nat.le_trans Z0 K1.1)
  have E_r0_5 := (E_r0.keep K1)
  have F_entries_r0_6 := (F_entries_r0.keep K1 own_nin0)
  have V_re_7 := (V_re.keep K1 own_nin0)
  obtain ⟨_, _, ⟨T3, L3, k3, n3⟩, -, X3, ⟨Lc3, hQ3, l3, y3, z3⟩, st3⟩ := Jvm.LawKit.callS X1 hx (y := (⟨"com/example/beliefwire/beliefwire/io/NoisyMax", "entries", "(Lcom/example/beliefwire/beliefwire/model/Factor;II)[D"⟩ : MethodName)) hown (mvT hZ (W 65 rfl)) (mvT hZ (W 66 rfl)) (mvT hZ (W 58 rfl)) (mvT hZ (W 67 rfl)) (by decide) (backOf (W := 0) (rm_es_3_6 l Z a0 hw [] r0 re x0 x1 x2 x3 x4 x5 k_re T1.heap n0 Z4z E_r0_5 F_entries_r0_6 V_re_7) hZ (W 67 rfl) (W 58 rfl) (by decide) (by decide)) (g := (mkF m 13 #[.val (.ref r0), .val (.ref b1)] [(.int (3 : Int32)), (.int (0 : Int32)), (.ref r0)])) rfl (by rw [hml]; rfl) (argsL := [(.ref r0), (.int (0 : Int32)), (.int (3 : Int32))]) (rest := []) (lenOf pd_7 rfl) rfl (own_le rfl) (hb hby d9_13) (fun _ _ => ⟨rfl, rfl, (by decide : 1 + 1 ≤ _), (by decide : 2 + 3 ≤ _)⟩)
  dsimp only [Pt.U, Pt.locs, Pt.cells, Pt.slots] at X3 l3 y3 z3 st3 hQ3
  subst l3 y3 z3
  obtain ⟨⟨b3, kb3, rfl, V3⟩, N3q, K3⟩ := hQ3
  have N3 := Fr.app N1 N3q
  obtain ⟨LL3, X3, N3⟩ := own_hide X3 N3
  have KK8 : Keep h0 T3.heap [] := (((Keep.refl h0 []).trans K1 (own_in0)).trans K3 (own_in0))
  obtain ⟨fs, hr, hrun, hended, hW, hsame⟩ := X3.leave (v := some (.ref b3)) (fun h => by rw [Bd.returns] at h; cases h)
  refine ⟨_, _, pre0 _ ?_, hrun, hended, _, _, rfl, ?_, ⟨_, rfl⟩, hW, hsame.mono (by decide) (by decide)⟩
  · show Steps p.tables e below (s₁.setTop (mkF m 0 #[.val (.ref r0), .unset] [])) _
    refine XS.aloadN X0.here hx rfl (hb hby d9_0) rfl rfl ?_
    refine st1.trans ?_
    refine XS.astoreN X1.here hx rfl (hb hby d9_4) rfl rfl (l' := #[.val (.ref r0), .val (.ref b1)]) rfl ?_
    refine XS.aloadN X1.here hx rfl (hb hby d9_5) rfl rfl ?_
    refine XS.iconst X1.here hx rfl (hb hby d9_6) ?_
    refine XS.aloadN X1.here hx rfl (hb hby d9_7) rfl rfl ?_
    refine XS.aloadN X1.here hx rfl (hb hby d9_8) rfl rfl ?_
    refine X1.arraylength hx Ar_b1_2.1 Al_b1_2 (g := (mkF m 9 #[.val (.ref r0), .val (.ref b1)] [(.ref b1), (.ref b1), (.int (0 : Int32)), (.ref r0)])) rfl rfl (hb hby d9_9) _ ?_
    rw [len_of S_b1_2 N_b1_2]
    refine XS.iconst X1.here hx rfl (hb hby d9_10) ?_
    refine XS.isub X1.here hx rfl (hb hby d9_11) rfl ?_
    show Steps p.tables e below (T1.setTop (mkF m 12 #[.val (.ref r0), .val (.ref b1)] [(.int ((2 : Int32) - (1 : Int32))), (.ref b1), (.int (0 : Int32)), (.ref r0)])) _
    rw [show ((2 : Int32) - (1 : Int32)) = (1 : Int32) from (by decide)]
    refine X1.iaload hx (j := (1 : Int32)) (v := (.int (3 : Int32))) Ar_b1_2.1 Al_b1_2 Ar_b1_2.2.2 hin_b1_2_1 hat_b1_2_1 (g := (mkF m 12 #[.val (.ref r0), .val (.ref b1)] [(.int (1 : Int32)), (.ref b1), (.int (0 : Int32)), (.ref r0)])) rfl rfl (hb hby d9_12) _ ?_
    refine st3 _ ?_
    show Steps p.tables e below (T3.setTop (mkF m 16 #[.val (.ref r0), .val (.ref b1)] [(.ref b3)])) _
    jvm_step X3.here [X3.here.top, hx, (hb hby d9_16), X3.method', Bd.returns, Value.isRef, FieldType.isReference]
    first | (intro acts; rw [hr _ acts rfl rfl rfl]) | rw [hr _ _ rfl rfl rfl]
    exact Steps.refl _
  · show Q_lk_13 Z x0 x1 x2 x3 x4 x5 h0 n0 _ T3.heap _
    exact ⟨⟨b3, _, rfl, V3⟩, N3, KK8⟩
abbrev Rrm_in_13 : Room := ({ frames := 5, cells := 4, slots := 12, locals := 96 } : Room)
theorem ef_rm_in_13 (m : MethodId) (r0 : Addr) (r1 : Addr) (r2 : Addr) (r3 : Addr) : entryFrame m #[(.ref r0), (.ref r1), (.ref r2), (.ref r3)] 5 = mkF m 0 #[.val (.ref r0), .val (.ref r1), .val (.ref r2), .val (.ref r3), .unset] [] := by first | (simp [entryFrame, mkF, argsToLocals, Value.category]; done) | rfl
def Q_in_13 (Z : State) (r0 : Addr) (k_r2 : ClassId) (k_r3 : ClassId) (x0 : UInt64) (x1 : UInt64) (x2 : UInt64) (x3 : UInt64) (x4 : UInt64) (x5 : UInt64) (h0 : Heap) (n0 : Nat) (v : Option Value) (h : Heap) (L : List Loc) : Prop := v = none ∧ Fr n0 L ∧ Keep h0 h [r0] ∧ Exa Z h r0 "com/example/beliefwire/beliefwire/model/Factor" ∧ ∃ bc be : Addr, Fld Z h r0 "com/example/beliefwire/beliefwire/model/Factor" "cardinalities" "[I" (.ref bc) ∧ Fld Z h r0 "com/example/beliefwire/beliefwire/model/Factor" "entries" "[D" (.ref be) ∧ Exa Z h bc "[I" ∧ Arv Z h bc k_r2 .int (2 : Int32) [(.int (2 : Int32)), (.int (3 : Int32))] (.int (0 : Int32)) ∧ Arv Z h be k_r3 .double (6 : Int32) [(.double x0), (.double x1), (.double x2), (.double x3), (.double x4), (.double x5)] (.double (0 : UInt64))
set_option maxRecDepth 65536 in
set_option maxHeartbeats 40000000 in
theorem rm_in_13 (l : Launch) (Z : State) (a0 : Array Value) (hw : ∀ d ∈ tables_1, d.before a0 Z = true) (ws : List Jvm.Cond) (r0 : Addr) (r1 : Addr) (r2 : Addr) (r3 : Addr) (x0 : UInt64) (x1 : UInt64) (x2 : UInt64) (x3 : UInt64) (x4 : UInt64) (x5 : UInt64) (u_scope_r0 : Value) (u_cardinalities_r0 : Value) (u_entries_r0 : Value) (k_r1 : ClassId) (k_r2 : ClassId) (k_r3 : ClassId) (h0 : Heap) (n0 : Nat) (Z0 : n0 ≤ h0.size) (E_r0 : Exa Z h0 r0 "com/example/beliefwire/beliefwire/model/Factor") (g_r0 : n0 ≤ r0) (F_scope_r0 : Fld Z h0 r0 "com/example/beliefwire/beliefwire/model/Factor" "scope" "[I" u_scope_r0) (F_cardinalities_r0 : Fld Z h0 r0 "com/example/beliefwire/beliefwire/model/Factor" "cardinalities" "[I" u_cardinalities_r0) (F_entries_r0 : Fld Z h0 r0 "com/example/beliefwire/beliefwire/model/Factor" "entries" "[D" u_entries_r0) (V_r1 : Arv Z h0 r1 k_r1 .int (2 : Int32) [(.int (7 : Int32)), (.int (3 : Int32))] (.int (0 : Int32))) (E_r1 : Exa Z h0 r1 "[I") (V_r2 : Arv Z h0 r2 k_r2 .int (2 : Int32) [(.int (2 : Int32)), (.int (3 : Int32))] (.int (0 : Int32))) (E_r2 : Exa Z h0 r2 "[I") (V_r3 : Arv Z h0 r3 k_r3 .double (6 : Int32) [(.double x0), (.double x1), (.double x2), (.double x3), (.double x4), (.double x5)] (.double (0 : UInt64))) (E_r3 : Exa Z h0 r3 "[D") (hf_x0 : Fl.Fin64 x0) (hn_x0 : ¬ cmpValue (FP.dcmp x0 FP.dconst0) .l < (0 : Int32)) (hf_x1 : Fl.Fin64 x1) (hn_x1 : ¬ cmpValue (FP.dcmp x1 FP.dconst0) .l < (0 : Int32)) (hf_x2 : Fl.Fin64 x2) (hn_x2 : ¬ cmpValue (FP.dcmp x2 FP.dconst0) .l < (0 : Int32)) (hf_x3 : Fl.Fin64 x3) (hn_x3 : ¬ cmpValue (FP.dcmp x3 FP.dconst0) .l < (0 : Int32)) (hf_x4 : Fl.Fin64 x4) (hn_x4 : ¬ cmpValue (FP.dcmp x4 FP.dconst0) .l < (0 : Int32)) (hf_x5 : Fl.Fin64 x5) (hn_x5 : ¬ cmpValue (FP.dcmp x5 FP.dconst0) .l < (0 : Int32)) :
    MetFree l (⟨"com/example/beliefwire/beliefwire/model/Factor", "<init>", "([I[I[D)V"⟩ : MethodName) (head1 (Jvm.Cond.code (⟨"com/example/beliefwire/beliefwire/model/Factor", "<init>", "([I[I[D)V"⟩ : MethodName) prog_60_method_1_code 5 none :: ws) Rrm_in_13) (fun a U => a = #[(.ref r0), (.ref r1), (.ref r2), (.ref r3)] ∧ Z.Warmed39 U.vm ∧ U.heap = h0) (fun _ _ _ _ _ => True) (fun _ U o U' => ∃ v L, o = .returned v ∧ Q_in_13 Z r0 k_r2 k_r3 x0 x1 x2 x3 x4 x5 h0 n0 v U'.heap L ∧ FrameEnd U o U' L Rrm_in_13.cells Rrm_in_13.slots) := by
  refine MetFree.of_bodySF (plainFor_of_name pn_2) hisR ?_
  intro p e s m args below meth c s₁ Bd hml0 hP hK
  obtain ⟨rfl, hZ, hh⟩ := hP
  have hx := Bd.exec
  have hby := Bd.bytes
  have hml : c.maxLocals = 5 := hml0
  have hown : s.vm.findClass "com/example/beliefwire/beliefwire/model/Factor" = some m.cls := findClass_of_methodNamed Bd.named
  have hnm := (name_of_methodNamed Bd.named Bd.method).1
  have X0 : Stand p l e Rrm_in_13 s m #[(.ref r0), (.ref r1), (.ref r2), (.ref r3)] below meth c s₁ [] 0 0 := Stand.of_body Bd
  have e0 : s₁.heap = h0 := by rw [← hh, Bd.state]; rfl
  have N0 := Fr.nil n0
  have W := @own_W a0 Z hw
  have pre0 : ∀ t, Steps p.tables e below (s₁.setTop (mkF m 0 #[.val (.ref r0), .val (.ref r1), .val (.ref r2), .val (.ref r3), .unset] [])) t → Steps p.tables e below (s₁.setTop (entryFrame m #[(.ref r0), (.ref r1), (.ref r2), (.ref r3)] 5)) t := fun t k => castTop (ef_rm_in_13 m r0 r1 r2 r3) k
  have ne_r0_r1 : r0 ≠ r1 := by obtain ⟨_, A, -⟩ := id V_r1; exact ne_arr E_r0 (W 5 rfl) A
  have ne_r0_r2 : r0 ≠ r2 := by obtain ⟨_, A, -⟩ := id V_r2; exact ne_arr E_r0 (W 5 rfl) A
  have ne_r0_r3 : r0 ≠ r3 := by obtain ⟨_, A, -⟩ := id V_r3; exact ne_arr E_r0 (W 5 rfl) A
  obtain ⟨T1, X1, e1, st1⟩ := initO X0 hx hZ hown (W 10 rfl) (W 11 rfl) (W 12 rfl) e0 (g := (mkF m 1 #[.val (.ref r0), .val (.ref r1), .val (.ref r2), .val (.ref r3), .unset] [(.ref r0)])) rfl (by rw [hml]; rfl) rfl (hb hby d1_1) (by decide) (W := 0) (own_le rfl) (by decide)
  obtain ⟨_, _, ⟨T2, L2, k2, n2⟩, -, X2, ⟨Lc2, hQ2, l2, y2, z2⟩, st2⟩ := Jvm.LawKit.callS X1 hx (y := (⟨"com/example/beliefwire/beliefwire/model/Factor", "checkScope", "([I[I)V"⟩ : MethodName)) hown (mvT hZ (W 13 rfl)) (mvT hZ (W 14 rfl)) (mvT hZ (W 6 rfl)) (mvT hZ (W 15 rfl)) (by decide) (backOf (W := 0) (rm_cs_1 l Z a0 hw [] r1 r2 (3 : Int32) k_r1 k_r2 h0 n0 Z0 V_r1 E_r1 V_r2 (by decide)) hZ (W 15 rfl) (W 6 rfl) (by decide) (by decide)) (g := (mkF m 6 #[.val (.ref r0), .val (.ref r1), .val (.ref r2), .val (.ref r3), .unset] [(.ref r2), (.ref r1)])) rfl (by rw [hml]; rfl) (argsL := [(.ref r1), (.ref r2)]) (rest := []) (lenOf pd_8 rfl) rfl (own_le rfl) (hb hby d1_6) (fun _ _ => ⟨rfl, e1, (by decide : 0 + 1 ≤ _), (by decide : 0 + 2 ≤ _)⟩)
  dsimp only [Pt.U, Pt.locs, Pt.cells, Pt.slots] at X2 l2 y2 z2 st2 hQ2
  subst l2 y2 z2
  obtain ⟨rfl, N2q, K2⟩ := hQ2
  have N2 := Fr.app N0 N2q
  obtain ⟨LL2, X2, N2⟩ := own_hide X2 N2
  have Z4z : n0 ≤ T2.heap.size := (Nat.le_trans Z0 K2.1)
  have V_r2_5 := (V_r2.keep K2 own_nin0)
  obtain ⟨_, _, ⟨T3, L3, k3, n3⟩, -, X3, ⟨Lc3, hQ3, l3, y3, z3⟩, st3⟩ := Jvm.LawKit.callS X2 hx (y := (⟨"com/example/beliefwire/beliefwire/model/Factor", "tableSize", "([I)J"⟩ : MethodName)) hown (mvT hZ (W 39 rfl)) (mvT hZ (W 40 rfl)) (mvT hZ (W 6 rfl)) (mvT hZ (W 41 rfl)) (by decide) (backOf (W := 0) (rm_ts_1 l Z a0 hw [] r2 (3 : Int32) k_r2 T2.heap n0 Z4z V_r2_5 (by decide)) hZ (W 41 rfl) (W 6 rfl) (by decide) (by decide)) (g := (mkF m 10 #[.val (.ref r0), .val (.ref r1), .val (.ref r2), .val (.ref r3), .unset] [(.ref r2)])) rfl (by rw [hml]; rfl) (argsL := [(.ref r2)]) (rest := []) (lenOf pd_4 rfl) rfl (own_le rfl) (hb hby d1_10) (fun _ _ => ⟨rfl, rfl, (by decide : 1 + 0 ≤ _), (by decide : 2 + 0 ≤ _)⟩)
  dsimp only [Pt.U, Pt.locs, Pt.cells, Pt.slots] at X3 l3 y3 z3 st3 hQ3
  subst l3 y3 z3
  obtain ⟨hv3, N3q, eq3⟩ := hQ3
  rw [show ((2 : Int64) * ((3 : Int32).toInt64)) = (6 : Int64) from by decide] at hv3
  subst hv3
  have N3 := Fr.app N2 N3q
  obtain ⟨LL3, X3, N3⟩ := own_hide X3 N3
  have V_r3_6 := (V_r3.keep K2 own_nin0)
  obtain ⟨cl_r3_7, Ar_r3_7, q_r3_7, S_r3_7, N_r3_7, H_r3_7, G_r3_7⟩ := id V_r3_6
  have Al_r3_7 := State.isArrayOf_alike hZ.alike Ar_r3_7.2.1
  have hin_r3_7_0 : ¬ ((0 : Int32) < 0 ∨ cl_r3_7.slots.size ≤ ((0 : Int32)).toNatClampNeg) := inb_of S_r3_7 ⟨by decide, by decide⟩
  have hat_r3_7_0 : cl_r3_7.slots[((0 : Int32)).toNatClampNeg]? = some (.double x0) := H_r3_7 _ (by rw [S_r3_7]; decide)
  have hin_r3_7_1 : ¬ ((1 : Int32) < 0 ∨ cl_r3_7.slots.size ≤ ((1 : Int32)).toNatClampNeg) := inb_of S_r3_7 ⟨by decide, by decide⟩
  have hat_r3_7_1 : cl_r3_7.slots[((1 : Int32)).toNatClampNeg]? = some (.double x1) := H_r3_7 _ (by rw [S_r3_7]; decide)
  have hin_r3_7_2 : ¬ ((2 : Int32) < 0 ∨ cl_r3_7.slots.size ≤ ((2 : Int32)).toNatClampNeg) := inb_of S_r3_7 ⟨by decide, by decide⟩
  have hat_r3_7_2 : cl_r3_7.slots[((2 : Int32)).toNatClampNeg]? = some (.double x2) := H_r3_7 _ (by rw [S_r3_7]; decide)
  have hin_r3_7_3 : ¬ ((3 : Int32) < 0 ∨ cl_r3_7.slots.size ≤ ((3 : Int32)).toNatClampNeg) := inb_of S_r3_7 ⟨by decide, by decide⟩
  have hat_r3_7_3 : cl_r3_7.slots[((3 : Int32)).toNatClampNeg]? = some (.double x3) := H_r3_7 _ (by rw [S_r3_7]; decide)
  have hin_r3_7_4 : ¬ ((4 : Int32) < 0 ∨ cl_r3_7.slots.size ≤ ((4 : Int32)).toNatClampNeg) := inb_of S_r3_7 ⟨by decide, by decide⟩
  have hat_r3_7_4 : cl_r3_7.slots[((4 : Int32)).toNatClampNeg]? = some (.double x4) := H_r3_7 _ (by rw [S_r3_7]; decide)
  have hin_r3_7_5 : ¬ ((5 : Int32) < 0 ∨ cl_r3_7.slots.size ≤ ((5 : Int32)).toNatClampNeg) := inb_of S_r3_7 ⟨by decide, by decide⟩
  have hat_r3_7_5 : cl_r3_7.slots[((5 : Int32)).toNatClampNeg]? = some (.double x5) := H_r3_7 _ (by rw [S_r3_7]; decide)
  have V_r1_8 := (V_r1.keep K2 own_nin0)
  have E_r1_9 := (E_r1.keep K2)
  have hz10 : h0.size ≤ T2.heap.size := (Nat.le_trans (Nat.le_refl h0.size) K2.1)
  obtain ⟨T11, h11, X11, e11, E11, V11, B11, st11⟩ := cloneH X3 hx hZ hown (W 16 rfl) (W 17 rfl) (W 21 rfl) (W 19 rfl) (W 20 rfl) (W 22 rfl) eq3 (Arv.arh V_r1_8) E_r1_9 (g := (mkF m 96 #[.val (.ref r0), .val (.ref r1), .val (.ref r2), .val (.ref r3), .val (.int (6 : Int32))] [(.ref r1), (.ref r0)])) rfl (by rw [hml]; rfl) rfl (hb hby d1_96) (by decide) (W := 1) (cap := 2) (own_le rfl) (by decide) (by decide) (by decide) (by decide)
  obtain ⟨b11, gg11⟩ : ∃ z, z = T2.heap.size := ⟨_, rfl⟩
  rw [← gg11] at V11 B11 st11
  have g_b11 : n0 ≤ b11 := Nat.le_trans Z4z (Nat.le_of_eq gg11.symm)
  have sz_b11 : h0.size ≤ b11 := Nat.le_trans hz10 (Nat.le_of_eq gg11.symm)
  have V_b11 : Arv Z h11 b11 k_r1 .int (2 : Int32) [(.int (7 : Int32)), (.int (3 : Int32))] (.int (0 : Int32)) := V11
  obtain ⟨T12, X12, e12, st12⟩ := castY X11 hx hZ hown (W 23 rfl) e11 (Ins.self B11) (g := (mkF m 99 #[.val (.ref r0), .val (.ref r1), .val (.ref r2), .val (.ref r3), .val (.int (6 : Int32))] [(.ref b11), (.ref r0)])) rfl rfl (hb hby d1_99)
  have E_r0_13 := ((E_r0.keep K2).ext E11)
  have F_scope_r0_14 := ((F_scope_r0.keep K2 own_nin0).ext E11)
  obtain ⟨T15, h15, X15, e15, W15, st15⟩ := putF X12 hx hZ hown (host := "") (Or.inl (W 44 rfl)) Via.refl e12 F_scope_r0_14 E_r0_13 (Or.inr ⟨(W 45 rfl), rfl, hnm⟩) (W 5 rfl) (ty := (.array .int)) (by decide) rfl rfl (g := (mkF m 102 #[.val (.ref r0), .val (.ref r1), .val (.ref r2), .val (.ref r3), .val (.int (6 : Int32))] [(.ref b11), (.ref r0)])) rfl rfl (hb hby d1_102)
  have Fw15 := F_scope_r0_14.same W15
  have N15 := Fr.snoc X15 N3 g_r0
  obtain ⟨LL15, X15, N15⟩ := own_hide X15 N15
  have V_r2_16 := ((V_r2_5.ext E11).other W15 (Ne.symm ne_r0_r2))
  have E_r2_17 := (((E_r2.keep K2).ext E11).wr W15)
  have Z18z : n0 ≤ h15.size := (Nat.le_trans (Nat.le_trans Z4z E11.1) (Keep.of_wr W15).1)
  have hz19 : h0.size ≤ h15.size := (Nat.le_trans (Nat.le_trans hz10 E11.1) (Keep.of_wr W15).1)
  obtain ⟨T20, h20, X20, e20, E20, V20, B20, st20⟩ := cloneH X15 hx hZ hown (W 16 rfl) (W 17 rfl) (W 21 rfl) (W 19 rfl) (W 20 rfl) (W 22 rfl) e15 (Arv.arh V_r2_16) E_r2_17 (g := (mkF m 107 #[.val (.ref r0), .val (.ref r1), .val (.ref r2), .val (.ref r3), .val (.int (6 : Int32))] [(.ref r2), (.ref r0)])) rfl (by rw [hml]; rfl) rfl (hb hby d1_107) (by decide) (W := 1) (cap := 2) (own_le rfl) (by decide) (by decide) (by decide) (by decide)
  obtain ⟨b20, gg20⟩ : ∃ z, z = h15.size := ⟨_, rfl⟩
  rw [← gg20] at V20 B20 st20
  have g_b20 : n0 ≤ b20 := Nat.le_trans Z18z (Nat.le_of_eq gg20.symm)
  have sz_b20 : h0.size ≤ b20 := Nat.le_trans hz19 (Nat.le_of_eq gg20.symm)
  have V_b20 : Arv Z h20 b20 k_r2 .int (2 : Int32) [(.int (2 : Int32)), (.int (3 : Int32))] (.int (0 : Int32)) := V20
  obtain ⟨T21, X21, e21, st21⟩ := castY X20 hx hZ hown (W 23 rfl) e20 (Ins.self B20) (g := (mkF m 110 #[.val (.ref r0), .val (.ref r1), .val (.ref r2), .val (.ref r3), .val (.int (6 : Int32))] [(.ref b20), (.ref r0)])) rfl rfl (hb hby d1_110)
  have E_r0_22 := ((E_r0_13.wr W15).ext E20)
  have F_cardinalities_r0_23 := ((((F_cardinalities_r0.keep K2 own_nin0).ext E11).other W15 (Or.inr (slot_ne (Or.inr (W 47 rfl)) (Or.inr (W 45 rfl)) (by decide) (t := (.array .int)) (t' := (.array .int)) (by decide) (by decide)))).ext E20)
  obtain ⟨T24, h24, X24, e24, W24, st24⟩ := putF X21 hx hZ hown (host := "") (Or.inl (W 46 rfl)) Via.refl e21 F_cardinalities_r0_23 E_r0_22 (Or.inr ⟨(W 47 rfl), rfl, hnm⟩) (W 5 rfl) (ty := (.array .int)) (by decide) rfl rfl (g := (mkF m 113 #[.val (.ref r0), .val (.ref r1), .val (.ref r2), .val (.ref r3), .val (.int (6 : Int32))] [(.ref b20), (.ref r0)])) rfl rfl (hb hby d1_113)
  have Fw24 := F_cardinalities_r0_23.same W24
  have N24 := Fr.snoc X24 N15 g_r0
  obtain ⟨LL24, X24, N24⟩ := own_hide X24 N24
  have V_r3_25 := ((((V_r3_6.ext E11).other W15 (Ne.symm ne_r0_r3)).ext E20).other W24 (Ne.symm ne_r0_r3))
  have E_r3_26 := (((((E_r3.keep K2).ext E11).wr W15).ext E20).wr W24)
  have Z27z : n0 ≤ h24.size := (Nat.le_trans (Nat.le_trans Z18z E20.1) (Keep.of_wr W24).1)
  have hz28 : h0.size ≤ h24.size := (Nat.le_trans (Nat.le_trans hz19 E20.1) (Keep.of_wr W24).1)
  obtain ⟨T29, h29, X29, e29, E29, V29, B29, st29⟩ := cloneH X24 hx hZ hown (W 48 rfl) (W 49 rfl) (W 21 rfl) (W 19 rfl) (W 50 rfl) (W 51 rfl) e24 (Arv.arh V_r3_25) E_r3_26 (g := (mkF m 118 #[.val (.ref r0), .val (.ref r1), .val (.ref r2), .val (.ref r3), .val (.int (6 : Int32))] [(.ref r3), (.ref r0)])) rfl (by rw [hml]; rfl) rfl (hb hby d1_118) (by decide) (W := 1) (cap := 6) (own_le rfl) (by decide) (by decide) (by decide) (by decide)
  obtain ⟨b29, gg29⟩ : ∃ z, z = h24.size := ⟨_, rfl⟩
  rw [← gg29] at V29 B29 st29
  have g_b29 : n0 ≤ b29 := Nat.le_trans Z27z (Nat.le_of_eq gg29.symm)
  have sz_b29 : h0.size ≤ b29 := Nat.le_trans hz28 (Nat.le_of_eq gg29.symm)
  have V_b29 : Arv Z h29 b29 k_r3 .double (6 : Int32) [(.double x0), (.double x1), (.double x2), (.double x3), (.double x4), (.double x5)] (.double (0 : UInt64)) := V29
  obtain ⟨T30, X30, e30, st30⟩ := castY X29 hx hZ hown (W 52 rfl) e29 (Ins.self B29) (g := (mkF m 121 #[.val (.ref r0), .val (.ref r1), .val (.ref r2), .val (.ref r3), .val (.int (6 : Int32))] [(.ref b29), (.ref r0)])) rfl rfl (hb hby d1_121)
  have E_r0_31 := ((E_r0_22.wr W24).ext E29)
  have F_entries_r0_32 := ((((((F_entries_r0.keep K2 own_nin0).ext E11).other W15 (Or.inr (slot_ne (Or.inr (W 55 rfl)) (Or.inr (W 45 rfl)) (by decide) (t := (.array .double)) (t' := (.array .int)) (by decide) (by decide)))).ext E20).other W24 (Or.inr (slot_ne (Or.inr (W 55 rfl)) (Or.inr (W 47 rfl)) (by decide) (t := (.array .double)) (t' := (.array .int)) (by decide) (by decide)))).ext E29)
  obtain ⟨T33, h33, X33, e33, W33, st33⟩ := putF X30 hx hZ hown (host := "") (Or.inl (W 54 rfl)) Via.refl e30 F_entries_r0_32 E_r0_31 (Or.inr ⟨(W 55 rfl), rfl, hnm⟩) (W 5 rfl) (ty := (.array .double)) (by decide) rfl rfl (g := (mkF m 124 #[.val (.ref r0), .val (.ref r1), .val (.ref r2), .val (.ref r3), .val (.int (6 : Int32))] [(.ref b29), (.ref r0)])) rfl rfl (hb hby d1_124)
  have Fw33 := F_entries_r0_32.same W33
  have N33 := Fr.snoc X33 N24 g_r0
  obtain ⟨LL33, X33, N33⟩ := own_hide X33 N33
  have KK34 : Keep h0 h33 [r0] := ((((((((Keep.refl h0 [r0]).trans K2 (own_in0)).ext E11).wr W15 (Or.inl (List.mem_of_getElem? (i := 0) rfl))).ext E20).wr W24 (Or.inl (List.mem_of_getElem? (i := 0) rfl))).ext E29).wr W33 (Or.inl (List.mem_of_getElem? (i := 0) rfl)))
  have E_r0_35 := (E_r0_31.wr W33)
  have Fw24_36 := ((Fw24.ext E29).other W33 (Or.inr (slot_ne (Or.inr (W 47 rfl)) (Or.inr (W 55 rfl)) (by decide) (t := (.array .int)) (t' := (.array .double)) (by decide) (by decide))))
  have B20_37 := (((B20.wr W24).ext E29).wr W33)
  have ne_r0_b20 : r0 ≠ b20 := Nat.ne_of_lt (Nat.lt_of_lt_of_le (Nat.lt_of_lt_of_le (E_r0_13).lt (Keep.of_wr W15).1) (Nat.le_of_eq gg20.symm))
  have V_b20_38 := (((V_b20.other W24 (Ne.symm ne_r0_b20)).ext E29).other W33 (Ne.symm ne_r0_b20))
  have ne_r0_b29 : r0 ≠ b29 := Nat.ne_of_lt (Nat.lt_of_lt_of_le (Nat.lt_of_lt_of_le (E_r0_22).lt (Keep.of_wr W24).1) (Nat.le_of_eq gg29.symm))
  have V_b29_39 := (V_b29.other W33 (Ne.symm ne_r0_b29))
  obtain ⟨fs, hr, hrun, hended, hW, hsame⟩ := X33.leave (v := none) (fun _ => rfl)
  refine ⟨_, _, pre0 _ ?_, hrun, hended, _, _, rfl, ?_, ⟨_, rfl⟩, hW, hsame.mono (by decide) (by decide)⟩
  · show Steps p.tables e below (s₁.setTop (mkF m 0 #[.val (.ref r0), .val (.ref r1), .val (.ref r2), .val (.ref r3), .unset] [])) _
    refine XS.aloadN X0.here hx rfl (hb hby d1_0) rfl rfl ?_
    refine st1 _ ?_
    refine XS.aloadN X1.here hx rfl (hb hby d1_4) rfl rfl ?_
    refine XS.aloadN X1.here hx rfl (hb hby d1_5) rfl rfl ?_
    refine st2 _ ?_
    refine XS.aloadN X2.here hx rfl (hb hby d1_9) rfl rfl ?_
    refine st3 _ ?_
    refine XS.aloadN X3.here hx rfl (hb hby d1_13) rfl rfl ?_
    refine X3.arraylength hx (by rw [eq3]; exact Ar_r3_7.1) Al_r3_7 (g := (mkF m 14 #[.val (.ref r0), .val (.ref r1), .val (.ref r2), .val (.ref r3), .unset] [(.ref r3), (.long (6 : Int64))])) rfl rfl (hb hby d1_14) _ ?_
    rw [len_of S_r3_7 N_r3_7]
    refine XS.i2l X3.here hx rfl (hb hby d1_15) rfl ?_
    show Steps p.tables e below (T3.setTop (mkF m 16 #[.val (.ref r0), .val (.ref r1), .val (.ref r2), .val (.ref r3), .unset] [(.long ((6 : Int32).toInt64)), (.long (6 : Int64))])) _
    rw [show ((6 : Int32).toInt64) = (6 : Int64) from (by decide)]
    refine XS.lcmp X3.here hx rfl (hb hby d1_16) rfl ?_
    refine XS.ifYes X3.here hx rfl (pc0 := 17) (pc' := 39) rfl (hb hby d1_17) rfl ((if0 _ _).trans (teq ((lw_eq _ _).mpr (by decide : (6 : Int64) = (6 : Int64)))).1) (by decide) (by decide) ?_
    refine XS.iconst X3.here hx rfl (hb hby d1_39) ?_
    refine XS.istore X3.here hx rfl (hb hby d1_40) rfl (l' := #[.val (.ref r0), .val (.ref r1), .val (.ref r2), .val (.ref r3), .val (.int (0 : Int32))]) rfl ?_
    refine XS.iload X3.here hx rfl (hb hby d1_42) rfl ?_
    refine XS.aloadN X3.here hx rfl (hb hby d1_44) rfl rfl ?_
    refine X3.arraylength hx (by rw [eq3]; exact Ar_r3_7.1) Al_r3_7 (g := (mkF m 45 #[.val (.ref r0), .val (.ref r1), .val (.ref r2), .val (.ref r3), .val (.int (0 : Int32))] [(.ref r3), (.int (0 : Int32))])) rfl rfl (hb hby d1_45) _ ?_
    rw [len_of S_r3_7 N_r3_7]
    refine XS.icmpNo X3.here hx rfl (hb hby d1_46) rfl (tlt (by decide : (0 : Int32) < (6 : Int32))).2.1 ?_
    refine XS.aloadN X3.here hx rfl (hb hby d1_49) rfl rfl ?_
    refine XS.iload X3.here hx rfl (hb hby d1_50) rfl ?_
    refine X3.daload hx (j := (0 : Int32)) (v := (.double x0)) (by rw [eq3]; exact Ar_r3_7.1) Al_r3_7 Ar_r3_7.2.2 hin_r3_7_0 hat_r3_7_0 (g := (mkF m 52 #[.val (.ref r0), .val (.ref r1), .val (.ref r2), .val (.ref r3), .val (.int (0 : Int32))] [(.int (0 : Int32)), (.ref r3)])) rfl rfl (hb hby d1_52) _ ?_
    refine XS.dconst0 X3.here hx rfl (hb hby d1_53) rfl ?_
    refine XS.dcmpS X3.here hx rfl (hb hby d1_54) rfl rfl ?_
    refine XS.ifNo X3.here hx rfl (hb hby d1_55) rfl ((if0 _ _).trans (flt hn_x0).1) ?_
    refine XS.aloadN X3.here hx rfl (hb hby d1_58) rfl rfl ?_
    refine XS.iload X3.here hx rfl (hb hby d1_59) rfl ?_
    refine X3.daload hx (j := (0 : Int32)) (v := (.double x0)) (by rw [eq3]; exact Ar_r3_7.1) Al_r3_7 Ar_r3_7.2.2 hin_r3_7_0 hat_r3_7_0 (g := (mkF m 61 #[.val (.ref r0), .val (.ref r1), .val (.ref r2), .val (.ref r3), .val (.int (0 : Int32))] [(.int (0 : Int32)), (.ref r3)])) rfl rfl (hb hby d1_61) _ ?_
    refine X3.ldc2DoubleC hx hown (mvT hZ (W 43 rfl)) (g := (mkF m 62 #[.val (.ref r0), .val (.ref r1), .val (.ref r2), .val (.ref r3), .val (.int (0 : Int32))] [(.double x0)])) rfl (hb hby d1_62) _ ?_
    refine XS.dcmpS X3.here hx rfl (hb hby d1_65) rfl rfl ?_
    refine XS.ifYes X3.here hx rfl (pc0 := 66) (pc' := 88) rfl (hb hby d1_66) rfl ((if0 _ _).trans (tlt (own_pinf hf_x0)).1) (by decide) (by decide) ?_
    refine XS.iinc X3.here hx rfl (hb hby d1_88) rfl (l' := #[.val (.ref r0), .val (.ref r1), .val (.ref r2), .val (.ref r3), .val (.int ((0 : Int32) + (1 : Int32)))]) rfl ?_
    show Steps p.tables e below (T3.setTop (mkF m 91 #[.val (.ref r0), .val (.ref r1), .val (.ref r2), .val (.ref r3), .val (.int ((0 : Int32) + (1 : Int32)))] [])) _
    rw [show ((0 : Int32) + (1 : Int32)) = (1 : Int32) from (by decide)]
    refine XS.goto X3.here hx rfl (pc0 := 91) (pc' := 42) rfl (hb hby d1_91) (by decide) (by decide) ?_
    refine XS.iload X3.here hx rfl (hb hby d1_42) rfl ?_
    refine XS.aloadN X3.here hx rfl (hb hby d1_44) rfl rfl ?_
    refine X3.arraylength hx (by rw [eq3]; exact Ar_r3_7.1) Al_r3_7 (g := (mkF m 45 #[.val (.ref r0), .val (.ref r1), .val (.ref r2), .val (.ref r3), .val (.int (1 : Int32))] [(.ref r3), (.int (1 : Int32))])) rfl rfl (hb hby d1_45) _ ?_
    rw [len_of S_r3_7 N_r3_7]
    refine XS.icmpNo X3.here hx rfl (hb hby d1_46) rfl (tlt (by decide : (1 : Int32) < (6 : Int32))).2.1 ?_
    refine XS.aloadN X3.here hx rfl (hb hby d1_49) rfl rfl ?_
    refine XS.iload X3.here hx rfl (hb hby d1_50) rfl ?_
    refine X3.daload hx (j := (1 : Int32)) (v := (.double x1)) (by rw [eq3]; exact Ar_r3_7.1) Al_r3_7 Ar_r3_7.2.2 hin_r3_7_1 hat_r3_7_1 (g := (mkF m 52 #[.val (.ref r0), .val (.ref r1), .val (.ref r2), .val (.ref r3), .val (.int (1 : Int32))] [(.int (1 : Int32)), (.ref r3)])) rfl rfl (hb hby d1_52) _ ?_
    refine XS.dconst0 X3.here hx rfl (hb hby d1_53) rfl ?_
    refine XS.dcmpS X3.here hx rfl (hb hby d1_54) rfl rfl ?_
    refine XS.ifNo X3.here hx rfl (hb hby d1_55) rfl ((if0 _ _).trans (flt hn_x1).1) ?_
    refine XS.aloadN X3.here hx rfl (hb hby d1_58) rfl rfl ?_
    refine XS.iload X3.here hx rfl (hb hby d1_59) rfl ?_
    refine X3.daload hx (j := (1 : Int32)) (v := (.double x1)) (by rw [eq3]; exact Ar_r3_7.1) Al_r3_7 Ar_r3_7.2.2 hin_r3_7_1 hat_r3_7_1 (g := (mkF m 61 #[.val (.ref r0), .val (.ref r1), .val (.ref r2), .val (.ref r3), .val (.int (1 : Int32))] [(.int (1 : Int32)), (.ref r3)])) rfl rfl (hb hby d1_61) _ ?_
    refine X3.ldc2DoubleC hx hown (mvT hZ (W 43 rfl)) (g := (mkF m 62 #[.val (.ref r0), .val (.ref r1), .val (.ref r2), .val (.ref r3), .val (.int (1 : Int32))] [(.double x1)])) rfl (hb hby d1_62) _ ?_
    refine XS.dcmpS X3.here hx rfl (hb hby d1_65) rfl rfl ?_
    refine XS.ifYes X3.here hx rfl (pc0 := 66) (pc' := 88) rfl (hb hby d1_66) rfl ((if0 _ _).trans (tlt (own_pinf hf_x1)).1) (by decide) (by decide) ?_
    refine XS.iinc X3.here hx rfl (hb hby d1_88) rfl (l' := #[.val (.ref r0), .val (.ref r1), .val (.ref r2), .val (.ref r3), .val (.int ((1 : Int32) + (1 : Int32)))]) rfl ?_
    show Steps p.tables e below (T3.setTop (mkF m 91 #[.val (.ref r0), .val (.ref r1), .val (.ref r2), .val (.ref r3), .val (.int ((1 : Int32) + (1 : Int32)))] [])) _
    rw [show ((1 : Int32) + (1 : Int32)) = (2 : Int32) from (by decide)]
    refine XS.goto X3.here hx rfl (pc0 := 91) (pc' := 42) rfl (hb hby d1_91) (by decide) (by decide) ?_
    refine XS.iload X3.here hx rfl (hb hby d1_42) rfl ?_
    refine XS.aloadN X3.here hx rfl (hb hby d1_44) rfl rfl ?_
    refine X3.arraylength hx (by rw [eq3]; exact Ar_r3_7.1) Al_r3_7 (g := (mkF m 45 #[.val (.ref r0), .val (.ref r1), .val (.ref r2), .val (.ref r3), .val (.int (2 : Int32))] [(.ref r3), (.int (2 : Int32))])) rfl rfl (hb hby d1_45) _ ?_
    rw [len_of S_r3_7 N_r3_7]
    refine XS.icmpNo X3.here hx rfl (hb hby d1_46) rfl (tlt (by decide : (2 : Int32) < (6 : Int32))).2.1 ?_
    refine XS.aloadN X3.here hx rfl (hb hby d1_49) rfl rfl ?_
    refine XS.iload X3.here hx rfl (hb hby d1_50) rfl ?_
    refine X3.daload hx (j := (2 : Int32)) (v := (.double x2)) (by rw [eq3]; exact Ar_r3_7.1) Al_r3_7 Ar_r3_7.2.2 hin_r3_7_2 hat_r3_7_2 (g := (mkF m 52 #[.val (.ref r0), .val (.ref r1), .val (.ref r2), .val (.ref r3), .val (.int (2 : Int32))] [(.int (2 : Int32)), (.ref r3)])) rfl rfl (hb hby d1_52) _ ?_
    refine XS.dconst0 X3.here hx rfl (hb hby d1_53) rfl ?_
    refine XS.dcmpS X3.here hx rfl (hb hby d1_54) rfl rfl ?_
    refine XS.ifNo X3.here hx rfl (hb hby d1_55) rfl ((if0 _ _).trans (flt hn_x2).1) ?_
    refine XS.aloadN X3.here hx rfl (hb hby d1_58) rfl rfl ?_
    refine XS.iload X3.here hx rfl (hb hby d1_59) rfl ?_
    refine X3.daload hx (j := (2 : Int32)) (v := (.double x2)) (by rw [eq3]; exact Ar_r3_7.1) Al_r3_7 Ar_r3_7.2.2 hin_r3_7_2 hat_r3_7_2 (g := (mkF m 61 #[.val (.ref r0), .val (.ref r1), .val (.ref r2), .val (.ref r3), .val (.int (2 : Int32))] [(.int (2 : Int32)), (.ref r3)])) rfl rfl (hb hby d1_61) _ ?_
    refine X3.ldc2DoubleC hx hown (mvT hZ (W 43 rfl)) (g := (mkF m 62 #[.val (.ref r0), .val (.ref r1), .val (.ref r2), .val (.ref r3), .val (.int (2 : Int32))] [(.double x2)])) rfl (hb hby d1_62) _ ?_
    refine XS.dcmpS X3.here hx rfl (hb hby d1_65) rfl rfl ?_
    refine XS.ifYes X3.here hx rfl (pc0 := 66) (pc' := 88) rfl (hb hby d1_66) rfl ((if0 _ _).trans (tlt (own_pinf hf_x2)).1) (by decide) (by decide) ?_
    refine XS.iinc X3.here hx rfl (hb hby d1_88) rfl (l' := #[.val (.ref r0), .val (.ref r1), .val (.ref r2), .val (.ref r3), .val (.int ((2 : Int32) + (1 : Int32)))]) rfl ?_
    show Steps p.tables e below (T3.setTop (mkF m 91 #[.val (.ref r0), .val (.ref r1), .val (.ref r2), .val (.ref r3), .val (.int ((2 : Int32) + (1 : Int32)))] [])) _
    rw [show ((2 : Int32) + (1 : Int32)) = (3 : Int32) from (by decide)]
    refine XS.goto X3.here hx rfl (pc0 := 91) (pc' := 42) rfl (hb hby d1_91) (by decide) (by decide) ?_
    refine XS.iload X3.here hx rfl (hb hby d1_42) rfl ?_
    refine XS.aloadN X3.here hx rfl (hb hby d1_44) rfl rfl ?_
    refine X3.arraylength hx (by rw [eq3]; exact Ar_r3_7.1) Al_r3_7 (g := (mkF m 45 #[.val (.ref r0), .val (.ref r1), .val (.ref r2), .val (.ref r3), .val (.int (3 : Int32))] [(.ref r3), (.int (3 : Int32))])) rfl rfl (hb hby d1_45) _ ?_
    rw [len_of S_r3_7 N_r3_7]
    refine XS.icmpNo X3.here hx rfl (hb hby d1_46) rfl (tlt (by decide : (3 : Int32) < (6 : Int32))).2.1 ?_
    refine XS.aloadN X3.here hx rfl (hb hby d1_49) rfl rfl ?_
    refine XS.iload X3.here hx rfl (hb hby d1_50) rfl ?_
    refine X3.daload hx (j := (3 : Int32)) (v := (.double x3)) (by rw [eq3]; exact Ar_r3_7.1) Al_r3_7 Ar_r3_7.2.2 hin_r3_7_3 hat_r3_7_3 (g := (mkF m 52 #[.val (.ref r0), .val (.ref r1), .val (.ref r2), .val (.ref r3), .val (.int (3 : Int32))] [(.int (3 : Int32)), (.ref r3)])) rfl rfl (hb hby d1_52) _ ?_
    refine XS.dconst0 X3.here hx rfl (hb hby d1_53) rfl ?_
    refine XS.dcmpS X3.here hx rfl (hb hby d1_54) rfl rfl ?_
    refine XS.ifNo X3.here hx rfl (hb hby d1_55) rfl ((if0 _ _).trans (flt hn_x3).1) ?_
    refine XS.aloadN X3.here hx rfl (hb hby d1_58) rfl rfl ?_
    refine XS.iload X3.here hx rfl (hb hby d1_59) rfl ?_
    refine X3.daload hx (j := (3 : Int32)) (v := (.double x3)) (by rw [eq3]; exact Ar_r3_7.1) Al_r3_7 Ar_r3_7.2.2 hin_r3_7_3 hat_r3_7_3 (g := (mkF m 61 #[.val (.ref r0), .val (.ref r1), .val (.ref r2), .val (.ref r3), .val (.int (3 : Int32))] [(.int (3 : Int32)), (.ref r3)])) rfl rfl (hb hby d1_61) _ ?_
    refine X3.ldc2DoubleC hx hown (mvT hZ (W 43 rfl)) (g := (mkF m 62 #[.val (.ref r0), .val (.ref r1), .val (.ref r2), .val (.ref r3), .val (.int (3 : Int32))] [(.double x3)])) rfl (hb hby d1_62) _ ?_
    refine XS.dcmpS X3.here hx rfl (hb hby d1_65) rfl rfl ?_
    refine XS.ifYes X3.here hx rfl (pc0 := 66) (pc' := 88) rfl (hb hby d1_66) rfl ((if0 _ _).trans (tlt (own_pinf hf_x3)).1) (by decide) (by decide) ?_
    refine XS.iinc X3.here hx rfl (hb hby d1_88) rfl (l' := #[.val (.ref r0), .val (.ref r1), .val (.ref r2), .val (.ref r3), .val (.int ((3 : Int32) + (1 : Int32)))]) rfl ?_
    show Steps p.tables e below (T3.setTop (mkF m 91 #[.val (.ref r0), .val (.ref r1), .val (.ref r2), .val (.ref r3), .val (.int ((3 : Int32) + (1 : Int32)))] [])) _
    rw [show ((3 : Int32) + (1 : Int32)) = (4 : Int32) from (by decide)]
    refine XS.goto X3.here hx rfl (pc0 := 91) (pc' := 42) rfl (hb hby d1_91) (by decide) (by decide) ?_
    refine XS.iload X3.here hx rfl (hb hby d1_42) rfl ?_
    refine XS.aloadN X3.here hx rfl (hb hby d1_44) rfl rfl ?_
    refine X3.arraylength hx (by rw [eq3]; exact Ar_r3_7.1) Al_r3_7 (g := (mkF m 45 #[.val (.ref r0), .val (.ref r1), .val (.ref r2), .val (.ref r3), .val (.int (4 : Int32))] [(.ref r3), (.int (4 : Int32))])) rfl rfl (hb hby d1_45) _ ?_
    rw [len_of S_r3_7 N_r3_7]
    refine XS.icmpNo X3.here hx rfl (hb hby d1_46) rfl (tlt (by decide : (4 : Int32) < (6 : Int32))).2.1 ?_
    refine XS.aloadN X3.here hx rfl (hb hby d1_49) rfl rfl ?_
    refine XS.iload X3.here hx rfl (hb hby d1_50) rfl ?_
    refine X3.daload hx (j := (4 : Int32)) (v := (.double x4)) (by rw [eq3]; exact Ar_r3_7.1) Al_r3_7 Ar_r3_7.2.2 hin_r3_7_4 hat_r3_7_4 (g := (mkF m 52 #[.val (.ref r0), .val (.ref r1), .val (.ref r2), .val (.ref r3), .val (.int (4 : Int32))] [(.int (4 : Int32)), (.ref r3)])) rfl rfl (hb hby d1_52) _ ?_
    refine XS.dconst0 X3.here hx rfl (hb hby d1_53) rfl ?_
    refine XS.dcmpS X3.here hx rfl (hb hby d1_54) rfl rfl ?_
    refine XS.ifNo X3.here hx rfl (hb hby d1_55) rfl ((if0 _ _).trans (flt hn_x4).1) ?_
    refine XS.aloadN X3.here hx rfl (hb hby d1_58) rfl rfl ?_
    refine XS.iload X3.here hx rfl (hb hby d1_59) rfl ?_
    refine X3.daload hx (j := (4 : Int32)) (v := (.double x4)) (by rw [eq3]; exact Ar_r3_7.1) Al_r3_7 Ar_r3_7.2.2 hin_r3_7_4 hat_r3_7_4 (g := (mkF m 61 #[.val (.ref r0), .val (.ref r1), .val (.ref r2), .val (.ref r3), .val (.int (4 : Int32))] [(.int (4 : Int32)), (.ref r3)])) rfl rfl (hb hby d1_61) _ ?_
    refine X3.ldc2DoubleC hx hown (mvT hZ (W 43 rfl)) (g := (mkF m 62 #[.val (.ref r0), .val (.ref r1), .val (.ref r2), .val (.ref r3), .val (.int (4 : Int32))] [(.double x4)])) rfl (hb hby d1_62) _ ?_
    refine XS.dcmpS X3.here hx rfl (hb hby d1_65) rfl rfl ?_
    refine XS.ifYes X3.here hx rfl (pc0 := 66) (pc' := 88) rfl (hb hby d1_66) rfl ((if0 _ _).trans (tlt (own_pinf hf_x4)).1) (by decide) (by decide) ?_
    refine XS.iinc X3.here hx rfl (hb hby d1_88) rfl (l' := #[.val (.ref r0), .val (.ref r1), .val (.ref r2), .val (.ref r3), .val (.int ((4 : Int32) + (1 : Int32)))]) rfl ?_
    show Steps p.tables e below (T3.setTop (mkF m 91 #[.val (.ref r0), .val (.ref r1), .val (.ref r2), .val (.ref r3), .val (.int ((4 : Int32) + (1 : Int32)))] [])) _
    rw [show ((4 : Int32) + (1 : Int32)) = (5 : Int32) from (by decide)]
    refine XS.goto X3.here hx rfl (pc0 := 91) (pc' := 42) rfl (hb hby d1_91) (by decide) (by decide) ?_
    refine XS.iload X3.here hx rfl (hb hby d1_42) rfl ?_
    refine XS.aloadN X3.here hx rfl (hb hby d1_44) rfl rfl ?_
    refine X3.arraylength hx (by rw [eq3]; exact Ar_r3_7.1) Al_r3_7 (g := (mkF m 45 #[.val (.ref r0), .val (.ref r1), .val (.ref r2), .val (.ref r3), .val (.int (5 : Int32))] [(.ref r3), (.int (5 : Int32))])) rfl rfl (hb hby d1_45) _ ?_
    rw [len_of S_r3_7 N_r3_7]
    refine XS.icmpNo X3.here hx rfl (hb hby d1_46) rfl (tlt (by decide : (5 : Int32) < (6 : Int32))).2.1 ?_
    refine XS.aloadN X3.here hx rfl (hb hby d1_49) rfl rfl ?_
    refine XS.iload X3.here hx rfl (hb hby d1_50) rfl ?_
    refine X3.daload hx (j := (5 : Int32)) (v := (.double x5)) (by rw [eq3]; exact Ar_r3_7.1) Al_r3_7 Ar_r3_7.2.2 hin_r3_7_5 hat_r3_7_5 (g := (mkF m 52 #[.val (.ref r0), .val (.ref r1), .val (.ref r2), .val (.ref r3), .val (.int (5 : Int32))] [(.int (5 : Int32)), (.ref r3)])) rfl rfl (hb hby d1_52) _ ?_
    refine XS.dconst0 X3.here hx rfl (hb hby d1_53) rfl ?_
    refine XS.dcmpS X3.here hx rfl (hb hby d1_54) rfl rfl ?_
    refine XS.ifNo X3.here hx rfl (hb hby d1_55) rfl ((if0 _ _).trans (flt hn_x5).1) ?_
    refine XS.aloadN X3.here hx rfl (hb hby d1_58) rfl rfl ?_
    refine XS.iload X3.here hx rfl (hb hby d1_59) rfl ?_
    refine X3.daload hx (j := (5 : Int32)) (v := (.double x5)) (by rw [eq3]; exact Ar_r3_7.1) Al_r3_7 Ar_r3_7.2.2 hin_r3_7_5 hat_r3_7_5 (g := (mkF m 61 #[.val (.ref r0), .val (.ref r1), .val (.ref r2), .val (.ref r3), .val (.int (5 : Int32))] [(.int (5 : Int32)), (.ref r3)])) rfl rfl (hb hby d1_61) _ ?_
    refine X3.ldc2DoubleC hx hown (mvT hZ (W 43 rfl)) (g := (mkF m 62 #[.val (.ref r0), .val (.ref r1), .val (.ref r2), .val (.ref r3), .val (.int (5 : Int32))] [(.double x5)])) rfl (hb hby d1_62) _ ?_
    refine XS.dcmpS X3.here hx rfl (hb hby d1_65) rfl rfl ?_
    refine XS.ifYes X3.here hx rfl (pc0 := 66) (pc' := 88) rfl (hb hby d1_66) rfl ((if0 _ _).trans (tlt (own_pinf hf_x5)).1) (by decide) (by decide) ?_
    refine XS.iinc X3.here hx rfl (hb hby d1_88) rfl (l' := #[.val (.ref r0), .val (.ref r1), .val (.ref r2), .val (.ref r3), .val (.int ((5 : Int32) + (1 : Int32)))]) rfl ?_
    show Steps p.tables e below (T3.setTop (mkF m 91 #[.val (.ref r0), .val (.ref r1), .val (.ref r2), .val (.ref r3), .val (.int ((5 : Int32) + (1 : Int32)))] [])) _
    rw [show ((5 : Int32) + (1 : Int32)) = (6 : Int32) from (by decide)]
    refine XS.goto X3.here hx rfl (pc0 := 91) (pc' := 42) rfl (hb hby d1_91) (by decide) (by decide) ?_
    refine XS.iload X3.here hx rfl (hb hby d1_42) rfl ?_
    refine XS.aloadN X3.here hx rfl (hb hby d1_44) rfl rfl ?_
    refine X3.arraylength hx (by rw [eq3]; exact Ar_r3_7.1) Al_r3_7 (g := (mkF m 45 #[.val (.ref r0), .val (.ref r1), .val (.ref r2), .val (.ref r3), .val (.int (6 : Int32))] [(.ref r3), (.int (6 : Int32))])) rfl rfl (hb hby d1_45) _ ?_
    rw [len_of S_r3_7 N_r3_7]
    refine XS.icmpYes X3.here hx rfl (pc0 := 46) (pc' := 94) rfl (hb hby d1_46) rfl (flt (by decide : ¬ ((6 : Int32) < (6 : Int32)))).2.1 (by decide) (by decide) ?_
    refine XS.aloadN X3.here hx rfl (hb hby d1_94) rfl rfl ?_
    refine XS.aloadN X3.here hx rfl (hb hby d1_95) rfl rfl ?_
    refine st11 _ ?_
    refine st12 _ ?_
    refine st15 _ ?_
    refine XS.aloadN X15.here hx rfl (hb hby d1_105) rfl rfl ?_
    refine XS.aloadN X15.here hx rfl (hb hby d1_106) rfl rfl ?_
    refine st20 _ ?_
    refine st21 _ ?_
    refine st24 _ ?_
    refine XS.aloadN X24.here hx rfl (hb hby d1_116) rfl rfl ?_
    refine XS.aloadN X24.here hx rfl (hb hby d1_117) rfl rfl ?_
    refine st29 _ ?_
    refine st30 _ ?_
    refine st33 _ ?_
    show Steps p.tables e below (T33.setTop (mkF m 127 #[.val (.ref r0), .val (.ref r1), .val (.ref r2), .val (.ref r3), .val (.int (6 : Int32))] [])) _
    exact X33.returnOut hx Bd.returns (hb hby d1_127) hr
  · show Q_in_13 Z r0 k_r2 k_r3 x0 x1 x2 x3 x4 x5 h0 n0 _ T33.heap _
    rw [e33]
    exact ⟨rfl, N33, KK34, E_r0_35, b20, b29, Fw24_36, Fw33, B20_37, V_b20_38, V_b29_39⟩
abbrev Rrm_ca_2 : Room := ({ frames := 1, cells := 1, slots := 3, locals := 14 } : Room)
theorem ef_rm_ca_2 (m : MethodId) (r0 : Addr) : entryFrame m #[(.ref r0)] 1 = mkF m 0 #[.val (.ref r0)] [] := by first | (simp [entryFrame, mkF, argsToLocals, Value.category]; done) | rfl
def Q_ca_2 (Z : State) (pc : Int32) (k_rc : ClassId) (h0 : Heap) (n0 : Nat) (v : Option Value) (h : Heap) (L : List Loc) : Prop := (∃ b : Addr, v = some (.ref b) ∧ Arv Z h b k_rc .int (3 : Int32) [(.int (1 : Int32)), (.int (2 : Int32)), (.int pc)] (.int (0 : Int32))) ∧ Fr n0 L ∧ Keep h0 h []
set_option maxRecDepth 65536 in
set_option maxHeartbeats 40000000 in
theorem rm_ca_2 (l : Launch) (Z : State) (a0 : Array Value) (hw : ∀ d ∈ tables_1, d.before a0 Z = true) (ws : List Jvm.Cond) (r0 : Addr) (rc : Addr) (pc : Int32) (k_rc : ClassId) (h0 : Heap) (n0 : Nat) (Z0 : n0 ≤ h0.size) (F_cardinalities_r0 : Fld Z h0 r0 "com/example/beliefwire/beliefwire/model/Factor" "cardinalities" "[I" (.ref rc)) (V_rc : Arv Z h0 rc k_rc .int (3 : Int32) [(.int (1 : Int32)), (.int (2 : Int32)), (.int pc)] (.int (0 : Int32))) (E_rc : Exa Z h0 rc "[I") :
    MetFree l (⟨"com/example/beliefwire/beliefwire/model/Factor", "cardinalities", "()[I"⟩ : MethodName) (head1 (Jvm.Cond.code (⟨"com/example/beliefwire/beliefwire/model/Factor", "cardinalities", "()[I"⟩ : MethodName) prog_60_method_5_code 1 (some (.array .int)) :: ws) Rrm_ca_2) (fun a U => a = #[(.ref r0)] ∧ Z.Warmed39 U.vm ∧ U.heap = h0) (fun _ _ _ _ _ => True) (fun _ U o U' => ∃ v L, o = .returned v ∧ Q_ca_2 Z pc k_rc h0 n0 v U'.heap L ∧ FrameEnd U o U' L Rrm_ca_2.cells Rrm_ca_2.slots) := by
  refine MetFree.of_bodySF (plainFor_of_name pn_2) hisR ?_
  intro p e s m args below meth c s₁ Bd hml0 hP hK
  obtain ⟨rfl, hZ, hh⟩ := hP
  have hx := Bd.exec
  have hby := Bd.bytes
  have hml : c.maxLocals = 1 := hml0
  have hown : s.vm.findClass "com/example/beliefwire/beliefwire/model/Factor" = some m.cls := findClass_of_methodNamed Bd.named
  have hnm := (name_of_methodNamed Bd.named Bd.method).1
  have X0 : Stand p l e Rrm_ca_2 s m #[(.ref r0)] below meth c s₁ [] 0 0 := Stand.of_body Bd
  have e0 : s₁.heap = h0 := by rw [← hh, Bd.state]; rfl
  have N0 := Fr.nil n0
  have W := @own_W a0 Z hw
  have pre0 : ∀ t, Steps p.tables e below (s₁.setTop (mkF m 0 #[.val (.ref r0)] [])) t → Steps p.tables e below (s₁.setTop (entryFrame m #[(.ref r0)] 1)) t := fun t k => castTop (ef_rm_ca_2 m r0) k
  obtain ⟨T1, X1, e1, st1⟩ := getF X0 hx hZ hown (host := "") (Or.inl (W 46 rfl)) Via.refl e0 F_cardinalities_r0 (g := (mkF m 1 #[.val (.ref r0)] [(.ref r0)])) rfl rfl (hb hby d10_1)
  obtain ⟨T2, h2, X2, e2, E2, V2, B2, st2⟩ := cloneH X1 hx hZ hown (W 16 rfl) (W 17 rfl) (W 21 rfl) (W 19 rfl) (W 20 rfl) (W 22 rfl) e1 (Arv.arh V_rc) E_rc (g := (mkF m 4 #[.val (.ref r0)] [(.ref rc)])) rfl (by rw [hml]; rfl) rfl (hb hby d10_4) (by decide) (W := 0) (cap := 3) (own_le rfl) (by decide) (by decide) (by decide) (by decide)
  obtain ⟨b2, gg2⟩ : ∃ z, z = h0.size := ⟨_, rfl⟩
  rw [← gg2] at V2 B2 st2
  have g_b2 : n0 ≤ b2 := Nat.le_trans Z0 (Nat.le_of_eq gg2.symm)
  have sz_b2 : h0.size ≤ b2 := Nat.le_trans (Nat.le_refl h0.size) (Nat.le_of_eq gg2.symm)
  have V_b2 : Arv Z h2 b2 k_rc .int (3 : Int32) [(.int (1 : Int32)), (.int (2 : Int32)), (.int pc)] (.int (0 : Int32)) := V2
  obtain ⟨T3, X3, e3, st3⟩ := castY X2 hx hZ hown (W 23 rfl) e2 (Ins.self B2) (g := (mkF m 7 #[.val (.ref r0)] [(.ref b2)])) rfl rfl (hb hby d10_7)
  have KK4 : Keep h0 h2 [] := ((Keep.refl h0 []).ext E2)
  obtain ⟨fs, hr, hrun, hended, hW, hsame⟩ := X3.leave (v := some (.ref b2)) (fun h => by rw [Bd.returns] at h; cases h)
  refine ⟨_, _, pre0 _ ?_, hrun, hended, _, _, rfl, ?_, ⟨_, rfl⟩, hW, hsame.mono (by decide) (by decide)⟩
  · show Steps p.tables e below (s₁.setTop (mkF m 0 #[.val (.ref r0)] [])) _
    refine XS.aloadN X0.here hx rfl (hb hby d10_0) rfl rfl ?_
    refine st1 _ ?_
    refine st2 _ ?_
    refine st3 _ ?_
    show Steps p.tables e below (T3.setTop (mkF m 10 #[.val (.ref r0)] [(.ref b2)])) _
    jvm_step X3.here [X3.here.top, hx, (hb hby d10_10), X3.method', Bd.returns, Value.isRef, FieldType.isReference]
    first | (intro acts; rw [hr _ acts rfl rfl rfl]) | rw [hr _ _ rfl rfl rfl]
    exact Steps.refl _
  · show Q_ca_2 Z pc k_rc h0 n0 _ T3.heap _
    rw [e3]
    exact ⟨⟨b2, rfl, V_b2⟩, N0, KK4⟩
abbrev Rrm_lk_21 : Room := ({ frames := 2, cells := 2, slots := 4, locals := 31 } : Room)
theorem ef_rm_lk_21 (m : MethodId) (r0 : Addr) : entryFrame m #[(.ref r0)] 2 = mkF m 0 #[.val (.ref r0), .unset] [] := by first | (simp [entryFrame, mkF, argsToLocals, Value.category]; done) | rfl
def Q_lk_21 (Z : State) (x0 : UInt64) (x1 : UInt64) (h0 : Heap) (n0 : Nat) (v : Option Value) (h : Heap) (L : List Loc) : Prop := (∃ (b : Addr) (kb : ClassId), v = some (.ref b) ∧ Arv Z h b kb .double (1 : Int32) [(.double x0)] (.double (0 : UInt64))) ∧ Fr n0 L ∧ Keep h0 h []
set_option maxRecDepth 65536 in
set_option maxHeartbeats 40000000 in
theorem rm_lk_21 (l : Launch) (Z : State) (a0 : Array Value) (hw : ∀ d ∈ tables_1, d.before a0 Z = true) (ws : List Jvm.Cond) (r0 : Addr) (rc : Addr) (re : Addr) (x0 : UInt64) (x1 : UInt64) (k_rc : ClassId) (k_re : ClassId) (h0 : Heap) (n0 : Nat) (Z0 : n0 ≤ h0.size) (E_r0 : Exa Z h0 r0 "com/example/beliefwire/beliefwire/model/Factor") (F_cardinalities_r0 : Fld Z h0 r0 "com/example/beliefwire/beliefwire/model/Factor" "cardinalities" "[I" (.ref rc)) (V_rc : Arv Z h0 rc k_rc .int (3 : Int32) [(.int (1 : Int32)), (.int (2 : Int32)), (.int (1 : Int32))] (.int (0 : Int32))) (E_rc : Exa Z h0 rc "[I") (F_entries_r0 : Fld Z h0 r0 "com/example/beliefwire/beliefwire/model/Factor" "entries" "[D" (.ref re)) (V_re : Arv Z h0 re k_re .double (2 : Int32) [(.double x0), (.double x1)] (.double (0 : UInt64))) :
    MetFree l (⟨"com/example/beliefwire/beliefwire/io/NoisyMax", "leak", "(Lcom/example/beliefwire/beliefwire/model/Factor;)[D"⟩ : MethodName) (head1 (Jvm.Cond.code (⟨"com/example/beliefwire/beliefwire/io/NoisyMax", "leak", "(Lcom/example/beliefwire/beliefwire/model/Factor;)[D"⟩ : MethodName) prog_40_method_4_code 2 (some (.array .double)) :: ws) Rrm_lk_21) (fun a U => a = #[(.ref r0)] ∧ Z.Warmed39 U.vm ∧ U.heap = h0) (fun _ _ _ _ _ => True) (fun _ U o U' => ∃ v L, o = .returned v ∧ Q_lk_21 Z x0 x1 h0 n0 v U'.heap L ∧ FrameEnd U o U' L Rrm_lk_21.cells Rrm_lk_21.slots) := by
  refine MetFree.of_bodySF (plainFor_of_name pn_3) hisR ?_
  intro p e s m args below meth c s₁ Bd hml0 hP hK
  obtain ⟨rfl, hZ, hh⟩ := hP
  have hx := Bd.exec
  have hby := Bd.bytes
  have hml : c.maxLocals = 2 := hml0
  have hown : s.vm.findClass "com/example/beliefwire/beliefwire/io/NoisyMax" = some m.cls := findClass_of_methodNamed Bd.named
  have hnm := (name_of_methodNamed Bd.named Bd.method).1
  have X0 : Stand p l e Rrm_lk_21 s m #[(.ref r0)] below meth c s₁ [] 0 0 := Stand.of_body Bd
  have e0 : s₁.heap = h0 := by rw [← hh, Bd.state]; rfl
  have N0 := Fr.nil n0
  have W := @own_W a0 Z hw
  have pre0 : ∀ t, Steps p.tables e below (s₁.setTop (mkF m 0 #[.val (.ref r0), .unset] [])) t → Steps p.tables e below (s₁.setTop (entryFrame m #[(.ref r0)] 2)) t := fun t k => castTop (ef_rm_lk_21 m r0) k
  obtain ⟨cq1, kq1, q1a, q1b, q1c⟩ := isOf hZ e0 E_r0
  obtain ⟨_, _, ⟨T1, L1, k1, n1⟩, -, X1, ⟨Lc1, hQ1, l1, y1, z1⟩, st1⟩ := X0.virtualBack hx (y := (⟨"com/example/beliefwire/beliefwire/model/Factor", "cardinalities", "()[I"⟩ : MethodName)) (z := (⟨"com/example/beliefwire/beliefwire/model/Factor", "cardinalities", "()[I"⟩ : MethodName)) hown (mvT hZ (W 60 rfl)) (mvT hZ (W 61 rfl)) (notFace_of_selects (args := #[]) (mvT hZ (W 63 rfl))) (mvT hZ (W 63 rfl)) (mvT hZ (W 62 rfl)) (by decide) (backOf (W := 0) (rm_ca_2 l Z a0 hw [] r0 rc (1 : Int32) k_rc h0 n0 Z0 F_cardinalities_r0 V_rc E_rc) hZ (W 64 rfl) (W 6 rfl) (by decide) (by decide)) q1a q1c (g := (mkF m 1 #[.val (.ref r0), .unset] [(.ref r0)])) rfl (by rw [hml]; rfl) (Steps.refl _) (argsL := []) (rest := []) (lenOf pd_6 rfl) rfl (own_le rfl) (hb hby d9_1) (fun _ _ => ⟨rfl, e0, (by decide : 0 + 1 ≤ _), (by decide : 0 + 3 ≤ _)⟩)
  dsimp only [Pt.U, Pt.locs, Pt.cells, Pt.slots] at X1 l1 y1 z1 st1 hQ1
  subst l1 y1 z1
  obtain ⟨⟨b1, rfl, V1⟩, N1q, K1⟩ := hQ1
  have N1 := Fr.app N0 N1q
  obtain ⟨LL1, X1, N1⟩ := own_hide X1 N1
  obtain ⟨cl_b1_2, Ar_b1_2, q_b1_2, S_b1_2, N_b1_2, H_b1_2, G_b1_2⟩ := id V1
  have Al_b1_2 := State.isArrayOf_alike hZ.alike Ar_b1_2.2.1
  have hin_b1_2_2 : ¬ ((2 : Int32) < 0 ∨ cl_b1_2.slots.size ≤ ((2 : Int32)).toNatClampNeg) := inb_of S_b1_2 ⟨by decide, by decide⟩
  have hat_b1_2_2 : cl_b1_2.slots[((2 : Int32)).toNatClampNeg]? = some (.int (1 : Int32)) := H_b1_2 _ (by rw [S_b1_2]; decide)
  have Z4z : n0 ≤ T1.heap.size := (Nat.le_trans Z0 K1.1)
  have E_r0_5 := (E_r0.keep K1)
  have F_entries_r0_6 := (F_entries_r0.keep K1 own_nin0)
  have V_re_7 := (V_re.keep K1 own_nin0)
  obtain ⟨_, _, ⟨T3, L3, k3, n3⟩, -, X3, ⟨Lc3, hQ3, l3, y3, z3⟩, st3⟩ := Jvm.LawKit.callS X1 hx (y := (⟨"com/example/beliefwire/beliefwire/io/NoisyMax", "entries", "(Lcom/example/beliefwire/beliefwire/model/Factor;II)[D"⟩ : MethodName)) hown (mvT hZ (W 65 rfl)) (mvT hZ (W 66 rfl)) (mvT hZ (W 58 rfl)) (mvT hZ (W 67 rfl)) (by decide) (backOf (W := 0) (rm_es_1_2 l Z a0 hw [] r0 re x0 x1 k_re T1.heap n0 Z4z E_r0_5 F_entries_r0_6 V_re_7) hZ (W 67 rfl) (W 58 rfl) (by decide) (by decide)) (g := (mkF m 13 #[.val (.ref r0), .val (.ref b1)] [(.int (1 : Int32)), (.int (0 : Int32)), (.ref r0)])) rfl (by rw [hml]; rfl) (argsL := [(.ref r0), (.int (0 : Int32)), (.int (1 : Int32))]) (rest := []) (lenOf pd_7 rfl) rfl (own_le rfl) (hb hby d9_13) (fun _ _ => ⟨rfl, rfl, (by decide : 1 + 1 ≤ _), (by decide : 3 + 1 ≤ _)⟩)
  dsimp only [Pt.U, Pt.locs, Pt.cells, Pt.slots] at X3 l3 y3 z3 st3 hQ3
  subst l3 y3 z3
  obtain ⟨⟨b3, kb3, rfl, V3⟩, N3q, K3⟩ := hQ3
  have N3 := Fr.app N1 N3q
  obtain ⟨LL3, X3, N3⟩ := own_hide X3 N3
  have KK8 : Keep h0 T3.heap [] := (((Keep.refl h0 []).trans K1 (own_in0)).trans K3 (own_in0))
  obtain ⟨fs, hr, hrun, hended, hW, hsame⟩ := X3.leave (v := some (.ref b3)) (fun h => by rw [Bd.returns] at h; cases h)
  refine ⟨_, _, pre0 _ ?_, hrun, hended, _, _, rfl, ?_, ⟨_, rfl⟩, hW, hsame.mono (by decide) (by decide)⟩
  · show Steps p.tables e below (s₁.setTop (mkF m 0 #[.val (.ref r0), .unset] [])) _
    refine XS.aloadN X0.here hx rfl (hb hby d9_0) rfl rfl ?_
    refine st1.trans ?_
    refine XS.astoreN X1.here hx rfl (hb hby d9_4) rfl rfl (l' := #[.val (.ref r0), .val (.ref b1)]) rfl ?_
    refine XS.aloadN X1.here hx rfl (hb hby d9_5) rfl rfl ?_
    refine XS.iconst X1.here hx rfl (hb hby d9_6) ?_
    refine XS.aloadN X1.here hx rfl (hb hby d9_7) rfl rfl ?_
    refine XS.aloadN X1.here hx rfl (hb hby d9_8) rfl rfl ?_
    refine X1.arraylength hx Ar_b1_2.1 Al_b1_2 (g := (mkF m 9 #[.val (.ref r0), .val (.ref b1)] [(.ref b1), (.ref b1), (.int (0 : Int32)), (.ref r0)])) rfl rfl (hb hby d9_9) _ ?_
    rw [len_of S_b1_2 N_b1_2]
    refine XS.iconst X1.here hx rfl (hb hby d9_10) ?_
    refine XS.isub X1.here hx rfl (hb hby d9_11) rfl ?_
    show Steps p.tables e below (T1.setTop (mkF m 12 #[.val (.ref r0), .val (.ref b1)] [(.int ((3 : Int32) - (1 : Int32))), (.ref b1), (.int (0 : Int32)), (.ref r0)])) _
    rw [show ((3 : Int32) - (1 : Int32)) = (2 : Int32) from (by decide)]
    refine X1.iaload hx (j := (2 : Int32)) (v := (.int (1 : Int32))) Ar_b1_2.1 Al_b1_2 Ar_b1_2.2.2 hin_b1_2_2 hat_b1_2_2 (g := (mkF m 12 #[.val (.ref r0), .val (.ref b1)] [(.int (2 : Int32)), (.ref b1), (.int (0 : Int32)), (.ref r0)])) rfl rfl (hb hby d9_12) _ ?_
    refine st3 _ ?_
    show Steps p.tables e below (T3.setTop (mkF m 16 #[.val (.ref r0), .val (.ref b1)] [(.ref b3)])) _
    jvm_step X3.here [X3.here.top, hx, (hb hby d9_16), X3.method', Bd.returns, Value.isRef, FieldType.isReference]
    first | (intro acts; rw [hr _ acts rfl rfl rfl]) | rw [hr _ _ rfl rfl rfl]
    exact Steps.refl _
  · show Q_lk_21 Z x0 x1 h0 n0 _ T3.heap _
    exact ⟨⟨b3, _, rfl, V3⟩, N3, KK8⟩
abbrev Rrm_in_21 : Room := ({ frames := 5, cells := 4, slots := 11, locals := 96 } : Room)
theorem ef_rm_in_21 (m : MethodId) (r0 : Addr) (r1 : Addr) (r2 : Addr) (r3 : Addr) : entryFrame m #[(.ref r0), (.ref r1), (.ref r2), (.ref r3)] 5 = mkF m 0 #[.val (.ref r0), .val (.ref r1), .val (.ref r2), .val (.ref r3), .unset] [] := by first | (simp [entryFrame, mkF, argsToLocals, Value.category]; done) | rfl
def Q_in_21 (Z : State) (r0 : Addr) (k_r2 : ClassId) (k_r3 : ClassId) (x0 : UInt64) (x1 : UInt64) (h0 : Heap) (n0 : Nat) (v : Option Value) (h : Heap) (L : List Loc) : Prop := v = none ∧ Fr n0 L ∧ Keep h0 h [r0] ∧ Exa Z h r0 "com/example/beliefwire/beliefwire/model/Factor" ∧ ∃ bc be : Addr, Fld Z h r0 "com/example/beliefwire/beliefwire/model/Factor" "cardinalities" "[I" (.ref bc) ∧ Fld Z h r0 "com/example/beliefwire/beliefwire/model/Factor" "entries" "[D" (.ref be) ∧ Exa Z h bc "[I" ∧ Arv Z h bc k_r2 .int (3 : Int32) [(.int (1 : Int32)), (.int (2 : Int32)), (.int (1 : Int32))] (.int (0 : Int32)) ∧ Arv Z h be k_r3 .double (2 : Int32) [(.double x0), (.double x1)] (.double (0 : UInt64))
set_option maxRecDepth 65536 in
set_option maxHeartbeats 40000000 in
theorem rm_in_21 (l : Launch) (Z : State) (a0 : Array Value) (hw : ∀ d ∈ tables_1, d.before a0 Z = true) (ws : List Jvm.Cond) (r0 : Addr) (r1 : Addr) (r2 : Addr) (r3 : Addr) (x0 : UInt64) (x1 : UInt64) (u_scope_r0 : Value) (u_cardinalities_r0 : Value) (u_entries_r0 : Value) (k_r1 : ClassId) (k_r2 : ClassId) (k_r3 : ClassId) (h0 : Heap) (n0 : Nat) (Z0 : n0 ≤ h0.size) (E_r0 : Exa Z h0 r0 "com/example/beliefwire/beliefwire/model/Factor") (g_r0 : n0 ≤ r0) (F_scope_r0 : Fld Z h0 r0 "com/example/beliefwire/beliefwire/model/Factor" "scope" "[I" u_scope_r0) (F_cardinalities_r0 : Fld Z h0 r0 "com/example/beliefwire/beliefwire/model/Factor" "cardinalities" "[I" u_cardinalities_r0) (F_entries_r0 : Fld Z h0 r0 "com/example/beliefwire/beliefwire/model/Factor" "entries" "[D" u_entries_r0) (V_r1 : Arv Z h0 r1 k_r1 .int (3 : Int32) [(.int (1 : Int32)), (.int (0 : Int32)), (.int (2 : Int32))] (.int (0 : Int32))) (E_r1 : Exa Z h0 r1 "[I") (V_r2 : Arv Z h0 r2 k_r2 .int (3 : Int32) [(.int (1 : Int32)), (.int (2 : Int32)), (.int (1 : Int32))] (.int (0 : Int32))) (E_r2 : Exa Z h0 r2 "[I") (V_r3 : Arv Z h0 r3 k_r3 .double (2 : Int32) [(.double x0), (.double x1)] (.double (0 : UInt64))) (E_r3 : Exa Z h0 r3 "[D") (hf_x0 : Fl.Fin64 x0) (hn_x0 : ¬ cmpValue (FP.dcmp x0 FP.dconst0) .l < (0 : Int32)) (hf_x1 : Fl.Fin64 x1) (hn_x1 : ¬ cmpValue (FP.dcmp x1 FP.dconst0) .l < (0 : Int32)) :
    MetFree l (⟨"com/example/beliefwire/beliefwire/model/Factor", "<init>", "([I[I[D)V"⟩ : MethodName) (head1 (Jvm.Cond.code (⟨"com/example/beliefwire/beliefwire/model/Factor", "<init>", "([I[I[D)V"⟩ : MethodName) prog_60_method_1_code 5 none :: ws) Rrm_in_21) (fun a U => a = #[(.ref r0), (.ref r1), (.ref r2), (.ref r3)] ∧ Z.Warmed39 U.vm ∧ U.heap = h0) (fun _ _ _ _ _ => True) (fun _ U o U' => ∃ v L, o = .returned v ∧ Q_in_21 Z r0 k_r2 k_r3 x0 x1 h0 n0 v U'.heap L ∧ FrameEnd U o U' L Rrm_in_21.cells Rrm_in_21.slots) := by
  refine MetFree.of_bodySF (plainFor_of_name pn_2) hisR ?_
  intro p e s m args below meth c s₁ Bd hml0 hP hK
  obtain ⟨rfl, hZ, hh⟩ := hP
  have hx := Bd.exec
  have hby := Bd.bytes
  have hml : c.maxLocals = 5 := hml0
  have hown : s.vm.findClass "com/example/beliefwire/beliefwire/model/Factor" = some m.cls := findClass_of_methodNamed Bd.named
  have hnm := (name_of_methodNamed Bd.named Bd.method).1
  have X0 : Stand p l e Rrm_in_21 s m #[(.ref r0), (.ref r1), (.ref r2), (.ref r3)] below meth c s₁ [] 0 0 := Stand.of_body Bd
  have e0 : s₁.heap = h0 := by rw [← hh, Bd.state]; rfl
  have N0 := Fr.nil n0
  have W := @own_W a0 Z hw
  have pre0 : ∀ t, Steps p.tables e below (s₁.setTop (mkF m 0 #[.val (.ref r0), .val (.ref r1), .val (.ref r2), .val (.ref r3), .unset] [])) t → Steps p.tables e below (s₁.setTop (entryFrame m #[(.ref r0), (.ref r1), (.ref r2), (.ref r3)] 5)) t := fun t k => castTop (ef_rm_in_21 m r0 r1 r2 r3) k
  have ne_r0_r1 : r0 ≠ r1 := by obtain ⟨_, A, -⟩ := id V_r1; exact ne_arr E_r0 (W 5 rfl) A
  have ne_r0_r2 : r0 ≠ r2 := by obtain ⟨_, A, -⟩ := id V_r2; exact ne_arr E_r0 (W 5 rfl) A
  have ne_r0_r3 : r0 ≠ r3 := by obtain ⟨_, A, -⟩ := id V_r3; exact ne_arr E_r0 (W 5 rfl) A
  obtain ⟨T1, X1, e1, st1⟩ := initO X0 hx hZ hown (W 10 rfl) (W 11 rfl) (W 12 rfl) e0 (g := (mkF m 1 #[.val (.ref r0), .val (.ref r1), .val (.ref r2), .val (.ref r3), .unset] [(.ref r0)])) rfl (by rw [hml]; rfl) rfl (hb hby d1_1) (by decide) (W := 0) (own_le rfl) (by decide)
  obtain ⟨_, _, ⟨T2, L2, k2, n2⟩, -, X2, ⟨Lc2, hQ2, l2, y2, z2⟩, st2⟩ := Jvm.LawKit.callS X1 hx (y := (⟨"com/example/beliefwire/beliefwire/model/Factor", "checkScope", "([I[I)V"⟩ : MethodName)) hown (mvT hZ (W 13 rfl)) (mvT hZ (W 14 rfl)) (mvT hZ (W 6 rfl)) (mvT hZ (W 15 rfl)) (by decide) (backOf (W := 0) (rm_cs_2 l Z a0 hw [] r1 r2 (1 : Int32) k_r1 k_r2 h0 n0 Z0 V_r1 E_r1 V_r2 (by decide)) hZ (W 15 rfl) (W 6 rfl) (by decide) (by decide)) (g := (mkF m 6 #[.val (.ref r0), .val (.ref r1), .val (.ref r2), .val (.ref r3), .unset] [(.ref r2), (.ref r1)])) rfl (by rw [hml]; rfl) (argsL := [(.ref r1), (.ref r2)]) (rest := []) (lenOf pd_8 rfl) rfl (own_le rfl) (hb hby d1_6) (fun _ _ => ⟨rfl, e1, (by decide : 0 + 1 ≤ _), (by decide : 0 + 3 ≤ _)⟩)
  dsimp only [Pt.U, Pt.locs, Pt.cells, Pt.slots] at X2 l2 y2 z2 st2 hQ2
  subst l2 y2 z2
  obtain ⟨rfl, N2q, K2⟩ := hQ2
  have N2 := Fr.app N0 N2q
  obtain ⟨LL2, X2, N2⟩ := own_hide X2 N2
  have Z4z : n0 ≤ T2.heap.size := (Nat.le_trans Z0 K2.1)
  have V_r2_5 := (V_r2.keep K2 own_nin0)
  obtain ⟨_, _, ⟨T3, L3, k3, n3⟩, -, X3, ⟨Lc3, hQ3, l3, y3, z3⟩, st3⟩ := Jvm.LawKit.callS X2 hx (y := (⟨"com/example/beliefwire/beliefwire/model/Factor", "tableSize", "([I)J"⟩ : MethodName)) hown (mvT hZ (W 39 rfl)) (mvT hZ (W 40 rfl)) (mvT hZ (W 6 rfl)) (mvT hZ (W 41 rfl)) (by decide) (backOf (W := 0) (rm_ts_2 l Z a0 hw [] r2 (1 : Int32) k_r2 T2.heap n0 Z4z V_r2_5 (by decide)) hZ (W 41 rfl) (W 6 rfl) (by decide) (by decide)) (g := (mkF m 10 #[.val (.ref r0), .val (.ref r1), .val (.ref r2), .val (.ref r3), .unset] [(.ref r2)])) rfl (by rw [hml]; rfl) (argsL := [(.ref r2)]) (rest := []) (lenOf pd_4 rfl) rfl (own_le rfl) (hb hby d1_10) (fun _ _ => ⟨rfl, rfl, (by decide : 1 + 0 ≤ _), (by decide : 3 + 0 ≤ _)⟩)
  dsimp only [Pt.U, Pt.locs, Pt.cells, Pt.slots] at X3 l3 y3 z3 st3 hQ3
  subst l3 y3 z3
  obtain ⟨hv3, N3q, eq3⟩ := hQ3
  rw [show ((2 : Int64) * ((1 : Int32).toInt64)) = (2 : Int64) from by decide] at hv3
  subst hv3
  have N3 := Fr.app N2 N3q
  obtain ⟨LL3, X3, N3⟩ := own_hide X3 N3
  have V_r3_6 := (V_r3.keep K2 own_nin0)
  obtain ⟨cl_r3_7, Ar_r3_7, q_r3_7, S_r3_7, N_r3_7, H_r3_7, G_r3_7⟩ := id V_r3_6
  have Al_r3_7 := State.isArrayOf_alike hZ.alike Ar_r3_7.2.1
  have hin_r3_7_0 : ¬ ((0 : Int32) < 0 ∨ cl_r3_7.slots.size ≤ ((0 : Int32)).toNatClampNeg) := inb_of S_r3_7 ⟨by decide, by decide⟩
  have hat_r3_7_0 : cl_r3_7.slots[((0 : Int32)).toNatClampNeg]? = some (.double x0) := H_r3_7 _ (by rw [S_r3_7]; decide)
  have hin_r3_7_1 : ¬ ((1 : Int32) < 0 ∨ cl_r3_7.slots.size ≤ ((1 : Int32)).toNatClampNeg) := inb_of S_r3_7 ⟨by decide, by decide⟩
  have hat_r3_7_1 : cl_r3_7.slots[((1 : Int32)).toNatClampNeg]? = some (.double x1) := H_r3_7 _ (by rw [S_r3_7]; decide)
  have V_r1_8 := (V_r1.keep K2 own_nin0)
  have E_r1_9 := (E_r1.keep K2)
  have hz10 : h0.size ≤ T2.heap.size := (Nat.le_trans (Nat.le_refl h0.size) K2.1)
  obtain ⟨T11, h11, X11, e11, E11, V11, B11, st11⟩ := cloneH X3 hx hZ hown (W 16 rfl) (W 17 rfl) (W 21 rfl) (W 19 rfl) (W 20 rfl) (W 22 rfl) eq3 (Arv.arh V_r1_8) E_r1_9 (g := (mkF m 96 #[.val (.ref r0), .val (.ref r1), .val (.ref r2), .val (.ref r3), .val (.int (2 : Int32))] [(.ref r1), (.ref r0)])) rfl (by rw [hml]; rfl) rfl (hb hby d1_96) (by decide) (W := 1) (cap := 3) (own_le rfl) (by decide) (by decide) (by decide) (by decide)
  obtain ⟨b11, gg11⟩ : ∃ z, z = T2.heap.size := ⟨_, rfl⟩
  rw [← gg11] at V11 B11 st11
  have g_b11 : n0 ≤ b11 := Nat.le_trans Z4z (Nat.le_of_eq gg11.symm)
  have sz_b11 : h0.size ≤ b11 := Nat.le_trans hz10 (Nat.le_of_eq gg11.symm)
  have V_b11 : Arv Z h11 b11 k_r1 .int (3 : Int32) [(.int (1 : Int32)), (.int (0 : Int32)), (.int (2 : Int32))] (.int (0 : Int32)) := V11
  obtain ⟨T12, X12, e12, st12⟩ := castY X11 hx hZ hown (W 23 rfl) e11 (Ins.self B11) (g := (mkF m 99 #[.val (.ref r0), .val (.ref r1), .val (.ref r2), .val (.ref r3), .val (.int (2 : Int32))] [(.ref b11), (.ref r0)])) rfl rfl (hb hby d1_99)
  have E_r0_13 := ((E_r0.keep K2).ext E11)
  have F_scope_r0_14 := ((F_scope_r0.keep K2 own_nin0).ext E11)
  obtain ⟨T15, h15, X15, e15, W15, st15⟩ := putF X12 hx hZ hown (host := "") (Or.inl (W 44 rfl)) Via.refl e12 F_scope_r0_14 E_r0_13 (Or.inr ⟨(W 45 rfl), rfl, hnm⟩) (W 5 rfl) (ty := (.array .int)) (by decide) rfl rfl (g := (mkF m 102 #[.val (.ref r0), .val (.ref r1), .val (.ref r2), .val (.ref r3), .val (.int (2 : Int32))] [(.ref b11), (.ref r0)])) rfl rfl (hb hby d1_102)
  have Fw15 := F_scope_r0_14.same W15
  have N15 := Fr.snoc X15 N3 g_r0
  obtain ⟨LL15, X15, N15⟩ := own_hide X15 N15
  have V_r2_16 := ((V_r2_5.ext E11).other W15 (Ne.symm ne_r0_r2))
  have E_r2_17 := (((E_r2.keep K2).ext E11).wr W15)
  have Z18z : n0 ≤ h15.size := (Nat.le_trans (Nat.le_trans Z4z E11.1) (Keep.of_wr W15).1)
  have hz19 : h0.size ≤ h15.size := (Nat.le_trans (Nat.le_trans hz10 E11.1) (Keep.of_wr W15).1)
  obtain ⟨T20, h20, X20, e20, E20, V20, B20, st20⟩ := cloneH X15 hx hZ hown (W 16 rfl) (W 17 rfl) (W 21 rfl) (W 19 rfl) (W 20 rfl) (W 22 rfl) e15 (Arv.arh V_r2_16) E_r2_17 (g := (mkF m 107 #[.val (.ref r0), .val (.ref r1), .val (.ref r2), .val (.ref r3), .val (.int (2 : Int32))] [(.ref r2), (.ref r0)])) rfl (by rw [hml]; rfl) rfl (hb hby d1_107) (by decide) (W := 1) (cap := 3) (own_le rfl) (by decide) (by decide) (by decide) (by decide)
  obtain ⟨b20, gg20⟩ : ∃ z, z = h15.size := ⟨_, rfl⟩
  rw [← gg20] at V20 B20 st20
  have g_b20 : n0 ≤ b20 := Nat.le_trans Z18z (Nat.le_of_eq gg20.symm)
  have sz_b20 : h0.size ≤ b20 := Nat.le_trans hz19 (Nat.le_of_eq gg20.symm)
  have V_b20 : Arv Z h20 b20 k_r2 .int (3 : Int32) [(.int (1 : Int32)), (.int (2 : Int32)), (.int (1 : Int32))] (.int (0 : Int32)) := V20
  obtain ⟨T21, X21, e21, st21⟩ := castY X20 hx hZ hown (W 23 rfl) e20 (Ins.self B20) (g := (mkF m 110 #[.val (.ref r0), .val (.ref r1), .val (.ref r2), .val (.ref r3), .val (.int (2 : Int32))] [(.ref b20), (.ref r0)])) rfl rfl (hb hby d1_110)
  have E_r0_22 := ((E_r0_13.wr W15).ext E20)
  have F_cardinalities_r0_23 := ((((F_cardinalities_r0.keep K2 own_nin0).ext E11).other W15 (Or.inr (slot_ne (Or.inr (W 47 rfl)) (Or.inr (W 45 rfl)) (by decide) (t := (.array .int)) (t' := (.array .int)) (by decide) (by decide)))).ext E20)
  obtain ⟨T24, h24, X24, e24, W24, st24⟩ := putF X21 hx hZ hown (host := "") (Or.inl (W 46 rfl)) Via.refl e21 F_cardinalities_r0_23 E_r0_22 (Or.inr ⟨(W 47 rfl), rfl, hnm⟩) (W 5 rfl) (ty := (.array .int)) (by decide) rfl rfl (g := (mkF m 113 #[.val (.ref r0), .val (.ref r1), .val (.ref r2), .val (.ref r3), .val (.int (2 : Int32))] [(.ref b20), (.ref r0)])) rfl rfl (hb hby d1_113)
  have Fw24 := F_cardinalities_r0_23.same W24
  have N24 := Fr.snoc X24 N15 g_r0
  obtain ⟨LL24, X24, N24⟩ := own_hide X24 N24
  have V_r3_25 := ((((V_r3_6.ext E11).other W15 (Ne.symm ne_r0_r3)).ext E20).other W24 (Ne.symm ne_r0_r3))
  have E_r3_26 := (((((E_r3.keep K2).ext E11).wr W15).ext E20).wr W24)
  have Z27z : n0 ≤ h24.size := (Nat.le_trans (Nat.le_trans Z18z E20.1) (Keep.of_wr W24).1)
  have hz28 : h0.size ≤ h24.size := (Nat.le_trans (Nat.le_trans hz19 E20.1) (Keep.of_wr W24).1)
  obtain ⟨T29, h29, X29, e29, E29, V29, B29, st29⟩ := cloneH X24 hx hZ hown (W 48 rfl) (W 49 rfl) (W 21 rfl) (W 19 rfl) (W 50 rfl) (W 51 rfl) e24 (Arv.arh V_r3_25) E_r3_26 (g := (mkF m 118 #[.val (.ref r0), .val (.ref r1), .val (.ref r2), .val (.ref r3), .val (.int (2 : Int32))] [(.ref r3), (.ref r0)])) rfl (by rw [hml]; rfl) rfl (hb hby d1_118) (by decide) (W := 1) (cap := 2) (own_le rfl) (by decide) (by decide) (by decide) (by decide)
  obtain ⟨b29, gg29⟩ : ∃ z, z = h24.size := ⟨_, rfl⟩
  rw [← gg29] at V29 B29 st29
  have g_b29 : n0 ≤ b29 := Nat.le_trans Z27z (Nat.le_of_eq gg29.symm)
  have sz_b29 : h0.size ≤ b29 := Nat.le_trans hz28 (Nat.le_of_eq gg29.symm)
  have V_b29 : Arv Z h29 b29 k_r3 .double (2 : Int32) [(.double x0), (.double x1)] (.double (0 : UInt64)) := V29
  obtain ⟨T30, X30, e30, st30⟩ := castY X29 hx hZ hown (W 52 rfl) e29 (Ins.self B29) (g := (mkF m 121 #[.val (.ref r0), .val (.ref r1), .val (.ref r2), .val (.ref r3), .val (.int (2 : Int32))] [(.ref b29), (.ref r0)])) rfl rfl (hb hby d1_121)
  have E_r0_31 := ((E_r0_22.wr W24).ext E29)
  have F_entries_r0_32 := ((((((F_entries_r0.keep K2 own_nin0).ext E11).other W15 (Or.inr (slot_ne (Or.inr (W 55 rfl)) (Or.inr (W 45 rfl)) (by decide) (t := (.array .double)) (t' := (.array .int)) (by decide) (by decide)))).ext E20).other W24 (Or.inr (slot_ne (Or.inr (W 55 rfl)) (Or.inr (W 47 rfl)) (by decide) (t := (.array .double)) (t' := (.array .int)) (by decide) (by decide)))).ext E29)
  obtain ⟨T33, h33, X33, e33, W33, st33⟩ := putF X30 hx hZ hown (host := "") (Or.inl (W 54 rfl)) Via.refl e30 F_entries_r0_32 E_r0_31 (Or.inr ⟨(W 55 rfl), rfl, hnm⟩) (W 5 rfl) (ty := (.array .double)) (by decide) rfl rfl (g := (mkF m 124 #[.val (.ref r0), .val (.ref r1), .val (.ref r2), .val (.ref r3), .val (.int (2 : Int32))] [(.ref b29), (.ref r0)])) rfl rfl (hb hby d1_124)
  have Fw33 := F_entries_r0_32.same W33
  have N33 := Fr.snoc X33 N24 g_r0
  obtain ⟨LL33, X33, N33⟩ := own_hide X33 N33
  have KK34 : Keep h0 h33 [r0] := ((((((((Keep.refl h0 [r0]).trans K2 (own_in0)).ext E11).wr W15 (Or.inl (List.mem_of_getElem? (i := 0) rfl))).ext E20).wr W24 (Or.inl (List.mem_of_getElem? (i := 0) rfl))).ext E29).wr W33 (Or.inl (List.mem_of_getElem? (i := 0) rfl)))
  have E_r0_35 := (E_r0_31.wr W33)
  have Fw24_36 := ((Fw24.ext E29).other W33 (Or.inr (slot_ne (Or.inr (W 47 rfl)) (Or.inr (W 55 rfl)) (by decide) (t := (.array .int)) (t' := (.array .double)) (by decide) (by decide))))
  have B20_37 := (((B20.wr W24).ext E29).wr W33)
  have ne_r0_b20 : r0 ≠ b20 := Nat.ne_of_lt (Nat.lt_of_lt_of_le (Nat.lt_of_lt_of_le (E_r0_13).lt (Keep.of_wr W15).1) (Nat.le_of_eq gg20.symm))
  have V_b20_38 := (((V_b20.other W24 (Ne.symm ne_r0_b20)).ext E29).other W33 (Ne.symm ne_r0_b20))
  have ne_r0_b29 : r0 ≠ b29 := Nat.ne_of_lt (Nat.lt_of_lt_of_le (Nat.lt_of_lt_of_le (E_r0_22).lt (Keep.of_wr W24).1) (Nat.le_of_eq gg29.symm))
  have V_b29_39 := (V_b29.other W33 (Ne.symm ne_r0_b29))
  obtain ⟨fs, hr, hrun, hended, hW, hsame⟩ := X33.leave (v := none) (fun _ => rfl)
  refine ⟨_, _, pre0 _ ?_, hrun, hended, _, _, rfl, ?_, ⟨_, rfl⟩, hW, hsame.mono (by decide) (by decide)⟩
  · show Steps p.tables e below (s₁.setTop (mkF m 0 #[.val (.ref r0), .val (.ref r1), .val (.ref r2), .val (.ref r3), .unset] [])) _
    refine XS.aloadN X0.here hx rfl (hb hby d1_0) rfl rfl ?_
    refine st1 _ ?_
    refine XS.aloadN X1.here hx rfl (hb hby d1_4) rfl rfl ?_
    refine XS.aloadN X1.here hx rfl (hb hby d1_5) rfl rfl ?_
    refine st2 _ ?_
    refine XS.aloadN X2.here hx rfl (hb hby d1_9) rfl rfl ?_
    refine st3 _ ?_
    refine XS.aloadN X3.here hx rfl (hb hby d1_13) rfl rfl ?_
    refine X3.arraylength hx (by rw [eq3]; exact Ar_r3_7.1) Al_r3_7 (g := (mkF m 14 #[.val (.ref r0), .val (.ref r1), .val (.ref r2), .val (.ref r3), .unset] [(.ref r3), (.long (2 : Int64))])) rfl rfl (hb hby d1_14) _ ?_
    rw [len_of S_r3_7 N_r3_7]
    refine XS.i2l X3.here hx rfl (hb hby d1_15) rfl ?_
    show Steps p.tables e below (T3.setTop (mkF m 16 #[.val (.ref r0), .val (.ref r1), .val (.ref r2), .val (.ref r3), .unset] [(.long ((2 : Int32).toInt64)), (.long (2 : Int64))])) _
    rw [show ((2 : Int32).toInt64) = (2 : Int64) from (by decide)]
    refine XS.lcmp X3.here hx rfl (hb hby d1_16) rfl ?_
    refine XS.ifYes X3.here hx rfl (pc0 := 17) (pc' := 39) rfl (hb hby d1_17) rfl ((if0 _ _).trans (teq ((lw_eq _ _).mpr (by decide : (2 : Int64) = (2 : Int64)))).1) (by decide) (by decide) ?_
    refine XS.iconst X3.here hx rfl (hb hby d1_39) ?_
    refine XS.istore X3.here hx rfl (hb hby d1_40) rfl (l' := #[.val (.ref r0), .val (.ref r1), .val (.ref r2), .val (.ref r3), .val (.int (0 : Int32))]) rfl ?_
    refine XS.iload X3.here hx rfl (hb hby d1_42) rfl ?_
    refine XS.aloadN X3.here hx rfl (hb hby d1_44) rfl rfl ?_
    refine X3.arraylength hx (by rw [eq3]; exact Ar_r3_7.1) Al_r3_7 (g := (mkF m 45 #[.val (.ref r0), .val (.ref r1), .val (.ref r2), .val (.ref r3), .val (.int (0 : Int32))] [(.ref r3), (.int (0 : Int32))])) rfl rfl (hb hby d1_45) _ ?_
    rw [len_of S_r3_7 N_r3_7]
    refine XS.icmpNo X3.here hx rfl (hb hby d1_46) rfl (tlt (by decide : (0 : Int32) < (2 : Int32))).2.1 ?_
    refine XS.aloadN X3.here hx rfl (hb hby d1_49) rfl rfl ?_
    refine XS.iload X3.here hx rfl (hb hby d1_50) rfl ?_
    refine X3.daload hx (j := (0 : Int32)) (v := (.double x0)) (by rw [eq3]; exact Ar_r3_7.1) Al_r3_7 Ar_r3_7.2.2 hin_r3_7_0 hat_r3_7_0 (g := (mkF m 52 #[.val (.ref r0), .val (.ref r1), .val (.ref r2), .val (.ref r3), .val (.int (0 : Int32))] [(.int (0 : Int32)), (.ref r3)])) rfl rfl (hb hby d1_52) _ ?_
    refine XS.dconst0 X3.here hx rfl (hb hby d1_53) rfl ?_
    refine XS.dcmpS X3.here hx rfl (hb hby d1_54) rfl rfl ?_
    refine XS.ifNo X3.here hx rfl (hb hby d1_55) rfl ((if0 _ _).trans (flt hn_x0).1) ?_
    refine XS.aloadN X3.here hx rfl (hb hby d1_58) rfl rfl ?_
    refine XS.iload X3.here hx rfl (hb hby d1_59) rfl ?_
    refine X3.daload hx (j := (0 : Int32)) (v := (.double x0)) (by rw [eq3]; exact Ar_r3_7.1) Al_r3_7 Ar_r3_7.2.2 hin_r3_7_0 hat_r3_7_0 (g := (mkF m 61 #[.val (.ref r0), .val (.ref r1), .val (.ref r2), .val (.ref r3), .val (.int (0 : Int32))] [(.int (0 : Int32)), (.ref r3)])) rfl rfl (hb hby d1_61) _ ?_
    refine X3.ldc2DoubleC hx hown (mvT hZ (W 43 rfl)) (g := (mkF m 62 #[.val (.ref r0), .val (.ref r1), .val (.ref r2), .val (.ref r3), .val (.int (0 : Int32))] [(.double x0)])) rfl (hb hby d1_62) _ ?_
    refine XS.dcmpS X3.here hx rfl (hb hby d1_65) rfl rfl ?_
    refine XS.ifYes X3.here hx rfl (pc0 := 66) (pc' := 88) rfl (hb hby d1_66) rfl ((if0 _ _).trans (tlt (own_pinf hf_x0)).1) (by decide) (by decide) ?_
    refine XS.iinc X3.here hx rfl (hb hby d1_88) rfl (l' := #[.val (.ref r0), .val (.ref r1), .val (.ref r2), .val (.ref r3), .val (.int ((0 : Int32) + (1 : Int32)))]) rfl ?_
    show Steps p.tables e below (T3.setTop (mkF m 91 #[.val (.ref r0), .val (.ref r1), .val (.ref r2), .val (.ref r3), .val (.int ((0 : Int32) + (1 : Int32)))] [])) _
    rw [show ((0 : Int32) + (1 : Int32)) = (1 : Int32) from (by decide)]
    refine XS.goto X3.here hx rfl (pc0 := 91) (pc' := 42) rfl (hb hby d1_91) (by decide) (by decide) ?_
    refine XS.iload X3.here hx rfl (hb hby d1_42) rfl ?_
    refine XS.aloadN X3.here hx rfl (hb hby d1_44) rfl rfl ?_
    refine X3.arraylength hx (by rw [eq3]; exact Ar_r3_7.1) Al_r3_7 (g := (mkF m 45 #[.val (.ref r0), .val (.ref r1), .val (.ref r2), .val (.ref r3), .val (.int (1 : Int32))] [(.ref r3), (.int (1 : Int32))])) rfl rfl (hb hby d1_45) _ ?_
    rw [len_of S_r3_7 N_r3_7]
    refine XS.icmpNo X3.here hx rfl (hb hby d1_46) rfl (tlt (by decide : (1 : Int32) < (2 : Int32))).2.1 ?_
    refine XS.aloadN X3.here hx rfl (hb hby d1_49) rfl rfl ?_
    refine XS.iload X3.here hx rfl (hb hby d1_50) rfl ?_
    refine X3.daload hx (j := (1 : Int32)) (v := (.double x1)) (by rw [eq3]; exact Ar_r3_7.1) Al_r3_7 Ar_r3_7.2.2 hin_r3_7_1 hat_r3_7_1 (g := (mkF m 52 #[.val (.ref r0), .val (.ref r1), .val (.ref r2), .val (.ref r3), .val (.int (1 : Int32))] [(.int (1 : Int32)), (.ref r3)])) rfl rfl (hb hby d1_52) _ ?_
    refine XS.dconst0 X3.here hx rfl (hb hby d1_53) rfl ?_
    refine XS.dcmpS X3.here hx rfl (hb hby d1_54) rfl rfl ?_
    refine XS.ifNo X3.here hx rfl (hb hby d1_55) rfl ((if0 _ _).trans (flt hn_x1).1) ?_
    refine XS.aloadN X3.here hx rfl (hb hby d1_58) rfl rfl ?_
    refine XS.iload X3.here hx rfl (hb hby d1_59) rfl ?_
    refine X3.daload hx (j := (1 : Int32)) (v := (.double x1)) (by rw [eq3]; exact Ar_r3_7.1) Al_r3_7 Ar_r3_7.2.2 hin_r3_7_1 hat_r3_7_1 (g := (mkF m 61 #[.val (.ref r0), .val (.ref r1), .val (.ref r2), .val (.ref r3), .val (.int (1 : Int32))] [(.int (1 : Int32)), (.ref r3)])) rfl rfl (hb hby d1_61) _ ?_
    refine X3.ldc2DoubleC hx hown (mvT hZ (W 43 rfl)) (g := (mkF m 62 #[.val (.ref r0), .val (.ref r1), .val (.ref r2), .val (.ref r3), .val (.int (1 : Int32))] [(.double x1)])) rfl (hb hby d1_62) _ ?_
    refine XS.dcmpS X3.here hx rfl (hb hby d1_65) rfl rfl ?_
    refine XS.ifYes X3.here hx rfl (pc0 := 66) (pc' := 88) rfl (hb hby d1_66) rfl ((if0 _ _).trans (tlt (own_pinf hf_x1)).1) (by decide) (by decide) ?_
    refine XS.iinc X3.here hx rfl (hb hby d1_88) rfl (l' := #[.val (.ref r0), .val (.ref r1), .val (.ref r2), .val (.ref r3), .val (.int ((1 : Int32) + (1 : Int32)))]) rfl ?_
    show Steps p.tables e below (T3.setTop (mkF m 91 #[.val (.ref r0), .val (.ref r1), .val (.ref r2), .val (.ref r3), .val (.int ((1 : Int32) + (1 : Int32)))] [])) _
    rw [show ((1 : Int32) + (1 : Int32)) = (2 : Int32) from (by decide)]
    refine XS.goto X3.here hx rfl (pc0 := 91) (pc' := 42) rfl (hb hby d1_91) (by decide) (by decide) ?_
    refine XS.iload X3.here hx rfl (hb hby d1_42) rfl ?_
    refine XS.aloadN X3.here hx rfl (hb hby d1_44) rfl rfl ?_
    refine X3.arraylength hx (by rw [eq3]; exact Ar_r3_7.1) Al_r3_7 (g := (mkF m 45 #[.val (.ref r0), .val (.ref r1), .val (.ref r2), .val (.ref r3), .val (.int (2 : Int32))] [(.ref r3), (.int (2 : Int32))])) rfl rfl (hb hby d1_45) _ ?_
    rw [len_of S_r3_7 N_r3_7]
    refine XS.icmpYes X3.here hx rfl (pc0 := 46) (pc' := 94) rfl (hb hby d1_46) rfl (flt (by decide : ¬ ((2 : Int32) < (2 : Int32)))).2.1 (by decide) (by decide) ?_
    refine XS.aloadN X3.here hx rfl (hb hby d1_94) rfl rfl ?_
    refine XS.aloadN X3.here hx rfl (hb hby d1_95) rfl rfl ?_
    refine st11 _ ?_
    refine st12 _ ?_
    refine st15 _ ?_
    refine XS.aloadN X15.here hx rfl (hb hby d1_105) rfl rfl ?_
    refine XS.aloadN X15.here hx rfl (hb hby d1_106) rfl rfl ?_
    refine st20 _ ?_
    refine st21 _ ?_
    refine st24 _ ?_
    refine XS.aloadN X24.here hx rfl (hb hby d1_116) rfl rfl ?_
    refine XS.aloadN X24.here hx rfl (hb hby d1_117) rfl rfl ?_
    refine st29 _ ?_
    refine st30 _ ?_
    refine st33 _ ?_
    show Steps p.tables e below (T33.setTop (mkF m 127 #[.val (.ref r0), .val (.ref r1), .val (.ref r2), .val (.ref r3), .val (.int (2 : Int32))] [])) _
    exact X33.returnOut hx Bd.returns (hb hby d1_127) hr
  · show Q_in_21 Z r0 k_r2 k_r3 x0 x1 h0 n0 _ T33.heap _
    rw [e33]
    exact ⟨rfl, N33, KK34, E_r0_35, b20, b29, Fw24_36, Fw33, B20_37, V_b20_38, V_b29_39⟩
abbrev Rrm_lk_22 : Room := ({ frames := 2, cells := 2, slots := 5, locals := 31 } : Room)
theorem ef_rm_lk_22 (m : MethodId) (r0 : Addr) : entryFrame m #[(.ref r0)] 2 = mkF m 0 #[.val (.ref r0), .unset] [] := by first | (simp [entryFrame, mkF, argsToLocals, Value.category]; done) | rfl
def Q_lk_22 (Z : State) (x0 : UInt64) (x1 : UInt64) (x2 : UInt64) (x3 : UInt64) (h0 : Heap) (n0 : Nat) (v : Option Value) (h : Heap) (L : List Loc) : Prop := (∃ (b : Addr) (kb : ClassId), v = some (.ref b) ∧ Arv Z h b kb .double (2 : Int32) [(.double x0), (.double x1)] (.double (0 : UInt64))) ∧ Fr n0 L ∧ Keep h0 h []
set_option maxRecDepth 65536 in
set_option maxHeartbeats 40000000 in
theorem rm_lk_22 (l : Launch) (Z : State) (a0 : Array Value) (hw : ∀ d ∈ tables_1, d.before a0 Z = true) (ws : List Jvm.Cond) (r0 : Addr) (rc : Addr) (re : Addr) (x0 : UInt64) (x1 : UInt64) (x2 : UInt64) (x3 : UInt64) (k_rc : ClassId) (k_re : ClassId) (h0 : Heap) (n0 : Nat) (Z0 : n0 ≤ h0.size) (E_r0 : Exa Z h0 r0 "com/example/beliefwire/beliefwire/model/Factor") (F_cardinalities_r0 : Fld Z h0 r0 "com/example/beliefwire/beliefwire/model/Factor" "cardinalities" "[I" (.ref rc)) (V_rc : Arv Z h0 rc k_rc .int (3 : Int32) [(.int (1 : Int32)), (.int (2 : Int32)), (.int (2 : Int32))] (.int (0 : Int32))) (E_rc : Exa Z h0 rc "[I") (F_entries_r0 : Fld Z h0 r0 "com/example/beliefwire/beliefwire/model/Factor" "entries" "[D" (.ref re)) (V_re : Arv Z h0 re k_re .double (4 : Int32) [(.double x0), (.double x1), (.double x2), (.double x3)] (.double (0 : UInt64))) :
    MetFree l (⟨"com/example/beliefwire/beliefwire/io/NoisyMax", "leak", "(Lcom/example/beliefwire/beliefwire/model/Factor;)[D"⟩ : MethodName) (head1 (Jvm.Cond.code (⟨"com/example/beliefwire/beliefwire/io/NoisyMax", "leak", "(Lcom/example/beliefwire/beliefwire/model/Factor;)[D"⟩ : MethodName) prog_40_method_4_code 2 (some (.array .double)) :: ws) Rrm_lk_22) (fun a U => a = #[(.ref r0)] ∧ Z.Warmed39 U.vm ∧ U.heap = h0) (fun _ _ _ _ _ => True) (fun _ U o U' => ∃ v L, o = .returned v ∧ Q_lk_22 Z x0 x1 x2 x3 h0 n0 v U'.heap L ∧ FrameEnd U o U' L Rrm_lk_22.cells Rrm_lk_22.slots) := by
  refine MetFree.of_bodySF (plainFor_of_name pn_3) hisR ?_
  intro p e s m args below meth c s₁ Bd hml0 hP hK
  obtain ⟨rfl, hZ, hh⟩ := hP
  have hx := Bd.exec
  have hby := Bd.bytes
  have hml : c.maxLocals = 2 := hml0
  have hown : s.vm.findClass "com/example/beliefwire/beliefwire/io/NoisyMax" = some m.cls := findClass_of_methodNamed Bd.named
  have hnm := (name_of_methodNamed Bd.named Bd.method).1
  have X0 : Stand p l e Rrm_lk_22 s m #[(.ref r0)] below meth c s₁ [] 0 0 := Stand.of_body Bd
  have e0 : s₁.heap = h0 := by rw [← hh, Bd.state]; rfl
  have N0 := Fr.nil n0
  have W := @own_W a0 Z hw
  have pre0 : ∀ t, Steps p.tables e below (s₁.setTop (mkF m 0 #[.val (.ref r0), .unset] [])) t → Steps p.tables e below (s₁.setTop (entryFrame m #[(.ref r0)] 2)) t := fun t k => castTop (ef_rm_lk_22 m r0) k
  obtain ⟨cq1, kq1, q1a, q1b, q1c⟩ := isOf hZ e0 E_r0
  obtain ⟨_, _, ⟨T1, L1, k1, n1⟩, -, X1, ⟨Lc1, hQ1, l1, y1, z1⟩, st1⟩ := X0.virtualBack hx (y := (⟨"com/example/beliefwire/beliefwire/model/Factor", "cardinalities", "()[I"⟩ : MethodName)) (z := (⟨"com/example/beliefwire/beliefwire/model/Factor", "cardinalities", "()[I"⟩ : MethodName)) hown (mvT hZ (W 60 rfl)) (mvT hZ (W 61 rfl)) (notFace_of_selects (args := #[]) (mvT hZ (W 63 rfl))) (mvT hZ (W 63 rfl)) (mvT hZ (W 62 rfl)) (by decide) (backOf (W := 0) (rm_ca_2 l Z a0 hw [] r0 rc (2 : Int32) k_rc h0 n0 Z0 F_cardinalities_r0 V_rc E_rc) hZ (W 64 rfl) (W 6 rfl) (by decide) (by decide)) q1a q1c (g := (mkF m 1 #[.val (.ref r0), .unset] [(.ref r0)])) rfl (by rw [hml]; rfl) (Steps.refl _) (argsL := []) (rest := []) (lenOf pd_6 rfl) rfl (own_le rfl) (hb hby d9_1) (fun _ _ => ⟨rfl, e0, (by decide : 0 + 1 ≤ _), (by decide : 0 + 3 ≤ _)⟩)
  dsimp only [Pt.U, Pt.locs, Pt.cells, Pt.slots] at X1 l1 y1 z1 st1 hQ1
  subst l1 y1 z1
  obtain ⟨⟨b1, rfl, V1⟩, N1q, K1⟩ := hQ1
  have N1 := Fr.app N0 N1q
  obtain ⟨LL1, X1, N1⟩ := own_hide X1 N1
  obtain ⟨cl_b1_2, Ar_b1_2, q_b1_2, S_b1_2, N_b1_2, H_b1_2, G_b1_2⟩ := id V1
  have Al_b1_2 := State.isArrayOf_alike hZ.alike Ar_b1_2.2.1
  have hin_b1_2_2 : ¬ ((2 : Int32) < 0 ∨ cl_b1_2.slots.size ≤ ((2 : Int32)).toNatClampNeg) := inb_of S_b1_2 ⟨by decide, by decide⟩
  have hat_b1_2_2 : cl_b1_2.slots[((2 : Int32)).toNatClampNeg]? = some (.int (2 : Int32)) := H_b1_2 _ (by rw [S_b1_2]; decide)
  have Z4z : n0 ≤ T1.heap.size := (Nat.le_trans Z0 K1.1)
  have E_r0_5 := (E_r0.keep K1)
  have F_entries_r0_6 := (F_entries_r0.keep K1 own_nin0)
  have V_re_7 := (V_re.keep K1 own_nin0)
  obtain ⟨_, _, ⟨T3, L3, k3, n3⟩, -, X3, ⟨Lc3, hQ3, l3, y3, z3⟩, st3⟩ := Jvm.LawKit.callS X1 hx (y := (⟨"com/example/beliefwire/beliefwire/io/NoisyMax", "entries", "(Lcom/example/beliefwire/beliefwire/model/Factor;II)[D"⟩ : MethodName)) hown (mvT hZ (W 65 rfl)) (mvT hZ (W 66 rfl)) (mvT hZ (W 58 rfl)) (mvT hZ (W 67 rfl)) (by decide) (backOf (W := 0) (rm_es_2_4 l Z a0 hw [] r0 re x0 x1 x2 x3 k_re T1.heap n0 Z4z E_r0_5 F_entries_r0_6 V_re_7) hZ (W 67 rfl) (W 58 rfl) (by decide) (by decide)) (g := (mkF m 13 #[.val (.ref r0), .val (.ref b1)] [(.int (2 : Int32)), (.int (0 : Int32)), (.ref r0)])) rfl (by rw [hml]; rfl) (argsL := [(.ref r0), (.int (0 : Int32)), (.int (2 : Int32))]) (rest := []) (lenOf pd_7 rfl) rfl (own_le rfl) (hb hby d9_13) (fun _ _ => ⟨rfl, rfl, (by decide : 1 + 1 ≤ _), (by decide : 3 + 2 ≤ _)⟩)
  dsimp only [Pt.U, Pt.locs, Pt.cells, Pt.slots] at X3 l3 y3 z3 st3 hQ3
  subst l3 y3 z3
  obtain ⟨⟨b3, kb3, rfl, V3⟩, N3q, K3⟩ := hQ3
  have N3 := Fr.app N1 N3q
  obtain ⟨LL3, X3, N3⟩ := own_hide X3 N3
  have KK8 : Keep h0 T3.heap [] := (((Keep.refl h0 []).trans K1 (own_in0)).trans K3 (own_in0))
  obtain ⟨fs, hr, hrun, hended, hW, hsame⟩ := X3.leave (v := some (.ref b3)) (fun h => by rw [Bd.returns] at h; cases h)
  refine ⟨_, _, pre0 _ ?_, hrun, hended, _, _, rfl, ?_, ⟨_, rfl⟩, hW, hsame.mono (by decide) (by decide)⟩
  · show Steps p.tables e below (s₁.setTop (mkF m 0 #[.val (.ref r0), .unset] [])) _
    refine XS.aloadN X0.here hx rfl (hb hby d9_0) rfl rfl ?_
    refine st1.trans ?_
    refine XS.astoreN X1.here hx rfl (hb hby d9_4) rfl rfl (l' := #[.val (.ref r0), .val (.ref b1)]) rfl ?_
    refine XS.aloadN X1.here hx rfl (hb hby d9_5) rfl rfl ?_
    refine XS.iconst X1.here hx rfl (hb hby d9_6) ?_
    refine XS.aloadN X1.here hx rfl (hb hby d9_7) rfl rfl ?_
    refine XS.aloadN X1.here hx rfl (hb hby d9_8) rfl rfl ?_
    refine X1.arraylength hx Ar_b1_2.1 Al_b1_2 (g := (mkF m 9 #[.val (.ref r0), .val (.ref b1)] [(.ref b1), (.ref b1), (.int (0 : Int32)), (.ref r0)])) rfl rfl (hb hby d9_9) _ ?_
    rw [len_of S_b1_2 N_b1_2]
    refine XS.iconst X1.here hx rfl (hb hby d9_10) ?_
    refine XS.isub X1.here hx rfl (hb hby d9_11) rfl ?_
    show Steps p.tables e below (T1.setTop (mkF m 12 #[.val (.ref r0), .val (.ref b1)] [(.int ((3 : Int32) - (1 : Int32))), (.ref b1), (.int (0 : Int32)), (.ref r0)])) _
    rw [show ((3 : Int32) - (1 : Int32)) = (2 : Int32) from (by decide)]
    refine X1.iaload hx (j := (2 : Int32)) (v := (.int (2 : Int32))) Ar_b1_2.1 Al_b1_2 Ar_b1_2.2.2 hin_b1_2_2 hat_b1_2_2 (g := (mkF m 12 #[.val (.ref r0), .val (.ref b1)] [(.int (2 : Int32)), (.ref b1), (.int (0 : Int32)), (.ref r0)])) rfl rfl (hb hby d9_12) _ ?_
    refine st3 _ ?_
    show Steps p.tables e below (T3.setTop (mkF m 16 #[.val (.ref r0), .val (.ref b1)] [(.ref b3)])) _
    jvm_step X3.here [X3.here.top, hx, (hb hby d9_16), X3.method', Bd.returns, Value.isRef, FieldType.isReference]
    first | (intro acts; rw [hr _ acts rfl rfl rfl]) | rw [hr _ _ rfl rfl rfl]
    exact Steps.refl _
  · show Q_lk_22 Z x0 x1 x2 x3 h0 n0 _ T3.heap _
    exact ⟨⟨b3, _, rfl, V3⟩, N3, KK8⟩
abbrev Rrm_in_22 : Room := ({ frames := 5, cells := 4, slots := 13, locals := 96 } : Room)
theorem ef_rm_in_22 (m : MethodId) (r0 : Addr) (r1 : Addr) (r2 : Addr) (r3 : Addr) : entryFrame m #[(.ref r0), (.ref r1), (.ref r2), (.ref r3)] 5 = mkF m 0 #[.val (.ref r0), .val (.ref r1), .val (.ref r2), .val (.ref r3), .unset] [] := by first | (simp [entryFrame, mkF, argsToLocals, Value.category]; done) | rfl
def Q_in_22 (Z : State) (r0 : Addr) (k_r2 : ClassId) (k_r3 : ClassId) (x0 : UInt64) (x1 : UInt64) (x2 : UInt64) (x3 : UInt64) (h0 : Heap) (n0 : Nat) (v : Option Value) (h : Heap) (L : List Loc) : Prop := v = none ∧ Fr n0 L ∧ Keep h0 h [r0] ∧ Exa Z h r0 "com/example/beliefwire/beliefwire/model/Factor" ∧ ∃ bc be : Addr, Fld Z h r0 "com/example/beliefwire/beliefwire/model/Factor" "cardinalities" "[I" (.ref bc) ∧ Fld Z h r0 "com/example/beliefwire/beliefwire/model/Factor" "entries" "[D" (.ref be) ∧ Exa Z h bc "[I" ∧ Arv Z h bc k_r2 .int (3 : Int32) [(.int (1 : Int32)), (.int (2 : Int32)), (.int (2 : Int32))] (.int (0 : Int32)) ∧ Arv Z h be k_r3 .double (4 : Int32) [(.double x0), (.double x1), (.double x2), (.double x3)] (.double (0 : UInt64))
set_option maxRecDepth 65536 in
set_option maxHeartbeats 40000000 in
theorem rm_in_22 (l : Launch) (Z : State) (a0 : Array Value) (hw : ∀ d ∈ tables_1, d.before a0 Z = true) (ws : List Jvm.Cond) (r0 : Addr) (r1 : Addr) (r2 : Addr) (r3 : Addr) (x0 : UInt64) (x1 : UInt64) (x2 : UInt64) (x3 : UInt64) (u_scope_r0 : Value) (u_cardinalities_r0 : Value) (u_entries_r0 : Value) (k_r1 : ClassId) (k_r2 : ClassId) (k_r3 : ClassId) (h0 : Heap) (n0 : Nat) (Z0 : n0 ≤ h0.size) (E_r0 : Exa Z h0 r0 "com/example/beliefwire/beliefwire/model/Factor") (g_r0 : n0 ≤ r0) (F_scope_r0 : Fld Z h0 r0 "com/example/beliefwire/beliefwire/model/Factor" "scope" "[I" u_scope_r0) (F_cardinalities_r0 : Fld Z h0 r0 "com/example/beliefwire/beliefwire/model/Factor" "cardinalities" "[I" u_cardinalities_r0) (F_entries_r0 : Fld Z h0 r0 "com/example/beliefwire/beliefwire/model/Factor" "entries" "[D" u_entries_r0) (V_r1 : Arv Z h0 r1 k_r1 .int (3 : Int32) [(.int (1 : Int32)), (.int (0 : Int32)), (.int (2 : Int32))] (.int (0 : Int32))) (E_r1 : Exa Z h0 r1 "[I") (V_r2 : Arv Z h0 r2 k_r2 .int (3 : Int32) [(.int (1 : Int32)), (.int (2 : Int32)), (.int (2 : Int32))] (.int (0 : Int32))) (E_r2 : Exa Z h0 r2 "[I") (V_r3 : Arv Z h0 r3 k_r3 .double (4 : Int32) [(.double x0), (.double x1), (.double x2), (.double x3)] (.double (0 : UInt64))) (E_r3 : Exa Z h0 r3 "[D") (hf_x0 : Fl.Fin64 x0) (hn_x0 : ¬ cmpValue (FP.dcmp x0 FP.dconst0) .l < (0 : Int32)) (hf_x1 : Fl.Fin64 x1) (hn_x1 : ¬ cmpValue (FP.dcmp x1 FP.dconst0) .l < (0 : Int32)) (hf_x2 : Fl.Fin64 x2) (hn_x2 : ¬ cmpValue (FP.dcmp x2 FP.dconst0) .l < (0 : Int32)) (hf_x3 : Fl.Fin64 x3) (hn_x3 : ¬ cmpValue (FP.dcmp x3 FP.dconst0) .l < (0 : Int32)) :
    MetFree l (⟨"com/example/beliefwire/beliefwire/model/Factor", "<init>", "([I[I[D)V"⟩ : MethodName) (head1 (Jvm.Cond.code (⟨"com/example/beliefwire/beliefwire/model/Factor", "<init>", "([I[I[D)V"⟩ : MethodName) prog_60_method_1_code 5 none :: ws) Rrm_in_22) (fun a U => a = #[(.ref r0), (.ref r1), (.ref r2), (.ref r3)] ∧ Z.Warmed39 U.vm ∧ U.heap = h0) (fun _ _ _ _ _ => True) (fun _ U o U' => ∃ v L, o = .returned v ∧ Q_in_22 Z r0 k_r2 k_r3 x0 x1 x2 x3 h0 n0 v U'.heap L ∧ FrameEnd U o U' L Rrm_in_22.cells Rrm_in_22.slots) := by
  refine MetFree.of_bodySF (plainFor_of_name pn_2) hisR ?_
  intro p e s m args below meth c s₁ Bd hml0 hP hK
  obtain ⟨rfl, hZ, hh⟩ := hP
  have hx := Bd.exec
  have hby := Bd.bytes
  have hml : c.maxLocals = 5 := hml0
  have hown : s.vm.findClass "com/example/beliefwire/beliefwire/model/Factor" = some m.cls := findClass_of_methodNamed Bd.named
  have hnm := (name_of_methodNamed Bd.named Bd.method).1
  have X0 : Stand p l e Rrm_in_22 s m #[(.ref r0), (.ref r1), (.ref r2), (.ref r3)] below meth c s₁ [] 0 0 := Stand.of_body Bd
  have e0 : s₁.heap = h0 := by rw [← hh, Bd.state]; rfl
  have N0 := Fr.nil n0
  have W := @own_W a0 Z hw
  have pre0 : ∀ t, Steps p.tables e below (s₁.setTop (mkF m 0 #[.val (.ref r0), .val (.ref r1), .val (.ref r2), .val (.ref r3), .unset] [])) t → Steps p.tables e below (s₁.setTop (entryFrame m #[(.ref r0), (.ref r1), (.ref r2), (.ref r3)] 5)) t := fun t k => castTop (ef_rm_in_22 m r0 r1 r2 r3) k
  have ne_r0_r1 : r0 ≠ r1 := by obtain ⟨_, A, -⟩ := id V_r1; exact ne_arr E_r0 (W 5 rfl) A
  have ne_r0_r2 : r0 ≠ r2 := by obtain ⟨_, A, -⟩ := id V_r2; exact ne_arr E_r0 (W 5 rfl) A
  have ne_r0_r3 : r0 ≠ r3 := by obtain ⟨_, A, -⟩ := id V_r3; exact ne_arr E_r0 (W 5 rfl) A
  obtain ⟨T1, X1, e1, st1⟩ := initO X0 hx hZ hown (W 10 rfl) (W 11 rfl) (W 12 rfl) e0 (g := (mkF m 1 #[.val (.ref r0), .val (.ref r1), .val (.ref r2), .val (.ref r3), .unset] [(.ref r0)])) rfl (by rw [hml]; rfl) rfl (hb hby d1_1) (by decide) (W := 0) (own_le rfl) (by decide)
  obtain ⟨_, _, ⟨T2, L2, k2, n2⟩, -, X2, ⟨Lc2, hQ2, l2, y2, z2⟩, st2⟩ := Jvm.LawKit.callS X1 hx (y := (⟨"com/example/beliefwire/beliefwire/model/Factor", "checkScope", "([I[I)V"⟩ : MethodName)) hown (mvT hZ (W 13 rfl)) (mvT hZ (W 14 rfl)) (mvT hZ (W 6 rfl)) (mvT hZ (W 15 rfl)) (by decide) (backOf (W := 0) (rm_cs_2 l Z a0 hw [] r1 r2 (2 : Int32) k_r1 k_r2 h0 n0 Z0 V_r1 E_r1 V_r2 (by decide)) hZ (W 15 rfl) (W 6 rfl) (by decide) (by decide)) (g := (mkF m 6 #[.val (.ref r0), .val (.ref r1), .val (.ref r2), .val (.ref r3), .unset] [(.ref r2), (.ref r1)])) rfl (by rw [hml]; rfl) (argsL := [(.ref r1), (.ref r2)]) (rest := []) (lenOf pd_8 rfl) rfl (own_le rfl) (hb hby d1_6) (fun _ _ => ⟨rfl, e1, (by decide : 0 + 1 ≤ _), (by decide : 0 + 3 ≤ _)⟩)
  dsimp only [Pt.U, Pt.locs, Pt.cells, Pt.slots] at X2 l2 y2 z2 st2 hQ2
  subst l2 y2 z2
  obtain ⟨rfl, N2q, K2⟩ := hQ2
  have N2 := Fr.app N0 N2q
  obtain ⟨LL2, X2, N2⟩ := own_hide X2 N2
  have Z4z : n0 ≤ T2.heap.size := (Nat.le_trans Z0 K2.1)
  have V_r2_5 := (V_r2.keep K2 own_nin0)
  obtain ⟨_, _, ⟨T3, L3, k3, n3⟩, -, X3, ⟨Lc3, hQ3, l3, y3, z3⟩, st3⟩ := Jvm.LawKit.callS X2 hx (y := (⟨"com/example/beliefwire/beliefwire/model/Factor", "tableSize", "([I)J"⟩ : MethodName)) hown (mvT hZ (W 39 rfl)) (mvT hZ (W 40 rfl)) (mvT hZ (W 6 rfl)) (mvT hZ (W 41 rfl)) (by decide) (backOf (W := 0) (rm_ts_2 l Z a0 hw [] r2 (2 : Int32) k_r2 T2.heap n0 Z4z V_r2_5 (by decide)) hZ (W 41 rfl) (W 6 rfl) (by decide) (by decide)) (g := (mkF m 10 #[.val (.ref r0), .val (.ref r1), .val (.ref r2), .val (.ref r3), .unset] [(.ref r2)])) rfl (by rw [hml]; rfl) (argsL := [(.ref r2)]) (rest := []) (lenOf pd_4 rfl) rfl (own_le rfl) (hb hby d1_10) (fun _ _ => ⟨rfl, rfl, (by decide : 1 + 0 ≤ _), (by decide : 3 + 0 ≤ _)⟩)
  dsimp only [Pt.U, Pt.locs, Pt.cells, Pt.slots] at X3 l3 y3 z3 st3 hQ3
  subst l3 y3 z3
  obtain ⟨hv3, N3q, eq3⟩ := hQ3
  rw [show ((2 : Int64) * ((2 : Int32).toInt64)) = (4 : Int64) from by decide] at hv3
  subst hv3
  have N3 := Fr.app N2 N3q
  obtain ⟨LL3, X3, N3⟩ := own_hide X3 N3
  have V_r3_6 := (V_r3.keep K2 own_nin0)
  obtain ⟨cl_r3_7, Ar_r3_7, q_r3_7, S_r3_7, N_r3_7, H_r3_7, G_r3_7⟩ := id V_r3_6
  have Al_r3_7 := State.isArrayOf_alike hZ.alike Ar_r3_7.2.1
  have hin_r3_7_0 : ¬ ((0 : Int32) < 0 ∨ cl_r3_7.slots.size ≤ ((0 : Int32)).toNatClampNeg) := inb_of S_r3_7 ⟨by decide, by decide⟩
  have hat_r3_7_0 : cl_r3_7.slots[((0 : Int32)).toNatClampNeg]? = some (.double x0) := H_r3_7 _ (by rw [S_r3_7]; decide)
  have hin_r3_7_1 : ¬ ((1 : Int32) < 0 ∨ cl_r3_7.slots.size ≤ ((1 : Int32)).toNatClampNeg) := inb_of S_r3_7 ⟨by decide, by decide⟩
  have hat_r3_7_1 : cl_r3_7.slots[((1 : Int32)).toNatClampNeg]? = some (.double x1) := H_r3_7 _ (by rw [S_r3_7]; decide)
  have hin_r3_7_2 : ¬ ((2 : Int32) < 0 ∨ cl_r3_7.slots.size ≤ ((2 : Int32)).toNatClampNeg) := inb_of S_r3_7 ⟨by decide, by decide⟩
  have hat_r3_7_2 : cl_r3_7.slots[((2 : Int32)).toNatClampNeg]? = some (.double x2) := H_r3_7 _ (by rw [S_r3_7]; decide)
  have hin_r3_7_3 : ¬ ((3 : Int32) < 0 ∨ cl_r3_7.slots.size ≤ ((3 : Int32)).toNatClampNeg) := inb_of S_r3_7 ⟨by decide, by decide⟩
  have hat_r3_7_3 : cl_r3_7.slots[((3 : Int32)).toNatClampNeg]? = some (.double x3) := H_r3_7 _ (by rw [S_r3_7]; decide)
  have V_r1_8 := (V_r1.keep K2 own_nin0)
  have E_r1_9 := (E_r1.keep K2)
  have hz10 : h0.size ≤ T2.heap.size := (Nat.le_trans (Nat.le_refl h0.size) K2.1)
  obtain ⟨T11, h11, X11, e11, E11, V11, B11, st11⟩ := cloneH X3 hx hZ hown (W 16 rfl) (W 17 rfl) (W 21 rfl) (W 19 rfl) (W 20 rfl) (W 22 rfl) eq3 (Arv.arh V_r1_8) E_r1_9 (g := (mkF m 96 #[.val (.ref r0), .val (.ref r1), .val (.ref r2), .val (.ref r3), .val (.int (4 : Int32))] [(.ref r1), (.ref r0)])) rfl (by rw [hml]; rfl) rfl (hb hby d1_96) (by decide) (W := 1) (cap := 3) (own_le rfl) (by decide) (by decide) (by decide) (by decide)
  obtain ⟨b11, gg11⟩ : ∃ z, z = T2.heap.size := ⟨_, rfl⟩
  rw [← gg11] at V11 B11 st11
  have g_b11 : n0 ≤ b11 := Nat.le_trans Z4z (Nat.le_of_eq gg11.symm)
  have sz_b11 : h0.size ≤ b11 := Nat.le_trans hz10 (Nat.le_of_eq gg11.symm)
  have V_b11 : Arv Z h11 b11 k_r1 .int (3 : Int32) [(.int (1 : Int32)), (.int (0 : Int32)), (.int (2 : Int32))] (.int (0 : Int32)) := V11
  obtain ⟨T12, X12, e12, st12⟩ := castY X11 hx hZ hown (W 23 rfl) e11 (Ins.self B11) (g := (mkF m 99 #[.val (.ref r0), .val (.ref r1), .val (.ref r2), .val (.ref r3), .val (.int (4 : Int32))] [(.ref b11), (.ref r0)])) rfl rfl (hb hby d1_99)
  have E_r0_13 := ((E_r0.keep K2).ext E11)
  have F_scope_r0_14 := ((F_scope_r0.keep K2 own_nin0).ext E11)
  obtain ⟨T15, h15, X15, e15, W15, st15⟩ := putF X12 hx hZ hown (host := "") (Or.inl (W 44 rfl)) Via.refl e12 F_scope_r0_14 E_r0_13 (Or.inr ⟨(W 45 rfl), rfl, hnm⟩) (W 5 rfl) (ty := (.array .int)) (by decide) rfl rfl (g := (mkF m 102 #[.val (.ref r0), .val (.ref r1), .val (.ref r2), .val (.ref r3), .val (.int (4 : Int32))] [(.ref b11), (.ref r0)])) rfl rfl (hb hby d1_102)
  have Fw15 := F_scope_r0_14.same W15
  have N15 := Fr.snoc X15 N3 g_r0
  obtain ⟨LL15, X15, N15⟩ := own_hide X15 N15
  have V_r2_16 := ((V_r2_5.ext E11).other W15 (Ne.symm ne_r0_r2))
  have E_r2_17 := (((E_r2.keep K2).ext E11).wr W15)
  have Z18z : n0 ≤ h15.size := (Nat.le_trans (Nat.le_trans Z4z E11.1) (Keep.of_wr W15).1)
  have hz19 : h0.size ≤ h15.size := (Nat.le_trans (Nat.le_trans hz10 E11.1) (Keep.of_wr W15).1)
  obtain ⟨T20, h20, X20, e20, E20, V20, B20, st20⟩ := cloneH X15 hx hZ hown (W 16 rfl) (W 17 rfl) (W 21 rfl) (W 19 rfl) (W 20 rfl) (W 22 rfl) e15 (Arv.arh V_r2_16) E_r2_17 (g := (mkF m 107 #[.val (.ref r0), .val (.ref r1), .val (.ref r2), .val (.ref r3), .val (.int (4 : Int32))] [(.ref r2), (.ref r0)])) rfl (by rw [hml]; rfl) rfl (hb hby d1_107) (by decide) (W := 1) (cap := 3) (own_le rfl) (by decide) (by decide) (by decide) (by decide)
  obtain ⟨b20, gg20⟩ : ∃ z, z = h15.size := ⟨_, rfl⟩
  rw [← gg20] at V20 B20 st20
  have g_b20 : n0 ≤ b20 := Nat.le_trans Z18z (Nat.le_of_eq gg20.symm)
  have sz_b20 : h0.size ≤ b20 := Nat.le_trans hz19 (Nat.le_of_eq gg20.symm)
  have V_b20 : Arv Z h20 b20 k_r2 .int (3 : Int32) [(.int (1 : Int32)), (.int (2 : Int32)), (.int (2 : Int32))] (.int (0 : Int32)) := V20
  obtain ⟨T21, X21, e21, st21⟩ := castY X20 hx hZ hown (W 23 rfl) e20 (Ins.self B20) (g := (mkF m 110 #[.val (.ref r0), .val (.ref r1), .val (.ref r2), .val (.ref r3), .val (.int (4 : Int32))] [(.ref b20), (.ref r0)])) rfl rfl (hb hby d1_110)
  have E_r0_22 := ((E_r0_13.wr W15).ext E20)
  have F_cardinalities_r0_23 := ((((F_cardinalities_r0.keep K2 own_nin0).ext E11).other W15 (Or.inr (slot_ne (Or.inr (W 47 rfl)) (Or.inr (W 45 rfl)) (by decide) (t := (.array .int)) (t' := (.array .int)) (by decide) (by decide)))).ext E20)
  obtain ⟨T24, h24, X24, e24, W24, st24⟩ := putF X21 hx hZ hown (host := "") (Or.inl (W 46 rfl)) Via.refl e21 F_cardinalities_r0_23 E_r0_22 (Or.inr ⟨(W 47 rfl), rfl, hnm⟩) (W 5 rfl) (ty := (.array .int)) (by decide) rfl rfl (g := (mkF m 113 #[.val (.ref r0), .val (.ref r1), .val (.ref r2), .val (.ref r3), .val (.int (4 : Int32))] [(.ref b20), (.ref r0)])) rfl rfl (hb hby d1_113)
  have Fw24 := F_cardinalities_r0_23.same W24
  have N24 := Fr.snoc X24 N15 g_r0
  obtain ⟨LL24, X24, N24⟩ := own_hide X24 N24
  have V_r3_25 := ((((V_r3_6.ext E11).other W15 (Ne.symm ne_r0_r3)).ext E20).other W24 (Ne.symm ne_r0_r3))
  have E_r3_26 := (((((E_r3.keep K2).ext E11).wr W15).ext E20).wr W24)
  have Z27z : n0 ≤ h24.size := (Nat.le_trans (Nat.le_trans Z18z E20.1) (Keep.of_wr W24).1)
  have hz28 : h0.size ≤ h24.size := (Nat.le_trans (Nat.le_trans hz19 E20.1) (Keep.of_wr W24).1)
  obtain ⟨T29, h29, X29, e29, E29, V29, B29, st29⟩ := cloneH X24 hx hZ hown (W 48 rfl) (W 49 rfl) (W 21 rfl) (W 19 rfl) (W 50 rfl) (W 51 rfl) e24 (Arv.arh V_r3_25) E_r3_26 (g := (mkF m 118 #[.val (.ref r0), .val (.ref r1), .val (.ref r2), .val (.ref r3), .val (.int (4 : Int32))] [(.ref r3), (.ref r0)])) rfl (by rw [hml]; rfl) rfl (hb hby d1_118) (by decide) (W := 1) (cap := 4) (own_le rfl) (by decide) (by decide) (by decide) (by decide)
  obtain ⟨b29, gg29⟩ : ∃ z, z = h24.size := ⟨_, rfl⟩
  rw [← gg29] at V29 B29 st29
  have g_b29 : n0 ≤ b29 := Nat.le_trans Z27z (Nat.le_of_eq gg29.symm)
  have sz_b29 : h0.size ≤ b29 := Nat.le_trans hz28 (Nat.le_of_eq gg29.symm)
  have V_b29 : Arv Z h29 b29 k_r3 .double (4 : Int32) [(.double x0), (.double x1), (.double x2), (.double x3)] (.double (0 : UInt64)) := V29
  obtain ⟨T30, X30, e30, st30⟩ := castY X29 hx hZ hown (W 52 rfl) e29 (Ins.self B29) (g := (mkF m 121 #[.val (.ref r0), .val (.ref r1), .val (.ref r2), .val (.ref r3), .val (.int (4 : Int32))] [(.ref b29), (.ref r0)])) rfl rfl (hb hby d1_121)
  have E_r0_31 := ((E_r0_22.wr W24).ext E29)
  have F_entries_r0_32 := ((((((F_entries_r0.keep K2 own_nin0).ext E11).other W15 (Or.inr (slot_ne (Or.inr (W 55 rfl)) (Or.inr (W 45 rfl)) (by decide) (t := (.array .double)) (t' := (.array .int)) (by decide) (by decide)))).ext E20).other W24 (Or.inr (slot_ne (Or.inr (W 55 rfl)) (Or.inr (W 47 rfl)) (by decide) (t := (.array .double)) (t' := (.array .int)) (by decide) (by decide)))).ext E29)
  obtain ⟨T33, h33, X33, e33, W33, st33⟩ := putF X30 hx hZ hown (host := "") (Or.inl (W 54 rfl)) Via.refl e30 F_entries_r0_32 E_r0_31 (Or.inr ⟨(W 55 rfl), rfl, hnm⟩) (W 5 rfl) (ty := (.array .double)) (by decide) rfl rfl (g := (mkF m 124 #[.val (.ref r0), .val (.ref r1), .val (.ref r2), .val (.ref r3), .val (.int (4 : Int32))] [(.ref b29), (.ref r0)])) rfl rfl (hb hby d1_124)
  have Fw33 := F_entries_r0_32.same W33
  have N33 := Fr.snoc X33 N24 g_r0
  obtain ⟨LL33, X33, N33⟩ := own_hide X33 N33
  have KK34 : Keep h0 h33 [r0] := ((((((((Keep.refl h0 [r0]).trans K2 (own_in0)).ext E11).wr W15 (Or.inl (List.mem_of_getElem? (i := 0) rfl))).ext E20).wr W24 (Or.inl (List.mem_of_getElem? (i := 0) rfl))).ext E29).wr W33 (Or.inl (List.mem_of_getElem? (i := 0) rfl)))
  have E_r0_35 := (E_r0_31.wr W33)
  have Fw24_36 := ((Fw24.ext E29).other W33 (Or.inr (slot_ne (Or.inr (W 47 rfl)) (Or.inr (W 55 rfl)) (by decide) (t := (.array .int)) (t' := (.array .double)) (by decide) (by decide))))
  have B20_37 := (((B20.wr W24).ext E29).wr W33)
  have ne_r0_b20 : r0 ≠ b20 := Nat.ne_of_lt (Nat.lt_of_lt_of_le (Nat.lt_of_lt_of_le (E_r0_13).lt (Keep.of_wr W15).1) (Nat.le_of_eq gg20.symm))
  have V_b20_38 := (((V_b20.other W24 (Ne.symm ne_r0_b20)).ext E29).other W33 (Ne.symm ne_r0_b20))
  have ne_r0_b29 : r0 ≠ b29 := Nat.ne_of_lt (Nat.lt_of_lt_of_le (Nat.lt_of_lt_of_le (E_r0_22).lt (Keep.of_wr W24).1) (Nat.le_of_eq gg29.symm))
  have V_b29_39 := (V_b29.other W33 (Ne.symm ne_r0_b29))
  obtain ⟨fs, hr, hrun, hended, hW, hsame⟩ := X33.leave (v := none) (fun _ => rfl)
  refine ⟨_, _, pre0 _ ?_, hrun, hended, _, _, rfl, ?_, ⟨_, rfl⟩, hW, hsame.mono (by decide) (by decide)⟩
  · show Steps p.tables e below (s₁.setTop (mkF m 0 #[.val (.ref r0), .val (.ref r1), .val (.ref r2), .val (.ref r3), .unset] [])) _
    refine XS.aloadN X0.here hx rfl (hb hby d1_0) rfl rfl ?_
    refine st1 _ ?_
    refine XS.aloadN X1.here hx rfl (hb hby d1_4) rfl rfl ?_
    refine XS.aloadN X1.here hx rfl (hb hby d1_5) rfl rfl ?_
    refine st2 _ ?_
    refine XS.aloadN X2.here hx rfl (hb hby d1_9) rfl rfl ?_
    refine st3 _ ?_
    refine XS.aloadN X3.here hx rfl (hb hby d1_13) rfl rfl ?_
    refine X3.arraylength hx (by rw [eq3]; exact Ar_r3_7.1) Al_r3_7 (g := (mkF m 14 #[.val (.ref r0), .val (.ref r1), .val (.ref r2), .val (.ref r3), .unset] [(.ref r3), (.long (4 : Int64))])) rfl rfl (hb hby d1_14) _ ?_
    rw [len_of S_r3_7 N_r3_7]
    refine XS.i2l X3.here hx rfl (hb hby d1_15) rfl ?_
    show Steps p.tables e below (T3.setTop (mkF m 16 #[.val (.ref r0), .val (.ref r1), .val (.ref r2), .val (.ref r3), .unset] [(.long ((4 : Int32).toInt64)), (.long (4 : Int64))])) _
    rw [show ((4 : Int32).toInt64) = (4 : Int64) from (by decide)]
    refine XS.lcmp X3.here hx rfl (hb hby d1_16) rfl ?_
    refine XS.ifYes X3.here hx rfl (pc0 := 17) (pc' := 39) rfl (hb hby d1_17) rfl ((if0 _ _).trans (teq ((lw_eq _ _).mpr (by decide : (4 : Int64) = (4 : Int64)))).1) (by decide) (by decide) ?_
    refine XS.iconst X3.here hx rfl (hb hby d1_39) ?_
    refine XS.istore X3.here hx rfl (hb hby d1_40) rfl (l' := #[.val (.ref r0), .val (.ref r1), .val (.ref r2), .val (.ref r3), .val (.int (0 : Int32))]) rfl ?_
    refine XS.iload X3.here hx rfl (hb hby d1_42) rfl ?_
    refine XS.aloadN X3.here hx rfl (hb hby d1_44) rfl rfl ?_
    refine X3.arraylength hx (by rw [eq3]; exact Ar_r3_7.1) Al_r3_7 (g := (mkF m 45 #[.val (.ref r0), .val (.ref r1), .val (.ref r2), .val (.ref r3), .val (.int (0 : Int32))] [(.ref r3), (.int (0 : Int32))])) rfl rfl (hb hby d1_45) _ ?_
    rw [len_of S_r3_7 N_r3_7]
    refine XS.icmpNo X3.here hx rfl (hb hby d1_46) rfl (tlt (by decide : (0 : Int32) < (4 : Int32))).2.1 ?_
    refine XS.aloadN X3.here hx rfl (hb hby d1_49) rfl rfl ?_
    refine XS.iload X3.here hx rfl (hb hby d1_50) rfl ?_
    refine X3.daload hx (j := (0 : Int32)) (v := (.double x0)) (by rw [eq3]; exact Ar_r3_7.1) Al_r3_7 Ar_r3_7.2.2 hin_r3_7_0 hat_r3_7_0 (g := (mkF m 52 #[.val (.ref r0), .val (.ref r1), .val (.ref r2), .val (.ref r3), .val (.int (0 : Int32))] [(.int (0 : Int32)), (.ref r3)])) rfl rfl (hb hby d1_52) _ ?_
    refine XS.dconst0 X3.here hx rfl (hb hby d1_53) rfl ?_
    refine XS.dcmpS X3.here hx rfl (hb hby d1_54) rfl rfl ?_
    refine XS.ifNo X3.here hx rfl (hb hby d1_55) rfl ((if0 _ _).trans (flt hn_x0).1) ?_
    refine XS.aloadN X3.here hx rfl (hb hby d1_58) rfl rfl ?_
    refine XS.iload X3.here hx rfl (hb hby d1_59) rfl ?_
    refine X3.daload hx (j := (0 : Int32)) (v := (.double x0)) (by rw [eq3]; exact Ar_r3_7.1) Al_r3_7 Ar_r3_7.2.2 hin_r3_7_0 hat_r3_7_0 (g := (mkF m 61 #[.val (.ref r0), .val (.ref r1), .val (.ref r2), .val (.ref r3), .val (.int (0 : Int32))] [(.int (0 : Int32)), (.ref r3)])) rfl rfl (hb hby d1_61) _ ?_
    refine X3.ldc2DoubleC hx hown (mvT hZ (W 43 rfl)) (g := (mkF m 62 #[.val (.ref r0), .val (.ref r1), .val (.ref r2), .val (.ref r3), .val (.int (0 : Int32))] [(.double x0)])) rfl (hb hby d1_62) _ ?_
    refine XS.dcmpS X3.here hx rfl (hb hby d1_65) rfl rfl ?_
    refine XS.ifYes X3.here hx rfl (pc0 := 66) (pc' := 88) rfl (hb hby d1_66) rfl ((if0 _ _).trans (tlt (own_pinf hf_x0)).1) (by decide) (by decide) ?_
    refine XS.iinc X3.here hx rfl (hb hby d1_88) rfl (l' := #[.val (.ref r0), .val (.ref r1), .val (.ref r2), .val (.ref r3), .val (.int ((0 : Int32) + (1 : Int32)))]) rfl ?_
    show Steps p.tables e below (T3.setTop (mkF m 91 #[.val (.ref r0), .val (.ref r1), .val (.ref r2), .val (.ref r3), .val (.int ((0 : Int32) + (1 : Int32)))] [])) _
    rw [show ((0 : Int32) + (1 : Int32)) = (1 : Int32) from (by decide)]
    refine XS.goto X3.here hx rfl (pc0 := 91) (pc' := 42) rfl (hb hby d1_91) (by decide) (by decide) ?_
    refine XS.iload X3.here hx rfl (hb hby d1_42) rfl ?_
    refine XS.aloadN X3.here hx rfl (hb hby d1_44) rfl rfl ?_
    refine X3.arraylength hx (by rw [eq3]; exact Ar_r3_7.1) Al_r3_7 (g := (mkF m 45 #[.val (.ref r0), .val (.ref r1), .val (.ref r2), .val (.ref r3), .val (.int (1 : Int32))] [(.ref r3), (.int (1 : Int32))])) rfl rfl (hb hby d1_45) _ ?_
    rw [len_of S_r3_7 N_r3_7]
    refine XS.icmpNo X3.here hx rfl (hb hby d1_46) rfl (tlt (by decide : (1 : Int32) < (4 : Int32))).2.1 ?_
    refine XS.aloadN X3.here hx rfl (hb hby d1_49) rfl rfl ?_
    refine XS.iload X3.here hx rfl (hb hby d1_50) rfl ?_
    refine X3.daload hx (j := (1 : Int32)) (v := (.double x1)) (by rw [eq3]; exact Ar_r3_7.1) Al_r3_7 Ar_r3_7.2.2 hin_r3_7_1 hat_r3_7_1 (g := (mkF m 52 #[.val (.ref r0), .val (.ref r1), .val (.ref r2), .val (.ref r3), .val (.int (1 : Int32))] [(.int (1 : Int32)), (.ref r3)])) rfl rfl (hb hby d1_52) _ ?_
    refine XS.dconst0 X3.here hx rfl (hb hby d1_53) rfl ?_
    refine XS.dcmpS X3.here hx rfl (hb hby d1_54) rfl rfl ?_
    refine XS.ifNo X3.here hx rfl (hb hby d1_55) rfl ((if0 _ _).trans (flt hn_x1).1) ?_
    refine XS.aloadN X3.here hx rfl (hb hby d1_58) rfl rfl ?_
    refine XS.iload X3.here hx rfl (hb hby d1_59) rfl ?_
    refine X3.daload hx (j := (1 : Int32)) (v := (.double x1)) (by rw [eq3]; exact Ar_r3_7.1) Al_r3_7 Ar_r3_7.2.2 hin_r3_7_1 hat_r3_7_1 (g := (mkF m 61 #[.val (.ref r0), .val (.ref r1), .val (.ref r2), .val (.ref r3), .val (.int (1 : Int32))] [(.int (1 : Int32)), (.ref r3)])) rfl rfl (hb hby d1_61) _ ?_
    refine X3.ldc2DoubleC hx hown (mvT hZ (W 43 rfl)) (g := (mkF m 62 #[.val (.ref r0), .val (.ref r1), .val (.ref r2), .val (.ref r3), .val (.int (1 : Int32))] [(.double x1)])) rfl (hb hby d1_62) _ ?_
    refine XS.dcmpS X3.here hx rfl (hb hby d1_65) rfl rfl ?_
    refine XS.ifYes X3.here hx rfl (pc0 := 66) (pc' := 88) rfl (hb hby d1_66) rfl ((if0 _ _).trans (tlt (own_pinf hf_x1)).1) (by decide) (by decide) ?_
    refine XS.iinc X3.here hx rfl (hb hby d1_88) rfl (l' := #[.val (.ref r0), .val (.ref r1), .val (.ref r2), .val (.ref r3), .val (.int ((1 : Int32) + (1 : Int32)))]) rfl ?_
    show Steps p.tables e below (T3.setTop (mkF m 91 #[.val (.ref r0), .val (.ref r1), .val (.ref r2), .val (.ref r3), .val (.int ((1 : Int32) + (1 : Int32)))] [])) _
    rw [show ((1 : Int32) + (1 : Int32)) = (2 : Int32) from (by decide)]
    refine XS.goto X3.here hx rfl (pc0 := 91) (pc' := 42) rfl (hb hby d1_91) (by decide) (by decide) ?_
    refine XS.iload X3.here hx rfl (hb hby d1_42) rfl ?_
    refine XS.aloadN X3.here hx rfl (hb hby d1_44) rfl rfl ?_
    refine X3.arraylength hx (by rw [eq3]; exact Ar_r3_7.1) Al_r3_7 (g := (mkF m 45 #[.val (.ref r0), .val (.ref r1), .val (.ref r2), .val (.ref r3), .val (.int (2 : Int32))] [(.ref r3), (.int (2 : Int32))])) rfl rfl (hb hby d1_45) _ ?_
    rw [len_of S_r3_7 N_r3_7]
    refine XS.icmpNo X3.here hx rfl (hb hby d1_46) rfl (tlt (by decide : (2 : Int32) < (4 : Int32))).2.1 ?_
    refine XS.aloadN X3.here hx rfl (hb hby d1_49) rfl rfl ?_
    refine XS.iload X3.here hx rfl (hb hby d1_50) rfl ?_
    refine X3.daload hx (j := (2 : Int32)) (v := (.double x2)) (by rw [eq3]; exact Ar_r3_7.1) Al_r3_7 Ar_r3_7.2.2 hin_r3_7_2 hat_r3_7_2 (g := (mkF m 52 #[.val (.ref r0), .val (.ref r1), .val (.ref r2), .val (.ref r3), .val (.int (2 : Int32))] [(.int (2 : Int32)), (.ref r3)])) rfl rfl (hb hby d1_52) _ ?_
    refine XS.dconst0 X3.here hx rfl (hb hby d1_53) rfl ?_
    refine XS.dcmpS X3.here hx rfl (hb hby d1_54) rfl rfl ?_
    refine XS.ifNo X3.here hx rfl (hb hby d1_55) rfl ((if0 _ _).trans (flt hn_x2).1) ?_
    refine XS.aloadN X3.here hx rfl (hb hby d1_58) rfl rfl ?_
    refine XS.iload X3.here hx rfl (hb hby d1_59) rfl ?_
    refine X3.daload hx (j := (2 : Int32)) (v := (.double x2)) (by rw [eq3]; exact Ar_r3_7.1) Al_r3_7 Ar_r3_7.2.2 hin_r3_7_2 hat_r3_7_2 (g := (mkF m 61 #[.val (.ref r0), .val (.ref r1), .val (.ref r2), .val (.ref r3), .val (.int (2 : Int32))] [(.int (2 : Int32)), (.ref r3)])) rfl rfl (hb hby d1_61) _ ?_
    refine X3.ldc2DoubleC hx hown (mvT hZ (W 43 rfl)) (g := (mkF m 62 #[.val (.ref r0), .val (.ref r1), .val (.ref r2), .val (.ref r3), .val (.int (2 : Int32))] [(.double x2)])) rfl (hb hby d1_62) _ ?_
    refine XS.dcmpS X3.here hx rfl (hb hby d1_65) rfl rfl ?_
    refine XS.ifYes X3.here hx rfl (pc0 := 66) (pc' := 88) rfl (hb hby d1_66) rfl ((if0 _ _).trans (tlt (own_pinf hf_x2)).1) (by decide) (by decide) ?_
    refine XS.iinc X3.here hx rfl (hb hby d1_88) rfl (l' := #[.val (.ref r0), .val (.ref r1), .val (.ref r2), .val (.ref r3), .val (.int ((2 : Int32) + (1 : Int32)))]) rfl ?_
    show Steps p.tables e below (T3.setTop (mkF m 91 #[.val (.ref r0), .val (.ref r1), .val (.ref r2), .val (.ref r3), .val (.int ((2 : Int32) + (1 : Int32)))] [])) _
    rw [show ((2 : Int32) + (1 : Int32)) = (3 : Int32) from (by decide)]
    refine XS.goto X3.here hx rfl (pc0 := 91) (pc' := 42) rfl (hb hby d1_91) (by decide) (by decide) ?_
    refine XS.iload X3.here hx rfl (hb hby d1_42) rfl ?_
    refine XS.aloadN X3.here hx rfl (hb hby d1_44) rfl rfl ?_
    refine X3.arraylength hx (by rw [eq3]; exact Ar_r3_7.1) Al_r3_7 (g := (mkF m 45 #[.val (.ref r0), .val (.ref r1), .val (.ref r2), .val (.ref r3), .val (.int (3 : Int32))] [(.ref r3), (.int (3 : Int32))])) rfl rfl (hb hby d1_45) _ ?_
    rw [len_of S_r3_7 N_r3_7]
    refine XS.icmpNo X3.here hx rfl (hb hby d1_46) rfl (tlt (by decide : (3 : Int32) < (4 : Int32))).2.1 ?_
    refine XS.aloadN X3.here hx rfl (hb hby d1_49) rfl rfl ?_
    refine XS.iload X3.here hx rfl (hb hby d1_50) rfl ?_
    refine X3.daload hx (j := (3 : Int32)) (v := (.double x3)) (by rw [eq3]; exact Ar_r3_7.1) Al_r3_7 Ar_r3_7.2.2 hin_r3_7_3 hat_r3_7_3 (g := (mkF m 52 #[.val (.ref r0), .val (.ref r1), .val (.ref r2), .val (.ref r3), .val (.int (3 : Int32))] [(.int (3 : Int32)), (.ref r3)])) rfl rfl (hb hby d1_52) _ ?_
    refine XS.dconst0 X3.here hx rfl (hb hby d1_53) rfl ?_
    refine XS.dcmpS X3.here hx rfl (hb hby d1_54) rfl rfl ?_
    refine XS.ifNo X3.here hx rfl (hb hby d1_55) rfl ((if0 _ _).trans (flt hn_x3).1) ?_
    refine XS.aloadN X3.here hx rfl (hb hby d1_58) rfl rfl ?_
    refine XS.iload X3.here hx rfl (hb hby d1_59) rfl ?_
    refine X3.daload hx (j := (3 : Int32)) (v := (.double x3)) (by rw [eq3]; exact Ar_r3_7.1) Al_r3_7 Ar_r3_7.2.2 hin_r3_7_3 hat_r3_7_3 (g := (mkF m 61 #[.val (.ref r0), .val (.ref r1), .val (.ref r2), .val (.ref r3), .val (.int (3 : Int32))] [(.int (3 : Int32)), (.ref r3)])) rfl rfl (hb hby d1_61) _ ?_
    refine X3.ldc2DoubleC hx hown (mvT hZ (W 43 rfl)) (g := (mkF m 62 #[.val (.ref r0), .val (.ref r1), .val (.ref r2), .val (.ref r3), .val (.int (3 : Int32))] [(.double x3)])) rfl (hb hby d1_62) _ ?_
    refine XS.dcmpS X3.here hx rfl (hb hby d1_65) rfl rfl ?_
    refine XS.ifYes X3.here hx rfl (pc0 := 66) (pc' := 88) rfl (hb hby d1_66) rfl ((if0 _ _).trans (tlt (own_pinf hf_x3)).1) (by decide) (by decide) ?_
    refine XS.iinc X3.here hx rfl (hb hby d1_88) rfl (l' := #[.val (.ref r0), .val (.ref r1), .val (.ref r2), .val (.ref r3), .val (.int ((3 : Int32) + (1 : Int32)))]) rfl ?_
    show Steps p.tables e below (T3.setTop (mkF m 91 #[.val (.ref r0), .val (.ref r1), .val (.ref r2), .val (.ref r3), .val (.int ((3 : Int32) + (1 : Int32)))] [])) _
    rw [show ((3 : Int32) + (1 : Int32)) = (4 : Int32) from (by decide)]
    refine XS.goto X3.here hx rfl (pc0 := 91) (pc' := 42) rfl (hb hby d1_91) (by decide) (by decide) ?_
    refine XS.iload X3.here hx rfl (hb hby d1_42) rfl ?_
    refine XS.aloadN X3.here hx rfl (hb hby d1_44) rfl rfl ?_
    refine X3.arraylength hx (by rw [eq3]; exact Ar_r3_7.1) Al_r3_7 (g := (mkF m 45 #[.val (.ref r0), .val (.ref r1), .val (.ref r2), .val (.ref r3), .val (.int (4 : Int32))] [(.ref r3), (.int (4 : Int32))])) rfl rfl (hb hby d1_45) _ ?_
    rw [len_of S_r3_7 N_r3_7]
    refine XS.icmpYes X3.here hx rfl (pc0 := 46) (pc' := 94) rfl (hb hby d1_46) rfl (flt (by decide : ¬ ((4 : Int32) < (4 : Int32)))).2.1 (by decide) (by decide) ?_
    refine XS.aloadN X3.here hx rfl (hb hby d1_94) rfl rfl ?_
    refine XS.aloadN X3.here hx rfl (hb hby d1_95) rfl rfl ?_
    refine st11 _ ?_
    refine st12 _ ?_
    refine st15 _ ?_
    refine XS.aloadN X15.here hx rfl (hb hby d1_105) rfl rfl ?_
    refine XS.aloadN X15.here hx rfl (hb hby d1_106) rfl rfl ?_
    refine st20 _ ?_
    refine st21 _ ?_
    refine st24 _ ?_
    refine XS.aloadN X24.here hx rfl (hb hby d1_116) rfl rfl ?_
    refine XS.aloadN X24.here hx rfl (hb hby d1_117) rfl rfl ?_
    refine st29 _ ?_
    refine st30 _ ?_
    refine st33 _ ?_
    show Steps p.tables e below (T33.setTop (mkF m 127 #[.val (.ref r0), .val (.ref r1), .val (.ref r2), .val (.ref r3), .val (.int (4 : Int32))] [])) _
    exact X33.returnOut hx Bd.returns (hb hby d1_127) hr
  · show Q_in_22 Z r0 k_r2 k_r3 x0 x1 x2 x3 h0 n0 _ T33.heap _
    rw [e33]
    exact ⟨rfl, N33, KK34, E_r0_35, b20, b29, Fw24_36, Fw33, B20_37, V_b20_38, V_b29_39⟩
abbrev Rrm_lk_23 : Room := ({ frames := 2, cells := 2, slots := 6, locals := 31 } : Room)
theorem ef_rm_lk_23 (m : MethodId) (r0 : Addr) : entryFrame m #[(.ref r0)] 2 = mkF m 0 #[.val (.ref r0), .unset] [] := by first | (simp [entryFrame, mkF, argsToLocals, Value.category]; done) | rfl
def Q_lk_23 (Z : State) (x0 : UInt64) (x1 : UInt64) (x2 : UInt64) (x3 : UInt64) (x4 : UInt64) (x5 : UInt64) (h0 : Heap) (n0 : Nat) (v : Option Value) (h : Heap) (L : List Loc) : Prop := (∃ (b : Addr) (kb : ClassId), v = some (.ref b) ∧ Arv Z h b kb .double (3 : Int32) [(.double x0), (.double x1), (.double x2)] (.double (0 : UInt64))) ∧ Fr n0 L ∧ Keep h0 h []
set_option maxRecDepth 65536 in
set_option maxHeartbeats 40000000 in
theorem rm_lk_23 (l : Launch) (Z : State) (a0 : Array Value) (hw : ∀ d ∈ tables_1, d.before a0 Z = true) (ws : List Jvm.Cond) (r0 : Addr) (rc : Addr) (re : Addr) (x0 : UInt64) (x1 : UInt64) (x2 : UInt64) (x3 : UInt64) (x4 : UInt64) (x5 : UInt64) (k_rc : ClassId) (k_re : ClassId) (h0 : Heap) (n0 : Nat) (Z0 : n0 ≤ h0.size) (E_r0 : Exa Z h0 r0 "com/example/beliefwire/beliefwire/model/Factor") (F_cardinalities_r0 : Fld Z h0 r0 "com/example/beliefwire/beliefwire/model/Factor" "cardinalities" "[I" (.ref rc)) (V_rc : Arv Z h0 rc k_rc .int (3 : Int32) [(.int (1 : Int32)), (.int (2 : Int32)), (.int (3 : Int32))] (.int (0 : Int32))) (E_rc : Exa Z h0 rc "[I") (F_entries_r0 : Fld Z h0 r0 "com/example/beliefwire/beliefwire/model/Factor" "entries" "[D" (.ref re)) (V_re : Arv Z h0 re k_re .double (6 : Int32) [(.double x0), (.double x1), (.double x2), (.double x3), (.double x4), (.double x5)] (.double (0 : UInt64))) :
    MetFree l (⟨"com/example/beliefwire/beliefwire/io/NoisyMax", "leak", "(Lcom/example/beliefwire/beliefwire/model/Factor;)[D"⟩ : MethodName) (head1 (Jvm.Cond.code (⟨"com/example/beliefwire/beliefwire/io/NoisyMax", "leak", "(Lcom/example/beliefwire/beliefwire/model/Factor;)[D"⟩ : MethodName) prog_40_method_4_code 2 (some (.array .double)) :: ws) Rrm_lk_23) (fun a U => a = #[(.ref r0)] ∧ Z.Warmed39 U.vm ∧ U.heap = h0) (fun _ _ _ _ _ => True) (fun _ U o U' => ∃ v L, o = .returned v ∧ Q_lk_23 Z x0 x1 x2 x3 x4 x5 h0 n0 v U'.heap L ∧ FrameEnd U o U' L Rrm_lk_23.cells Rrm_lk_23.slots) := by
  refine MetFree.of_bodySF (plainFor_of_name pn_3) hisR ?_
  intro p e s m args below meth c s₁ Bd hml0 hP hK
  obtain ⟨rfl, hZ, hh⟩ := hP
  have hx := Bd.exec
  have hby := Bd.bytes
  have hml : c.maxLocals = 2 := hml0
  have hown : s.vm.findClass "com/example/beliefwire/beliefwire/io/NoisyMax" = some m.cls := findClass_of_methodNamed Bd.named
  have hnm := (name_of_methodNamed Bd.named Bd.method).1
  have X0 : Stand p l e Rrm_lk_23 s m #[(.ref r0)] below meth c s₁ [] 0 0 := Stand.of_body Bd
  have e0 : s₁.heap = h0 := by rw [← hh, Bd.state]; rfl
  have N0 := Fr.nil n0
  have W := @own_W a0 Z hw
  have pre0 : ∀ t, Steps p.tables e below (s₁.setTop (mkF m 0 #[.val (.ref r0), .unset] [])) t → Steps p.tables e below (s₁.setTop (entryFrame m #[(.ref r0)] 2)) t := fun t k => castTop (ef_rm_lk_23 m r0) k
  obtain ⟨cq1, kq1, q1a, q1b, q1c⟩ := isOf hZ e0 E_r0
  obtain ⟨_, _, ⟨T1, L1, k1, n1⟩, -, X1, ⟨Lc1, hQ1, l1, y1, z1⟩, st1⟩ := X0.virtualBack hx (y := (⟨"com/example/beliefwire/beliefwire/model/Factor", "cardinalities", "()[I"⟩ : MethodName)) (z := (⟨"com/example/beliefwire/beliefwire/model/Factor", "cardinalities", "()[I"⟩ : MethodName)) hown (mvT hZ (W 60 rfl)) (mvT hZ (W 61 rfl)) (notFace_of_selects (args := #[]) (mvT hZ (W 63 rfl))) (mvT hZ (W 63 rfl)) (mvT hZ (W 62 rfl)) (by decide) (backOf (W := 0) (rm_ca_2 l Z a0 hw [] r0 rc (3 : Int32) k_rc h0 n0 Z0 F_cardinalities_r0 V_rc E_rc) hZ (W 64 rfl) (W 6 rfl) (by decide) (by decide)) q1a q1c (g := (mkF m 1 #[.val (.ref r0), .unset] [(.ref r0)])) rfl (by rw [hml]; rfl) (Steps.refl _) (argsL := []) (rest := []) (lenOf pd_6 rfl) rfl (own_le rfl) (hb hby d9_1) (fun _ _ => ⟨rfl, e0, (by decide : 0 + 1 ≤ _), (by decide : 0 + 3 ≤ _)⟩)
  dsimp only [Pt.U, Pt.locs, Pt.cells, Pt.slots] at X1 l1 y1 z1 st1 hQ1
  subst l1 y1 z1
  obtain ⟨⟨b1, rfl, V1⟩, N1q, K1⟩ := hQ1
  have N1 := Fr.app N0 N1q
  obtain ⟨LL1, X1, N1⟩ := own_hide X1 N1
  obtain ⟨cl_b1_2, Ar_b1_2, q_b1_2, S_b1_2, N_b1_2, H_b1_2, G_b1_2⟩ := id V1
  have Al_b1_2 := State.isArrayOf_alike hZ.alike Ar_b1_2.2.1
  have hin_b1_2_2 : ¬ ((2 : Int32) < 0 ∨ cl_b1_2.slots.size ≤ ((2 : Int32)).toNatClampNeg) := inb_of S_b1_2 ⟨by decide, by decide⟩
  have hat_b1_2_2 : cl_b1_2.slots[((2 : Int32)).toNatClampNeg]? = some (.int (3 : Int32)) := H_b1_2 _ (by rw [S_b1_2]; decide)
  have Z4z : n0 ≤ T1.heap.size := (Nat.le_trans Z0 K1.1)
  have E_r0_5 := (E_r0.keep K1)
  have F_entries_r0_6 := (F_entries_r0.keep K1 own_nin0)
  have V_re_7 := (V_re.keep K1 own_nin0)
  obtain ⟨_, _, ⟨T3, L3, k3, n3⟩, -, X3, ⟨Lc3, hQ3, l3, y3, z3⟩, st3⟩ := Jvm.LawKit.callS X1 hx (y := (⟨"com/example/beliefwire/beliefwire/io/NoisyMax", "entries", "(Lcom/example/beliefwire/beliefwire/model/Factor;II)[D"⟩ : MethodName)) hown (mvT hZ (W 65 rfl)) (mvT hZ (W 66 rfl)) (mvT hZ (W 58 rfl)) (mvT hZ (W 67 rfl)) (by decide) (backOf (W := 0) (rm_es_3_6 l Z a0 hw [] r0 re x0 x1 x2 x3 x4 x5 k_re T1.heap n0 Z4z E_r0_5 F_entries_r0_6 V_re_7) hZ (W 67 rfl) (W 58 rfl) (by decide) (by decide)) (g := (mkF m 13 #[.val (.ref r0), .val (.ref b1)] [(.int (3 : Int32)), (.int (0 : Int32)), (.ref r0)])) rfl (by rw [hml]; rfl) (argsL := [(.ref r0), (.int (0 : Int32)), (.int (3 : Int32))]) (rest := []) (lenOf pd_7 rfl) rfl (own_le rfl) (hb hby d9_13) (fun _ _ => ⟨rfl, rfl, (by decide : 1 + 1 ≤ _), (by decide : 3 + 3 ≤ _)⟩)
  dsimp only [Pt.U, Pt.locs, Pt.cells, Pt.slots] at X3 l3 y3 z3 st3 hQ3
  subst l3 y3 z3
  obtain ⟨⟨b3, kb3, rfl, V3⟩, N3q, K3⟩ := hQ3
  have N3 := Fr.app N1 N3q
  obtain ⟨LL3, X3, N3⟩ := own_hide X3 N3
  have KK8 : Keep h0 T3.heap [] := (((Keep.refl h0 []).trans K1 (own_in0)).trans K3 (own_in0))
  obtain ⟨fs, hr, hrun, hended, hW, hsame⟩ := X3.leave (v := some (.ref b3)) (fun h => by rw [Bd.returns] at h; cases h)
  refine ⟨_, _, pre0 _ ?_, hrun, hended, _, _, rfl, ?_, ⟨_, rfl⟩, hW, hsame.mono (by decide) (by decide)⟩
  · show Steps p.tables e below (s₁.setTop (mkF m 0 #[.val (.ref r0), .unset] [])) _
    refine XS.aloadN X0.here hx rfl (hb hby d9_0) rfl rfl ?_
    refine st1.trans ?_
    refine XS.astoreN X1.here hx rfl (hb hby d9_4) rfl rfl (l' := #[.val (.ref r0), .val (.ref b1)]) rfl ?_
    refine XS.aloadN X1.here hx rfl (hb hby d9_5) rfl rfl ?_
    refine XS.iconst X1.here hx rfl (hb hby d9_6) ?_
    refine XS.aloadN X1.here hx rfl (hb hby d9_7) rfl rfl ?_
    refine XS.aloadN X1.here hx rfl (hb hby d9_8) rfl rfl ?_
    refine X1.arraylength hx Ar_b1_2.1 Al_b1_2 (g := (mkF m 9 #[.val (.ref r0), .val (.ref b1)] [(.ref b1), (.ref b1), (.int (0 : Int32)), (.ref r0)])) rfl rfl (hb hby d9_9) _ ?_
    rw [len_of S_b1_2 N_b1_2]
    refine XS.iconst X1.here hx rfl (hb hby d9_10) ?_
    refine XS.isub X1.here hx rfl (hb hby d9_11) rfl ?_
    show Steps p.tables e below (T1.setTop (mkF m 12 #[.val (.ref r0), .val (.ref b1)] [(.int ((3 : Int32) - (1 : Int32))), (.ref b1), (.int (0 : Int32)), (.ref r0)])) _
    rw [show ((3 : Int32) - (1 : Int32)) = (2 : Int32) from (by decide)]
    refine X1.iaload hx (j := (2 : Int32)) (v := (.int (3 : Int32))) Ar_b1_2.1 Al_b1_2 Ar_b1_2.2.2 hin_b1_2_2 hat_b1_2_2 (g := (mkF m 12 #[.val (.ref r0), .val (.ref b1)] [(.int (2 : Int32)), (.ref b1), (.int (0 : Int32)), (.ref r0)])) rfl rfl (hb hby d9_12) _ ?_
    refine st3 _ ?_
    show Steps p.tables e below (T3.setTop (mkF m 16 #[.val (.ref r0), .val (.ref b1)] [(.ref b3)])) _
    jvm_step X3.here [X3.here.top, hx, (hb hby d9_16), X3.method', Bd.returns, Value.isRef, FieldType.isReference]
    first | (intro acts; rw [hr _ acts rfl rfl rfl]) | rw [hr _ _ rfl rfl rfl]
    exact Steps.refl _
  · show Q_lk_23 Z x0 x1 x2 x3 x4 x5 h0 n0 _ T3.heap _
    exact ⟨⟨b3, _, rfl, V3⟩, N3, KK8⟩
abbrev Rrm_in_23 : Room := ({ frames := 5, cells := 4, slots := 15, locals := 96 } : Room)
theorem ef_rm_in_23 (m : MethodId) (r0 : Addr) (r1 : Addr) (r2 : Addr) (r3 : Addr) : entryFrame m #[(.ref r0), (.ref r1), (.ref r2), (.ref r3)] 5 = mkF m 0 #[.val (.ref r0), .val (.ref r1), .val (.ref r2), .val (.ref r3), .unset] [] := by first | (simp [entryFrame, mkF, argsToLocals, Value.category]; done) | rfl
def Q_in_23 (Z : State) (r0 : Addr) (k_r2 : ClassId) (k_r3 : ClassId) (x0 : UInt64) (x1 : UInt64) (x2 : UInt64) (x3 : UInt64) (x4 : UInt64) (x5 : UInt64) (h0 : Heap) (n0 : Nat) (v : Option Value) (h : Heap) (L : List Loc) : Prop := v = none ∧ Fr n0 L ∧ Keep h0 h [r0] ∧ Exa Z h r0 "com/example/beliefwire/beliefwire/model/Factor" ∧ ∃ bc be : Addr, Fld Z h r0 "com/example/beliefwire/beliefwire/model/Factor" "cardinalities" "[I" (.ref bc) ∧ Fld Z h r0 "com/example/beliefwire/beliefwire/model/Factor" "entries" "[D" (.ref be) ∧ Exa Z h bc "[I" ∧ Arv Z h bc k_r2 .int (3 : Int32) [(.int (1 : Int32)), (.int (2 : Int32)), (.int (3 : Int32))] (.int (0 : Int32)) ∧ Arv Z h be k_r3 .double (6 : Int32) [(.double x0), (.double x1), (.double x2), (.double x3), (.double x4), (.double x5)] (.double (0 : UInt64))
set_option maxRecDepth 65536 in
set_option maxHeartbeats 40000000 in
theorem rm_in_23 (l : Launch) (Z : State) (a0 : Array Value) (hw : ∀ d ∈ tables_1, d.before a0 Z = true) (ws : List Jvm.Cond) (r0 : Addr) (r1 : Addr) (r2 : Addr) (r3 : Addr) (x0 : UInt64) (x1 : UInt64) (x2 : UInt64) (x3 : UInt64) (x4 : UInt64) (x5 : UInt64) (u_scope_r0 : Value) (u_cardinalities_r0 : Value) (u_entries_r0 : Value) (k_r1 : ClassId) (k_r2 : ClassId) (k_r3 : ClassId) (h0 : Heap) (n0 : Nat) (Z0 : n0 ≤ h0.size) (E_r0 : Exa Z h0 r0 "com/example/beliefwire/beliefwire/model/Factor") (g_r0 : n0 ≤ r0) (F_scope_r0 : Fld Z h0 r0 "com/example/beliefwire/beliefwire/model/Factor" "scope" "[I" u_scope_r0) (F_cardinalities_r0 : Fld Z h0 r0 "com/example/beliefwire/beliefwire/model/Factor" "cardinalities" "[I" u_cardinalities_r0) (F_entries_r0 : Fld Z h0 r0 "com/example/beliefwire/beliefwire/model/Factor" "entries" "[D" u_entries_r0) (V_r1 : Arv Z h0 r1 k_r1 .int (3 : Int32) [(.int (1 : Int32)), (.int (0 : Int32)), (.int (2 : Int32))] (.int (0 : Int32))) (E_r1 : Exa Z h0 r1 "[I") (V_r2 : Arv Z h0 r2 k_r2 .int (3 : Int32) [(.int (1 : Int32)), (.int (2 : Int32)), (.int (3 : Int32))] (.int (0 : Int32))) (E_r2 : Exa Z h0 r2 "[I") (V_r3 : Arv Z h0 r3 k_r3 .double (6 : Int32) [(.double x0), (.double x1), (.double x2), (.double x3), (.double x4), (.double x5)] (.double (0 : UInt64))) (E_r3 : Exa Z h0 r3 "[D") (hf_x0 : Fl.Fin64 x0) (hn_x0 : ¬ cmpValue (FP.dcmp x0 FP.dconst0) .l < (0 : Int32)) (hf_x1 : Fl.Fin64 x1) (hn_x1 : ¬ cmpValue (FP.dcmp x1 FP.dconst0) .l < (0 : Int32)) (hf_x2 : Fl.Fin64 x2) (hn_x2 : ¬ cmpValue (FP.dcmp x2 FP.dconst0) .l < (0 : Int32)) (hf_x3 : Fl.Fin64 x3) (hn_x3 : ¬ cmpValue (FP.dcmp x3 FP.dconst0) .l < (0 : Int32)) (hf_x4 : Fl.Fin64 x4) (hn_x4 : ¬ cmpValue (FP.dcmp x4 FP.dconst0) .l < (0 : Int32)) (hf_x5 : Fl.Fin64 x5) (hn_x5 : ¬ cmpValue (FP.dcmp x5 FP.dconst0) .l < (0 : Int32)) :
    MetFree l (⟨"com/example/beliefwire/beliefwire/model/Factor", "<init>", "([I[I[D)V"⟩ : MethodName) (head1 (Jvm.Cond.code (⟨"com/example/beliefwire/beliefwire/model/Factor", "<init>", "([I[I[D)V"⟩ : MethodName) prog_60_method_1_code 5 none :: ws) Rrm_in_23) (fun a U => a = #[(.ref r0), (.ref r1), (.ref r2), (.ref r3)] ∧ Z.Warmed39 U.vm ∧ U.heap = h0) (fun _ _ _ _ _ => True) (fun _ U o U' => ∃ v L, o = .returned v ∧ Q_in_23 Z r0 k_r2 k_r3 x0 x1 x2 x3 x4 x5 h0 n0 v U'.heap L ∧ FrameEnd U o U' L Rrm_in_23.cells Rrm_in_23.slots) := by
  refine MetFree.of_bodySF (plainFor_of_name pn_2) hisR ?_
  intro p e s m args below meth c s₁ Bd hml0 hP hK
  obtain ⟨rfl, hZ, hh⟩ := hP
  have hx := Bd.exec
  have hby := Bd.bytes
  have hml : c.maxLocals = 5 := hml0
  have hown : s.vm.findClass "com/example/beliefwire/beliefwire/model/Factor" = some m.cls := findClass_of_methodNamed Bd.named
  have hnm := (name_of_methodNamed Bd.named Bd.method).1
  have X0 : Stand p l e Rrm_in_23 s m #[(.ref r0), (.ref r1), (.ref r2), (.ref r3)] below meth c s₁ [] 0 0 := Stand.of_body Bd
  have e0 : s₁.heap = h0 := by rw [← hh, Bd.state]; rfl
  have N0 := Fr.nil n0
  have W := @own_W a0 Z hw
  have pre0 : ∀ t, Steps p.tables e below (s₁.setTop (mkF m 0 #[.val (.ref r0), .val (.ref r1), .val (.ref r2), .val (.ref r3), .unset] [])) t → Steps p.tables e below (s₁.setTop (entryFrame m #[(.ref r0), (.ref r1), (.ref r2), (.ref r3)] 5)) t := fun t k => castTop (ef_rm_in_23 m r0 r1 r2 r3) k
  have ne_r0_r1 : r0 ≠ r1 := by obtain ⟨_, A, -⟩ := id V_r1; exact ne_arr E_r0 (W 5 rfl) A
  have ne_r0_r2 : r0 ≠ r2 := by obtain ⟨_, A, -⟩ := id V_r2; exact ne_arr E_r0 (W 5 rfl) A
  have ne_r0_r3 : r0 ≠ r3 := by obtain ⟨_, A, -⟩ := id V_r3; exact ne_arr E_r0 (W 5 rfl) A
  obtain ⟨T1, X1, e1, st1⟩ := initO X0 hx hZ hown (W 10 rfl) (W 11 rfl) (W 12 rfl) e0 (g := (mkF m 1 #[.val (.ref r0), .val (.ref r1), .val (.ref r2), .val (.ref r3), .unset] [(.ref r0)])) rfl (by rw [hml]; rfl) rfl (hb hby d1_1) (by decide) (W := 0) (own_le rfl) (by decide)
  obtain ⟨_, _, ⟨T2, L2, k2, n2⟩, -, X2, ⟨Lc2, hQ2, l2, y2, z2⟩, st2⟩ := Jvm.LawKit.callS X1 hx (y := (⟨"com/example/beliefwire/beliefwire/model/Factor", "checkScope", "([I[I)V"⟩ : MethodName)) hown (mvT hZ (W 13 rfl)) (mvT hZ (W 14 rfl)) (mvT hZ (W 6 rfl)) (mvT hZ (W 15 rfl)) (by decide) (backOf (W := 0) (rm_cs_2 l Z a0 hw [] r1 r2 (3 : Int32) k_r1 k_r2 h0 n0 Z0 V_r1 E_r1 V_r2 (by decide)) hZ (W 15 rfl) (W 6 rfl) (by decide) (by decide)) (g := (mkF m 6 #[.val (.ref r0), .val (.ref r1), .val (.ref r2), .val (.ref r3), .unset] [(.ref r2), (.ref r1)])) rfl (by rw [hml]; rfl) (argsL := [(.ref r1), (.ref r2)]) (rest := []) (lenOf pd_8 rfl) rfl (own_le rfl) (hb hby d1_6) (fun _ _ => ⟨rfl, e1, (by decide : 0 + 1 ≤ _), (by decide : 0 + 3 ≤ _)⟩)
  dsimp only [Pt.U, Pt.locs, Pt.cells, Pt.slots] at X2 l2 y2 z2 st2 hQ2
  subst l2 y2 z2
  obtain ⟨rfl, N2q, K2⟩ := hQ2
  have N2 := Fr.app N0 N2q
  obtain ⟨LL2, X2, N2⟩ := own_hide X2 N2
  have Z4z : n0 ≤ T2.heap.size := (Nat.le_trans Z0 K2.1)
  have V_r2_5 := (V_r2.keep K2 own_nin0)
  obtain ⟨_, _, ⟨T3, L3, k3, n3⟩, -, X3, ⟨Lc3, hQ3, l3, y3, z3⟩, st3⟩ := Jvm.LawKit.callS X2 hx (y := (⟨"com/example/beliefwire/beliefwire/model/Factor", "tableSize", "([I)J"⟩ : MethodName)) hown (mvT hZ (W 39 rfl)) (mvT hZ (W 40 rfl)) (mvT hZ (W 6 rfl)) (mvT hZ (W 41 rfl)) (by decide) (backOf (W := 0) (rm_ts_2 l Z a0 hw [] r2 (3 : Int32) k_r2 T2.heap n0 Z4z V_r2_5 (by decide)) hZ (W 41 rfl) (W 6 rfl) (by decide) (by decide)) (g := (mkF m 10 #[.val (.ref r0), .val (.ref r1), .val (.ref r2), .val (.ref r3), .unset] [(.ref r2)])) rfl (by rw [hml]; rfl) (argsL := [(.ref r2)]) (rest := []) (lenOf pd_4 rfl) rfl (own_le rfl) (hb hby d1_10) (fun _ _ => ⟨rfl, rfl, (by decide : 1 + 0 ≤ _), (by decide : 3 + 0 ≤ _)⟩)
  dsimp only [Pt.U, Pt.locs, Pt.cells, Pt.slots] at X3 l3 y3 z3 st3 hQ3
  subst l3 y3 z3
  obtain ⟨hv3, N3q, eq3⟩ := hQ3
  rw [show ((2 : Int64) * ((3 : Int32).toInt64)) = (6 : Int64) from by decide] at hv3
  subst hv3
  have N3 := Fr.app N2 N3q
  obtain ⟨LL3, X3, N3⟩ := own_hide X3 N3
  have V_r3_6 := (V_r3.keep K2 own_nin0)
  obtain ⟨cl_r3_7, Ar_r3_7, q_r3_7, S_r3_7, N_r3_7, H_r3_7, G_r3_7⟩ := id V_r3_6
  have Al_r3_7 := State.isArrayOf_alike hZ.alike Ar_r3_7.2.1
  have hin_r3_7_0 : ¬ ((0 : Int32) < 0 ∨ cl_r3_7.slots.size ≤ ((0 : Int32)).toNatClampNeg) := inb_of S_r3_7 ⟨by decide, by decide⟩
  have hat_r3_7_0 : cl_r3_7.slots[((0 : Int32)).toNatClampNeg]? = some (.double x0) := H_r3_7 _ (by rw [S_r3_7]; decide)
  have hin_r3_7_1 : ¬ ((1 : Int32) < 0 ∨ cl_r3_7.slots.size ≤ ((1 : Int32)).toNatClampNeg) := inb_of S_r3_7 ⟨by decide, by decide⟩
  have hat_r3_7_1 : cl_r3_7.slots[((1 : Int32)).toNatClampNeg]? = some (.double x1) := H_r3_7 _ (by rw [S_r3_7]; decide)
  have hin_r3_7_2 : ¬ ((2 : Int32) < 0 ∨ cl_r3_7.slots.size ≤ ((2 : Int32)).toNatClampNeg) := inb_of S_r3_7 ⟨by decide, by decide⟩
  have hat_r3_7_2 : cl_r3_7.slots[((2 : Int32)).toNatClampNeg]? = some (.double x2) := H_r3_7 _ (by rw [S_r3_7]; decide)
  have hin_r3_7_3 : ¬ ((3 : Int32) < 0 ∨ cl_r3_7.slots.size ≤ ((3 : Int32)).toNatClampNeg) := inb_of S_r3_7 ⟨by decide, by decide⟩
  have hat_r3_7_3 : cl_r3_7.slots[((3 : Int32)).toNatClampNeg]? = some (.double x3) := H_r3_7 _ (by rw [S_r3_7]; decide)
  have hin_r3_7_4 : ¬ ((4 : Int32) < 0 ∨ cl_r3_7.slots.size ≤ ((4 : Int32)).toNatClampNeg) := inb_of S_r3_7 ⟨by decide, by decide⟩
  have hat_r3_7_4 : cl_r3_7.slots[((4 : Int32)).toNatClampNeg]? = some (.double x4) := H_r3_7 _ (by rw [S_r3_7]; decide)
  have hin_r3_7_5 : ¬ ((5 : Int32) < 0 ∨ cl_r3_7.slots.size ≤ ((5 : Int32)).toNatClampNeg) := inb_of S_r3_7 ⟨by decide, by decide⟩
  have hat_r3_7_5 : cl_r3_7.slots[((5 : Int32)).toNatClampNeg]? = some (.double x5) := H_r3_7 _ (by rw [S_r3_7]; decide)
  have V_r1_8 := (V_r1.keep K2 own_nin0)
  have E_r1_9 := (E_r1.keep K2)
  have hz10 : h0.size ≤ T2.heap.size := (Nat.le_trans (Nat.le_refl h0.size) K2.1)
  obtain ⟨T11, h11, X11, e11, E11, V11, B11, st11⟩ := cloneH X3 hx hZ hown (W 16 rfl) (W 17 rfl) (W 21 rfl) (W 19 rfl) (W 20 rfl) (W 22 rfl) eq3 (Arv.arh V_r1_8) E_r1_9 (g := (mkF m 96 #[.val (.ref r0), .val (.ref r1), .val (.ref r2), .val (.ref r3), .val (.int (6 : Int32))] [(.ref r1), (.ref r0)])) rfl (by rw [hml]; rfl) rfl (hb hby d1_96) (by decide) (W := 1) (cap := 3) (own_le rfl) (by decide) (by decide) (by decide) (by decide)
  obtain ⟨b11, gg11⟩ : ∃ z, z = T2.heap.size := ⟨_, rfl⟩
  rw [← gg11] at V11 B11 st11
  have g_b11 : n0 ≤ b11 := Nat.le_trans Z4z (Nat.le_of_eq gg11.symm)
  have sz_b11 : h0.size ≤ b11 := Nat.le_trans hz10 (Nat.le_of_eq gg11.symm)
  have V_b11 : Arv Z h11 b11 k_r1 .int (3 : Int32) [(.int (1 : Int32)), (.int (0 : Int32)), (.int (2 : Int32))] (.int (0 : Int32)) := V11
  obtain ⟨T12, X12, e12, st12⟩ := castY X11 hx hZ hown (W 23 rfl) e11 (Ins.self B11) (g := (mkF m 99 #[.val (.ref r0), .val (.ref r1), .val (.ref r2), .val (.ref r3), .val (.int (6 : Int32))] [(.ref b11), (.ref r0)])) rfl rfl (hb hby d1_99)
  have E_r0_13 := ((E_r0.keep K2).ext E11)
  have F_scope_r0_14 := ((F_scope_r0.keep K2 own_nin0).ext E11)
  obtain ⟨T15, h15, X15, e15, W15, st15⟩ := putF X12 hx hZ hown (host := "") (Or.inl (W 44 rfl)) Via.refl e12 F_scope_r0_14 E_r0_13 (Or.inr ⟨(W 45 rfl), rfl, hnm⟩) (W 5 rfl) (ty := (.array .int)) (by decide) rfl rfl (g := (mkF m 102 #[.val (.ref r0), .val (.ref r1), .val (.ref r2), .val (.ref r3), .val (.int (6 : Int32))] [(.ref b11), (.ref r0)])) rfl rfl (hb hby d1_102)
  have Fw15 := F_scope_r0_14.same W15
  have N15 := Fr.snoc X15 N3 g_r0
  obtain ⟨LL15, X15, N15⟩ := own_hide X15 N15
  have V_r2_16 := ((V_r2_5.ext E11).other W15 (Ne.symm ne_r0_r2))
  have E_r2_17 := (((E_r2.keep K2).ext E11).wr W15)
  have Z18z : n0 ≤ h15.size := (Nat.le_trans (Nat.le_trans Z4z E11.1) (Keep.of_wr W15).1)
  have hz19 : h0.size ≤ h15.size := (Nat.le_trans (Nat.le_trans hz10 E11.1) (Keep.of_wr W15).1)
  obtain ⟨T20, h20, X20, e20, E20, V20, B20, st20⟩ := cloneH X15 hx hZ hown (W 16 rfl) (W 17 rfl) (W 21 rfl) (W 19 rfl) (W 20 rfl) (W 22 rfl) e15 (Arv.arh V_r2_16) E_r2_17 (g := (mkF m 107 #[.val (.ref r0), .val (.ref r1), .val (.ref r2), .val (.ref r3), .val (.int (6 : Int32))] [(.ref r2), (.ref r0)])) rfl (by rw [hml]; rfl) rfl (hb hby d1_107) (by decide) (W := 1) (cap := 3) (own_le rfl) (by decide) (by decide) (by decide) (by decide)
  obtain ⟨b20, gg20⟩ : ∃ z, z = h15.size := ⟨_, rfl⟩
  rw [← gg20] at V20 B20 st20
  have g_b20 : n0 ≤ b20 := Nat.le_trans Z18z (Nat.le_of_eq gg20.symm)
  have sz_b20 : h0.size ≤ b20 := Nat.le_trans hz19 (Nat.le_of_eq gg20.symm)
  have V_b20 : Arv Z h20 b20 k_r2 .int (3 : Int32) [(.int (1 : Int32)), (.int (2 : Int32)), (.int (3 : Int32))] (.int (0 : Int32)) := V20
  obtain ⟨T21, X21, e21, st21⟩ := castY X20 hx hZ hown (W 23 rfl) e20 (Ins.self B20) (g := (mkF m 110 #[.val (.ref r0), .val (.ref r1), .val (.ref r2), .val (.ref r3), .val (.int (6 : Int32))] [(.ref b20), (.ref r0)])) rfl rfl (hb hby d1_110)
  have E_r0_22 := ((E_r0_13.wr W15).ext E20)
  have F_cardinalities_r0_23 := ((((F_cardinalities_r0.keep K2 own_nin0).ext E11).other W15 (Or.inr (slot_ne (Or.inr (W 47 rfl)) (Or.inr (W 45 rfl)) (by decide) (t := (.array .int)) (t' := (.array .int)) (by decide) (by decide)))).ext E20)
  obtain ⟨T24, h24, X24, e24, W24, st24⟩ := putF X21 hx hZ hown (host := "") (Or.inl (W 46 rfl)) Via.refl e21 F_cardinalities_r0_23 E_r0_22 (Or.inr ⟨(W 47 rfl), rfl, hnm⟩) (W 5 rfl) (ty := (.array .int)) (by decide) rfl rfl (g := (mkF m 113 #[.val (.ref r0), .val (.ref r1), .val (.ref r2), .val (.ref r3), .val (.int (6 : Int32))] [(.ref b20), (.ref r0)])) rfl rfl (hb hby d1_113)
  have Fw24 := F_cardinalities_r0_23.same W24
  have N24 := Fr.snoc X24 N15 g_r0
  obtain ⟨LL24, X24, N24⟩ := own_hide X24 N24
  have V_r3_25 := ((((V_r3_6.ext E11).other W15 (Ne.symm ne_r0_r3)).ext E20).other W24 (Ne.symm ne_r0_r3))
  have E_r3_26 := (((((E_r3.keep K2).ext E11).wr W15).ext E20).wr W24)
  have Z27z : n0 ≤ h24.size := (Nat.le_trans (Nat.le_trans Z18z E20.1) (Keep.of_wr W24).1)
  have hz28 : h0.size ≤ h24.size := (Nat.le_trans (Nat.le_trans hz19 E20.1) (Keep.of_wr W24).1)
  obtain ⟨T29, h29, X29, e29, E29, V29, B29, st29⟩ := cloneH X24 hx hZ hown (W 48 rfl) (W 49 rfl) (W 21 rfl) (W 19 rfl) (W 50 rfl) (W 51 rfl) e24 (Arv.arh V_r3_25) E_r3_26 (g := (mkF m 118 #[.val (.ref r0), .val (.ref r1), .val (.ref r2), .val (.ref r3), .val (.int (6 : Int32))] [(.ref r3), (.ref r0)])) rfl (by rw [hml]; rfl) rfl (hb hby d1_118) (by decide) (W := 1) (cap := 6) (own_le rfl) (by decide) (by decide) (by decide) (by decide)
  obtain ⟨b29, gg29⟩ : ∃ z, z = h24.size := ⟨_, rfl⟩
  rw [← gg29] at V29 B29 st29
  have g_b29 : n0 ≤ b29 := Nat.le_trans Z27z (Nat.le_of_eq gg29.symm)
  have sz_b29 : h0.size ≤ b29 := Nat.le_trans hz28 (Nat.le_of_eq gg29.symm)
  have V_b29 : Arv Z h29 b29 k_r3 .double (6 : Int32) [(.double x0), (.double x1), (.double x2), (.double x3), (.double x4), (.double x5)] (.double (0 : UInt64)) := V29
  obtain ⟨T30, X30, e30, st30⟩ := castY X29 hx hZ hown (W 52 rfl) e29 (Ins.self B29) (g := (mkF m 121 #[.val (.ref r0), .val (.ref r1), .val (.ref r2), .val (.ref r3), .val (.int (6 : Int32))] [(.ref b29), (.ref r0)])) rfl rfl (hb hby d1_121)
  have E_r0_31 := ((E_r0_22.wr W24).ext E29)
  have F_entries_r0_32 := ((((((F_entries_r0.keep K2 own_nin0).ext E11).other W15 (Or.inr (slot_ne (Or.inr (W 55 rfl)) (Or.inr (W 45 rfl)) (by decide) (t := (.array .double)) (t' := (.array .int)) (by decide) (by decide)))).ext E20).other W24 (Or.inr (slot_ne (Or.inr (W 55 rfl)) (Or.inr (W 47 rfl)) (by decide) (t := (.array .double)) (t' := (.array .int)) (by decide) (by decide)))).ext E29)
  obtain ⟨T33, h33, X33, e33, W33, st33⟩ := putF X30 hx hZ hown (host := "") (Or.inl (W 54 rfl)) Via.refl e30 F_entries_r0_32 E_r0_31 (Or.inr ⟨(W 55 rfl), rfl, hnm⟩) (W 5 rfl) (ty := (.array .double)) (by decide) rfl rfl (g := (mkF m 124 #[.val (.ref r0), .val (.ref r1), .val (.ref r2), .val (.ref r3), .val (.int (6 : Int32))] [(.ref b29), (.ref r0)])) rfl rfl (hb hby d1_124)
  have Fw33 := F_entries_r0_32.same W33
  have N33 := Fr.snoc X33 N24 g_r0
  obtain ⟨LL33, X33, N33⟩ := own_hide X33 N33
  have KK34 : Keep h0 h33 [r0] := ((((((((Keep.refl h0 [r0]).trans K2 (own_in0)).ext E11).wr W15 (Or.inl (List.mem_of_getElem? (i := 0) rfl))).ext E20).wr W24 (Or.inl (List.mem_of_getElem? (i := 0) rfl))).ext E29).wr W33 (Or.inl (List.mem_of_getElem? (i := 0) rfl)))
  have E_r0_35 := (E_r0_31.wr W33)
  have Fw24_36 := ((Fw24.ext E29).other W33 (Or.inr (slot_ne (Or.inr (W 47 rfl)) (Or.inr (W 55 rfl)) (by decide) (t := (.array .int)) (t' := (.array .double)) (by decide) (by decide))))
  have B20_37 := (((B20.wr W24).ext E29).wr W33)
  have ne_r0_b20 : r0 ≠ b20 := Nat.ne_of_lt (Nat.lt_of_lt_of_le (Nat.lt_of_lt_of_le (E_r0_13).lt (Keep.of_wr W15).1) (Nat.le_of_eq gg20.symm))
  have V_b20_38 := (((V_b20.other W24 (Ne.symm ne_r0_b20)).ext E29).other W33 (Ne.symm ne_r0_b20))
  have ne_r0_b29 : r0 ≠ b29 := Nat.ne_of_lt (Nat.lt_of_lt_of_le (Nat.lt_of_lt_of_le (E_r0_22).lt (Keep.of_wr W24).1) (Nat.le_of_eq gg29.symm))
  have V_b29_39 := (V_b29.other W33 (Ne.symm ne_r0_b29))
  obtain ⟨fs, hr, hrun, hended, hW, hsame⟩ := X33.leave (v := none) (fun _ => rfl)
  refine ⟨_, _, pre0 _ ?_, hrun, hended, _, _, rfl, ?_, ⟨_, rfl⟩, hW, hsame.mono (by decide) (by decide)⟩
  · show Steps p.tables e below (s₁.setTop (mkF m 0 #[.val (.ref r0), .val (.ref r1), .val (.ref r2), .val (.ref r3), .unset] [])) _
    refine XS.aloadN X0.here hx rfl (hb hby d1_0) rfl rfl ?_
    refine st1 _ ?_
    refine XS.aloadN X1.here hx rfl (hb hby d1_4) rfl rfl ?_
    refine XS.aloadN X1.here hx rfl (hb hby d1_5) rfl rfl ?_
    refine st2 _ ?_
    refine XS.aloadN X2.here hx rfl (hb hby d1_9) rfl rfl ?_
    refine st3 _ ?_
    refine XS.aloadN X3.here hx rfl (hb hby d1_13) rfl rfl ?_
    refine X3.arraylength hx (by rw [eq3]; exact Ar_r3_7.1) Al_r3_7 (g := (mkF m 14 #[.val (.ref r0), .val (.ref r1), .val (.ref r2), .val (.ref r3), .unset] [(.ref r3), (.long (6 : Int64))])) rfl rfl (hb hby d1_14) _ ?_
    rw [len_of S_r3_7 N_r3_7]
    refine XS.i2l X3.here hx rfl (hb hby d1_15) rfl ?_
    show Steps p.tables e below (T3.setTop (mkF m 16 #[.val (.ref r0), .val (.ref r1), .val (.ref r2), .val (.ref r3), .unset] [(.long ((6 : Int32).toInt64)), (.long (6 : Int64))])) _
    rw [show ((6 : Int32).toInt64) = (6 : Int64) from (by decide)]
    refine XS.lcmp X3.here hx rfl (hb hby d1_16) rfl ?_
    refine XS.ifYes X3.here hx rfl (pc0 := 17) (pc' := 39) rfl (hb hby d1_17) rfl ((if0 _ _).trans (teq ((lw_eq _ _).mpr (by decide : (6 : Int64) = (6 : Int64)))).1) (by decide) (by decide) ?_
    refine XS.iconst X3.here hx rfl (hb hby d1_39) ?_
    refine XS.istore X3.here hx rfl (hb hby d1_40) rfl (l' := #[.val (.ref r0), .val (.ref r1), .val (.ref r2), .val (.ref r3), .val (.int (0 : Int32))]) rfl ?_
    refine XS.iload X3.here hx rfl (hb hby d1_42) rfl ?_
    refine XS.aloadN X3.here hx rfl (hb hby d1_44) rfl rfl ?_
    refine X3.arraylength hx (by rw [eq3]; exact Ar_r3_7.1) Al_r3_7 (g := (mkF m 45 #[.val (.ref r0), .val (.ref r1), .val (.ref r2), .val (.ref r3), .val (.int (0 : Int32))] [(.ref r3), (.int (0 : Int32))])) rfl rfl (hb hby d1_45) _ ?_
    rw [len_of S_r3_7 N_r3_7]
    refine XS.icmpNo X3.here hx rfl (hb hby d1_46) rfl (tlt (by decide : (0 : Int32) < (6 : Int32))).2.1 ?_
    refine XS.aloadN X3.here hx rfl (hb hby d1_49) rfl rfl ?_
    refine XS.iload X3.here hx rfl (hb hby d1_50) rfl ?_
    refine X3.daload hx (j := (0 : Int32)) (v := (.double x0)) (by rw [eq3]; exact Ar_r3_7.1) Al_r3_7 Ar_r3_7.2.2 hin_r3_7_0 hat_r3_7_0 (g := (mkF m 52 #[.val (.ref r0), .val (.ref r1), .val (.ref r2), .val (.ref r3), .val (.int (0 : Int32))] [(.int (0 : Int32)), (.ref r3)])) rfl rfl (hb hby d1_52) _ ?_
    refine XS.dconst0 X3.here hx rfl (hb hby d1_53) rfl ?_
    refine XS.dcmpS X3.here hx rfl (hb hby d1_54) rfl rfl ?_
    refine XS.ifNo X3.here hx rfl (hb hby d1_55) rfl ((if0 _ _).trans (flt hn_x0).1) ?_
    refine XS.aloadN X3.here hx rfl (hb hby d1_58) rfl rfl ?_
    refine XS.iload X3.here hx rfl (hb hby d1_59) rfl ?_
    refine X3.daload hx (j := (0 : Int32)) (v := (.double x0)) (by rw [eq3]; exact Ar_r3_7.1) Al_r3_7 Ar_r3_7.2.2 hin_r3_7_0 hat_r3_7_0 (g := (mkF m 61 #[.val (.ref r0), .val (.ref r1), .val (.ref r2), .val (.ref r3), .val (.int (0 : Int32))] [(.int (0 : Int32)), (.ref r3)])) rfl rfl (hb hby d1_61) _ ?_
    refine X3.ldc2DoubleC hx hown (mvT hZ (W 43 rfl)) (g := (mkF m 62 #[.val (.ref r0), .val (.ref r1), .val (.ref r2), .val (.ref r3), .val (.int (0 : Int32))] [(.double x0)])) rfl (hb hby d1_62) _ ?_
    refine XS.dcmpS X3.here hx rfl (hb hby d1_65) rfl rfl ?_
    refine XS.ifYes X3.here hx rfl (pc0 := 66) (pc' := 88) rfl (hb hby d1_66) rfl ((if0 _ _).trans (tlt (own_pinf hf_x0)).1) (by decide) (by decide) ?_
    refine XS.iinc X3.here hx rfl (hb hby d1_88) rfl (l' := #[.val (.ref r0), .val (.ref r1), .val (.ref r2), .val (.ref r3), .val (.int ((0 : Int32) + (1 : Int32)))]) rfl ?_
    show Steps p.tables e below (T3.setTop (mkF m 91 #[.val (.ref r0), .val (.ref r1), .val (.ref r2), .val (.ref r3), .val (.int ((0 : Int32) + (1 : Int32)))] [])) _
    rw [show ((0 : Int32) + (1 : Int32)) = (1 : Int32) from (by decide)]
    refine XS.goto X3.here hx rfl (pc0 := 91) (pc' := 42) rfl (hb hby d1_91) (by decide) (by decide) ?_
    refine XS.iload X3.here hx rfl (hb hby d1_42) rfl ?_
    refine XS.aloadN X3.here hx rfl (hb hby d1_44) rfl rfl ?_
    refine X3.arraylength hx (by rw [eq3]; exact Ar_r3_7.1) Al_r3_7 (g := (mkF m 45 #[.val (.ref r0), .val (.ref r1), .val (.ref r2), .val (.ref r3), .val (.int (1 : Int32))] [(.ref r3), (.int (1 : Int32))])) rfl rfl (hb hby d1_45) _ ?_
    rw [len_of S_r3_7 N_r3_7]
    refine XS.icmpNo X3.here hx rfl (hb hby d1_46) rfl (tlt (by decide : (1 : Int32) < (6 : Int32))).2.1 ?_
    refine XS.aloadN X3.here hx rfl (hb hby d1_49) rfl rfl ?_
    refine XS.iload X3.here hx rfl (hb hby d1_50) rfl ?_
    refine X3.daload hx (j := (1 : Int32)) (v := (.double x1)) (by rw [eq3]; exact Ar_r3_7.1) Al_r3_7 Ar_r3_7.2.2 hin_r3_7_1 hat_r3_7_1 (g := (mkF m 52 #[.val (.ref r0), .val (.ref r1), .val (.ref r2), .val (.ref r3), .val (.int (1 : Int32))] [(.int (1 : Int32)), (.ref r3)])) rfl rfl (hb hby d1_52) _ ?_
    refine XS.dconst0 X3.here hx rfl (hb hby d1_53) rfl ?_
    refine XS.dcmpS X3.here hx rfl (hb hby d1_54) rfl rfl ?_
    refine XS.ifNo X3.here hx rfl (hb hby d1_55) rfl ((if0 _ _).trans (flt hn_x1).1) ?_
    refine XS.aloadN X3.here hx rfl (hb hby d1_58) rfl rfl ?_
    refine XS.iload X3.here hx rfl (hb hby d1_59) rfl ?_
    refine X3.daload hx (j := (1 : Int32)) (v := (.double x1)) (by rw [eq3]; exact Ar_r3_7.1) Al_r3_7 Ar_r3_7.2.2 hin_r3_7_1 hat_r3_7_1 (g := (mkF m 61 #[.val (.ref r0), .val (.ref r1), .val (.ref r2), .val (.ref r3), .val (.int (1 : Int32))] [(.int (1 : Int32)), (.ref r3)])) rfl rfl (hb hby d1_61) _ ?_
    refine X3.ldc2DoubleC hx hown (mvT hZ (W 43 rfl)) (g := (mkF m 62 #[.val (.ref r0), .val (.ref r1), .val (.ref r2), .val (.ref r3), .val (.int (1 : Int32))] [(.double x1)])) rfl (hb hby d1_62) _ ?_
    refine XS.dcmpS X3.here hx rfl (hb hby d1_65) rfl rfl ?_
    refine XS.ifYes X3.here hx rfl (pc0 := 66) (pc' := 88) rfl (hb hby d1_66) rfl ((if0 _ _).trans (tlt (own_pinf hf_x1)).1) (by decide) (by decide) ?_
    refine XS.iinc X3.here hx rfl (hb hby d1_88) rfl (l' := #[.val (.ref r0), .val (.ref r1), .val (.ref r2), .val (.ref r3), .val (.int ((1 : Int32) + (1 : Int32)))]) rfl ?_
    show Steps p.tables e below (T3.setTop (mkF m 91 #[.val (.ref r0), .val (.ref r1), .val (.ref r2), .val (.ref r3), .val (.int ((1 : Int32) + (1 : Int32)))] [])) _
    rw [show ((1 : Int32) + (1 : Int32)) = (2 : Int32) from (by decide)]
    refine XS.goto X3.here hx rfl (pc0 := 91) (pc' := 42) rfl (hb hby d1_91) (by decide) (by decide) ?_
    refine XS.iload X3.here hx rfl (hb hby d1_42) rfl ?_
    refine XS.aloadN X3.here hx rfl (hb hby d1_44) rfl rfl ?_
    refine X3.arraylength hx (by rw [eq3]; exact Ar_r3_7.1) Al_r3_7 (g := (mkF m 45 #[.val (.ref r0), .val (.ref r1), .val (.ref r2), .val (.ref r3), .val (.int (2 : Int32))] [(.ref r3), (.int (2 : Int32))])) rfl rfl (hb hby d1_45) _ ?_
    rw [len_of S_r3_7 N_r3_7]
    refine XS.icmpNo X3.here hx rfl (hb hby d1_46) rfl (tlt (by decide : (2 : Int32) < (6 : Int32))).2.1 ?_
    refine XS.aloadN X3.here hx rfl (hb hby d1_49) rfl rfl ?_
    refine XS.iload X3.here hx rfl (hb hby d1_50) rfl ?_
    refine X3.daload hx (j := (2 : Int32)) (v := (.double x2)) (by rw [eq3]; exact Ar_r3_7.1) Al_r3_7 Ar_r3_7.2.2 hin_r3_7_2 hat_r3_7_2 (g := (mkF m 52 #[.val (.ref r0), .val (.ref r1), .val (.ref r2), .val (.ref r3), .val (.int (2 : Int32))] [(.int (2 : Int32)), (.ref r3)])) rfl rfl (hb hby d1_52) _ ?_
    refine XS.dconst0 X3.here hx rfl (hb hby d1_53) rfl ?_
    refine XS.dcmpS X3.here hx rfl (hb hby d1_54) rfl rfl ?_
    refine XS.ifNo X3.here hx rfl (hb hby d1_55) rfl ((if0 _ _).trans (flt hn_x2).1) ?_
    refine XS.aloadN X3.here hx rfl (hb hby d1_58) rfl rfl ?_
    refine XS.iload X3.here hx rfl (hb hby d1_59) rfl ?_
    refine X3.daload hx (j := (2 : Int32)) (v := (.double x2)) (by rw [eq3]; exact Ar_r3_7.1) Al_r3_7 Ar_r3_7.2.2 hin_r3_7_2 hat_r3_7_2 (g := (mkF m 61 #[.val (.ref r0), .val (.ref r1), .val (.ref r2), .val (.ref r3), .val (.int (2 : Int32))] [(.int (2 : Int32)), (.ref r3)])) rfl rfl (hb hby d1_61) _ ?_
    refine X3.ldc2DoubleC hx hown (mvT hZ (W 43 rfl)) (g := (mkF m 62 #[.val (.ref r0), .val (.ref r1), .val (.ref r2), .val (.ref r3), .val (.int (2 : Int32))] [(.double x2)])) rfl (hb hby d1_62) _ ?_
    refine XS.dcmpS X3.here hx rfl (hb hby d1_65) rfl rfl ?_
    refine XS.ifYes X3.here hx rfl (pc0 := 66) (pc' := 88) rfl (hb hby d1_66) rfl ((if0 _ _).trans (tlt (own_pinf hf_x2)).1) (by decide) (by decide) ?_
    refine XS.iinc X3.here hx rfl (hb hby d1_88) rfl (l' := #[.val (.ref r0), .val (.ref r1), .val (.ref r2), .val (.ref r3), .val (.int ((2 : Int32) + (1 : Int32)))]) rfl ?_
    show Steps p.tables e below (T3.setTop (mkF m 91 #[.val (.ref r0), .val (.ref r1), .val (.ref r2), .val (.ref r3), .val (.int ((2 : Int32) + (1 : Int32)))] [])) _
    rw [show ((2 : Int32) + (1 : Int32)) = (3 : Int32) from (by decide)]
    refine XS.goto X3.here hx rfl (pc0 := 91) (pc' := 42) rfl (hb hby d1_91) (by decide) (by decide) ?_
    refine XS.iload X3.here hx rfl (hb hby d1_42) rfl ?_
    refine XS.aloadN X3.here hx rfl (hb hby d1_44) rfl rfl ?_
    refine X3.arraylength hx (by rw [eq3]; exact Ar_r3_7.1) Al_r3_7 (g := (mkF m 45 #[.val (.ref r0), .val (.ref r1), .val (.ref r2), .val (.ref r3), .val (.int (3 : Int32))] [(.ref r3), (.int (3 : Int32))])) rfl rfl (hb hby d1_45) _ ?_
    rw [len_of S_r3_7 N_r3_7]
    refine XS.icmpNo X3.here hx rfl (hb hby d1_46) rfl (tlt (by decide : (3 : Int32) < (6 : Int32))).2.1 ?_
    refine XS.aloadN X3.here hx rfl (hb hby d1_49) rfl rfl ?_
    refine XS.iload X3.here hx rfl (hb hby d1_50) rfl ?_
    refine X3.daload hx (j := (3 : Int32)) (v := (.double x3)) (by rw [eq3]; exact Ar_r3_7.1) Al_r3_7 Ar_r3_7.2.2 hin_r3_7_3 hat_r3_7_3 (g := (mkF m 52 #[.val (.ref r0), .val (.ref r1), .val (.ref r2), .val (.ref r3), .val (.int (3 : Int32))] [(.int (3 : Int32)), (.ref r3)])) rfl rfl (hb hby d1_52) _ ?_
    refine XS.dconst0 X3.here hx rfl (hb hby d1_53) rfl ?_
    refine XS.dcmpS X3.here hx rfl (hb hby d1_54) rfl rfl ?_
    refine XS.ifNo X3.here hx rfl (hb hby d1_55) rfl ((if0 _ _).trans (flt hn_x3).1) ?_
    refine XS.aloadN X3.here hx rfl (hb hby d1_58) rfl rfl ?_
    refine XS.iload X3.here hx rfl (hb hby d1_59) rfl ?_
    refine X3.daload hx (j := (3 : Int32)) (v := (.double x3)) (by rw [eq3]; exact Ar_r3_7.1) Al_r3_7 Ar_r3_7.2.2 hin_r3_7_3 hat_r3_7_3 (g := (mkF m 61 #[.val (.ref r0), .val (.ref r1), .val (.ref r2), .val (.ref r3), .val (.int (3 : Int32))] [(.int (3 : Int32)), (.ref r3)])) rfl rfl (hb hby d1_61) _ ?_
    refine X3.ldc2DoubleC hx hown (mvT hZ (W 43 rfl)) (g := (mkF m 62 #[.val (.ref r0), .val (.ref r1), .val (.ref r2), .val (.ref r3), .val (.int (3 : Int32))] [(.double x3)])) rfl (hb hby d1_62) _ ?_
    refine XS.dcmpS X3.here hx rfl (hb hby d1_65) rfl rfl ?_
    refine XS.ifYes X3.here hx rfl (pc0 := 66) (pc' := 88) rfl (hb hby d1_66) rfl ((if0 _ _).trans (tlt (own_pinf hf_x3)).1) (by decide) (by decide) ?_
    refine XS.iinc X3.here hx rfl (hb hby d1_88) rfl (l' := #[.val (.ref r0), .val (.ref r1), .val (.ref r2), .val (.ref r3), .val (.int ((3 : Int32) + (1 : Int32)))]) rfl ?_
    show Steps p.tables e below (T3.setTop (mkF m 91 #[.val (.ref r0), .val (.ref r1), .val (.ref r2), .val (.ref r3), .val (.int ((3 : Int32) + (1 : Int32)))] [])) _
    rw [show ((3 : Int32) + (1 : Int32)) = (4 : Int32) from (by decide)]
    refine XS.goto X3.here hx rfl (pc0 := 91) (pc' := 42) rfl (hb hby d1_91) (by decide) (by decide) ?_
    refine XS.iload X3.here hx rfl (hb hby d1_42) rfl ?_
    refine XS.aloadN X3.here hx rfl (hb hby d1_44) rfl rfl ?_
    refine X3.arraylength hx (by rw [eq3]; exact Ar_r3_7.1) Al_r3_7 (g := (mkF m 45 #[.val (.ref r0), .val (.ref r1), .val (.ref r2), .val (.ref r3), .val (.int (4 : Int32))] [(.ref r3), (.int (4 : Int32))])) rfl rfl (hb hby d1_45) _ ?_
    rw [len_of S_r3_7 N_r3_7]
    refine XS.icmpNo X3.here hx rfl (hb hby d1_46) rfl (tlt (by decide : (4 : Int32) < (6 : Int32))).2.1 ?_
    refine XS.aloadN X3.here hx rfl (hb hby d1_49) rfl rfl ?_
    refine XS.iload X3.here hx rfl (hb hby d1_50) rfl ?_
    refine X3.daload hx (j := (4 : Int32)) (v := (.double x4)) (by rw [eq3]; exact Ar_r3_7.1) Al_r3_7 Ar_r3_7.2.2 hin_r3_7_4 hat_r3_7_4 (g := (mkF m 52 #[.val (.ref r0), .val (.ref r1), .val (.ref r2), .val (.ref r3), .val (.int (4 : Int32))] [(.int (4 : Int32)), (.ref r3)])) rfl rfl (hb hby d1_52) _ ?_
    refine XS.dconst0 X3.here hx rfl (hb hby d1_53) rfl ?_
    refine XS.dcmpS X3.here hx rfl (hb hby d1_54) rfl rfl ?_
    refine XS.ifNo X3.here hx rfl (hb hby d1_55) rfl ((if0 _ _).trans (flt hn_x4).1) ?_
    refine XS.aloadN X3.here hx rfl (hb hby d1_58) rfl rfl ?_
    refine XS.iload X3.here hx rfl (hb hby d1_59) rfl ?_
    refine X3.daload hx (j := (4 : Int32)) (v := (.double x4)) (by rw [eq3]; exact Ar_r3_7.1) Al_r3_7 Ar_r3_7.2.2 hin_r3_7_4 hat_r3_7_4 (g := (mkF m 61 #[.val (.ref r0), .val (.ref r1), .val (.ref r2), .val (.ref r3), .val (.int (4 : Int32))] [(.int (4 : Int32)), (.ref r3)])) rfl rfl (hb hby d1_61) _ ?_
    refine X3.ldc2DoubleC hx hown (mvT hZ (W 43 rfl)) (g := (mkF m 62 #[.val (.ref r0), .val (.ref r1), .val (.ref r2), .val (.ref r3), .val (.int (4 : Int32))] [(.double x4)])) rfl (hb hby d1_62) _ ?_
    refine XS.dcmpS X3.here hx rfl (hb hby d1_65) rfl rfl ?_
    refine XS.ifYes X3.here hx rfl (pc0 := 66) (pc' := 88) rfl (hb hby d1_66) rfl ((if0 _ _).trans (tlt (own_pinf hf_x4)).1) (by decide) (by decide) ?_
    refine XS.iinc X3.here hx rfl (hb hby d1_88) rfl (l' := #[.val (.ref r0), .val (.ref r1), .val (.ref r2), .val (.ref r3), .val (.int ((4 : Int32) + (1 : Int32)))]) rfl ?_
    show Steps p.tables e below (T3.setTop (mkF m 91 #[.val (.ref r0), .val (.ref r1), .val (.ref r2), .val (.ref r3), .val (.int ((4 : Int32) + (1 : Int32)))] [])) _
    rw [show ((4 : Int32) + (1 : Int32)) = (5 : Int32) from (by decide)]
    refine XS.goto X3.here hx rfl (pc0 := 91) (pc' := 42) rfl (hb hby d1_91) (by decide) (by decide) ?_
    refine XS.iload X3.here hx rfl (hb hby d1_42) rfl ?_
    refine XS.aloadN X3.here hx rfl (hb hby d1_44) rfl rfl ?_
    refine X3.arraylength hx (by rw [eq3]; exact Ar_r3_7.1) Al_r3_7 (g := (mkF m 45 #[.val (.ref r0), .val (.ref r1), .val (.ref r2), .val (.ref r3), .val (.int (5 : Int32))] [(.ref r3), (.int (5 : Int32))])) rfl rfl (hb hby d1_45) _ ?_
    rw [len_of S_r3_7 N_r3_7]
    refine XS.icmpNo X3.here hx rfl (hb hby d1_46) rfl (tlt (by decide : (5 : Int32) < (6 : Int32))).2.1 ?_
    refine XS.aloadN X3.here hx rfl (hb hby d1_49) rfl rfl ?_
    refine XS.iload X3.here hx rfl (hb hby d1_50) rfl ?_
    refine X3.daload hx (j := (5 : Int32)) (v := (.double x5)) (by rw [eq3]; exact Ar_r3_7.1) Al_r3_7 Ar_r3_7.2.2 hin_r3_7_5 hat_r3_7_5 (g := (mkF m 52 #[.val (.ref r0), .val (.ref r1), .val (.ref r2), .val (.ref r3), .val (.int (5 : Int32))] [(.int (5 : Int32)), (.ref r3)])) rfl rfl (hb hby d1_52) _ ?_
    refine XS.dconst0 X3.here hx rfl (hb hby d1_53) rfl ?_
    refine XS.dcmpS X3.here hx rfl (hb hby d1_54) rfl rfl ?_
    refine XS.ifNo X3.here hx rfl (hb hby d1_55) rfl ((if0 _ _).trans (flt hn_x5).1) ?_
    refine XS.aloadN X3.here hx rfl (hb hby d1_58) rfl rfl ?_
    refine XS.iload X3.here hx rfl (hb hby d1_59) rfl ?_
    refine X3.daload hx (j := (5 : Int32)) (v := (.double x5)) (by rw [eq3]; exact Ar_r3_7.1) Al_r3_7 Ar_r3_7.2.2 hin_r3_7_5 hat_r3_7_5 (g := (mkF m 61 #[.val (.ref r0), .val (.ref r1), .val (.ref r2), .val (.ref r3), .val (.int (5 : Int32))] [(.int (5 : Int32)), (.ref r3)])) rfl rfl (hb hby d1_61) _ ?_
    refine X3.ldc2DoubleC hx hown (mvT hZ (W 43 rfl)) (g := (mkF m 62 #[.val (.ref r0), .val (.ref r1), .val (.ref r2), .val (.ref r3), .val (.int (5 : Int32))] [(.double x5)])) rfl (hb hby d1_62) _ ?_
    refine XS.dcmpS X3.here hx rfl (hb hby d1_65) rfl rfl ?_
    refine XS.ifYes X3.here hx rfl (pc0 := 66) (pc' := 88) rfl (hb hby d1_66) rfl ((if0 _ _).trans (tlt (own_pinf hf_x5)).1) (by decide) (by decide) ?_
    refine XS.iinc X3.here hx rfl (hb hby d1_88) rfl (l' := #[.val (.ref r0), .val (.ref r1), .val (.ref r2), .val (.ref r3), .val (.int ((5 : Int32) + (1 : Int32)))]) rfl ?_
    show Steps p.tables e below (T3.setTop (mkF m 91 #[.val (.ref r0), .val (.ref r1), .val (.ref r2), .val (.ref r3), .val (.int ((5 : Int32) + (1 : Int32)))] [])) _
    rw [show ((5 : Int32) + (1 : Int32)) = (6 : Int32) from (by decide)]
    refine XS.goto X3.here hx rfl (pc0 := 91) (pc' := 42) rfl (hb hby d1_91) (by decide) (by decide) ?_
    refine XS.iload X3.here hx rfl (hb hby d1_42) rfl ?_
    refine XS.aloadN X3.here hx rfl (hb hby d1_44) rfl rfl ?_
    refine X3.arraylength hx (by rw [eq3]; exact Ar_r3_7.1) Al_r3_7 (g := (mkF m 45 #[.val (.ref r0), .val (.ref r1), .val (.ref r2), .val (.ref r3), .val (.int (6 : Int32))] [(.ref r3), (.int (6 : Int32))])) rfl rfl (hb hby d1_45) _ ?_
    rw [len_of S_r3_7 N_r3_7]
    refine XS.icmpYes X3.here hx rfl (pc0 := 46) (pc' := 94) rfl (hb hby d1_46) rfl (flt (by decide : ¬ ((6 : Int32) < (6 : Int32)))).2.1 (by decide) (by decide) ?_
    refine XS.aloadN X3.here hx rfl (hb hby d1_94) rfl rfl ?_
    refine XS.aloadN X3.here hx rfl (hb hby d1_95) rfl rfl ?_
    refine st11 _ ?_
    refine st12 _ ?_
    refine st15 _ ?_
    refine XS.aloadN X15.here hx rfl (hb hby d1_105) rfl rfl ?_
    refine XS.aloadN X15.here hx rfl (hb hby d1_106) rfl rfl ?_
    refine st20 _ ?_
    refine st21 _ ?_
    refine st24 _ ?_
    refine XS.aloadN X24.here hx rfl (hb hby d1_116) rfl rfl ?_
    refine XS.aloadN X24.here hx rfl (hb hby d1_117) rfl rfl ?_
    refine st29 _ ?_
    refine st30 _ ?_
    refine st33 _ ?_
    show Steps p.tables e below (T33.setTop (mkF m 127 #[.val (.ref r0), .val (.ref r1), .val (.ref r2), .val (.ref r3), .val (.int (6 : Int32))] [])) _
    exact X33.returnOut hx Bd.returns (hb hby d1_127) hr
  · show Q_in_23 Z r0 k_r2 k_r3 x0 x1 x2 x3 x4 x5 h0 n0 _ T33.heap _
    rw [e33]
    exact ⟨rfl, N33, KK34, E_r0_35, b20, b29, Fw24_36, Fw33, B20_37, V_b20_38, V_b29_39⟩
theorem pd_9 : parseMethodDescriptor "([I[I[D)V" = some ⟨[(.array .int), (.array .int), (.array .double)], none⟩ := by decide +kernel
theorem pd_10 : parseMethodDescriptor "(Lcom/example/beliefwire/beliefwire/model/Factor;)[D" = some ⟨[(.object "com/example/beliefwire/beliefwire/model/Factor")], some (.array .double)⟩ := by decide +kernel
theorem pn_4 : plainName "com/example/beliefwire/beliefwire/io/NoisyMaxLeakPinLaw" = true := by first | (simp [plainName, overriddenIn]; done) | decide +kernel
theorem ef_rm0 (m : MethodId) (p0 : Int32) (q1 : Int64) (q2 : Int64) (q3 : Int64) : entryFrame m #[(.int p0), (.long q1), (.long q2), (.long q3)] maxLocals = mkF m 0 #[.val (.int p0), .val (.long q1), .second, .val (.long q2), .second, .val (.long q3), .second, .unset, .unset, .unset, .unset, .unset, .unset, .unset, .unset, .unset, .unset, .unset] [] := by first | (simp [entryFrame, mkF, argsToLocals, Value.category, maxLocals]; done) | rfl
def Q0 (Z : State) (p0 : Int32) (h0 : Heap) (n0 : Nat) (v : Option Value) (h : Heap) (L : List Loc) : Prop := v = some (.int 1) ∧ Fr n0 L
set_option maxRecDepth 65536 in
set_option maxHeartbeats 40000000 in
theorem rm0 (l : Launch) (Z : State) (a0 : Array Value) (hw : ∀ d ∈ tables_1, d.before a0 Z = true) (ws : List Jvm.Cond) (p0 : Int32) (q1 : Int64) (q2 : Int64) (q3 : Int64) (h0 : Heap) (n0 : Nat) (Z0 : n0 ≤ h0.size) :
    MetFree l x (head1 (Jvm.Cond.code x code maxLocals ret :: ws) room_1) (fun a U => a = #[(.int p0), (.long q1), (.long q2), (.long q3)] ∧ Z.Warmed39 U.vm ∧ U.heap = h0) (fun _ _ _ _ _ => True) (fun _ U o U' => ∃ v L, o = .returned v ∧ Q0 Z p0 h0 n0 v U'.heap L ∧ FrameEnd U o U' L room_1.cells room_1.slots) := by
  refine MetFree.of_bodySF (plainFor_of_name pn_4) hisR ?_
  intro p e s m args below meth c s₁ Bd hml0 hP hK
  obtain ⟨rfl, hZ, hh⟩ := hP
  have hx := Bd.exec
  have hby := Bd.bytes
  have hml : c.maxLocals = 18 := hml0
  have hown : s.vm.findClass "com/example/beliefwire/beliefwire/io/NoisyMaxLeakPinLaw" = some m.cls := findClass_of_methodNamed Bd.named
  have hnm := (name_of_methodNamed Bd.named Bd.method).1
  have X0 : Stand p l e room_1 s m #[(.int p0), (.long q1), (.long q2), (.long q3)] below meth c s₁ [] 0 0 := Stand.of_body Bd
  have e0 : s₁.heap = h0 := by rw [← hh, Bd.state]; rfl
  have N0 := Fr.nil n0
  have W := @own_W a0 Z hw
  have pre0 : ∀ t, Steps p.tables e below (s₁.setTop (mkF m 0 #[.val (.int p0), .val (.long q1), .second, .val (.long q2), .second, .val (.long q3), .second, .unset, .unset, .unset, .unset, .unset, .unset, .unset, .unset, .unset, .unset, .unset] [])) t → Steps p.tables e below (s₁.setTop (entryFrame m #[(.int p0), (.long q1), (.long q2), (.long q3)] maxLocals)) t := fun t k => castTop (ef_rm0 m p0 q1 q2 q3) k
  obtain ⟨T1, h1, k1, X1, e1, E1, A1, B1, st1⟩ := newPE X0 hx hZ (W 1 rfl) e0 (g := (mkF m 24 #[.val (.int p0), .val (.long q1), .second, .val (.long q2), .second, .val (.long q3), .second, .val (.int (p0 &&& (2147483647 : Int32))), .val (.int ((1 : Int32) + ((p0 &&& (2147483647 : Int32)) % (3 : Int32)))), .val (.int (((p0 &&& (2147483647 : Int32)) / (3 : Int32)) % (3 : Int32))), .unset, .unset, .unset, .unset, .unset, .unset, .unset, .unset] [(.int (6 : Int32))])) rfl (hb hby at_24) rfl (by decide) (cap := 6) (by decide) (by decide) (by decide) (by decide) (ad := "[D") (by decide)
  obtain ⟨b1, gg1⟩ : ∃ z, z = h0.size := ⟨_, rfl⟩
  rw [← gg1] at A1 B1 st1
  have g_b1 : n0 ≤ b1 := Nat.le_trans Z0 (Nat.le_of_eq gg1.symm)
  have sz_b1 : h0.size ≤ b1 := Nat.le_trans (Nat.le_refl h0.size) (Nat.le_of_eq gg1.symm)
  have V_b1 : Arv Z h1 b1 k1 .double (6 : Int32) [(.double (0 : UInt64)), (.double (0 : UInt64)), (.double (0 : UInt64)), (.double (0 : UInt64)), (.double (0 : UInt64)), (.double (0 : UInt64))] (.double (0 : UInt64)) := (Arv.new A1 (by decide)).pad (pad_rep [] (.double (0 : UInt64)) 6)
  obtain ⟨cl_b1_34_2, Ar_b1_34_2, q_b1_34_2, S_b1_34_2, N_b1_34_2, H_b1_34_2, G_b1_34_2⟩ := id V_b1
  have hin_b1_34_2 : ¬ ((0 : Int32) < 0 ∨ cl_b1_34_2.slots.size ≤ ((0 : Int32)).toNatClampNeg) := inb_of S_b1_34_2 ⟨by decide, by decide⟩
  obtain ⟨T3, h3, X3, e3, W3, st3⟩ := stD X1 hx hZ e1 Ar_b1_34_2 (j := (0 : Int32)) hin_b1_34_2 (g := (mkF m 34 #[.val (.int p0), .val (.long q1), .second, .val (.long q2), .second, .val (.long q3), .second, .val (.int (p0 &&& (2147483647 : Int32))), .val (.int ((1 : Int32) + ((p0 &&& (2147483647 : Int32)) % (3 : Int32)))), .val (.int (((p0 &&& (2147483647 : Int32)) / (3 : Int32)) % (3 : Int32))), .unset, .unset, .unset, .unset, .unset, .unset, .unset, .unset] [(.double (own_v q1)), (.int (0 : Int32)), (.ref b1), (.ref b1)])) rfl rfl (hb hby at_34)
  have V_b1_3 := Arv.set Ar_b1_34_2 q_b1_34_2 S_b1_34_2 N_b1_34_2 H_b1_34_2 G_b1_34_2 rfl W3 0 rfl (Nat.le_of_ble_eq_true rfl)
  have N3 := Fr.snoc X3 N0 g_b1
  obtain ⟨LL3, X3, N3⟩ := own_hide X3 N3
  obtain ⟨cl_b1_46_4, Ar_b1_46_4, q_b1_46_4, S_b1_46_4, N_b1_46_4, H_b1_46_4, G_b1_46_4⟩ := id V_b1_3
  have hin_b1_46_4 : ¬ ((1 : Int32) < 0 ∨ cl_b1_46_4.slots.size ≤ ((1 : Int32)).toNatClampNeg) := inb_of S_b1_46_4 ⟨by decide, by decide⟩
  obtain ⟨T5, h5, X5, e5, W5, st5⟩ := stD X3 hx hZ e3 Ar_b1_46_4 (j := (1 : Int32)) hin_b1_46_4 (g := (mkF m 46 #[.val (.int p0), .val (.long q1), .second, .val (.long q2), .second, .val (.long q3), .second, .val (.int (p0 &&& (2147483647 : Int32))), .val (.int ((1 : Int32) + ((p0 &&& (2147483647 : Int32)) % (3 : Int32)))), .val (.int (((p0 &&& (2147483647 : Int32)) / (3 : Int32)) % (3 : Int32))), .unset, .unset, .unset, .unset, .unset, .unset, .unset, .unset] [(.double (own_v (own_us q1 32))), (.int (1 : Int32)), (.ref b1), (.ref b1)])) rfl rfl (hb hby at_46)
  have V_b1_5 := Arv.set Ar_b1_46_4 q_b1_46_4 S_b1_46_4 N_b1_46_4 H_b1_46_4 G_b1_46_4 rfl W5 1 rfl (Nat.le_of_ble_eq_true rfl)
  have N5 := Fr.snoc X5 N3 g_b1
  obtain ⟨LL5, X5, N5⟩ := own_hide X5 N5
  obtain ⟨cl_b1_55_6, Ar_b1_55_6, q_b1_55_6, S_b1_55_6, N_b1_55_6, H_b1_55_6, G_b1_55_6⟩ := id V_b1_5
  have hin_b1_55_6 : ¬ ((2 : Int32) < 0 ∨ cl_b1_55_6.slots.size ≤ ((2 : Int32)).toNatClampNeg) := inb_of S_b1_55_6 ⟨by decide, by decide⟩
  obtain ⟨T7, h7, X7, e7, W7, st7⟩ := stD X5 hx hZ e5 Ar_b1_55_6 (j := (2 : Int32)) hin_b1_55_6 (g := (mkF m 55 #[.val (.int p0), .val (.long q1), .second, .val (.long q2), .second, .val (.long q3), .second, .val (.int (p0 &&& (2147483647 : Int32))), .val (.int ((1 : Int32) + ((p0 &&& (2147483647 : Int32)) % (3 : Int32)))), .val (.int (((p0 &&& (2147483647 : Int32)) / (3 : Int32)) % (3 : Int32))), .unset, .unset, .unset, .unset, .unset, .unset, .unset, .unset] [(.double (own_v q2)), (.int (2 : Int32)), (.ref b1), (.ref b1)])) rfl rfl (hb hby at_55)
  have V_b1_7 := Arv.set Ar_b1_55_6 q_b1_55_6 S_b1_55_6 N_b1_55_6 H_b1_55_6 G_b1_55_6 rfl W7 2 rfl (Nat.le_of_ble_eq_true rfl)
  have N7 := Fr.snoc X7 N5 g_b1
  obtain ⟨LL7, X7, N7⟩ := own_hide X7 N7
  obtain ⟨cl_b1_67_8, Ar_b1_67_8, q_b1_67_8, S_b1_67_8, N_b1_67_8, H_b1_67_8, G_b1_67_8⟩ := id V_b1_7
  have hin_b1_67_8 : ¬ ((3 : Int32) < 0 ∨ cl_b1_67_8.slots.size ≤ ((3 : Int32)).toNatClampNeg) := inb_of S_b1_67_8 ⟨by decide, by decide⟩
  obtain ⟨T9, h9, X9, e9, W9, st9⟩ := stD X7 hx hZ e7 Ar_b1_67_8 (j := (3 : Int32)) hin_b1_67_8 (g := (mkF m 67 #[.val (.int p0), .val (.long q1), .second, .val (.long q2), .second, .val (.long q3), .second, .val (.int (p0 &&& (2147483647 : Int32))), .val (.int ((1 : Int32) + ((p0 &&& (2147483647 : Int32)) % (3 : Int32)))), .val (.int (((p0 &&& (2147483647 : Int32)) / (3 : Int32)) % (3 : Int32))), .unset, .unset, .unset, .unset, .unset, .unset, .unset, .unset] [(.double (own_v (own_us q2 32))), (.int (3 : Int32)), (.ref b1), (.ref b1)])) rfl rfl (hb hby at_67)
  have V_b1_9 := Arv.set Ar_b1_67_8 q_b1_67_8 S_b1_67_8 N_b1_67_8 H_b1_67_8 G_b1_67_8 rfl W9 3 rfl (Nat.le_of_ble_eq_true rfl)
  have N9 := Fr.snoc X9 N7 g_b1
  obtain ⟨LL9, X9, N9⟩ := own_hide X9 N9
  obtain ⟨cl_b1_77_10, Ar_b1_77_10, q_b1_77_10, S_b1_77_10, N_b1_77_10, H_b1_77_10, G_b1_77_10⟩ := id V_b1_9
  have hin_b1_77_10 : ¬ ((4 : Int32) < 0 ∨ cl_b1_77_10.slots.size ≤ ((4 : Int32)).toNatClampNeg) := inb_of S_b1_77_10 ⟨by decide, by decide⟩
  obtain ⟨T11, h11, X11, e11, W11, st11⟩ := stD X9 hx hZ e9 Ar_b1_77_10 (j := (4 : Int32)) hin_b1_77_10 (g := (mkF m 77 #[.val (.int p0), .val (.long q1), .second, .val (.long q2), .second, .val (.long q3), .second, .val (.int (p0 &&& (2147483647 : Int32))), .val (.int ((1 : Int32) + ((p0 &&& (2147483647 : Int32)) % (3 : Int32)))), .val (.int (((p0 &&& (2147483647 : Int32)) / (3 : Int32)) % (3 : Int32))), .unset, .unset, .unset, .unset, .unset, .unset, .unset, .unset] [(.double (own_v q3)), (.int (4 : Int32)), (.ref b1), (.ref b1)])) rfl rfl (hb hby at_77)
  have V_b1_11 := Arv.set Ar_b1_77_10 q_b1_77_10 S_b1_77_10 N_b1_77_10 H_b1_77_10 G_b1_77_10 rfl W11 4 rfl (Nat.le_of_ble_eq_true rfl)
  have N11 := Fr.snoc X11 N9 g_b1
  obtain ⟨LL11, X11, N11⟩ := own_hide X11 N11
  obtain ⟨cl_b1_90_12, Ar_b1_90_12, q_b1_90_12, S_b1_90_12, N_b1_90_12, H_b1_90_12, G_b1_90_12⟩ := id V_b1_11
  have hin_b1_90_12 : ¬ ((5 : Int32) < 0 ∨ cl_b1_90_12.slots.size ≤ ((5 : Int32)).toNatClampNeg) := inb_of S_b1_90_12 ⟨by decide, by decide⟩
  obtain ⟨T13, h13, X13, e13, W13, st13⟩ := stD X11 hx hZ e11 Ar_b1_90_12 (j := (5 : Int32)) hin_b1_90_12 (g := (mkF m 90 #[.val (.int p0), .val (.long q1), .second, .val (.long q2), .second, .val (.long q3), .second, .val (.int (p0 &&& (2147483647 : Int32))), .val (.int ((1 : Int32) + ((p0 &&& (2147483647 : Int32)) % (3 : Int32)))), .val (.int (((p0 &&& (2147483647 : Int32)) / (3 : Int32)) % (3 : Int32))), .unset, .unset, .unset, .unset, .unset, .unset, .unset, .unset] [(.double (own_v (own_us q3 32))), (.int (5 : Int32)), (.ref b1), (.ref b1)])) rfl rfl (hb hby at_90)
  have V_b1_13 := Arv.set Ar_b1_90_12 q_b1_90_12 S_b1_90_12 N_b1_90_12 H_b1_90_12 G_b1_90_12 rfl W13 5 rfl (Nat.le_of_ble_eq_true rfl)
  have N13 := Fr.snoc X13 N11 g_b1
  obtain ⟨LL13, X13, N13⟩ := own_hide X13 N13
  have pre14 : ∀ t, Steps p.tables e below (T13.setTop (mkF m 93 #[.val (.int p0), .val (.long q1), .second, .val (.long q2), .second, .val (.long q3), .second, .val (.int (p0 &&& (2147483647 : Int32))), .val (.int ((1 : Int32) + ((p0 &&& (2147483647 : Int32)) % (3 : Int32)))), .val (.int (((p0 &&& (2147483647 : Int32)) / (3 : Int32)) % (3 : Int32))), .val (.ref b1), .unset, .unset, .unset, .unset, .unset, .unset, .unset] [])) t → Steps p.tables e below (s₁.setTop (entryFrame m #[(.int p0), (.long q1), (.long q2), (.long q3)] maxLocals)) t := by
    intro t kt
    refine pre0 _ ?_
    show Steps p.tables e below (s₁.setTop (mkF m 0 #[.val (.int p0), .val (.long q1), .second, .val (.long q2), .second, .val (.long q3), .second, .unset, .unset, .unset, .unset, .unset, .unset, .unset, .unset, .unset, .unset, .unset] [])) _
    refine XS.iloadN X0.here hx rfl (hb hby at_0) rfl ?_
    refine X0.ldcInt hx hown (mvT hZ (W 0 rfl)) (g := (mkF m 1 #[.val (.int p0), .val (.long q1), .second, .val (.long q2), .second, .val (.long q3), .second, .unset, .unset, .unset, .unset, .unset, .unset, .unset, .unset, .unset, .unset, .unset] [(.int p0)])) rfl (hb hby at_1) _ ?_
    refine XS.iand X0.here hx rfl (hb hby at_3) rfl ?_
    refine XS.istore X0.here hx rfl (hb hby at_4) rfl (l' := #[.val (.int p0), .val (.long q1), .second, .val (.long q2), .second, .val (.long q3), .second, .val (.int (p0 &&& (2147483647 : Int32))), .unset, .unset, .unset, .unset, .unset, .unset, .unset, .unset, .unset, .unset]) rfl ?_
    refine XS.iconst X0.here hx rfl (hb hby at_6) ?_
    refine XS.iload X0.here hx rfl (hb hby at_7) rfl ?_
    refine XS.iconst X0.here hx rfl (hb hby at_9) ?_
    refine Jvm.RoadKit.iremM (g := (mkF m 10 #[.val (.int p0), .val (.long q1), .second, .val (.long q2), .second, .val (.long q3), .second, .val (.int (p0 &&& (2147483647 : Int32))), .unset, .unset, .unset, .unset, .unset, .unset, .unset, .unset, .unset, .unset] [(.int (3 : Int32)), (.int (p0 &&& (2147483647 : Int32))), (.int (1 : Int32))])) X0 hx rfl (hb hby at_10) rfl (by decide) ?_
    refine XS.iadd X0.here hx rfl (hb hby at_11) rfl ?_
    refine XS.istore X0.here hx rfl (hb hby at_12) rfl (l' := #[.val (.int p0), .val (.long q1), .second, .val (.long q2), .second, .val (.long q3), .second, .val (.int (p0 &&& (2147483647 : Int32))), .val (.int ((1 : Int32) + ((p0 &&& (2147483647 : Int32)) % (3 : Int32)))), .unset, .unset, .unset, .unset, .unset, .unset, .unset, .unset, .unset]) rfl ?_
    refine XS.iload X0.here hx rfl (hb hby at_14) rfl ?_
    refine XS.iconst X0.here hx rfl (hb hby at_16) ?_
    refine XS.idiv X0.here hx rfl (hb hby at_17) rfl (by decide) ?_
    refine XS.iconst X0.here hx rfl (hb hby at_18) ?_
    refine Jvm.RoadKit.iremM (g := (mkF m 19 #[.val (.int p0), .val (.long q1), .second, .val (.long q2), .second, .val (.long q3), .second, .val (.int (p0 &&& (2147483647 : Int32))), .val (.int ((1 : Int32) + ((p0 &&& (2147483647 : Int32)) % (3 : Int32)))), .unset, .unset, .unset, .unset, .unset, .unset, .unset, .unset, .unset] [(.int (3 : Int32)), (.int ((p0 &&& (2147483647 : Int32)) / (3 : Int32)))])) X0 hx rfl (hb hby at_19) rfl (by decide) ?_
    refine XS.istore X0.here hx rfl (hb hby at_20) rfl (l' := #[.val (.int p0), .val (.long q1), .second, .val (.long q2), .second, .val (.long q3), .second, .val (.int (p0 &&& (2147483647 : Int32))), .val (.int ((1 : Int32) + ((p0 &&& (2147483647 : Int32)) % (3 : Int32)))), .val (.int (((p0 &&& (2147483647 : Int32)) / (3 : Int32)) % (3 : Int32))), .unset, .unset, .unset, .unset, .unset, .unset, .unset, .unset]) rfl ?_
    refine XS.bipush X0.here hx rfl (hb hby at_22) ?_
    refine st1 _ ?_
    refine XS.dup X1.here hx rfl (hb hby at_26) rfl rfl ?_
    refine XS.iconst X1.here hx rfl (hb hby at_27) ?_
    refine XS.lloadN X1.here hx rfl (hb hby at_28) rfl ?_
    refine X1.ldc2Long hx hown (mvT hZ (W 2 rfl)) (g := (mkF m 29 #[.val (.int p0), .val (.long q1), .second, .val (.long q2), .second, .val (.long q3), .second, .val (.int (p0 &&& (2147483647 : Int32))), .val (.int ((1 : Int32) + ((p0 &&& (2147483647 : Int32)) % (3 : Int32)))), .val (.int (((p0 &&& (2147483647 : Int32)) / (3 : Int32)) % (3 : Int32))), .unset, .unset, .unset, .unset, .unset, .unset, .unset, .unset] [(.long q1), (.int (0 : Int32)), (.ref b1), (.ref b1)])) rfl (hb hby at_29) _ ?_
    refine XS.land X1.here hx rfl (hb hby at_32) rfl ?_
    refine XS.l2dS X1.here hx rfl (hb hby at_33) rfl rfl ?_
    refine st3 _ ?_
    refine XS.dup X3.here hx rfl (hb hby at_35) rfl rfl ?_
    refine XS.iconst X3.here hx rfl (hb hby at_36) ?_
    refine XS.lloadN X3.here hx rfl (hb hby at_37) rfl ?_
    refine XS.bipush X3.here hx rfl (hb hby at_38) ?_
    refine XS.lushr X3.here hx rfl (hb hby at_40) rfl ?_
    refine X3.ldc2Long hx hown (mvT hZ (W 2 rfl)) (g := (mkF m 41 #[.val (.int p0), .val (.long q1), .second, .val (.long q2), .second, .val (.long q3), .second, .val (.int (p0 &&& (2147483647 : Int32))), .val (.int ((1 : Int32) + ((p0 &&& (2147483647 : Int32)) % (3 : Int32)))), .val (.int (((p0 &&& (2147483647 : Int32)) / (3 : Int32)) % (3 : Int32))), .unset, .unset, .unset, .unset, .unset, .unset, .unset, .unset] [(.long (own_us q1 32)), (.int (1 : Int32)), (.ref b1), (.ref b1)])) rfl (hb hby at_41) _ ?_
    refine XS.land X3.here hx rfl (hb hby at_44) rfl ?_
    refine XS.l2dS X3.here hx rfl (hb hby at_45) rfl rfl ?_
    refine st5 _ ?_
    refine XS.dup X5.here hx rfl (hb hby at_47) rfl rfl ?_
    refine XS.iconst X5.here hx rfl (hb hby at_48) ?_
    refine XS.lloadN X5.here hx rfl (hb hby at_49) rfl ?_
    refine X5.ldc2Long hx hown (mvT hZ (W 2 rfl)) (g := (mkF m 50 #[.val (.int p0), .val (.long q1), .second, .val (.long q2), .second, .val (.long q3), .second, .val (.int (p0 &&& (2147483647 : Int32))), .val (.int ((1 : Int32) + ((p0 &&& (2147483647 : Int32)) % (3 : Int32)))), .val (.int (((p0 &&& (2147483647 : Int32)) / (3 : Int32)) % (3 : Int32))), .unset, .unset, .unset, .unset, .unset, .unset, .unset, .unset] [(.long q2), (.int (2 : Int32)), (.ref b1), (.ref b1)])) rfl (hb hby at_50) _ ?_
    refine XS.land X5.here hx rfl (hb hby at_53) rfl ?_
    refine XS.l2dS X5.here hx rfl (hb hby at_54) rfl rfl ?_
    refine st7 _ ?_
    refine XS.dup X7.here hx rfl (hb hby at_56) rfl rfl ?_
    refine XS.iconst X7.here hx rfl (hb hby at_57) ?_
    refine XS.lloadN X7.here hx rfl (hb hby at_58) rfl ?_
    refine XS.bipush X7.here hx rfl (hb hby at_59) ?_
    refine XS.lushr X7.here hx rfl (hb hby at_61) rfl ?_
    refine X7.ldc2Long hx hown (mvT hZ (W 2 rfl)) (g := (mkF m 62 #[.val (.int p0), .val (.long q1), .second, .val (.long q2), .second, .val (.long q3), .second, .val (.int (p0 &&& (2147483647 : Int32))), .val (.int ((1 : Int32) + ((p0 &&& (2147483647 : Int32)) % (3 : Int32)))), .val (.int (((p0 &&& (2147483647 : Int32)) / (3 : Int32)) % (3 : Int32))), .unset, .unset, .unset, .unset, .unset, .unset, .unset, .unset] [(.long (own_us q2 32)), (.int (3 : Int32)), (.ref b1), (.ref b1)])) rfl (hb hby at_62) _ ?_
    refine XS.land X7.here hx rfl (hb hby at_65) rfl ?_
    refine XS.l2dS X7.here hx rfl (hb hby at_66) rfl rfl ?_
    refine st9 _ ?_
    refine XS.dup X9.here hx rfl (hb hby at_68) rfl rfl ?_
    refine XS.iconst X9.here hx rfl (hb hby at_69) ?_
    refine XS.lload X9.here hx rfl (hb hby at_70) rfl ?_
    refine X9.ldc2Long hx hown (mvT hZ (W 2 rfl)) (g := (mkF m 72 #[.val (.int p0), .val (.long q1), .second, .val (.long q2), .second, .val (.long q3), .second, .val (.int (p0 &&& (2147483647 : Int32))), .val (.int ((1 : Int32) + ((p0 &&& (2147483647 : Int32)) % (3 : Int32)))), .val (.int (((p0 &&& (2147483647 : Int32)) / (3 : Int32)) % (3 : Int32))), .unset, .unset, .unset, .unset, .unset, .unset, .unset, .unset] [(.long q3), (.int (4 : Int32)), (.ref b1), (.ref b1)])) rfl (hb hby at_72) _ ?_
    refine XS.land X9.here hx rfl (hb hby at_75) rfl ?_
    refine XS.l2dS X9.here hx rfl (hb hby at_76) rfl rfl ?_
    refine st11 _ ?_
    refine XS.dup X11.here hx rfl (hb hby at_78) rfl rfl ?_
    refine XS.iconst X11.here hx rfl (hb hby at_79) ?_
    refine XS.lload X11.here hx rfl (hb hby at_80) rfl ?_
    refine XS.bipush X11.here hx rfl (hb hby at_82) ?_
    refine XS.lushr X11.here hx rfl (hb hby at_84) rfl ?_
    refine X11.ldc2Long hx hown (mvT hZ (W 2 rfl)) (g := (mkF m 85 #[.val (.int p0), .val (.long q1), .second, .val (.long q2), .second, .val (.long q3), .second, .val (.int (p0 &&& (2147483647 : Int32))), .val (.int ((1 : Int32) + ((p0 &&& (2147483647 : Int32)) % (3 : Int32)))), .val (.int (((p0 &&& (2147483647 : Int32)) / (3 : Int32)) % (3 : Int32))), .unset, .unset, .unset, .unset, .unset, .unset, .unset, .unset] [(.long (own_us q3 32)), (.int (5 : Int32)), (.ref b1), (.ref b1)])) rfl (hb hby at_85) _ ?_
    refine XS.land X11.here hx rfl (hb hby at_88) rfl ?_
    refine XS.l2dS X11.here hx rfl (hb hby at_89) rfl rfl ?_
    refine st13 _ ?_
    refine XS.astore X13.here hx rfl (hb hby at_91) rfl rfl (l' := #[.val (.int p0), .val (.long q1), .second, .val (.long q2), .second, .val (.long q3), .second, .val (.int (p0 &&& (2147483647 : Int32))), .val (.int ((1 : Int32) + ((p0 &&& (2147483647 : Int32)) % (3 : Int32)))), .val (.int (((p0 &&& (2147483647 : Int32)) / (3 : Int32)) % (3 : Int32))), .val (.ref b1), .unset, .unset, .unset, .unset, .unset, .unset, .unset]) rfl ?_
    show Steps p.tables e below (T13.setTop (mkF m 93 #[.val (.int p0), .val (.long q1), .second, .val (.long q2), .second, .val (.long q3), .second, .val (.int (p0 &&& (2147483647 : Int32))), .val (.int ((1 : Int32) + ((p0 &&& (2147483647 : Int32)) % (3 : Int32)))), .val (.int (((p0 &&& (2147483647 : Int32)) / (3 : Int32)) % (3 : Int32))), .val (.ref b1), .unset, .unset, .unset, .unset, .unset, .unset, .unset] [])) _
    exact kt
  rcases (own_nine p0).2 with hk | hk | hk
  · have Z15z : n0 ≤ h13.size := (Nat.le_trans (Nat.le_trans (Nat.le_trans (Nat.le_trans (Nat.le_trans (Nat.le_trans (Nat.le_trans Z0 E1.1) (Keep.of_wr W3).1) (Keep.of_wr W5).1) (Keep.of_wr W7).1) (Keep.of_wr W9).1) (Keep.of_wr W11).1) (Keep.of_wr W13).1)
    have hz16 : h0.size ≤ h13.size := (Nat.le_trans (Nat.le_trans (Nat.le_trans (Nat.le_trans (Nat.le_trans (Nat.le_trans (Nat.le_trans (Nat.le_refl h0.size) E1.1) (Keep.of_wr W3).1) (Keep.of_wr W5).1) (Keep.of_wr W7).1) (Keep.of_wr W9).1) (Keep.of_wr W11).1) (Keep.of_wr W13).1)
    obtain ⟨T17, h17, k17, X17, e17, E17, A17, B17, st17⟩ := newPE X13 hx hZ (W 3 rfl) e13 (g := (mkF m 99 #[.val (.int p0), .val (.long q1), .second, .val (.long q2), .second, .val (.long q3), .second, .val (.int (p0 &&& (2147483647 : Int32))), .val (.int ((1 : Int32) + ((p0 &&& (2147483647 : Int32)) % (3 : Int32)))), .val (.int (0 : Int32)), .val (.ref b1), .unset, .unset, .unset, .unset, .unset, .unset, .unset] [(.int (1 : Int32))])) rfl (hb hby at_99) rfl (by decide) (cap := 1) (by decide) (by decide) (by decide) (by decide) (ad := "[I") (by decide)
    obtain ⟨b17, gg17⟩ : ∃ z, z = h13.size := ⟨_, rfl⟩
    rw [← gg17] at A17 B17 st17
    have g_b17 : n0 ≤ b17 := Nat.le_trans Z15z (Nat.le_of_eq gg17.symm)
    have sz_b17 : h0.size ≤ b17 := Nat.le_trans hz16 (Nat.le_of_eq gg17.symm)
    have V_b17 : Arv Z h17 b17 k17 .int (1 : Int32) [(.int (0 : Int32))] (.int (0 : Int32)) := (Arv.new A17 (by decide)).pad (pad_rep [] (.int (0 : Int32)) 1)
    obtain ⟨cl_b17_104_18, Ar_b17_104_18, q_b17_104_18, S_b17_104_18, N_b17_104_18, H_b17_104_18, G_b17_104_18⟩ := id V_b17
    have hin_b17_104_18 : ¬ ((0 : Int32) < 0 ∨ cl_b17_104_18.slots.size ≤ ((0 : Int32)).toNatClampNeg) := inb_of S_b17_104_18 ⟨by decide, by decide⟩
    obtain ⟨T19, h19, X19, e19, W19, st19⟩ := stI X17 hx hZ e17 Ar_b17_104_18 (j := (0 : Int32)) hin_b17_104_18 (g := (mkF m 104 #[.val (.int p0), .val (.long q1), .second, .val (.long q2), .second, .val (.long q3), .second, .val (.int (p0 &&& (2147483647 : Int32))), .val (.int ((1 : Int32) + ((p0 &&& (2147483647 : Int32)) % (3 : Int32)))), .val (.int (0 : Int32)), .val (.ref b1), .unset, .unset, .unset, .unset, .unset, .unset, .unset] [(.int (4 : Int32)), (.int (0 : Int32)), (.ref b17), (.ref b17)])) rfl rfl (hb hby at_104)
    have V_b17_19 := Arv.set Ar_b17_104_18 q_b17_104_18 S_b17_104_18 N_b17_104_18 H_b17_104_18 G_b17_104_18 rfl W19 0 rfl (Nat.le_of_ble_eq_true rfl)
    have N19 := Fr.snoc X19 N13 g_b17
    obtain ⟨LL19, X19, N19⟩ := own_hide X19 N19
    have Z20z : n0 ≤ h19.size := (Nat.le_trans (Nat.le_trans Z15z E17.1) (Keep.of_wr W19).1)
    have hz21 : h0.size ≤ h19.size := (Nat.le_trans (Nat.le_trans hz16 E17.1) (Keep.of_wr W19).1)
    obtain ⟨T22, h22, k22, X22, e22, E22, A22, B22, st22⟩ := newPE X19 hx hZ (W 3 rfl) e19 (g := (mkF m 108 #[.val (.int p0), .val (.long q1), .second, .val (.long q2), .second, .val (.long q3), .second, .val (.int (p0 &&& (2147483647 : Int32))), .val (.int ((1 : Int32) + ((p0 &&& (2147483647 : Int32)) % (3 : Int32)))), .val (.int (0 : Int32)), .val (.ref b1), .val (.ref b17), .unset, .unset, .unset, .unset, .unset, .unset] [(.int (1 : Int32))])) rfl (hb hby at_108) rfl (by decide) (cap := 1) (by decide) (by decide) (by decide) (by decide) (ad := "[I") (by decide)
    obtain ⟨b22, gg22⟩ : ∃ z, z = h19.size := ⟨_, rfl⟩
    rw [← gg22] at A22 B22 st22
    have g_b22 : n0 ≤ b22 := Nat.le_trans Z20z (Nat.le_of_eq gg22.symm)
    have sz_b22 : h0.size ≤ b22 := Nat.le_trans hz21 (Nat.le_of_eq gg22.symm)
    have V_b22 : Arv Z h22 b22 k22 .int (1 : Int32) [(.int (0 : Int32))] (.int (0 : Int32)) := (Arv.new A22 (by decide)).pad (pad_rep [] (.int (0 : Int32)) 1)
    obtain ⟨cl_b22_114_23, Ar_b22_114_23, q_b22_114_23, S_b22_114_23, N_b22_114_23, H_b22_114_23, G_b22_114_23⟩ := id V_b22
    have hin_b22_114_23 : ¬ ((0 : Int32) < 0 ∨ cl_b22_114_23.slots.size ≤ ((0 : Int32)).toNatClampNeg) := inb_of S_b22_114_23 ⟨by decide, by decide⟩
    obtain ⟨T24, h24, X24, e24, W24, st24⟩ := stI X22 hx hZ e22 Ar_b22_114_23 (j := (0 : Int32)) hin_b22_114_23 (g := (mkF m 114 #[.val (.int p0), .val (.long q1), .second, .val (.long q2), .second, .val (.long q3), .second, .val (.int (p0 &&& (2147483647 : Int32))), .val (.int ((1 : Int32) + ((p0 &&& (2147483647 : Int32)) % (3 : Int32)))), .val (.int (0 : Int32)), .val (.ref b1), .val (.ref b17), .unset, .unset, .unset, .unset, .unset, .unset] [(.int ((1 : Int32) + ((p0 &&& (2147483647 : Int32)) % (3 : Int32)))), (.int (0 : Int32)), (.ref b22), (.ref b22)])) rfl rfl (hb hby at_114)
    have V_b22_24 := Arv.set Ar_b22_114_23 q_b22_114_23 S_b22_114_23 N_b22_114_23 H_b22_114_23 G_b22_114_23 rfl W24 0 rfl (Nat.le_of_ble_eq_true rfl)
    have N24 := Fr.snoc X24 N19 g_b22
    obtain ⟨LL24, X24, N24⟩ := own_hide X24 N24
    have pre25 : ∀ t, Steps p.tables e below (T24.setTop (mkF m 192 #[.val (.int p0), .val (.long q1), .second, .val (.long q2), .second, .val (.long q3), .second, .val (.int (p0 &&& (2147483647 : Int32))), .val (.int ((1 : Int32) + ((p0 &&& (2147483647 : Int32)) % (3 : Int32)))), .val (.int (0 : Int32)), .val (.ref b1), .val (.ref b17), .val (.ref b22), .unset, .unset, .unset, .unset, .unset] [])) t → Steps p.tables e below (s₁.setTop (entryFrame m #[(.int p0), (.long q1), (.long q2), (.long q3)] maxLocals)) t := by
      intro t kt
      refine pre14 _ ?_
      show Steps p.tables e below (T13.setTop (mkF m 93 #[.val (.int p0), .val (.long q1), .second, .val (.long q2), .second, .val (.long q3), .second, .val (.int (p0 &&& (2147483647 : Int32))), .val (.int ((1 : Int32) + ((p0 &&& (2147483647 : Int32)) % (3 : Int32)))), .val (.int (((p0 &&& (2147483647 : Int32)) / (3 : Int32)) % (3 : Int32))), .val (.ref b1), .unset, .unset, .unset, .unset, .unset, .unset, .unset] [])) _
      show Steps p.tables e below (T13.setTop (mkF m 93 #[.val (.int p0), .val (.long q1), .second, .val (.long q2), .second, .val (.long q3), .second, .val (.int (p0 &&& (2147483647 : Int32))), .val (.int ((1 : Int32) + ((p0 &&& (2147483647 : Int32)) % (3 : Int32)))), .val (.int (((p0 &&& (2147483647 : Int32)) / (3 : Int32)) % (3 : Int32))), .val (.ref b1), .unset, .unset, .unset, .unset, .unset, .unset, .unset] [])) _
      rw [show (((p0 &&& (2147483647 : Int32)) / (3 : Int32)) % (3 : Int32)) = (0 : Int32) from hk]
      refine XS.iload X13.here hx rfl (hb hby at_93) rfl ?_
      refine XS.ifNo X13.here hx rfl (hb hby at_95) rfl ((if0 _ _).trans (teq (by decide : (0 : Int32) = (0 : Int32))).2) ?_
      refine XS.iconst X13.here hx rfl (hb hby at_98) ?_
      refine st17 _ ?_
      refine XS.dup X17.here hx rfl (hb hby at_101) rfl rfl ?_
      refine XS.iconst X17.here hx rfl (hb hby at_102) ?_
      refine XS.iconst X17.here hx rfl (hb hby at_103) ?_
      refine st19 _ ?_
      refine XS.astore X19.here hx rfl (hb hby at_105) rfl rfl (l' := #[.val (.int p0), .val (.long q1), .second, .val (.long q2), .second, .val (.long q3), .second, .val (.int (p0 &&& (2147483647 : Int32))), .val (.int ((1 : Int32) + ((p0 &&& (2147483647 : Int32)) % (3 : Int32)))), .val (.int (0 : Int32)), .val (.ref b1), .val (.ref b17), .unset, .unset, .unset, .unset, .unset, .unset]) rfl ?_
      refine XS.iconst X19.here hx rfl (hb hby at_107) ?_
      refine st22 _ ?_
      refine XS.dup X22.here hx rfl (hb hby at_110) rfl rfl ?_
      refine XS.iconst X22.here hx rfl (hb hby at_111) ?_
      refine XS.iload X22.here hx rfl (hb hby at_112) rfl ?_
      refine st24 _ ?_
      refine XS.astore X24.here hx rfl (hb hby at_115) rfl rfl (l' := #[.val (.int p0), .val (.long q1), .second, .val (.long q2), .second, .val (.long q3), .second, .val (.int (p0 &&& (2147483647 : Int32))), .val (.int ((1 : Int32) + ((p0 &&& (2147483647 : Int32)) % (3 : Int32)))), .val (.int (0 : Int32)), .val (.ref b1), .val (.ref b17), .val (.ref b22), .unset, .unset, .unset, .unset, .unset]) rfl ?_
      refine XS.goto X24.here hx rfl (pc0 := 117) (pc' := 192) rfl (hb hby at_117) (by decide) (by decide) ?_
      show Steps p.tables e below (T24.setTop (mkF m 192 #[.val (.int p0), .val (.long q1), .second, .val (.long q2), .second, .val (.long q3), .second, .val (.int (p0 &&& (2147483647 : Int32))), .val (.int ((1 : Int32) + ((p0 &&& (2147483647 : Int32)) % (3 : Int32)))), .val (.int (0 : Int32)), .val (.ref b1), .val (.ref b17), .val (.ref b22), .unset, .unset, .unset, .unset, .unset] [])) _
      exact kt
    have Z26z : n0 ≤ h24.size := (Nat.le_trans (Nat.le_trans Z20z E22.1) (Keep.of_wr W24).1)
    have hz27 : h0.size ≤ h24.size := (Nat.le_trans (Nat.le_trans hz21 E22.1) (Keep.of_wr W24).1)
    rcases (own_nine p0).1 with hc | hc | hc
    · have Vc : Arv Z h24 b22 k22 .int (1 : Int32) [(.int (1 : Int32))] (.int (0 : Int32)) := by have q := V_b22_24; rw [hc] at q; exact q
      obtain ⟨T28, h28, k28, X28, e28, E28, A28, B28, st28⟩ := newPE X24 hx hZ (W 1 rfl) e24 (g := (mkF m 210 #[.val (.int p0), .val (.long q1), .second, .val (.long q2), .second, .val (.long q3), .second, .val (.int (p0 &&& (2147483647 : Int32))), .val (.int (1 : Int32)), .val (.int (0 : Int32)), .val (.ref b1), .val (.ref b17), .val (.ref b22), .val (.int (1 : Int32)), .unset, .unset, .unset, .unset] [(.int (1 : Int32))])) rfl (hb hby at_210) rfl (by decide) (cap := 1) (by decide) (by decide) (by decide) (by decide) (ad := "[D") (by decide)
      obtain ⟨b28, gg28⟩ : ∃ z, z = h24.size := ⟨_, rfl⟩
      rw [← gg28] at A28 B28 st28
      have g_b28 : n0 ≤ b28 := Nat.le_trans Z26z (Nat.le_of_eq gg28.symm)
      have sz_b28 : h0.size ≤ b28 := Nat.le_trans hz27 (Nat.le_of_eq gg28.symm)
      have V_b28 : Arv Z h28 b28 k28 .double (1 : Int32) [(.double (0 : UInt64))] (.double (0 : UInt64)) := (Arv.new A28 (by decide)).pad (pad_rep [] (.double (0 : UInt64)) 1)
      have ne_b1_b17 : b1 ≠ b17 := Nat.ne_of_lt (Nat.lt_of_lt_of_le (V_b1_13).lt (Nat.le_of_eq gg17.symm))
      have ne_b1_b22 : b1 ≠ b22 := Nat.ne_of_lt (Nat.lt_of_lt_of_le (Nat.lt_of_lt_of_le (Nat.lt_of_lt_of_le (V_b1_13).lt E17.1) (Keep.of_wr W19).1) (Nat.le_of_eq gg22.symm))
      have V_b1_13_29 := (((((V_b1_13.ext E17).other W19 ne_b1_b17).ext E22).other W24 ne_b1_b22).ext E28)
      obtain ⟨cl_b1_30, Ar_b1_30, q_b1_30, S_b1_30, N_b1_30, H_b1_30, G_b1_30⟩ := id V_b1_13_29
      have Al_b1_30 := State.isArrayOf_alike hZ.alike Ar_b1_30.2.1
      have hin_b1_30_0 : ¬ ((0 : Int32) < 0 ∨ cl_b1_30.slots.size ≤ ((0 : Int32)).toNatClampNeg) := inb_of S_b1_30 ⟨by decide, by decide⟩
      have hat_b1_30_0 : cl_b1_30.slots[((0 : Int32)).toNatClampNeg]? = some (.double (own_v q1)) := H_b1_30 _ (by rw [S_b1_30]; decide)
      obtain ⟨cl_b28_221_31, Ar_b28_221_31, q_b28_221_31, S_b28_221_31, N_b28_221_31, H_b28_221_31, G_b28_221_31⟩ := id V_b28
      have hin_b28_221_31 : ¬ ((0 : Int32) < 0 ∨ cl_b28_221_31.slots.size ≤ ((0 : Int32)).toNatClampNeg) := inb_of S_b28_221_31 ⟨by decide, by decide⟩
      obtain ⟨T32, h32, X32, e32, W32, st32⟩ := stD X28 hx hZ e28 Ar_b28_221_31 (j := (0 : Int32)) hin_b28_221_31 (g := (mkF m 221 #[.val (.int p0), .val (.long q1), .second, .val (.long q2), .second, .val (.long q3), .second, .val (.int (p0 &&& (2147483647 : Int32))), .val (.int (1 : Int32)), .val (.int (0 : Int32)), .val (.ref b1), .val (.ref b17), .val (.ref b22), .val (.int (1 : Int32)), .val (.ref b28), .unset, .unset, .unset] [(.double (own_v q1)), (.int (0 : Int32)), (.ref b28)])) rfl rfl (hb hby at_221)
      have V_b28_32 := Arv.set Ar_b28_221_31 q_b28_221_31 S_b28_221_31 N_b28_221_31 H_b28_221_31 G_b28_221_31 rfl W32 0 rfl (Nat.le_of_ble_eq_true rfl)
      have N32 := Fr.snoc X32 N24 g_b28
      obtain ⟨LL32, X32, N32⟩ := own_hide X32 N32
      have Z33z : n0 ≤ h32.size := (Nat.le_trans (Nat.le_trans Z26z E28.1) (Keep.of_wr W32).1)
      have hz34 : h0.size ≤ h32.size := (Nat.le_trans (Nat.le_trans hz27 E28.1) (Keep.of_wr W32).1)
      obtain ⟨T35, h35, X35, e35, E35, A35, D35, -, st35⟩ := newO X32 hx hZ hown (W 4 rfl) (W 5 rfl) (W 6 rfl) e32 (g := (mkF m 292 #[.val (.int p0), .val (.long q1), .second, .val (.long q2), .second, .val (.long q3), .second, .val (.int (p0 &&& (2147483647 : Int32))), .val (.int (1 : Int32)), .val (.int (0 : Int32)), .val (.ref b1), .val (.ref b17), .val (.ref b22), .val (.int (1 : Int32)), .val (.ref b28), .unset, .unset, .unset] [])) rfl (hb hby at_292) (by decide) (by decide)
      obtain ⟨b35, gg35⟩ : ∃ z, z = h32.size := ⟨_, rfl⟩
      rw [← gg35] at A35 D35 st35
      have g_b35 : n0 ≤ b35 := Nat.le_trans Z33z (Nat.le_of_eq gg35.symm)
      have sz_b35 : h0.size ≤ b35 := Nat.le_trans hz34 (Nat.le_of_eq gg35.symm)
      have F_scope_b35 : Fld Z h35 b35 "com/example/beliefwire/beliefwire/model/Factor" "scope" "[I" .null := D35 (Or.inr (W 45 rfl)) (ty := (.array .int)) (by decide)
      have F_cardinalities_b35 : Fld Z h35 b35 "com/example/beliefwire/beliefwire/model/Factor" "cardinalities" "[I" .null := D35 (Or.inr (W 47 rfl)) (ty := (.array .int)) (by decide)
      have F_entries_b35 : Fld Z h35 b35 "com/example/beliefwire/beliefwire/model/Factor" "entries" "[D" .null := D35 (Or.inr (W 55 rfl)) (ty := (.array .double)) (by decide)
      have Z37z : n0 ≤ h35.size := (Nat.le_trans Z33z E35.1)
      have ne_b17_b22 : b17 ≠ b22 := Nat.ne_of_lt (Nat.lt_of_lt_of_le (V_b17_19).lt (Nat.le_of_eq gg22.symm))
      have ne_b17_b28 : b17 ≠ b28 := Nat.ne_of_lt (Nat.lt_of_lt_of_le (Nat.lt_of_lt_of_le (Nat.lt_of_lt_of_le (V_b17_19).lt E22.1) (Keep.of_wr W24).1) (Nat.le_of_eq gg28.symm))
      have V_b17_19_38 := (((((V_b17_19.ext E22).other W24 ne_b17_b22).ext E28).other W32 ne_b17_b28).ext E35)
      have B17_39 := ((((((B17.wr W19).ext E22).wr W24).ext E28).wr W32).ext E35)
      have ne_b22_b28 : b22 ≠ b28 := Nat.ne_of_lt (Nat.lt_of_lt_of_le (Vc).lt (Nat.le_of_eq gg28.symm))
      have Vc_40 := (((Vc.ext E28).other W32 ne_b22_b28).ext E35)
      have B22_41 := ((((B22.wr W24).ext E28).wr W32).ext E35)
      have V_b28_32_42 := (V_b28_32.ext E35)
      have B28_43 := ((B28.wr W32).ext E35)
      obtain ⟨_, _, ⟨T36, L36, k36, n36⟩, -, X36, ⟨Lc36, hQ36, l36, y36, z36⟩, st36⟩ := X35.specialBack hx (y := (⟨"com/example/beliefwire/beliefwire/model/Factor", "<init>", "([I[I[D)V"⟩ : MethodName)) rfl hown (mvT hZ (W 7 rfl)) (mvT hZ (W 8 rfl)) (mvT hZ (W 9 rfl)) (by decide) (backOf (W := 1) (rm_in_01 l Z a0 hw [] b35 b17 b22 b28 (own_v q1) _ _ _ k17 k22 k28 h35 n0 Z37z A35 g_b35 F_scope_b35 F_cardinalities_b35 F_entries_b35 V_b17_19_38 B17_39 Vc_40 B22_41 V_b28_32_42 B28_43 (own_vf _) (own_vn _)) hZ (W 9 rfl) (W 6 rfl) (by decide) (by decide)) (g := (mkF m 302 #[.val (.int p0), .val (.long q1), .second, .val (.long q2), .second, .val (.long q3), .second, .val (.int (p0 &&& (2147483647 : Int32))), .val (.int (1 : Int32)), .val (.int (0 : Int32)), .val (.ref b1), .val (.ref b17), .val (.ref b22), .val (.int (1 : Int32)), .val (.ref b28), .unset, .unset, .unset] [(.ref b28), (.ref b22), (.ref b17), (.ref b35), (.ref b35)])) rfl (by rw [hml]; rfl) (Steps.refl _) (a := b35) (argsL := [(.ref b17), (.ref b22), (.ref b28)]) (rest := [(.ref b35)]) (lenOf pd_9 rfl) rfl (own_le rfl) (hb hby at_302) (fun _ _ => ⟨rfl, e35, (by decide : 5 + 4 ≤ _), (by decide : 12 + 4 ≤ _)⟩)
      dsimp only [Pt.U, Pt.locs, Pt.cells, Pt.slots] at X36 l36 y36 z36 st36 hQ36
      subst l36 y36 z36
      obtain ⟨rfl, N36q, K36, Eq36, bc36, be36, Fc36, Fe36, Ec36, Vc36, Ve36⟩ := hQ36
      have N36 := Fr.app N32 N36q
      obtain ⟨LL36, X36, N36⟩ := own_hide X36 N36
      have Z45z : n0 ≤ T36.heap.size := (Nat.le_trans Z37z K36.1)
      obtain ⟨_, _, ⟨T44, L44, k44, n44⟩, -, X44, ⟨Lc44, hQ44, l44, y44, z44⟩, st44⟩ := Jvm.LawKit.callS X36 hx (y := (⟨"com/example/beliefwire/beliefwire/io/NoisyMax", "leak", "(Lcom/example/beliefwire/beliefwire/model/Factor;)[D"⟩ : MethodName)) hown (mvT hZ (W 56 rfl)) (mvT hZ (W 57 rfl)) (mvT hZ (W 58 rfl)) (mvT hZ (W 59 rfl)) (by decide) (backOf (W := 0) (rm_lk_01 l Z a0 hw [] b35 bc36 be36 (own_v q1) k22 k28 T36.heap n0 Z45z Eq36 Fc36 Vc36 Ec36 Fe36 Ve36) hZ (W 59 rfl) (W 58 rfl) (by decide) (by decide)) (g := (mkF m 309 #[.val (.int p0), .val (.long q1), .second, .val (.long q2), .second, .val (.long q3), .second, .val (.int (p0 &&& (2147483647 : Int32))), .val (.int (1 : Int32)), .val (.int (0 : Int32)), .val (.ref b1), .val (.ref b17), .val (.ref b22), .val (.int (1 : Int32)), .val (.ref b28), .val (.ref b35), .unset, .unset] [(.ref b35)])) rfl (by rw [hml]; rfl) (argsL := [(.ref b35)]) (rest := []) (lenOf pd_10 rfl) rfl (own_le rfl) (hb hby at_309) (fun _ _ => ⟨rfl, rfl, (by decide : 9 + 2 ≤ _), (by decide : 16 + 2 ≤ _)⟩)
      dsimp only [Pt.U, Pt.locs, Pt.cells, Pt.slots] at X44 l44 y44 z44 st44 hQ44
      subst l44 y44 z44
      obtain ⟨⟨b44, kb44, rfl, V44⟩, N44q, K44⟩ := hQ44
      have N44 := Fr.app N36 N44q
      obtain ⟨LL44, X44, N44⟩ := own_hide X44 N44
      obtain ⟨cl_b44_46, Ar_b44_46, q_b44_46, S_b44_46, N_b44_46, H_b44_46, G_b44_46⟩ := id V44
      have Al_b44_46 := State.isArrayOf_alike hZ.alike Ar_b44_46.2.1
      have hin_b44_46_0 : ¬ ((0 : Int32) < 0 ∨ cl_b44_46.slots.size ≤ ((0 : Int32)).toNatClampNeg) := inb_of S_b44_46 ⟨by decide, by decide⟩
      have hat_b44_46_0 : cl_b44_46.slots[((0 : Int32)).toNatClampNeg]? = some (.double (own_v q1)) := H_b44_46 _ (by rw [S_b44_46]; decide)
      have ne_b1_b28 : b1 ≠ b28 := Nat.ne_of_lt (Nat.lt_of_lt_of_le (Nat.lt_of_lt_of_le (Nat.lt_of_lt_of_le (Nat.lt_of_lt_of_le (Nat.lt_of_lt_of_le (V_b1_13).lt E17.1) (Keep.of_wr W19).1) E22.1) (Keep.of_wr W24).1) (Nat.le_of_eq gg28.symm))
      have ne_b1_b35 : b1 ≠ b35 := Nat.ne_of_lt (Nat.lt_of_lt_of_le (Nat.lt_of_lt_of_le (V_b1_13_29).lt (Keep.of_wr W32).1) (Nat.le_of_eq gg35.symm))
      have V_b1_13_47 := ((((V_b1_13_29.other W32 ne_b1_b28).ext E35).keep K36 (own_nin1 ne_b1_b35)).keep K44 own_nin0)
      obtain ⟨cl_b1_48, Ar_b1_48, q_b1_48, S_b1_48, N_b1_48, H_b1_48, G_b1_48⟩ := id V_b1_13_47
      have Al_b1_48 := State.isArrayOf_alike hZ.alike Ar_b1_48.2.1
      have hin_b1_48_0 : ¬ ((0 : Int32) < 0 ∨ cl_b1_48.slots.size ≤ ((0 : Int32)).toNatClampNeg) := inb_of S_b1_48 ⟨by decide, by decide⟩
      have hat_b1_48_0 : cl_b1_48.slots[((0 : Int32)).toNatClampNeg]? = some (.double (own_v q1)) := H_b1_48 _ (by rw [S_b1_48]; decide)
      obtain ⟨fs, hr, hrun, hended, hW, hsame⟩ := X44.leave (v := some (.int (1 : Int32))) (fun h => by rw [Bd.returns] at h; cases h)
      refine ⟨_, _, pre25 _ ?_, hrun, hended, _, _, rfl, ?_, ⟨_, rfl⟩, hW, hsame.mono (by decide) (by decide)⟩
      · show Steps p.tables e below (T24.setTop (mkF m 192 #[.val (.int p0), .val (.long q1), .second, .val (.long q2), .second, .val (.long q3), .second, .val (.int (p0 &&& (2147483647 : Int32))), .val (.int ((1 : Int32) + ((p0 &&& (2147483647 : Int32)) % (3 : Int32)))), .val (.int (0 : Int32)), .val (.ref b1), .val (.ref b17), .val (.ref b22), .unset, .unset, .unset, .unset, .unset] [])) _
        show Steps p.tables e below (T24.setTop (mkF m 192 #[.val (.int p0), .val (.long q1), .second, .val (.long q2), .second, .val (.long q3), .second, .val (.int (p0 &&& (2147483647 : Int32))), .val (.int ((1 : Int32) + ((p0 &&& (2147483647 : Int32)) % (3 : Int32)))), .val (.int (0 : Int32)), .val (.ref b1), .val (.ref b17), .val (.ref b22), .unset, .unset, .unset, .unset, .unset] [])) _
        rw [show ((1 : Int32) + ((p0 &&& (2147483647 : Int32)) % (3 : Int32))) = (1 : Int32) from hc]
        refine XS.iload X24.here hx rfl (hb hby at_192) rfl ?_
        refine XS.ifNo X24.here hx rfl (hb hby at_194) rfl ((if0 _ _).trans (teq (by decide : (0 : Int32) = (0 : Int32))).2) ?_
        refine XS.iload X24.here hx rfl (hb hby at_197) rfl ?_
        refine XS.goto X24.here hx rfl (pc0 := 199) (pc' := 206) rfl (hb hby at_199) (by decide) (by decide) ?_
        refine XS.istore X24.here hx rfl (hb hby at_206) rfl (l' := #[.val (.int p0), .val (.long q1), .second, .val (.long q2), .second, .val (.long q3), .second, .val (.int (p0 &&& (2147483647 : Int32))), .val (.int (1 : Int32)), .val (.int (0 : Int32)), .val (.ref b1), .val (.ref b17), .val (.ref b22), .val (.int (1 : Int32)), .unset, .unset, .unset, .unset]) rfl ?_
        refine XS.iload X24.here hx rfl (hb hby at_208) rfl ?_
        refine st28 _ ?_
        refine XS.astore X28.here hx rfl (hb hby at_212) rfl rfl (l' := #[.val (.int p0), .val (.long q1), .second, .val (.long q2), .second, .val (.long q3), .second, .val (.int (p0 &&& (2147483647 : Int32))), .val (.int (1 : Int32)), .val (.int (0 : Int32)), .val (.ref b1), .val (.ref b17), .val (.ref b22), .val (.int (1 : Int32)), .val (.ref b28), .unset, .unset, .unset]) rfl ?_
        refine XS.aload X28.here hx rfl (hb hby at_214) rfl rfl ?_
        refine XS.iconst X28.here hx rfl (hb hby at_216) ?_
        refine XS.aload X28.here hx rfl (hb hby at_217) rfl rfl ?_
        refine XS.iconst X28.here hx rfl (hb hby at_219) ?_
        refine X28.daload hx (j := (0 : Int32)) (v := (.double (own_v q1))) (by rw [e28]; exact Ar_b1_30.1) Al_b1_30 Ar_b1_30.2.2 hin_b1_30_0 hat_b1_30_0 (g := (mkF m 220 #[.val (.int p0), .val (.long q1), .second, .val (.long q2), .second, .val (.long q3), .second, .val (.int (p0 &&& (2147483647 : Int32))), .val (.int (1 : Int32)), .val (.int (0 : Int32)), .val (.ref b1), .val (.ref b17), .val (.ref b22), .val (.int (1 : Int32)), .val (.ref b28), .unset, .unset, .unset] [(.int (0 : Int32)), (.ref b1), (.int (0 : Int32)), (.ref b28)])) rfl rfl (hb hby at_220) _ ?_
        refine st32 _ ?_
        refine XS.iload X32.here hx rfl (hb hby at_222) rfl ?_
        refine XS.iconst X32.here hx rfl (hb hby at_224) ?_
        refine XS.icmpYes X32.here hx rfl (pc0 := 225) (pc' := 236) rfl (hb hby at_225) rfl (flt (by decide : ¬ ((1 : Int32) < (1 : Int32)))).2.2.2 (by decide) (by decide) ?_
        refine XS.iload X32.here hx rfl (hb hby at_236) rfl ?_
        refine XS.iconst X32.here hx rfl (hb hby at_238) ?_
        refine XS.icmpYes X32.here hx rfl (pc0 := 239) (pc' := 250) rfl (hb hby at_239) rfl (flt (by decide : ¬ ((2 : Int32) < (1 : Int32)))).2.2.2 (by decide) (by decide) ?_
        refine XS.iload X32.here hx rfl (hb hby at_250) rfl ?_
        refine XS.iconst X32.here hx rfl (hb hby at_252) ?_
        refine XS.icmpYes X32.here hx rfl (pc0 := 253) (pc' := 264) rfl (hb hby at_253) rfl (flt (by decide : ¬ ((3 : Int32) < (1 : Int32)))).2.2.2 (by decide) (by decide) ?_
        refine XS.iload X32.here hx rfl (hb hby at_264) rfl ?_
        refine XS.iconst X32.here hx rfl (hb hby at_266) ?_
        refine XS.icmpYes X32.here hx rfl (pc0 := 267) (pc' := 278) rfl (hb hby at_267) rfl (flt (by decide : ¬ ((4 : Int32) < (1 : Int32)))).2.2.2 (by decide) (by decide) ?_
        refine XS.iload X32.here hx rfl (hb hby at_278) rfl ?_
        show Steps p.tables e below (T32.setTop (mkF m 280 #[.val (.int p0), .val (.long q1), .second, .val (.long q2), .second, .val (.long q3), .second, .val (.int (p0 &&& (2147483647 : Int32))), .val (.int (1 : Int32)), .val (.int (0 : Int32)), .val (.ref b1), .val (.ref b17), .val (.ref b22), .val (.int (1 : Int32)), .val (.ref b28), .unset, .unset, .unset] [(.int (1 : Int32))])) _
        refine XS.iconst X32.here hx rfl (hb hby at_280) ?_
        refine XS.icmpYes X32.here hx rfl (pc0 := 281) (pc' := 292) rfl (hb hby at_281) rfl (flt (by decide : ¬ ((5 : Int32) < (1 : Int32)))).2.2.2 (by decide) (by decide) ?_
        refine st35 _ ?_
        refine XS.dup X35.here hx rfl (hb hby at_295) rfl rfl ?_
        refine XS.aload X35.here hx rfl (hb hby at_296) rfl rfl ?_
        refine XS.aload X35.here hx rfl (hb hby at_298) rfl rfl ?_
        refine XS.aload X35.here hx rfl (hb hby at_300) rfl rfl ?_
        refine st36.trans ?_
        refine XS.astore X36.here hx rfl (hb hby at_305) rfl rfl (l' := #[.val (.int p0), .val (.long q1), .second, .val (.long q2), .second, .val (.long q3), .second, .val (.int (p0 &&& (2147483647 : Int32))), .val (.int (1 : Int32)), .val (.int (0 : Int32)), .val (.ref b1), .val (.ref b17), .val (.ref b22), .val (.int (1 : Int32)), .val (.ref b28), .val (.ref b35), .unset, .unset]) rfl ?_
        refine XS.aload X36.here hx rfl (hb hby at_307) rfl rfl ?_
        refine st44 _ ?_
        refine XS.astore X44.here hx rfl (hb hby at_312) rfl rfl (l' := #[.val (.int p0), .val (.long q1), .second, .val (.long q2), .second, .val (.long q3), .second, .val (.int (p0 &&& (2147483647 : Int32))), .val (.int (1 : Int32)), .val (.int (0 : Int32)), .val (.ref b1), .val (.ref b17), .val (.ref b22), .val (.int (1 : Int32)), .val (.ref b28), .val (.ref b35), .val (.ref b44), .unset]) rfl ?_
        refine XS.aload X44.here hx rfl (hb hby at_314) rfl rfl ?_
        refine X44.arraylength hx Ar_b44_46.1 Al_b44_46 (g := (mkF m 316 #[.val (.int p0), .val (.long q1), .second, .val (.long q2), .second, .val (.long q3), .second, .val (.int (p0 &&& (2147483647 : Int32))), .val (.int (1 : Int32)), .val (.int (0 : Int32)), .val (.ref b1), .val (.ref b17), .val (.ref b22), .val (.int (1 : Int32)), .val (.ref b28), .val (.ref b35), .val (.ref b44), .unset] [(.ref b44)])) rfl rfl (hb hby at_316) _ ?_
        rw [len_of S_b44_46 N_b44_46]
        refine XS.iload X44.here hx rfl (hb hby at_317) rfl ?_
        refine XS.icmpYes X44.here hx rfl (pc0 := 319) (pc' := 324) rfl (hb hby at_319) rfl (teq (by decide : (1 : Int32) = (1 : Int32))).1 (by decide) (by decide) ?_
        refine XS.aload X44.here hx rfl (hb hby at_324) rfl rfl ?_
        refine XS.iconst X44.here hx rfl (hb hby at_326) ?_
        refine X44.daload hx (j := (0 : Int32)) (v := (.double (own_v q1))) Ar_b44_46.1 Al_b44_46 Ar_b44_46.2.2 hin_b44_46_0 hat_b44_46_0 (g := (mkF m 327 #[.val (.int p0), .val (.long q1), .second, .val (.long q2), .second, .val (.long q3), .second, .val (.int (p0 &&& (2147483647 : Int32))), .val (.int (1 : Int32)), .val (.int (0 : Int32)), .val (.ref b1), .val (.ref b17), .val (.ref b22), .val (.int (1 : Int32)), .val (.ref b28), .val (.ref b35), .val (.ref b44), .unset] [(.int (0 : Int32)), (.ref b44)])) rfl rfl (hb hby at_327) _ ?_
        refine XS.aload X44.here hx rfl (hb hby at_328) rfl rfl ?_
        refine XS.iconst X44.here hx rfl (hb hby at_330) ?_
        refine X44.daload hx (j := (0 : Int32)) (v := (.double (own_v q1))) Ar_b1_48.1 Al_b1_48 Ar_b1_48.2.2 hin_b1_48_0 hat_b1_48_0 (g := (mkF m 331 #[.val (.int p0), .val (.long q1), .second, .val (.long q2), .second, .val (.long q3), .second, .val (.int (p0 &&& (2147483647 : Int32))), .val (.int (1 : Int32)), .val (.int (0 : Int32)), .val (.ref b1), .val (.ref b17), .val (.ref b22), .val (.int (1 : Int32)), .val (.ref b28), .val (.ref b35), .val (.ref b44), .unset] [(.int (0 : Int32)), (.ref b1), (.double (own_v q1))])) rfl rfl (hb hby at_331) _ ?_
        refine XS.dcmpS X44.here hx rfl (hb hby at_332) rfl rfl ?_
        refine XS.ifNo X44.here hx rfl (hb hby at_333) rfl ((if0 _ _).trans (teq (own_eqv _)).2) ?_
        refine XS.iconst X44.here hx rfl (hb hby at_336) ?_
        refine XS.goto X44.here hx rfl (pc0 := 337) (pc' := 341) rfl (hb hby at_337) (by decide) (by decide) ?_
        refine XS.istore X44.here hx rfl (hb hby at_341) rfl (l' := #[.val (.int p0), .val (.long q1), .second, .val (.long q2), .second, .val (.long q3), .second, .val (.int (p0 &&& (2147483647 : Int32))), .val (.int (1 : Int32)), .val (.int (0 : Int32)), .val (.ref b1), .val (.ref b17), .val (.ref b22), .val (.int (1 : Int32)), .val (.ref b28), .val (.ref b35), .val (.ref b44), .val (.int (1 : Int32))]) rfl ?_
        refine XS.iload X44.here hx rfl (hb hby at_343) rfl ?_
        refine XS.iconst X44.here hx rfl (hb hby at_345) ?_
        refine XS.icmpYes X44.here hx rfl (pc0 := 346) (pc' := 373) rfl (hb hby at_346) rfl (flt (by decide : ¬ ((1 : Int32) < (1 : Int32)))).2.2.2 (by decide) (by decide) ?_
        refine XS.iload X44.here hx rfl (hb hby at_373) rfl ?_
        refine XS.iconst X44.here hx rfl (hb hby at_375) ?_
        refine XS.icmpYes X44.here hx rfl (pc0 := 376) (pc' := 403) rfl (hb hby at_376) rfl (flt (by decide : ¬ ((2 : Int32) < (1 : Int32)))).2.2.2 (by decide) (by decide) ?_
        refine XS.iload X44.here hx rfl (hb hby at_403) rfl ?_
        show Steps p.tables e below (T44.setTop (mkF m 405 #[.val (.int p0), .val (.long q1), .second, .val (.long q2), .second, .val (.long q3), .second, .val (.int (p0 &&& (2147483647 : Int32))), .val (.int (1 : Int32)), .val (.int (0 : Int32)), .val (.ref b1), .val (.ref b17), .val (.ref b22), .val (.int (1 : Int32)), .val (.ref b28), .val (.ref b35), .val (.ref b44), .val (.int (1 : Int32))] [(.int (1 : Int32))])) _
        exact retN X44 hx (t := .boolean) Bd.returns (by simp) (hb hby at_405) hr
      · show Q0 Z p0 h0 n0 _ T44.heap _
        exact ⟨rfl, N44⟩
    · have Vc : Arv Z h24 b22 k22 .int (1 : Int32) [(.int (2 : Int32))] (.int (0 : Int32)) := by have q := V_b22_24; rw [hc] at q; exact q
      obtain ⟨T28, h28, k28, X28, e28, E28, A28, B28, st28⟩ := newPE X24 hx hZ (W 1 rfl) e24 (g := (mkF m 210 #[.val (.int p0), .val (.long q1), .second, .val (.long q2), .second, .val (.long q3), .second, .val (.int (p0 &&& (2147483647 : Int32))), .val (.int (2 : Int32)), .val (.int (0 : Int32)), .val (.ref b1), .val (.ref b17), .val (.ref b22), .val (.int (2 : Int32)), .unset, .unset, .unset, .unset] [(.int (2 : Int32))])) rfl (hb hby at_210) rfl (by decide) (cap := 2) (by decide) (by decide) (by decide) (by decide) (ad := "[D") (by decide)
      obtain ⟨b28, gg28⟩ : ∃ z, z = h24.size := ⟨_, rfl⟩
      rw [← gg28] at A28 B28 st28
      have g_b28 : n0 ≤ b28 := Nat.le_trans Z26z (Nat.le_of_eq gg28.symm)
      have sz_b28 : h0.size ≤ b28 := Nat.le_trans hz27 (Nat.le_of_eq gg28.symm)
      have V_b28 : Arv Z h28 b28 k28 .double (2 : Int32) [(.double (0 : UInt64)), (.double (0 : UInt64))] (.double (0 : UInt64)) := (Arv.new A28 (by decide)).pad (pad_rep [] (.double (0 : UInt64)) 2)
      have ne_b1_b17 : b1 ≠ b17 := Nat.ne_of_lt (Nat.lt_of_lt_of_le (V_b1_13).lt (Nat.le_of_eq gg17.symm))
      have ne_b1_b22 : b1 ≠ b22 := Nat.ne_of_lt (Nat.lt_of_lt_of_le (Nat.lt_of_lt_of_le (Nat.lt_of_lt_of_le (V_b1_13).lt E17.1) (Keep.of_wr W19).1) (Nat.le_of_eq gg22.symm))
      have V_b1_13_29 := (((((V_b1_13.ext E17).other W19 ne_b1_b17).ext E22).other W24 ne_b1_b22).ext E28)
      obtain ⟨cl_b1_30, Ar_b1_30, q_b1_30, S_b1_30, N_b1_30, H_b1_30, G_b1_30⟩ := id V_b1_13_29
      have Al_b1_30 := State.isArrayOf_alike hZ.alike Ar_b1_30.2.1
      have hin_b1_30_0 : ¬ ((0 : Int32) < 0 ∨ cl_b1_30.slots.size ≤ ((0 : Int32)).toNatClampNeg) := inb_of S_b1_30 ⟨by decide, by decide⟩
      have hat_b1_30_0 : cl_b1_30.slots[((0 : Int32)).toNatClampNeg]? = some (.double (own_v q1)) := H_b1_30 _ (by rw [S_b1_30]; decide)
      obtain ⟨cl_b28_221_31, Ar_b28_221_31, q_b28_221_31, S_b28_221_31, N_b28_221_31, H_b28_221_31, G_b28_221_31⟩ := id V_b28
      have hin_b28_221_31 : ¬ ((0 : Int32) < 0 ∨ cl_b28_221_31.slots.size ≤ ((0 : Int32)).toNatClampNeg) := inb_of S_b28_221_31 ⟨by decide, by decide⟩
      obtain ⟨T32, h32, X32, e32, W32, st32⟩ := stD X28 hx hZ e28 Ar_b28_221_31 (j := (0 : Int32)) hin_b28_221_31 (g := (mkF m 221 #[.val (.int p0), .val (.long q1), .second, .val (.long q2), .second, .val (.long q3), .second, .val (.int (p0 &&& (2147483647 : Int32))), .val (.int (2 : Int32)), .val (.int (0 : Int32)), .val (.ref b1), .val (.ref b17), .val (.ref b22), .val (.int (2 : Int32)), .val (.ref b28), .unset, .unset, .unset] [(.double (own_v q1)), (.int (0 : Int32)), (.ref b28)])) rfl rfl (hb hby at_221)
      have V_b28_32 := Arv.set Ar_b28_221_31 q_b28_221_31 S_b28_221_31 N_b28_221_31 H_b28_221_31 G_b28_221_31 rfl W32 0 rfl (Nat.le_of_ble_eq_true rfl)
      have N32 := Fr.snoc X32 N24 g_b28
      obtain ⟨LL32, X32, N32⟩ := own_hide X32 N32
      have ne_b1_b28 : b1 ≠ b28 := Nat.ne_of_lt (Nat.lt_of_lt_of_le (Nat.lt_of_lt_of_le (Nat.lt_of_lt_of_le (Nat.lt_of_lt_of_le (Nat.lt_of_lt_of_le (V_b1_13).lt E17.1) (Keep.of_wr W19).1) E22.1) (Keep.of_wr W24).1) (Nat.le_of_eq gg28.symm))
      have V_b1_13_33 := (V_b1_13_29.other W32 ne_b1_b28)
      obtain ⟨cl_b1_34, Ar_b1_34, q_b1_34, S_b1_34, N_b1_34, H_b1_34, G_b1_34⟩ := id V_b1_13_33
      have Al_b1_34 := State.isArrayOf_alike hZ.alike Ar_b1_34.2.1
      have hin_b1_34_1 : ¬ ((1 : Int32) < 0 ∨ cl_b1_34.slots.size ≤ ((1 : Int32)).toNatClampNeg) := inb_of S_b1_34 ⟨by decide, by decide⟩
      have hat_b1_34_1 : cl_b1_34.slots[((1 : Int32)).toNatClampNeg]? = some (.double (own_v (own_us q1 32))) := H_b1_34 _ (by rw [S_b1_34]; decide)
      obtain ⟨cl_b28_235_35, Ar_b28_235_35, q_b28_235_35, S_b28_235_35, N_b28_235_35, H_b28_235_35, G_b28_235_35⟩ := id V_b28_32
      have hin_b28_235_35 : ¬ ((1 : Int32) < 0 ∨ cl_b28_235_35.slots.size ≤ ((1 : Int32)).toNatClampNeg) := inb_of S_b28_235_35 ⟨by decide, by decide⟩
      obtain ⟨T36, h36, X36, e36, W36, st36⟩ := stD X32 hx hZ e32 Ar_b28_235_35 (j := (1 : Int32)) hin_b28_235_35 (g := (mkF m 235 #[.val (.int p0), .val (.long q1), .second, .val (.long q2), .second, .val (.long q3), .second, .val (.int (p0 &&& (2147483647 : Int32))), .val (.int (2 : Int32)), .val (.int (0 : Int32)), .val (.ref b1), .val (.ref b17), .val (.ref b22), .val (.int (2 : Int32)), .val (.ref b28), .unset, .unset, .unset] [(.double (own_v (own_us q1 32))), (.int (1 : Int32)), (.ref b28)])) rfl rfl (hb hby at_235)
      have V_b28_36 := Arv.set Ar_b28_235_35 q_b28_235_35 S_b28_235_35 N_b28_235_35 H_b28_235_35 G_b28_235_35 rfl W36 1 rfl (Nat.le_of_ble_eq_true rfl)
      have N36 := Fr.snoc X36 N32 g_b28
      obtain ⟨LL36, X36, N36⟩ := own_hide X36 N36
      have Z37z : n0 ≤ h36.size := (Nat.le_trans (Nat.le_trans (Nat.le_trans Z26z E28.1) (Keep.of_wr W32).1) (Keep.of_wr W36).1)
      have hz38 : h0.size ≤ h36.size := (Nat.le_trans (Nat.le_trans (Nat.le_trans hz27 E28.1) (Keep.of_wr W32).1) (Keep.of_wr W36).1)
      obtain ⟨T39, h39, X39, e39, E39, A39, D39, -, st39⟩ := newO X36 hx hZ hown (W 4 rfl) (W 5 rfl) (W 6 rfl) e36 (g := (mkF m 292 #[.val (.int p0), .val (.long q1), .second, .val (.long q2), .second, .val (.long q3), .second, .val (.int (p0 &&& (2147483647 : Int32))), .val (.int (2 : Int32)), .val (.int (0 : Int32)), .val (.ref b1), .val (.ref b17), .val (.ref b22), .val (.int (2 : Int32)), .val (.ref b28), .unset, .unset, .unset] [])) rfl (hb hby at_292) (by decide) (by decide)
      obtain ⟨b39, gg39⟩ : ∃ z, z = h36.size := ⟨_, rfl⟩
      rw [← gg39] at A39 D39 st39
      have g_b39 : n0 ≤ b39 := Nat.le_trans Z37z (Nat.le_of_eq gg39.symm)
      have sz_b39 : h0.size ≤ b39 := Nat.le_trans hz38 (Nat.le_of_eq gg39.symm)
      have F_scope_b39 : Fld Z h39 b39 "com/example/beliefwire/beliefwire/model/Factor" "scope" "[I" .null := D39 (Or.inr (W 45 rfl)) (ty := (.array .int)) (by decide)
      have F_cardinalities_b39 : Fld Z h39 b39 "com/example/beliefwire/beliefwire/model/Factor" "cardinalities" "[I" .null := D39 (Or.inr (W 47 rfl)) (ty := (.array .int)) (by decide)
      have F_entries_b39 : Fld Z h39 b39 "com/example/beliefwire/beliefwire/model/Factor" "entries" "[D" .null := D39 (Or.inr (W 55 rfl)) (ty := (.array .double)) (by decide)
      have Z41z : n0 ≤ h39.size := (Nat.le_trans Z37z E39.1)
      have ne_b17_b22 : b17 ≠ b22 := Nat.ne_of_lt (Nat.lt_of_lt_of_le (V_b17_19).lt (Nat.le_of_eq gg22.symm))
      have ne_b17_b28 : b17 ≠ b28 := Nat.ne_of_lt (Nat.lt_of_lt_of_le (Nat.lt_of_lt_of_le (Nat.lt_of_lt_of_le (V_b17_19).lt E22.1) (Keep.of_wr W24).1) (Nat.le_of_eq gg28.symm))
      have V_b17_19_42 := ((((((V_b17_19.ext E22).other W24 ne_b17_b22).ext E28).other W32 ne_b17_b28).other W36 ne_b17_b28).ext E39)
      have B17_43 := (((((((B17.wr W19).ext E22).wr W24).ext E28).wr W32).wr W36).ext E39)
      have ne_b22_b28 : b22 ≠ b28 := Nat.ne_of_lt (Nat.lt_of_lt_of_le (Vc).lt (Nat.le_of_eq gg28.symm))
      have Vc_44 := ((((Vc.ext E28).other W32 ne_b22_b28).other W36 ne_b22_b28).ext E39)
      have B22_45 := (((((B22.wr W24).ext E28).wr W32).wr W36).ext E39)
      have V_b28_36_46 := (V_b28_36.ext E39)
      have B28_47 := (((B28.wr W32).wr W36).ext E39)
      obtain ⟨_, _, ⟨T40, L40, k40, n40⟩, -, X40, ⟨Lc40, hQ40, l40, y40, z40⟩, st40⟩ := X39.specialBack hx (y := (⟨"com/example/beliefwire/beliefwire/model/Factor", "<init>", "([I[I[D)V"⟩ : MethodName)) rfl hown (mvT hZ (W 7 rfl)) (mvT hZ (W 8 rfl)) (mvT hZ (W 9 rfl)) (by decide) (backOf (W := 1) (rm_in_02 l Z a0 hw [] b39 b17 b22 b28 (own_v q1) (own_v (own_us q1 32)) _ _ _ k17 k22 k28 h39 n0 Z41z A39 g_b39 F_scope_b39 F_cardinalities_b39 F_entries_b39 V_b17_19_42 B17_43 Vc_44 B22_45 V_b28_36_46 B28_47 (own_vf _) (own_vn _) (own_vf _) (own_vn _)) hZ (W 9 rfl) (W 6 rfl) (by decide) (by decide)) (g := (mkF m 302 #[.val (.int p0), .val (.long q1), .second, .val (.long q2), .second, .val (.long q3), .second, .val (.int (p0 &&& (2147483647 : Int32))), .val (.int (2 : Int32)), .val (.int (0 : Int32)), .val (.ref b1), .val (.ref b17), .val (.ref b22), .val (.int (2 : Int32)), .val (.ref b28), .unset, .unset, .unset] [(.ref b28), (.ref b22), (.ref b17), (.ref b39), (.ref b39)])) rfl (by rw [hml]; rfl) (Steps.refl _) (a := b39) (argsL := [(.ref b17), (.ref b22), (.ref b28)]) (rest := [(.ref b39)]) (lenOf pd_9 rfl) rfl (own_le rfl) (hb hby at_302) (fun _ _ => ⟨rfl, e39, (by decide : 5 + 4 ≤ _), (by decide : 13 + 5 ≤ _)⟩)
      dsimp only [Pt.U, Pt.locs, Pt.cells, Pt.slots] at X40 l40 y40 z40 st40 hQ40
      subst l40 y40 z40
      obtain ⟨rfl, N40q, K40, Eq40, bc40, be40, Fc40, Fe40, Ec40, Vc40, Ve40⟩ := hQ40
      have N40 := Fr.app N36 N40q
      obtain ⟨LL40, X40, N40⟩ := own_hide X40 N40
      have Z49z : n0 ≤ T40.heap.size := (Nat.le_trans Z41z K40.1)
      obtain ⟨_, _, ⟨T48, L48, k48, n48⟩, -, X48, ⟨Lc48, hQ48, l48, y48, z48⟩, st48⟩ := Jvm.LawKit.callS X40 hx (y := (⟨"com/example/beliefwire/beliefwire/io/NoisyMax", "leak", "(Lcom/example/beliefwire/beliefwire/model/Factor;)[D"⟩ : MethodName)) hown (mvT hZ (W 56 rfl)) (mvT hZ (W 57 rfl)) (mvT hZ (W 58 rfl)) (mvT hZ (W 59 rfl)) (by decide) (backOf (W := 0) (rm_lk_02 l Z a0 hw [] b39 bc40 be40 (own_v q1) (own_v (own_us q1 32)) k22 k28 T40.heap n0 Z49z Eq40 Fc40 Vc40 Ec40 Fe40 Ve40) hZ (W 59 rfl) (W 58 rfl) (by decide) (by decide)) (g := (mkF m 309 #[.val (.int p0), .val (.long q1), .second, .val (.long q2), .second, .val (.long q3), .second, .val (.int (p0 &&& (2147483647 : Int32))), .val (.int (2 : Int32)), .val (.int (0 : Int32)), .val (.ref b1), .val (.ref b17), .val (.ref b22), .val (.int (2 : Int32)), .val (.ref b28), .val (.ref b39), .unset, .unset] [(.ref b39)])) rfl (by rw [hml]; rfl) (argsL := [(.ref b39)]) (rest := []) (lenOf pd_10 rfl) rfl (own_le rfl) (hb hby at_309) (fun _ _ => ⟨rfl, rfl, (by decide : 9 + 2 ≤ _), (by decide : 18 + 3 ≤ _)⟩)
      dsimp only [Pt.U, Pt.locs, Pt.cells, Pt.slots] at X48 l48 y48 z48 st48 hQ48
      subst l48 y48 z48
      obtain ⟨⟨b48, kb48, rfl, V48⟩, N48q, K48⟩ := hQ48
      have N48 := Fr.app N40 N48q
      obtain ⟨LL48, X48, N48⟩ := own_hide X48 N48
      obtain ⟨cl_b48_50, Ar_b48_50, q_b48_50, S_b48_50, N_b48_50, H_b48_50, G_b48_50⟩ := id V48
      have Al_b48_50 := State.isArrayOf_alike hZ.alike Ar_b48_50.2.1
      have hin_b48_50_0 : ¬ ((0 : Int32) < 0 ∨ cl_b48_50.slots.size ≤ ((0 : Int32)).toNatClampNeg) := inb_of S_b48_50 ⟨by decide, by decide⟩
      have hat_b48_50_0 : cl_b48_50.slots[((0 : Int32)).toNatClampNeg]? = some (.double (own_v q1)) := H_b48_50 _ (by rw [S_b48_50]; decide)
      have ne_b1_b39 : b1 ≠ b39 := Nat.ne_of_lt (Nat.lt_of_lt_of_le (Nat.lt_of_lt_of_le (V_b1_13_33).lt (Keep.of_wr W36).1) (Nat.le_of_eq gg39.symm))
      have V_b1_13_51 := ((((V_b1_13_33.other W36 ne_b1_b28).ext E39).keep K40 (own_nin1 ne_b1_b39)).keep K48 own_nin0)
      obtain ⟨cl_b1_52, Ar_b1_52, q_b1_52, S_b1_52, N_b1_52, H_b1_52, G_b1_52⟩ := id V_b1_13_51
      have Al_b1_52 := State.isArrayOf_alike hZ.alike Ar_b1_52.2.1
      have hin_b1_52_0 : ¬ ((0 : Int32) < 0 ∨ cl_b1_52.slots.size ≤ ((0 : Int32)).toNatClampNeg) := inb_of S_b1_52 ⟨by decide, by decide⟩
      have hat_b1_52_0 : cl_b1_52.slots[((0 : Int32)).toNatClampNeg]? = some (.double (own_v q1)) := H_b1_52 _ (by rw [S_b1_52]; decide)
      have hin_b48_50_1 : ¬ ((1 : Int32) < 0 ∨ cl_b48_50.slots.size ≤ ((1 : Int32)).toNatClampNeg) := inb_of S_b48_50 ⟨by decide, by decide⟩
      have hat_b48_50_1 : cl_b48_50.slots[((1 : Int32)).toNatClampNeg]? = some (.double (own_v (own_us q1 32))) := H_b48_50 _ (by rw [S_b48_50]; decide)
      have hin_b1_52_1 : ¬ ((1 : Int32) < 0 ∨ cl_b1_52.slots.size ≤ ((1 : Int32)).toNatClampNeg) := inb_of S_b1_52 ⟨by decide, by decide⟩
      have hat_b1_52_1 : cl_b1_52.slots[((1 : Int32)).toNatClampNeg]? = some (.double (own_v (own_us q1 32))) := H_b1_52 _ (by rw [S_b1_52]; decide)
      obtain ⟨fs, hr, hrun, hended, hW, hsame⟩ := X48.leave (v := some (.int (1 : Int32))) (fun h => by rw [Bd.returns] at h; cases h)
      refine ⟨_, _, pre25 _ ?_, hrun, hended, _, _, rfl, ?_, ⟨_, rfl⟩, hW, hsame.mono (by decide) (by decide)⟩
      · show Steps p.tables e below (T24.setTop (mkF m 192 #[.val (.int p0), .val (.long q1), .second, .val (.long q2), .second, .val (.long q3), .second, .val (.int (p0 &&& (2147483647 : Int32))), .val (.int ((1 : Int32) + ((p0 &&& (2147483647 : Int32)) % (3 : Int32)))), .val (.int (0 : Int32)), .val (.ref b1), .val (.ref b17), .val (.ref b22), .unset, .unset, .unset, .unset, .unset] [])) _
        show Steps p.tables e below (T24.setTop (mkF m 192 #[.val (.int p0), .val (.long q1), .second, .val (.long q2), .second, .val (.long q3), .second, .val (.int (p0 &&& (2147483647 : Int32))), .val (.int ((1 : Int32) + ((p0 &&& (2147483647 : Int32)) % (3 : Int32)))), .val (.int (0 : Int32)), .val (.ref b1), .val (.ref b17), .val (.ref b22), .unset, .unset, .unset, .unset, .unset] [])) _
        rw [show ((1 : Int32) + ((p0 &&& (2147483647 : Int32)) % (3 : Int32))) = (2 : Int32) from hc]
        refine XS.iload X24.here hx rfl (hb hby at_192) rfl ?_
        refine XS.ifNo X24.here hx rfl (hb hby at_194) rfl ((if0 _ _).trans (teq (by decide : (0 : Int32) = (0 : Int32))).2) ?_
        refine XS.iload X24.here hx rfl (hb hby at_197) rfl ?_
        refine XS.goto X24.here hx rfl (pc0 := 199) (pc' := 206) rfl (hb hby at_199) (by decide) (by decide) ?_
        refine XS.istore X24.here hx rfl (hb hby at_206) rfl (l' := #[.val (.int p0), .val (.long q1), .second, .val (.long q2), .second, .val (.long q3), .second, .val (.int (p0 &&& (2147483647 : Int32))), .val (.int (2 : Int32)), .val (.int (0 : Int32)), .val (.ref b1), .val (.ref b17), .val (.ref b22), .val (.int (2 : Int32)), .unset, .unset, .unset, .unset]) rfl ?_
        refine XS.iload X24.here hx rfl (hb hby at_208) rfl ?_
        refine st28 _ ?_
        refine XS.astore X28.here hx rfl (hb hby at_212) rfl rfl (l' := #[.val (.int p0), .val (.long q1), .second, .val (.long q2), .second, .val (.long q3), .second, .val (.int (p0 &&& (2147483647 : Int32))), .val (.int (2 : Int32)), .val (.int (0 : Int32)), .val (.ref b1), .val (.ref b17), .val (.ref b22), .val (.int (2 : Int32)), .val (.ref b28), .unset, .unset, .unset]) rfl ?_
        refine XS.aload X28.here hx rfl (hb hby at_214) rfl rfl ?_
        refine XS.iconst X28.here hx rfl (hb hby at_216) ?_
        refine XS.aload X28.here hx rfl (hb hby at_217) rfl rfl ?_
        refine XS.iconst X28.here hx rfl (hb hby at_219) ?_
        refine X28.daload hx (j := (0 : Int32)) (v := (.double (own_v q1))) (by rw [e28]; exact Ar_b1_30.1) Al_b1_30 Ar_b1_30.2.2 hin_b1_30_0 hat_b1_30_0 (g := (mkF m 220 #[.val (.int p0), .val (.long q1), .second, .val (.long q2), .second, .val (.long q3), .second, .val (.int (p0 &&& (2147483647 : Int32))), .val (.int (2 : Int32)), .val (.int (0 : Int32)), .val (.ref b1), .val (.ref b17), .val (.ref b22), .val (.int (2 : Int32)), .val (.ref b28), .unset, .unset, .unset] [(.int (0 : Int32)), (.ref b1), (.int (0 : Int32)), (.ref b28)])) rfl rfl (hb hby at_220) _ ?_
        refine st32 _ ?_
        refine XS.iload X32.here hx rfl (hb hby at_222) rfl ?_
        refine XS.iconst X32.here hx rfl (hb hby at_224) ?_
        refine XS.icmpNo X32.here hx rfl (hb hby at_225) rfl (tlt (by decide : (1 : Int32) < (2 : Int32))).2.2.2 ?_
        refine XS.aload X32.here hx rfl (hb hby at_228) rfl rfl ?_
        refine XS.iconst X32.here hx rfl (hb hby at_230) ?_
        refine XS.aload X32.here hx rfl (hb hby at_231) rfl rfl ?_
        refine XS.iconst X32.here hx rfl (hb hby at_233) ?_
        refine X32.daload hx (j := (1 : Int32)) (v := (.double (own_v (own_us q1 32)))) (by rw [e32]; exact Ar_b1_34.1) Al_b1_34 Ar_b1_34.2.2 hin_b1_34_1 hat_b1_34_1 (g := (mkF m 234 #[.val (.int p0), .val (.long q1), .second, .val (.long q2), .second, .val (.long q3), .second, .val (.int (p0 &&& (2147483647 : Int32))), .val (.int (2 : Int32)), .val (.int (0 : Int32)), .val (.ref b1), .val (.ref b17), .val (.ref b22), .val (.int (2 : Int32)), .val (.ref b28), .unset, .unset, .unset] [(.int (1 : Int32)), (.ref b1), (.int (1 : Int32)), (.ref b28)])) rfl rfl (hb hby at_234) _ ?_
        refine st36 _ ?_
        refine XS.iload X36.here hx rfl (hb hby at_236) rfl ?_
        refine XS.iconst X36.here hx rfl (hb hby at_238) ?_
        refine XS.icmpYes X36.here hx rfl (pc0 := 239) (pc' := 250) rfl (hb hby at_239) rfl (flt (by decide : ¬ ((2 : Int32) < (2 : Int32)))).2.2.2 (by decide) (by decide) ?_
        refine XS.iload X36.here hx rfl (hb hby at_250) rfl ?_
        refine XS.iconst X36.here hx rfl (hb hby at_252) ?_
        refine XS.icmpYes X36.here hx rfl (pc0 := 253) (pc' := 264) rfl (hb hby at_253) rfl (flt (by decide : ¬ ((3 : Int32) < (2 : Int32)))).2.2.2 (by decide) (by decide) ?_
        refine XS.iload X36.here hx rfl (hb hby at_264) rfl ?_
        refine XS.iconst X36.here hx rfl (hb hby at_266) ?_
        refine XS.icmpYes X36.here hx rfl (pc0 := 267) (pc' := 278) rfl (hb hby at_267) rfl (flt (by decide : ¬ ((4 : Int32) < (2 : Int32)))).2.2.2 (by decide) (by decide) ?_
        refine XS.iload X36.here hx rfl (hb hby at_278) rfl ?_
        refine XS.iconst X36.here hx rfl (hb hby at_280) ?_
        refine XS.icmpYes X36.here hx rfl (pc0 := 281) (pc' := 292) rfl (hb hby at_281) rfl (flt (by decide : ¬ ((5 : Int32) < (2 : Int32)))).2.2.2 (by decide) (by decide) ?_
        refine st39 _ ?_
        refine XS.dup X39.here hx rfl (hb hby at_295) rfl rfl ?_
        refine XS.aload X39.here hx rfl (hb hby at_296) rfl rfl ?_
        refine XS.aload X39.here hx rfl (hb hby at_298) rfl rfl ?_
        refine XS.aload X39.here hx rfl (hb hby at_300) rfl rfl ?_
        refine st40.trans ?_
        refine XS.astore X40.here hx rfl (hb hby at_305) rfl rfl (l' := #[.val (.int p0), .val (.long q1), .second, .val (.long q2), .second, .val (.long q3), .second, .val (.int (p0 &&& (2147483647 : Int32))), .val (.int (2 : Int32)), .val (.int (0 : Int32)), .val (.ref b1), .val (.ref b17), .val (.ref b22), .val (.int (2 : Int32)), .val (.ref b28), .val (.ref b39), .unset, .unset]) rfl ?_
        refine XS.aload X40.here hx rfl (hb hby at_307) rfl rfl ?_
        refine st48 _ ?_
        refine XS.astore X48.here hx rfl (hb hby at_312) rfl rfl (l' := #[.val (.int p0), .val (.long q1), .second, .val (.long q2), .second, .val (.long q3), .second, .val (.int (p0 &&& (2147483647 : Int32))), .val (.int (2 : Int32)), .val (.int (0 : Int32)), .val (.ref b1), .val (.ref b17), .val (.ref b22), .val (.int (2 : Int32)), .val (.ref b28), .val (.ref b39), .val (.ref b48), .unset]) rfl ?_
        refine XS.aload X48.here hx rfl (hb hby at_314) rfl rfl ?_
        refine X48.arraylength hx Ar_b48_50.1 Al_b48_50 (g := (mkF m 316 #[.val (.int p0), .val (.long q1), .second, .val (.long q2), .second, .val (.long q3), .second, .val (.int (p0 &&& (2147483647 : Int32))), .val (.int (2 : Int32)), .val (.int (0 : Int32)), .val (.ref b1), .val (.ref b17), .val (.ref b22), .val (.int (2 : Int32)), .val (.ref b28), .val (.ref b39), .val (.ref b48), .unset] [(.ref b48)])) rfl rfl (hb hby at_316) _ ?_
        rw [len_of S_b48_50 N_b48_50]
        refine XS.iload X48.here hx rfl (hb hby at_317) rfl ?_
        refine XS.icmpYes X48.here hx rfl (pc0 := 319) (pc' := 324) rfl (hb hby at_319) rfl (teq (by decide : (2 : Int32) = (2 : Int32))).1 (by decide) (by decide) ?_
        refine XS.aload X48.here hx rfl (hb hby at_324) rfl rfl ?_
        refine XS.iconst X48.here hx rfl (hb hby at_326) ?_
        refine X48.daload hx (j := (0 : Int32)) (v := (.double (own_v q1))) Ar_b48_50.1 Al_b48_50 Ar_b48_50.2.2 hin_b48_50_0 hat_b48_50_0 (g := (mkF m 327 #[.val (.int p0), .val (.long q1), .second, .val (.long q2), .second, .val (.long q3), .second, .val (.int (p0 &&& (2147483647 : Int32))), .val (.int (2 : Int32)), .val (.int (0 : Int32)), .val (.ref b1), .val (.ref b17), .val (.ref b22), .val (.int (2 : Int32)), .val (.ref b28), .val (.ref b39), .val (.ref b48), .unset] [(.int (0 : Int32)), (.ref b48)])) rfl rfl (hb hby at_327) _ ?_
        refine XS.aload X48.here hx rfl (hb hby at_328) rfl rfl ?_
        refine XS.iconst X48.here hx rfl (hb hby at_330) ?_
        refine X48.daload hx (j := (0 : Int32)) (v := (.double (own_v q1))) Ar_b1_52.1 Al_b1_52 Ar_b1_52.2.2 hin_b1_52_0 hat_b1_52_0 (g := (mkF m 331 #[.val (.int p0), .val (.long q1), .second, .val (.long q2), .second, .val (.long q3), .second, .val (.int (p0 &&& (2147483647 : Int32))), .val (.int (2 : Int32)), .val (.int (0 : Int32)), .val (.ref b1), .val (.ref b17), .val (.ref b22), .val (.int (2 : Int32)), .val (.ref b28), .val (.ref b39), .val (.ref b48), .unset] [(.int (0 : Int32)), (.ref b1), (.double (own_v q1))])) rfl rfl (hb hby at_331) _ ?_
        refine XS.dcmpS X48.here hx rfl (hb hby at_332) rfl rfl ?_
        refine XS.ifNo X48.here hx rfl (hb hby at_333) rfl ((if0 _ _).trans (teq (own_eqv _)).2) ?_
        refine XS.iconst X48.here hx rfl (hb hby at_336) ?_
        refine XS.goto X48.here hx rfl (pc0 := 337) (pc' := 341) rfl (hb hby at_337) (by decide) (by decide) ?_
        refine XS.istore X48.here hx rfl (hb hby at_341) rfl (l' := #[.val (.int p0), .val (.long q1), .second, .val (.long q2), .second, .val (.long q3), .second, .val (.int (p0 &&& (2147483647 : Int32))), .val (.int (2 : Int32)), .val (.int (0 : Int32)), .val (.ref b1), .val (.ref b17), .val (.ref b22), .val (.int (2 : Int32)), .val (.ref b28), .val (.ref b39), .val (.ref b48), .val (.int (1 : Int32))]) rfl ?_
        refine XS.iload X48.here hx rfl (hb hby at_343) rfl ?_
        refine XS.iconst X48.here hx rfl (hb hby at_345) ?_
        refine XS.icmpNo X48.here hx rfl (hb hby at_346) rfl (tlt (by decide : (1 : Int32) < (2 : Int32))).2.2.2 ?_
        refine XS.iload X48.here hx rfl (hb hby at_349) rfl ?_
        refine XS.ifNo X48.here hx rfl (hb hby at_351) rfl ((if0 _ _).trans (feq (by decide : ¬ ((1 : Int32) = (0 : Int32)))).1) ?_
        refine XS.aload X48.here hx rfl (hb hby at_354) rfl rfl ?_
        refine XS.iconst X48.here hx rfl (hb hby at_356) ?_
        refine X48.daload hx (j := (1 : Int32)) (v := (.double (own_v (own_us q1 32)))) Ar_b48_50.1 Al_b48_50 Ar_b48_50.2.2 hin_b48_50_1 hat_b48_50_1 (g := (mkF m 357 #[.val (.int p0), .val (.long q1), .second, .val (.long q2), .second, .val (.long q3), .second, .val (.int (p0 &&& (2147483647 : Int32))), .val (.int (2 : Int32)), .val (.int (0 : Int32)), .val (.ref b1), .val (.ref b17), .val (.ref b22), .val (.int (2 : Int32)), .val (.ref b28), .val (.ref b39), .val (.ref b48), .val (.int (1 : Int32))] [(.int (1 : Int32)), (.ref b48)])) rfl rfl (hb hby at_357) _ ?_
        refine XS.aload X48.here hx rfl (hb hby at_358) rfl rfl ?_
        refine XS.iconst X48.here hx rfl (hb hby at_360) ?_
        refine X48.daload hx (j := (1 : Int32)) (v := (.double (own_v (own_us q1 32)))) Ar_b1_52.1 Al_b1_52 Ar_b1_52.2.2 hin_b1_52_1 hat_b1_52_1 (g := (mkF m 361 #[.val (.int p0), .val (.long q1), .second, .val (.long q2), .second, .val (.long q3), .second, .val (.int (p0 &&& (2147483647 : Int32))), .val (.int (2 : Int32)), .val (.int (0 : Int32)), .val (.ref b1), .val (.ref b17), .val (.ref b22), .val (.int (2 : Int32)), .val (.ref b28), .val (.ref b39), .val (.ref b48), .val (.int (1 : Int32))] [(.int (1 : Int32)), (.ref b1), (.double (own_v (own_us q1 32)))])) rfl rfl (hb hby at_361) _ ?_
        refine XS.dcmpS X48.here hx rfl (hb hby at_362) rfl rfl ?_
        refine XS.ifNo X48.here hx rfl (hb hby at_363) rfl ((if0 _ _).trans (teq (own_eqv _)).2) ?_
        refine XS.iconst X48.here hx rfl (hb hby at_366) ?_
        refine XS.goto X48.here hx rfl (pc0 := 367) (pc' := 371) rfl (hb hby at_367) (by decide) (by decide) ?_
        refine XS.istore X48.here hx rfl (hb hby at_371) rfl (l' := #[.val (.int p0), .val (.long q1), .second, .val (.long q2), .second, .val (.long q3), .second, .val (.int (p0 &&& (2147483647 : Int32))), .val (.int (2 : Int32)), .val (.int (0 : Int32)), .val (.ref b1), .val (.ref b17), .val (.ref b22), .val (.int (2 : Int32)), .val (.ref b28), .val (.ref b39), .val (.ref b48), .val (.int (1 : Int32))]) rfl ?_
        refine XS.iload X48.here hx rfl (hb hby at_373) rfl ?_
        refine XS.iconst X48.here hx rfl (hb hby at_375) ?_
        refine XS.icmpYes X48.here hx rfl (pc0 := 376) (pc' := 403) rfl (hb hby at_376) rfl (flt (by decide : ¬ ((2 : Int32) < (2 : Int32)))).2.2.2 (by decide) (by decide) ?_
        refine XS.iload X48.here hx rfl (hb hby at_403) rfl ?_
        show Steps p.tables e below (T48.setTop (mkF m 405 #[.val (.int p0), .val (.long q1), .second, .val (.long q2), .second, .val (.long q3), .second, .val (.int (p0 &&& (2147483647 : Int32))), .val (.int (2 : Int32)), .val (.int (0 : Int32)), .val (.ref b1), .val (.ref b17), .val (.ref b22), .val (.int (2 : Int32)), .val (.ref b28), .val (.ref b39), .val (.ref b48), .val (.int (1 : Int32))] [(.int (1 : Int32))])) _
        exact retN X48 hx (t := .boolean) Bd.returns (by simp) (hb hby at_405) hr
      · show Q0 Z p0 h0 n0 _ T48.heap _
        exact ⟨rfl, N48⟩
    · have Vc : Arv Z h24 b22 k22 .int (1 : Int32) [(.int (3 : Int32))] (.int (0 : Int32)) := by have q := V_b22_24; rw [hc] at q; exact q
      obtain ⟨T28, h28, k28, X28, e28, E28, A28, B28, st28⟩ := newPE X24 hx hZ (W 1 rfl) e24 (g := (mkF m 210 #[.val (.int p0), .val (.long q1), .second, .val (.long q2), .second, .val (.long q3), .second, .val (.int (p0 &&& (2147483647 : Int32))), .val (.int (3 : Int32)), .val (.int (0 : Int32)), .val (.ref b1), .val (.ref b17), .val (.ref b22), .val (.int (3 : Int32)), .unset, .unset, .unset, .unset] [(.int (3 : Int32))])) rfl (hb hby at_210) rfl (by decide) (cap := 3) (by decide) (by decide) (by decide) (by decide) (ad := "[D") (by decide)
      obtain ⟨b28, gg28⟩ : ∃ z, z = h24.size := ⟨_, rfl⟩
      rw [← gg28] at A28 B28 st28
      have g_b28 : n0 ≤ b28 := Nat.le_trans Z26z (Nat.le_of_eq gg28.symm)
      have sz_b28 : h0.size ≤ b28 := Nat.le_trans hz27 (Nat.le_of_eq gg28.symm)
      have V_b28 : Arv Z h28 b28 k28 .double (3 : Int32) [(.double (0 : UInt64)), (.double (0 : UInt64)), (.double (0 : UInt64))] (.double (0 : UInt64)) := (Arv.new A28 (by decide)).pad (pad_rep [] (.double (0 : UInt64)) 3)
      have ne_b1_b17 : b1 ≠ b17 := Nat.ne_of_lt (Nat.lt_of_lt_of_le (V_b1_13).lt (Nat.le_of_eq gg17.symm))
      have ne_b1_b22 : b1 ≠ b22 := Nat.ne_of_lt (Nat.lt_of_lt_of_le (Nat.lt_of_lt_of_le (Nat.lt_of_lt_of_le (V_b1_13).lt E17.1) (Keep.of_wr W19).1) (Nat.le_of_eq gg22.symm))
      have V_b1_13_29 := (((((V_b1_13.ext E17).other W19 ne_b1_b17).ext E22).other W24 ne_b1_b22).ext E28)
      obtain ⟨cl_b1_30, Ar_b1_30, q_b1_30, S_b1_30, N_b1_30, H_b1_30, G_b1_30⟩ := id V_b1_13_29
      have Al_b1_30 := State.isArrayOf_alike hZ.alike Ar_b1_30.2.1
      have hin_b1_30_0 : ¬ ((0 : Int32) < 0 ∨ cl_b1_30.slots.size ≤ ((0 : Int32)).toNatClampNeg) := inb_of S_b1_30 ⟨by decide, by decide⟩
      have hat_b1_30_0 : cl_b1_30.slots[((0 : Int32)).toNatClampNeg]? = some (.double (own_v q1)) := H_b1_30 _ (by rw [S_b1_30]; decide)
      obtain ⟨cl_b28_221_31, Ar_b28_221_31, q_b28_221_31, S_b28_221_31, N_b28_221_31, H_b28_221_31, G_b28_221_31⟩ := id V_b28
      have hin_b28_221_31 : ¬ ((0 : Int32) < 0 ∨ cl_b28_221_31.slots.size ≤ ((0 : Int32)).toNatClampNeg) := inb_of S_b28_221_31 ⟨by decide, by decide⟩
      obtain ⟨T32, h32, X32, e32, W32, st32⟩ := stD X28 hx hZ e28 Ar_b28_221_31 (j := (0 : Int32)) hin_b28_221_31 (g := (mkF m 221 #[.val (.int p0), .val (.long q1), .second, .val (.long q2), .second, .val (.long q3), .second, .val (.int (p0 &&& (2147483647 : Int32))), .val (.int (3 : Int32)), .val (.int (0 : Int32)), .val (.ref b1), .val (.ref b17), .val (.ref b22), .val (.int (3 : Int32)), .val (.ref b28), .unset, .unset, .unset] [(.double (own_v q1)), (.int (0 : Int32)), (.ref b28)])) rfl rfl (hb hby at_221)
      have V_b28_32 := Arv.set Ar_b28_221_31 q_b28_221_31 S_b28_221_31 N_b28_221_31 H_b28_221_31 G_b28_221_31 rfl W32 0 rfl (Nat.le_of_ble_eq_true rfl)
      have N32 := Fr.snoc X32 N24 g_b28
      obtain ⟨LL32, X32, N32⟩ := own_hide X32 N32
      have ne_b1_b28 : b1 ≠ b28 := Nat.ne_of_lt (Nat.lt_of_lt_of_le (Nat.lt_of_lt_of_le (Nat.lt_of_lt_of_le (Nat.lt_of_lt_of_le (Nat.lt_of_lt_of_le (V_b1_13).lt E17.1) (Keep.of_wr W19).1) E22.1) (Keep.of_wr W24).1) (Nat.le_of_eq gg28.symm))
      have V_b1_13_33 := (V_b1_13_29.other W32 ne_b1_b28)
      obtain ⟨cl_b1_34, Ar_b1_34, q_b1_34, S_b1_34, N_b1_34, H_b1_34, G_b1_34⟩ := id V_b1_13_33
      have Al_b1_34 := State.isArrayOf_alike hZ.alike Ar_b1_34.2.1
      have hin_b1_34_1 : ¬ ((1 : Int32) < 0 ∨ cl_b1_34.slots.size ≤ ((1 : Int32)).toNatClampNeg) := inb_of S_b1_34 ⟨by decide, by decide⟩
      have hat_b1_34_1 : cl_b1_34.slots[((1 : Int32)).toNatClampNeg]? = some (.double (own_v (own_us q1 32))) := H_b1_34 _ (by rw [S_b1_34]; decide)
      obtain ⟨cl_b28_235_35, Ar_b28_235_35, q_b28_235_35, S_b28_235_35, N_b28_235_35, H_b28_235_35, G_b28_235_35⟩ := id V_b28_32
      have hin_b28_235_35 : ¬ ((1 : Int32) < 0 ∨ cl_b28_235_35.slots.size ≤ ((1 : Int32)).toNatClampNeg) := inb_of S_b28_235_35 ⟨by decide, by decide⟩
      obtain ⟨T36, h36, X36, e36, W36, st36⟩ := stD X32 hx hZ e32 Ar_b28_235_35 (j := (1 : Int32)) hin_b28_235_35 (g := (mkF m 235 #[.val (.int p0), .val (.long q1), .second, .val (.long q2), .second, .val (.long q3), .second, .val (.int (p0 &&& (2147483647 : Int32))), .val (.int (3 : Int32)), .val (.int (0 : Int32)), .val (.ref b1), .val (.ref b17), .val (.ref b22), .val (.int (3 : Int32)), .val (.ref b28), .unset, .unset, .unset] [(.double (own_v (own_us q1 32))), (.int (1 : Int32)), (.ref b28)])) rfl rfl (hb hby at_235)
      have V_b28_36 := Arv.set Ar_b28_235_35 q_b28_235_35 S_b28_235_35 N_b28_235_35 H_b28_235_35 G_b28_235_35 rfl W36 1 rfl (Nat.le_of_ble_eq_true rfl)
      have N36 := Fr.snoc X36 N32 g_b28
      obtain ⟨LL36, X36, N36⟩ := own_hide X36 N36
      have V_b1_13_37 := (V_b1_13_33.other W36 ne_b1_b28)
      obtain ⟨cl_b1_38, Ar_b1_38, q_b1_38, S_b1_38, N_b1_38, H_b1_38, G_b1_38⟩ := id V_b1_13_37
      have Al_b1_38 := State.isArrayOf_alike hZ.alike Ar_b1_38.2.1
      have hin_b1_38_2 : ¬ ((2 : Int32) < 0 ∨ cl_b1_38.slots.size ≤ ((2 : Int32)).toNatClampNeg) := inb_of S_b1_38 ⟨by decide, by decide⟩
      have hat_b1_38_2 : cl_b1_38.slots[((2 : Int32)).toNatClampNeg]? = some (.double (own_v q2)) := H_b1_38 _ (by rw [S_b1_38]; decide)
      obtain ⟨cl_b28_249_39, Ar_b28_249_39, q_b28_249_39, S_b28_249_39, N_b28_249_39, H_b28_249_39, G_b28_249_39⟩ := id V_b28_36
      have hin_b28_249_39 : ¬ ((2 : Int32) < 0 ∨ cl_b28_249_39.slots.size ≤ ((2 : Int32)).toNatClampNeg) := inb_of S_b28_249_39 ⟨by decide, by decide⟩
      obtain ⟨T40, h40, X40, e40, W40, st40⟩ := stD X36 hx hZ e36 Ar_b28_249_39 (j := (2 : Int32)) hin_b28_249_39 (g := (mkF m 249 #[.val (.int p0), .val (.long q1), .second, .val (.long q2), .second, .val (.long q3), .second, .val (.int (p0 &&& (2147483647 : Int32))), .val (.int (3 : Int32)), .val (.int (0 : Int32)), .val (.ref b1), .val (.ref b17), .val (.ref b22), .val (.int (3 : Int32)), .val (.ref b28), .unset, .unset, .unset] [(.double (own_v q2)), (.int (2 : Int32)), (.ref b28)])) rfl rfl (hb hby at_249)
      have V_b28_40 := Arv.set Ar_b28_249_39 q_b28_249_39 S_b28_249_39 N_b28_249_39 H_b28_249_39 G_b28_249_39 rfl W40 2 rfl (Nat.le_of_ble_eq_true rfl)
      have N40 := Fr.snoc X40 N36 g_b28
      obtain ⟨LL40, X40, N40⟩ := own_hide X40 N40
      have Z41z : n0 ≤ h40.size := (Nat.le_trans (Nat.le_trans (Nat.le_trans (Nat.le_trans Z26z E28.1) (Keep.of_wr W32).1) (Keep.of_wr W36).1) (Keep.of_wr W40).1)
      have hz42 : h0.size ≤ h40.size := (Nat.le_trans (Nat.le_trans (Nat.le_trans (Nat.le_trans hz27 E28.1) (Keep.of_wr W32).1) (Keep.of_wr W36).1) (Keep.of_wr W40).1)
      obtain ⟨T43, h43, X43, e43, E43, A43, D43, -, st43⟩ := newO X40 hx hZ hown (W 4 rfl) (W 5 rfl) (W 6 rfl) e40 (g := (mkF m 292 #[.val (.int p0), .val (.long q1), .second, .val (.long q2), .second, .val (.long q3), .second, .val (.int (p0 &&& (2147483647 : Int32))), .val (.int (3 : Int32)), .val (.int (0 : Int32)), .val (.ref b1), .val (.ref b17), .val (.ref b22), .val (.int (3 : Int32)), .val (.ref b28), .unset, .unset, .unset] [])) rfl (hb hby at_292) (by decide) (by decide)
      obtain ⟨b43, gg43⟩ : ∃ z, z = h40.size := ⟨_, rfl⟩
      rw [← gg43] at A43 D43 st43
      have g_b43 : n0 ≤ b43 := Nat.le_trans Z41z (Nat.le_of_eq gg43.symm)
      have sz_b43 : h0.size ≤ b43 := Nat.le_trans hz42 (Nat.le_of_eq gg43.symm)
      have F_scope_b43 : Fld Z h43 b43 "com/example/beliefwire/beliefwire/model/Factor" "scope" "[I" .null := D43 (Or.inr (W 45 rfl)) (ty := (.array .int)) (by decide)
      have F_cardinalities_b43 : Fld Z h43 b43 "com/example/beliefwire/beliefwire/model/Factor" "cardinalities" "[I" .null := D43 (Or.inr (W 47 rfl)) (ty := (.array .int)) (by decide)
      have F_entries_b43 : Fld Z h43 b43 "com/example/beliefwire/beliefwire/model/Factor" "entries" "[D" .null := D43 (Or.inr (W 55 rfl)) (ty := (.array .double)) (by decide)
      have Z45z : n0 ≤ h43.size := (Nat.le_trans Z41z E43.1)
      have ne_b17_b22 : b17 ≠ b22 := Nat.ne_of_lt (Nat.lt_of_lt_of_le (V_b17_19).lt (Nat.le_of_eq gg22.symm))
      have ne_b17_b28 : b17 ≠ b28 := Nat.ne_of_lt (Nat.lt_of_lt_of_le (Nat.lt_of_lt_of_le (Nat.lt_of_lt_of_le (V_b17_19).lt E22.1) (Keep.of_wr W24).1) (Nat.le_of_eq gg28.symm))
      have V_b17_19_46 := (((((((V_b17_19.ext E22).other W24 ne_b17_b22).ext E28).other W32 ne_b17_b28).other W36 ne_b17_b28).other W40 ne_b17_b28).ext E43)
      have B17_47 := ((((((((B17.wr W19).ext E22).wr W24).ext E28).wr W32).wr W36).wr W40).ext E43)
      have ne_b22_b28 : b22 ≠ b28 := Nat.ne_of_lt (Nat.lt_of_lt_of_le (Vc).lt (Nat.le_of_eq gg28.symm))
      have Vc_48 := (((((Vc.ext E28).other W32 ne_b22_b28).other W36 ne_b22_b28).other W40 ne_b22_b28).ext E43)
      have B22_49 := ((((((B22.wr W24).ext E28).wr W32).wr W36).wr W40).ext E43)
      have V_b28_40_50 := (V_b28_40.ext E43)
      have B28_51 := ((((B28.wr W32).wr W36).wr W40).ext E43)
      obtain ⟨_, _, ⟨T44, L44, k44, n44⟩, -, X44, ⟨Lc44, hQ44, l44, y44, z44⟩, st44⟩ := X43.specialBack hx (y := (⟨"com/example/beliefwire/beliefwire/model/Factor", "<init>", "([I[I[D)V"⟩ : MethodName)) rfl hown (mvT hZ (W 7 rfl)) (mvT hZ (W 8 rfl)) (mvT hZ (W 9 rfl)) (by decide) (backOf (W := 1) (rm_in_03 l Z a0 hw [] b43 b17 b22 b28 (own_v q1) (own_v (own_us q1 32)) (own_v q2) _ _ _ k17 k22 k28 h43 n0 Z45z A43 g_b43 F_scope_b43 F_cardinalities_b43 F_entries_b43 V_b17_19_46 B17_47 Vc_48 B22_49 V_b28_40_50 B28_51 (own_vf _) (own_vn _) (own_vf _) (own_vn _) (own_vf _) (own_vn _)) hZ (W 9 rfl) (W 6 rfl) (by decide) (by decide)) (g := (mkF m 302 #[.val (.int p0), .val (.long q1), .second, .val (.long q2), .second, .val (.long q3), .second, .val (.int (p0 &&& (2147483647 : Int32))), .val (.int (3 : Int32)), .val (.int (0 : Int32)), .val (.ref b1), .val (.ref b17), .val (.ref b22), .val (.int (3 : Int32)), .val (.ref b28), .unset, .unset, .unset] [(.ref b28), (.ref b22), (.ref b17), (.ref b43), (.ref b43)])) rfl (by rw [hml]; rfl) (Steps.refl _) (a := b43) (argsL := [(.ref b17), (.ref b22), (.ref b28)]) (rest := [(.ref b43)]) (lenOf pd_9 rfl) rfl (own_le rfl) (hb hby at_302) (fun _ _ => ⟨rfl, e43, (by decide : 5 + 4 ≤ _), (by decide : 14 + 6 ≤ _)⟩)
      dsimp only [Pt.U, Pt.locs, Pt.cells, Pt.slots] at X44 l44 y44 z44 st44 hQ44
      subst l44 y44 z44
      obtain ⟨rfl, N44q, K44, Eq44, bc44, be44, Fc44, Fe44, Ec44, Vc44, Ve44⟩ := hQ44
      have N44 := Fr.app N40 N44q
      obtain ⟨LL44, X44, N44⟩ := own_hide X44 N44
      have Z53z : n0 ≤ T44.heap.size := (Nat.le_trans Z45z K44.1)
      obtain ⟨_, _, ⟨T52, L52, k52, n52⟩, -, X52, ⟨Lc52, hQ52, l52, y52, z52⟩, st52⟩ := Jvm.LawKit.callS X44 hx (y := (⟨"com/example/beliefwire/beliefwire/io/NoisyMax", "leak", "(Lcom/example/beliefwire/beliefwire/model/Factor;)[D"⟩ : MethodName)) hown (mvT hZ (W 56 rfl)) (mvT hZ (W 57 rfl)) (mvT hZ (W 58 rfl)) (mvT hZ (W 59 rfl)) (by decide) (backOf (W := 0) (rm_lk_03 l Z a0 hw [] b43 bc44 be44 (own_v q1) (own_v (own_us q1 32)) (own_v q2) k22 k28 T44.heap n0 Z53z Eq44 Fc44 Vc44 Ec44 Fe44 Ve44) hZ (W 59 rfl) (W 58 rfl) (by decide) (by decide)) (g := (mkF m 309 #[.val (.int p0), .val (.long q1), .second, .val (.long q2), .second, .val (.long q3), .second, .val (.int (p0 &&& (2147483647 : Int32))), .val (.int (3 : Int32)), .val (.int (0 : Int32)), .val (.ref b1), .val (.ref b17), .val (.ref b22), .val (.int (3 : Int32)), .val (.ref b28), .val (.ref b43), .unset, .unset] [(.ref b43)])) rfl (by rw [hml]; rfl) (argsL := [(.ref b43)]) (rest := []) (lenOf pd_10 rfl) rfl (own_le rfl) (hb hby at_309) (fun _ _ => ⟨rfl, rfl, (by decide : 9 + 2 ≤ _), (by decide : 20 + 4 ≤ _)⟩)
      dsimp only [Pt.U, Pt.locs, Pt.cells, Pt.slots] at X52 l52 y52 z52 st52 hQ52
      subst l52 y52 z52
      obtain ⟨⟨b52, kb52, rfl, V52⟩, N52q, K52⟩ := hQ52
      have N52 := Fr.app N44 N52q
      obtain ⟨LL52, X52, N52⟩ := own_hide X52 N52
      obtain ⟨cl_b52_54, Ar_b52_54, q_b52_54, S_b52_54, N_b52_54, H_b52_54, G_b52_54⟩ := id V52
      have Al_b52_54 := State.isArrayOf_alike hZ.alike Ar_b52_54.2.1
      have hin_b52_54_0 : ¬ ((0 : Int32) < 0 ∨ cl_b52_54.slots.size ≤ ((0 : Int32)).toNatClampNeg) := inb_of S_b52_54 ⟨by decide, by decide⟩
      have hat_b52_54_0 : cl_b52_54.slots[((0 : Int32)).toNatClampNeg]? = some (.double (own_v q1)) := H_b52_54 _ (by rw [S_b52_54]; decide)
      have ne_b1_b43 : b1 ≠ b43 := Nat.ne_of_lt (Nat.lt_of_lt_of_le (Nat.lt_of_lt_of_le (V_b1_13_37).lt (Keep.of_wr W40).1) (Nat.le_of_eq gg43.symm))
      have V_b1_13_55 := ((((V_b1_13_37.other W40 ne_b1_b28).ext E43).keep K44 (own_nin1 ne_b1_b43)).keep K52 own_nin0)
      obtain ⟨cl_b1_56, Ar_b1_56, q_b1_56, S_b1_56, N_b1_56, H_b1_56, G_b1_56⟩ := id V_b1_13_55
      have Al_b1_56 := State.isArrayOf_alike hZ.alike Ar_b1_56.2.1
      have hin_b1_56_0 : ¬ ((0 : Int32) < 0 ∨ cl_b1_56.slots.size ≤ ((0 : Int32)).toNatClampNeg) := inb_of S_b1_56 ⟨by decide, by decide⟩
      have hat_b1_56_0 : cl_b1_56.slots[((0 : Int32)).toNatClampNeg]? = some (.double (own_v q1)) := H_b1_56 _ (by rw [S_b1_56]; decide)
      have hin_b52_54_1 : ¬ ((1 : Int32) < 0 ∨ cl_b52_54.slots.size ≤ ((1 : Int32)).toNatClampNeg) := inb_of S_b52_54 ⟨by decide, by decide⟩
      have hat_b52_54_1 : cl_b52_54.slots[((1 : Int32)).toNatClampNeg]? = some (.double (own_v (own_us q1 32))) := H_b52_54 _ (by rw [S_b52_54]; decide)
      have hin_b1_56_1 : ¬ ((1 : Int32) < 0 ∨ cl_b1_56.slots.size ≤ ((1 : Int32)).toNatClampNeg) := inb_of S_b1_56 ⟨by decide, by decide⟩
      have hat_b1_56_1 : cl_b1_56.slots[((1 : Int32)).toNatClampNeg]? = some (.double (own_v (own_us q1 32))) := H_b1_56 _ (by rw [S_b1_56]; decide)
      have hin_b52_54_2 : ¬ ((2 : Int32) < 0 ∨ cl_b52_54.slots.size ≤ ((2 : Int32)).toNatClampNeg) := inb_of S_b52_54 ⟨by decide, by decide⟩
      have hat_b52_54_2 : cl_b52_54.slots[((2 : Int32)).toNatClampNeg]? = some (.double (own_v q2)) := H_b52_54 _ (by rw [S_b52_54]; decide)
      have hin_b1_56_2 : ¬ ((2 : Int32) < 0 ∨ cl_b1_56.slots.size ≤ ((2 : Int32)).toNatClampNeg) := inb_of S_b1_56 ⟨by decide, by decide⟩
      have hat_b1_56_2 : cl_b1_56.slots[((2 : Int32)).toNatClampNeg]? = some (.double (own_v q2)) := H_b1_56 _ (by rw [S_b1_56]; decide)
      obtain ⟨fs, hr, hrun, hended, hW, hsame⟩ := X52.leave (v := some (.int (1 : Int32))) (fun h => by rw [Bd.returns] at h; cases h)
      refine ⟨_, _, pre25 _ ?_, hrun, hended, _, _, rfl, ?_, ⟨_, rfl⟩, hW, hsame.mono (by decide) (by decide)⟩
      · show Steps p.tables e below (T24.setTop (mkF m 192 #[.val (.int p0), .val (.long q1), .second, .val (.long q2), .second, .val (.long q3), .second, .val (.int (p0 &&& (2147483647 : Int32))), .val (.int ((1 : Int32) + ((p0 &&& (2147483647 : Int32)) % (3 : Int32)))), .val (.int (0 : Int32)), .val (.ref b1), .val (.ref b17), .val (.ref b22), .unset, .unset, .unset, .unset, .unset] [])) _
        show Steps p.tables e below (T24.setTop (mkF m 192 #[.val (.int p0), .val (.long q1), .second, .val (.long q2), .second, .val (.long q3), .second, .val (.int (p0 &&& (2147483647 : Int32))), .val (.int ((1 : Int32) + ((p0 &&& (2147483647 : Int32)) % (3 : Int32)))), .val (.int (0 : Int32)), .val (.ref b1), .val (.ref b17), .val (.ref b22), .unset, .unset, .unset, .unset, .unset] [])) _
        rw [show ((1 : Int32) + ((p0 &&& (2147483647 : Int32)) % (3 : Int32))) = (3 : Int32) from hc]
        refine XS.iload X24.here hx rfl (hb hby at_192) rfl ?_
        refine XS.ifNo X24.here hx rfl (hb hby at_194) rfl ((if0 _ _).trans (teq (by decide : (0 : Int32) = (0 : Int32))).2) ?_
        refine XS.iload X24.here hx rfl (hb hby at_197) rfl ?_
        refine XS.goto X24.here hx rfl (pc0 := 199) (pc' := 206) rfl (hb hby at_199) (by decide) (by decide) ?_
        refine XS.istore X24.here hx rfl (hb hby at_206) rfl (l' := #[.val (.int p0), .val (.long q1), .second, .val (.long q2), .second, .val (.long q3), .second, .val (.int (p0 &&& (2147483647 : Int32))), .val (.int (3 : Int32)), .val (.int (0 : Int32)), .val (.ref b1), .val (.ref b17), .val (.ref b22), .val (.int (3 : Int32)), .unset, .unset, .unset, .unset]) rfl ?_
        refine XS.iload X24.here hx rfl (hb hby at_208) rfl ?_
        refine st28 _ ?_
        refine XS.astore X28.here hx rfl (hb hby at_212) rfl rfl (l' := #[.val (.int p0), .val (.long q1), .second, .val (.long q2), .second, .val (.long q3), .second, .val (.int (p0 &&& (2147483647 : Int32))), .val (.int (3 : Int32)), .val (.int (0 : Int32)), .val (.ref b1), .val (.ref b17), .val (.ref b22), .val (.int (3 : Int32)), .val (.ref b28), .unset, .unset, .unset]) rfl ?_
        refine XS.aload X28.here hx rfl (hb hby at_214) rfl rfl ?_
        refine XS.iconst X28.here hx rfl (hb hby at_216) ?_
        refine XS.aload X28.here hx rfl (hb hby at_217) rfl rfl ?_
        refine XS.iconst X28.here hx rfl (hb hby at_219) ?_
        refine X28.daload hx (j := (0 : Int32)) (v := (.double (own_v q1))) (by rw [e28]; exact Ar_b1_30.1) Al_b1_30 Ar_b1_30.2.2 hin_b1_30_0 hat_b1_30_0 (g := (mkF m 220 #[.val (.int p0), .val (.long q1), .second, .val (.long q2), .second, .val (.long q3), .second, .val (.int (p0 &&& (2147483647 : Int32))), .val (.int (3 : Int32)), .val (.int (0 : Int32)), .val (.ref b1), .val (.ref b17), .val (.ref b22), .val (.int (3 : Int32)), .val (.ref b28), .unset, .unset, .unset] [(.int (0 : Int32)), (.ref b1), (.int (0 : Int32)), (.ref b28)])) rfl rfl (hb hby at_220) _ ?_
        refine st32 _ ?_
        refine XS.iload X32.here hx rfl (hb hby at_222) rfl ?_
        refine XS.iconst X32.here hx rfl (hb hby at_224) ?_
        refine XS.icmpNo X32.here hx rfl (hb hby at_225) rfl (tlt (by decide : (1 : Int32) < (3 : Int32))).2.2.2 ?_
        refine XS.aload X32.here hx rfl (hb hby at_228) rfl rfl ?_
        refine XS.iconst X32.here hx rfl (hb hby at_230) ?_
        refine XS.aload X32.here hx rfl (hb hby at_231) rfl rfl ?_
        refine XS.iconst X32.here hx rfl (hb hby at_233) ?_
        refine X32.daload hx (j := (1 : Int32)) (v := (.double (own_v (own_us q1 32)))) (by rw [e32]; exact Ar_b1_34.1) Al_b1_34 Ar_b1_34.2.2 hin_b1_34_1 hat_b1_34_1 (g := (mkF m 234 #[.val (.int p0), .val (.long q1), .second, .val (.long q2), .second, .val (.long q3), .second, .val (.int (p0 &&& (2147483647 : Int32))), .val (.int (3 : Int32)), .val (.int (0 : Int32)), .val (.ref b1), .val (.ref b17), .val (.ref b22), .val (.int (3 : Int32)), .val (.ref b28), .unset, .unset, .unset] [(.int (1 : Int32)), (.ref b1), (.int (1 : Int32)), (.ref b28)])) rfl rfl (hb hby at_234) _ ?_
        refine st36 _ ?_
        refine XS.iload X36.here hx rfl (hb hby at_236) rfl ?_
        refine XS.iconst X36.here hx rfl (hb hby at_238) ?_
        refine XS.icmpNo X36.here hx rfl (hb hby at_239) rfl (tlt (by decide : (2 : Int32) < (3 : Int32))).2.2.2 ?_
        refine XS.aload X36.here hx rfl (hb hby at_242) rfl rfl ?_
        refine XS.iconst X36.here hx rfl (hb hby at_244) ?_
        refine XS.aload X36.here hx rfl (hb hby at_245) rfl rfl ?_
        refine XS.iconst X36.here hx rfl (hb hby at_247) ?_
        refine X36.daload hx (j := (2 : Int32)) (v := (.double (own_v q2))) (by rw [e36]; exact Ar_b1_38.1) Al_b1_38 Ar_b1_38.2.2 hin_b1_38_2 hat_b1_38_2 (g := (mkF m 248 #[.val (.int p0), .val (.long q1), .second, .val (.long q2), .second, .val (.long q3), .second, .val (.int (p0 &&& (2147483647 : Int32))), .val (.int (3 : Int32)), .val (.int (0 : Int32)), .val (.ref b1), .val (.ref b17), .val (.ref b22), .val (.int (3 : Int32)), .val (.ref b28), .unset, .unset, .unset] [(.int (2 : Int32)), (.ref b1), (.int (2 : Int32)), (.ref b28)])) rfl rfl (hb hby at_248) _ ?_
        refine st40 _ ?_
        refine XS.iload X40.here hx rfl (hb hby at_250) rfl ?_
        refine XS.iconst X40.here hx rfl (hb hby at_252) ?_
        refine XS.icmpYes X40.here hx rfl (pc0 := 253) (pc' := 264) rfl (hb hby at_253) rfl (flt (by decide : ¬ ((3 : Int32) < (3 : Int32)))).2.2.2 (by decide) (by decide) ?_
        refine XS.iload X40.here hx rfl (hb hby at_264) rfl ?_
        refine XS.iconst X40.here hx rfl (hb hby at_266) ?_
        refine XS.icmpYes X40.here hx rfl (pc0 := 267) (pc' := 278) rfl (hb hby at_267) rfl (flt (by decide : ¬ ((4 : Int32) < (3 : Int32)))).2.2.2 (by decide) (by decide) ?_
        refine XS.iload X40.here hx rfl (hb hby at_278) rfl ?_
        refine XS.iconst X40.here hx rfl (hb hby at_280) ?_
        refine XS.icmpYes X40.here hx rfl (pc0 := 281) (pc' := 292) rfl (hb hby at_281) rfl (flt (by decide : ¬ ((5 : Int32) < (3 : Int32)))).2.2.2 (by decide) (by decide) ?_
        refine st43 _ ?_
        refine XS.dup X43.here hx rfl (hb hby at_295) rfl rfl ?_
        refine XS.aload X43.here hx rfl (hb hby at_296) rfl rfl ?_
        refine XS.aload X43.here hx rfl (hb hby at_298) rfl rfl ?_
        refine XS.aload X43.here hx rfl (hb hby at_300) rfl rfl ?_
        refine st44.trans ?_
        refine XS.astore X44.here hx rfl (hb hby at_305) rfl rfl (l' := #[.val (.int p0), .val (.long q1), .second, .val (.long q2), .second, .val (.long q3), .second, .val (.int (p0 &&& (2147483647 : Int32))), .val (.int (3 : Int32)), .val (.int (0 : Int32)), .val (.ref b1), .val (.ref b17), .val (.ref b22), .val (.int (3 : Int32)), .val (.ref b28), .val (.ref b43), .unset, .unset]) rfl ?_
        refine XS.aload X44.here hx rfl (hb hby at_307) rfl rfl ?_
        refine st52 _ ?_
        refine XS.astore X52.here hx rfl (hb hby at_312) rfl rfl (l' := #[.val (.int p0), .val (.long q1), .second, .val (.long q2), .second, .val (.long q3), .second, .val (.int (p0 &&& (2147483647 : Int32))), .val (.int (3 : Int32)), .val (.int (0 : Int32)), .val (.ref b1), .val (.ref b17), .val (.ref b22), .val (.int (3 : Int32)), .val (.ref b28), .val (.ref b43), .val (.ref b52), .unset]) rfl ?_
        refine XS.aload X52.here hx rfl (hb hby at_314) rfl rfl ?_
        refine X52.arraylength hx Ar_b52_54.1 Al_b52_54 (g := (mkF m 316 #[.val (.int p0), .val (.long q1), .second, .val (.long q2), .second, .val (.long q3), .second, .val (.int (p0 &&& (2147483647 : Int32))), .val (.int (3 : Int32)), .val (.int (0 : Int32)), .val (.ref b1), .val (.ref b17), .val (.ref b22), .val (.int (3 : Int32)), .val (.ref b28), .val (.ref b43), .val (.ref b52), .unset] [(.ref b52)])) rfl rfl (hb hby at_316) _ ?_
        rw [len_of S_b52_54 N_b52_54]
        refine XS.iload X52.here hx rfl (hb hby at_317) rfl ?_
        refine XS.icmpYes X52.here hx rfl (pc0 := 319) (pc' := 324) rfl (hb hby at_319) rfl (teq (by decide : (3 : Int32) = (3 : Int32))).1 (by decide) (by decide) ?_
        refine XS.aload X52.here hx rfl (hb hby at_324) rfl rfl ?_
        refine XS.iconst X52.here hx rfl (hb hby at_326) ?_
        refine X52.daload hx (j := (0 : Int32)) (v := (.double (own_v q1))) Ar_b52_54.1 Al_b52_54 Ar_b52_54.2.2 hin_b52_54_0 hat_b52_54_0 (g := (mkF m 327 #[.val (.int p0), .val (.long q1), .second, .val (.long q2), .second, .val (.long q3), .second, .val (.int (p0 &&& (2147483647 : Int32))), .val (.int (3 : Int32)), .val (.int (0 : Int32)), .val (.ref b1), .val (.ref b17), .val (.ref b22), .val (.int (3 : Int32)), .val (.ref b28), .val (.ref b43), .val (.ref b52), .unset] [(.int (0 : Int32)), (.ref b52)])) rfl rfl (hb hby at_327) _ ?_
        refine XS.aload X52.here hx rfl (hb hby at_328) rfl rfl ?_
        refine XS.iconst X52.here hx rfl (hb hby at_330) ?_
        refine X52.daload hx (j := (0 : Int32)) (v := (.double (own_v q1))) Ar_b1_56.1 Al_b1_56 Ar_b1_56.2.2 hin_b1_56_0 hat_b1_56_0 (g := (mkF m 331 #[.val (.int p0), .val (.long q1), .second, .val (.long q2), .second, .val (.long q3), .second, .val (.int (p0 &&& (2147483647 : Int32))), .val (.int (3 : Int32)), .val (.int (0 : Int32)), .val (.ref b1), .val (.ref b17), .val (.ref b22), .val (.int (3 : Int32)), .val (.ref b28), .val (.ref b43), .val (.ref b52), .unset] [(.int (0 : Int32)), (.ref b1), (.double (own_v q1))])) rfl rfl (hb hby at_331) _ ?_
        refine XS.dcmpS X52.here hx rfl (hb hby at_332) rfl rfl ?_
        refine XS.ifNo X52.here hx rfl (hb hby at_333) rfl ((if0 _ _).trans (teq (own_eqv _)).2) ?_
        refine XS.iconst X52.here hx rfl (hb hby at_336) ?_
        refine XS.goto X52.here hx rfl (pc0 := 337) (pc' := 341) rfl (hb hby at_337) (by decide) (by decide) ?_
        refine XS.istore X52.here hx rfl (hb hby at_341) rfl (l' := #[.val (.int p0), .val (.long q1), .second, .val (.long q2), .second, .val (.long q3), .second, .val (.int (p0 &&& (2147483647 : Int32))), .val (.int (3 : Int32)), .val (.int (0 : Int32)), .val (.ref b1), .val (.ref b17), .val (.ref b22), .val (.int (3 : Int32)), .val (.ref b28), .val (.ref b43), .val (.ref b52), .val (.int (1 : Int32))]) rfl ?_
        refine XS.iload X52.here hx rfl (hb hby at_343) rfl ?_
        refine XS.iconst X52.here hx rfl (hb hby at_345) ?_
        refine XS.icmpNo X52.here hx rfl (hb hby at_346) rfl (tlt (by decide : (1 : Int32) < (3 : Int32))).2.2.2 ?_
        refine XS.iload X52.here hx rfl (hb hby at_349) rfl ?_
        refine XS.ifNo X52.here hx rfl (hb hby at_351) rfl ((if0 _ _).trans (feq (by decide : ¬ ((1 : Int32) = (0 : Int32)))).1) ?_
        refine XS.aload X52.here hx rfl (hb hby at_354) rfl rfl ?_
        refine XS.iconst X52.here hx rfl (hb hby at_356) ?_
        refine X52.daload hx (j := (1 : Int32)) (v := (.double (own_v (own_us q1 32)))) Ar_b52_54.1 Al_b52_54 Ar_b52_54.2.2 hin_b52_54_1 hat_b52_54_1 (g := (mkF m 357 #[.val (.int p0), .val (.long q1), .second, .val (.long q2), .second, .val (.long q3), .second, .val (.int (p0 &&& (2147483647 : Int32))), .val (.int (3 : Int32)), .val (.int (0 : Int32)), .val (.ref b1), .val (.ref b17), .val (.ref b22), .val (.int (3 : Int32)), .val (.ref b28), .val (.ref b43), .val (.ref b52), .val (.int (1 : Int32))] [(.int (1 : Int32)), (.ref b52)])) rfl rfl (hb hby at_357) _ ?_
        refine XS.aload X52.here hx rfl (hb hby at_358) rfl rfl ?_
        refine XS.iconst X52.here hx rfl (hb hby at_360) ?_
        refine X52.daload hx (j := (1 : Int32)) (v := (.double (own_v (own_us q1 32)))) Ar_b1_56.1 Al_b1_56 Ar_b1_56.2.2 hin_b1_56_1 hat_b1_56_1 (g := (mkF m 361 #[.val (.int p0), .val (.long q1), .second, .val (.long q2), .second, .val (.long q3), .second, .val (.int (p0 &&& (2147483647 : Int32))), .val (.int (3 : Int32)), .val (.int (0 : Int32)), .val (.ref b1), .val (.ref b17), .val (.ref b22), .val (.int (3 : Int32)), .val (.ref b28), .val (.ref b43), .val (.ref b52), .val (.int (1 : Int32))] [(.int (1 : Int32)), (.ref b1), (.double (own_v (own_us q1 32)))])) rfl rfl (hb hby at_361) _ ?_
        refine XS.dcmpS X52.here hx rfl (hb hby at_362) rfl rfl ?_
        refine XS.ifNo X52.here hx rfl (hb hby at_363) rfl ((if0 _ _).trans (teq (own_eqv _)).2) ?_
        refine XS.iconst X52.here hx rfl (hb hby at_366) ?_
        refine XS.goto X52.here hx rfl (pc0 := 367) (pc' := 371) rfl (hb hby at_367) (by decide) (by decide) ?_
        refine XS.istore X52.here hx rfl (hb hby at_371) rfl (l' := #[.val (.int p0), .val (.long q1), .second, .val (.long q2), .second, .val (.long q3), .second, .val (.int (p0 &&& (2147483647 : Int32))), .val (.int (3 : Int32)), .val (.int (0 : Int32)), .val (.ref b1), .val (.ref b17), .val (.ref b22), .val (.int (3 : Int32)), .val (.ref b28), .val (.ref b43), .val (.ref b52), .val (.int (1 : Int32))]) rfl ?_
        refine XS.iload X52.here hx rfl (hb hby at_373) rfl ?_
        refine XS.iconst X52.here hx rfl (hb hby at_375) ?_
        refine XS.icmpNo X52.here hx rfl (hb hby at_376) rfl (tlt (by decide : (2 : Int32) < (3 : Int32))).2.2.2 ?_
        refine XS.iload X52.here hx rfl (hb hby at_379) rfl ?_
        refine XS.ifNo X52.here hx rfl (hb hby at_381) rfl ((if0 _ _).trans (feq (by decide : ¬ ((1 : Int32) = (0 : Int32)))).1) ?_
        refine XS.aload X52.here hx rfl (hb hby at_384) rfl rfl ?_
        refine XS.iconst X52.here hx rfl (hb hby at_386) ?_
        refine X52.daload hx (j := (2 : Int32)) (v := (.double (own_v q2))) Ar_b52_54.1 Al_b52_54 Ar_b52_54.2.2 hin_b52_54_2 hat_b52_54_2 (g := (mkF m 387 #[.val (.int p0), .val (.long q1), .second, .val (.long q2), .second, .val (.long q3), .second, .val (.int (p0 &&& (2147483647 : Int32))), .val (.int (3 : Int32)), .val (.int (0 : Int32)), .val (.ref b1), .val (.ref b17), .val (.ref b22), .val (.int (3 : Int32)), .val (.ref b28), .val (.ref b43), .val (.ref b52), .val (.int (1 : Int32))] [(.int (2 : Int32)), (.ref b52)])) rfl rfl (hb hby at_387) _ ?_
        refine XS.aload X52.here hx rfl (hb hby at_388) rfl rfl ?_
        refine XS.iconst X52.here hx rfl (hb hby at_390) ?_
        refine X52.daload hx (j := (2 : Int32)) (v := (.double (own_v q2))) Ar_b1_56.1 Al_b1_56 Ar_b1_56.2.2 hin_b1_56_2 hat_b1_56_2 (g := (mkF m 391 #[.val (.int p0), .val (.long q1), .second, .val (.long q2), .second, .val (.long q3), .second, .val (.int (p0 &&& (2147483647 : Int32))), .val (.int (3 : Int32)), .val (.int (0 : Int32)), .val (.ref b1), .val (.ref b17), .val (.ref b22), .val (.int (3 : Int32)), .val (.ref b28), .val (.ref b43), .val (.ref b52), .val (.int (1 : Int32))] [(.int (2 : Int32)), (.ref b1), (.double (own_v q2))])) rfl rfl (hb hby at_391) _ ?_
        refine XS.dcmpS X52.here hx rfl (hb hby at_392) rfl rfl ?_
        refine XS.ifNo X52.here hx rfl (hb hby at_393) rfl ((if0 _ _).trans (teq (own_eqv _)).2) ?_
        refine XS.iconst X52.here hx rfl (hb hby at_396) ?_
        refine XS.goto X52.here hx rfl (pc0 := 397) (pc' := 401) rfl (hb hby at_397) (by decide) (by decide) ?_
        refine XS.istore X52.here hx rfl (hb hby at_401) rfl (l' := #[.val (.int p0), .val (.long q1), .second, .val (.long q2), .second, .val (.long q3), .second, .val (.int (p0 &&& (2147483647 : Int32))), .val (.int (3 : Int32)), .val (.int (0 : Int32)), .val (.ref b1), .val (.ref b17), .val (.ref b22), .val (.int (3 : Int32)), .val (.ref b28), .val (.ref b43), .val (.ref b52), .val (.int (1 : Int32))]) rfl ?_
        refine XS.iload X52.here hx rfl (hb hby at_403) rfl ?_
        show Steps p.tables e below (T52.setTop (mkF m 405 #[.val (.int p0), .val (.long q1), .second, .val (.long q2), .second, .val (.long q3), .second, .val (.int (p0 &&& (2147483647 : Int32))), .val (.int (3 : Int32)), .val (.int (0 : Int32)), .val (.ref b1), .val (.ref b17), .val (.ref b22), .val (.int (3 : Int32)), .val (.ref b28), .val (.ref b43), .val (.ref b52), .val (.int (1 : Int32))] [(.int (1 : Int32))])) _
        exact retN X52 hx (t := .boolean) Bd.returns (by simp) (hb hby at_405) hr
      · show Q0 Z p0 h0 n0 _ T52.heap _
        exact ⟨rfl, N52⟩
  · have Z15z : n0 ≤ h13.size := (Nat.le_trans (Nat.le_trans (Nat.le_trans (Nat.le_trans (Nat.le_trans (Nat.le_trans (Nat.le_trans Z0 E1.1) (Keep.of_wr W3).1) (Keep.of_wr W5).1) (Keep.of_wr W7).1) (Keep.of_wr W9).1) (Keep.of_wr W11).1) (Keep.of_wr W13).1)
    have hz16 : h0.size ≤ h13.size := (Nat.le_trans (Nat.le_trans (Nat.le_trans (Nat.le_trans (Nat.le_trans (Nat.le_trans (Nat.le_trans (Nat.le_refl h0.size) E1.1) (Keep.of_wr W3).1) (Keep.of_wr W5).1) (Keep.of_wr W7).1) (Keep.of_wr W9).1) (Keep.of_wr W11).1) (Keep.of_wr W13).1)
    obtain ⟨T17, h17, k17, X17, e17, E17, A17, B17, st17⟩ := newPE X13 hx hZ (W 3 rfl) e13 (g := (mkF m 127 #[.val (.int p0), .val (.long q1), .second, .val (.long q2), .second, .val (.long q3), .second, .val (.int (p0 &&& (2147483647 : Int32))), .val (.int ((1 : Int32) + ((p0 &&& (2147483647 : Int32)) % (3 : Int32)))), .val (.int (1 : Int32)), .val (.ref b1), .unset, .unset, .unset, .unset, .unset, .unset, .unset] [(.int (2 : Int32))])) rfl (hb hby at_127) rfl (by decide) (cap := 2) (by decide) (by decide) (by decide) (by decide) (ad := "[I") (by decide)
    obtain ⟨b17, gg17⟩ : ∃ z, z = h13.size := ⟨_, rfl⟩
    rw [← gg17] at A17 B17 st17
    have g_b17 : n0 ≤ b17 := Nat.le_trans Z15z (Nat.le_of_eq gg17.symm)
    have sz_b17 : h0.size ≤ b17 := Nat.le_trans hz16 (Nat.le_of_eq gg17.symm)
    have V_b17 : Arv Z h17 b17 k17 .int (2 : Int32) [(.int (0 : Int32)), (.int (0 : Int32))] (.int (0 : Int32)) := (Arv.new A17 (by decide)).pad (pad_rep [] (.int (0 : Int32)) 2)
    obtain ⟨cl_b17_133_18, Ar_b17_133_18, q_b17_133_18, S_b17_133_18, N_b17_133_18, H_b17_133_18, G_b17_133_18⟩ := id V_b17
    have hin_b17_133_18 : ¬ ((0 : Int32) < 0 ∨ cl_b17_133_18.slots.size ≤ ((0 : Int32)).toNatClampNeg) := inb_of S_b17_133_18 ⟨by decide, by decide⟩
    obtain ⟨T19, h19, X19, e19, W19, st19⟩ := stI X17 hx hZ e17 Ar_b17_133_18 (j := (0 : Int32)) hin_b17_133_18 (g := (mkF m 133 #[.val (.int p0), .val (.long q1), .second, .val (.long q2), .second, .val (.long q3), .second, .val (.int (p0 &&& (2147483647 : Int32))), .val (.int ((1 : Int32) + ((p0 &&& (2147483647 : Int32)) % (3 : Int32)))), .val (.int (1 : Int32)), .val (.ref b1), .unset, .unset, .unset, .unset, .unset, .unset, .unset] [(.int (7 : Int32)), (.int (0 : Int32)), (.ref b17), (.ref b17)])) rfl rfl (hb hby at_133)
    have V_b17_19 := Arv.set Ar_b17_133_18 q_b17_133_18 S_b17_133_18 N_b17_133_18 H_b17_133_18 G_b17_133_18 rfl W19 0 rfl (Nat.le_of_ble_eq_true rfl)
    have N19 := Fr.snoc X19 N13 g_b17
    obtain ⟨LL19, X19, N19⟩ := own_hide X19 N19
    obtain ⟨cl_b17_137_20, Ar_b17_137_20, q_b17_137_20, S_b17_137_20, N_b17_137_20, H_b17_137_20, G_b17_137_20⟩ := id V_b17_19
    have hin_b17_137_20 : ¬ ((1 : Int32) < 0 ∨ cl_b17_137_20.slots.size ≤ ((1 : Int32)).toNatClampNeg) := inb_of S_b17_137_20 ⟨by decide, by decide⟩
    obtain ⟨T21, h21, X21, e21, W21, st21⟩ := stI X19 hx hZ e19 Ar_b17_137_20 (j := (1 : Int32)) hin_b17_137_20 (g := (mkF m 137 #[.val (.int p0), .val (.long q1), .second, .val (.long q2), .second, .val (.long q3), .second, .val (.int (p0 &&& (2147483647 : Int32))), .val (.int ((1 : Int32) + ((p0 &&& (2147483647 : Int32)) % (3 : Int32)))), .val (.int (1 : Int32)), .val (.ref b1), .unset, .unset, .unset, .unset, .unset, .unset, .unset] [(.int (3 : Int32)), (.int (1 : Int32)), (.ref b17), (.ref b17)])) rfl rfl (hb hby at_137)
    have V_b17_21 := Arv.set Ar_b17_137_20 q_b17_137_20 S_b17_137_20 N_b17_137_20 H_b17_137_20 G_b17_137_20 rfl W21 1 rfl (Nat.le_of_ble_eq_true rfl)
    have N21 := Fr.snoc X21 N19 g_b17
    obtain ⟨LL21, X21, N21⟩ := own_hide X21 N21
    have Z22z : n0 ≤ h21.size := (Nat.le_trans (Nat.le_trans (Nat.le_trans Z15z E17.1) (Keep.of_wr W19).1) (Keep.of_wr W21).1)
    have hz23 : h0.size ≤ h21.size := (Nat.le_trans (Nat.le_trans (Nat.le_trans hz16 E17.1) (Keep.of_wr W19).1) (Keep.of_wr W21).1)
    obtain ⟨T24, h24, k24, X24, e24, E24, A24, B24, st24⟩ := newPE X21 hx hZ (W 3 rfl) e21 (g := (mkF m 141 #[.val (.int p0), .val (.long q1), .second, .val (.long q2), .second, .val (.long q3), .second, .val (.int (p0 &&& (2147483647 : Int32))), .val (.int ((1 : Int32) + ((p0 &&& (2147483647 : Int32)) % (3 : Int32)))), .val (.int (1 : Int32)), .val (.ref b1), .val (.ref b17), .unset, .unset, .unset, .unset, .unset, .unset] [(.int (2 : Int32))])) rfl (hb hby at_141) rfl (by decide) (cap := 2) (by decide) (by decide) (by decide) (by decide) (ad := "[I") (by decide)
    obtain ⟨b24, gg24⟩ : ∃ z, z = h21.size := ⟨_, rfl⟩
    rw [← gg24] at A24 B24 st24
    have g_b24 : n0 ≤ b24 := Nat.le_trans Z22z (Nat.le_of_eq gg24.symm)
    have sz_b24 : h0.size ≤ b24 := Nat.le_trans hz23 (Nat.le_of_eq gg24.symm)
    have V_b24 : Arv Z h24 b24 k24 .int (2 : Int32) [(.int (0 : Int32)), (.int (0 : Int32))] (.int (0 : Int32)) := (Arv.new A24 (by decide)).pad (pad_rep [] (.int (0 : Int32)) 2)
    obtain ⟨cl_b24_146_25, Ar_b24_146_25, q_b24_146_25, S_b24_146_25, N_b24_146_25, H_b24_146_25, G_b24_146_25⟩ := id V_b24
    have hin_b24_146_25 : ¬ ((0 : Int32) < 0 ∨ cl_b24_146_25.slots.size ≤ ((0 : Int32)).toNatClampNeg) := inb_of S_b24_146_25 ⟨by decide, by decide⟩
    obtain ⟨T26, h26, X26, e26, W26, st26⟩ := stI X24 hx hZ e24 Ar_b24_146_25 (j := (0 : Int32)) hin_b24_146_25 (g := (mkF m 146 #[.val (.int p0), .val (.long q1), .second, .val (.long q2), .second, .val (.long q3), .second, .val (.int (p0 &&& (2147483647 : Int32))), .val (.int ((1 : Int32) + ((p0 &&& (2147483647 : Int32)) % (3 : Int32)))), .val (.int (1 : Int32)), .val (.ref b1), .val (.ref b17), .unset, .unset, .unset, .unset, .unset, .unset] [(.int (2 : Int32)), (.int (0 : Int32)), (.ref b24), (.ref b24)])) rfl rfl (hb hby at_146)
    have V_b24_26 := Arv.set Ar_b24_146_25 q_b24_146_25 S_b24_146_25 N_b24_146_25 H_b24_146_25 G_b24_146_25 rfl W26 0 rfl (Nat.le_of_ble_eq_true rfl)
    have N26 := Fr.snoc X26 N21 g_b24
    obtain ⟨LL26, X26, N26⟩ := own_hide X26 N26
    obtain ⟨cl_b24_151_27, Ar_b24_151_27, q_b24_151_27, S_b24_151_27, N_b24_151_27, H_b24_151_27, G_b24_151_27⟩ := id V_b24_26
    have hin_b24_151_27 : ¬ ((1 : Int32) < 0 ∨ cl_b24_151_27.slots.size ≤ ((1 : Int32)).toNatClampNeg) := inb_of S_b24_151_27 ⟨by decide, by decide⟩
    obtain ⟨T28, h28, X28, e28, W28, st28⟩ := stI X26 hx hZ e26 Ar_b24_151_27 (j := (1 : Int32)) hin_b24_151_27 (g := (mkF m 151 #[.val (.int p0), .val (.long q1), .second, .val (.long q2), .second, .val (.long q3), .second, .val (.int (p0 &&& (2147483647 : Int32))), .val (.int ((1 : Int32) + ((p0 &&& (2147483647 : Int32)) % (3 : Int32)))), .val (.int (1 : Int32)), .val (.ref b1), .val (.ref b17), .unset, .unset, .unset, .unset, .unset, .unset] [(.int ((1 : Int32) + ((p0 &&& (2147483647 : Int32)) % (3 : Int32)))), (.int (1 : Int32)), (.ref b24), (.ref b24)])) rfl rfl (hb hby at_151)
    have V_b24_28 := Arv.set Ar_b24_151_27 q_b24_151_27 S_b24_151_27 N_b24_151_27 H_b24_151_27 G_b24_151_27 rfl W28 1 rfl (Nat.le_of_ble_eq_true rfl)
    have N28 := Fr.snoc X28 N26 g_b24
    obtain ⟨LL28, X28, N28⟩ := own_hide X28 N28
    have pre29 : ∀ t, Steps p.tables e below (T28.setTop (mkF m 192 #[.val (.int p0), .val (.long q1), .second, .val (.long q2), .second, .val (.long q3), .second, .val (.int (p0 &&& (2147483647 : Int32))), .val (.int ((1 : Int32) + ((p0 &&& (2147483647 : Int32)) % (3 : Int32)))), .val (.int (1 : Int32)), .val (.ref b1), .val (.ref b17), .val (.ref b24), .unset, .unset, .unset, .unset, .unset] [])) t → Steps p.tables e below (s₁.setTop (entryFrame m #[(.int p0), (.long q1), (.long q2), (.long q3)] maxLocals)) t := by
      intro t kt
      refine pre14 _ ?_
      show Steps p.tables e below (T13.setTop (mkF m 93 #[.val (.int p0), .val (.long q1), .second, .val (.long q2), .second, .val (.long q3), .second, .val (.int (p0 &&& (2147483647 : Int32))), .val (.int ((1 : Int32) + ((p0 &&& (2147483647 : Int32)) % (3 : Int32)))), .val (.int (((p0 &&& (2147483647 : Int32)) / (3 : Int32)) % (3 : Int32))), .val (.ref b1), .unset, .unset, .unset, .unset, .unset, .unset, .unset] [])) _
      show Steps p.tables e below (T13.setTop (mkF m 93 #[.val (.int p0), .val (.long q1), .second, .val (.long q2), .second, .val (.long q3), .second, .val (.int (p0 &&& (2147483647 : Int32))), .val (.int ((1 : Int32) + ((p0 &&& (2147483647 : Int32)) % (3 : Int32)))), .val (.int (((p0 &&& (2147483647 : Int32)) / (3 : Int32)) % (3 : Int32))), .val (.ref b1), .unset, .unset, .unset, .unset, .unset, .unset, .unset] [])) _
      rw [show (((p0 &&& (2147483647 : Int32)) / (3 : Int32)) % (3 : Int32)) = (1 : Int32) from hk]
      refine XS.iload X13.here hx rfl (hb hby at_93) rfl ?_
      refine XS.ifYes X13.here hx rfl (pc0 := 95) (pc' := 120) rfl (hb hby at_95) rfl ((if0 _ _).trans (feq (by decide : ¬ ((1 : Int32) = (0 : Int32)))).2) (by decide) (by decide) ?_
      refine XS.iload X13.here hx rfl (hb hby at_120) rfl ?_
      refine XS.iconst X13.here hx rfl (hb hby at_122) ?_
      refine XS.icmpNo X13.here hx rfl (hb hby at_123) rfl (teq (by decide : (1 : Int32) = (1 : Int32))).2 ?_
      refine XS.iconst X13.here hx rfl (hb hby at_126) ?_
      refine st17 _ ?_
      refine XS.dup X17.here hx rfl (hb hby at_129) rfl rfl ?_
      refine XS.iconst X17.here hx rfl (hb hby at_130) ?_
      refine XS.bipush X17.here hx rfl (hb hby at_131) ?_
      refine st19 _ ?_
      refine XS.dup X19.here hx rfl (hb hby at_134) rfl rfl ?_
      refine XS.iconst X19.here hx rfl (hb hby at_135) ?_
      refine XS.iconst X19.here hx rfl (hb hby at_136) ?_
      refine st21 _ ?_
      refine XS.astore X21.here hx rfl (hb hby at_138) rfl rfl (l' := #[.val (.int p0), .val (.long q1), .second, .val (.long q2), .second, .val (.long q3), .second, .val (.int (p0 &&& (2147483647 : Int32))), .val (.int ((1 : Int32) + ((p0 &&& (2147483647 : Int32)) % (3 : Int32)))), .val (.int (1 : Int32)), .val (.ref b1), .val (.ref b17), .unset, .unset, .unset, .unset, .unset, .unset]) rfl ?_
      refine XS.iconst X21.here hx rfl (hb hby at_140) ?_
      refine st24 _ ?_
      refine XS.dup X24.here hx rfl (hb hby at_143) rfl rfl ?_
      refine XS.iconst X24.here hx rfl (hb hby at_144) ?_
      refine XS.iconst X24.here hx rfl (hb hby at_145) ?_
      refine st26 _ ?_
      refine XS.dup X26.here hx rfl (hb hby at_147) rfl rfl ?_
      refine XS.iconst X26.here hx rfl (hb hby at_148) ?_
      refine XS.iload X26.here hx rfl (hb hby at_149) rfl ?_
      refine st28 _ ?_
      refine XS.astore X28.here hx rfl (hb hby at_152) rfl rfl (l' := #[.val (.int p0), .val (.long q1), .second, .val (.long q2), .second, .val (.long q3), .second, .val (.int (p0 &&& (2147483647 : Int32))), .val (.int ((1 : Int32) + ((p0 &&& (2147483647 : Int32)) % (3 : Int32)))), .val (.int (1 : Int32)), .val (.ref b1), .val (.ref b17), .val (.ref b24), .unset, .unset, .unset, .unset, .unset]) rfl ?_
      refine XS.goto X28.here hx rfl (pc0 := 154) (pc' := 192) rfl (hb hby at_154) (by decide) (by decide) ?_
      show Steps p.tables e below (T28.setTop (mkF m 192 #[.val (.int p0), .val (.long q1), .second, .val (.long q2), .second, .val (.long q3), .second, .val (.int (p0 &&& (2147483647 : Int32))), .val (.int ((1 : Int32) + ((p0 &&& (2147483647 : Int32)) % (3 : Int32)))), .val (.int (1 : Int32)), .val (.ref b1), .val (.ref b17), .val (.ref b24), .unset, .unset, .unset, .unset, .unset] [])) _
      exact kt
    have Z30z : n0 ≤ h28.size := (Nat.le_trans (Nat.le_trans (Nat.le_trans Z22z E24.1) (Keep.of_wr W26).1) (Keep.of_wr W28).1)
    have hz31 : h0.size ≤ h28.size := (Nat.le_trans (Nat.le_trans (Nat.le_trans hz23 E24.1) (Keep.of_wr W26).1) (Keep.of_wr W28).1)
    rcases (own_nine p0).1 with hc | hc | hc
    · have Vc : Arv Z h28 b24 k24 .int (2 : Int32) [(.int (2 : Int32)), (.int (1 : Int32))] (.int (0 : Int32)) := by have q := V_b24_28; rw [hc] at q; exact q
      obtain ⟨T32, h32, k32, X32, e32, E32, A32, B32, st32⟩ := newPE X28 hx hZ (W 1 rfl) e28 (g := (mkF m 210 #[.val (.int p0), .val (.long q1), .second, .val (.long q2), .second, .val (.long q3), .second, .val (.int (p0 &&& (2147483647 : Int32))), .val (.int (1 : Int32)), .val (.int (1 : Int32)), .val (.ref b1), .val (.ref b17), .val (.ref b24), .val (.int (2 : Int32)), .unset, .unset, .unset, .unset] [(.int (2 : Int32))])) rfl (hb hby at_210) rfl (by decide) (cap := 2) (by decide) (by decide) (by decide) (by decide) (ad := "[D") (by decide)
      obtain ⟨b32, gg32⟩ : ∃ z, z = h28.size := ⟨_, rfl⟩
      rw [← gg32] at A32 B32 st32
      have g_b32 : n0 ≤ b32 := Nat.le_trans Z30z (Nat.le_of_eq gg32.symm)
      have sz_b32 : h0.size ≤ b32 := Nat.le_trans hz31 (Nat.le_of_eq gg32.symm)
      have V_b32 : Arv Z h32 b32 k32 .double (2 : Int32) [(.double (0 : UInt64)), (.double (0 : UInt64))] (.double (0 : UInt64)) := (Arv.new A32 (by decide)).pad (pad_rep [] (.double (0 : UInt64)) 2)
      have ne_b1_b17 : b1 ≠ b17 := Nat.ne_of_lt (Nat.lt_of_lt_of_le (V_b1_13).lt (Nat.le_of_eq gg17.symm))
      have ne_b1_b24 : b1 ≠ b24 := Nat.ne_of_lt (Nat.lt_of_lt_of_le (Nat.lt_of_lt_of_le (Nat.lt_of_lt_of_le (Nat.lt_of_lt_of_le (V_b1_13).lt E17.1) (Keep.of_wr W19).1) (Keep.of_wr W21).1) (Nat.le_of_eq gg24.symm))
      have V_b1_13_33 := (((((((V_b1_13.ext E17).other W19 ne_b1_b17).other W21 ne_b1_b17).ext E24).other W26 ne_b1_b24).other W28 ne_b1_b24).ext E32)
      obtain ⟨cl_b1_34, Ar_b1_34, q_b1_34, S_b1_34, N_b1_34, H_b1_34, G_b1_34⟩ := id V_b1_13_33
      have Al_b1_34 := State.isArrayOf_alike hZ.alike Ar_b1_34.2.1
      have hin_b1_34_0 : ¬ ((0 : Int32) < 0 ∨ cl_b1_34.slots.size ≤ ((0 : Int32)).toNatClampNeg) := inb_of S_b1_34 ⟨by decide, by decide⟩
      have hat_b1_34_0 : cl_b1_34.slots[((0 : Int32)).toNatClampNeg]? = some (.double (own_v q1)) := H_b1_34 _ (by rw [S_b1_34]; decide)
      obtain ⟨cl_b32_221_35, Ar_b32_221_35, q_b32_221_35, S_b32_221_35, N_b32_221_35, H_b32_221_35, G_b32_221_35⟩ := id V_b32
      have hin_b32_221_35 : ¬ ((0 : Int32) < 0 ∨ cl_b32_221_35.slots.size ≤ ((0 : Int32)).toNatClampNeg) := inb_of S_b32_221_35 ⟨by decide, by decide⟩
      obtain ⟨T36, h36, X36, e36, W36, st36⟩ := stD X32 hx hZ e32 Ar_b32_221_35 (j := (0 : Int32)) hin_b32_221_35 (g := (mkF m 221 #[.val (.int p0), .val (.long q1), .second, .val (.long q2), .second, .val (.long q3), .second, .val (.int (p0 &&& (2147483647 : Int32))), .val (.int (1 : Int32)), .val (.int (1 : Int32)), .val (.ref b1), .val (.ref b17), .val (.ref b24), .val (.int (2 : Int32)), .val (.ref b32), .unset, .unset, .unset] [(.double (own_v q1)), (.int (0 : Int32)), (.ref b32)])) rfl rfl (hb hby at_221)
      have V_b32_36 := Arv.set Ar_b32_221_35 q_b32_221_35 S_b32_221_35 N_b32_221_35 H_b32_221_35 G_b32_221_35 rfl W36 0 rfl (Nat.le_of_ble_eq_true rfl)
      have N36 := Fr.snoc X36 N28 g_b32
      obtain ⟨LL36, X36, N36⟩ := own_hide X36 N36
      have ne_b1_b32 : b1 ≠ b32 := Nat.ne_of_lt (Nat.lt_of_lt_of_le (Nat.lt_of_lt_of_le (Nat.lt_of_lt_of_le (Nat.lt_of_lt_of_le (Nat.lt_of_lt_of_le (Nat.lt_of_lt_of_le (Nat.lt_of_lt_of_le (V_b1_13).lt E17.1) (Keep.of_wr W19).1) (Keep.of_wr W21).1) E24.1) (Keep.of_wr W26).1) (Keep.of_wr W28).1) (Nat.le_of_eq gg32.symm))
      have V_b1_13_37 := (V_b1_13_33.other W36 ne_b1_b32)
      obtain ⟨cl_b1_38, Ar_b1_38, q_b1_38, S_b1_38, N_b1_38, H_b1_38, G_b1_38⟩ := id V_b1_13_37
      have Al_b1_38 := State.isArrayOf_alike hZ.alike Ar_b1_38.2.1
      have hin_b1_38_1 : ¬ ((1 : Int32) < 0 ∨ cl_b1_38.slots.size ≤ ((1 : Int32)).toNatClampNeg) := inb_of S_b1_38 ⟨by decide, by decide⟩
      have hat_b1_38_1 : cl_b1_38.slots[((1 : Int32)).toNatClampNeg]? = some (.double (own_v (own_us q1 32))) := H_b1_38 _ (by rw [S_b1_38]; decide)
      obtain ⟨cl_b32_235_39, Ar_b32_235_39, q_b32_235_39, S_b32_235_39, N_b32_235_39, H_b32_235_39, G_b32_235_39⟩ := id V_b32_36
      have hin_b32_235_39 : ¬ ((1 : Int32) < 0 ∨ cl_b32_235_39.slots.size ≤ ((1 : Int32)).toNatClampNeg) := inb_of S_b32_235_39 ⟨by decide, by decide⟩
      obtain ⟨T40, h40, X40, e40, W40, st40⟩ := stD X36 hx hZ e36 Ar_b32_235_39 (j := (1 : Int32)) hin_b32_235_39 (g := (mkF m 235 #[.val (.int p0), .val (.long q1), .second, .val (.long q2), .second, .val (.long q3), .second, .val (.int (p0 &&& (2147483647 : Int32))), .val (.int (1 : Int32)), .val (.int (1 : Int32)), .val (.ref b1), .val (.ref b17), .val (.ref b24), .val (.int (2 : Int32)), .val (.ref b32), .unset, .unset, .unset] [(.double (own_v (own_us q1 32))), (.int (1 : Int32)), (.ref b32)])) rfl rfl (hb hby at_235)
      have V_b32_40 := Arv.set Ar_b32_235_39 q_b32_235_39 S_b32_235_39 N_b32_235_39 H_b32_235_39 G_b32_235_39 rfl W40 1 rfl (Nat.le_of_ble_eq_true rfl)
      have N40 := Fr.snoc X40 N36 g_b32
      obtain ⟨LL40, X40, N40⟩ := own_hide X40 N40
      have Z41z : n0 ≤ h40.size := (Nat.le_trans (Nat.le_trans (Nat.le_trans Z30z E32.1) (Keep.of_wr W36).1) (Keep.of_wr W40).1)
      have hz42 : h0.size ≤ h40.size := (Nat.le_trans (Nat.le_trans (Nat.le_trans hz31 E32.1) (Keep.of_wr W36).1) (Keep.of_wr W40).1)
      obtain ⟨T43, h43, X43, e43, E43, A43, D43, -, st43⟩ := newO X40 hx hZ hown (W 4 rfl) (W 5 rfl) (W 6 rfl) e40 (g := (mkF m 292 #[.val (.int p0), .val (.long q1), .second, .val (.long q2), .second, .val (.long q3), .second, .val (.int (p0 &&& (2147483647 : Int32))), .val (.int (1 : Int32)), .val (.int (1 : Int32)), .val (.ref b1), .val (.ref b17), .val (.ref b24), .val (.int (2 : Int32)), .val (.ref b32), .unset, .unset, .unset] [])) rfl (hb hby at_292) (by decide) (by decide)
      obtain ⟨b43, gg43⟩ : ∃ z, z = h40.size := ⟨_, rfl⟩
      rw [← gg43] at A43 D43 st43
      have g_b43 : n0 ≤ b43 := Nat.le_trans Z41z (Nat.le_of_eq gg43.symm)
      have sz_b43 : h0.size ≤ b43 := Nat.le_trans hz42 (Nat.le_of_eq gg43.symm)
      have F_scope_b43 : Fld Z h43 b43 "com/example/beliefwire/beliefwire/model/Factor" "scope" "[I" .null := D43 (Or.inr (W 45 rfl)) (ty := (.array .int)) (by decide)
      have F_cardinalities_b43 : Fld Z h43 b43 "com/example/beliefwire/beliefwire/model/Factor" "cardinalities" "[I" .null := D43 (Or.inr (W 47 rfl)) (ty := (.array .int)) (by decide)
      have F_entries_b43 : Fld Z h43 b43 "com/example/beliefwire/beliefwire/model/Factor" "entries" "[D" .null := D43 (Or.inr (W 55 rfl)) (ty := (.array .double)) (by decide)
      have Z45z : n0 ≤ h43.size := (Nat.le_trans Z41z E43.1)
      have ne_b17_b24 : b17 ≠ b24 := Nat.ne_of_lt (Nat.lt_of_lt_of_le (V_b17_21).lt (Nat.le_of_eq gg24.symm))
      have ne_b17_b32 : b17 ≠ b32 := Nat.ne_of_lt (Nat.lt_of_lt_of_le (Nat.lt_of_lt_of_le (Nat.lt_of_lt_of_le (Nat.lt_of_lt_of_le (V_b17_21).lt E24.1) (Keep.of_wr W26).1) (Keep.of_wr W28).1) (Nat.le_of_eq gg32.symm))
      have V_b17_21_46 := (((((((V_b17_21.ext E24).other W26 ne_b17_b24).other W28 ne_b17_b24).ext E32).other W36 ne_b17_b32).other W40 ne_b17_b32).ext E43)
      have B17_47 := (((((((((B17.wr W19).wr W21).ext E24).wr W26).wr W28).ext E32).wr W36).wr W40).ext E43)
      have ne_b24_b32 : b24 ≠ b32 := Nat.ne_of_lt (Nat.lt_of_lt_of_le (Vc).lt (Nat.le_of_eq gg32.symm))
      have Vc_48 := ((((Vc.ext E32).other W36 ne_b24_b32).other W40 ne_b24_b32).ext E43)
      have B24_49 := ((((((B24.wr W26).wr W28).ext E32).wr W36).wr W40).ext E43)
      have V_b32_40_50 := (V_b32_40.ext E43)
      have B32_51 := (((B32.wr W36).wr W40).ext E43)
      obtain ⟨_, _, ⟨T44, L44, k44, n44⟩, -, X44, ⟨Lc44, hQ44, l44, y44, z44⟩, st44⟩ := X43.specialBack hx (y := (⟨"com/example/beliefwire/beliefwire/model/Factor", "<init>", "([I[I[D)V"⟩ : MethodName)) rfl hown (mvT hZ (W 7 rfl)) (mvT hZ (W 8 rfl)) (mvT hZ (W 9 rfl)) (by decide) (backOf (W := 1) (rm_in_11 l Z a0 hw [] b43 b17 b24 b32 (own_v q1) (own_v (own_us q1 32)) _ _ _ k17 k24 k32 h43 n0 Z45z A43 g_b43 F_scope_b43 F_cardinalities_b43 F_entries_b43 V_b17_21_46 B17_47 Vc_48 B24_49 V_b32_40_50 B32_51 (own_vf _) (own_vn _) (own_vf _) (own_vn _)) hZ (W 9 rfl) (W 6 rfl) (by decide) (by decide)) (g := (mkF m 302 #[.val (.int p0), .val (.long q1), .second, .val (.long q2), .second, .val (.long q3), .second, .val (.int (p0 &&& (2147483647 : Int32))), .val (.int (1 : Int32)), .val (.int (1 : Int32)), .val (.ref b1), .val (.ref b17), .val (.ref b24), .val (.int (2 : Int32)), .val (.ref b32), .unset, .unset, .unset] [(.ref b32), (.ref b24), (.ref b17), (.ref b43), (.ref b43)])) rfl (by rw [hml]; rfl) (Steps.refl _) (a := b43) (argsL := [(.ref b17), (.ref b24), (.ref b32)]) (rest := [(.ref b43)]) (lenOf pd_9 rfl) rfl (own_le rfl) (hb hby at_302) (fun _ _ => ⟨rfl, e43, (by decide : 5 + 4 ≤ _), (by decide : 15 + 8 ≤ _)⟩)
      dsimp only [Pt.U, Pt.locs, Pt.cells, Pt.slots] at X44 l44 y44 z44 st44 hQ44
      subst l44 y44 z44
      obtain ⟨rfl, N44q, K44, Eq44, bc44, be44, Fc44, Fe44, Ec44, Vc44, Ve44⟩ := hQ44
      have N44 := Fr.app N40 N44q
      obtain ⟨LL44, X44, N44⟩ := own_hide X44 N44
      have Z53z : n0 ≤ T44.heap.size := (Nat.le_trans Z45z K44.1)
      obtain ⟨_, _, ⟨T52, L52, k52, n52⟩, -, X52, ⟨Lc52, hQ52, l52, y52, z52⟩, st52⟩ := Jvm.LawKit.callS X44 hx (y := (⟨"com/example/beliefwire/beliefwire/io/NoisyMax", "leak", "(Lcom/example/beliefwire/beliefwire/model/Factor;)[D"⟩ : MethodName)) hown (mvT hZ (W 56 rfl)) (mvT hZ (W 57 rfl)) (mvT hZ (W 58 rfl)) (mvT hZ (W 59 rfl)) (by decide) (backOf (W := 0) (rm_lk_11 l Z a0 hw [] b43 bc44 be44 (own_v q1) (own_v (own_us q1 32)) k24 k32 T44.heap n0 Z53z Eq44 Fc44 Vc44 Ec44 Fe44 Ve44) hZ (W 59 rfl) (W 58 rfl) (by decide) (by decide)) (g := (mkF m 309 #[.val (.int p0), .val (.long q1), .second, .val (.long q2), .second, .val (.long q3), .second, .val (.int (p0 &&& (2147483647 : Int32))), .val (.int (1 : Int32)), .val (.int (1 : Int32)), .val (.ref b1), .val (.ref b17), .val (.ref b24), .val (.int (2 : Int32)), .val (.ref b32), .val (.ref b43), .unset, .unset] [(.ref b43)])) rfl (by rw [hml]; rfl) (argsL := [(.ref b43)]) (rest := []) (lenOf pd_10 rfl) rfl (own_le rfl) (hb hby at_309) (fun _ _ => ⟨rfl, rfl, (by decide : 9 + 2 ≤ _), (by decide : 23 + 3 ≤ _)⟩)
      dsimp only [Pt.U, Pt.locs, Pt.cells, Pt.slots] at X52 l52 y52 z52 st52 hQ52
      subst l52 y52 z52
      obtain ⟨⟨b52, kb52, rfl, V52⟩, N52q, K52⟩ := hQ52
      have N52 := Fr.app N44 N52q
      obtain ⟨LL52, X52, N52⟩ := own_hide X52 N52
      obtain ⟨cl_b52_54, Ar_b52_54, q_b52_54, S_b52_54, N_b52_54, H_b52_54, G_b52_54⟩ := id V52
      have Al_b52_54 := State.isArrayOf_alike hZ.alike Ar_b52_54.2.1
      have hin_b52_54_0 : ¬ ((0 : Int32) < 0 ∨ cl_b52_54.slots.size ≤ ((0 : Int32)).toNatClampNeg) := inb_of S_b52_54 ⟨by decide, by decide⟩
      have hat_b52_54_0 : cl_b52_54.slots[((0 : Int32)).toNatClampNeg]? = some (.double (own_v q1)) := H_b52_54 _ (by rw [S_b52_54]; decide)
      have ne_b1_b43 : b1 ≠ b43 := Nat.ne_of_lt (Nat.lt_of_lt_of_le (Nat.lt_of_lt_of_le (V_b1_13_37).lt (Keep.of_wr W40).1) (Nat.le_of_eq gg43.symm))
      have V_b1_13_55 := ((((V_b1_13_37.other W40 ne_b1_b32).ext E43).keep K44 (own_nin1 ne_b1_b43)).keep K52 own_nin0)
      obtain ⟨cl_b1_56, Ar_b1_56, q_b1_56, S_b1_56, N_b1_56, H_b1_56, G_b1_56⟩ := id V_b1_13_55
      have Al_b1_56 := State.isArrayOf_alike hZ.alike Ar_b1_56.2.1
      have hin_b1_56_0 : ¬ ((0 : Int32) < 0 ∨ cl_b1_56.slots.size ≤ ((0 : Int32)).toNatClampNeg) := inb_of S_b1_56 ⟨by decide, by decide⟩
      have hat_b1_56_0 : cl_b1_56.slots[((0 : Int32)).toNatClampNeg]? = some (.double (own_v q1)) := H_b1_56 _ (by rw [S_b1_56]; decide)
      obtain ⟨fs, hr, hrun, hended, hW, hsame⟩ := X52.leave (v := some (.int (1 : Int32))) (fun h => by rw [Bd.returns] at h; cases h)
      refine ⟨_, _, pre29 _ ?_, hrun, hended, _, _, rfl, ?_, ⟨_, rfl⟩, hW, hsame.mono (by decide) (by decide)⟩
      · show Steps p.tables e below (T28.setTop (mkF m 192 #[.val (.int p0), .val (.long q1), .second, .val (.long q2), .second, .val (.long q3), .second, .val (.int (p0 &&& (2147483647 : Int32))), .val (.int ((1 : Int32) + ((p0 &&& (2147483647 : Int32)) % (3 : Int32)))), .val (.int (1 : Int32)), .val (.ref b1), .val (.ref b17), .val (.ref b24), .unset, .unset, .unset, .unset, .unset] [])) _
        show Steps p.tables e below (T28.setTop (mkF m 192 #[.val (.int p0), .val (.long q1), .second, .val (.long q2), .second, .val (.long q3), .second, .val (.int (p0 &&& (2147483647 : Int32))), .val (.int ((1 : Int32) + ((p0 &&& (2147483647 : Int32)) % (3 : Int32)))), .val (.int (1 : Int32)), .val (.ref b1), .val (.ref b17), .val (.ref b24), .unset, .unset, .unset, .unset, .unset] [])) _
        rw [show ((1 : Int32) + ((p0 &&& (2147483647 : Int32)) % (3 : Int32))) = (1 : Int32) from hc]
        refine XS.iload X28.here hx rfl (hb hby at_192) rfl ?_
        refine XS.ifYes X28.here hx rfl (pc0 := 194) (pc' := 202) rfl (hb hby at_194) rfl ((if0 _ _).trans (feq (by decide : ¬ ((1 : Int32) = (0 : Int32)))).2) (by decide) (by decide) ?_
        refine XS.iconst X28.here hx rfl (hb hby at_202) ?_
        refine XS.iload X28.here hx rfl (hb hby at_203) rfl ?_
        refine XS.imul X28.here hx rfl (hb hby at_205) rfl ?_
        show Steps p.tables e below (T28.setTop (mkF m 206 #[.val (.int p0), .val (.long q1), .second, .val (.long q2), .second, .val (.long q3), .second, .val (.int (p0 &&& (2147483647 : Int32))), .val (.int (1 : Int32)), .val (.int (1 : Int32)), .val (.ref b1), .val (.ref b17), .val (.ref b24), .unset, .unset, .unset, .unset, .unset] [(.int ((2 : Int32) * (1 : Int32)))])) _
        rw [show ((2 : Int32) * (1 : Int32)) = (2 : Int32) from (by decide)]
        refine XS.istore X28.here hx rfl (hb hby at_206) rfl (l' := #[.val (.int p0), .val (.long q1), .second, .val (.long q2), .second, .val (.long q3), .second, .val (.int (p0 &&& (2147483647 : Int32))), .val (.int (1 : Int32)), .val (.int (1 : Int32)), .val (.ref b1), .val (.ref b17), .val (.ref b24), .val (.int (2 : Int32)), .unset, .unset, .unset, .unset]) rfl ?_
        refine XS.iload X28.here hx rfl (hb hby at_208) rfl ?_
        refine st32 _ ?_
        refine XS.astore X32.here hx rfl (hb hby at_212) rfl rfl (l' := #[.val (.int p0), .val (.long q1), .second, .val (.long q2), .second, .val (.long q3), .second, .val (.int (p0 &&& (2147483647 : Int32))), .val (.int (1 : Int32)), .val (.int (1 : Int32)), .val (.ref b1), .val (.ref b17), .val (.ref b24), .val (.int (2 : Int32)), .val (.ref b32), .unset, .unset, .unset]) rfl ?_
        refine XS.aload X32.here hx rfl (hb hby at_214) rfl rfl ?_
        refine XS.iconst X32.here hx rfl (hb hby at_216) ?_
        refine XS.aload X32.here hx rfl (hb hby at_217) rfl rfl ?_
        refine XS.iconst X32.here hx rfl (hb hby at_219) ?_
        refine X32.daload hx (j := (0 : Int32)) (v := (.double (own_v q1))) (by rw [e32]; exact Ar_b1_34.1) Al_b1_34 Ar_b1_34.2.2 hin_b1_34_0 hat_b1_34_0 (g := (mkF m 220 #[.val (.int p0), .val (.long q1), .second, .val (.long q2), .second, .val (.long q3), .second, .val (.int (p0 &&& (2147483647 : Int32))), .val (.int (1 : Int32)), .val (.int (1 : Int32)), .val (.ref b1), .val (.ref b17), .val (.ref b24), .val (.int (2 : Int32)), .val (.ref b32), .unset, .unset, .unset] [(.int (0 : Int32)), (.ref b1), (.int (0 : Int32)), (.ref b32)])) rfl rfl (hb hby at_220) _ ?_
        refine st36 _ ?_
        refine XS.iload X36.here hx rfl (hb hby at_222) rfl ?_
        refine XS.iconst X36.here hx rfl (hb hby at_224) ?_
        refine XS.icmpNo X36.here hx rfl (hb hby at_225) rfl (tlt (by decide : (1 : Int32) < (2 : Int32))).2.2.2 ?_
        refine XS.aload X36.here hx rfl (hb hby at_228) rfl rfl ?_
        refine XS.iconst X36.here hx rfl (hb hby at_230) ?_
        refine XS.aload X36.here hx rfl (hb hby at_231) rfl rfl ?_
        refine XS.iconst X36.here hx rfl (hb hby at_233) ?_
        refine X36.daload hx (j := (1 : Int32)) (v := (.double (own_v (own_us q1 32)))) (by rw [e36]; exact Ar_b1_38.1) Al_b1_38 Ar_b1_38.2.2 hin_b1_38_1 hat_b1_38_1 (g := (mkF m 234 #[.val (.int p0), .val (.long q1), .second, .val (.long q2), .second, .val (.long q3), .second, .val (.int (p0 &&& (2147483647 : Int32))), .val (.int (1 : Int32)), .val (.int (1 : Int32)), .val (.ref b1), .val (.ref b17), .val (.ref b24), .val (.int (2 : Int32)), .val (.ref b32), .unset, .unset, .unset] [(.int (1 : Int32)), (.ref b1), (.int (1 : Int32)), (.ref b32)])) rfl rfl (hb hby at_234) _ ?_
        refine st40 _ ?_
        refine XS.iload X40.here hx rfl (hb hby at_236) rfl ?_
        refine XS.iconst X40.here hx rfl (hb hby at_238) ?_
        refine XS.icmpYes X40.here hx rfl (pc0 := 239) (pc' := 250) rfl (hb hby at_239) rfl (flt (by decide : ¬ ((2 : Int32) < (2 : Int32)))).2.2.2 (by decide) (by decide) ?_
        refine XS.iload X40.here hx rfl (hb hby at_250) rfl ?_
        refine XS.iconst X40.here hx rfl (hb hby at_252) ?_
        refine XS.icmpYes X40.here hx rfl (pc0 := 253) (pc' := 264) rfl (hb hby at_253) rfl (flt (by decide : ¬ ((3 : Int32) < (2 : Int32)))).2.2.2 (by decide) (by decide) ?_
        refine XS.iload X40.here hx rfl (hb hby at_264) rfl ?_
        refine XS.iconst X40.here hx rfl (hb hby at_266) ?_
        refine XS.icmpYes X40.here hx rfl (pc0 := 267) (pc' := 278) rfl (hb hby at_267) rfl (flt (by decide : ¬ ((4 : Int32) < (2 : Int32)))).2.2.2 (by decide) (by decide) ?_
        refine XS.iload X40.here hx rfl (hb hby at_278) rfl ?_
        refine XS.iconst X40.here hx rfl (hb hby at_280) ?_
        refine XS.icmpYes X40.here hx rfl (pc0 := 281) (pc' := 292) rfl (hb hby at_281) rfl (flt (by decide : ¬ ((5 : Int32) < (2 : Int32)))).2.2.2 (by decide) (by decide) ?_
        refine st43 _ ?_
        refine XS.dup X43.here hx rfl (hb hby at_295) rfl rfl ?_
        refine XS.aload X43.here hx rfl (hb hby at_296) rfl rfl ?_
        refine XS.aload X43.here hx rfl (hb hby at_298) rfl rfl ?_
        refine XS.aload X43.here hx rfl (hb hby at_300) rfl rfl ?_
        refine st44.trans ?_
        refine XS.astore X44.here hx rfl (hb hby at_305) rfl rfl (l' := #[.val (.int p0), .val (.long q1), .second, .val (.long q2), .second, .val (.long q3), .second, .val (.int (p0 &&& (2147483647 : Int32))), .val (.int (1 : Int32)), .val (.int (1 : Int32)), .val (.ref b1), .val (.ref b17), .val (.ref b24), .val (.int (2 : Int32)), .val (.ref b32), .val (.ref b43), .unset, .unset]) rfl ?_
        refine XS.aload X44.here hx rfl (hb hby at_307) rfl rfl ?_
        refine st52 _ ?_
        refine XS.astore X52.here hx rfl (hb hby at_312) rfl rfl (l' := #[.val (.int p0), .val (.long q1), .second, .val (.long q2), .second, .val (.long q3), .second, .val (.int (p0 &&& (2147483647 : Int32))), .val (.int (1 : Int32)), .val (.int (1 : Int32)), .val (.ref b1), .val (.ref b17), .val (.ref b24), .val (.int (2 : Int32)), .val (.ref b32), .val (.ref b43), .val (.ref b52), .unset]) rfl ?_
        refine XS.aload X52.here hx rfl (hb hby at_314) rfl rfl ?_
        refine X52.arraylength hx Ar_b52_54.1 Al_b52_54 (g := (mkF m 316 #[.val (.int p0), .val (.long q1), .second, .val (.long q2), .second, .val (.long q3), .second, .val (.int (p0 &&& (2147483647 : Int32))), .val (.int (1 : Int32)), .val (.int (1 : Int32)), .val (.ref b1), .val (.ref b17), .val (.ref b24), .val (.int (2 : Int32)), .val (.ref b32), .val (.ref b43), .val (.ref b52), .unset] [(.ref b52)])) rfl rfl (hb hby at_316) _ ?_
        rw [len_of S_b52_54 N_b52_54]
        refine XS.iload X52.here hx rfl (hb hby at_317) rfl ?_
        refine XS.icmpYes X52.here hx rfl (pc0 := 319) (pc' := 324) rfl (hb hby at_319) rfl (teq (by decide : (1 : Int32) = (1 : Int32))).1 (by decide) (by decide) ?_
        refine XS.aload X52.here hx rfl (hb hby at_324) rfl rfl ?_
        refine XS.iconst X52.here hx rfl (hb hby at_326) ?_
        refine X52.daload hx (j := (0 : Int32)) (v := (.double (own_v q1))) Ar_b52_54.1 Al_b52_54 Ar_b52_54.2.2 hin_b52_54_0 hat_b52_54_0 (g := (mkF m 327 #[.val (.int p0), .val (.long q1), .second, .val (.long q2), .second, .val (.long q3), .second, .val (.int (p0 &&& (2147483647 : Int32))), .val (.int (1 : Int32)), .val (.int (1 : Int32)), .val (.ref b1), .val (.ref b17), .val (.ref b24), .val (.int (2 : Int32)), .val (.ref b32), .val (.ref b43), .val (.ref b52), .unset] [(.int (0 : Int32)), (.ref b52)])) rfl rfl (hb hby at_327) _ ?_
        refine XS.aload X52.here hx rfl (hb hby at_328) rfl rfl ?_
        refine XS.iconst X52.here hx rfl (hb hby at_330) ?_
        refine X52.daload hx (j := (0 : Int32)) (v := (.double (own_v q1))) Ar_b1_56.1 Al_b1_56 Ar_b1_56.2.2 hin_b1_56_0 hat_b1_56_0 (g := (mkF m 331 #[.val (.int p0), .val (.long q1), .second, .val (.long q2), .second, .val (.long q3), .second, .val (.int (p0 &&& (2147483647 : Int32))), .val (.int (1 : Int32)), .val (.int (1 : Int32)), .val (.ref b1), .val (.ref b17), .val (.ref b24), .val (.int (2 : Int32)), .val (.ref b32), .val (.ref b43), .val (.ref b52), .unset] [(.int (0 : Int32)), (.ref b1), (.double (own_v q1))])) rfl rfl (hb hby at_331) _ ?_
        refine XS.dcmpS X52.here hx rfl (hb hby at_332) rfl rfl ?_
        refine XS.ifNo X52.here hx rfl (hb hby at_333) rfl ((if0 _ _).trans (teq (own_eqv _)).2) ?_
        refine XS.iconst X52.here hx rfl (hb hby at_336) ?_
        refine XS.goto X52.here hx rfl (pc0 := 337) (pc' := 341) rfl (hb hby at_337) (by decide) (by decide) ?_
        refine XS.istore X52.here hx rfl (hb hby at_341) rfl (l' := #[.val (.int p0), .val (.long q1), .second, .val (.long q2), .second, .val (.long q3), .second, .val (.int (p0 &&& (2147483647 : Int32))), .val (.int (1 : Int32)), .val (.int (1 : Int32)), .val (.ref b1), .val (.ref b17), .val (.ref b24), .val (.int (2 : Int32)), .val (.ref b32), .val (.ref b43), .val (.ref b52), .val (.int (1 : Int32))]) rfl ?_
        refine XS.iload X52.here hx rfl (hb hby at_343) rfl ?_
        refine XS.iconst X52.here hx rfl (hb hby at_345) ?_
        refine XS.icmpYes X52.here hx rfl (pc0 := 346) (pc' := 373) rfl (hb hby at_346) rfl (flt (by decide : ¬ ((1 : Int32) < (1 : Int32)))).2.2.2 (by decide) (by decide) ?_
        refine XS.iload X52.here hx rfl (hb hby at_373) rfl ?_
        refine XS.iconst X52.here hx rfl (hb hby at_375) ?_
        refine XS.icmpYes X52.here hx rfl (pc0 := 376) (pc' := 403) rfl (hb hby at_376) rfl (flt (by decide : ¬ ((2 : Int32) < (1 : Int32)))).2.2.2 (by decide) (by decide) ?_
        refine XS.iload X52.here hx rfl (hb hby at_403) rfl ?_
        show Steps p.tables e below (T52.setTop (mkF m 405 #[.val (.int p0), .val (.long q1), .second, .val (.long q2), .second, .val (.long q3), .second, .val (.int (p0 &&& (2147483647 : Int32))), .val (.int (1 : Int32)), .val (.int (1 : Int32)), .val (.ref b1), .val (.ref b17), .val (.ref b24), .val (.int (2 : Int32)), .val (.ref b32), .val (.ref b43), .val (.ref b52), .val (.int (1 : Int32))] [(.int (1 : Int32))])) _
        exact retN X52 hx (t := .boolean) Bd.returns (by simp) (hb hby at_405) hr
      · show Q0 Z p0 h0 n0 _ T52.heap _
        exact ⟨rfl, N52⟩
    · have Vc : Arv Z h28 b24 k24 .int (2 : Int32) [(.int (2 : Int32)), (.int (2 : Int32))] (.int (0 : Int32)) := by have q := V_b24_28; rw [hc] at q; exact q
      obtain ⟨T32, h32, k32, X32, e32, E32, A32, B32, st32⟩ := newPE X28 hx hZ (W 1 rfl) e28 (g := (mkF m 210 #[.val (.int p0), .val (.long q1), .second, .val (.long q2), .second, .val (.long q3), .second, .val (.int (p0 &&& (2147483647 : Int32))), .val (.int (2 : Int32)), .val (.int (1 : Int32)), .val (.ref b1), .val (.ref b17), .val (.ref b24), .val (.int (4 : Int32)), .unset, .unset, .unset, .unset] [(.int (4 : Int32))])) rfl (hb hby at_210) rfl (by decide) (cap := 4) (by decide) (by decide) (by decide) (by decide) (ad := "[D") (by decide)
      obtain ⟨b32, gg32⟩ : ∃ z, z = h28.size := ⟨_, rfl⟩
      rw [← gg32] at A32 B32 st32
      have g_b32 : n0 ≤ b32 := Nat.le_trans Z30z (Nat.le_of_eq gg32.symm)
      have sz_b32 : h0.size ≤ b32 := Nat.le_trans hz31 (Nat.le_of_eq gg32.symm)
      have V_b32 : Arv Z h32 b32 k32 .double (4 : Int32) [(.double (0 : UInt64)), (.double (0 : UInt64)), (.double (0 : UInt64)), (.double (0 : UInt64))] (.double (0 : UInt64)) := (Arv.new A32 (by decide)).pad (pad_rep [] (.double (0 : UInt64)) 4)
      have ne_b1_b17 : b1 ≠ b17 := Nat.ne_of_lt (Nat.lt_of_lt_of_le (V_b1_13).lt (Nat.le_of_eq gg17.symm))
      have ne_b1_b24 : b1 ≠ b24 := Nat.ne_of_lt (Nat.lt_of_lt_of_le (Nat.lt_of_lt_of_le (Nat.lt_of_lt_of_le (Nat.lt_of_lt_of_le (V_b1_13).lt E17.1) (Keep.of_wr W19).1) (Keep.of_wr W21).1) (Nat.le_of_eq gg24.symm))
      have V_b1_13_33 := (((((((V_b1_13.ext E17).other W19 ne_b1_b17).other W21 ne_b1_b17).ext E24).other W26 ne_b1_b24).other W28 ne_b1_b24).ext E32)
      obtain ⟨cl_b1_34, Ar_b1_34, q_b1_34, S_b1_34, N_b1_34, H_b1_34, G_b1_34⟩ := id V_b1_13_33
      have Al_b1_34 := State.isArrayOf_alike hZ.alike Ar_b1_34.2.1
      have hin_b1_34_0 : ¬ ((0 : Int32) < 0 ∨ cl_b1_34.slots.size ≤ ((0 : Int32)).toNatClampNeg) := inb_of S_b1_34 ⟨by decide, by decide⟩
      have hat_b1_34_0 : cl_b1_34.slots[((0 : Int32)).toNatClampNeg]? = some (.double (own_v q1)) := H_b1_34 _ (by rw [S_b1_34]; decide)
      obtain ⟨cl_b32_221_35, Ar_b32_221_35, q_b32_221_35, S_b32_221_35, N_b32_221_35, H_b32_221_35, G_b32_221_35⟩ := id V_b32
      have hin_b32_221_35 : ¬ ((0 : Int32) < 0 ∨ cl_b32_221_35.slots.size ≤ ((0 : Int32)).toNatClampNeg) := inb_of S_b32_221_35 ⟨by decide, by decide⟩
      obtain ⟨T36, h36, X36, e36, W36, st36⟩ := stD X32 hx hZ e32 Ar_b32_221_35 (j := (0 : Int32)) hin_b32_221_35 (g := (mkF m 221 #[.val (.int p0), .val (.long q1), .second, .val (.long q2), .second, .val (.long q3), .second, .val (.int (p0 &&& (2147483647 : Int32))), .val (.int (2 : Int32)), .val (.int (1 : Int32)), .val (.ref b1), .val (.ref b17), .val (.ref b24), .val (.int (4 : Int32)), .val (.ref b32), .unset, .unset, .unset] [(.double (own_v q1)), (.int (0 : Int32)), (.ref b32)])) rfl rfl (hb hby at_221)
      have V_b32_36 := Arv.set Ar_b32_221_35 q_b32_221_35 S_b32_221_35 N_b32_221_35 H_b32_221_35 G_b32_221_35 rfl W36 0 rfl (Nat.le_of_ble_eq_true rfl)
      have N36 := Fr.snoc X36 N28 g_b32
      obtain ⟨LL36, X36, N36⟩ := own_hide X36 N36
      have ne_b1_b32 : b1 ≠ b32 := Nat.ne_of_lt (Nat.lt_of_lt_of_le (Nat.lt_of_lt_of_le (Nat.lt_of_lt_of_le (Nat.lt_of_lt_of_le (Nat.lt_of_lt_of_le (Nat.lt_of_lt_of_le (Nat.lt_of_lt_of_le (V_b1_13).lt E17.1) (Keep.of_wr W19).1) (Keep.of_wr W21).1) E24.1) (Keep.of_wr W26).1) (Keep.of_wr W28).1) (Nat.le_of_eq gg32.symm))
      have V_b1_13_37 := (V_b1_13_33.other W36 ne_b1_b32)
      obtain ⟨cl_b1_38, Ar_b1_38, q_b1_38, S_b1_38, N_b1_38, H_b1_38, G_b1_38⟩ := id V_b1_13_37
      have Al_b1_38 := State.isArrayOf_alike hZ.alike Ar_b1_38.2.1
      have hin_b1_38_1 : ¬ ((1 : Int32) < 0 ∨ cl_b1_38.slots.size ≤ ((1 : Int32)).toNatClampNeg) := inb_of S_b1_38 ⟨by decide, by decide⟩
      have hat_b1_38_1 : cl_b1_38.slots[((1 : Int32)).toNatClampNeg]? = some (.double (own_v (own_us q1 32))) := H_b1_38 _ (by rw [S_b1_38]; decide)
      obtain ⟨cl_b32_235_39, Ar_b32_235_39, q_b32_235_39, S_b32_235_39, N_b32_235_39, H_b32_235_39, G_b32_235_39⟩ := id V_b32_36
      have hin_b32_235_39 : ¬ ((1 : Int32) < 0 ∨ cl_b32_235_39.slots.size ≤ ((1 : Int32)).toNatClampNeg) := inb_of S_b32_235_39 ⟨by decide, by decide⟩
      obtain ⟨T40, h40, X40, e40, W40, st40⟩ := stD X36 hx hZ e36 Ar_b32_235_39 (j := (1 : Int32)) hin_b32_235_39 (g := (mkF m 235 #[.val (.int p0), .val (.long q1), .second, .val (.long q2), .second, .val (.long q3), .second, .val (.int (p0 &&& (2147483647 : Int32))), .val (.int (2 : Int32)), .val (.int (1 : Int32)), .val (.ref b1), .val (.ref b17), .val (.ref b24), .val (.int (4 : Int32)), .val (.ref b32), .unset, .unset, .unset] [(.double (own_v (own_us q1 32))), (.int (1 : Int32)), (.ref b32)])) rfl rfl (hb hby at_235)
      have V_b32_40 := Arv.set Ar_b32_235_39 q_b32_235_39 S_b32_235_39 N_b32_235_39 H_b32_235_39 G_b32_235_39 rfl W40 1 rfl (Nat.le_of_ble_eq_true rfl)
      have N40 := Fr.snoc X40 N36 g_b32
      obtain ⟨LL40, X40, N40⟩ := own_hide X40 N40
      have V_b1_13_41 := (V_b1_13_37.other W40 ne_b1_b32)
      obtain ⟨cl_b1_42, Ar_b1_42, q_b1_42, S_b1_42, N_b1_42, H_b1_42, G_b1_42⟩ := id V_b1_13_41
      have Al_b1_42 := State.isArrayOf_alike hZ.alike Ar_b1_42.2.1
      have hin_b1_42_2 : ¬ ((2 : Int32) < 0 ∨ cl_b1_42.slots.size ≤ ((2 : Int32)).toNatClampNeg) := inb_of S_b1_42 ⟨by decide, by decide⟩
      have hat_b1_42_2 : cl_b1_42.slots[((2 : Int32)).toNatClampNeg]? = some (.double (own_v q2)) := H_b1_42 _ (by rw [S_b1_42]; decide)
      obtain ⟨cl_b32_249_43, Ar_b32_249_43, q_b32_249_43, S_b32_249_43, N_b32_249_43, H_b32_249_43, G_b32_249_43⟩ := id V_b32_40
      have hin_b32_249_43 : ¬ ((2 : Int32) < 0 ∨ cl_b32_249_43.slots.size ≤ ((2 : Int32)).toNatClampNeg) := inb_of S_b32_249_43 ⟨by decide, by decide⟩
      obtain ⟨T44, h44, X44, e44, W44, st44⟩ := stD X40 hx hZ e40 Ar_b32_249_43 (j := (2 : Int32)) hin_b32_249_43 (g := (mkF m 249 #[.val (.int p0), .val (.long q1), .second, .val (.long q2), .second, .val (.long q3), .second, .val (.int (p0 &&& (2147483647 : Int32))), .val (.int (2 : Int32)), .val (.int (1 : Int32)), .val (.ref b1), .val (.ref b17), .val (.ref b24), .val (.int (4 : Int32)), .val (.ref b32), .unset, .unset, .unset] [(.double (own_v q2)), (.int (2 : Int32)), (.ref b32)])) rfl rfl (hb hby at_249)
      have V_b32_44 := Arv.set Ar_b32_249_43 q_b32_249_43 S_b32_249_43 N_b32_249_43 H_b32_249_43 G_b32_249_43 rfl W44 2 rfl (Nat.le_of_ble_eq_true rfl)
      have N44 := Fr.snoc X44 N40 g_b32
      obtain ⟨LL44, X44, N44⟩ := own_hide X44 N44
      have V_b1_13_45 := (V_b1_13_41.other W44 ne_b1_b32)
      obtain ⟨cl_b1_46, Ar_b1_46, q_b1_46, S_b1_46, N_b1_46, H_b1_46, G_b1_46⟩ := id V_b1_13_45
      have Al_b1_46 := State.isArrayOf_alike hZ.alike Ar_b1_46.2.1
      have hin_b1_46_3 : ¬ ((3 : Int32) < 0 ∨ cl_b1_46.slots.size ≤ ((3 : Int32)).toNatClampNeg) := inb_of S_b1_46 ⟨by decide, by decide⟩
      have hat_b1_46_3 : cl_b1_46.slots[((3 : Int32)).toNatClampNeg]? = some (.double (own_v (own_us q2 32))) := H_b1_46 _ (by rw [S_b1_46]; decide)
      obtain ⟨cl_b32_263_47, Ar_b32_263_47, q_b32_263_47, S_b32_263_47, N_b32_263_47, H_b32_263_47, G_b32_263_47⟩ := id V_b32_44
      have hin_b32_263_47 : ¬ ((3 : Int32) < 0 ∨ cl_b32_263_47.slots.size ≤ ((3 : Int32)).toNatClampNeg) := inb_of S_b32_263_47 ⟨by decide, by decide⟩
      obtain ⟨T48, h48, X48, e48, W48, st48⟩ := stD X44 hx hZ e44 Ar_b32_263_47 (j := (3 : Int32)) hin_b32_263_47 (g := (mkF m 263 #[.val (.int p0), .val (.long q1), .second, .val (.long q2), .second, .val (.long q3), .second, .val (.int (p0 &&& (2147483647 : Int32))), .val (.int (2 : Int32)), .val (.int (1 : Int32)), .val (.ref b1), .val (.ref b17), .val (.ref b24), .val (.int (4 : Int32)), .val (.ref b32), .unset, .unset, .unset] [(.double (own_v (own_us q2 32))), (.int (3 : Int32)), (.ref b32)])) rfl rfl (hb hby at_263)
      have V_b32_48 := Arv.set Ar_b32_263_47 q_b32_263_47 S_b32_263_47 N_b32_263_47 H_b32_263_47 G_b32_263_47 rfl W48 3 rfl (Nat.le_of_ble_eq_true rfl)
      have N48 := Fr.snoc X48 N44 g_b32
      obtain ⟨LL48, X48, N48⟩ := own_hide X48 N48
      have Z49z : n0 ≤ h48.size := (Nat.le_trans (Nat.le_trans (Nat.le_trans (Nat.le_trans (Nat.le_trans Z30z E32.1) (Keep.of_wr W36).1) (Keep.of_wr W40).1) (Keep.of_wr W44).1) (Keep.of_wr W48).1)
      have hz50 : h0.size ≤ h48.size := (Nat.le_trans (Nat.le_trans (Nat.le_trans (Nat.le_trans (Nat.le_trans hz31 E32.1) (Keep.of_wr W36).1) (Keep.of_wr W40).1) (Keep.of_wr W44).1) (Keep.of_wr W48).1)
      obtain ⟨T51, h51, X51, e51, E51, A51, D51, -, st51⟩ := newO X48 hx hZ hown (W 4 rfl) (W 5 rfl) (W 6 rfl) e48 (g := (mkF m 292 #[.val (.int p0), .val (.long q1), .second, .val (.long q2), .second, .val (.long q3), .second, .val (.int (p0 &&& (2147483647 : Int32))), .val (.int (2 : Int32)), .val (.int (1 : Int32)), .val (.ref b1), .val (.ref b17), .val (.ref b24), .val (.int (4 : Int32)), .val (.ref b32), .unset, .unset, .unset] [])) rfl (hb hby at_292) (by decide) (by decide)
      obtain ⟨b51, gg51⟩ : ∃ z, z = h48.size := ⟨_, rfl⟩
      rw [← gg51] at A51 D51 st51
      have g_b51 : n0 ≤ b51 := Nat.le_trans Z49z (Nat.le_of_eq gg51.symm)
      have sz_b51 : h0.size ≤ b51 := Nat.le_trans hz50 (Nat.le_of_eq gg51.symm)
      have F_scope_b51 : Fld Z h51 b51 "com/example/beliefwire/beliefwire/model/Factor" "scope" "[I" .null := D51 (Or.inr (W 45 rfl)) (ty := (.array .int)) (by decide)
      have F_cardinalities_b51 : Fld Z h51 b51 "com/example/beliefwire/beliefwire/model/Factor" "cardinalities" "[I" .null := D51 (Or.inr (W 47 rfl)) (ty := (.array .int)) (by decide)
      have F_entries_b51 : Fld Z h51 b51 "com/example/beliefwire/beliefwire/model/Factor" "entries" "[D" .null := D51 (Or.inr (W 55 rfl)) (ty := (.array .double)) (by decide)
      have Z53z : n0 ≤ h51.size := (Nat.le_trans Z49z E51.1)
      have ne_b17_b24 : b17 ≠ b24 := Nat.ne_of_lt (Nat.lt_of_lt_of_le (V_b17_21).lt (Nat.le_of_eq gg24.symm))
      have ne_b17_b32 : b17 ≠ b32 := Nat.ne_of_lt (Nat.lt_of_lt_of_le (Nat.lt_of_lt_of_le (Nat.lt_of_lt_of_le (Nat.lt_of_lt_of_le (V_b17_21).lt E24.1) (Keep.of_wr W26).1) (Keep.of_wr W28).1) (Nat.le_of_eq gg32.symm))
      have V_b17_21_54 := (((((((((V_b17_21.ext E24).other W26 ne_b17_b24).other W28 ne_b17_b24).ext E32).other W36 ne_b17_b32).other W40 ne_b17_b32).other W44 ne_b17_b32).other W48 ne_b17_b32).ext E51)
      have B17_55 := (((((((((((B17.wr W19).wr W21).ext E24).wr W26).wr W28).ext E32).wr W36).wr W40).wr W44).wr W48).ext E51)
      have ne_b24_b32 : b24 ≠ b32 := Nat.ne_of_lt (Nat.lt_of_lt_of_le (Vc).lt (Nat.le_of_eq gg32.symm))
      have Vc_56 := ((((((Vc.ext E32).other W36 ne_b24_b32).other W40 ne_b24_b32).other W44 ne_b24_b32).other W48 ne_b24_b32).ext E51)
      have B24_57 := ((((((((B24.wr W26).wr W28).ext E32).wr W36).wr W40).wr W44).wr W48).ext E51)
      have V_b32_48_58 := (V_b32_48.ext E51)
      have B32_59 := (((((B32.wr W36).wr W40).wr W44).wr W48).ext E51)
      obtain ⟨_, _, ⟨T52, L52, k52, n52⟩, -, X52, ⟨Lc52, hQ52, l52, y52, z52⟩, st52⟩ := X51.specialBack hx (y := (⟨"com/example/beliefwire/beliefwire/model/Factor", "<init>", "([I[I[D)V"⟩ : MethodName)) rfl hown (mvT hZ (W 7 rfl)) (mvT hZ (W 8 rfl)) (mvT hZ (W 9 rfl)) (by decide) (backOf (W := 1) (rm_in_12 l Z a0 hw [] b51 b17 b24 b32 (own_v q1) (own_v (own_us q1 32)) (own_v q2) (own_v (own_us q2 32)) _ _ _ k17 k24 k32 h51 n0 Z53z A51 g_b51 F_scope_b51 F_cardinalities_b51 F_entries_b51 V_b17_21_54 B17_55 Vc_56 B24_57 V_b32_48_58 B32_59 (own_vf _) (own_vn _) (own_vf _) (own_vn _) (own_vf _) (own_vn _) (own_vf _) (own_vn _)) hZ (W 9 rfl) (W 6 rfl) (by decide) (by decide)) (g := (mkF m 302 #[.val (.int p0), .val (.long q1), .second, .val (.long q2), .second, .val (.long q3), .second, .val (.int (p0 &&& (2147483647 : Int32))), .val (.int (2 : Int32)), .val (.int (1 : Int32)), .val (.ref b1), .val (.ref b17), .val (.ref b24), .val (.int (4 : Int32)), .val (.ref b32), .unset, .unset, .unset] [(.ref b32), (.ref b24), (.ref b17), (.ref b51), (.ref b51)])) rfl (by rw [hml]; rfl) (Steps.refl _) (a := b51) (argsL := [(.ref b17), (.ref b24), (.ref b32)]) (rest := [(.ref b51)]) (lenOf pd_9 rfl) rfl (own_le rfl) (hb hby at_302) (fun _ _ => ⟨rfl, e51, (by decide : 5 + 4 ≤ _), (by decide : 17 + 10 ≤ _)⟩)
      dsimp only [Pt.U, Pt.locs, Pt.cells, Pt.slots] at X52 l52 y52 z52 st52 hQ52
      subst l52 y52 z52
      obtain ⟨rfl, N52q, K52, Eq52, bc52, be52, Fc52, Fe52, Ec52, Vc52, Ve52⟩ := hQ52
      have N52 := Fr.app N48 N52q
      obtain ⟨LL52, X52, N52⟩ := own_hide X52 N52
      have Z61z : n0 ≤ T52.heap.size := (Nat.le_trans Z53z K52.1)
      obtain ⟨_, _, ⟨T60, L60, k60, n60⟩, -, X60, ⟨Lc60, hQ60, l60, y60, z60⟩, st60⟩ := Jvm.LawKit.callS X52 hx (y := (⟨"com/example/beliefwire/beliefwire/io/NoisyMax", "leak", "(Lcom/example/beliefwire/beliefwire/model/Factor;)[D"⟩ : MethodName)) hown (mvT hZ (W 56 rfl)) (mvT hZ (W 57 rfl)) (mvT hZ (W 58 rfl)) (mvT hZ (W 59 rfl)) (by decide) (backOf (W := 0) (rm_lk_12 l Z a0 hw [] b51 bc52 be52 (own_v q1) (own_v (own_us q1 32)) (own_v q2) (own_v (own_us q2 32)) k24 k32 T52.heap n0 Z61z Eq52 Fc52 Vc52 Ec52 Fe52 Ve52) hZ (W 59 rfl) (W 58 rfl) (by decide) (by decide)) (g := (mkF m 309 #[.val (.int p0), .val (.long q1), .second, .val (.long q2), .second, .val (.long q3), .second, .val (.int (p0 &&& (2147483647 : Int32))), .val (.int (2 : Int32)), .val (.int (1 : Int32)), .val (.ref b1), .val (.ref b17), .val (.ref b24), .val (.int (4 : Int32)), .val (.ref b32), .val (.ref b51), .unset, .unset] [(.ref b51)])) rfl (by rw [hml]; rfl) (argsL := [(.ref b51)]) (rest := []) (lenOf pd_10 rfl) rfl (own_le rfl) (hb hby at_309) (fun _ _ => ⟨rfl, rfl, (by decide : 9 + 2 ≤ _), (by decide : 27 + 4 ≤ _)⟩)
      dsimp only [Pt.U, Pt.locs, Pt.cells, Pt.slots] at X60 l60 y60 z60 st60 hQ60
      subst l60 y60 z60
      obtain ⟨⟨b60, kb60, rfl, V60⟩, N60q, K60⟩ := hQ60
      have N60 := Fr.app N52 N60q
      obtain ⟨LL60, X60, N60⟩ := own_hide X60 N60
      obtain ⟨cl_b60_62, Ar_b60_62, q_b60_62, S_b60_62, N_b60_62, H_b60_62, G_b60_62⟩ := id V60
      have Al_b60_62 := State.isArrayOf_alike hZ.alike Ar_b60_62.2.1
      have hin_b60_62_0 : ¬ ((0 : Int32) < 0 ∨ cl_b60_62.slots.size ≤ ((0 : Int32)).toNatClampNeg) := inb_of S_b60_62 ⟨by decide, by decide⟩
      have hat_b60_62_0 : cl_b60_62.slots[((0 : Int32)).toNatClampNeg]? = some (.double (own_v q1)) := H_b60_62 _ (by rw [S_b60_62]; decide)
      have ne_b1_b51 : b1 ≠ b51 := Nat.ne_of_lt (Nat.lt_of_lt_of_le (Nat.lt_of_lt_of_le (V_b1_13_45).lt (Keep.of_wr W48).1) (Nat.le_of_eq gg51.symm))
      have V_b1_13_63 := ((((V_b1_13_45.other W48 ne_b1_b32).ext E51).keep K52 (own_nin1 ne_b1_b51)).keep K60 own_nin0)
      obtain ⟨cl_b1_64, Ar_b1_64, q_b1_64, S_b1_64, N_b1_64, H_b1_64, G_b1_64⟩ := id V_b1_13_63
      have Al_b1_64 := State.isArrayOf_alike hZ.alike Ar_b1_64.2.1
      have hin_b1_64_0 : ¬ ((0 : Int32) < 0 ∨ cl_b1_64.slots.size ≤ ((0 : Int32)).toNatClampNeg) := inb_of S_b1_64 ⟨by decide, by decide⟩
      have hat_b1_64_0 : cl_b1_64.slots[((0 : Int32)).toNatClampNeg]? = some (.double (own_v q1)) := H_b1_64 _ (by rw [S_b1_64]; decide)
      have hin_b60_62_1 : ¬ ((1 : Int32) < 0 ∨ cl_b60_62.slots.size ≤ ((1 : Int32)).toNatClampNeg) := inb_of S_b60_62 ⟨by decide, by decide⟩
      have hat_b60_62_1 : cl_b60_62.slots[((1 : Int32)).toNatClampNeg]? = some (.double (own_v (own_us q1 32))) := H_b60_62 _ (by rw [S_b60_62]; decide)
      have hin_b1_64_1 : ¬ ((1 : Int32) < 0 ∨ cl_b1_64.slots.size ≤ ((1 : Int32)).toNatClampNeg) := inb_of S_b1_64 ⟨by decide, by decide⟩
      have hat_b1_64_1 : cl_b1_64.slots[((1 : Int32)).toNatClampNeg]? = some (.double (own_v (own_us q1 32))) := H_b1_64 _ (by rw [S_b1_64]; decide)
      obtain ⟨fs, hr, hrun, hended, hW, hsame⟩ := X60.leave (v := some (.int (1 : Int32))) (fun h => by rw [Bd.returns] at h; cases h)
      refine ⟨_, _, pre29 _ ?_, hrun, hended, _, _, rfl, ?_, ⟨_, rfl⟩, hW, hsame.mono (by decide) (by decide)⟩
      · show Steps p.tables e below (T28.setTop (mkF m 192 #[.val (.int p0), .val (.long q1), .second, .val (.long q2), .second, .val (.long q3), .second, .val (.int (p0 &&& (2147483647 : Int32))), .val (.int ((1 : Int32) + ((p0 &&& (2147483647 : Int32)) % (3 : Int32)))), .val (.int (1 : Int32)), .val (.ref b1), .val (.ref b17), .val (.ref b24), .unset, .unset, .unset, .unset, .unset] [])) _
        show Steps p.tables e below (T28.setTop (mkF m 192 #[.val (.int p0), .val (.long q1), .second, .val (.long q2), .second, .val (.long q3), .second, .val (.int (p0 &&& (2147483647 : Int32))), .val (.int ((1 : Int32) + ((p0 &&& (2147483647 : Int32)) % (3 : Int32)))), .val (.int (1 : Int32)), .val (.ref b1), .val (.ref b17), .val (.ref b24), .unset, .unset, .unset, .unset, .unset] [])) _
        rw [show ((1 : Int32) + ((p0 &&& (2147483647 : Int32)) % (3 : Int32))) = (2 : Int32) from hc]
        refine XS.iload X28.here hx rfl (hb hby at_192) rfl ?_
        refine XS.ifYes X28.here hx rfl (pc0 := 194) (pc' := 202) rfl (hb hby at_194) rfl ((if0 _ _).trans (feq (by decide : ¬ ((1 : Int32) = (0 : Int32)))).2) (by decide) (by decide) ?_
        refine XS.iconst X28.here hx rfl (hb hby at_202) ?_
        refine XS.iload X28.here hx rfl (hb hby at_203) rfl ?_
        refine XS.imul X28.here hx rfl (hb hby at_205) rfl ?_
        show Steps p.tables e below (T28.setTop (mkF m 206 #[.val (.int p0), .val (.long q1), .second, .val (.long q2), .second, .val (.long q3), .second, .val (.int (p0 &&& (2147483647 : Int32))), .val (.int (2 : Int32)), .val (.int (1 : Int32)), .val (.ref b1), .val (.ref b17), .val (.ref b24), .unset, .unset, .unset, .unset, .unset] [(.int ((2 : Int32) * (2 : Int32)))])) _
        rw [show ((2 : Int32) * (2 : Int32)) = (4 : Int32) from (by decide)]
        refine XS.istore X28.here hx rfl (hb hby at_206) rfl (l' := #[.val (.int p0), .val (.long q1), .second, .val (.long q2), .second, .val (.long q3), .second, .val (.int (p0 &&& (2147483647 : Int32))), .val (.int (2 : Int32)), .val (.int (1 : Int32)), .val (.ref b1), .val (.ref b17), .val (.ref b24), .val (.int (4 : Int32)), .unset, .unset, .unset, .unset]) rfl ?_
        refine XS.iload X28.here hx rfl (hb hby at_208) rfl ?_
        refine st32 _ ?_
        refine XS.astore X32.here hx rfl (hb hby at_212) rfl rfl (l' := #[.val (.int p0), .val (.long q1), .second, .val (.long q2), .second, .val (.long q3), .second, .val (.int (p0 &&& (2147483647 : Int32))), .val (.int (2 : Int32)), .val (.int (1 : Int32)), .val (.ref b1), .val (.ref b17), .val (.ref b24), .val (.int (4 : Int32)), .val (.ref b32), .unset, .unset, .unset]) rfl ?_
        refine XS.aload X32.here hx rfl (hb hby at_214) rfl rfl ?_
        refine XS.iconst X32.here hx rfl (hb hby at_216) ?_
        refine XS.aload X32.here hx rfl (hb hby at_217) rfl rfl ?_
        refine XS.iconst X32.here hx rfl (hb hby at_219) ?_
        refine X32.daload hx (j := (0 : Int32)) (v := (.double (own_v q1))) (by rw [e32]; exact Ar_b1_34.1) Al_b1_34 Ar_b1_34.2.2 hin_b1_34_0 hat_b1_34_0 (g := (mkF m 220 #[.val (.int p0), .val (.long q1), .second, .val (.long q2), .second, .val (.long q3), .second, .val (.int (p0 &&& (2147483647 : Int32))), .val (.int (2 : Int32)), .val (.int (1 : Int32)), .val (.ref b1), .val (.ref b17), .val (.ref b24), .val (.int (4 : Int32)), .val (.ref b32), .unset, .unset, .unset] [(.int (0 : Int32)), (.ref b1), (.int (0 : Int32)), (.ref b32)])) rfl rfl (hb hby at_220) _ ?_
        refine st36 _ ?_
        refine XS.iload X36.here hx rfl (hb hby at_222) rfl ?_
        refine XS.iconst X36.here hx rfl (hb hby at_224) ?_
        refine XS.icmpNo X36.here hx rfl (hb hby at_225) rfl (tlt (by decide : (1 : Int32) < (4 : Int32))).2.2.2 ?_
        refine XS.aload X36.here hx rfl (hb hby at_228) rfl rfl ?_
        refine XS.iconst X36.here hx rfl (hb hby at_230) ?_
        refine XS.aload X36.here hx rfl (hb hby at_231) rfl rfl ?_
        refine XS.iconst X36.here hx rfl (hb hby at_233) ?_
        refine X36.daload hx (j := (1 : Int32)) (v := (.double (own_v (own_us q1 32)))) (by rw [e36]; exact Ar_b1_38.1) Al_b1_38 Ar_b1_38.2.2 hin_b1_38_1 hat_b1_38_1 (g := (mkF m 234 #[.val (.int p0), .val (.long q1), .second, .val (.long q2), .second, .val (.long q3), .second, .val (.int (p0 &&& (2147483647 : Int32))), .val (.int (2 : Int32)), .val (.int (1 : Int32)), .val (.ref b1), .val (.ref b17), .val (.ref b24), .val (.int (4 : Int32)), .val (.ref b32), .unset, .unset, .unset] [(.int (1 : Int32)), (.ref b1), (.int (1 : Int32)), (.ref b32)])) rfl rfl (hb hby at_234) _ ?_
        refine st40 _ ?_
        refine XS.iload X40.here hx rfl (hb hby at_236) rfl ?_
        refine XS.iconst X40.here hx rfl (hb hby at_238) ?_
        refine XS.icmpNo X40.here hx rfl (hb hby at_239) rfl (tlt (by decide : (2 : Int32) < (4 : Int32))).2.2.2 ?_
        refine XS.aload X40.here hx rfl (hb hby at_242) rfl rfl ?_
        refine XS.iconst X40.here hx rfl (hb hby at_244) ?_
        refine XS.aload X40.here hx rfl (hb hby at_245) rfl rfl ?_
        refine XS.iconst X40.here hx rfl (hb hby at_247) ?_
        refine X40.daload hx (j := (2 : Int32)) (v := (.double (own_v q2))) (by rw [e40]; exact Ar_b1_42.1) Al_b1_42 Ar_b1_42.2.2 hin_b1_42_2 hat_b1_42_2 (g := (mkF m 248 #[.val (.int p0), .val (.long q1), .second, .val (.long q2), .second, .val (.long q3), .second, .val (.int (p0 &&& (2147483647 : Int32))), .val (.int (2 : Int32)), .val (.int (1 : Int32)), .val (.ref b1), .val (.ref b17), .val (.ref b24), .val (.int (4 : Int32)), .val (.ref b32), .unset, .unset, .unset] [(.int (2 : Int32)), (.ref b1), (.int (2 : Int32)), (.ref b32)])) rfl rfl (hb hby at_248) _ ?_
        refine st44 _ ?_
        refine XS.iload X44.here hx rfl (hb hby at_250) rfl ?_
        refine XS.iconst X44.here hx rfl (hb hby at_252) ?_
        refine XS.icmpNo X44.here hx rfl (hb hby at_253) rfl (tlt (by decide : (3 : Int32) < (4 : Int32))).2.2.2 ?_
        refine XS.aload X44.here hx rfl (hb hby at_256) rfl rfl ?_
        refine XS.iconst X44.here hx rfl (hb hby at_258) ?_
        refine XS.aload X44.here hx rfl (hb hby at_259) rfl rfl ?_
        refine XS.iconst X44.here hx rfl (hb hby at_261) ?_
        refine X44.daload hx (j := (3 : Int32)) (v := (.double (own_v (own_us q2 32)))) (by rw [e44]; exact Ar_b1_46.1) Al_b1_46 Ar_b1_46.2.2 hin_b1_46_3 hat_b1_46_3 (g := (mkF m 262 #[.val (.int p0), .val (.long q1), .second, .val (.long q2), .second, .val (.long q3), .second, .val (.int (p0 &&& (2147483647 : Int32))), .val (.int (2 : Int32)), .val (.int (1 : Int32)), .val (.ref b1), .val (.ref b17), .val (.ref b24), .val (.int (4 : Int32)), .val (.ref b32), .unset, .unset, .unset] [(.int (3 : Int32)), (.ref b1), (.int (3 : Int32)), (.ref b32)])) rfl rfl (hb hby at_262) _ ?_
        refine st48 _ ?_
        refine XS.iload X48.here hx rfl (hb hby at_264) rfl ?_
        refine XS.iconst X48.here hx rfl (hb hby at_266) ?_
        refine XS.icmpYes X48.here hx rfl (pc0 := 267) (pc' := 278) rfl (hb hby at_267) rfl (flt (by decide : ¬ ((4 : Int32) < (4 : Int32)))).2.2.2 (by decide) (by decide) ?_
        refine XS.iload X48.here hx rfl (hb hby at_278) rfl ?_
        refine XS.iconst X48.here hx rfl (hb hby at_280) ?_
        refine XS.icmpYes X48.here hx rfl (pc0 := 281) (pc' := 292) rfl (hb hby at_281) rfl (flt (by decide : ¬ ((5 : Int32) < (4 : Int32)))).2.2.2 (by decide) (by decide) ?_
        refine st51 _ ?_
        refine XS.dup X51.here hx rfl (hb hby at_295) rfl rfl ?_
        refine XS.aload X51.here hx rfl (hb hby at_296) rfl rfl ?_
        refine XS.aload X51.here hx rfl (hb hby at_298) rfl rfl ?_
        refine XS.aload X51.here hx rfl (hb hby at_300) rfl rfl ?_
        refine st52.trans ?_
        refine XS.astore X52.here hx rfl (hb hby at_305) rfl rfl (l' := #[.val (.int p0), .val (.long q1), .second, .val (.long q2), .second, .val (.long q3), .second, .val (.int (p0 &&& (2147483647 : Int32))), .val (.int (2 : Int32)), .val (.int (1 : Int32)), .val (.ref b1), .val (.ref b17), .val (.ref b24), .val (.int (4 : Int32)), .val (.ref b32), .val (.ref b51), .unset, .unset]) rfl ?_
        refine XS.aload X52.here hx rfl (hb hby at_307) rfl rfl ?_
        refine st60 _ ?_
        refine XS.astore X60.here hx rfl (hb hby at_312) rfl rfl (l' := #[.val (.int p0), .val (.long q1), .second, .val (.long q2), .second, .val (.long q3), .second, .val (.int (p0 &&& (2147483647 : Int32))), .val (.int (2 : Int32)), .val (.int (1 : Int32)), .val (.ref b1), .val (.ref b17), .val (.ref b24), .val (.int (4 : Int32)), .val (.ref b32), .val (.ref b51), .val (.ref b60), .unset]) rfl ?_
        refine XS.aload X60.here hx rfl (hb hby at_314) rfl rfl ?_
        refine X60.arraylength hx Ar_b60_62.1 Al_b60_62 (g := (mkF m 316 #[.val (.int p0), .val (.long q1), .second, .val (.long q2), .second, .val (.long q3), .second, .val (.int (p0 &&& (2147483647 : Int32))), .val (.int (2 : Int32)), .val (.int (1 : Int32)), .val (.ref b1), .val (.ref b17), .val (.ref b24), .val (.int (4 : Int32)), .val (.ref b32), .val (.ref b51), .val (.ref b60), .unset] [(.ref b60)])) rfl rfl (hb hby at_316) _ ?_
        rw [len_of S_b60_62 N_b60_62]
        refine XS.iload X60.here hx rfl (hb hby at_317) rfl ?_
        refine XS.icmpYes X60.here hx rfl (pc0 := 319) (pc' := 324) rfl (hb hby at_319) rfl (teq (by decide : (2 : Int32) = (2 : Int32))).1 (by decide) (by decide) ?_
        refine XS.aload X60.here hx rfl (hb hby at_324) rfl rfl ?_
        refine XS.iconst X60.here hx rfl (hb hby at_326) ?_
        refine X60.daload hx (j := (0 : Int32)) (v := (.double (own_v q1))) Ar_b60_62.1 Al_b60_62 Ar_b60_62.2.2 hin_b60_62_0 hat_b60_62_0 (g := (mkF m 327 #[.val (.int p0), .val (.long q1), .second, .val (.long q2), .second, .val (.long q3), .second, .val (.int (p0 &&& (2147483647 : Int32))), .val (.int (2 : Int32)), .val (.int (1 : Int32)), .val (.ref b1), .val (.ref b17), .val (.ref b24), .val (.int (4 : Int32)), .val (.ref b32), .val (.ref b51), .val (.ref b60), .unset] [(.int (0 : Int32)), (.ref b60)])) rfl rfl (hb hby at_327) _ ?_
        refine XS.aload X60.here hx rfl (hb hby at_328) rfl rfl ?_
        refine XS.iconst X60.here hx rfl (hb hby at_330) ?_
        refine X60.daload hx (j := (0 : Int32)) (v := (.double (own_v q1))) Ar_b1_64.1 Al_b1_64 Ar_b1_64.2.2 hin_b1_64_0 hat_b1_64_0 (g := (mkF m 331 #[.val (.int p0), .val (.long q1), .second, .val (.long q2), .second, .val (.long q3), .second, .val (.int (p0 &&& (2147483647 : Int32))), .val (.int (2 : Int32)), .val (.int (1 : Int32)), .val (.ref b1), .val (.ref b17), .val (.ref b24), .val (.int (4 : Int32)), .val (.ref b32), .val (.ref b51), .val (.ref b60), .unset] [(.int (0 : Int32)), (.ref b1), (.double (own_v q1))])) rfl rfl (hb hby at_331) _ ?_
        refine XS.dcmpS X60.here hx rfl (hb hby at_332) rfl rfl ?_
        refine XS.ifNo X60.here hx rfl (hb hby at_333) rfl ((if0 _ _).trans (teq (own_eqv _)).2) ?_
        refine XS.iconst X60.here hx rfl (hb hby at_336) ?_
        refine XS.goto X60.here hx rfl (pc0 := 337) (pc' := 341) rfl (hb hby at_337) (by decide) (by decide) ?_
        refine XS.istore X60.here hx rfl (hb hby at_341) rfl (l' := #[.val (.int p0), .val (.long q1), .second, .val (.long q2), .second, .val (.long q3), .second, .val (.int (p0 &&& (2147483647 : Int32))), .val (.int (2 : Int32)), .val (.int (1 : Int32)), .val (.ref b1), .val (.ref b17), .val (.ref b24), .val (.int (4 : Int32)), .val (.ref b32), .val (.ref b51), .val (.ref b60), .val (.int (1 : Int32))]) rfl ?_
        refine XS.iload X60.here hx rfl (hb hby at_343) rfl ?_
        refine XS.iconst X60.here hx rfl (hb hby at_345) ?_
        refine XS.icmpNo X60.here hx rfl (hb hby at_346) rfl (tlt (by decide : (1 : Int32) < (2 : Int32))).2.2.2 ?_
        refine XS.iload X60.here hx rfl (hb hby at_349) rfl ?_
        refine XS.ifNo X60.here hx rfl (hb hby at_351) rfl ((if0 _ _).trans (feq (by decide : ¬ ((1 : Int32) = (0 : Int32)))).1) ?_
        refine XS.aload X60.here hx rfl (hb hby at_354) rfl rfl ?_
        refine XS.iconst X60.here hx rfl (hb hby at_356) ?_
        refine X60.daload hx (j := (1 : Int32)) (v := (.double (own_v (own_us q1 32)))) Ar_b60_62.1 Al_b60_62 Ar_b60_62.2.2 hin_b60_62_1 hat_b60_62_1 (g := (mkF m 357 #[.val (.int p0), .val (.long q1), .second, .val (.long q2), .second, .val (.long q3), .second, .val (.int (p0 &&& (2147483647 : Int32))), .val (.int (2 : Int32)), .val (.int (1 : Int32)), .val (.ref b1), .val (.ref b17), .val (.ref b24), .val (.int (4 : Int32)), .val (.ref b32), .val (.ref b51), .val (.ref b60), .val (.int (1 : Int32))] [(.int (1 : Int32)), (.ref b60)])) rfl rfl (hb hby at_357) _ ?_
        refine XS.aload X60.here hx rfl (hb hby at_358) rfl rfl ?_
        refine XS.iconst X60.here hx rfl (hb hby at_360) ?_
        refine X60.daload hx (j := (1 : Int32)) (v := (.double (own_v (own_us q1 32)))) Ar_b1_64.1 Al_b1_64 Ar_b1_64.2.2 hin_b1_64_1 hat_b1_64_1 (g := (mkF m 361 #[.val (.int p0), .val (.long q1), .second, .val (.long q2), .second, .val (.long q3), .second, .val (.int (p0 &&& (2147483647 : Int32))), .val (.int (2 : Int32)), .val (.int (1 : Int32)), .val (.ref b1), .val (.ref b17), .val (.ref b24), .val (.int (4 : Int32)), .val (.ref b32), .val (.ref b51), .val (.ref b60), .val (.int (1 : Int32))] [(.int (1 : Int32)), (.ref b1), (.double (own_v (own_us q1 32)))])) rfl rfl (hb hby at_361) _ ?_
        refine XS.dcmpS X60.here hx rfl (hb hby at_362) rfl rfl ?_
        refine XS.ifNo X60.here hx rfl (hb hby at_363) rfl ((if0 _ _).trans (teq (own_eqv _)).2) ?_
        refine XS.iconst X60.here hx rfl (hb hby at_366) ?_
        refine XS.goto X60.here hx rfl (pc0 := 367) (pc' := 371) rfl (hb hby at_367) (by decide) (by decide) ?_
        refine XS.istore X60.here hx rfl (hb hby at_371) rfl (l' := #[.val (.int p0), .val (.long q1), .second, .val (.long q2), .second, .val (.long q3), .second, .val (.int (p0 &&& (2147483647 : Int32))), .val (.int (2 : Int32)), .val (.int (1 : Int32)), .val (.ref b1), .val (.ref b17), .val (.ref b24), .val (.int (4 : Int32)), .val (.ref b32), .val (.ref b51), .val (.ref b60), .val (.int (1 : Int32))]) rfl ?_
        refine XS.iload X60.here hx rfl (hb hby at_373) rfl ?_
        refine XS.iconst X60.here hx rfl (hb hby at_375) ?_
        refine XS.icmpYes X60.here hx rfl (pc0 := 376) (pc' := 403) rfl (hb hby at_376) rfl (flt (by decide : ¬ ((2 : Int32) < (2 : Int32)))).2.2.2 (by decide) (by decide) ?_
        refine XS.iload X60.here hx rfl (hb hby at_403) rfl ?_
        show Steps p.tables e below (T60.setTop (mkF m 405 #[.val (.int p0), .val (.long q1), .second, .val (.long q2), .second, .val (.long q3), .second, .val (.int (p0 &&& (2147483647 : Int32))), .val (.int (2 : Int32)), .val (.int (1 : Int32)), .val (.ref b1), .val (.ref b17), .val (.ref b24), .val (.int (4 : Int32)), .val (.ref b32), .val (.ref b51), .val (.ref b60), .val (.int (1 : Int32))] [(.int (1 : Int32))])) _
        exact retN X60 hx (t := .boolean) Bd.returns (by simp) (hb hby at_405) hr
      · show Q0 Z p0 h0 n0 _ T60.heap _
        exact ⟨rfl, N60⟩
    · have Vc : Arv Z h28 b24 k24 .int (2 : Int32) [(.int (2 : Int32)), (.int (3 : Int32))] (.int (0 : Int32)) := by have q := V_b24_28; rw [hc] at q; exact q
      obtain ⟨T32, h32, k32, X32, e32, E32, A32, B32, st32⟩ := newPE X28 hx hZ (W 1 rfl) e28 (g := (mkF m 210 #[.val (.int p0), .val (.long q1), .second, .val (.long q2), .second, .val (.long q3), .second, .val (.int (p0 &&& (2147483647 : Int32))), .val (.int (3 : Int32)), .val (.int (1 : Int32)), .val (.ref b1), .val (.ref b17), .val (.ref b24), .val (.int (6 : Int32)), .unset, .unset, .unset, .unset] [(.int (6 : Int32))])) rfl (hb hby at_210) rfl (by decide) (cap := 6) (by decide) (by decide) (by decide) (by decide) (ad := "[D") (by decide)
      obtain ⟨b32, gg32⟩ : ∃ z, z = h28.size := ⟨_, rfl⟩
      rw [← gg32] at A32 B32 st32
      have g_b32 : n0 ≤ b32 := Nat.le_trans Z30z (Nat.le_of_eq gg32.symm)
      have sz_b32 : h0.size ≤ b32 := Nat.le_trans hz31 (Nat.le_of_eq gg32.symm)
      have V_b32 : Arv Z h32 b32 k32 .double (6 : Int32) [(.double (0 : UInt64)), (.double (0 : UInt64)), (.double (0 : UInt64)), (.double (0 : UInt64)), (.double (0 : UInt64)), (.double (0 : UInt64))] (.double (0 : UInt64)) := (Arv.new A32 (by decide)).pad (pad_rep [] (.double (0 : UInt64)) 6)
      have ne_b1_b17 : b1 ≠ b17 := Nat.ne_of_lt (Nat.lt_of_lt_of_le (V_b1_13).lt (Nat.le_of_eq gg17.symm))
      have ne_b1_b24 : b1 ≠ b24 := Nat.ne_of_lt (Nat.lt_of_lt_of_le (Nat.lt_of_lt_of_le (Nat.lt_of_lt_of_le (Nat.lt_of_lt_of_le (V_b1_13).lt E17.1) (Keep.of_wr W19).1) (Keep.of_wr W21).1) (Nat.le_of_eq gg24.symm))
      have V_b1_13_33 := (((((((V_b1_13.ext E17).other W19 ne_b1_b17).other W21 ne_b1_b17).ext E24).other W26 ne_b1_b24).other W28 ne_b1_b24).ext E32)
      obtain ⟨cl_b1_34, Ar_b1_34, q_b1_34, S_b1_34, N_b1_34, H_b1_34, G_b1_34⟩ := id V_b1_13_33
      have Al_b1_34 := State.isArrayOf_alike hZ.alike Ar_b1_34.2.1
      have hin_b1_34_0 : ¬ ((0 : Int32) < 0 ∨ cl_b1_34.slots.size ≤ ((0 : Int32)).toNatClampNeg) := inb_of S_b1_34 ⟨by decide, by decide⟩
      have hat_b1_34_0 : cl_b1_34.slots[((0 : Int32)).toNatClampNeg]? = some (.double (own_v q1)) := H_b1_34 _ (by rw [S_b1_34]; decide)
      obtain ⟨cl_b32_221_35, Ar_b32_221_35, q_b32_221_35, S_b32_221_35, N_b32_221_35, H_b32_221_35, G_b32_221_35⟩ := id V_b32
      have hin_b32_221_35 : ¬ ((0 : Int32) < 0 ∨ cl_b32_221_35.slots.size ≤ ((0 : Int32)).toNatClampNeg) := inb_of S_b32_221_35 ⟨by decide, by decide⟩
      obtain ⟨T36, h36, X36, e36, W36, st36⟩ := stD X32 hx hZ e32 Ar_b32_221_35 (j := (0 : Int32)) hin_b32_221_35 (g := (mkF m 221 #[.val (.int p0), .val (.long q1), .second, .val (.long q2), .second, .val (.long q3), .second, .val (.int (p0 &&& (2147483647 : Int32))), .val (.int (3 : Int32)), .val (.int (1 : Int32)), .val (.ref b1), .val (.ref b17), .val (.ref b24), .val (.int (6 : Int32)), .val (.ref b32), .unset, .unset, .unset] [(.double (own_v q1)), (.int (0 : Int32)), (.ref b32)])) rfl rfl (hb hby at_221)
      have V_b32_36 := Arv.set Ar_b32_221_35 q_b32_221_35 S_b32_221_35 N_b32_221_35 H_b32_221_35 G_b32_221_35 rfl W36 0 rfl (Nat.le_of_ble_eq_true rfl)
      have N36 := Fr.snoc X36 N28 g_b32
      obtain ⟨LL36, X36, N36⟩ := own_hide X36 N36
      have ne_b1_b32 : b1 ≠ b32 := Nat.ne_of_lt (Nat.lt_of_lt_of_le (Nat.lt_of_lt_of_le (Nat.lt_of_lt_of_le (Nat.lt_of_lt_of_le (Nat.lt_of_lt_of_le (Nat.lt_of_lt_of_le (Nat.lt_of_lt_of_le (V_b1_13).lt E17.1) (Keep.of_wr W19).1) (Keep.of_wr W21).1) E24.1) (Keep.of_wr W26).1) (Keep.of_wr W28).1) (Nat.le_of_eq gg32.symm))
      have V_b1_13_37 := (V_b1_13_33.other W36 ne_b1_b32)
      obtain ⟨cl_b1_38, Ar_b1_38, q_b1_38, S_b1_38, N_b1_38, H_b1_38, G_b1_38⟩ := id V_b1_13_37
      have Al_b1_38 := State.isArrayOf_alike hZ.alike Ar_b1_38.2.1
      have hin_b1_38_1 : ¬ ((1 : Int32) < 0 ∨ cl_b1_38.slots.size ≤ ((1 : Int32)).toNatClampNeg) := inb_of S_b1_38 ⟨by decide, by decide⟩
      have hat_b1_38_1 : cl_b1_38.slots[((1 : Int32)).toNatClampNeg]? = some (.double (own_v (own_us q1 32))) := H_b1_38 _ (by rw [S_b1_38]; decide)
      obtain ⟨cl_b32_235_39, Ar_b32_235_39, q_b32_235_39, S_b32_235_39, N_b32_235_39, H_b32_235_39, G_b32_235_39⟩ := id V_b32_36
      have hin_b32_235_39 : ¬ ((1 : Int32) < 0 ∨ cl_b32_235_39.slots.size ≤ ((1 : Int32)).toNatClampNeg) := inb_of S_b32_235_39 ⟨by decide, by decide⟩
      obtain ⟨T40, h40, X40, e40, W40, st40⟩ := stD X36 hx hZ e36 Ar_b32_235_39 (j := (1 : Int32)) hin_b32_235_39 (g := (mkF m 235 #[.val (.int p0), .val (.long q1), .second, .val (.long q2), .second, .val (.long q3), .second, .val (.int (p0 &&& (2147483647 : Int32))), .val (.int (3 : Int32)), .val (.int (1 : Int32)), .val (.ref b1), .val (.ref b17), .val (.ref b24), .val (.int (6 : Int32)), .val (.ref b32), .unset, .unset, .unset] [(.double (own_v (own_us q1 32))), (.int (1 : Int32)), (.ref b32)])) rfl rfl (hb hby at_235)
      have V_b32_40 := Arv.set Ar_b32_235_39 q_b32_235_39 S_b32_235_39 N_b32_235_39 H_b32_235_39 G_b32_235_39 rfl W40 1 rfl (Nat.le_of_ble_eq_true rfl)
      have N40 := Fr.snoc X40 N36 g_b32
      obtain ⟨LL40, X40, N40⟩ := own_hide X40 N40
      have V_b1_13_41 := (V_b1_13_37.other W40 ne_b1_b32)
      obtain ⟨cl_b1_42, Ar_b1_42, q_b1_42, S_b1_42, N_b1_42, H_b1_42, G_b1_42⟩ := id V_b1_13_41
      have Al_b1_42 := State.isArrayOf_alike hZ.alike Ar_b1_42.2.1
      have hin_b1_42_2 : ¬ ((2 : Int32) < 0 ∨ cl_b1_42.slots.size ≤ ((2 : Int32)).toNatClampNeg) := inb_of S_b1_42 ⟨by decide, by decide⟩
      have hat_b1_42_2 : cl_b1_42.slots[((2 : Int32)).toNatClampNeg]? = some (.double (own_v q2)) := H_b1_42 _ (by rw [S_b1_42]; decide)
      obtain ⟨cl_b32_249_43, Ar_b32_249_43, q_b32_249_43, S_b32_249_43, N_b32_249_43, H_b32_249_43, G_b32_249_43⟩ := id V_b32_40
      have hin_b32_249_43 : ¬ ((2 : Int32) < 0 ∨ cl_b32_249_43.slots.size ≤ ((2 : Int32)).toNatClampNeg) := inb_of S_b32_249_43 ⟨by decide, by decide⟩
      obtain ⟨T44, h44, X44, e44, W44, st44⟩ := stD X40 hx hZ e40 Ar_b32_249_43 (j := (2 : Int32)) hin_b32_249_43 (g := (mkF m 249 #[.val (.int p0), .val (.long q1), .second, .val (.long q2), .second, .val (.long q3), .second, .val (.int (p0 &&& (2147483647 : Int32))), .val (.int (3 : Int32)), .val (.int (1 : Int32)), .val (.ref b1), .val (.ref b17), .val (.ref b24), .val (.int (6 : Int32)), .val (.ref b32), .unset, .unset, .unset] [(.double (own_v q2)), (.int (2 : Int32)), (.ref b32)])) rfl rfl (hb hby at_249)
      have V_b32_44 := Arv.set Ar_b32_249_43 q_b32_249_43 S_b32_249_43 N_b32_249_43 H_b32_249_43 G_b32_249_43 rfl W44 2 rfl (Nat.le_of_ble_eq_true rfl)
      have N44 := Fr.snoc X44 N40 g_b32
      obtain ⟨LL44, X44, N44⟩ := own_hide X44 N44
      have V_b1_13_45 := (V_b1_13_41.other W44 ne_b1_b32)
      obtain ⟨cl_b1_46, Ar_b1_46, q_b1_46, S_b1_46, N_b1_46, H_b1_46, G_b1_46⟩ := id V_b1_13_45
      have Al_b1_46 := State.isArrayOf_alike hZ.alike Ar_b1_46.2.1
      have hin_b1_46_3 : ¬ ((3 : Int32) < 0 ∨ cl_b1_46.slots.size ≤ ((3 : Int32)).toNatClampNeg) := inb_of S_b1_46 ⟨by decide, by decide⟩
      have hat_b1_46_3 : cl_b1_46.slots[((3 : Int32)).toNatClampNeg]? = some (.double (own_v (own_us q2 32))) := H_b1_46 _ (by rw [S_b1_46]; decide)
      obtain ⟨cl_b32_263_47, Ar_b32_263_47, q_b32_263_47, S_b32_263_47, N_b32_263_47, H_b32_263_47, G_b32_263_47⟩ := id V_b32_44
      have hin_b32_263_47 : ¬ ((3 : Int32) < 0 ∨ cl_b32_263_47.slots.size ≤ ((3 : Int32)).toNatClampNeg) := inb_of S_b32_263_47 ⟨by decide, by decide⟩
      obtain ⟨T48, h48, X48, e48, W48, st48⟩ := stD X44 hx hZ e44 Ar_b32_263_47 (j := (3 : Int32)) hin_b32_263_47 (g := (mkF m 263 #[.val (.int p0), .val (.long q1), .second, .val (.long q2), .second, .val (.long q3), .second, .val (.int (p0 &&& (2147483647 : Int32))), .val (.int (3 : Int32)), .val (.int (1 : Int32)), .val (.ref b1), .val (.ref b17), .val (.ref b24), .val (.int (6 : Int32)), .val (.ref b32), .unset, .unset, .unset] [(.double (own_v (own_us q2 32))), (.int (3 : Int32)), (.ref b32)])) rfl rfl (hb hby at_263)
      have V_b32_48 := Arv.set Ar_b32_263_47 q_b32_263_47 S_b32_263_47 N_b32_263_47 H_b32_263_47 G_b32_263_47 rfl W48 3 rfl (Nat.le_of_ble_eq_true rfl)
      have N48 := Fr.snoc X48 N44 g_b32
      obtain ⟨LL48, X48, N48⟩ := own_hide X48 N48
      have V_b1_13_49 := (V_b1_13_45.other W48 ne_b1_b32)
      obtain ⟨cl_b1_50, Ar_b1_50, q_b1_50, S_b1_50, N_b1_50, H_b1_50, G_b1_50⟩ := id V_b1_13_49
      have Al_b1_50 := State.isArrayOf_alike hZ.alike Ar_b1_50.2.1
      have hin_b1_50_4 : ¬ ((4 : Int32) < 0 ∨ cl_b1_50.slots.size ≤ ((4 : Int32)).toNatClampNeg) := inb_of S_b1_50 ⟨by decide, by decide⟩
      have hat_b1_50_4 : cl_b1_50.slots[((4 : Int32)).toNatClampNeg]? = some (.double (own_v q3)) := H_b1_50 _ (by rw [S_b1_50]; decide)
      obtain ⟨cl_b32_277_51, Ar_b32_277_51, q_b32_277_51, S_b32_277_51, N_b32_277_51, H_b32_277_51, G_b32_277_51⟩ := id V_b32_48
      have hin_b32_277_51 : ¬ ((4 : Int32) < 0 ∨ cl_b32_277_51.slots.size ≤ ((4 : Int32)).toNatClampNeg) := inb_of S_b32_277_51 ⟨by decide, by decide⟩
      obtain ⟨T52, h52, X52, e52, W52, st52⟩ := stD X48 hx hZ e48 Ar_b32_277_51 (j := (4 : Int32)) hin_b32_277_51 (g := (mkF m 277 #[.val (.int p0), .val (.long q1), .second, .val (.long q2), .second, .val (.long q3), .second, .val (.int (p0 &&& (2147483647 : Int32))), .val (.int (3 : Int32)), .val (.int (1 : Int32)), .val (.ref b1), .val (.ref b17), .val (.ref b24), .val (.int (6 : Int32)), .val (.ref b32), .unset, .unset, .unset] [(.double (own_v q3)), (.int (4 : Int32)), (.ref b32)])) rfl rfl (hb hby at_277)
      have V_b32_52 := Arv.set Ar_b32_277_51 q_b32_277_51 S_b32_277_51 N_b32_277_51 H_b32_277_51 G_b32_277_51 rfl W52 4 rfl (Nat.le_of_ble_eq_true rfl)
      have N52 := Fr.snoc X52 N48 g_b32
      obtain ⟨LL52, X52, N52⟩ := own_hide X52 N52
      have V_b1_13_53 := (V_b1_13_49.other W52 ne_b1_b32)
      obtain ⟨cl_b1_54, Ar_b1_54, q_b1_54, S_b1_54, N_b1_54, H_b1_54, G_b1_54⟩ := id V_b1_13_53
      have Al_b1_54 := State.isArrayOf_alike hZ.alike Ar_b1_54.2.1
      have hin_b1_54_5 : ¬ ((5 : Int32) < 0 ∨ cl_b1_54.slots.size ≤ ((5 : Int32)).toNatClampNeg) := inb_of S_b1_54 ⟨by decide, by decide⟩
      have hat_b1_54_5 : cl_b1_54.slots[((5 : Int32)).toNatClampNeg]? = some (.double (own_v (own_us q3 32))) := H_b1_54 _ (by rw [S_b1_54]; decide)
      obtain ⟨cl_b32_291_55, Ar_b32_291_55, q_b32_291_55, S_b32_291_55, N_b32_291_55, H_b32_291_55, G_b32_291_55⟩ := id V_b32_52
      have hin_b32_291_55 : ¬ ((5 : Int32) < 0 ∨ cl_b32_291_55.slots.size ≤ ((5 : Int32)).toNatClampNeg) := inb_of S_b32_291_55 ⟨by decide, by decide⟩
      obtain ⟨T56, h56, X56, e56, W56, st56⟩ := stD X52 hx hZ e52 Ar_b32_291_55 (j := (5 : Int32)) hin_b32_291_55 (g := (mkF m 291 #[.val (.int p0), .val (.long q1), .second, .val (.long q2), .second, .val (.long q3), .second, .val (.int (p0 &&& (2147483647 : Int32))), .val (.int (3 : Int32)), .val (.int (1 : Int32)), .val (.ref b1), .val (.ref b17), .val (.ref b24), .val (.int (6 : Int32)), .val (.ref b32), .unset, .unset, .unset] [(.double (own_v (own_us q3 32))), (.int (5 : Int32)), (.ref b32)])) rfl rfl (hb hby at_291)
      have V_b32_56 := Arv.set Ar_b32_291_55 q_b32_291_55 S_b32_291_55 N_b32_291_55 H_b32_291_55 G_b32_291_55 rfl W56 5 rfl (Nat.le_of_ble_eq_true rfl)
      have N56 := Fr.snoc X56 N52 g_b32
      obtain ⟨LL56, X56, N56⟩ := own_hide X56 N56
      have Z57z : n0 ≤ h56.size := (Nat.le_trans (Nat.le_trans (Nat.le_trans (Nat.le_trans (Nat.le_trans (Nat.le_trans (Nat.le_trans Z30z E32.1) (Keep.of_wr W36).1) (Keep.of_wr W40).1) (Keep.of_wr W44).1) (Keep.of_wr W48).1) (Keep.of_wr W52).1) (Keep.of_wr W56).1)
      have hz58 : h0.size ≤ h56.size := (Nat.le_trans (Nat.le_trans (Nat.le_trans (Nat.le_trans (Nat.le_trans (Nat.le_trans (Nat.le_trans hz31 E32.1) (Keep.of_wr W36).1) (Keep.of_wr W40).1) (Keep.of_wr W44).1) (Keep.of_wr W48).1) (Keep.of_wr W52).1) (Keep.of_wr W56).1)
      obtain ⟨T59, h59, X59, e59, E59, A59, D59, -, st59⟩ := newO X56 hx hZ hown (W 4 rfl) (W 5 rfl) (W 6 rfl) e56 (g := (mkF m 292 #[.val (.int p0), .val (.long q1), .second, .val (.long q2), .second, .val (.long q3), .second, .val (.int (p0 &&& (2147483647 : Int32))), .val (.int (3 : Int32)), .val (.int (1 : Int32)), .val (.ref b1), .val (.ref b17), .val (.ref b24), .val (.int (6 : Int32)), .val (.ref b32), .unset, .unset, .unset] [])) rfl (hb hby at_292) (by decide) (by decide)
      obtain ⟨b59, gg59⟩ : ∃ z, z = h56.size := ⟨_, rfl⟩
      rw [← gg59] at A59 D59 st59
      have g_b59 : n0 ≤ b59 := Nat.le_trans Z57z (Nat.le_of_eq gg59.symm)
      have sz_b59 : h0.size ≤ b59 := Nat.le_trans hz58 (Nat.le_of_eq gg59.symm)
      have F_scope_b59 : Fld Z h59 b59 "com/example/beliefwire/beliefwire/model/Factor" "scope" "[I" .null := D59 (Or.inr (W 45 rfl)) (ty := (.array .int)) (by decide)
      have F_cardinalities_b59 : Fld Z h59 b59 "com/example/beliefwire/beliefwire/model/Factor" "cardinalities" "[I" .null := D59 (Or.inr (W 47 rfl)) (ty := (.array .int)) (by decide)
      have F_entries_b59 : Fld Z h59 b59 "com/example/beliefwire/beliefwire/model/Factor" "entries" "[D" .null := D59 (Or.inr (W 55 rfl)) (ty := (.array .double)) (by decide)
      have Z61z : n0 ≤ h59.size := (Nat.le_trans Z57z E59.1)
      have ne_b17_b24 : b17 ≠ b24 := Nat.ne_of_lt (Nat.lt_of_lt_of_le (V_b17_21).lt (Nat.le_of_eq gg24.symm))
      have ne_b17_b32 : b17 ≠ b32 := Nat.ne_of_lt (Nat.lt_of_lt_of_le (Nat.lt_of_lt_of_le (Nat.lt_of_lt_of_le (Nat.lt_of_lt_of_le (V_b17_21).lt E24.1) (Keep.of_wr W26).1) (Keep.of_wr W28).1) (Nat.le_of_eq gg32.symm))
      have V_b17_21_62 := (((((((((((V_b17_21.ext E24).other W26 ne_b17_b24).other W28 ne_b17_b24).ext E32).other W36 ne_b17_b32).other W40 ne_b17_b32).other W44 ne_b17_b32).other W48 ne_b17_b32).other W52 ne_b17_b32).other W56 ne_b17_b32).ext E59)
      have B17_63 := (((((((((((((B17.wr W19).wr W21).ext E24).wr W26).wr W28).ext E32).wr W36).wr W40).wr W44).wr W48).wr W52).wr W56).ext E59)
      have ne_b24_b32 : b24 ≠ b32 := Nat.ne_of_lt (Nat.lt_of_lt_of_le (Vc).lt (Nat.le_of_eq gg32.symm))
      have Vc_64 := ((((((((Vc.ext E32).other W36 ne_b24_b32).other W40 ne_b24_b32).other W44 ne_b24_b32).other W48 ne_b24_b32).other W52 ne_b24_b32).other W56 ne_b24_b32).ext E59)
      have B24_65 := ((((((((((B24.wr W26).wr W28).ext E32).wr W36).wr W40).wr W44).wr W48).wr W52).wr W56).ext E59)
      have V_b32_56_66 := (V_b32_56.ext E59)
      have B32_67 := (((((((B32.wr W36).wr W40).wr W44).wr W48).wr W52).wr W56).ext E59)
      obtain ⟨_, _, ⟨T60, L60, k60, n60⟩, -, X60, ⟨Lc60, hQ60, l60, y60, z60⟩, st60⟩ := X59.specialBack hx (y := (⟨"com/example/beliefwire/beliefwire/model/Factor", "<init>", "([I[I[D)V"⟩ : MethodName)) rfl hown (mvT hZ (W 7 rfl)) (mvT hZ (W 8 rfl)) (mvT hZ (W 9 rfl)) (by decide) (backOf (W := 1) (rm_in_13 l Z a0 hw [] b59 b17 b24 b32 (own_v q1) (own_v (own_us q1 32)) (own_v q2) (own_v (own_us q2 32)) (own_v q3) (own_v (own_us q3 32)) _ _ _ k17 k24 k32 h59 n0 Z61z A59 g_b59 F_scope_b59 F_cardinalities_b59 F_entries_b59 V_b17_21_62 B17_63 Vc_64 B24_65 V_b32_56_66 B32_67 (own_vf _) (own_vn _) (own_vf _) (own_vn _) (own_vf _) (own_vn _) (own_vf _) (own_vn _) (own_vf _) (own_vn _) (own_vf _) (own_vn _)) hZ (W 9 rfl) (W 6 rfl) (by decide) (by decide)) (g := (mkF m 302 #[.val (.int p0), .val (.long q1), .second, .val (.long q2), .second, .val (.long q3), .second, .val (.int (p0 &&& (2147483647 : Int32))), .val (.int (3 : Int32)), .val (.int (1 : Int32)), .val (.ref b1), .val (.ref b17), .val (.ref b24), .val (.int (6 : Int32)), .val (.ref b32), .unset, .unset, .unset] [(.ref b32), (.ref b24), (.ref b17), (.ref b59), (.ref b59)])) rfl (by rw [hml]; rfl) (Steps.refl _) (a := b59) (argsL := [(.ref b17), (.ref b24), (.ref b32)]) (rest := [(.ref b59)]) (lenOf pd_9 rfl) rfl (own_le rfl) (hb hby at_302) (fun _ _ => ⟨rfl, e59, (by decide : 5 + 4 ≤ _), (by decide : 19 + 12 ≤ _)⟩)
      dsimp only [Pt.U, Pt.locs, Pt.cells, Pt.slots] at X60 l60 y60 z60 st60 hQ60
      subst l60 y60 z60
      obtain ⟨rfl, N60q, K60, Eq60, bc60, be60, Fc60, Fe60, Ec60, Vc60, Ve60⟩ := hQ60
      have N60 := Fr.app N56 N60q
      obtain ⟨LL60, X60, N60⟩ := own_hide X60 N60
      have Z69z : n0 ≤ T60.heap.size := (Nat.le_trans Z61z K60.1)
      obtain ⟨_, _, ⟨T68, L68, k68, n68⟩, -, X68, ⟨Lc68, hQ68, l68, y68, z68⟩, st68⟩ := Jvm.LawKit.callS X60 hx (y := (⟨"com/example/beliefwire/beliefwire/io/NoisyMax", "leak", "(Lcom/example/beliefwire/beliefwire/model/Factor;)[D"⟩ : MethodName)) hown (mvT hZ (W 56 rfl)) (mvT hZ (W 57 rfl)) (mvT hZ (W 58 rfl)) (mvT hZ (W 59 rfl)) (by decide) (backOf (W := 0) (rm_lk_13 l Z a0 hw [] b59 bc60 be60 (own_v q1) (own_v (own_us q1 32)) (own_v q2) (own_v (own_us q2 32)) (own_v q3) (own_v (own_us q3 32)) k24 k32 T60.heap n0 Z69z Eq60 Fc60 Vc60 Ec60 Fe60 Ve60) hZ (W 59 rfl) (W 58 rfl) (by decide) (by decide)) (g := (mkF m 309 #[.val (.int p0), .val (.long q1), .second, .val (.long q2), .second, .val (.long q3), .second, .val (.int (p0 &&& (2147483647 : Int32))), .val (.int (3 : Int32)), .val (.int (1 : Int32)), .val (.ref b1), .val (.ref b17), .val (.ref b24), .val (.int (6 : Int32)), .val (.ref b32), .val (.ref b59), .unset, .unset] [(.ref b59)])) rfl (by rw [hml]; rfl) (argsL := [(.ref b59)]) (rest := []) (lenOf pd_10 rfl) rfl (own_le rfl) (hb hby at_309) (fun _ _ => ⟨rfl, rfl, (by decide : 9 + 2 ≤ _), (by decide : 31 + 5 ≤ _)⟩)
      dsimp only [Pt.U, Pt.locs, Pt.cells, Pt.slots] at X68 l68 y68 z68 st68 hQ68
      subst l68 y68 z68
      obtain ⟨⟨b68, kb68, rfl, V68⟩, N68q, K68⟩ := hQ68
      have N68 := Fr.app N60 N68q
      obtain ⟨LL68, X68, N68⟩ := own_hide X68 N68
      obtain ⟨cl_b68_70, Ar_b68_70, q_b68_70, S_b68_70, N_b68_70, H_b68_70, G_b68_70⟩ := id V68
      have Al_b68_70 := State.isArrayOf_alike hZ.alike Ar_b68_70.2.1
      have hin_b68_70_0 : ¬ ((0 : Int32) < 0 ∨ cl_b68_70.slots.size ≤ ((0 : Int32)).toNatClampNeg) := inb_of S_b68_70 ⟨by decide, by decide⟩
      have hat_b68_70_0 : cl_b68_70.slots[((0 : Int32)).toNatClampNeg]? = some (.double (own_v q1)) := H_b68_70 _ (by rw [S_b68_70]; decide)
      have ne_b1_b59 : b1 ≠ b59 := Nat.ne_of_lt (Nat.lt_of_lt_of_le (Nat.lt_of_lt_of_le (V_b1_13_53).lt (Keep.of_wr W56).1) (Nat.le_of_eq gg59.symm))
      have V_b1_13_71 := ((((V_b1_13_53.other W56 ne_b1_b32).ext E59).keep K60 (own_nin1 ne_b1_b59)).keep K68 own_nin0)
      obtain ⟨cl_b1_72, Ar_b1_72, q_b1_72, S_b1_72, N_b1_72, H_b1_72, G_b1_72⟩ := id V_b1_13_71
      have Al_b1_72 := State.isArrayOf_alike hZ.alike Ar_b1_72.2.1
      have hin_b1_72_0 : ¬ ((0 : Int32) < 0 ∨ cl_b1_72.slots.size ≤ ((0 : Int32)).toNatClampNeg) := inb_of S_b1_72 ⟨by decide, by decide⟩
      have hat_b1_72_0 : cl_b1_72.slots[((0 : Int32)).toNatClampNeg]? = some (.double (own_v q1)) := H_b1_72 _ (by rw [S_b1_72]; decide)
      have hin_b68_70_1 : ¬ ((1 : Int32) < 0 ∨ cl_b68_70.slots.size ≤ ((1 : Int32)).toNatClampNeg) := inb_of S_b68_70 ⟨by decide, by decide⟩
      have hat_b68_70_1 : cl_b68_70.slots[((1 : Int32)).toNatClampNeg]? = some (.double (own_v (own_us q1 32))) := H_b68_70 _ (by rw [S_b68_70]; decide)
      have hin_b1_72_1 : ¬ ((1 : Int32) < 0 ∨ cl_b1_72.slots.size ≤ ((1 : Int32)).toNatClampNeg) := inb_of S_b1_72 ⟨by decide, by decide⟩
      have hat_b1_72_1 : cl_b1_72.slots[((1 : Int32)).toNatClampNeg]? = some (.double (own_v (own_us q1 32))) := H_b1_72 _ (by rw [S_b1_72]; decide)
      have hin_b68_70_2 : ¬ ((2 : Int32) < 0 ∨ cl_b68_70.slots.size ≤ ((2 : Int32)).toNatClampNeg) := inb_of S_b68_70 ⟨by decide, by decide⟩
      have hat_b68_70_2 : cl_b68_70.slots[((2 : Int32)).toNatClampNeg]? = some (.double (own_v q2)) := H_b68_70 _ (by rw [S_b68_70]; decide)
      have hin_b1_72_2 : ¬ ((2 : Int32) < 0 ∨ cl_b1_72.slots.size ≤ ((2 : Int32)).toNatClampNeg) := inb_of S_b1_72 ⟨by decide, by decide⟩
      have hat_b1_72_2 : cl_b1_72.slots[((2 : Int32)).toNatClampNeg]? = some (.double (own_v q2)) := H_b1_72 _ (by rw [S_b1_72]; decide)
      obtain ⟨fs, hr, hrun, hended, hW, hsame⟩ := X68.leave (v := some (.int (1 : Int32))) (fun h => by rw [Bd.returns] at h; cases h)
      refine ⟨_, _, pre29 _ ?_, hrun, hended, _, _, rfl, ?_, ⟨_, rfl⟩, hW, hsame.mono (by decide) (by decide)⟩
      · show Steps p.tables e below (T28.setTop (mkF m 192 #[.val (.int p0), .val (.long q1), .second, .val (.long q2), .second, .val (.long q3), .second, .val (.int (p0 &&& (2147483647 : Int32))), .val (.int ((1 : Int32) + ((p0 &&& (2147483647 : Int32)) % (3 : Int32)))), .val (.int (1 : Int32)), .val (.ref b1), .val (.ref b17), .val (.ref b24), .unset, .unset, .unset, .unset, .unset] [])) _
        show Steps p.tables e below (T28.setTop (mkF m 192 #[.val (.int p0), .val (.long q1), .second, .val (.long q2), .second, .val (.long q3), .second, .val (.int (p0 &&& (2147483647 : Int32))), .val (.int ((1 : Int32) + ((p0 &&& (2147483647 : Int32)) % (3 : Int32)))), .val (.int (1 : Int32)), .val (.ref b1), .val (.ref b17), .val (.ref b24), .unset, .unset, .unset, .unset, .unset] [])) _
        rw [show ((1 : Int32) + ((p0 &&& (2147483647 : Int32)) % (3 : Int32))) = (3 : Int32) from hc]
        refine XS.iload X28.here hx rfl (hb hby at_192) rfl ?_
        refine XS.ifYes X28.here hx rfl (pc0 := 194) (pc' := 202) rfl (hb hby at_194) rfl ((if0 _ _).trans (feq (by decide : ¬ ((1 : Int32) = (0 : Int32)))).2) (by decide) (by decide) ?_
        refine XS.iconst X28.here hx rfl (hb hby at_202) ?_
        refine XS.iload X28.here hx rfl (hb hby at_203) rfl ?_
        refine XS.imul X28.here hx rfl (hb hby at_205) rfl ?_
        show Steps p.tables e below (T28.setTop (mkF m 206 #[.val (.int p0), .val (.long q1), .second, .val (.long q2), .second, .val (.long q3), .second, .val (.int (p0 &&& (2147483647 : Int32))), .val (.int (3 : Int32)), .val (.int (1 : Int32)), .val (.ref b1), .val (.ref b17), .val (.ref b24), .unset, .unset, .unset, .unset, .unset] [(.int ((2 : Int32) * (3 : Int32)))])) _
        rw [show ((2 : Int32) * (3 : Int32)) = (6 : Int32) from (by decide)]
        refine XS.istore X28.here hx rfl (hb hby at_206) rfl (l' := #[.val (.int p0), .val (.long q1), .second, .val (.long q2), .second, .val (.long q3), .second, .val (.int (p0 &&& (2147483647 : Int32))), .val (.int (3 : Int32)), .val (.int (1 : Int32)), .val (.ref b1), .val (.ref b17), .val (.ref b24), .val (.int (6 : Int32)), .unset, .unset, .unset, .unset]) rfl ?_
        refine XS.iload X28.here hx rfl (hb hby at_208) rfl ?_
        refine st32 _ ?_
        refine XS.astore X32.here hx rfl (hb hby at_212) rfl rfl (l' := #[.val (.int p0), .val (.long q1), .second, .val (.long q2), .second, .val (.long q3), .second, .val (.int (p0 &&& (2147483647 : Int32))), .val (.int (3 : Int32)), .val (.int (1 : Int32)), .val (.ref b1), .val (.ref b17), .val (.ref b24), .val (.int (6 : Int32)), .val (.ref b32), .unset, .unset, .unset]) rfl ?_
        refine XS.aload X32.here hx rfl (hb hby at_214) rfl rfl ?_
        refine XS.iconst X32.here hx rfl (hb hby at_216) ?_
        refine XS.aload X32.here hx rfl (hb hby at_217) rfl rfl ?_
        refine XS.iconst X32.here hx rfl (hb hby at_219) ?_
        refine X32.daload hx (j := (0 : Int32)) (v := (.double (own_v q1))) (by rw [e32]; exact Ar_b1_34.1) Al_b1_34 Ar_b1_34.2.2 hin_b1_34_0 hat_b1_34_0 (g := (mkF m 220 #[.val (.int p0), .val (.long q1), .second, .val (.long q2), .second, .val (.long q3), .second, .val (.int (p0 &&& (2147483647 : Int32))), .val (.int (3 : Int32)), .val (.int (1 : Int32)), .val (.ref b1), .val (.ref b17), .val (.ref b24), .val (.int (6 : Int32)), .val (.ref b32), .unset, .unset, .unset] [(.int (0 : Int32)), (.ref b1), (.int (0 : Int32)), (.ref b32)])) rfl rfl (hb hby at_220) _ ?_
        refine st36 _ ?_
        refine XS.iload X36.here hx rfl (hb hby at_222) rfl ?_
        refine XS.iconst X36.here hx rfl (hb hby at_224) ?_
        refine XS.icmpNo X36.here hx rfl (hb hby at_225) rfl (tlt (by decide : (1 : Int32) < (6 : Int32))).2.2.2 ?_
        refine XS.aload X36.here hx rfl (hb hby at_228) rfl rfl ?_
        refine XS.iconst X36.here hx rfl (hb hby at_230) ?_
        refine XS.aload X36.here hx rfl (hb hby at_231) rfl rfl ?_
        refine XS.iconst X36.here hx rfl (hb hby at_233) ?_
        refine X36.daload hx (j := (1 : Int32)) (v := (.double (own_v (own_us q1 32)))) (by rw [e36]; exact Ar_b1_38.1) Al_b1_38 Ar_b1_38.2.2 hin_b1_38_1 hat_b1_38_1 (g := (mkF m 234 #[.val (.int p0), .val (.long q1), .second, .val (.long q2), .second, .val (.long q3), .second, .val (.int (p0 &&& (2147483647 : Int32))), .val (.int (3 : Int32)), .val (.int (1 : Int32)), .val (.ref b1), .val (.ref b17), .val (.ref b24), .val (.int (6 : Int32)), .val (.ref b32), .unset, .unset, .unset] [(.int (1 : Int32)), (.ref b1), (.int (1 : Int32)), (.ref b32)])) rfl rfl (hb hby at_234) _ ?_
        refine st40 _ ?_
        refine XS.iload X40.here hx rfl (hb hby at_236) rfl ?_
        refine XS.iconst X40.here hx rfl (hb hby at_238) ?_
        refine XS.icmpNo X40.here hx rfl (hb hby at_239) rfl (tlt (by decide : (2 : Int32) < (6 : Int32))).2.2.2 ?_
        refine XS.aload X40.here hx rfl (hb hby at_242) rfl rfl ?_
        refine XS.iconst X40.here hx rfl (hb hby at_244) ?_
        refine XS.aload X40.here hx rfl (hb hby at_245) rfl rfl ?_
        refine XS.iconst X40.here hx rfl (hb hby at_247) ?_
        refine X40.daload hx (j := (2 : Int32)) (v := (.double (own_v q2))) (by rw [e40]; exact Ar_b1_42.1) Al_b1_42 Ar_b1_42.2.2 hin_b1_42_2 hat_b1_42_2 (g := (mkF m 248 #[.val (.int p0), .val (.long q1), .second, .val (.long q2), .second, .val (.long q3), .second, .val (.int (p0 &&& (2147483647 : Int32))), .val (.int (3 : Int32)), .val (.int (1 : Int32)), .val (.ref b1), .val (.ref b17), .val (.ref b24), .val (.int (6 : Int32)), .val (.ref b32), .unset, .unset, .unset] [(.int (2 : Int32)), (.ref b1), (.int (2 : Int32)), (.ref b32)])) rfl rfl (hb hby at_248) _ ?_
        refine st44 _ ?_
        refine XS.iload X44.here hx rfl (hb hby at_250) rfl ?_
        refine XS.iconst X44.here hx rfl (hb hby at_252) ?_
        refine XS.icmpNo X44.here hx rfl (hb hby at_253) rfl (tlt (by decide : (3 : Int32) < (6 : Int32))).2.2.2 ?_
        refine XS.aload X44.here hx rfl (hb hby at_256) rfl rfl ?_
        refine XS.iconst X44.here hx rfl (hb hby at_258) ?_
        refine XS.aload X44.here hx rfl (hb hby at_259) rfl rfl ?_
        refine XS.iconst X44.here hx rfl (hb hby at_261) ?_
        refine X44.daload hx (j := (3 : Int32)) (v := (.double (own_v (own_us q2 32)))) (by rw [e44]; exact Ar_b1_46.1) Al_b1_46 Ar_b1_46.2.2 hin_b1_46_3 hat_b1_46_3 (g := (mkF m 262 #[.val (.int p0), .val (.long q1), .second, .val (.long q2), .second, .val (.long q3), .second, .val (.int (p0 &&& (2147483647 : Int32))), .val (.int (3 : Int32)), .val (.int (1 : Int32)), .val (.ref b1), .val (.ref b17), .val (.ref b24), .val (.int (6 : Int32)), .val (.ref b32), .unset, .unset, .unset] [(.int (3 : Int32)), (.ref b1), (.int (3 : Int32)), (.ref b32)])) rfl rfl (hb hby at_262) _ ?_
        refine st48 _ ?_
        refine XS.iload X48.here hx rfl (hb hby at_264) rfl ?_
        refine XS.iconst X48.here hx rfl (hb hby at_266) ?_
        refine XS.icmpNo X48.here hx rfl (hb hby at_267) rfl (tlt (by decide : (4 : Int32) < (6 : Int32))).2.2.2 ?_
        refine XS.aload X48.here hx rfl (hb hby at_270) rfl rfl ?_
        refine XS.iconst X48.here hx rfl (hb hby at_272) ?_
        refine XS.aload X48.here hx rfl (hb hby at_273) rfl rfl ?_
        refine XS.iconst X48.here hx rfl (hb hby at_275) ?_
        refine X48.daload hx (j := (4 : Int32)) (v := (.double (own_v q3))) (by rw [e48]; exact Ar_b1_50.1) Al_b1_50 Ar_b1_50.2.2 hin_b1_50_4 hat_b1_50_4 (g := (mkF m 276 #[.val (.int p0), .val (.long q1), .second, .val (.long q2), .second, .val (.long q3), .second, .val (.int (p0 &&& (2147483647 : Int32))), .val (.int (3 : Int32)), .val (.int (1 : Int32)), .val (.ref b1), .val (.ref b17), .val (.ref b24), .val (.int (6 : Int32)), .val (.ref b32), .unset, .unset, .unset] [(.int (4 : Int32)), (.ref b1), (.int (4 : Int32)), (.ref b32)])) rfl rfl (hb hby at_276) _ ?_
        refine st52 _ ?_
        refine XS.iload X52.here hx rfl (hb hby at_278) rfl ?_
        refine XS.iconst X52.here hx rfl (hb hby at_280) ?_
        refine XS.icmpNo X52.here hx rfl (hb hby at_281) rfl (tlt (by decide : (5 : Int32) < (6 : Int32))).2.2.2 ?_
        refine XS.aload X52.here hx rfl (hb hby at_284) rfl rfl ?_
        refine XS.iconst X52.here hx rfl (hb hby at_286) ?_
        refine XS.aload X52.here hx rfl (hb hby at_287) rfl rfl ?_
        refine XS.iconst X52.here hx rfl (hb hby at_289) ?_
        refine X52.daload hx (j := (5 : Int32)) (v := (.double (own_v (own_us q3 32)))) (by rw [e52]; exact Ar_b1_54.1) Al_b1_54 Ar_b1_54.2.2 hin_b1_54_5 hat_b1_54_5 (g := (mkF m 290 #[.val (.int p0), .val (.long q1), .second, .val (.long q2), .second, .val (.long q3), .second, .val (.int (p0 &&& (2147483647 : Int32))), .val (.int (3 : Int32)), .val (.int (1 : Int32)), .val (.ref b1), .val (.ref b17), .val (.ref b24), .val (.int (6 : Int32)), .val (.ref b32), .unset, .unset, .unset] [(.int (5 : Int32)), (.ref b1), (.int (5 : Int32)), (.ref b32)])) rfl rfl (hb hby at_290) _ ?_
        refine st56 _ ?_
        refine st59 _ ?_
        refine XS.dup X59.here hx rfl (hb hby at_295) rfl rfl ?_
        refine XS.aload X59.here hx rfl (hb hby at_296) rfl rfl ?_
        refine XS.aload X59.here hx rfl (hb hby at_298) rfl rfl ?_
        refine XS.aload X59.here hx rfl (hb hby at_300) rfl rfl ?_
        refine st60.trans ?_
        refine XS.astore X60.here hx rfl (hb hby at_305) rfl rfl (l' := #[.val (.int p0), .val (.long q1), .second, .val (.long q2), .second, .val (.long q3), .second, .val (.int (p0 &&& (2147483647 : Int32))), .val (.int (3 : Int32)), .val (.int (1 : Int32)), .val (.ref b1), .val (.ref b17), .val (.ref b24), .val (.int (6 : Int32)), .val (.ref b32), .val (.ref b59), .unset, .unset]) rfl ?_
        refine XS.aload X60.here hx rfl (hb hby at_307) rfl rfl ?_
        refine st68 _ ?_
        refine XS.astore X68.here hx rfl (hb hby at_312) rfl rfl (l' := #[.val (.int p0), .val (.long q1), .second, .val (.long q2), .second, .val (.long q3), .second, .val (.int (p0 &&& (2147483647 : Int32))), .val (.int (3 : Int32)), .val (.int (1 : Int32)), .val (.ref b1), .val (.ref b17), .val (.ref b24), .val (.int (6 : Int32)), .val (.ref b32), .val (.ref b59), .val (.ref b68), .unset]) rfl ?_
        refine XS.aload X68.here hx rfl (hb hby at_314) rfl rfl ?_
        refine X68.arraylength hx Ar_b68_70.1 Al_b68_70 (g := (mkF m 316 #[.val (.int p0), .val (.long q1), .second, .val (.long q2), .second, .val (.long q3), .second, .val (.int (p0 &&& (2147483647 : Int32))), .val (.int (3 : Int32)), .val (.int (1 : Int32)), .val (.ref b1), .val (.ref b17), .val (.ref b24), .val (.int (6 : Int32)), .val (.ref b32), .val (.ref b59), .val (.ref b68), .unset] [(.ref b68)])) rfl rfl (hb hby at_316) _ ?_
        rw [len_of S_b68_70 N_b68_70]
        refine XS.iload X68.here hx rfl (hb hby at_317) rfl ?_
        refine XS.icmpYes X68.here hx rfl (pc0 := 319) (pc' := 324) rfl (hb hby at_319) rfl (teq (by decide : (3 : Int32) = (3 : Int32))).1 (by decide) (by decide) ?_
        refine XS.aload X68.here hx rfl (hb hby at_324) rfl rfl ?_
        refine XS.iconst X68.here hx rfl (hb hby at_326) ?_
        refine X68.daload hx (j := (0 : Int32)) (v := (.double (own_v q1))) Ar_b68_70.1 Al_b68_70 Ar_b68_70.2.2 hin_b68_70_0 hat_b68_70_0 (g := (mkF m 327 #[.val (.int p0), .val (.long q1), .second, .val (.long q2), .second, .val (.long q3), .second, .val (.int (p0 &&& (2147483647 : Int32))), .val (.int (3 : Int32)), .val (.int (1 : Int32)), .val (.ref b1), .val (.ref b17), .val (.ref b24), .val (.int (6 : Int32)), .val (.ref b32), .val (.ref b59), .val (.ref b68), .unset] [(.int (0 : Int32)), (.ref b68)])) rfl rfl (hb hby at_327) _ ?_
        refine XS.aload X68.here hx rfl (hb hby at_328) rfl rfl ?_
        refine XS.iconst X68.here hx rfl (hb hby at_330) ?_
        refine X68.daload hx (j := (0 : Int32)) (v := (.double (own_v q1))) Ar_b1_72.1 Al_b1_72 Ar_b1_72.2.2 hin_b1_72_0 hat_b1_72_0 (g := (mkF m 331 #[.val (.int p0), .val (.long q1), .second, .val (.long q2), .second, .val (.long q3), .second, .val (.int (p0 &&& (2147483647 : Int32))), .val (.int (3 : Int32)), .val (.int (1 : Int32)), .val (.ref b1), .val (.ref b17), .val (.ref b24), .val (.int (6 : Int32)), .val (.ref b32), .val (.ref b59), .val (.ref b68), .unset] [(.int (0 : Int32)), (.ref b1), (.double (own_v q1))])) rfl rfl (hb hby at_331) _ ?_
        refine XS.dcmpS X68.here hx rfl (hb hby at_332) rfl rfl ?_
        refine XS.ifNo X68.here hx rfl (hb hby at_333) rfl ((if0 _ _).trans (teq (own_eqv _)).2) ?_
        refine XS.iconst X68.here hx rfl (hb hby at_336) ?_
        refine XS.goto X68.here hx rfl (pc0 := 337) (pc' := 341) rfl (hb hby at_337) (by decide) (by decide) ?_
        refine XS.istore X68.here hx rfl (hb hby at_341) rfl (l' := #[.val (.int p0), .val (.long q1), .second, .val (.long q2), .second, .val (.long q3), .second, .val (.int (p0 &&& (2147483647 : Int32))), .val (.int (3 : Int32)), .val (.int (1 : Int32)), .val (.ref b1), .val (.ref b17), .val (.ref b24), .val (.int (6 : Int32)), .val (.ref b32), .val (.ref b59), .val (.ref b68), .val (.int (1 : Int32))]) rfl ?_
        refine XS.iload X68.here hx rfl (hb hby at_343) rfl ?_
        refine XS.iconst X68.here hx rfl (hb hby at_345) ?_
        refine XS.icmpNo X68.here hx rfl (hb hby at_346) rfl (tlt (by decide : (1 : Int32) < (3 : Int32))).2.2.2 ?_
        refine XS.iload X68.here hx rfl (hb hby at_349) rfl ?_
        refine XS.ifNo X68.here hx rfl (hb hby at_351) rfl ((if0 _ _).trans (feq (by decide : ¬ ((1 : Int32) = (0 : Int32)))).1) ?_
        refine XS.aload X68.here hx rfl (hb hby at_354) rfl rfl ?_
        refine XS.iconst X68.here hx rfl (hb hby at_356) ?_
        refine X68.daload hx (j := (1 : Int32)) (v := (.double (own_v (own_us q1 32)))) Ar_b68_70.1 Al_b68_70 Ar_b68_70.2.2 hin_b68_70_1 hat_b68_70_1 (g := (mkF m 357 #[.val (.int p0), .val (.long q1), .second, .val (.long q2), .second, .val (.long q3), .second, .val (.int (p0 &&& (2147483647 : Int32))), .val (.int (3 : Int32)), .val (.int (1 : Int32)), .val (.ref b1), .val (.ref b17), .val (.ref b24), .val (.int (6 : Int32)), .val (.ref b32), .val (.ref b59), .val (.ref b68), .val (.int (1 : Int32))] [(.int (1 : Int32)), (.ref b68)])) rfl rfl (hb hby at_357) _ ?_
        refine XS.aload X68.here hx rfl (hb hby at_358) rfl rfl ?_
        refine XS.iconst X68.here hx rfl (hb hby at_360) ?_
        refine X68.daload hx (j := (1 : Int32)) (v := (.double (own_v (own_us q1 32)))) Ar_b1_72.1 Al_b1_72 Ar_b1_72.2.2 hin_b1_72_1 hat_b1_72_1 (g := (mkF m 361 #[.val (.int p0), .val (.long q1), .second, .val (.long q2), .second, .val (.long q3), .second, .val (.int (p0 &&& (2147483647 : Int32))), .val (.int (3 : Int32)), .val (.int (1 : Int32)), .val (.ref b1), .val (.ref b17), .val (.ref b24), .val (.int (6 : Int32)), .val (.ref b32), .val (.ref b59), .val (.ref b68), .val (.int (1 : Int32))] [(.int (1 : Int32)), (.ref b1), (.double (own_v (own_us q1 32)))])) rfl rfl (hb hby at_361) _ ?_
        refine XS.dcmpS X68.here hx rfl (hb hby at_362) rfl rfl ?_
        refine XS.ifNo X68.here hx rfl (hb hby at_363) rfl ((if0 _ _).trans (teq (own_eqv _)).2) ?_
        refine XS.iconst X68.here hx rfl (hb hby at_366) ?_
        refine XS.goto X68.here hx rfl (pc0 := 367) (pc' := 371) rfl (hb hby at_367) (by decide) (by decide) ?_
        refine XS.istore X68.here hx rfl (hb hby at_371) rfl (l' := #[.val (.int p0), .val (.long q1), .second, .val (.long q2), .second, .val (.long q3), .second, .val (.int (p0 &&& (2147483647 : Int32))), .val (.int (3 : Int32)), .val (.int (1 : Int32)), .val (.ref b1), .val (.ref b17), .val (.ref b24), .val (.int (6 : Int32)), .val (.ref b32), .val (.ref b59), .val (.ref b68), .val (.int (1 : Int32))]) rfl ?_
        refine XS.iload X68.here hx rfl (hb hby at_373) rfl ?_
        refine XS.iconst X68.here hx rfl (hb hby at_375) ?_
        refine XS.icmpNo X68.here hx rfl (hb hby at_376) rfl (tlt (by decide : (2 : Int32) < (3 : Int32))).2.2.2 ?_
        refine XS.iload X68.here hx rfl (hb hby at_379) rfl ?_
        refine XS.ifNo X68.here hx rfl (hb hby at_381) rfl ((if0 _ _).trans (feq (by decide : ¬ ((1 : Int32) = (0 : Int32)))).1) ?_
        refine XS.aload X68.here hx rfl (hb hby at_384) rfl rfl ?_
        refine XS.iconst X68.here hx rfl (hb hby at_386) ?_
        refine X68.daload hx (j := (2 : Int32)) (v := (.double (own_v q2))) Ar_b68_70.1 Al_b68_70 Ar_b68_70.2.2 hin_b68_70_2 hat_b68_70_2 (g := (mkF m 387 #[.val (.int p0), .val (.long q1), .second, .val (.long q2), .second, .val (.long q3), .second, .val (.int (p0 &&& (2147483647 : Int32))), .val (.int (3 : Int32)), .val (.int (1 : Int32)), .val (.ref b1), .val (.ref b17), .val (.ref b24), .val (.int (6 : Int32)), .val (.ref b32), .val (.ref b59), .val (.ref b68), .val (.int (1 : Int32))] [(.int (2 : Int32)), (.ref b68)])) rfl rfl (hb hby at_387) _ ?_
        refine XS.aload X68.here hx rfl (hb hby at_388) rfl rfl ?_
        refine XS.iconst X68.here hx rfl (hb hby at_390) ?_
        refine X68.daload hx (j := (2 : Int32)) (v := (.double (own_v q2))) Ar_b1_72.1 Al_b1_72 Ar_b1_72.2.2 hin_b1_72_2 hat_b1_72_2 (g := (mkF m 391 #[.val (.int p0), .val (.long q1), .second, .val (.long q2), .second, .val (.long q3), .second, .val (.int (p0 &&& (2147483647 : Int32))), .val (.int (3 : Int32)), .val (.int (1 : Int32)), .val (.ref b1), .val (.ref b17), .val (.ref b24), .val (.int (6 : Int32)), .val (.ref b32), .val (.ref b59), .val (.ref b68), .val (.int (1 : Int32))] [(.int (2 : Int32)), (.ref b1), (.double (own_v q2))])) rfl rfl (hb hby at_391) _ ?_
        refine XS.dcmpS X68.here hx rfl (hb hby at_392) rfl rfl ?_
        refine XS.ifNo X68.here hx rfl (hb hby at_393) rfl ((if0 _ _).trans (teq (own_eqv _)).2) ?_
        refine XS.iconst X68.here hx rfl (hb hby at_396) ?_
        refine XS.goto X68.here hx rfl (pc0 := 397) (pc' := 401) rfl (hb hby at_397) (by decide) (by decide) ?_
        refine XS.istore X68.here hx rfl (hb hby at_401) rfl (l' := #[.val (.int p0), .val (.long q1), .second, .val (.long q2), .second, .val (.long q3), .second, .val (.int (p0 &&& (2147483647 : Int32))), .val (.int (3 : Int32)), .val (.int (1 : Int32)), .val (.ref b1), .val (.ref b17), .val (.ref b24), .val (.int (6 : Int32)), .val (.ref b32), .val (.ref b59), .val (.ref b68), .val (.int (1 : Int32))]) rfl ?_
        refine XS.iload X68.here hx rfl (hb hby at_403) rfl ?_
        show Steps p.tables e below (T68.setTop (mkF m 405 #[.val (.int p0), .val (.long q1), .second, .val (.long q2), .second, .val (.long q3), .second, .val (.int (p0 &&& (2147483647 : Int32))), .val (.int (3 : Int32)), .val (.int (1 : Int32)), .val (.ref b1), .val (.ref b17), .val (.ref b24), .val (.int (6 : Int32)), .val (.ref b32), .val (.ref b59), .val (.ref b68), .val (.int (1 : Int32))] [(.int (1 : Int32))])) _
        exact retN X68 hx (t := .boolean) Bd.returns (by simp) (hb hby at_405) hr
      · show Q0 Z p0 h0 n0 _ T68.heap _
        exact ⟨rfl, N68⟩
  · have Z15z : n0 ≤ h13.size := (Nat.le_trans (Nat.le_trans (Nat.le_trans (Nat.le_trans (Nat.le_trans (Nat.le_trans (Nat.le_trans Z0 E1.1) (Keep.of_wr W3).1) (Keep.of_wr W5).1) (Keep.of_wr W7).1) (Keep.of_wr W9).1) (Keep.of_wr W11).1) (Keep.of_wr W13).1)
    have hz16 : h0.size ≤ h13.size := (Nat.le_trans (Nat.le_trans (Nat.le_trans (Nat.le_trans (Nat.le_trans (Nat.le_trans (Nat.le_trans (Nat.le_refl h0.size) E1.1) (Keep.of_wr W3).1) (Keep.of_wr W5).1) (Keep.of_wr W7).1) (Keep.of_wr W9).1) (Keep.of_wr W11).1) (Keep.of_wr W13).1)
    obtain ⟨T17, h17, k17, X17, e17, E17, A17, B17, st17⟩ := newPE X13 hx hZ (W 3 rfl) e13 (g := (mkF m 158 #[.val (.int p0), .val (.long q1), .second, .val (.long q2), .second, .val (.long q3), .second, .val (.int (p0 &&& (2147483647 : Int32))), .val (.int ((1 : Int32) + ((p0 &&& (2147483647 : Int32)) % (3 : Int32)))), .val (.int (2 : Int32)), .val (.ref b1), .unset, .unset, .unset, .unset, .unset, .unset, .unset] [(.int (3 : Int32))])) rfl (hb hby at_158) rfl (by decide) (cap := 3) (by decide) (by decide) (by decide) (by decide) (ad := "[I") (by decide)
    obtain ⟨b17, gg17⟩ : ∃ z, z = h13.size := ⟨_, rfl⟩
    rw [← gg17] at A17 B17 st17
    have g_b17 : n0 ≤ b17 := Nat.le_trans Z15z (Nat.le_of_eq gg17.symm)
    have sz_b17 : h0.size ≤ b17 := Nat.le_trans hz16 (Nat.le_of_eq gg17.symm)
    have V_b17 : Arv Z h17 b17 k17 .int (3 : Int32) [(.int (0 : Int32)), (.int (0 : Int32)), (.int (0 : Int32))] (.int (0 : Int32)) := (Arv.new A17 (by decide)).pad (pad_rep [] (.int (0 : Int32)) 3)
    obtain ⟨cl_b17_163_18, Ar_b17_163_18, q_b17_163_18, S_b17_163_18, N_b17_163_18, H_b17_163_18, G_b17_163_18⟩ := id V_b17
    have hin_b17_163_18 : ¬ ((0 : Int32) < 0 ∨ cl_b17_163_18.slots.size ≤ ((0 : Int32)).toNatClampNeg) := inb_of S_b17_163_18 ⟨by decide, by decide⟩
    obtain ⟨T19, h19, X19, e19, W19, st19⟩ := stI X17 hx hZ e17 Ar_b17_163_18 (j := (0 : Int32)) hin_b17_163_18 (g := (mkF m 163 #[.val (.int p0), .val (.long q1), .second, .val (.long q2), .second, .val (.long q3), .second, .val (.int (p0 &&& (2147483647 : Int32))), .val (.int ((1 : Int32) + ((p0 &&& (2147483647 : Int32)) % (3 : Int32)))), .val (.int (2 : Int32)), .val (.ref b1), .unset, .unset, .unset, .unset, .unset, .unset, .unset] [(.int (1 : Int32)), (.int (0 : Int32)), (.ref b17), (.ref b17)])) rfl rfl (hb hby at_163)
    have V_b17_19 := Arv.set Ar_b17_163_18 q_b17_163_18 S_b17_163_18 N_b17_163_18 H_b17_163_18 G_b17_163_18 rfl W19 0 rfl (Nat.le_of_ble_eq_true rfl)
    have N19 := Fr.snoc X19 N13 g_b17
    obtain ⟨LL19, X19, N19⟩ := own_hide X19 N19
    obtain ⟨cl_b17_167_20, Ar_b17_167_20, q_b17_167_20, S_b17_167_20, N_b17_167_20, H_b17_167_20, G_b17_167_20⟩ := id V_b17_19
    have hin_b17_167_20 : ¬ ((1 : Int32) < 0 ∨ cl_b17_167_20.slots.size ≤ ((1 : Int32)).toNatClampNeg) := inb_of S_b17_167_20 ⟨by decide, by decide⟩
    obtain ⟨T21, h21, X21, e21, W21, st21⟩ := stI X19 hx hZ e19 Ar_b17_167_20 (j := (1 : Int32)) hin_b17_167_20 (g := (mkF m 167 #[.val (.int p0), .val (.long q1), .second, .val (.long q2), .second, .val (.long q3), .second, .val (.int (p0 &&& (2147483647 : Int32))), .val (.int ((1 : Int32) + ((p0 &&& (2147483647 : Int32)) % (3 : Int32)))), .val (.int (2 : Int32)), .val (.ref b1), .unset, .unset, .unset, .unset, .unset, .unset, .unset] [(.int (0 : Int32)), (.int (1 : Int32)), (.ref b17), (.ref b17)])) rfl rfl (hb hby at_167)
    have V_b17_21 := Arv.set Ar_b17_167_20 q_b17_167_20 S_b17_167_20 N_b17_167_20 H_b17_167_20 G_b17_167_20 rfl W21 1 rfl (Nat.le_of_ble_eq_true rfl)
    have N21 := Fr.snoc X21 N19 g_b17
    obtain ⟨LL21, X21, N21⟩ := own_hide X21 N21
    obtain ⟨cl_b17_171_22, Ar_b17_171_22, q_b17_171_22, S_b17_171_22, N_b17_171_22, H_b17_171_22, G_b17_171_22⟩ := id V_b17_21
    have hin_b17_171_22 : ¬ ((2 : Int32) < 0 ∨ cl_b17_171_22.slots.size ≤ ((2 : Int32)).toNatClampNeg) := inb_of S_b17_171_22 ⟨by decide, by decide⟩
    obtain ⟨T23, h23, X23, e23, W23, st23⟩ := stI X21 hx hZ e21 Ar_b17_171_22 (j := (2 : Int32)) hin_b17_171_22 (g := (mkF m 171 #[.val (.int p0), .val (.long q1), .second, .val (.long q2), .second, .val (.long q3), .second, .val (.int (p0 &&& (2147483647 : Int32))), .val (.int ((1 : Int32) + ((p0 &&& (2147483647 : Int32)) % (3 : Int32)))), .val (.int (2 : Int32)), .val (.ref b1), .unset, .unset, .unset, .unset, .unset, .unset, .unset] [(.int (2 : Int32)), (.int (2 : Int32)), (.ref b17), (.ref b17)])) rfl rfl (hb hby at_171)
    have V_b17_23 := Arv.set Ar_b17_171_22 q_b17_171_22 S_b17_171_22 N_b17_171_22 H_b17_171_22 G_b17_171_22 rfl W23 2 rfl (Nat.le_of_ble_eq_true rfl)
    have N23 := Fr.snoc X23 N21 g_b17
    obtain ⟨LL23, X23, N23⟩ := own_hide X23 N23
    have Z24z : n0 ≤ h23.size := (Nat.le_trans (Nat.le_trans (Nat.le_trans (Nat.le_trans Z15z E17.1) (Keep.of_wr W19).1) (Keep.of_wr W21).1) (Keep.of_wr W23).1)
    have hz25 : h0.size ≤ h23.size := (Nat.le_trans (Nat.le_trans (Nat.le_trans (Nat.le_trans hz16 E17.1) (Keep.of_wr W19).1) (Keep.of_wr W21).1) (Keep.of_wr W23).1)
    obtain ⟨T26, h26, k26, X26, e26, E26, A26, B26, st26⟩ := newPE X23 hx hZ (W 3 rfl) e23 (g := (mkF m 175 #[.val (.int p0), .val (.long q1), .second, .val (.long q2), .second, .val (.long q3), .second, .val (.int (p0 &&& (2147483647 : Int32))), .val (.int ((1 : Int32) + ((p0 &&& (2147483647 : Int32)) % (3 : Int32)))), .val (.int (2 : Int32)), .val (.ref b1), .val (.ref b17), .unset, .unset, .unset, .unset, .unset, .unset] [(.int (3 : Int32))])) rfl (hb hby at_175) rfl (by decide) (cap := 3) (by decide) (by decide) (by decide) (by decide) (ad := "[I") (by decide)
    obtain ⟨b26, gg26⟩ : ∃ z, z = h23.size := ⟨_, rfl⟩
    rw [← gg26] at A26 B26 st26
    have g_b26 : n0 ≤ b26 := Nat.le_trans Z24z (Nat.le_of_eq gg26.symm)
    have sz_b26 : h0.size ≤ b26 := Nat.le_trans hz25 (Nat.le_of_eq gg26.symm)
    have V_b26 : Arv Z h26 b26 k26 .int (3 : Int32) [(.int (0 : Int32)), (.int (0 : Int32)), (.int (0 : Int32))] (.int (0 : Int32)) := (Arv.new A26 (by decide)).pad (pad_rep [] (.int (0 : Int32)) 3)
    obtain ⟨cl_b26_180_27, Ar_b26_180_27, q_b26_180_27, S_b26_180_27, N_b26_180_27, H_b26_180_27, G_b26_180_27⟩ := id V_b26
    have hin_b26_180_27 : ¬ ((0 : Int32) < 0 ∨ cl_b26_180_27.slots.size ≤ ((0 : Int32)).toNatClampNeg) := inb_of S_b26_180_27 ⟨by decide, by decide⟩
    obtain ⟨T28, h28, X28, e28, W28, st28⟩ := stI X26 hx hZ e26 Ar_b26_180_27 (j := (0 : Int32)) hin_b26_180_27 (g := (mkF m 180 #[.val (.int p0), .val (.long q1), .second, .val (.long q2), .second, .val (.long q3), .second, .val (.int (p0 &&& (2147483647 : Int32))), .val (.int ((1 : Int32) + ((p0 &&& (2147483647 : Int32)) % (3 : Int32)))), .val (.int (2 : Int32)), .val (.ref b1), .val (.ref b17), .unset, .unset, .unset, .unset, .unset, .unset] [(.int (1 : Int32)), (.int (0 : Int32)), (.ref b26), (.ref b26)])) rfl rfl (hb hby at_180)
    have V_b26_28 := Arv.set Ar_b26_180_27 q_b26_180_27 S_b26_180_27 N_b26_180_27 H_b26_180_27 G_b26_180_27 rfl W28 0 rfl (Nat.le_of_ble_eq_true rfl)
    have N28 := Fr.snoc X28 N23 g_b26
    obtain ⟨LL28, X28, N28⟩ := own_hide X28 N28
    obtain ⟨cl_b26_184_29, Ar_b26_184_29, q_b26_184_29, S_b26_184_29, N_b26_184_29, H_b26_184_29, G_b26_184_29⟩ := id V_b26_28
    have hin_b26_184_29 : ¬ ((1 : Int32) < 0 ∨ cl_b26_184_29.slots.size ≤ ((1 : Int32)).toNatClampNeg) := inb_of S_b26_184_29 ⟨by decide, by decide⟩
    obtain ⟨T30, h30, X30, e30, W30, st30⟩ := stI X28 hx hZ e28 Ar_b26_184_29 (j := (1 : Int32)) hin_b26_184_29 (g := (mkF m 184 #[.val (.int p0), .val (.long q1), .second, .val (.long q2), .second, .val (.long q3), .second, .val (.int (p0 &&& (2147483647 : Int32))), .val (.int ((1 : Int32) + ((p0 &&& (2147483647 : Int32)) % (3 : Int32)))), .val (.int (2 : Int32)), .val (.ref b1), .val (.ref b17), .unset, .unset, .unset, .unset, .unset, .unset] [(.int (2 : Int32)), (.int (1 : Int32)), (.ref b26), (.ref b26)])) rfl rfl (hb hby at_184)
    have V_b26_30 := Arv.set Ar_b26_184_29 q_b26_184_29 S_b26_184_29 N_b26_184_29 H_b26_184_29 G_b26_184_29 rfl W30 1 rfl (Nat.le_of_ble_eq_true rfl)
    have N30 := Fr.snoc X30 N28 g_b26
    obtain ⟨LL30, X30, N30⟩ := own_hide X30 N30
    obtain ⟨cl_b26_189_31, Ar_b26_189_31, q_b26_189_31, S_b26_189_31, N_b26_189_31, H_b26_189_31, G_b26_189_31⟩ := id V_b26_30
    have hin_b26_189_31 : ¬ ((2 : Int32) < 0 ∨ cl_b26_189_31.slots.size ≤ ((2 : Int32)).toNatClampNeg) := inb_of S_b26_189_31 ⟨by decide, by decide⟩
    obtain ⟨T32, h32, X32, e32, W32, st32⟩ := stI X30 hx hZ e30 Ar_b26_189_31 (j := (2 : Int32)) hin_b26_189_31 (g := (mkF m 189 #[.val (.int p0), .val (.long q1), .second, .val (.long q2), .second, .val (.long q3), .second, .val (.int (p0 &&& (2147483647 : Int32))), .val (.int ((1 : Int32) + ((p0 &&& (2147483647 : Int32)) % (3 : Int32)))), .val (.int (2 : Int32)), .val (.ref b1), .val (.ref b17), .unset, .unset, .unset, .unset, .unset, .unset] [(.int ((1 : Int32) + ((p0 &&& (2147483647 : Int32)) % (3 : Int32)))), (.int (2 : Int32)), (.ref b26), (.ref b26)])) rfl rfl (hb hby at_189)
    have V_b26_32 := Arv.set Ar_b26_189_31 q_b26_189_31 S_b26_189_31 N_b26_189_31 H_b26_189_31 G_b26_189_31 rfl W32 2 rfl (Nat.le_of_ble_eq_true rfl)
    have N32 := Fr.snoc X32 N30 g_b26
    obtain ⟨LL32, X32, N32⟩ := own_hide X32 N32
    have pre33 : ∀ t, Steps p.tables e below (T32.setTop (mkF m 192 #[.val (.int p0), .val (.long q1), .second, .val (.long q2), .second, .val (.long q3), .second, .val (.int (p0 &&& (2147483647 : Int32))), .val (.int ((1 : Int32) + ((p0 &&& (2147483647 : Int32)) % (3 : Int32)))), .val (.int (2 : Int32)), .val (.ref b1), .val (.ref b17), .val (.ref b26), .unset, .unset, .unset, .unset, .unset] [])) t → Steps p.tables e below (s₁.setTop (entryFrame m #[(.int p0), (.long q1), (.long q2), (.long q3)] maxLocals)) t := by
      intro t kt
      refine pre14 _ ?_
      show Steps p.tables e below (T13.setTop (mkF m 93 #[.val (.int p0), .val (.long q1), .second, .val (.long q2), .second, .val (.long q3), .second, .val (.int (p0 &&& (2147483647 : Int32))), .val (.int ((1 : Int32) + ((p0 &&& (2147483647 : Int32)) % (3 : Int32)))), .val (.int (((p0 &&& (2147483647 : Int32)) / (3 : Int32)) % (3 : Int32))), .val (.ref b1), .unset, .unset, .unset, .unset, .unset, .unset, .unset] [])) _
      show Steps p.tables e below (T13.setTop (mkF m 93 #[.val (.int p0), .val (.long q1), .second, .val (.long q2), .second, .val (.long q3), .second, .val (.int (p0 &&& (2147483647 : Int32))), .val (.int ((1 : Int32) + ((p0 &&& (2147483647 : Int32)) % (3 : Int32)))), .val (.int (((p0 &&& (2147483647 : Int32)) / (3 : Int32)) % (3 : Int32))), .val (.ref b1), .unset, .unset, .unset, .unset, .unset, .unset, .unset] [])) _
      rw [show (((p0 &&& (2147483647 : Int32)) / (3 : Int32)) % (3 : Int32)) = (2 : Int32) from hk]
      refine XS.iload X13.here hx rfl (hb hby at_93) rfl ?_
      refine XS.ifYes X13.here hx rfl (pc0 := 95) (pc' := 120) rfl (hb hby at_95) rfl ((if0 _ _).trans (feq (by decide : ¬ ((2 : Int32) = (0 : Int32)))).2) (by decide) (by decide) ?_
      refine XS.iload X13.here hx rfl (hb hby at_120) rfl ?_
      refine XS.iconst X13.here hx rfl (hb hby at_122) ?_
      refine XS.icmpYes X13.here hx rfl (pc0 := 123) (pc' := 157) rfl (hb hby at_123) rfl (feq (by decide : ¬ ((2 : Int32) = (1 : Int32)))).2 (by decide) (by decide) ?_
      refine XS.iconst X13.here hx rfl (hb hby at_157) ?_
      refine st17 _ ?_
      refine XS.dup X17.here hx rfl (hb hby at_160) rfl rfl ?_
      refine XS.iconst X17.here hx rfl (hb hby at_161) ?_
      refine XS.iconst X17.here hx rfl (hb hby at_162) ?_
      refine st19 _ ?_
      refine XS.dup X19.here hx rfl (hb hby at_164) rfl rfl ?_
      refine XS.iconst X19.here hx rfl (hb hby at_165) ?_
      refine XS.iconst X19.here hx rfl (hb hby at_166) ?_
      refine st21 _ ?_
      refine XS.dup X21.here hx rfl (hb hby at_168) rfl rfl ?_
      refine XS.iconst X21.here hx rfl (hb hby at_169) ?_
      refine XS.iconst X21.here hx rfl (hb hby at_170) ?_
      refine st23 _ ?_
      refine XS.astore X23.here hx rfl (hb hby at_172) rfl rfl (l' := #[.val (.int p0), .val (.long q1), .second, .val (.long q2), .second, .val (.long q3), .second, .val (.int (p0 &&& (2147483647 : Int32))), .val (.int ((1 : Int32) + ((p0 &&& (2147483647 : Int32)) % (3 : Int32)))), .val (.int (2 : Int32)), .val (.ref b1), .val (.ref b17), .unset, .unset, .unset, .unset, .unset, .unset]) rfl ?_
      refine XS.iconst X23.here hx rfl (hb hby at_174) ?_
      refine st26 _ ?_
      refine XS.dup X26.here hx rfl (hb hby at_177) rfl rfl ?_
      refine XS.iconst X26.here hx rfl (hb hby at_178) ?_
      refine XS.iconst X26.here hx rfl (hb hby at_179) ?_
      refine st28 _ ?_
      refine XS.dup X28.here hx rfl (hb hby at_181) rfl rfl ?_
      refine XS.iconst X28.here hx rfl (hb hby at_182) ?_
      refine XS.iconst X28.here hx rfl (hb hby at_183) ?_
      refine st30 _ ?_
      refine XS.dup X30.here hx rfl (hb hby at_185) rfl rfl ?_
      refine XS.iconst X30.here hx rfl (hb hby at_186) ?_
      refine XS.iload X30.here hx rfl (hb hby at_187) rfl ?_
      refine st32 _ ?_
      refine XS.astore X32.here hx rfl (hb hby at_190) rfl rfl (l' := #[.val (.int p0), .val (.long q1), .second, .val (.long q2), .second, .val (.long q3), .second, .val (.int (p0 &&& (2147483647 : Int32))), .val (.int ((1 : Int32) + ((p0 &&& (2147483647 : Int32)) % (3 : Int32)))), .val (.int (2 : Int32)), .val (.ref b1), .val (.ref b17), .val (.ref b26), .unset, .unset, .unset, .unset, .unset]) rfl ?_
      show Steps p.tables e below (T32.setTop (mkF m 192 #[.val (.int p0), .val (.long q1), .second, .val (.long q2), .second, .val (.long q3), .second, .val (.int (p0 &&& (2147483647 : Int32))), .val (.int ((1 : Int32) + ((p0 &&& (2147483647 : Int32)) % (3 : Int32)))), .val (.int (2 : Int32)), .val (.ref b1), .val (.ref b17), .val (.ref b26), .unset, .unset, .unset, .unset, .unset] [])) _
      exact kt
    have Z34z : n0 ≤ h32.size := (Nat.le_trans (Nat.le_trans (Nat.le_trans (Nat.le_trans Z24z E26.1) (Keep.of_wr W28).1) (Keep.of_wr W30).1) (Keep.of_wr W32).1)
    have hz35 : h0.size ≤ h32.size := (Nat.le_trans (Nat.le_trans (Nat.le_trans (Nat.le_trans hz25 E26.1) (Keep.of_wr W28).1) (Keep.of_wr W30).1) (Keep.of_wr W32).1)
    rcases (own_nine p0).1 with hc | hc | hc
    · have Vc : Arv Z h32 b26 k26 .int (3 : Int32) [(.int (1 : Int32)), (.int (2 : Int32)), (.int (1 : Int32))] (.int (0 : Int32)) := by have q := V_b26_32; rw [hc] at q; exact q
      obtain ⟨T36, h36, k36, X36, e36, E36, A36, B36, st36⟩ := newPE X32 hx hZ (W 1 rfl) e32 (g := (mkF m 210 #[.val (.int p0), .val (.long q1), .second, .val (.long q2), .second, .val (.long q3), .second, .val (.int (p0 &&& (2147483647 : Int32))), .val (.int (1 : Int32)), .val (.int (2 : Int32)), .val (.ref b1), .val (.ref b17), .val (.ref b26), .val (.int (2 : Int32)), .unset, .unset, .unset, .unset] [(.int (2 : Int32))])) rfl (hb hby at_210) rfl (by decide) (cap := 2) (by decide) (by decide) (by decide) (by decide) (ad := "[D") (by decide)
      obtain ⟨b36, gg36⟩ : ∃ z, z = h32.size := ⟨_, rfl⟩
      rw [← gg36] at A36 B36 st36
      have g_b36 : n0 ≤ b36 := Nat.le_trans Z34z (Nat.le_of_eq gg36.symm)
      have sz_b36 : h0.size ≤ b36 := Nat.le_trans hz35 (Nat.le_of_eq gg36.symm)
      have V_b36 : Arv Z h36 b36 k36 .double (2 : Int32) [(.double (0 : UInt64)), (.double (0 : UInt64))] (.double (0 : UInt64)) := (Arv.new A36 (by decide)).pad (pad_rep [] (.double (0 : UInt64)) 2)
      have ne_b1_b17 : b1 ≠ b17 := Nat.ne_of_lt (Nat.lt_of_lt_of_le (V_b1_13).lt (Nat.le_of_eq gg17.symm))
      have ne_b1_b26 : b1 ≠ b26 := Nat.ne_of_lt (Nat.lt_of_lt_of_le (Nat.lt_of_lt_of_le (Nat.lt_of_lt_of_le (Nat.lt_of_lt_of_le (Nat.lt_of_lt_of_le (V_b1_13).lt E17.1) (Keep.of_wr W19).1) (Keep.of_wr W21).1) (Keep.of_wr W23).1) (Nat.le_of_eq gg26.symm))
      have V_b1_13_37 := (((((((((V_b1_13.ext E17).other W19 ne_b1_b17).other W21 ne_b1_b17).other W23 ne_b1_b17).ext E26).other W28 ne_b1_b26).other W30 ne_b1_b26).other W32 ne_b1_b26).ext E36)
      obtain ⟨cl_b1_38, Ar_b1_38, q_b1_38, S_b1_38, N_b1_38, H_b1_38, G_b1_38⟩ := id V_b1_13_37
      have Al_b1_38 := State.isArrayOf_alike hZ.alike Ar_b1_38.2.1
      have hin_b1_38_0 : ¬ ((0 : Int32) < 0 ∨ cl_b1_38.slots.size ≤ ((0 : Int32)).toNatClampNeg) := inb_of S_b1_38 ⟨by decide, by decide⟩
      have hat_b1_38_0 : cl_b1_38.slots[((0 : Int32)).toNatClampNeg]? = some (.double (own_v q1)) := H_b1_38 _ (by rw [S_b1_38]; decide)
      obtain ⟨cl_b36_221_39, Ar_b36_221_39, q_b36_221_39, S_b36_221_39, N_b36_221_39, H_b36_221_39, G_b36_221_39⟩ := id V_b36
      have hin_b36_221_39 : ¬ ((0 : Int32) < 0 ∨ cl_b36_221_39.slots.size ≤ ((0 : Int32)).toNatClampNeg) := inb_of S_b36_221_39 ⟨by decide, by decide⟩
      obtain ⟨T40, h40, X40, e40, W40, st40⟩ := stD X36 hx hZ e36 Ar_b36_221_39 (j := (0 : Int32)) hin_b36_221_39 (g := (mkF m 221 #[.val (.int p0), .val (.long q1), .second, .val (.long q2), .second, .val (.long q3), .second, .val (.int (p0 &&& (2147483647 : Int32))), .val (.int (1 : Int32)), .val (.int (2 : Int32)), .val (.ref b1), .val (.ref b17), .val (.ref b26), .val (.int (2 : Int32)), .val (.ref b36), .unset, .unset, .unset] [(.double (own_v q1)), (.int (0 : Int32)), (.ref b36)])) rfl rfl (hb hby at_221)
      have V_b36_40 := Arv.set Ar_b36_221_39 q_b36_221_39 S_b36_221_39 N_b36_221_39 H_b36_221_39 G_b36_221_39 rfl W40 0 rfl (Nat.le_of_ble_eq_true rfl)
      have N40 := Fr.snoc X40 N32 g_b36
      obtain ⟨LL40, X40, N40⟩ := own_hide X40 N40
      have ne_b1_b36 : b1 ≠ b36 := Nat.ne_of_lt (Nat.lt_of_lt_of_le (Nat.lt_of_lt_of_le (Nat.lt_of_lt_of_le (Nat.lt_of_lt_of_le (Nat.lt_of_lt_of_le (Nat.lt_of_lt_of_le (Nat.lt_of_lt_of_le (Nat.lt_of_lt_of_le (Nat.lt_of_lt_of_le (V_b1_13).lt E17.1) (Keep.of_wr W19).1) (Keep.of_wr W21).1) (Keep.of_wr W23).1) E26.1) (Keep.of_wr W28).1) (Keep.of_wr W30).1) (Keep.of_wr W32).1) (Nat.le_of_eq gg36.symm))
      have V_b1_13_41 := (V_b1_13_37.other W40 ne_b1_b36)
      obtain ⟨cl_b1_42, Ar_b1_42, q_b1_42, S_b1_42, N_b1_42, H_b1_42, G_b1_42⟩ := id V_b1_13_41
      have Al_b1_42 := State.isArrayOf_alike hZ.alike Ar_b1_42.2.1
      have hin_b1_42_1 : ¬ ((1 : Int32) < 0 ∨ cl_b1_42.slots.size ≤ ((1 : Int32)).toNatClampNeg) := inb_of S_b1_42 ⟨by decide, by decide⟩
      have hat_b1_42_1 : cl_b1_42.slots[((1 : Int32)).toNatClampNeg]? = some (.double (own_v (own_us q1 32))) := H_b1_42 _ (by rw [S_b1_42]; decide)
      obtain ⟨cl_b36_235_43, Ar_b36_235_43, q_b36_235_43, S_b36_235_43, N_b36_235_43, H_b36_235_43, G_b36_235_43⟩ := id V_b36_40
      have hin_b36_235_43 : ¬ ((1 : Int32) < 0 ∨ cl_b36_235_43.slots.size ≤ ((1 : Int32)).toNatClampNeg) := inb_of S_b36_235_43 ⟨by decide, by decide⟩
      obtain ⟨T44, h44, X44, e44, W44, st44⟩ := stD X40 hx hZ e40 Ar_b36_235_43 (j := (1 : Int32)) hin_b36_235_43 (g := (mkF m 235 #[.val (.int p0), .val (.long q1), .second, .val (.long q2), .second, .val (.long q3), .second, .val (.int (p0 &&& (2147483647 : Int32))), .val (.int (1 : Int32)), .val (.int (2 : Int32)), .val (.ref b1), .val (.ref b17), .val (.ref b26), .val (.int (2 : Int32)), .val (.ref b36), .unset, .unset, .unset] [(.double (own_v (own_us q1 32))), (.int (1 : Int32)), (.ref b36)])) rfl rfl (hb hby at_235)
      have V_b36_44 := Arv.set Ar_b36_235_43 q_b36_235_43 S_b36_235_43 N_b36_235_43 H_b36_235_43 G_b36_235_43 rfl W44 1 rfl (Nat.le_of_ble_eq_true rfl)
      have N44 := Fr.snoc X44 N40 g_b36
      obtain ⟨LL44, X44, N44⟩ := own_hide X44 N44
      have Z45z : n0 ≤ h44.size := (Nat.le_trans (Nat.le_trans (Nat.le_trans Z34z E36.1) (Keep.of_wr W40).1) (Keep.of_wr W44).1)
      have hz46 : h0.size ≤ h44.size := (Nat.le_trans (Nat.le_trans (Nat.le_trans hz35 E36.1) (Keep.of_wr W40).1) (Keep.of_wr W44).1)
      obtain ⟨T47, h47, X47, e47, E47, A47, D47, -, st47⟩ := newO X44 hx hZ hown (W 4 rfl) (W 5 rfl) (W 6 rfl) e44 (g := (mkF m 292 #[.val (.int p0), .val (.long q1), .second, .val (.long q2), .second, .val (.long q3), .second, .val (.int (p0 &&& (2147483647 : Int32))), .val (.int (1 : Int32)), .val (.int (2 : Int32)), .val (.ref b1), .val (.ref b17), .val (.ref b26), .val (.int (2 : Int32)), .val (.ref b36), .unset, .unset, .unset] [])) rfl (hb hby at_292) (by decide) (by decide)
      obtain ⟨b47, gg47⟩ : ∃ z, z = h44.size := ⟨_, rfl⟩
      rw [← gg47] at A47 D47 st47
      have g_b47 : n0 ≤ b47 := Nat.le_trans Z45z (Nat.le_of_eq gg47.symm)
      have sz_b47 : h0.size ≤ b47 := Nat.le_trans hz46 (Nat.le_of_eq gg47.symm)
      have F_scope_b47 : Fld Z h47 b47 "com/example/beliefwire/beliefwire/model/Factor" "scope" "[I" .null := D47 (Or.inr (W 45 rfl)) (ty := (.array .int)) (by decide)
      have F_cardinalities_b47 : Fld Z h47 b47 "com/example/beliefwire/beliefwire/model/Factor" "cardinalities" "[I" .null := D47 (Or.inr (W 47 rfl)) (ty := (.array .int)) (by decide)
      have F_entries_b47 : Fld Z h47 b47 "com/example/beliefwire/beliefwire/model/Factor" "entries" "[D" .null := D47 (Or.inr (W 55 rfl)) (ty := (.array .double)) (by decide)
      have Z49z : n0 ≤ h47.size := (Nat.le_trans Z45z E47.1)
      have ne_b17_b26 : b17 ≠ b26 := Nat.ne_of_lt (Nat.lt_of_lt_of_le (V_b17_23).lt (Nat.le_of_eq gg26.symm))
      have ne_b17_b36 : b17 ≠ b36 := Nat.ne_of_lt (Nat.lt_of_lt_of_le (Nat.lt_of_lt_of_le (Nat.lt_of_lt_of_le (Nat.lt_of_lt_of_le (Nat.lt_of_lt_of_le (V_b17_23).lt E26.1) (Keep.of_wr W28).1) (Keep.of_wr W30).1) (Keep.of_wr W32).1) (Nat.le_of_eq gg36.symm))
      have V_b17_23_50 := ((((((((V_b17_23.ext E26).other W28 ne_b17_b26).other W30 ne_b17_b26).other W32 ne_b17_b26).ext E36).other W40 ne_b17_b36).other W44 ne_b17_b36).ext E47)
      have B17_51 := (((((((((((B17.wr W19).wr W21).wr W23).ext E26).wr W28).wr W30).wr W32).ext E36).wr W40).wr W44).ext E47)
      have ne_b26_b36 : b26 ≠ b36 := Nat.ne_of_lt (Nat.lt_of_lt_of_le (Vc).lt (Nat.le_of_eq gg36.symm))
      have Vc_52 := ((((Vc.ext E36).other W40 ne_b26_b36).other W44 ne_b26_b36).ext E47)
      have B26_53 := (((((((B26.wr W28).wr W30).wr W32).ext E36).wr W40).wr W44).ext E47)
      have V_b36_44_54 := (V_b36_44.ext E47)
      have B36_55 := (((B36.wr W40).wr W44).ext E47)
      obtain ⟨_, _, ⟨T48, L48, k48, n48⟩, -, X48, ⟨Lc48, hQ48, l48, y48, z48⟩, st48⟩ := X47.specialBack hx (y := (⟨"com/example/beliefwire/beliefwire/model/Factor", "<init>", "([I[I[D)V"⟩ : MethodName)) rfl hown (mvT hZ (W 7 rfl)) (mvT hZ (W 8 rfl)) (mvT hZ (W 9 rfl)) (by decide) (backOf (W := 1) (rm_in_21 l Z a0 hw [] b47 b17 b26 b36 (own_v q1) (own_v (own_us q1 32)) _ _ _ k17 k26 k36 h47 n0 Z49z A47 g_b47 F_scope_b47 F_cardinalities_b47 F_entries_b47 V_b17_23_50 B17_51 Vc_52 B26_53 V_b36_44_54 B36_55 (own_vf _) (own_vn _) (own_vf _) (own_vn _)) hZ (W 9 rfl) (W 6 rfl) (by decide) (by decide)) (g := (mkF m 302 #[.val (.int p0), .val (.long q1), .second, .val (.long q2), .second, .val (.long q3), .second, .val (.int (p0 &&& (2147483647 : Int32))), .val (.int (1 : Int32)), .val (.int (2 : Int32)), .val (.ref b1), .val (.ref b17), .val (.ref b26), .val (.int (2 : Int32)), .val (.ref b36), .unset, .unset, .unset] [(.ref b36), (.ref b26), (.ref b17), (.ref b47), (.ref b47)])) rfl (by rw [hml]; rfl) (Steps.refl _) (a := b47) (argsL := [(.ref b17), (.ref b26), (.ref b36)]) (rest := [(.ref b47)]) (lenOf pd_9 rfl) rfl (own_le rfl) (hb hby at_302) (fun _ _ => ⟨rfl, e47, (by decide : 5 + 4 ≤ _), (by decide : 17 + 11 ≤ _)⟩)
      dsimp only [Pt.U, Pt.locs, Pt.cells, Pt.slots] at X48 l48 y48 z48 st48 hQ48
      subst l48 y48 z48
      obtain ⟨rfl, N48q, K48, Eq48, bc48, be48, Fc48, Fe48, Ec48, Vc48, Ve48⟩ := hQ48
      have N48 := Fr.app N44 N48q
      obtain ⟨LL48, X48, N48⟩ := own_hide X48 N48
      have Z57z : n0 ≤ T48.heap.size := (Nat.le_trans Z49z K48.1)
      obtain ⟨_, _, ⟨T56, L56, k56, n56⟩, -, X56, ⟨Lc56, hQ56, l56, y56, z56⟩, st56⟩ := Jvm.LawKit.callS X48 hx (y := (⟨"com/example/beliefwire/beliefwire/io/NoisyMax", "leak", "(Lcom/example/beliefwire/beliefwire/model/Factor;)[D"⟩ : MethodName)) hown (mvT hZ (W 56 rfl)) (mvT hZ (W 57 rfl)) (mvT hZ (W 58 rfl)) (mvT hZ (W 59 rfl)) (by decide) (backOf (W := 0) (rm_lk_21 l Z a0 hw [] b47 bc48 be48 (own_v q1) (own_v (own_us q1 32)) k26 k36 T48.heap n0 Z57z Eq48 Fc48 Vc48 Ec48 Fe48 Ve48) hZ (W 59 rfl) (W 58 rfl) (by decide) (by decide)) (g := (mkF m 309 #[.val (.int p0), .val (.long q1), .second, .val (.long q2), .second, .val (.long q3), .second, .val (.int (p0 &&& (2147483647 : Int32))), .val (.int (1 : Int32)), .val (.int (2 : Int32)), .val (.ref b1), .val (.ref b17), .val (.ref b26), .val (.int (2 : Int32)), .val (.ref b36), .val (.ref b47), .unset, .unset] [(.ref b47)])) rfl (by rw [hml]; rfl) (argsL := [(.ref b47)]) (rest := []) (lenOf pd_10 rfl) rfl (own_le rfl) (hb hby at_309) (fun _ _ => ⟨rfl, rfl, (by decide : 9 + 2 ≤ _), (by decide : 28 + 4 ≤ _)⟩)
      dsimp only [Pt.U, Pt.locs, Pt.cells, Pt.slots] at X56 l56 y56 z56 st56 hQ56
      subst l56 y56 z56
      obtain ⟨⟨b56, kb56, rfl, V56⟩, N56q, K56⟩ := hQ56
      have N56 := Fr.app N48 N56q
      obtain ⟨LL56, X56, N56⟩ := own_hide X56 N56
      obtain ⟨cl_b56_58, Ar_b56_58, q_b56_58, S_b56_58, N_b56_58, H_b56_58, G_b56_58⟩ := id V56
      have Al_b56_58 := State.isArrayOf_alike hZ.alike Ar_b56_58.2.1
      have hin_b56_58_0 : ¬ ((0 : Int32) < 0 ∨ cl_b56_58.slots.size ≤ ((0 : Int32)).toNatClampNeg) := inb_of S_b56_58 ⟨by decide, by decide⟩
      have hat_b56_58_0 : cl_b56_58.slots[((0 : Int32)).toNatClampNeg]? = some (.double (own_v q1)) := H_b56_58 _ (by rw [S_b56_58]; decide)
      have ne_b1_b47 : b1 ≠ b47 := Nat.ne_of_lt (Nat.lt_of_lt_of_le (Nat.lt_of_lt_of_le (V_b1_13_41).lt (Keep.of_wr W44).1) (Nat.le_of_eq gg47.symm))
      have V_b1_13_59 := ((((V_b1_13_41.other W44 ne_b1_b36).ext E47).keep K48 (own_nin1 ne_b1_b47)).keep K56 own_nin0)
      obtain ⟨cl_b1_60, Ar_b1_60, q_b1_60, S_b1_60, N_b1_60, H_b1_60, G_b1_60⟩ := id V_b1_13_59
      have Al_b1_60 := State.isArrayOf_alike hZ.alike Ar_b1_60.2.1
      have hin_b1_60_0 : ¬ ((0 : Int32) < 0 ∨ cl_b1_60.slots.size ≤ ((0 : Int32)).toNatClampNeg) := inb_of S_b1_60 ⟨by decide, by decide⟩
      have hat_b1_60_0 : cl_b1_60.slots[((0 : Int32)).toNatClampNeg]? = some (.double (own_v q1)) := H_b1_60 _ (by rw [S_b1_60]; decide)
      obtain ⟨fs, hr, hrun, hended, hW, hsame⟩ := X56.leave (v := some (.int (1 : Int32))) (fun h => by rw [Bd.returns] at h; cases h)
      refine ⟨_, _, pre33 _ ?_, hrun, hended, _, _, rfl, ?_, ⟨_, rfl⟩, hW, hsame.mono (by decide) (by decide)⟩
      · show Steps p.tables e below (T32.setTop (mkF m 192 #[.val (.int p0), .val (.long q1), .second, .val (.long q2), .second, .val (.long q3), .second, .val (.int (p0 &&& (2147483647 : Int32))), .val (.int ((1 : Int32) + ((p0 &&& (2147483647 : Int32)) % (3 : Int32)))), .val (.int (2 : Int32)), .val (.ref b1), .val (.ref b17), .val (.ref b26), .unset, .unset, .unset, .unset, .unset] [])) _
        show Steps p.tables e below (T32.setTop (mkF m 192 #[.val (.int p0), .val (.long q1), .second, .val (.long q2), .second, .val (.long q3), .second, .val (.int (p0 &&& (2147483647 : Int32))), .val (.int ((1 : Int32) + ((p0 &&& (2147483647 : Int32)) % (3 : Int32)))), .val (.int (2 : Int32)), .val (.ref b1), .val (.ref b17), .val (.ref b26), .unset, .unset, .unset, .unset, .unset] [])) _
        rw [show ((1 : Int32) + ((p0 &&& (2147483647 : Int32)) % (3 : Int32))) = (1 : Int32) from hc]
        refine XS.iload X32.here hx rfl (hb hby at_192) rfl ?_
        refine XS.ifYes X32.here hx rfl (pc0 := 194) (pc' := 202) rfl (hb hby at_194) rfl ((if0 _ _).trans (feq (by decide : ¬ ((2 : Int32) = (0 : Int32)))).2) (by decide) (by decide) ?_
        refine XS.iconst X32.here hx rfl (hb hby at_202) ?_
        refine XS.iload X32.here hx rfl (hb hby at_203) rfl ?_
        refine XS.imul X32.here hx rfl (hb hby at_205) rfl ?_
        show Steps p.tables e below (T32.setTop (mkF m 206 #[.val (.int p0), .val (.long q1), .second, .val (.long q2), .second, .val (.long q3), .second, .val (.int (p0 &&& (2147483647 : Int32))), .val (.int (1 : Int32)), .val (.int (2 : Int32)), .val (.ref b1), .val (.ref b17), .val (.ref b26), .unset, .unset, .unset, .unset, .unset] [(.int ((2 : Int32) * (1 : Int32)))])) _
        rw [show ((2 : Int32) * (1 : Int32)) = (2 : Int32) from (by decide)]
        refine XS.istore X32.here hx rfl (hb hby at_206) rfl (l' := #[.val (.int p0), .val (.long q1), .second, .val (.long q2), .second, .val (.long q3), .second, .val (.int (p0 &&& (2147483647 : Int32))), .val (.int (1 : Int32)), .val (.int (2 : Int32)), .val (.ref b1), .val (.ref b17), .val (.ref b26), .val (.int (2 : Int32)), .unset, .unset, .unset, .unset]) rfl ?_
        refine XS.iload X32.here hx rfl (hb hby at_208) rfl ?_
        refine st36 _ ?_
        refine XS.astore X36.here hx rfl (hb hby at_212) rfl rfl (l' := #[.val (.int p0), .val (.long q1), .second, .val (.long q2), .second, .val (.long q3), .second, .val (.int (p0 &&& (2147483647 : Int32))), .val (.int (1 : Int32)), .val (.int (2 : Int32)), .val (.ref b1), .val (.ref b17), .val (.ref b26), .val (.int (2 : Int32)), .val (.ref b36), .unset, .unset, .unset]) rfl ?_
        refine XS.aload X36.here hx rfl (hb hby at_214) rfl rfl ?_
        refine XS.iconst X36.here hx rfl (hb hby at_216) ?_
        refine XS.aload X36.here hx rfl (hb hby at_217) rfl rfl ?_
        refine XS.iconst X36.here hx rfl (hb hby at_219) ?_
        refine X36.daload hx (j := (0 : Int32)) (v := (.double (own_v q1))) (by rw [e36]; exact Ar_b1_38.1) Al_b1_38 Ar_b1_38.2.2 hin_b1_38_0 hat_b1_38_0 (g := (mkF m 220 #[.val (.int p0), .val (.long q1), .second, .val (.long q2), .second, .val (.long q3), .second, .val (.int (p0 &&& (2147483647 : Int32))), .val (.int (1 : Int32)), .val (.int (2 : Int32)), .val (.ref b1), .val (.ref b17), .val (.ref b26), .val (.int (2 : Int32)), .val (.ref b36), .unset, .unset, .unset] [(.int (0 : Int32)), (.ref b1), (.int (0 : Int32)), (.ref b36)])) rfl rfl (hb hby at_220) _ ?_
        refine st40 _ ?_
        refine XS.iload X40.here hx rfl (hb hby at_222) rfl ?_
        refine XS.iconst X40.here hx rfl (hb hby at_224) ?_
        refine XS.icmpNo X40.here hx rfl (hb hby at_225) rfl (tlt (by decide : (1 : Int32) < (2 : Int32))).2.2.2 ?_
        refine XS.aload X40.here hx rfl (hb hby at_228) rfl rfl ?_
        refine XS.iconst X40.here hx rfl (hb hby at_230) ?_
        refine XS.aload X40.here hx rfl (hb hby at_231) rfl rfl ?_
        refine XS.iconst X40.here hx rfl (hb hby at_233) ?_
        refine X40.daload hx (j := (1 : Int32)) (v := (.double (own_v (own_us q1 32)))) (by rw [e40]; exact Ar_b1_42.1) Al_b1_42 Ar_b1_42.2.2 hin_b1_42_1 hat_b1_42_1 (g := (mkF m 234 #[.val (.int p0), .val (.long q1), .second, .val (.long q2), .second, .val (.long q3), .second, .val (.int (p0 &&& (2147483647 : Int32))), .val (.int (1 : Int32)), .val (.int (2 : Int32)), .val (.ref b1), .val (.ref b17), .val (.ref b26), .val (.int (2 : Int32)), .val (.ref b36), .unset, .unset, .unset] [(.int (1 : Int32)), (.ref b1), (.int (1 : Int32)), (.ref b36)])) rfl rfl (hb hby at_234) _ ?_
        refine st44 _ ?_
        refine XS.iload X44.here hx rfl (hb hby at_236) rfl ?_
        refine XS.iconst X44.here hx rfl (hb hby at_238) ?_
        refine XS.icmpYes X44.here hx rfl (pc0 := 239) (pc' := 250) rfl (hb hby at_239) rfl (flt (by decide : ¬ ((2 : Int32) < (2 : Int32)))).2.2.2 (by decide) (by decide) ?_
        refine XS.iload X44.here hx rfl (hb hby at_250) rfl ?_
        refine XS.iconst X44.here hx rfl (hb hby at_252) ?_
        refine XS.icmpYes X44.here hx rfl (pc0 := 253) (pc' := 264) rfl (hb hby at_253) rfl (flt (by decide : ¬ ((3 : Int32) < (2 : Int32)))).2.2.2 (by decide) (by decide) ?_
        refine XS.iload X44.here hx rfl (hb hby at_264) rfl ?_
        refine XS.iconst X44.here hx rfl (hb hby at_266) ?_
        refine XS.icmpYes X44.here hx rfl (pc0 := 267) (pc' := 278) rfl (hb hby at_267) rfl (flt (by decide : ¬ ((4 : Int32) < (2 : Int32)))).2.2.2 (by decide) (by decide) ?_
        refine XS.iload X44.here hx rfl (hb hby at_278) rfl ?_
        refine XS.iconst X44.here hx rfl (hb hby at_280) ?_
        refine XS.icmpYes X44.here hx rfl (pc0 := 281) (pc' := 292) rfl (hb hby at_281) rfl (flt (by decide : ¬ ((5 : Int32) < (2 : Int32)))).2.2.2 (by decide) (by decide) ?_
        refine st47 _ ?_
        refine XS.dup X47.here hx rfl (hb hby at_295) rfl rfl ?_
        refine XS.aload X47.here hx rfl (hb hby at_296) rfl rfl ?_
        refine XS.aload X47.here hx rfl (hb hby at_298) rfl rfl ?_
        refine XS.aload X47.here hx rfl (hb hby at_300) rfl rfl ?_
        refine st48.trans ?_
        refine XS.astore X48.here hx rfl (hb hby at_305) rfl rfl (l' := #[.val (.int p0), .val (.long q1), .second, .val (.long q2), .second, .val (.long q3), .second, .val (.int (p0 &&& (2147483647 : Int32))), .val (.int (1 : Int32)), .val (.int (2 : Int32)), .val (.ref b1), .val (.ref b17), .val (.ref b26), .val (.int (2 : Int32)), .val (.ref b36), .val (.ref b47), .unset, .unset]) rfl ?_
        refine XS.aload X48.here hx rfl (hb hby at_307) rfl rfl ?_
        refine st56 _ ?_
        refine XS.astore X56.here hx rfl (hb hby at_312) rfl rfl (l' := #[.val (.int p0), .val (.long q1), .second, .val (.long q2), .second, .val (.long q3), .second, .val (.int (p0 &&& (2147483647 : Int32))), .val (.int (1 : Int32)), .val (.int (2 : Int32)), .val (.ref b1), .val (.ref b17), .val (.ref b26), .val (.int (2 : Int32)), .val (.ref b36), .val (.ref b47), .val (.ref b56), .unset]) rfl ?_
        refine XS.aload X56.here hx rfl (hb hby at_314) rfl rfl ?_
        refine X56.arraylength hx Ar_b56_58.1 Al_b56_58 (g := (mkF m 316 #[.val (.int p0), .val (.long q1), .second, .val (.long q2), .second, .val (.long q3), .second, .val (.int (p0 &&& (2147483647 : Int32))), .val (.int (1 : Int32)), .val (.int (2 : Int32)), .val (.ref b1), .val (.ref b17), .val (.ref b26), .val (.int (2 : Int32)), .val (.ref b36), .val (.ref b47), .val (.ref b56), .unset] [(.ref b56)])) rfl rfl (hb hby at_316) _ ?_
        rw [len_of S_b56_58 N_b56_58]
        refine XS.iload X56.here hx rfl (hb hby at_317) rfl ?_
        refine XS.icmpYes X56.here hx rfl (pc0 := 319) (pc' := 324) rfl (hb hby at_319) rfl (teq (by decide : (1 : Int32) = (1 : Int32))).1 (by decide) (by decide) ?_
        refine XS.aload X56.here hx rfl (hb hby at_324) rfl rfl ?_
        refine XS.iconst X56.here hx rfl (hb hby at_326) ?_
        refine X56.daload hx (j := (0 : Int32)) (v := (.double (own_v q1))) Ar_b56_58.1 Al_b56_58 Ar_b56_58.2.2 hin_b56_58_0 hat_b56_58_0 (g := (mkF m 327 #[.val (.int p0), .val (.long q1), .second, .val (.long q2), .second, .val (.long q3), .second, .val (.int (p0 &&& (2147483647 : Int32))), .val (.int (1 : Int32)), .val (.int (2 : Int32)), .val (.ref b1), .val (.ref b17), .val (.ref b26), .val (.int (2 : Int32)), .val (.ref b36), .val (.ref b47), .val (.ref b56), .unset] [(.int (0 : Int32)), (.ref b56)])) rfl rfl (hb hby at_327) _ ?_
        refine XS.aload X56.here hx rfl (hb hby at_328) rfl rfl ?_
        refine XS.iconst X56.here hx rfl (hb hby at_330) ?_
        refine X56.daload hx (j := (0 : Int32)) (v := (.double (own_v q1))) Ar_b1_60.1 Al_b1_60 Ar_b1_60.2.2 hin_b1_60_0 hat_b1_60_0 (g := (mkF m 331 #[.val (.int p0), .val (.long q1), .second, .val (.long q2), .second, .val (.long q3), .second, .val (.int (p0 &&& (2147483647 : Int32))), .val (.int (1 : Int32)), .val (.int (2 : Int32)), .val (.ref b1), .val (.ref b17), .val (.ref b26), .val (.int (2 : Int32)), .val (.ref b36), .val (.ref b47), .val (.ref b56), .unset] [(.int (0 : Int32)), (.ref b1), (.double (own_v q1))])) rfl rfl (hb hby at_331) _ ?_
        refine XS.dcmpS X56.here hx rfl (hb hby at_332) rfl rfl ?_
        refine XS.ifNo X56.here hx rfl (hb hby at_333) rfl ((if0 _ _).trans (teq (own_eqv _)).2) ?_
        refine XS.iconst X56.here hx rfl (hb hby at_336) ?_
        refine XS.goto X56.here hx rfl (pc0 := 337) (pc' := 341) rfl (hb hby at_337) (by decide) (by decide) ?_
        refine XS.istore X56.here hx rfl (hb hby at_341) rfl (l' := #[.val (.int p0), .val (.long q1), .second, .val (.long q2), .second, .val (.long q3), .second, .val (.int (p0 &&& (2147483647 : Int32))), .val (.int (1 : Int32)), .val (.int (2 : Int32)), .val (.ref b1), .val (.ref b17), .val (.ref b26), .val (.int (2 : Int32)), .val (.ref b36), .val (.ref b47), .val (.ref b56), .val (.int (1 : Int32))]) rfl ?_
        refine XS.iload X56.here hx rfl (hb hby at_343) rfl ?_
        refine XS.iconst X56.here hx rfl (hb hby at_345) ?_
        refine XS.icmpYes X56.here hx rfl (pc0 := 346) (pc' := 373) rfl (hb hby at_346) rfl (flt (by decide : ¬ ((1 : Int32) < (1 : Int32)))).2.2.2 (by decide) (by decide) ?_
        refine XS.iload X56.here hx rfl (hb hby at_373) rfl ?_
        refine XS.iconst X56.here hx rfl (hb hby at_375) ?_
        refine XS.icmpYes X56.here hx rfl (pc0 := 376) (pc' := 403) rfl (hb hby at_376) rfl (flt (by decide : ¬ ((2 : Int32) < (1 : Int32)))).2.2.2 (by decide) (by decide) ?_
        refine XS.iload X56.here hx rfl (hb hby at_403) rfl ?_
        show Steps p.tables e below (T56.setTop (mkF m 405 #[.val (.int p0), .val (.long q1), .second, .val (.long q2), .second, .val (.long q3), .second, .val (.int (p0 &&& (2147483647 : Int32))), .val (.int (1 : Int32)), .val (.int (2 : Int32)), .val (.ref b1), .val (.ref b17), .val (.ref b26), .val (.int (2 : Int32)), .val (.ref b36), .val (.ref b47), .val (.ref b56), .val (.int (1 : Int32))] [(.int (1 : Int32))])) _
        exact retN X56 hx (t := .boolean) Bd.returns (by simp) (hb hby at_405) hr
      · show Q0 Z p0 h0 n0 _ T56.heap _
        exact ⟨rfl, N56⟩
    · have Vc : Arv Z h32 b26 k26 .int (3 : Int32) [(.int (1 : Int32)), (.int (2 : Int32)), (.int (2 : Int32))] (.int (0 : Int32)) := by have q := V_b26_32; rw [hc] at q; exact q
      obtain ⟨T36, h36, k36, X36, e36, E36, A36, B36, st36⟩ := newPE X32 hx hZ (W 1 rfl) e32 (g := (mkF m 210 #[.val (.int p0), .val (.long q1), .second, .val (.long q2), .second, .val (.long q3), .second, .val (.int (p0 &&& (2147483647 : Int32))), .val (.int (2 : Int32)), .val (.int (2 : Int32)), .val (.ref b1), .val (.ref b17), .val (.ref b26), .val (.int (4 : Int32)), .unset, .unset, .unset, .unset] [(.int (4 : Int32))])) rfl (hb hby at_210) rfl (by decide) (cap := 4) (by decide) (by decide) (by decide) (by decide) (ad := "[D") (by decide)
      obtain ⟨b36, gg36⟩ : ∃ z, z = h32.size := ⟨_, rfl⟩
      rw [← gg36] at A36 B36 st36
      have g_b36 : n0 ≤ b36 := Nat.le_trans Z34z (Nat.le_of_eq gg36.symm)
      have sz_b36 : h0.size ≤ b36 := Nat.le_trans hz35 (Nat.le_of_eq gg36.symm)
      have V_b36 : Arv Z h36 b36 k36 .double (4 : Int32) [(.double (0 : UInt64)), (.double (0 : UInt64)), (.double (0 : UInt64)), (.double (0 : UInt64))] (.double (0 : UInt64)) := (Arv.new A36 (by decide)).pad (pad_rep [] (.double (0 : UInt64)) 4)
      have ne_b1_b17 : b1 ≠ b17 := Nat.ne_of_lt (Nat.lt_of_lt_of_le (V_b1_13).lt (Nat.le_of_eq gg17.symm))
      have ne_b1_b26 : b1 ≠ b26 := Nat.ne_of_lt (Nat.lt_of_lt_of_le (Nat.lt_of_lt_of_le (Nat.lt_of_lt_of_le (Nat.lt_of_lt_of_le (Nat.lt_of_lt_of_le (V_b1_13).lt E17.1) (Keep.of_wr W19).1) (Keep.of_wr W21).1) (Keep.of_wr W23).1) (Nat.le_of_eq gg26.symm))
      have V_b1_13_37 := (((((((((V_b1_13.ext E17).other W19 ne_b1_b17).other W21 ne_b1_b17).other W23 ne_b1_b17).ext E26).other W28 ne_b1_b26).other W30 ne_b1_b26).other W32 ne_b1_b26).ext E36)
      obtain ⟨cl_b1_38, Ar_b1_38, q_b1_38, S_b1_38, N_b1_38, H_b1_38, G_b1_38⟩ := id V_b1_13_37
      have Al_b1_38 := State.isArrayOf_alike hZ.alike Ar_b1_38.2.1
      have hin_b1_38_0 : ¬ ((0 : Int32) < 0 ∨ cl_b1_38.slots.size ≤ ((0 : Int32)).toNatClampNeg) := inb_of S_b1_38 ⟨by decide, by decide⟩
      have hat_b1_38_0 : cl_b1_38.slots[((0 : Int32)).toNatClampNeg]? = some (.double (own_v q1)) := H_b1_38 _ (by rw [S_b1_38]; decide)
      obtain ⟨cl_b36_221_39, Ar_b36_221_39, q_b36_221_39, S_b36_221_39, N_b36_221_39, H_b36_221_39, G_b36_221_39⟩ := id V_b36
      have hin_b36_221_39 : ¬ ((0 : Int32) < 0 ∨ cl_b36_221_39.slots.size ≤ ((0 : Int32)).toNatClampNeg) := inb_of S_b36_221_39 ⟨by decide, by decide⟩
      obtain ⟨T40, h40, X40, e40, W40, st40⟩ := stD X36 hx hZ e36 Ar_b36_221_39 (j := (0 : Int32)) hin_b36_221_39 (g := (mkF m 221 #[.val (.int p0), .val (.long q1), .second, .val (.long q2), .second, .val (.long q3), .second, .val (.int (p0 &&& (2147483647 : Int32))), .val (.int (2 : Int32)), .val (.int (2 : Int32)), .val (.ref b1), .val (.ref b17), .val (.ref b26), .val (.int (4 : Int32)), .val (.ref b36), .unset, .unset, .unset] [(.double (own_v q1)), (.int (0 : Int32)), (.ref b36)])) rfl rfl (hb hby at_221)
      have V_b36_40 := Arv.set Ar_b36_221_39 q_b36_221_39 S_b36_221_39 N_b36_221_39 H_b36_221_39 G_b36_221_39 rfl W40 0 rfl (Nat.le_of_ble_eq_true rfl)
      have N40 := Fr.snoc X40 N32 g_b36
      obtain ⟨LL40, X40, N40⟩ := own_hide X40 N40
      have ne_b1_b36 : b1 ≠ b36 := Nat.ne_of_lt (Nat.lt_of_lt_of_le (Nat.lt_of_lt_of_le (Nat.lt_of_lt_of_le (Nat.lt_of_lt_of_le (Nat.lt_of_lt_of_le (Nat.lt_of_lt_of_le (Nat.lt_of_lt_of_le (Nat.lt_of_lt_of_le (Nat.lt_of_lt_of_le (V_b1_13).lt E17.1) (Keep.of_wr W19).1) (Keep.of_wr W21).1) (Keep.of_wr W23).1) E26.1) (Keep.of_wr W28).1) (Keep.of_wr W30).1) (Keep.of_wr W32).1) (Nat.le_of_eq gg36.symm))
      have V_b1_13_41 := (V_b1_13_37.other W40 ne_b1_b36)
      obtain ⟨cl_b1_42, Ar_b1_42, q_b1_42, S_b1_42, N_b1_42, H_b1_42, G_b1_42⟩ := id V_b1_13_41
      have Al_b1_42 := State.isArrayOf_alike hZ.alike Ar_b1_42.2.1
      have hin_b1_42_1 : ¬ ((1 : Int32) < 0 ∨ cl_b1_42.slots.size ≤ ((1 : Int32)).toNatClampNeg) := inb_of S_b1_42 ⟨by decide, by decide⟩
      have hat_b1_42_1 : cl_b1_42.slots[((1 : Int32)).toNatClampNeg]? = some (.double (own_v (own_us q1 32))) := H_b1_42 _ (by rw [S_b1_42]; decide)
      obtain ⟨cl_b36_235_43, Ar_b36_235_43, q_b36_235_43, S_b36_235_43, N_b36_235_43, H_b36_235_43, G_b36_235_43⟩ := id V_b36_40
      have hin_b36_235_43 : ¬ ((1 : Int32) < 0 ∨ cl_b36_235_43.slots.size ≤ ((1 : Int32)).toNatClampNeg) := inb_of S_b36_235_43 ⟨by decide, by decide⟩
      obtain ⟨T44, h44, X44, e44, W44, st44⟩ := stD X40 hx hZ e40 Ar_b36_235_43 (j := (1 : Int32)) hin_b36_235_43 (g := (mkF m 235 #[.val (.int p0), .val (.long q1), .second, .val (.long q2), .second, .val (.long q3), .second, .val (.int (p0 &&& (2147483647 : Int32))), .val (.int (2 : Int32)), .val (.int (2 : Int32)), .val (.ref b1), .val (.ref b17), .val (.ref b26), .val (.int (4 : Int32)), .val (.ref b36), .unset, .unset, .unset] [(.double (own_v (own_us q1 32))), (.int (1 : Int32)), (.ref b36)])) rfl rfl (hb hby at_235)
      have V_b36_44 := Arv.set Ar_b36_235_43 q_b36_235_43 S_b36_235_43 N_b36_235_43 H_b36_235_43 G_b36_235_43 rfl W44 1 rfl (Nat.le_of_ble_eq_true rfl)
      have N44 := Fr.snoc X44 N40 g_b36
      obtain ⟨LL44, X44, N44⟩ := own_hide X44 N44
      have V_b1_13_45 := (V_b1_13_41.other W44 ne_b1_b36)
      obtain ⟨cl_b1_46, Ar_b1_46, q_b1_46, S_b1_46, N_b1_46, H_b1_46, G_b1_46⟩ := id V_b1_13_45
      have Al_b1_46 := State.isArrayOf_alike hZ.alike Ar_b1_46.2.1
      have hin_b1_46_2 : ¬ ((2 : Int32) < 0 ∨ cl_b1_46.slots.size ≤ ((2 : Int32)).toNatClampNeg) := inb_of S_b1_46 ⟨by decide, by decide⟩
      have hat_b1_46_2 : cl_b1_46.slots[((2 : Int32)).toNatClampNeg]? = some (.double (own_v q2)) := H_b1_46 _ (by rw [S_b1_46]; decide)
      obtain ⟨cl_b36_249_47, Ar_b36_249_47, q_b36_249_47, S_b36_249_47, N_b36_249_47, H_b36_249_47, G_b36_249_47⟩ := id V_b36_44
      have hin_b36_249_47 : ¬ ((2 : Int32) < 0 ∨ cl_b36_249_47.slots.size ≤ ((2 : Int32)).toNatClampNeg) := inb_of S_b36_249_47 ⟨by decide, by decide⟩
      obtain ⟨T48, h48, X48, e48, W48, st48⟩ := stD X44 hx hZ e44 Ar_b36_249_47 (j := (2 : Int32)) hin_b36_249_47 (g := (mkF m 249 #[.val (.int p0), .val (.long q1), .second, .val (.long q2), .second, .val (.long q3), .second, .val (.int (p0 &&& (2147483647 : Int32))), .val (.int (2 : Int32)), .val (.int (2 : Int32)), .val (.ref b1), .val (.ref b17), .val (.ref b26), .val (.int (4 : Int32)), .val (.ref b36), .unset, .unset, .unset] [(.double (own_v q2)), (.int (2 : Int32)), (.ref b36)])) rfl rfl (hb hby at_249)
      have V_b36_48 := Arv.set Ar_b36_249_47 q_b36_249_47 S_b36_249_47 N_b36_249_47 H_b36_249_47 G_b36_249_47 rfl W48 2 rfl (Nat.le_of_ble_eq_true rfl)
      have N48 := Fr.snoc X48 N44 g_b36
      obtain ⟨LL48, X48, N48⟩ := own_hide X48 N48
      have V_b1_13_49 := (V_b1_13_45.other W48 ne_b1_b36)
      obtain ⟨cl_b1_50, Ar_b1_50, q_b1_50, S_b1_50, N_b1_50, H_b1_50, G_b1_50⟩ := id V_b1_13_49
      have Al_b1_50 := State.isArrayOf_alike hZ.alike Ar_b1_50.2.1
      have hin_b1_50_3 : ¬ ((3 : Int32) < 0 ∨ cl_b1_50.slots.size ≤ ((3 : Int32)).toNatClampNeg) := inb_of S_b1_50 ⟨by decide, by decide⟩
      have hat_b1_50_3 : cl_b1_50.slots[((3 : Int32)).toNatClampNeg]? = some (.double (own_v (own_us q2 32))) := H_b1_50 _ (by rw [S_b1_50]; decide)
      obtain ⟨cl_b36_263_51, Ar_b36_263_51, q_b36_263_51, S_b36_263_51, N_b36_263_51, H_b36_263_51, G_b36_263_51⟩ := id V_b36_48
      have hin_b36_263_51 : ¬ ((3 : Int32) < 0 ∨ cl_b36_263_51.slots.size ≤ ((3 : Int32)).toNatClampNeg) := inb_of S_b36_263_51 ⟨by decide, by decide⟩
      obtain ⟨T52, h52, X52, e52, W52, st52⟩ := stD X48 hx hZ e48 Ar_b36_263_51 (j := (3 : Int32)) hin_b36_263_51 (g := (mkF m 263 #[.val (.int p0), .val (.long q1), .second, .val (.long q2), .second, .val (.long q3), .second, .val (.int (p0 &&& (2147483647 : Int32))), .val (.int (2 : Int32)), .val (.int (2 : Int32)), .val (.ref b1), .val (.ref b17), .val (.ref b26), .val (.int (4 : Int32)), .val (.ref b36), .unset, .unset, .unset] [(.double (own_v (own_us q2 32))), (.int (3 : Int32)), (.ref b36)])) rfl rfl (hb hby at_263)
      have V_b36_52 := Arv.set Ar_b36_263_51 q_b36_263_51 S_b36_263_51 N_b36_263_51 H_b36_263_51 G_b36_263_51 rfl W52 3 rfl (Nat.le_of_ble_eq_true rfl)
      have N52 := Fr.snoc X52 N48 g_b36
      obtain ⟨LL52, X52, N52⟩ := own_hide X52 N52
      have Z53z : n0 ≤ h52.size := (Nat.le_trans (Nat.le_trans (Nat.le_trans (Nat.le_trans (Nat.le_trans Z34z E36.1) (Keep.of_wr W40).1) (Keep.of_wr W44).1) (Keep.of_wr W48).1) (Keep.of_wr W52).1)
      have hz54 : h0.size ≤ h52.size := (Nat.le_trans (Nat.le_trans (Nat.le_trans (Nat.le_trans (Nat.le_trans hz35 E36.1) (Keep.of_wr W40).1) (Keep.of_wr W44).1) (Keep.of_wr W48).1) (Keep.of_wr W52).1)
      obtain ⟨T55, h55, X55, e55, E55, A55, D55, -, st55⟩ := newO X52 hx hZ hown (W 4 rfl) (W 5 rfl) (W 6 rfl) e52 (g := (mkF m 292 #[.val (.int p0), .val (.long q1), .second, .val (.long q2), .second, .val (.long q3), .second, .val (.int (p0 &&& (2147483647 : Int32))), .val (.int (2 : Int32)), .val (.int (2 : Int32)), .val (.ref b1), .val (.ref b17), .val (.ref b26), .val (.int (4 : Int32)), .val (.ref b36), .unset, .unset, .unset] [])) rfl (hb hby at_292) (by decide) (by decide)
      obtain ⟨b55, gg55⟩ : ∃ z, z = h52.size := ⟨_, rfl⟩
      rw [← gg55] at A55 D55 st55
      have g_b55 : n0 ≤ b55 := Nat.le_trans Z53z (Nat.le_of_eq gg55.symm)
      have sz_b55 : h0.size ≤ b55 := Nat.le_trans hz54 (Nat.le_of_eq gg55.symm)
      have F_scope_b55 : Fld Z h55 b55 "com/example/beliefwire/beliefwire/model/Factor" "scope" "[I" .null := D55 (Or.inr (W 45 rfl)) (ty := (.array .int)) (by decide)
      have F_cardinalities_b55 : Fld Z h55 b55 "com/example/beliefwire/beliefwire/model/Factor" "cardinalities" "[I" .null := D55 (Or.inr (W 47 rfl)) (ty := (.array .int)) (by decide)
      have F_entries_b55 : Fld Z h55 b55 "com/example/beliefwire/beliefwire/model/Factor" "entries" "[D" .null := D55 (Or.inr (W 55 rfl)) (ty := (.array .double)) (by decide)
      have Z57z : n0 ≤ h55.size := (Nat.le_trans Z53z E55.1)
      have ne_b17_b26 : b17 ≠ b26 := Nat.ne_of_lt (Nat.lt_of_lt_of_le (V_b17_23).lt (Nat.le_of_eq gg26.symm))
      have ne_b17_b36 : b17 ≠ b36 := Nat.ne_of_lt (Nat.lt_of_lt_of_le (Nat.lt_of_lt_of_le (Nat.lt_of_lt_of_le (Nat.lt_of_lt_of_le (Nat.lt_of_lt_of_le (V_b17_23).lt E26.1) (Keep.of_wr W28).1) (Keep.of_wr W30).1) (Keep.of_wr W32).1) (Nat.le_of_eq gg36.symm))
      have V_b17_23_58 := ((((((((((V_b17_23.ext E26).other W28 ne_b17_b26).other W30 ne_b17_b26).other W32 ne_b17_b26).ext E36).other W40 ne_b17_b36).other W44 ne_b17_b36).other W48 ne_b17_b36).other W52 ne_b17_b36).ext E55)
      have B17_59 := (((((((((((((B17.wr W19).wr W21).wr W23).ext E26).wr W28).wr W30).wr W32).ext E36).wr W40).wr W44).wr W48).wr W52).ext E55)
      have ne_b26_b36 : b26 ≠ b36 := Nat.ne_of_lt (Nat.lt_of_lt_of_le (Vc).lt (Nat.le_of_eq gg36.symm))
      have Vc_60 := ((((((Vc.ext E36).other W40 ne_b26_b36).other W44 ne_b26_b36).other W48 ne_b26_b36).other W52 ne_b26_b36).ext E55)
      have B26_61 := (((((((((B26.wr W28).wr W30).wr W32).ext E36).wr W40).wr W44).wr W48).wr W52).ext E55)
      have V_b36_52_62 := (V_b36_52.ext E55)
      have B36_63 := (((((B36.wr W40).wr W44).wr W48).wr W52).ext E55)
      obtain ⟨_, _, ⟨T56, L56, k56, n56⟩, -, X56, ⟨Lc56, hQ56, l56, y56, z56⟩, st56⟩ := X55.specialBack hx (y := (⟨"com/example/beliefwire/beliefwire/model/Factor", "<init>", "([I[I[D)V"⟩ : MethodName)) rfl hown (mvT hZ (W 7 rfl)) (mvT hZ (W 8 rfl)) (mvT hZ (W 9 rfl)) (by decide) (backOf (W := 1) (rm_in_22 l Z a0 hw [] b55 b17 b26 b36 (own_v q1) (own_v (own_us q1 32)) (own_v q2) (own_v (own_us q2 32)) _ _ _ k17 k26 k36 h55 n0 Z57z A55 g_b55 F_scope_b55 F_cardinalities_b55 F_entries_b55 V_b17_23_58 B17_59 Vc_60 B26_61 V_b36_52_62 B36_63 (own_vf _) (own_vn _) (own_vf _) (own_vn _) (own_vf _) (own_vn _) (own_vf _) (own_vn _)) hZ (W 9 rfl) (W 6 rfl) (by decide) (by decide)) (g := (mkF m 302 #[.val (.int p0), .val (.long q1), .second, .val (.long q2), .second, .val (.long q3), .second, .val (.int (p0 &&& (2147483647 : Int32))), .val (.int (2 : Int32)), .val (.int (2 : Int32)), .val (.ref b1), .val (.ref b17), .val (.ref b26), .val (.int (4 : Int32)), .val (.ref b36), .unset, .unset, .unset] [(.ref b36), (.ref b26), (.ref b17), (.ref b55), (.ref b55)])) rfl (by rw [hml]; rfl) (Steps.refl _) (a := b55) (argsL := [(.ref b17), (.ref b26), (.ref b36)]) (rest := [(.ref b55)]) (lenOf pd_9 rfl) rfl (own_le rfl) (hb hby at_302) (fun _ _ => ⟨rfl, e55, (by decide : 5 + 4 ≤ _), (by decide : 19 + 13 ≤ _)⟩)
      dsimp only [Pt.U, Pt.locs, Pt.cells, Pt.slots] at X56 l56 y56 z56 st56 hQ56
      subst l56 y56 z56
      obtain ⟨rfl, N56q, K56, Eq56, bc56, be56, Fc56, Fe56, Ec56, Vc56, Ve56⟩ := hQ56
      have N56 := Fr.app N52 N56q
      obtain ⟨LL56, X56, N56⟩ := own_hide X56 N56
      have Z65z : n0 ≤ T56.heap.size := (Nat.le_trans Z57z K56.1)
      obtain ⟨_, _, ⟨T64, L64, k64, n64⟩, -, X64, ⟨Lc64, hQ64, l64, y64, z64⟩, st64⟩ := Jvm.LawKit.callS X56 hx (y := (⟨"com/example/beliefwire/beliefwire/io/NoisyMax", "leak", "(Lcom/example/beliefwire/beliefwire/model/Factor;)[D"⟩ : MethodName)) hown (mvT hZ (W 56 rfl)) (mvT hZ (W 57 rfl)) (mvT hZ (W 58 rfl)) (mvT hZ (W 59 rfl)) (by decide) (backOf (W := 0) (rm_lk_22 l Z a0 hw [] b55 bc56 be56 (own_v q1) (own_v (own_us q1 32)) (own_v q2) (own_v (own_us q2 32)) k26 k36 T56.heap n0 Z65z Eq56 Fc56 Vc56 Ec56 Fe56 Ve56) hZ (W 59 rfl) (W 58 rfl) (by decide) (by decide)) (g := (mkF m 309 #[.val (.int p0), .val (.long q1), .second, .val (.long q2), .second, .val (.long q3), .second, .val (.int (p0 &&& (2147483647 : Int32))), .val (.int (2 : Int32)), .val (.int (2 : Int32)), .val (.ref b1), .val (.ref b17), .val (.ref b26), .val (.int (4 : Int32)), .val (.ref b36), .val (.ref b55), .unset, .unset] [(.ref b55)])) rfl (by rw [hml]; rfl) (argsL := [(.ref b55)]) (rest := []) (lenOf pd_10 rfl) rfl (own_le rfl) (hb hby at_309) (fun _ _ => ⟨rfl, rfl, (by decide : 9 + 2 ≤ _), (by decide : 32 + 5 ≤ _)⟩)
      dsimp only [Pt.U, Pt.locs, Pt.cells, Pt.slots] at X64 l64 y64 z64 st64 hQ64
      subst l64 y64 z64
      obtain ⟨⟨b64, kb64, rfl, V64⟩, N64q, K64⟩ := hQ64
      have N64 := Fr.app N56 N64q
      obtain ⟨LL64, X64, N64⟩ := own_hide X64 N64
      obtain ⟨cl_b64_66, Ar_b64_66, q_b64_66, S_b64_66, N_b64_66, H_b64_66, G_b64_66⟩ := id V64
      have Al_b64_66 := State.isArrayOf_alike hZ.alike Ar_b64_66.2.1
      have hin_b64_66_0 : ¬ ((0 : Int32) < 0 ∨ cl_b64_66.slots.size ≤ ((0 : Int32)).toNatClampNeg) := inb_of S_b64_66 ⟨by decide, by decide⟩
      have hat_b64_66_0 : cl_b64_66.slots[((0 : Int32)).toNatClampNeg]? = some (.double (own_v q1)) := H_b64_66 _ (by rw [S_b64_66]; decide)
      have ne_b1_b55 : b1 ≠ b55 := Nat.ne_of_lt (Nat.lt_of_lt_of_le (Nat.lt_of_lt_of_le (V_b1_13_49).lt (Keep.of_wr W52).1) (Nat.le_of_eq gg55.symm))
      have V_b1_13_67 := ((((V_b1_13_49.other W52 ne_b1_b36).ext E55).keep K56 (own_nin1 ne_b1_b55)).keep K64 own_nin0)
      obtain ⟨cl_b1_68, Ar_b1_68, q_b1_68, S_b1_68, N_b1_68, H_b1_68, G_b1_68⟩ := id V_b1_13_67
      have Al_b1_68 := State.isArrayOf_alike hZ.alike Ar_b1_68.2.1
      have hin_b1_68_0 : ¬ ((0 : Int32) < 0 ∨ cl_b1_68.slots.size ≤ ((0 : Int32)).toNatClampNeg) := inb_of S_b1_68 ⟨by decide, by decide⟩
      have hat_b1_68_0 : cl_b1_68.slots[((0 : Int32)).toNatClampNeg]? = some (.double (own_v q1)) := H_b1_68 _ (by rw [S_b1_68]; decide)
      have hin_b64_66_1 : ¬ ((1 : Int32) < 0 ∨ cl_b64_66.slots.size ≤ ((1 : Int32)).toNatClampNeg) := inb_of S_b64_66 ⟨by decide, by decide⟩
      have hat_b64_66_1 : cl_b64_66.slots[((1 : Int32)).toNatClampNeg]? = some (.double (own_v (own_us q1 32))) := H_b64_66 _ (by rw [S_b64_66]; decide)
      have hin_b1_68_1 : ¬ ((1 : Int32) < 0 ∨ cl_b1_68.slots.size ≤ ((1 : Int32)).toNatClampNeg) := inb_of S_b1_68 ⟨by decide, by decide⟩
      have hat_b1_68_1 : cl_b1_68.slots[((1 : Int32)).toNatClampNeg]? = some (.double (own_v (own_us q1 32))) := H_b1_68 _ (by rw [S_b1_68]; decide)
      obtain ⟨fs, hr, hrun, hended, hW, hsame⟩ := X64.leave (v := some (.int (1 : Int32))) (fun h => by rw [Bd.returns] at h; cases h)
      refine ⟨_, _, pre33 _ ?_, hrun, hended, _, _, rfl, ?_, ⟨_, rfl⟩, hW, hsame.mono (by decide) (by decide)⟩
      · show Steps p.tables e below (T32.setTop (mkF m 192 #[.val (.int p0), .val (.long q1), .second, .val (.long q2), .second, .val (.long q3), .second, .val (.int (p0 &&& (2147483647 : Int32))), .val (.int ((1 : Int32) + ((p0 &&& (2147483647 : Int32)) % (3 : Int32)))), .val (.int (2 : Int32)), .val (.ref b1), .val (.ref b17), .val (.ref b26), .unset, .unset, .unset, .unset, .unset] [])) _
        show Steps p.tables e below (T32.setTop (mkF m 192 #[.val (.int p0), .val (.long q1), .second, .val (.long q2), .second, .val (.long q3), .second, .val (.int (p0 &&& (2147483647 : Int32))), .val (.int ((1 : Int32) + ((p0 &&& (2147483647 : Int32)) % (3 : Int32)))), .val (.int (2 : Int32)), .val (.ref b1), .val (.ref b17), .val (.ref b26), .unset, .unset, .unset, .unset, .unset] [])) _
        rw [show ((1 : Int32) + ((p0 &&& (2147483647 : Int32)) % (3 : Int32))) = (2 : Int32) from hc]
        refine XS.iload X32.here hx rfl (hb hby at_192) rfl ?_
        refine XS.ifYes X32.here hx rfl (pc0 := 194) (pc' := 202) rfl (hb hby at_194) rfl ((if0 _ _).trans (feq (by decide : ¬ ((2 : Int32) = (0 : Int32)))).2) (by decide) (by decide) ?_
        refine XS.iconst X32.here hx rfl (hb hby at_202) ?_
        refine XS.iload X32.here hx rfl (hb hby at_203) rfl ?_
        refine XS.imul X32.here hx rfl (hb hby at_205) rfl ?_
        show Steps p.tables e below (T32.setTop (mkF m 206 #[.val (.int p0), .val (.long q1), .second, .val (.long q2), .second, .val (.long q3), .second, .val (.int (p0 &&& (2147483647 : Int32))), .val (.int (2 : Int32)), .val (.int (2 : Int32)), .val (.ref b1), .val (.ref b17), .val (.ref b26), .unset, .unset, .unset, .unset, .unset] [(.int ((2 : Int32) * (2 : Int32)))])) _
        rw [show ((2 : Int32) * (2 : Int32)) = (4 : Int32) from (by decide)]
        refine XS.istore X32.here hx rfl (hb hby at_206) rfl (l' := #[.val (.int p0), .val (.long q1), .second, .val (.long q2), .second, .val (.long q3), .second, .val (.int (p0 &&& (2147483647 : Int32))), .val (.int (2 : Int32)), .val (.int (2 : Int32)), .val (.ref b1), .val (.ref b17), .val (.ref b26), .val (.int (4 : Int32)), .unset, .unset, .unset, .unset]) rfl ?_
        refine XS.iload X32.here hx rfl (hb hby at_208) rfl ?_
        refine st36 _ ?_
        refine XS.astore X36.here hx rfl (hb hby at_212) rfl rfl (l' := #[.val (.int p0), .val (.long q1), .second, .val (.long q2), .second, .val (.long q3), .second, .val (.int (p0 &&& (2147483647 : Int32))), .val (.int (2 : Int32)), .val (.int (2 : Int32)), .val (.ref b1), .val (.ref b17), .val (.ref b26), .val (.int (4 : Int32)), .val (.ref b36), .unset, .unset, .unset]) rfl ?_
        refine XS.aload X36.here hx rfl (hb hby at_214) rfl rfl ?_
        refine XS.iconst X36.here hx rfl (hb hby at_216) ?_
        refine XS.aload X36.here hx rfl (hb hby at_217) rfl rfl ?_
        refine XS.iconst X36.here hx rfl (hb hby at_219) ?_
        refine X36.daload hx (j := (0 : Int32)) (v := (.double (own_v q1))) (by rw [e36]; exact Ar_b1_38.1) Al_b1_38 Ar_b1_38.2.2 hin_b1_38_0 hat_b1_38_0 (g := (mkF m 220 #[.val (.int p0), .val (.long q1), .second, .val (.long q2), .second, .val (.long q3), .second, .val (.int (p0 &&& (2147483647 : Int32))), .val (.int (2 : Int32)), .val (.int (2 : Int32)), .val (.ref b1), .val (.ref b17), .val (.ref b26), .val (.int (4 : Int32)), .val (.ref b36), .unset, .unset, .unset] [(.int (0 : Int32)), (.ref b1), (.int (0 : Int32)), (.ref b36)])) rfl rfl (hb hby at_220) _ ?_
        refine st40 _ ?_
        refine XS.iload X40.here hx rfl (hb hby at_222) rfl ?_
        refine XS.iconst X40.here hx rfl (hb hby at_224) ?_
        refine XS.icmpNo X40.here hx rfl (hb hby at_225) rfl (tlt (by decide : (1 : Int32) < (4 : Int32))).2.2.2 ?_
        refine XS.aload X40.here hx rfl (hb hby at_228) rfl rfl ?_
        refine XS.iconst X40.here hx rfl (hb hby at_230) ?_
        refine XS.aload X40.here hx rfl (hb hby at_231) rfl rfl ?_
        refine XS.iconst X40.here hx rfl (hb hby at_233) ?_
        refine X40.daload hx (j := (1 : Int32)) (v := (.double (own_v (own_us q1 32)))) (by rw [e40]; exact Ar_b1_42.1) Al_b1_42 Ar_b1_42.2.2 hin_b1_42_1 hat_b1_42_1 (g := (mkF m 234 #[.val (.int p0), .val (.long q1), .second, .val (.long q2), .second, .val (.long q3), .second, .val (.int (p0 &&& (2147483647 : Int32))), .val (.int (2 : Int32)), .val (.int (2 : Int32)), .val (.ref b1), .val (.ref b17), .val (.ref b26), .val (.int (4 : Int32)), .val (.ref b36), .unset, .unset, .unset] [(.int (1 : Int32)), (.ref b1), (.int (1 : Int32)), (.ref b36)])) rfl rfl (hb hby at_234) _ ?_
        refine st44 _ ?_
        refine XS.iload X44.here hx rfl (hb hby at_236) rfl ?_
        refine XS.iconst X44.here hx rfl (hb hby at_238) ?_
        refine XS.icmpNo X44.here hx rfl (hb hby at_239) rfl (tlt (by decide : (2 : Int32) < (4 : Int32))).2.2.2 ?_
        refine XS.aload X44.here hx rfl (hb hby at_242) rfl rfl ?_
        refine XS.iconst X44.here hx rfl (hb hby at_244) ?_
        refine XS.aload X44.here hx rfl (hb hby at_245) rfl rfl ?_
        refine XS.iconst X44.here hx rfl (hb hby at_247) ?_
        refine X44.daload hx (j := (2 : Int32)) (v := (.double (own_v q2))) (by rw [e44]; exact Ar_b1_46.1) Al_b1_46 Ar_b1_46.2.2 hin_b1_46_2 hat_b1_46_2 (g := (mkF m 248 #[.val (.int p0), .val (.long q1), .second, .val (.long q2), .second, .val (.long q3), .second, .val (.int (p0 &&& (2147483647 : Int32))), .val (.int (2 : Int32)), .val (.int (2 : Int32)), .val (.ref b1), .val (.ref b17), .val (.ref b26), .val (.int (4 : Int32)), .val (.ref b36), .unset, .unset, .unset] [(.int (2 : Int32)), (.ref b1), (.int (2 : Int32)), (.ref b36)])) rfl rfl (hb hby at_248) _ ?_
        refine st48 _ ?_
        refine XS.iload X48.here hx rfl (hb hby at_250) rfl ?_
        refine XS.iconst X48.here hx rfl (hb hby at_252) ?_
        refine XS.icmpNo X48.here hx rfl (hb hby at_253) rfl (tlt (by decide : (3 : Int32) < (4 : Int32))).2.2.2 ?_
        refine XS.aload X48.here hx rfl (hb hby at_256) rfl rfl ?_
        refine XS.iconst X48.here hx rfl (hb hby at_258) ?_
        refine XS.aload X48.here hx rfl (hb hby at_259) rfl rfl ?_
        refine XS.iconst X48.here hx rfl (hb hby at_261) ?_
        refine X48.daload hx (j := (3 : Int32)) (v := (.double (own_v (own_us q2 32)))) (by rw [e48]; exact Ar_b1_50.1) Al_b1_50 Ar_b1_50.2.2 hin_b1_50_3 hat_b1_50_3 (g := (mkF m 262 #[.val (.int p0), .val (.long q1), .second, .val (.long q2), .second, .val (.long q3), .second, .val (.int (p0 &&& (2147483647 : Int32))), .val (.int (2 : Int32)), .val (.int (2 : Int32)), .val (.ref b1), .val (.ref b17), .val (.ref b26), .val (.int (4 : Int32)), .val (.ref b36), .unset, .unset, .unset] [(.int (3 : Int32)), (.ref b1), (.int (3 : Int32)), (.ref b36)])) rfl rfl (hb hby at_262) _ ?_
        refine st52 _ ?_
        refine XS.iload X52.here hx rfl (hb hby at_264) rfl ?_
        refine XS.iconst X52.here hx rfl (hb hby at_266) ?_
        refine XS.icmpYes X52.here hx rfl (pc0 := 267) (pc' := 278) rfl (hb hby at_267) rfl (flt (by decide : ¬ ((4 : Int32) < (4 : Int32)))).2.2.2 (by decide) (by decide) ?_
        refine XS.iload X52.here hx rfl (hb hby at_278) rfl ?_
        refine XS.iconst X52.here hx rfl (hb hby at_280) ?_
        refine XS.icmpYes X52.here hx rfl (pc0 := 281) (pc' := 292) rfl (hb hby at_281) rfl (flt (by decide : ¬ ((5 : Int32) < (4 : Int32)))).2.2.2 (by decide) (by decide) ?_
        refine st55 _ ?_
        refine XS.dup X55.here hx rfl (hb hby at_295) rfl rfl ?_
        refine XS.aload X55.here hx rfl (hb hby at_296) rfl rfl ?_
        refine XS.aload X55.here hx rfl (hb hby at_298) rfl rfl ?_
        refine XS.aload X55.here hx rfl (hb hby at_300) rfl rfl ?_
        refine st56.trans ?_
        refine XS.astore X56.here hx rfl (hb hby at_305) rfl rfl (l' := #[.val (.int p0), .val (.long q1), .second, .val (.long q2), .second, .val (.long q3), .second, .val (.int (p0 &&& (2147483647 : Int32))), .val (.int (2 : Int32)), .val (.int (2 : Int32)), .val (.ref b1), .val (.ref b17), .val (.ref b26), .val (.int (4 : Int32)), .val (.ref b36), .val (.ref b55), .unset, .unset]) rfl ?_
        refine XS.aload X56.here hx rfl (hb hby at_307) rfl rfl ?_
        refine st64 _ ?_
        refine XS.astore X64.here hx rfl (hb hby at_312) rfl rfl (l' := #[.val (.int p0), .val (.long q1), .second, .val (.long q2), .second, .val (.long q3), .second, .val (.int (p0 &&& (2147483647 : Int32))), .val (.int (2 : Int32)), .val (.int (2 : Int32)), .val (.ref b1), .val (.ref b17), .val (.ref b26), .val (.int (4 : Int32)), .val (.ref b36), .val (.ref b55), .val (.ref b64), .unset]) rfl ?_
        refine XS.aload X64.here hx rfl (hb hby at_314) rfl rfl ?_
        refine X64.arraylength hx Ar_b64_66.1 Al_b64_66 (g := (mkF m 316 #[.val (.int p0), .val (.long q1), .second, .val (.long q2), .second, .val (.long q3), .second, .val (.int (p0 &&& (2147483647 : Int32))), .val (.int (2 : Int32)), .val (.int (2 : Int32)), .val (.ref b1), .val (.ref b17), .val (.ref b26), .val (.int (4 : Int32)), .val (.ref b36), .val (.ref b55), .val (.ref b64), .unset] [(.ref b64)])) rfl rfl (hb hby at_316) _ ?_
        rw [len_of S_b64_66 N_b64_66]
        refine XS.iload X64.here hx rfl (hb hby at_317) rfl ?_
        refine XS.icmpYes X64.here hx rfl (pc0 := 319) (pc' := 324) rfl (hb hby at_319) rfl (teq (by decide : (2 : Int32) = (2 : Int32))).1 (by decide) (by decide) ?_
        refine XS.aload X64.here hx rfl (hb hby at_324) rfl rfl ?_
        refine XS.iconst X64.here hx rfl (hb hby at_326) ?_
        refine X64.daload hx (j := (0 : Int32)) (v := (.double (own_v q1))) Ar_b64_66.1 Al_b64_66 Ar_b64_66.2.2 hin_b64_66_0 hat_b64_66_0 (g := (mkF m 327 #[.val (.int p0), .val (.long q1), .second, .val (.long q2), .second, .val (.long q3), .second, .val (.int (p0 &&& (2147483647 : Int32))), .val (.int (2 : Int32)), .val (.int (2 : Int32)), .val (.ref b1), .val (.ref b17), .val (.ref b26), .val (.int (4 : Int32)), .val (.ref b36), .val (.ref b55), .val (.ref b64), .unset] [(.int (0 : Int32)), (.ref b64)])) rfl rfl (hb hby at_327) _ ?_
        refine XS.aload X64.here hx rfl (hb hby at_328) rfl rfl ?_
        refine XS.iconst X64.here hx rfl (hb hby at_330) ?_
        refine X64.daload hx (j := (0 : Int32)) (v := (.double (own_v q1))) Ar_b1_68.1 Al_b1_68 Ar_b1_68.2.2 hin_b1_68_0 hat_b1_68_0 (g := (mkF m 331 #[.val (.int p0), .val (.long q1), .second, .val (.long q2), .second, .val (.long q3), .second, .val (.int (p0 &&& (2147483647 : Int32))), .val (.int (2 : Int32)), .val (.int (2 : Int32)), .val (.ref b1), .val (.ref b17), .val (.ref b26), .val (.int (4 : Int32)), .val (.ref b36), .val (.ref b55), .val (.ref b64), .unset] [(.int (0 : Int32)), (.ref b1), (.double (own_v q1))])) rfl rfl (hb hby at_331) _ ?_
        refine XS.dcmpS X64.here hx rfl (hb hby at_332) rfl rfl ?_
        refine XS.ifNo X64.here hx rfl (hb hby at_333) rfl ((if0 _ _).trans (teq (own_eqv _)).2) ?_
        refine XS.iconst X64.here hx rfl (hb hby at_336) ?_
        refine XS.goto X64.here hx rfl (pc0 := 337) (pc' := 341) rfl (hb hby at_337) (by decide) (by decide) ?_
        refine XS.istore X64.here hx rfl (hb hby at_341) rfl (l' := #[.val (.int p0), .val (.long q1), .second, .val (.long q2), .second, .val (.long q3), .second, .val (.int (p0 &&& (2147483647 : Int32))), .val (.int (2 : Int32)), .val (.int (2 : Int32)), .val (.ref b1), .val (.ref b17), .val (.ref b26), .val (.int (4 : Int32)), .val (.ref b36), .val (.ref b55), .val (.ref b64), .val (.int (1 : Int32))]) rfl ?_
        refine XS.iload X64.here hx rfl (hb hby at_343) rfl ?_
        refine XS.iconst X64.here hx rfl (hb hby at_345) ?_
        refine XS.icmpNo X64.here hx rfl (hb hby at_346) rfl (tlt (by decide : (1 : Int32) < (2 : Int32))).2.2.2 ?_
        refine XS.iload X64.here hx rfl (hb hby at_349) rfl ?_
        refine XS.ifNo X64.here hx rfl (hb hby at_351) rfl ((if0 _ _).trans (feq (by decide : ¬ ((1 : Int32) = (0 : Int32)))).1) ?_
        refine XS.aload X64.here hx rfl (hb hby at_354) rfl rfl ?_
        refine XS.iconst X64.here hx rfl (hb hby at_356) ?_
        refine X64.daload hx (j := (1 : Int32)) (v := (.double (own_v (own_us q1 32)))) Ar_b64_66.1 Al_b64_66 Ar_b64_66.2.2 hin_b64_66_1 hat_b64_66_1 (g := (mkF m 357 #[.val (.int p0), .val (.long q1), .second, .val (.long q2), .second, .val (.long q3), .second, .val (.int (p0 &&& (2147483647 : Int32))), .val (.int (2 : Int32)), .val (.int (2 : Int32)), .val (.ref b1), .val (.ref b17), .val (.ref b26), .val (.int (4 : Int32)), .val (.ref b36), .val (.ref b55), .val (.ref b64), .val (.int (1 : Int32))] [(.int (1 : Int32)), (.ref b64)])) rfl rfl (hb hby at_357) _ ?_
        refine XS.aload X64.here hx rfl (hb hby at_358) rfl rfl ?_
        refine XS.iconst X64.here hx rfl (hb hby at_360) ?_
        refine X64.daload hx (j := (1 : Int32)) (v := (.double (own_v (own_us q1 32)))) Ar_b1_68.1 Al_b1_68 Ar_b1_68.2.2 hin_b1_68_1 hat_b1_68_1 (g := (mkF m 361 #[.val (.int p0), .val (.long q1), .second, .val (.long q2), .second, .val (.long q3), .second, .val (.int (p0 &&& (2147483647 : Int32))), .val (.int (2 : Int32)), .val (.int (2 : Int32)), .val (.ref b1), .val (.ref b17), .val (.ref b26), .val (.int (4 : Int32)), .val (.ref b36), .val (.ref b55), .val (.ref b64), .val (.int (1 : Int32))] [(.int (1 : Int32)), (.ref b1), (.double (own_v (own_us q1 32)))])) rfl rfl (hb hby at_361) _ ?_
        refine XS.dcmpS X64.here hx rfl (hb hby at_362) rfl rfl ?_
        refine XS.ifNo X64.here hx rfl (hb hby at_363) rfl ((if0 _ _).trans (teq (own_eqv _)).2) ?_
        refine XS.iconst X64.here hx rfl (hb hby at_366) ?_
        refine XS.goto X64.here hx rfl (pc0 := 367) (pc' := 371) rfl (hb hby at_367) (by decide) (by decide) ?_
        refine XS.istore X64.here hx rfl (hb hby at_371) rfl (l' := #[.val (.int p0), .val (.long q1), .second, .val (.long q2), .second, .val (.long q3), .second, .val (.int (p0 &&& (2147483647 : Int32))), .val (.int (2 : Int32)), .val (.int (2 : Int32)), .val (.ref b1), .val (.ref b17), .val (.ref b26), .val (.int (4 : Int32)), .val (.ref b36), .val (.ref b55), .val (.ref b64), .val (.int (1 : Int32))]) rfl ?_
        refine XS.iload X64.here hx rfl (hb hby at_373) rfl ?_
        refine XS.iconst X64.here hx rfl (hb hby at_375) ?_
        refine XS.icmpYes X64.here hx rfl (pc0 := 376) (pc' := 403) rfl (hb hby at_376) rfl (flt (by decide : ¬ ((2 : Int32) < (2 : Int32)))).2.2.2 (by decide) (by decide) ?_
        refine XS.iload X64.here hx rfl (hb hby at_403) rfl ?_
        show Steps p.tables e below (T64.setTop (mkF m 405 #[.val (.int p0), .val (.long q1), .second, .val (.long q2), .second, .val (.long q3), .second, .val (.int (p0 &&& (2147483647 : Int32))), .val (.int (2 : Int32)), .val (.int (2 : Int32)), .val (.ref b1), .val (.ref b17), .val (.ref b26), .val (.int (4 : Int32)), .val (.ref b36), .val (.ref b55), .val (.ref b64), .val (.int (1 : Int32))] [(.int (1 : Int32))])) _
        exact retN X64 hx (t := .boolean) Bd.returns (by simp) (hb hby at_405) hr
      · show Q0 Z p0 h0 n0 _ T64.heap _
        exact ⟨rfl, N64⟩
    · have Vc : Arv Z h32 b26 k26 .int (3 : Int32) [(.int (1 : Int32)), (.int (2 : Int32)), (.int (3 : Int32))] (.int (0 : Int32)) := by have q := V_b26_32; rw [hc] at q; exact q
      obtain ⟨T36, h36, k36, X36, e36, E36, A36, B36, st36⟩ := newPE X32 hx hZ (W 1 rfl) e32 (g := (mkF m 210 #[.val (.int p0), .val (.long q1), .second, .val (.long q2), .second, .val (.long q3), .second, .val (.int (p0 &&& (2147483647 : Int32))), .val (.int (3 : Int32)), .val (.int (2 : Int32)), .val (.ref b1), .val (.ref b17), .val (.ref b26), .val (.int (6 : Int32)), .unset, .unset, .unset, .unset] [(.int (6 : Int32))])) rfl (hb hby at_210) rfl (by decide) (cap := 6) (by decide) (by decide) (by decide) (by decide) (ad := "[D") (by decide)
      obtain ⟨b36, gg36⟩ : ∃ z, z = h32.size := ⟨_, rfl⟩
      rw [← gg36] at A36 B36 st36
      have g_b36 : n0 ≤ b36 := Nat.le_trans Z34z (Nat.le_of_eq gg36.symm)
      have sz_b36 : h0.size ≤ b36 := Nat.le_trans hz35 (Nat.le_of_eq gg36.symm)
      have V_b36 : Arv Z h36 b36 k36 .double (6 : Int32) [(.double (0 : UInt64)), (.double (0 : UInt64)), (.double (0 : UInt64)), (.double (0 : UInt64)), (.double (0 : UInt64)), (.double (0 : UInt64))] (.double (0 : UInt64)) := (Arv.new A36 (by decide)).pad (pad_rep [] (.double (0 : UInt64)) 6)
      have ne_b1_b17 : b1 ≠ b17 := Nat.ne_of_lt (Nat.lt_of_lt_of_le (V_b1_13).lt (Nat.le_of_eq gg17.symm))
      have ne_b1_b26 : b1 ≠ b26 := Nat.ne_of_lt (Nat.lt_of_lt_of_le (Nat.lt_of_lt_of_le (Nat.lt_of_lt_of_le (Nat.lt_of_lt_of_le (Nat.lt_of_lt_of_le (V_b1_13).lt E17.1) (Keep.of_wr W19).1) (Keep.of_wr W21).1) (Keep.of_wr W23).1) (Nat.le_of_eq gg26.symm))
      have V_b1_13_37 := (((((((((V_b1_13.ext E17).other W19 ne_b1_b17).other W21 ne_b1_b17).other W23 ne_b1_b17).ext E26).other W28 ne_b1_b26).other W30 ne_b1_b26).other W32 ne_b1_b26).ext E36)
      obtain ⟨cl_b1_38, Ar_b1_38, q_b1_38, S_b1_38, N_b1_38, H_b1_38, G_b1_38⟩ := id V_b1_13_37
      have Al_b1_38 := State.isArrayOf_alike hZ.alike Ar_b1_38.2.1
      have hin_b1_38_0 : ¬ ((0 : Int32) < 0 ∨ cl_b1_38.slots.size ≤ ((0 : Int32)).toNatClampNeg) := inb_of S_b1_38 ⟨by decide, by decide⟩
      have hat_b1_38_0 : cl_b1_38.slots[((0 : Int32)).toNatClampNeg]? = some (.double (own_v q1)) := H_b1_38 _ (by rw [S_b1_38]; decide)
      obtain ⟨cl_b36_221_39, Ar_b36_221_39, q_b36_221_39, S_b36_221_39, N_b36_221_39, H_b36_221_39, G_b36_221_39⟩ := id V_b36
      have hin_b36_221_39 : ¬ ((0 : Int32) < 0 ∨ cl_b36_221_39.slots.size ≤ ((0 : Int32)).toNatClampNeg) := inb_of S_b36_221_39 ⟨by decide, by decide⟩
      obtain ⟨T40, h40, X40, e40, W40, st40⟩ := stD X36 hx hZ e36 Ar_b36_221_39 (j := (0 : Int32)) hin_b36_221_39 (g := (mkF m 221 #[.val (.int p0), .val (.long q1), .second, .val (.long q2), .second, .val (.long q3), .second, .val (.int (p0 &&& (2147483647 : Int32))), .val (.int (3 : Int32)), .val (.int (2 : Int32)), .val (.ref b1), .val (.ref b17), .val (.ref b26), .val (.int (6 : Int32)), .val (.ref b36), .unset, .unset, .unset] [(.double (own_v q1)), (.int (0 : Int32)), (.ref b36)])) rfl rfl (hb hby at_221)
      have V_b36_40 := Arv.set Ar_b36_221_39 q_b36_221_39 S_b36_221_39 N_b36_221_39 H_b36_221_39 G_b36_221_39 rfl W40 0 rfl (Nat.le_of_ble_eq_true rfl)
      have N40 := Fr.snoc X40 N32 g_b36
      obtain ⟨LL40, X40, N40⟩ := own_hide X40 N40
      have ne_b1_b36 : b1 ≠ b36 := Nat.ne_of_lt (Nat.lt_of_lt_of_le (Nat.lt_of_lt_of_le (Nat.lt_of_lt_of_le (Nat.lt_of_lt_of_le (Nat.lt_of_lt_of_le (Nat.lt_of_lt_of_le (Nat.lt_of_lt_of_le (Nat.lt_of_lt_of_le (Nat.lt_of_lt_of_le (V_b1_13).lt E17.1) (Keep.of_wr W19).1) (Keep.of_wr W21).1) (Keep.of_wr W23).1) E26.1) (Keep.of_wr W28).1) (Keep.of_wr W30).1) (Keep.of_wr W32).1) (Nat.le_of_eq gg36.symm))
      have V_b1_13_41 := (V_b1_13_37.other W40 ne_b1_b36)
      obtain ⟨cl_b1_42, Ar_b1_42, q_b1_42, S_b1_42, N_b1_42, H_b1_42, G_b1_42⟩ := id V_b1_13_41
      have Al_b1_42 := State.isArrayOf_alike hZ.alike Ar_b1_42.2.1
      have hin_b1_42_1 : ¬ ((1 : Int32) < 0 ∨ cl_b1_42.slots.size ≤ ((1 : Int32)).toNatClampNeg) := inb_of S_b1_42 ⟨by decide, by decide⟩
      have hat_b1_42_1 : cl_b1_42.slots[((1 : Int32)).toNatClampNeg]? = some (.double (own_v (own_us q1 32))) := H_b1_42 _ (by rw [S_b1_42]; decide)
      obtain ⟨cl_b36_235_43, Ar_b36_235_43, q_b36_235_43, S_b36_235_43, N_b36_235_43, H_b36_235_43, G_b36_235_43⟩ := id V_b36_40
      have hin_b36_235_43 : ¬ ((1 : Int32) < 0 ∨ cl_b36_235_43.slots.size ≤ ((1 : Int32)).toNatClampNeg) := inb_of S_b36_235_43 ⟨by decide, by decide⟩
      obtain ⟨T44, h44, X44, e44, W44, st44⟩ := stD X40 hx hZ e40 Ar_b36_235_43 (j := (1 : Int32)) hin_b36_235_43 (g := (mkF m 235 #[.val (.int p0), .val (.long q1), .second, .val (.long q2), .second, .val (.long q3), .second, .val (.int (p0 &&& (2147483647 : Int32))), .val (.int (3 : Int32)), .val (.int (2 : Int32)), .val (.ref b1), .val (.ref b17), .val (.ref b26), .val (.int (6 : Int32)), .val (.ref b36), .unset, .unset, .unset] [(.double (own_v (own_us q1 32))), (.int (1 : Int32)), (.ref b36)])) rfl rfl (hb hby at_235)
      have V_b36_44 := Arv.set Ar_b36_235_43 q_b36_235_43 S_b36_235_43 N_b36_235_43 H_b36_235_43 G_b36_235_43 rfl W44 1 rfl (Nat.le_of_ble_eq_true rfl)
      have N44 := Fr.snoc X44 N40 g_b36
      obtain ⟨LL44, X44, N44⟩ := own_hide X44 N44
      have V_b1_13_45 := (V_b1_13_41.other W44 ne_b1_b36)
      obtain ⟨cl_b1_46, Ar_b1_46, q_b1_46, S_b1_46, N_b1_46, H_b1_46, G_b1_46⟩ := id V_b1_13_45
      have Al_b1_46 := State.isArrayOf_alike hZ.alike Ar_b1_46.2.1
      have hin_b1_46_2 : ¬ ((2 : Int32) < 0 ∨ cl_b1_46.slots.size ≤ ((2 : Int32)).toNatClampNeg) := inb_of S_b1_46 ⟨by decide, by decide⟩
      have hat_b1_46_2 : cl_b1_46.slots[((2 : Int32)).toNatClampNeg]? = some (.double (own_v q2)) := H_b1_46 _ (by rw [S_b1_46]; decide)
      obtain ⟨cl_b36_249_47, Ar_b36_249_47, q_b36_249_47, S_b36_249_47, N_b36_249_47, H_b36_249_47, G_b36_249_47⟩ := id V_b36_44
      have hin_b36_249_47 : ¬ ((2 : Int32) < 0 ∨ cl_b36_249_47.slots.size ≤ ((2 : Int32)).toNatClampNeg) := inb_of S_b36_249_47 ⟨by decide, by decide⟩
      obtain ⟨T48, h48, X48, e48, W48, st48⟩ := stD X44 hx hZ e44 Ar_b36_249_47 (j := (2 : Int32)) hin_b36_249_47 (g := (mkF m 249 #[.val (.int p0), .val (.long q1), .second, .val (.long q2), .second, .val (.long q3), .second, .val (.int (p0 &&& (2147483647 : Int32))), .val (.int (3 : Int32)), .val (.int (2 : Int32)), .val (.ref b1), .val (.ref b17), .val (.ref b26), .val (.int (6 : Int32)), .val (.ref b36), .unset, .unset, .unset] [(.double (own_v q2)), (.int (2 : Int32)), (.ref b36)])) rfl rfl (hb hby at_249)
      have V_b36_48 := Arv.set Ar_b36_249_47 q_b36_249_47 S_b36_249_47 N_b36_249_47 H_b36_249_47 G_b36_249_47 rfl W48 2 rfl (Nat.le_of_ble_eq_true rfl)
      have N48 := Fr.snoc X48 N44 g_b36
      obtain ⟨LL48, X48, N48⟩ := own_hide X48 N48
      have V_b1_13_49 := (V_b1_13_45.other W48 ne_b1_b36)
      obtain ⟨cl_b1_50, Ar_b1_50, q_b1_50, S_b1_50, N_b1_50, H_b1_50, G_b1_50⟩ := id V_b1_13_49
      have Al_b1_50 := State.isArrayOf_alike hZ.alike Ar_b1_50.2.1
      have hin_b1_50_3 : ¬ ((3 : Int32) < 0 ∨ cl_b1_50.slots.size ≤ ((3 : Int32)).toNatClampNeg) := inb_of S_b1_50 ⟨by decide, by decide⟩
      have hat_b1_50_3 : cl_b1_50.slots[((3 : Int32)).toNatClampNeg]? = some (.double (own_v (own_us q2 32))) := H_b1_50 _ (by rw [S_b1_50]; decide)
      obtain ⟨cl_b36_263_51, Ar_b36_263_51, q_b36_263_51, S_b36_263_51, N_b36_263_51, H_b36_263_51, G_b36_263_51⟩ := id V_b36_48
      have hin_b36_263_51 : ¬ ((3 : Int32) < 0 ∨ cl_b36_263_51.slots.size ≤ ((3 : Int32)).toNatClampNeg) := inb_of S_b36_263_51 ⟨by decide, by decide⟩
      obtain ⟨T52, h52, X52, e52, W52, st52⟩ := stD X48 hx hZ e48 Ar_b36_263_51 (j := (3 : Int32)) hin_b36_263_51 (g := (mkF m 263 #[.val (.int p0), .val (.long q1), .second, .val (.long q2), .second, .val (.long q3), .second, .val (.int (p0 &&& (2147483647 : Int32))), .val (.int (3 : Int32)), .val (.int (2 : Int32)), .val (.ref b1), .val (.ref b17), .val (.ref b26), .val (.int (6 : Int32)), .val (.ref b36), .unset, .unset, .unset] [(.double (own_v (own_us q2 32))), (.int (3 : Int32)), (.ref b36)])) rfl rfl (hb hby at_263)
      have V_b36_52 := Arv.set Ar_b36_263_51 q_b36_263_51 S_b36_263_51 N_b36_263_51 H_b36_263_51 G_b36_263_51 rfl W52 3 rfl (Nat.le_of_ble_eq_true rfl)
      have N52 := Fr.snoc X52 N48 g_b36
      obtain ⟨LL52, X52, N52⟩ := own_hide X52 N52
      have V_b1_13_53 := (V_b1_13_49.other W52 ne_b1_b36)
      obtain ⟨cl_b1_54, Ar_b1_54, q_b1_54, S_b1_54, N_b1_54, H_b1_54, G_b1_54⟩ := id V_b1_13_53
      have Al_b1_54 := State.isArrayOf_alike hZ.alike Ar_b1_54.2.1
      have hin_b1_54_4 : ¬ ((4 : Int32) < 0 ∨ cl_b1_54.slots.size ≤ ((4 : Int32)).toNatClampNeg) := inb_of S_b1_54 ⟨by decide, by decide⟩
      have hat_b1_54_4 : cl_b1_54.slots[((4 : Int32)).toNatClampNeg]? = some (.double (own_v q3)) := H_b1_54 _ (by rw [S_b1_54]; decide)
      obtain ⟨cl_b36_277_55, Ar_b36_277_55, q_b36_277_55, S_b36_277_55, N_b36_277_55, H_b36_277_55, G_b36_277_55⟩ := id V_b36_52
      have hin_b36_277_55 : ¬ ((4 : Int32) < 0 ∨ cl_b36_277_55.slots.size ≤ ((4 : Int32)).toNatClampNeg) := inb_of S_b36_277_55 ⟨by decide, by decide⟩
      obtain ⟨T56, h56, X56, e56, W56, st56⟩ := stD X52 hx hZ e52 Ar_b36_277_55 (j := (4 : Int32)) hin_b36_277_55 (g := (mkF m 277 #[.val (.int p0), .val (.long q1), .second, .val (.long q2), .second, .val (.long q3), .second, .val (.int (p0 &&& (2147483647 : Int32))), .val (.int (3 : Int32)), .val (.int (2 : Int32)), .val (.ref b1), .val (.ref b17), .val (.ref b26), .val (.int (6 : Int32)), .val (.ref b36), .unset, .unset, .unset] [(.double (own_v q3)), (.int (4 : Int32)), (.ref b36)])) rfl rfl (hb hby at_277)
      have V_b36_56 := Arv.set Ar_b36_277_55 q_b36_277_55 S_b36_277_55 N_b36_277_55 H_b36_277_55 G_b36_277_55 rfl W56 4 rfl (Nat.le_of_ble_eq_true rfl)
      have N56 := Fr.snoc X56 N52 g_b36
      obtain ⟨LL56, X56, N56⟩ := own_hide X56 N56
      have V_b1_13_57 := (V_b1_13_53.other W56 ne_b1_b36)
      obtain ⟨cl_b1_58, Ar_b1_58, q_b1_58, S_b1_58, N_b1_58, H_b1_58, G_b1_58⟩ := id V_b1_13_57
      have Al_b1_58 := State.isArrayOf_alike hZ.alike Ar_b1_58.2.1
      have hin_b1_58_5 : ¬ ((5 : Int32) < 0 ∨ cl_b1_58.slots.size ≤ ((5 : Int32)).toNatClampNeg) := inb_of S_b1_58 ⟨by decide, by decide⟩
      have hat_b1_58_5 : cl_b1_58.slots[((5 : Int32)).toNatClampNeg]? = some (.double (own_v (own_us q3 32))) := H_b1_58 _ (by rw [S_b1_58]; decide)
      obtain ⟨cl_b36_291_59, Ar_b36_291_59, q_b36_291_59, S_b36_291_59, N_b36_291_59, H_b36_291_59, G_b36_291_59⟩ := id V_b36_56
      have hin_b36_291_59 : ¬ ((5 : Int32) < 0 ∨ cl_b36_291_59.slots.size ≤ ((5 : Int32)).toNatClampNeg) := inb_of S_b36_291_59 ⟨by decide, by decide⟩
      obtain ⟨T60, h60, X60, e60, W60, st60⟩ := stD X56 hx hZ e56 Ar_b36_291_59 (j := (5 : Int32)) hin_b36_291_59 (g := (mkF m 291 #[.val (.int p0), .val (.long q1), .second, .val (.long q2), .second, .val (.long q3), .second, .val (.int (p0 &&& (2147483647 : Int32))), .val (.int (3 : Int32)), .val (.int (2 : Int32)), .val (.ref b1), .val (.ref b17), .val (.ref b26), .val (.int (6 : Int32)), .val (.ref b36), .unset, .unset, .unset] [(.double (own_v (own_us q3 32))), (.int (5 : Int32)), (.ref b36)])) rfl rfl (hb hby at_291)
      have V_b36_60 := Arv.set Ar_b36_291_59 q_b36_291_59 S_b36_291_59 N_b36_291_59 H_b36_291_59 G_b36_291_59 rfl W60 5 rfl (Nat.le_of_ble_eq_true rfl)
      have N60 := Fr.snoc X60 N56 g_b36
      obtain ⟨LL60, X60, N60⟩ := own_hide X60 N60
      have Z61z : n0 ≤ h60.size := (Nat.le_trans (Nat.le_trans (Nat.le_trans (Nat.le_trans (Nat.le_trans (Nat.le_trans (Nat.le_trans Z34z E36.1) (Keep.of_wr W40).1) (Keep.of_wr W44).1) (Keep.of_wr W48).1) (Keep.of_wr W52).1) (Keep.of_wr W56).1) (Keep.of_wr W60).1)
      have hz62 : h0.size ≤ h60.size := (Nat.le_trans (Nat.le_trans (Nat.le_trans (Nat.le_trans (Nat.le_trans (Nat.le_trans (Nat.le_trans hz35 E36.1) (Keep.of_wr W40).1) (Keep.of_wr W44).1) (Keep.of_wr W48).1) (Keep.of_wr W52).1) (Keep.of_wr W56).1) (Keep.of_wr W60).1)
      obtain ⟨T63, h63, X63, e63, E63, A63, D63, -, st63⟩ := newO X60 hx hZ hown (W 4 rfl) (W 5 rfl) (W 6 rfl) e60 (g := (mkF m 292 #[.val (.int p0), .val (.long q1), .second, .val (.long q2), .second, .val (.long q3), .second, .val (.int (p0 &&& (2147483647 : Int32))), .val (.int (3 : Int32)), .val (.int (2 : Int32)), .val (.ref b1), .val (.ref b17), .val (.ref b26), .val (.int (6 : Int32)), .val (.ref b36), .unset, .unset, .unset] [])) rfl (hb hby at_292) (by decide) (by decide)
      obtain ⟨b63, gg63⟩ : ∃ z, z = h60.size := ⟨_, rfl⟩
      rw [← gg63] at A63 D63 st63
      have g_b63 : n0 ≤ b63 := Nat.le_trans Z61z (Nat.le_of_eq gg63.symm)
      have sz_b63 : h0.size ≤ b63 := Nat.le_trans hz62 (Nat.le_of_eq gg63.symm)
      have F_scope_b63 : Fld Z h63 b63 "com/example/beliefwire/beliefwire/model/Factor" "scope" "[I" .null := D63 (Or.inr (W 45 rfl)) (ty := (.array .int)) (by decide)
      have F_cardinalities_b63 : Fld Z h63 b63 "com/example/beliefwire/beliefwire/model/Factor" "cardinalities" "[I" .null := D63 (Or.inr (W 47 rfl)) (ty := (.array .int)) (by decide)
      have F_entries_b63 : Fld Z h63 b63 "com/example/beliefwire/beliefwire/model/Factor" "entries" "[D" .null := D63 (Or.inr (W 55 rfl)) (ty := (.array .double)) (by decide)
      have Z65z : n0 ≤ h63.size := (Nat.le_trans Z61z E63.1)
      have ne_b17_b26 : b17 ≠ b26 := Nat.ne_of_lt (Nat.lt_of_lt_of_le (V_b17_23).lt (Nat.le_of_eq gg26.symm))
      have ne_b17_b36 : b17 ≠ b36 := Nat.ne_of_lt (Nat.lt_of_lt_of_le (Nat.lt_of_lt_of_le (Nat.lt_of_lt_of_le (Nat.lt_of_lt_of_le (Nat.lt_of_lt_of_le (V_b17_23).lt E26.1) (Keep.of_wr W28).1) (Keep.of_wr W30).1) (Keep.of_wr W32).1) (Nat.le_of_eq gg36.symm))
      have V_b17_23_66 := ((((((((((((V_b17_23.ext E26).other W28 ne_b17_b26).other W30 ne_b17_b26).other W32 ne_b17_b26).ext E36).other W40 ne_b17_b36).other W44 ne_b17_b36).other W48 ne_b17_b36).other W52 ne_b17_b36).other W56 ne_b17_b36).other W60 ne_b17_b36).ext E63)
      have B17_67 := (((((((((((((((B17.wr W19).wr W21).wr W23).ext E26).wr W28).wr W30).wr W32).ext E36).wr W40).wr W44).wr W48).wr W52).wr W56).wr W60).ext E63)
      have ne_b26_b36 : b26 ≠ b36 := Nat.ne_of_lt (Nat.lt_of_lt_of_le (Vc).lt (Nat.le_of_eq gg36.symm))
      have Vc_68 := ((((((((Vc.ext E36).other W40 ne_b26_b36).other W44 ne_b26_b36).other W48 ne_b26_b36).other W52 ne_b26_b36).other W56 ne_b26_b36).other W60 ne_b26_b36).ext E63)
      have B26_69 := (((((((((((B26.wr W28).wr W30).wr W32).ext E36).wr W40).wr W44).wr W48).wr W52).wr W56).wr W60).ext E63)
      have V_b36_60_70 := (V_b36_60.ext E63)
      have B36_71 := (((((((B36.wr W40).wr W44).wr W48).wr W52).wr W56).wr W60).ext E63)
      obtain ⟨_, _, ⟨T64, L64, k64, n64⟩, -, X64, ⟨Lc64, hQ64, l64, y64, z64⟩, st64⟩ := X63.specialBack hx (y := (⟨"com/example/beliefwire/beliefwire/model/Factor", "<init>", "([I[I[D)V"⟩ : MethodName)) rfl hown (mvT hZ (W 7 rfl)) (mvT hZ (W 8 rfl)) (mvT hZ (W 9 rfl)) (by decide) (backOf (W := 1) (rm_in_23 l Z a0 hw [] b63 b17 b26 b36 (own_v q1) (own_v (own_us q1 32)) (own_v q2) (own_v (own_us q2 32)) (own_v q3) (own_v (own_us q3 32)) _ _ _ k17 k26 k36 h63 n0 Z65z A63 g_b63 F_scope_b63 F_cardinalities_b63 F_entries_b63 V_b17_23_66 B17_67 Vc_68 B26_69 V_b36_60_70 B36_71 (own_vf _) (own_vn _) (own_vf _) (own_vn _) (own_vf _) (own_vn _) (own_vf _) (own_vn _) (own_vf _) (own_vn _) (own_vf _) (own_vn _)) hZ (W 9 rfl) (W 6 rfl) (by decide) (by decide)) (g := (mkF m 302 #[.val (.int p0), .val (.long q1), .second, .val (.long q2), .second, .val (.long q3), .second, .val (.int (p0 &&& (2147483647 : Int32))), .val (.int (3 : Int32)), .val (.int (2 : Int32)), .val (.ref b1), .val (.ref b17), .val (.ref b26), .val (.int (6 : Int32)), .val (.ref b36), .unset, .unset, .unset] [(.ref b36), (.ref b26), (.ref b17), (.ref b63), (.ref b63)])) rfl (by rw [hml]; rfl) (Steps.refl _) (a := b63) (argsL := [(.ref b17), (.ref b26), (.ref b36)]) (rest := [(.ref b63)]) (lenOf pd_9 rfl) rfl (own_le rfl) (hb hby at_302) (fun _ _ => ⟨rfl, e63, (by decide : 5 + 4 ≤ _), (by decide : 21 + 15 ≤ _)⟩)
      dsimp only [Pt.U, Pt.locs, Pt.cells, Pt.slots] at X64 l64 y64 z64 st64 hQ64
      subst l64 y64 z64
      obtain ⟨rfl, N64q, K64, Eq64, bc64, be64, Fc64, Fe64, Ec64, Vc64, Ve64⟩ := hQ64
      have N64 := Fr.app N60 N64q
      obtain ⟨LL64, X64, N64⟩ := own_hide X64 N64
      have Z73z : n0 ≤ T64.heap.size := (Nat.le_trans Z65z K64.1)
      obtain ⟨_, _, ⟨T72, L72, k72, n72⟩, -, X72, ⟨Lc72, hQ72, l72, y72, z72⟩, st72⟩ := Jvm.LawKit.callS X64 hx (y := (⟨"com/example/beliefwire/beliefwire/io/NoisyMax", "leak", "(Lcom/example/beliefwire/beliefwire/model/Factor;)[D"⟩ : MethodName)) hown (mvT hZ (W 56 rfl)) (mvT hZ (W 57 rfl)) (mvT hZ (W 58 rfl)) (mvT hZ (W 59 rfl)) (by decide) (backOf (W := 0) (rm_lk_23 l Z a0 hw [] b63 bc64 be64 (own_v q1) (own_v (own_us q1 32)) (own_v q2) (own_v (own_us q2 32)) (own_v q3) (own_v (own_us q3 32)) k26 k36 T64.heap n0 Z73z Eq64 Fc64 Vc64 Ec64 Fe64 Ve64) hZ (W 59 rfl) (W 58 rfl) (by decide) (by decide)) (g := (mkF m 309 #[.val (.int p0), .val (.long q1), .second, .val (.long q2), .second, .val (.long q3), .second, .val (.int (p0 &&& (2147483647 : Int32))), .val (.int (3 : Int32)), .val (.int (2 : Int32)), .val (.ref b1), .val (.ref b17), .val (.ref b26), .val (.int (6 : Int32)), .val (.ref b36), .val (.ref b63), .unset, .unset] [(.ref b63)])) rfl (by rw [hml]; rfl) (argsL := [(.ref b63)]) (rest := []) (lenOf pd_10 rfl) rfl (own_le rfl) (hb hby at_309) (fun _ _ => ⟨rfl, rfl, (by decide : 9 + 2 ≤ _), (by decide : 36 + 6 ≤ _)⟩)
      dsimp only [Pt.U, Pt.locs, Pt.cells, Pt.slots] at X72 l72 y72 z72 st72 hQ72
      subst l72 y72 z72
      obtain ⟨⟨b72, kb72, rfl, V72⟩, N72q, K72⟩ := hQ72
      have N72 := Fr.app N64 N72q
      obtain ⟨LL72, X72, N72⟩ := own_hide X72 N72
      obtain ⟨cl_b72_74, Ar_b72_74, q_b72_74, S_b72_74, N_b72_74, H_b72_74, G_b72_74⟩ := id V72
      have Al_b72_74 := State.isArrayOf_alike hZ.alike Ar_b72_74.2.1
      have hin_b72_74_0 : ¬ ((0 : Int32) < 0 ∨ cl_b72_74.slots.size ≤ ((0 : Int32)).toNatClampNeg) := inb_of S_b72_74 ⟨by decide, by decide⟩
      have hat_b72_74_0 : cl_b72_74.slots[((0 : Int32)).toNatClampNeg]? = some (.double (own_v q1)) := H_b72_74 _ (by rw [S_b72_74]; decide)
      have ne_b1_b63 : b1 ≠ b63 := Nat.ne_of_lt (Nat.lt_of_lt_of_le (Nat.lt_of_lt_of_le (V_b1_13_57).lt (Keep.of_wr W60).1) (Nat.le_of_eq gg63.symm))
      have V_b1_13_75 := ((((V_b1_13_57.other W60 ne_b1_b36).ext E63).keep K64 (own_nin1 ne_b1_b63)).keep K72 own_nin0)
      obtain ⟨cl_b1_76, Ar_b1_76, q_b1_76, S_b1_76, N_b1_76, H_b1_76, G_b1_76⟩ := id V_b1_13_75
      have Al_b1_76 := State.isArrayOf_alike hZ.alike Ar_b1_76.2.1
      have hin_b1_76_0 : ¬ ((0 : Int32) < 0 ∨ cl_b1_76.slots.size ≤ ((0 : Int32)).toNatClampNeg) := inb_of S_b1_76 ⟨by decide, by decide⟩
      have hat_b1_76_0 : cl_b1_76.slots[((0 : Int32)).toNatClampNeg]? = some (.double (own_v q1)) := H_b1_76 _ (by rw [S_b1_76]; decide)
      have hin_b72_74_1 : ¬ ((1 : Int32) < 0 ∨ cl_b72_74.slots.size ≤ ((1 : Int32)).toNatClampNeg) := inb_of S_b72_74 ⟨by decide, by decide⟩
      have hat_b72_74_1 : cl_b72_74.slots[((1 : Int32)).toNatClampNeg]? = some (.double (own_v (own_us q1 32))) := H_b72_74 _ (by rw [S_b72_74]; decide)
      have hin_b1_76_1 : ¬ ((1 : Int32) < 0 ∨ cl_b1_76.slots.size ≤ ((1 : Int32)).toNatClampNeg) := inb_of S_b1_76 ⟨by decide, by decide⟩
      have hat_b1_76_1 : cl_b1_76.slots[((1 : Int32)).toNatClampNeg]? = some (.double (own_v (own_us q1 32))) := H_b1_76 _ (by rw [S_b1_76]; decide)
      have hin_b72_74_2 : ¬ ((2 : Int32) < 0 ∨ cl_b72_74.slots.size ≤ ((2 : Int32)).toNatClampNeg) := inb_of S_b72_74 ⟨by decide, by decide⟩
      have hat_b72_74_2 : cl_b72_74.slots[((2 : Int32)).toNatClampNeg]? = some (.double (own_v q2)) := H_b72_74 _ (by rw [S_b72_74]; decide)
      have hin_b1_76_2 : ¬ ((2 : Int32) < 0 ∨ cl_b1_76.slots.size ≤ ((2 : Int32)).toNatClampNeg) := inb_of S_b1_76 ⟨by decide, by decide⟩
      have hat_b1_76_2 : cl_b1_76.slots[((2 : Int32)).toNatClampNeg]? = some (.double (own_v q2)) := H_b1_76 _ (by rw [S_b1_76]; decide)
      obtain ⟨fs, hr, hrun, hended, hW, hsame⟩ := X72.leave (v := some (.int (1 : Int32))) (fun h => by rw [Bd.returns] at h; cases h)
      refine ⟨_, _, pre33 _ ?_, hrun, hended, _, _, rfl, ?_, ⟨_, rfl⟩, hW, hsame.mono (by decide) (by decide)⟩
      · show Steps p.tables e below (T32.setTop (mkF m 192 #[.val (.int p0), .val (.long q1), .second, .val (.long q2), .second, .val (.long q3), .second, .val (.int (p0 &&& (2147483647 : Int32))), .val (.int ((1 : Int32) + ((p0 &&& (2147483647 : Int32)) % (3 : Int32)))), .val (.int (2 : Int32)), .val (.ref b1), .val (.ref b17), .val (.ref b26), .unset, .unset, .unset, .unset, .unset] [])) _
        show Steps p.tables e below (T32.setTop (mkF m 192 #[.val (.int p0), .val (.long q1), .second, .val (.long q2), .second, .val (.long q3), .second, .val (.int (p0 &&& (2147483647 : Int32))), .val (.int ((1 : Int32) + ((p0 &&& (2147483647 : Int32)) % (3 : Int32)))), .val (.int (2 : Int32)), .val (.ref b1), .val (.ref b17), .val (.ref b26), .unset, .unset, .unset, .unset, .unset] [])) _
        rw [show ((1 : Int32) + ((p0 &&& (2147483647 : Int32)) % (3 : Int32))) = (3 : Int32) from hc]
        refine XS.iload X32.here hx rfl (hb hby at_192) rfl ?_
        refine XS.ifYes X32.here hx rfl (pc0 := 194) (pc' := 202) rfl (hb hby at_194) rfl ((if0 _ _).trans (feq (by decide : ¬ ((2 : Int32) = (0 : Int32)))).2) (by decide) (by decide) ?_
        refine XS.iconst X32.here hx rfl (hb hby at_202) ?_
        refine XS.iload X32.here hx rfl (hb hby at_203) rfl ?_
        refine XS.imul X32.here hx rfl (hb hby at_205) rfl ?_
        show Steps p.tables e below (T32.setTop (mkF m 206 #[.val (.int p0), .val (.long q1), .second, .val (.long q2), .second, .val (.long q3), .second, .val (.int (p0 &&& (2147483647 : Int32))), .val (.int (3 : Int32)), .val (.int (2 : Int32)), .val (.ref b1), .val (.ref b17), .val (.ref b26), .unset, .unset, .unset, .unset, .unset] [(.int ((2 : Int32) * (3 : Int32)))])) _
        rw [show ((2 : Int32) * (3 : Int32)) = (6 : Int32) from (by decide)]
        refine XS.istore X32.here hx rfl (hb hby at_206) rfl (l' := #[.val (.int p0), .val (.long q1), .second, .val (.long q2), .second, .val (.long q3), .second, .val (.int (p0 &&& (2147483647 : Int32))), .val (.int (3 : Int32)), .val (.int (2 : Int32)), .val (.ref b1), .val (.ref b17), .val (.ref b26), .val (.int (6 : Int32)), .unset, .unset, .unset, .unset]) rfl ?_
        refine XS.iload X32.here hx rfl (hb hby at_208) rfl ?_
        refine st36 _ ?_
        refine XS.astore X36.here hx rfl (hb hby at_212) rfl rfl (l' := #[.val (.int p0), .val (.long q1), .second, .val (.long q2), .second, .val (.long q3), .second, .val (.int (p0 &&& (2147483647 : Int32))), .val (.int (3 : Int32)), .val (.int (2 : Int32)), .val (.ref b1), .val (.ref b17), .val (.ref b26), .val (.int (6 : Int32)), .val (.ref b36), .unset, .unset, .unset]) rfl ?_
        refine XS.aload X36.here hx rfl (hb hby at_214) rfl rfl ?_
        refine XS.iconst X36.here hx rfl (hb hby at_216) ?_
        refine XS.aload X36.here hx rfl (hb hby at_217) rfl rfl ?_
        refine XS.iconst X36.here hx rfl (hb hby at_219) ?_
        refine X36.daload hx (j := (0 : Int32)) (v := (.double (own_v q1))) (by rw [e36]; exact Ar_b1_38.1) Al_b1_38 Ar_b1_38.2.2 hin_b1_38_0 hat_b1_38_0 (g := (mkF m 220 #[.val (.int p0), .val (.long q1), .second, .val (.long q2), .second, .val (.long q3), .second, .val (.int (p0 &&& (2147483647 : Int32))), .val (.int (3 : Int32)), .val (.int (2 : Int32)), .val (.ref b1), .val (.ref b17), .val (.ref b26), .val (.int (6 : Int32)), .val (.ref b36), .unset, .unset, .unset] [(.int (0 : Int32)), (.ref b1), (.int (0 : Int32)), (.ref b36)])) rfl rfl (hb hby at_220) _ ?_
        refine st40 _ ?_
        refine XS.iload X40.here hx rfl (hb hby at_222) rfl ?_
        refine XS.iconst X40.here hx rfl (hb hby at_224) ?_
        refine XS.icmpNo X40.here hx rfl (hb hby at_225) rfl (tlt (by decide : (1 : Int32) < (6 : Int32))).2.2.2 ?_
        refine XS.aload X40.here hx rfl (hb hby at_228) rfl rfl ?_
        refine XS.iconst X40.here hx rfl (hb hby at_230) ?_
        refine XS.aload X40.here hx rfl (hb hby at_231) rfl rfl ?_
        refine XS.iconst X40.here hx rfl (hb hby at_233) ?_
        refine X40.daload hx (j := (1 : Int32)) (v := (.double (own_v (own_us q1 32)))) (by rw [e40]; exact Ar_b1_42.1) Al_b1_42 Ar_b1_42.2.2 hin_b1_42_1 hat_b1_42_1 (g := (mkF m 234 #[.val (.int p0), .val (.long q1), .second, .val (.long q2), .second, .val (.long q3), .second, .val (.int (p0 &&& (2147483647 : Int32))), .val (.int (3 : Int32)), .val (.int (2 : Int32)), .val (.ref b1), .val (.ref b17), .val (.ref b26), .val (.int (6 : Int32)), .val (.ref b36), .unset, .unset, .unset] [(.int (1 : Int32)), (.ref b1), (.int (1 : Int32)), (.ref b36)])) rfl rfl (hb hby at_234) _ ?_
        refine st44 _ ?_
        refine XS.iload X44.here hx rfl (hb hby at_236) rfl ?_
        refine XS.iconst X44.here hx rfl (hb hby at_238) ?_
        refine XS.icmpNo X44.here hx rfl (hb hby at_239) rfl (tlt (by decide : (2 : Int32) < (6 : Int32))).2.2.2 ?_
        refine XS.aload X44.here hx rfl (hb hby at_242) rfl rfl ?_
        refine XS.iconst X44.here hx rfl (hb hby at_244) ?_
        refine XS.aload X44.here hx rfl (hb hby at_245) rfl rfl ?_
        refine XS.iconst X44.here hx rfl (hb hby at_247) ?_
        refine X44.daload hx (j := (2 : Int32)) (v := (.double (own_v q2))) (by rw [e44]; exact Ar_b1_46.1) Al_b1_46 Ar_b1_46.2.2 hin_b1_46_2 hat_b1_46_2 (g := (mkF m 248 #[.val (.int p0), .val (.long q1), .second, .val (.long q2), .second, .val (.long q3), .second, .val (.int (p0 &&& (2147483647 : Int32))), .val (.int (3 : Int32)), .val (.int (2 : Int32)), .val (.ref b1), .val (.ref b17), .val (.ref b26), .val (.int (6 : Int32)), .val (.ref b36), .unset, .unset, .unset] [(.int (2 : Int32)), (.ref b1), (.int (2 : Int32)), (.ref b36)])) rfl rfl (hb hby at_248) _ ?_
        refine st48 _ ?_
        refine XS.iload X48.here hx rfl (hb hby at_250) rfl ?_
        refine XS.iconst X48.here hx rfl (hb hby at_252) ?_
        refine XS.icmpNo X48.here hx rfl (hb hby at_253) rfl (tlt (by decide : (3 : Int32) < (6 : Int32))).2.2.2 ?_
        refine XS.aload X48.here hx rfl (hb hby at_256) rfl rfl ?_
        refine XS.iconst X48.here hx rfl (hb hby at_258) ?_
        refine XS.aload X48.here hx rfl (hb hby at_259) rfl rfl ?_
        refine XS.iconst X48.here hx rfl (hb hby at_261) ?_
        refine X48.daload hx (j := (3 : Int32)) (v := (.double (own_v (own_us q2 32)))) (by rw [e48]; exact Ar_b1_50.1) Al_b1_50 Ar_b1_50.2.2 hin_b1_50_3 hat_b1_50_3 (g := (mkF m 262 #[.val (.int p0), .val (.long q1), .second, .val (.long q2), .second, .val (.long q3), .second, .val (.int (p0 &&& (2147483647 : Int32))), .val (.int (3 : Int32)), .val (.int (2 : Int32)), .val (.ref b1), .val (.ref b17), .val (.ref b26), .val (.int (6 : Int32)), .val (.ref b36), .unset, .unset, .unset] [(.int (3 : Int32)), (.ref b1), (.int (3 : Int32)), (.ref b36)])) rfl rfl (hb hby at_262) _ ?_
        refine st52 _ ?_
        refine XS.iload X52.here hx rfl (hb hby at_264) rfl ?_
        refine XS.iconst X52.here hx rfl (hb hby at_266) ?_
        refine XS.icmpNo X52.here hx rfl (hb hby at_267) rfl (tlt (by decide : (4 : Int32) < (6 : Int32))).2.2.2 ?_
        refine XS.aload X52.here hx rfl (hb hby at_270) rfl rfl ?_
        refine XS.iconst X52.here hx rfl (hb hby at_272) ?_
        refine XS.aload X52.here hx rfl (hb hby at_273) rfl rfl ?_
        refine XS.iconst X52.here hx rfl (hb hby at_275) ?_
        refine X52.daload hx (j := (4 : Int32)) (v := (.double (own_v q3))) (by rw [e52]; exact Ar_b1_54.1) Al_b1_54 Ar_b1_54.2.2 hin_b1_54_4 hat_b1_54_4 (g := (mkF m 276 #[.val (.int p0), .val (.long q1), .second, .val (.long q2), .second, .val (.long q3), .second, .val (.int (p0 &&& (2147483647 : Int32))), .val (.int (3 : Int32)), .val (.int (2 : Int32)), .val (.ref b1), .val (.ref b17), .val (.ref b26), .val (.int (6 : Int32)), .val (.ref b36), .unset, .unset, .unset] [(.int (4 : Int32)), (.ref b1), (.int (4 : Int32)), (.ref b36)])) rfl rfl (hb hby at_276) _ ?_
        refine st56 _ ?_
        refine XS.iload X56.here hx rfl (hb hby at_278) rfl ?_
        refine XS.iconst X56.here hx rfl (hb hby at_280) ?_
        refine XS.icmpNo X56.here hx rfl (hb hby at_281) rfl (tlt (by decide : (5 : Int32) < (6 : Int32))).2.2.2 ?_
        refine XS.aload X56.here hx rfl (hb hby at_284) rfl rfl ?_
        refine XS.iconst X56.here hx rfl (hb hby at_286) ?_
        refine XS.aload X56.here hx rfl (hb hby at_287) rfl rfl ?_
        refine XS.iconst X56.here hx rfl (hb hby at_289) ?_
        refine X56.daload hx (j := (5 : Int32)) (v := (.double (own_v (own_us q3 32)))) (by rw [e56]; exact Ar_b1_58.1) Al_b1_58 Ar_b1_58.2.2 hin_b1_58_5 hat_b1_58_5 (g := (mkF m 290 #[.val (.int p0), .val (.long q1), .second, .val (.long q2), .second, .val (.long q3), .second, .val (.int (p0 &&& (2147483647 : Int32))), .val (.int (3 : Int32)), .val (.int (2 : Int32)), .val (.ref b1), .val (.ref b17), .val (.ref b26), .val (.int (6 : Int32)), .val (.ref b36), .unset, .unset, .unset] [(.int (5 : Int32)), (.ref b1), (.int (5 : Int32)), (.ref b36)])) rfl rfl (hb hby at_290) _ ?_
        refine st60 _ ?_
        refine st63 _ ?_
        refine XS.dup X63.here hx rfl (hb hby at_295) rfl rfl ?_
        refine XS.aload X63.here hx rfl (hb hby at_296) rfl rfl ?_
        refine XS.aload X63.here hx rfl (hb hby at_298) rfl rfl ?_
        refine XS.aload X63.here hx rfl (hb hby at_300) rfl rfl ?_
        refine st64.trans ?_
        refine XS.astore X64.here hx rfl (hb hby at_305) rfl rfl (l' := #[.val (.int p0), .val (.long q1), .second, .val (.long q2), .second, .val (.long q3), .second, .val (.int (p0 &&& (2147483647 : Int32))), .val (.int (3 : Int32)), .val (.int (2 : Int32)), .val (.ref b1), .val (.ref b17), .val (.ref b26), .val (.int (6 : Int32)), .val (.ref b36), .val (.ref b63), .unset, .unset]) rfl ?_
        refine XS.aload X64.here hx rfl (hb hby at_307) rfl rfl ?_
        refine st72 _ ?_
        refine XS.astore X72.here hx rfl (hb hby at_312) rfl rfl (l' := #[.val (.int p0), .val (.long q1), .second, .val (.long q2), .second, .val (.long q3), .second, .val (.int (p0 &&& (2147483647 : Int32))), .val (.int (3 : Int32)), .val (.int (2 : Int32)), .val (.ref b1), .val (.ref b17), .val (.ref b26), .val (.int (6 : Int32)), .val (.ref b36), .val (.ref b63), .val (.ref b72), .unset]) rfl ?_
        refine XS.aload X72.here hx rfl (hb hby at_314) rfl rfl ?_
        refine X72.arraylength hx Ar_b72_74.1 Al_b72_74 (g := (mkF m 316 #[.val (.int p0), .val (.long q1), .second, .val (.long q2), .second, .val (.long q3), .second, .val (.int (p0 &&& (2147483647 : Int32))), .val (.int (3 : Int32)), .val (.int (2 : Int32)), .val (.ref b1), .val (.ref b17), .val (.ref b26), .val (.int (6 : Int32)), .val (.ref b36), .val (.ref b63), .val (.ref b72), .unset] [(.ref b72)])) rfl rfl (hb hby at_316) _ ?_
        rw [len_of S_b72_74 N_b72_74]
        refine XS.iload X72.here hx rfl (hb hby at_317) rfl ?_
        refine XS.icmpYes X72.here hx rfl (pc0 := 319) (pc' := 324) rfl (hb hby at_319) rfl (teq (by decide : (3 : Int32) = (3 : Int32))).1 (by decide) (by decide) ?_
        refine XS.aload X72.here hx rfl (hb hby at_324) rfl rfl ?_
        refine XS.iconst X72.here hx rfl (hb hby at_326) ?_
        refine X72.daload hx (j := (0 : Int32)) (v := (.double (own_v q1))) Ar_b72_74.1 Al_b72_74 Ar_b72_74.2.2 hin_b72_74_0 hat_b72_74_0 (g := (mkF m 327 #[.val (.int p0), .val (.long q1), .second, .val (.long q2), .second, .val (.long q3), .second, .val (.int (p0 &&& (2147483647 : Int32))), .val (.int (3 : Int32)), .val (.int (2 : Int32)), .val (.ref b1), .val (.ref b17), .val (.ref b26), .val (.int (6 : Int32)), .val (.ref b36), .val (.ref b63), .val (.ref b72), .unset] [(.int (0 : Int32)), (.ref b72)])) rfl rfl (hb hby at_327) _ ?_
        refine XS.aload X72.here hx rfl (hb hby at_328) rfl rfl ?_
        refine XS.iconst X72.here hx rfl (hb hby at_330) ?_
        refine X72.daload hx (j := (0 : Int32)) (v := (.double (own_v q1))) Ar_b1_76.1 Al_b1_76 Ar_b1_76.2.2 hin_b1_76_0 hat_b1_76_0 (g := (mkF m 331 #[.val (.int p0), .val (.long q1), .second, .val (.long q2), .second, .val (.long q3), .second, .val (.int (p0 &&& (2147483647 : Int32))), .val (.int (3 : Int32)), .val (.int (2 : Int32)), .val (.ref b1), .val (.ref b17), .val (.ref b26), .val (.int (6 : Int32)), .val (.ref b36), .val (.ref b63), .val (.ref b72), .unset] [(.int (0 : Int32)), (.ref b1), (.double (own_v q1))])) rfl rfl (hb hby at_331) _ ?_
        refine XS.dcmpS X72.here hx rfl (hb hby at_332) rfl rfl ?_
        refine XS.ifNo X72.here hx rfl (hb hby at_333) rfl ((if0 _ _).trans (teq (own_eqv _)).2) ?_
        refine XS.iconst X72.here hx rfl (hb hby at_336) ?_
        refine XS.goto X72.here hx rfl (pc0 := 337) (pc' := 341) rfl (hb hby at_337) (by decide) (by decide) ?_
        refine XS.istore X72.here hx rfl (hb hby at_341) rfl (l' := #[.val (.int p0), .val (.long q1), .second, .val (.long q2), .second, .val (.long q3), .second, .val (.int (p0 &&& (2147483647 : Int32))), .val (.int (3 : Int32)), .val (.int (2 : Int32)), .val (.ref b1), .val (.ref b17), .val (.ref b26), .val (.int (6 : Int32)), .val (.ref b36), .val (.ref b63), .val (.ref b72), .val (.int (1 : Int32))]) rfl ?_
        refine XS.iload X72.here hx rfl (hb hby at_343) rfl ?_
        refine XS.iconst X72.here hx rfl (hb hby at_345) ?_
        refine XS.icmpNo X72.here hx rfl (hb hby at_346) rfl (tlt (by decide : (1 : Int32) < (3 : Int32))).2.2.2 ?_
        refine XS.iload X72.here hx rfl (hb hby at_349) rfl ?_
        refine XS.ifNo X72.here hx rfl (hb hby at_351) rfl ((if0 _ _).trans (feq (by decide : ¬ ((1 : Int32) = (0 : Int32)))).1) ?_
        refine XS.aload X72.here hx rfl (hb hby at_354) rfl rfl ?_
        refine XS.iconst X72.here hx rfl (hb hby at_356) ?_
        refine X72.daload hx (j := (1 : Int32)) (v := (.double (own_v (own_us q1 32)))) Ar_b72_74.1 Al_b72_74 Ar_b72_74.2.2 hin_b72_74_1 hat_b72_74_1 (g := (mkF m 357 #[.val (.int p0), .val (.long q1), .second, .val (.long q2), .second, .val (.long q3), .second, .val (.int (p0 &&& (2147483647 : Int32))), .val (.int (3 : Int32)), .val (.int (2 : Int32)), .val (.ref b1), .val (.ref b17), .val (.ref b26), .val (.int (6 : Int32)), .val (.ref b36), .val (.ref b63), .val (.ref b72), .val (.int (1 : Int32))] [(.int (1 : Int32)), (.ref b72)])) rfl rfl (hb hby at_357) _ ?_
        refine XS.aload X72.here hx rfl (hb hby at_358) rfl rfl ?_
        refine XS.iconst X72.here hx rfl (hb hby at_360) ?_
        refine X72.daload hx (j := (1 : Int32)) (v := (.double (own_v (own_us q1 32)))) Ar_b1_76.1 Al_b1_76 Ar_b1_76.2.2 hin_b1_76_1 hat_b1_76_1 (g := (mkF m 361 #[.val (.int p0), .val (.long q1), .second, .val (.long q2), .second, .val (.long q3), .second, .val (.int (p0 &&& (2147483647 : Int32))), .val (.int (3 : Int32)), .val (.int (2 : Int32)), .val (.ref b1), .val (.ref b17), .val (.ref b26), .val (.int (6 : Int32)), .val (.ref b36), .val (.ref b63), .val (.ref b72), .val (.int (1 : Int32))] [(.int (1 : Int32)), (.ref b1), (.double (own_v (own_us q1 32)))])) rfl rfl (hb hby at_361) _ ?_
        refine XS.dcmpS X72.here hx rfl (hb hby at_362) rfl rfl ?_
        refine XS.ifNo X72.here hx rfl (hb hby at_363) rfl ((if0 _ _).trans (teq (own_eqv _)).2) ?_
        refine XS.iconst X72.here hx rfl (hb hby at_366) ?_
        refine XS.goto X72.here hx rfl (pc0 := 367) (pc' := 371) rfl (hb hby at_367) (by decide) (by decide) ?_
        refine XS.istore X72.here hx rfl (hb hby at_371) rfl (l' := #[.val (.int p0), .val (.long q1), .second, .val (.long q2), .second, .val (.long q3), .second, .val (.int (p0 &&& (2147483647 : Int32))), .val (.int (3 : Int32)), .val (.int (2 : Int32)), .val (.ref b1), .val (.ref b17), .val (.ref b26), .val (.int (6 : Int32)), .val (.ref b36), .val (.ref b63), .val (.ref b72), .val (.int (1 : Int32))]) rfl ?_
        refine XS.iload X72.here hx rfl (hb hby at_373) rfl ?_
        refine XS.iconst X72.here hx rfl (hb hby at_375) ?_
        refine XS.icmpNo X72.here hx rfl (hb hby at_376) rfl (tlt (by decide : (2 : Int32) < (3 : Int32))).2.2.2 ?_
        refine XS.iload X72.here hx rfl (hb hby at_379) rfl ?_
        refine XS.ifNo X72.here hx rfl (hb hby at_381) rfl ((if0 _ _).trans (feq (by decide : ¬ ((1 : Int32) = (0 : Int32)))).1) ?_
        refine XS.aload X72.here hx rfl (hb hby at_384) rfl rfl ?_
        refine XS.iconst X72.here hx rfl (hb hby at_386) ?_
        refine X72.daload hx (j := (2 : Int32)) (v := (.double (own_v q2))) Ar_b72_74.1 Al_b72_74 Ar_b72_74.2.2 hin_b72_74_2 hat_b72_74_2 (g := (mkF m 387 #[.val (.int p0), .val (.long q1), .second, .val (.long q2), .second, .val (.long q3), .second, .val (.int (p0 &&& (2147483647 : Int32))), .val (.int (3 : Int32)), .val (.int (2 : Int32)), .val (.ref b1), .val (.ref b17), .val (.ref b26), .val (.int (6 : Int32)), .val (.ref b36), .val (.ref b63), .val (.ref b72), .val (.int (1 : Int32))] [(.int (2 : Int32)), (.ref b72)])) rfl rfl (hb hby at_387) _ ?_
        refine XS.aload X72.here hx rfl (hb hby at_388) rfl rfl ?_
        refine XS.iconst X72.here hx rfl (hb hby at_390) ?_
        refine X72.daload hx (j := (2 : Int32)) (v := (.double (own_v q2))) Ar_b1_76.1 Al_b1_76 Ar_b1_76.2.2 hin_b1_76_2 hat_b1_76_2 (g := (mkF m 391 #[.val (.int p0), .val (.long q1), .second, .val (.long q2), .second, .val (.long q3), .second, .val (.int (p0 &&& (2147483647 : Int32))), .val (.int (3 : Int32)), .val (.int (2 : Int32)), .val (.ref b1), .val (.ref b17), .val (.ref b26), .val (.int (6 : Int32)), .val (.ref b36), .val (.ref b63), .val (.ref b72), .val (.int (1 : Int32))] [(.int (2 : Int32)), (.ref b1), (.double (own_v q2))])) rfl rfl (hb hby at_391) _ ?_
        refine XS.dcmpS X72.here hx rfl (hb hby at_392) rfl rfl ?_
        refine XS.ifNo X72.here hx rfl (hb hby at_393) rfl ((if0 _ _).trans (teq (own_eqv _)).2) ?_
        refine XS.iconst X72.here hx rfl (hb hby at_396) ?_
        refine XS.goto X72.here hx rfl (pc0 := 397) (pc' := 401) rfl (hb hby at_397) (by decide) (by decide) ?_
        refine XS.istore X72.here hx rfl (hb hby at_401) rfl (l' := #[.val (.int p0), .val (.long q1), .second, .val (.long q2), .second, .val (.long q3), .second, .val (.int (p0 &&& (2147483647 : Int32))), .val (.int (3 : Int32)), .val (.int (2 : Int32)), .val (.ref b1), .val (.ref b17), .val (.ref b26), .val (.int (6 : Int32)), .val (.ref b36), .val (.ref b63), .val (.ref b72), .val (.int (1 : Int32))]) rfl ?_
        refine XS.iload X72.here hx rfl (hb hby at_403) rfl ?_
        show Steps p.tables e below (T72.setTop (mkF m 405 #[.val (.int p0), .val (.long q1), .second, .val (.long q2), .second, .val (.long q3), .second, .val (.int (p0 &&& (2147483647 : Int32))), .val (.int (3 : Int32)), .val (.int (2 : Int32)), .val (.ref b1), .val (.ref b17), .val (.ref b26), .val (.int (6 : Int32)), .val (.ref b36), .val (.ref b63), .val (.ref b72), .val (.int (1 : Int32))] [(.int (1 : Int32))])) _
        exact retN X72 hx (t := .boolean) Bd.returns (by simp) (hb hby at_405) hr
      · show Q0 Z p0 h0 n0 _ T72.heap _
        exact ⟨rfl, N72⟩
set_option maxRecDepth 65536 in
set_option maxHeartbeats 40000000 in
theorem comes_1 {Post : Tables → Env → Array Value → State → Outcome → State → Prop} (hpost : ∀ tb e args s v u, (limb_1_1.after args s (.returned v) u = true ∧ limb_1_2.after args s (.returned v) u = true ∧ True) → FrameEnd s (.returned v) u (Jvm.fieldLocs frame_1_writes args s ++ Jvm.arrayLocs frame_1_arrays args s ++ Jvm.staticLocs frame_1_statics s) 32 192 → Post tb e args s (.returned v) u) :
    ArmFor flags0 classFile x code maxLocals ret World_1 tables_1 room_1 Calls_1 rest_1 Pre_1 Post := by
  intro l hfl _ _ p e ha hc hk s m args below hf hA hF happ hP
  obtain ⟨hcalls, hrest, hpre⟩ := hP
  obtain ⟨-, -, -, hnamed, -, -, -, hat⟩ := (Spec.applies_iff hf).mp happ
  obtain ⟨hg, hn⟩ := and_e (Cond.before_iff.mp (show (Jvm.Cond.and given_1 narrow_1).before args s = true from hpre))
  obtain ⟨g1, g2⟩ := and_e hg
  obtain ⟨g3, g4⟩ := and_e g2
  obtain ⟨g5, g6⟩ := and_e g4
  obtain ⟨g7, g8⟩ := and_e g6
  obtain ⟨w0, w1, w2, w3, rfl⟩ : ∃ w0 w1 w2 w3 : Value, args = #[w0, w1, w2, w3] := by
    have hs : args.size = 4 := by simpa [Cond.value, given_1] using g1
    obtain ⟨L⟩ := args
    match L, hs with
    | [w0, w1, w2, w3], _ => exact ⟨w0, w1, w2, w3, rfl⟩
  have hw := fun d (hd : d ∈ tables_1) => atoms_spec (ws := Jvm.Cond.code x code maxLocals ret :: tables_1) hat d (List.mem_cons_of_mem _ hd)
  have hfit : Fit s := fun {y c} hc i hi => by
    obtain ⟨ha, rfl⟩ := Array.getElem?_eq_some_iff.mp hc
    have q := List.all_eq_true.mp ((Array.all_eq_true_iff_forall_mem.mp hF) _ (Array.getElem_mem ha)) i (List.mem_range.mpr hi)
    simpa [Array.getElem?_eq_getElem hi] using q
  have W : ∀ (i : Nat) {d : Jvm.Cond}, tables_1[i]? = some d → d.before _ s = true := fun i _ h => hw _ (List.mem_of_getElem? h)
  obtain ⟨i0, ei0⟩ := is_v g3
  obtain rfl : w0 = (.int i0) := Option.some.inj ei0
  obtain ⟨i1, ei1⟩ := isL_v g5
  obtain rfl : w1 = (.long i1) := Option.some.inj ei1
  obtain ⟨i2, ei2⟩ := isL_v g7
  obtain rfl : w2 = (.long i2) := Option.some.inj ei2
  obtain ⟨i3, ei3⟩ := isL_v g8
  obtain rfl : w3 = (.long i3) := Option.some.inj ei3
  obtain ⟨n, o, h1, h2, h3, _, L, rfl, ⟨rfl, N⟩, hq⟩ := rm0 l s _ hw tables_1 i0 i1 i2 i3 s.heap s.heap.size (Nat.le_refl _) p e ha hc hk s m _ below hf ((Spec.applies_iff_loose hf).mp happ).1 ⟨rfl, State.Warmed39.refl s, rfl⟩ trivial
  refine ⟨n, _, h1, h2, h3, hpost _ _ _ _ _ _ ⟨Cond.after_iff.mpr rfl, Cond.after_iff.mpr (eq_i res_at (Term.int_eval (1)) rfl), trivial⟩ ⟨hq.1, hq.2.1, (hq.2.2.sift fun y hy => Or.inr (N y hy)).mono (by decide) (by decide)⟩⟩
theorem main_1_1 : Claimed_1_1 := comes_1 fun _ _ _ _ _ _ h hF => ⟨h.1, hF⟩
theorem main_1_2 : Claimed_1_2 := comes_1 fun _ _ _ _ _ _ h hF => ⟨h.2.1, hF⟩
end Jvm.Pilot.@@N@@
namespace Jvm.Pilot.@@N@@
open Jvm Jvm.ClassFile Sem Op Lib Jvm.Free Jvm.Stand Jvm.Pilot.@@N@@.Jvm.D
/-! MADE BY PROGRAM (witnessworld.py) out of the Statement's table words and the real class files: 14 classes; the members and pool entries that the words name. The judged class is class 1, her method 1. -/
namespace start1
open Jvm.ClassFile
def u (s : String) : CpInfo := .utf8 (stringToUtf16 s)
/-- a pool by its gaps: so many unusable entries, then the entry; so many at the end -/
def gap : Nat → List CpInfo → List CpInfo
  | 0, r => r
  | n + 1, r => .unusable :: gap n r
def poolList (es : List (Nat × CpInfo)) (last : Nat) : List CpInfo := es.foldr (fun e r => gap e.1 (e.2 :: r)) (gap last [])
def pool (es : List (Nat × CpInfo)) (last : Nat) : Array CpInfo := ⟨poolList es last⟩
def fileOf (pool : Array CpInfo) (this : Nat) (attrs : Array Attribute := #[]) (ms : Array MethodInfo := #[]) (fl : Nat := 33) (sup : Nat := 0) (ifs : Array Nat := #[]) (fds : Array FieldInfo := #[]) : ClassFile where
  minorVersion := 0
  majorVersion := 65
  constantPool := pool
  accessFlags := fl
  thisClass := this
  superClass := sup
  interfaces := ifs
  fields := fds
  methods := ms
  attributes := attrs
def plain (name : String) (sup : Option ClassId) : Class where
  name := name
  kind := .ordinary
  loader := none
  accessFlags := 33
  super := sup
  interfaces := #[]
  cf := none
  fields := #[]
  methods := #[]
  instanceTypes := #[]
  staticTypes := #[]
  resolved := #[]
  callSites := []
  init := .initialized
  statics := none
  mirror := none

def pool0 : Array CpInfo := pool [(5, u "<init>"), (0, u "()V"), (1, .class_ 10), (1, u "java/lang/Object"), (85, u "clone"), (0, u "()Ljava/lang/Object;")] 26

def k0c0 : Code := { maxStack := 0, maxLocals := 1, code := object_method_1_code, exceptionTable := #[], attributes := #[] }
def k0m0 : Method := { name := "<init>", desc := "()V", sig := { parameters := [], returnType := none }, accessFlags := 1, code := some k0c0 }
def k0m1 : Method := { name := "clone", desc := "()Ljava/lang/Object;", sig := { parameters := [], returnType := some (.object "java/lang/Object") }, accessFlags := 260, code := none }
/-- java/lang/Object -/
def k0 : Class := { plain "java/lang/Object" none with
  accessFlags := 33
  interfaces := #[]
  cf := some (fileOf pool0 8 #[] #[{ accessFlags := 1, nameIndex := 5, descriptorIndex := 6, attributes := #[] }, { accessFlags := 260, nameIndex := 96, descriptorIndex := 97, attributes := #[] }] 33 0 #[] #[])
  fields := #[]
  methods := #[k0m0, k0m1]
  instanceTypes := #[]
  staticTypes := #[]
  resolved := Array.replicate 124 none
  statics := none }

def pool1 : Array CpInfo := pool [(2, .class_ 4), (1, u "java/lang/Object"), (0, u "<init>"), (0, u "()V"), (0, .integer 2147483647), (0, .long 2147483647), (1, .class_ 11), (0, u "com/example/beliefwire/beliefwire/model/Factor"), (0, .methodref 10 13), (0, .nameAndType 5 14), (0, u "([I[I[D)V"), (0, .methodref 16 17), (0, .class_ 18), (0, .nameAndType 19 20), (0, u "com/example/beliefwire/beliefwire/io/NoisyMax"), (0, u "leak"), (0, u "(Lcom/example/beliefwire/beliefwire/model/Factor;)[D"), (0, .class_ 22), (0, u "com/example/beliefwire/beliefwire/io/NoisyMaxLeakPinLaw"), (2, u "law"), (0, u "(IJJJ)Z")] 7

def k1m0 : Method := { name := "<init>", desc := "()V", sig := { parameters := [], returnType := none }, accessFlags := 1, code := none }
def k1c1 : Code := { maxStack := 7, maxLocals := 18, code := code, exceptionTable := #[], attributes := #[] }
def k1m1 : Method := { name := "law", desc := "(IJJJ)Z", sig := { parameters := [.int, .long, .long, .long], returnType := some .boolean }, accessFlags := 9, code := some k1c1 }
/-- com/example/beliefwire/beliefwire/io/NoisyMaxLeakPinLaw -/
def k1 : Class := { plain "com/example/beliefwire/beliefwire/io/NoisyMaxLeakPinLaw" (some 0) with
  accessFlags := 49
  interfaces := #[]
  cf := some (fileOf pool1 21 #[] #[{ accessFlags := 1, nameIndex := 5, descriptorIndex := 6, attributes := #[] }, { accessFlags := 9, nameIndex := 25, descriptorIndex := 26, attributes := #[] }] 49 2 #[] #[])
  fields := #[]
  methods := #[k1m0, k1m1]
  instanceTypes := #[]
  staticTypes := #[]
  resolved := Array.replicate 34 none
  statics := none }

def pool2 : Array CpInfo := pool [(3, .methodref 4 5), (0, .class_ 6), (0, .nameAndType 7 8), (0, u "java/lang/Object"), (0, u "<init>"), (0, u "()V"), (0, .methodref 10 11), (0, .class_ 12), (0, .nameAndType 13 14), (0, u "com/example/beliefwire/beliefwire/model/Factor"), (0, u "checkScope"), (0, u "([I[I)V"), (0, .methodref 10 16), (0, .nameAndType 17 18), (0, u "tableSize"), (0, u "([I)J"), (3, .class_ 24), (1, u "java/util/Arrays"), (11, .double 9218868437227405312), (4, .methodref 42 43), (0, .class_ 44), (0, .nameAndType 45 46), (0, u "[I"), (0, u "clone"), (0, u "()Ljava/lang/Object;"), (0, .fieldref 10 48), (0, .nameAndType 49 44), (0, u "scope"), (0, .fieldref 10 51), (0, .nameAndType 52 44), (0, u "cardinalities"), (0, .methodref 54 43), (0, .class_ 55), (0, u "[D"), (0, .fieldref 10 57), (0, .nameAndType 58 55), (0, u "entries"), (5, .long 9223372036854775807), (29, .methodref 22 95), (0, .nameAndType 96 97), (0, u "sort"), (0, u "([I)V"), (1, u "MAX_SIZE"), (0, u "I"), (2, u "([I[I[D)V"), (3, u "()[I"), (4, u "entry"), (0, u "(I)D")] 35

def k2c0 : Code := { maxStack := 5, maxLocals := 5, code := prog_60_method_1_code, exceptionTable := #[], attributes := #[] }
def k2m0 : Method := { name := "<init>", desc := "([I[I[D)V", sig := { parameters := [(.array .int), (.array .int), (.array .double)], returnType := none }, accessFlags := 1, code := some k2c0 }
def k2c1 : Code := { maxStack := 6, maxLocals := 7, code := prog_60_method_3_code, exceptionTable := #[], attributes := #[] }
def k2m1 : Method := { name := "tableSize", desc := "([I)J", sig := { parameters := [(.array .int)], returnType := some .long }, accessFlags := 9, code := some k2c1 }
def k2c2 : Code := { maxStack := 1, maxLocals := 1, code := prog_60_method_5_code, exceptionTable := #[], attributes := #[] }
def k2m2 : Method := { name := "cardinalities", desc := "()[I", sig := { parameters := [], returnType := some (.array .int) }, accessFlags := 1, code := some k2c2 }
def k2c3 : Code := { maxStack := 2, maxLocals := 2, code := prog_60_method_8_code, exceptionTable := #[], attributes := #[] }
def k2m3 : Method := { name := "entry", desc := "(I)D", sig := { parameters := [.int], returnType := some .double }, accessFlags := 1, code := some k2c3 }
def k2c4 : Code := { maxStack := 4, maxLocals := 6, code := prog_60_method_11_code, exceptionTable := #[], attributes := #[] }
def k2m4 : Method := { name := "checkScope", desc := "([I[I)V", sig := { parameters := [(.array .int), (.array .int)], returnType := none }, accessFlags := 10, code := some k2c4 }
/-- com/example/beliefwire/beliefwire/model/Factor -/
def k2 : Class := { plain "com/example/beliefwire/beliefwire/model/Factor" (some 0) with
  accessFlags := 33
  interfaces := #[]
  cf := some (fileOf pool2 10 #[] #[{ accessFlags := 1, nameIndex := 7, descriptorIndex := 103, attributes := #[] }, { accessFlags := 9, nameIndex := 17, descriptorIndex := 18, attributes := #[] }, { accessFlags := 1, nameIndex := 52, descriptorIndex := 107, attributes := #[] }, { accessFlags := 1, nameIndex := 112, descriptorIndex := 113, attributes := #[] }, { accessFlags := 10, nameIndex := 13, descriptorIndex := 14, attributes := #[] }] 33 4 #[] #[{ accessFlags := 25, nameIndex := 99, descriptorIndex := 100, attributes := #[] }, { accessFlags := 18, nameIndex := 49, descriptorIndex := 44, attributes := #[] }, { accessFlags := 18, nameIndex := 52, descriptorIndex := 44, attributes := #[] }, { accessFlags := 18, nameIndex := 58, descriptorIndex := 55, attributes := #[] }])
  fields := #[{ name := "MAX_SIZE", type := .int, accessFlags := 25, slot := 0, constantValue := 0 }, { name := "scope", type := (.array .int), accessFlags := 18, slot := 0, constantValue := 0 }, { name := "cardinalities", type := (.array .int), accessFlags := 18, slot := 1, constantValue := 0 }, { name := "entries", type := (.array .double), accessFlags := 18, slot := 2, constantValue := 0 }]
  methods := #[k2m0, k2m1, k2m2, k2m3, k2m4]
  instanceTypes := #[(.array .int), (.array .int), (.array .double)]
  staticTypes := #[.int]
  resolved := Array.replicate 149 none
  statics := none }

def pool3 : Array CpInfo := pool [(1, .class_ 2), (0, u "java/lang/Cloneable"), (0, .class_ 4), (0, u "java/lang/Object")] 2

/-- java/lang/Cloneable -/
def k3 : Class := { plain "java/lang/Cloneable" (some 0) with
  accessFlags := 1537
  interfaces := #[]
  cf := some (fileOf pool3 1 #[] #[] 1537 3 #[] #[])
  fields := #[]
  methods := #[]
  instanceTypes := #[]
  staticTypes := #[]
  resolved := Array.replicate 7 none
  statics := none }

def pool4 : Array CpInfo := pool [(2, .class_ 4), (1, u "java/lang/Object"), (0, u "<init>"), (0, u "()V"), (0, .methodref 8 9), (0, .class_ 10), (0, .nameAndType 11 12), (0, u "java/util/DualPivotQuicksort"), (0, u "sort"), (0, u "([IIII)V"), (1, .class_ 16), (1, u "java/util/Arrays"), (57, .class_ 76), (1, u "java/util/Arrays$NaturalOrder"), (36, .class_ 115), (1, u "java/util/Arrays$LegacyMergeSort"), (1, u "Z"), (257, .class_ 376), (0, u "java/util/Arrays$ArrayList"), (68, u "$assertionsDisabled"), (269, u "MIN_ARRAY_SORT_GRAN"), (0, u "I"), (2, u "INSERTIONSORT_THRESHOLD"), (6, u "([I)V"), (248, .class_ 976), (0, u "java/util/Arrays$ArrayItr")] 52

def k4m0 : Method := { name := "<init>", desc := "()V", sig := { parameters := [], returnType := none }, accessFlags := 2, code := none }
def k4c1 : Code := { maxStack := 4, maxLocals := 1, code := jdk_65_method_2_code, exceptionTable := #[], attributes := #[] }
def k4m1 : Method := { name := "sort", desc := "([I)V", sig := { parameters := [(.array .int)], returnType := none }, accessFlags := 9, code := some k4c1 }
/-- java/util/Arrays -/
def k4 : Class := { plain "java/util/Arrays" (some 0) with
  accessFlags := 49
  interfaces := #[]
  cf := some (fileOf pool4 14 #[.nestMembers #[975, 375, 113, 74]] #[{ accessFlags := 2, nameIndex := 5, descriptorIndex := 6, attributes := #[] }, { accessFlags := 9, nameIndex := 11, descriptorIndex := 726, attributes := #[] }] 49 2 #[] #[{ accessFlags := 26, nameIndex := 715, descriptorIndex := 716, attributes := #[] }, { accessFlags := 26, nameIndex := 719, descriptorIndex := 716, attributes := #[] }, { accessFlags := 4120, nameIndex := 445, descriptorIndex := 117, attributes := #[] }])
  fields := #[{ name := "MIN_ARRAY_SORT_GRAN", type := .int, accessFlags := 26, slot := 0, constantValue := 0 }, { name := "INSERTIONSORT_THRESHOLD", type := .int, accessFlags := 26, slot := 1, constantValue := 0 }, { name := "$assertionsDisabled", type := .boolean, accessFlags := 4120, slot := 2, constantValue := 0 }]
  methods := #[k4m0, k4m1]
  instanceTypes := #[]
  staticTypes := #[.int, .int, .boolean]
  resolved := Array.replicate 1029 none
  statics := none }

def pool5 : Array CpInfo := pool [(1, .class_ 2), (0, u "java/util/DualPivotQuicksort"), (5, .class_ 10), (1, u "java/lang/Object"), (0, u "<init>"), (0, u "()V"), (4, .class_ 18), (0, u "java/util/DualPivotQuicksort$Sorter"), (7, .methodref 1 27), (0, .nameAndType 28 29), (0, u "sort"), (0, u "(Ljava/util/DualPivotQuicksort$Sorter;[IIII)V"), (3, u "([IIII)V"), (0, .methodref 1 35), (0, .nameAndType 36 37), (0, u "insertionSort"), (0, u "([III)V"), (30, u "I"), (4, .class_ 74), (0, u "java/util/DualPivotQuicksort$RunMerger"), (10, .class_ 86), (0, u "java/util/DualPivotQuicksort$Merger"), (127, u "MAX_MIXED_INSERTION_SORT_SIZE"), (2, u "MAX_INSERTION_SORT_SIZE"), (1, u "MIN_PARALLEL_SORT_SIZE"), (1, u "MIN_TRY_MERGE_SIZE"), (0, u "MIN_FIRST_RUN_SIZE"), (1, u "MIN_FIRST_RUNS_FACTOR"), (1, u "MAX_RUN_CAPACITY"), (1, u "MIN_RUN_COUNT"), (1, u "MIN_PARALLEL_MERGE_PARTS_SIZE"), (0, u "MIN_BYTE_COUNTING_SORT_SIZE"), (1, u "MIN_SHORT_OR_CHAR_COUNTING_SORT_SIZE"), (1, u "DELTA"), (1, u "MAX_RECURSION_DEPTH"), (1, u "NUM_BYTE_VALUES"), (1, u "MAX_BYTE_INDEX"), (0, u "NUM_CHAR_VALUES"), (0, u "NUM_SHORT_VALUES"), (0, u "MAX_SHORT_INDEX")] 86

def k5m0 : Method := { name := "<init>", desc := "()V", sig := { parameters := [], returnType := none }, accessFlags := 2, code := none }
def k5c1 : Code := { maxStack := 9, maxLocals := 7, code := jdk_2529_method_3_code, exceptionTable := #[], attributes := #[] }
def k5m1 : Method := { name := "sort", desc := "([IIII)V", sig := { parameters := [(.array .int), .int, .int, .int], returnType := none }, accessFlags := 8, code := some k5c1 }
def k5c2 : Code := { maxStack := 6, maxLocals := 21, code := jdk_2529_method_4_code, exceptionTable := #[], attributes := #[] }
def k5m2 : Method := { name := "sort", desc := "(Ljava/util/DualPivotQuicksort$Sorter;[IIII)V", sig := { parameters := [(.object "java/util/DualPivotQuicksort$Sorter"), (.array .int), .int, .int, .int], returnType := none }, accessFlags := 8, code := some k5c2 }
def k5c3 : Code := { maxStack := 4, maxLocals := 6, code := jdk_2529_method_6_code, exceptionTable := #[], attributes := #[] }
def k5m3 : Method := { name := "insertionSort", desc := "([III)V", sig := { parameters := [(.array .int), .int, .int], returnType := none }, accessFlags := 10, code := some k5c3 }
/-- java/util/DualPivotQuicksort -/
def k5 : Class := { plain "java/util/DualPivotQuicksort" (some 0) with
  accessFlags := 48
  interfaces := #[]
  cf := some (fileOf pool5 1 #[.nestMembers #[73, 85, 17]] #[{ accessFlags := 2, nameIndex := 11, descriptorIndex := 12, attributes := #[] }, { accessFlags := 8, nameIndex := 28, descriptorIndex := 33, attributes := #[] }, { accessFlags := 8, nameIndex := 28, descriptorIndex := 29, attributes := #[] }, { accessFlags := 10, nameIndex := 36, descriptorIndex := 37, attributes := #[] }] 48 8 #[] #[{ accessFlags := 26, nameIndex := 214, descriptorIndex := 68, attributes := #[] }, { accessFlags := 26, nameIndex := 217, descriptorIndex := 68, attributes := #[] }, { accessFlags := 26, nameIndex := 219, descriptorIndex := 68, attributes := #[] }, { accessFlags := 26, nameIndex := 221, descriptorIndex := 68, attributes := #[] }, { accessFlags := 26, nameIndex := 222, descriptorIndex := 68, attributes := #[] }, { accessFlags := 26, nameIndex := 224, descriptorIndex := 68, attributes := #[] }, { accessFlags := 26, nameIndex := 226, descriptorIndex := 68, attributes := #[] }, { accessFlags := 26, nameIndex := 228, descriptorIndex := 68, attributes := #[] }, { accessFlags := 26, nameIndex := 230, descriptorIndex := 68, attributes := #[] }, { accessFlags := 26, nameIndex := 231, descriptorIndex := 68, attributes := #[] }, { accessFlags := 26, nameIndex := 233, descriptorIndex := 68, attributes := #[] }, { accessFlags := 26, nameIndex := 235, descriptorIndex := 68, attributes := #[] }, { accessFlags := 26, nameIndex := 237, descriptorIndex := 68, attributes := #[] }, { accessFlags := 26, nameIndex := 239, descriptorIndex := 68, attributes := #[] }, { accessFlags := 26, nameIndex := 241, descriptorIndex := 68, attributes := #[] }, { accessFlags := 26, nameIndex := 242, descriptorIndex := 68, attributes := #[] }, { accessFlags := 26, nameIndex := 243, descriptorIndex := 68, attributes := #[] }, { accessFlags := 26, nameIndex := 244, descriptorIndex := 68, attributes := #[] }])
  fields := #[{ name := "MAX_MIXED_INSERTION_SORT_SIZE", type := .int, accessFlags := 26, slot := 0, constantValue := 0 }, { name := "MAX_INSERTION_SORT_SIZE", type := .int, accessFlags := 26, slot := 1, constantValue := 0 }, { name := "MIN_PARALLEL_SORT_SIZE", type := .int, accessFlags := 26, slot := 2, constantValue := 0 }, { name := "MIN_TRY_MERGE_SIZE", type := .int, accessFlags := 26, slot := 3, constantValue := 0 }, { name := "MIN_FIRST_RUN_SIZE", type := .int, accessFlags := 26, slot := 4, constantValue := 0 }, { name := "MIN_FIRST_RUNS_FACTOR", type := .int, accessFlags := 26, slot := 5, constantValue := 0 }, { name := "MAX_RUN_CAPACITY", type := .int, accessFlags := 26, slot := 6, constantValue := 0 }, { name := "MIN_RUN_COUNT", type := .int, accessFlags := 26, slot := 7, constantValue := 0 }, { name := "MIN_PARALLEL_MERGE_PARTS_SIZE", type := .int, accessFlags := 26, slot := 8, constantValue := 0 }, { name := "MIN_BYTE_COUNTING_SORT_SIZE", type := .int, accessFlags := 26, slot := 9, constantValue := 0 }, { name := "MIN_SHORT_OR_CHAR_COUNTING_SORT_SIZE", type := .int, accessFlags := 26, slot := 10, constantValue := 0 }, { name := "DELTA", type := .int, accessFlags := 26, slot := 11, constantValue := 0 }, { name := "MAX_RECURSION_DEPTH", type := .int, accessFlags := 26, slot := 12, constantValue := 0 }, { name := "NUM_BYTE_VALUES", type := .int, accessFlags := 26, slot := 13, constantValue := 0 }, { name := "MAX_BYTE_INDEX", type := .int, accessFlags := 26, slot := 14, constantValue := 0 }, { name := "NUM_CHAR_VALUES", type := .int, accessFlags := 26, slot := 15, constantValue := 0 }, { name := "NUM_SHORT_VALUES", type := .int, accessFlags := 26, slot := 16, constantValue := 0 }, { name := "MAX_SHORT_INDEX", type := .int, accessFlags := 26, slot := 17, constantValue := 0 }]
  methods := #[k5m0, k5m1, k5m2, k5m3]
  instanceTypes := #[]
  staticTypes := #[.int, .int, .int, .int, .int, .int, .int, .int, .int, .int, .int, .int, .int, .int, .int, .int, .int, .int]
  resolved := Array.replicate 331 none
  statics := none }

def pool6 : Array CpInfo := pool [(2, .class_ 4), (1, u "java/lang/Object"), (0, u "<init>"), (0, u "()V"), (13, .class_ 22), (1, u "com/example/beliefwire/beliefwire/io/NoisyMax"), (16, .class_ 40), (0, u "com/example/beliefwire/beliefwire/io/NoisyMax$Expansion"), (3, .methodref 45 46), (0, .class_ 47), (0, .nameAndType 48 49), (0, u "com/example/beliefwire/beliefwire/model/Factor"), (0, u "cardinalities"), (0, u "()[I"), (2, u "leak"), (0, u "(Lcom/example/beliefwire/beliefwire/model/Factor;)[D"), (0, .methodref 20 55), (0, .nameAndType 56 57), (0, u "entries"), (0, u "(Lcom/example/beliefwire/beliefwire/model/Factor;II)[D"), (15, .methodref 45 74), (0, .nameAndType 75 76), (0, u "entry"), (0, u "(I)D")] 17

def k6m0 : Method := { name := "<init>", desc := "()V", sig := { parameters := [], returnType := none }, accessFlags := 2, code := none }
def k6c1 : Code := { maxStack := 5, maxLocals := 2, code := prog_40_method_4_code, exceptionTable := #[], attributes := #[] }
def k6m1 : Method := { name := "leak", desc := "(Lcom/example/beliefwire/beliefwire/model/Factor;)[D", sig := { parameters := [(.object "com/example/beliefwire/beliefwire/model/Factor")], returnType := some (.array .double) }, accessFlags := 8, code := some k6c1 }
def k6c2 : Code := { maxStack := 5, maxLocals := 5, code := prog_40_method_6_code, exceptionTable := #[], attributes := #[] }
def k6m2 : Method := { name := "entries", desc := "(Lcom/example/beliefwire/beliefwire/model/Factor;II)[D", sig := { parameters := [(.object "com/example/beliefwire/beliefwire/model/Factor"), .int, .int], returnType := some (.array .double) }, accessFlags := 10, code := some k6c2 }
/-- com/example/beliefwire/beliefwire/io/NoisyMax -/
def k6 : Class := { plain "com/example/beliefwire/beliefwire/io/NoisyMax" (some 0) with
  accessFlags := 32
  interfaces := #[]
  cf := some (fileOf pool6 20 #[.nestMembers #[39]] #[{ accessFlags := 2, nameIndex := 5, descriptorIndex := 6, attributes := #[] }, { accessFlags := 8, nameIndex := 52, descriptorIndex := 53, attributes := #[] }, { accessFlags := 10, nameIndex := 56, descriptorIndex := 57, attributes := #[] }] 32 2 #[] #[])
  fields := #[]
  methods := #[k6m0, k6m1, k6m2]
  instanceTypes := #[]
  staticTypes := #[]
  resolved := Array.replicate 94 none
  statics := none }

def pool7 : Array CpInfo := pool [(1, u "java/io/Serializable"), (0, .class_ 1), (0, u "java/lang/Object"), (0, .class_ 3)] 3

/-- java/io/Serializable -/
def k7 : Class := { plain "java/io/Serializable" (some 0) with
  accessFlags := 1537
  interfaces := #[]
  cf := some (fileOf pool7 2 #[] #[] 1537 4 #[] #[])
  fields := #[]
  methods := #[]
  instanceTypes := #[]
  staticTypes := #[]
  resolved := Array.replicate 8 none
  statics := none }

/-- the primitive byte -/
def k8 : Class := { plain "byte" none with kind := .primitive 'B', accessFlags := 0x411 }
/-- [B -/
def k9 : Class := { plain "[B" (some 0) with kind := .array 8 .byte, interfaces := #[3, 7], accessFlags := 1041 }

/-- the primitive double -/
def k10 : Class := { plain "double" none with kind := .primitive 'D', accessFlags := 0x411 }
/-- [D -/
def k11 : Class := { plain "[D" (some 0) with kind := .array 10 .double, interfaces := #[3, 7], accessFlags := 1041 }

/-- the primitive int -/
def k12 : Class := { plain "int" none with kind := .primitive 'I', accessFlags := 0x411 }
/-- [I -/
def k13 : Class := { plain "[I" (some 0) with kind := .array 12 .int, interfaces := #[3, 7], accessFlags := 1041 }

def heap : Heap := #[]
def classes : Array Class := #[k0, k1, k2, k3, k4, k5, k6, k7, k8, k9, k10, k11, k12, k13]
def interned : List (Array UInt16 × Addr) := []
def slotsUsed : Nat := 0
def theMethod : MethodId := ⟨1, 1⟩
def args0 : Array Value := #[.int 5, .long 6, .long 7, .long 8]
def aboutOver (below : List Frame) : State where
  vm := { classes := classes, interned := interned.toArray }
  heap := heap
  slotsUsed := slotsUsed
  threads := #[{ frames := .invoking theMethod args0 :: below }]
def below0 : List Frame := [.native { method := ⟨0, 0⟩, args := #[] }]
def about1 : State := aboutOver below0
def p0 : Program := .bare "" "" ""
def e0 : Env := launch0.env 0 0 0
theorem w_frames : about1.frames = Frame.invoking theMethod args0 :: below0 := rfl
set_option maxRecDepth 65536 in
theorem w_args : argsFit about1.vm theMethod args0 = true := by decide +kernel
set_option maxRecDepth 65536 in
theorem w_heap : heapFits about1 = true := by decide +kernel
set_option maxRecDepth 65536 in
theorem w_runnable : about1.curStatus? = some .runnable := by decide +kernel
set_option maxRecDepth 65536 in
theorem w_alone : about1.alone = true := by decide +kernel
set_option maxRecDepth 65536 in
theorem w_named : about1.methodNamed? x = some theMethod := by decide +kernel
set_option maxRecDepth 65536 in
theorem w_hears : about1.hears theMethod below0 = true := by decide +kernel
set_option maxRecDepth 65536 in
theorem w_ripe : about1.ripe theMethod args0 below0 = true := by decide +kernel
theorem w_running : about1.status = .running := rfl
set_option maxRecDepth 65536 in
theorem w_room : about1.hasRoom e0.platform room_1 = true :=
  launch0.hasRoom_least _ room_1 (by decide +kernel) (by decide +kernel) (by decide +kernel) (by decide +kernel) (by decide +kernel) (by decide +kernel)
theorem allAtoms_all (ts : List Jvm.Cond) (a : Array Jvm.Value) (st : Jvm.State) : (allAtoms ts).before a st = ts.all (fun c => c.before a st) := by
  induction ts with
  | nil => rfl
  | cons c t ih =>
    show (Jvm.Cond.and c (allAtoms t)).before a st = _
    rw [Jvm.Cond.before_and, ih, List.all_cons]
def words1 : List Jvm.Cond := Jvm.Cond.code x code maxLocals ret :: tables_1
/-- a 'code' word, met by the world's own term for the bytes: nothing is compared byte by byte -/
theorem code_word {y : MethodName} {bytes : ByteArray} {mx : Nat} {rt : Option FieldType} {a : Array Value} {s : State} {m : MethodId} {meth : Method} {c : Code} (h1 : s.methodNamed? y = some m) (h2 : s.vm.method? m = some meth) (h3 : meth.code = some c) (h4 : c.code = bytes)
    (h5 : (c.maxLocals == mx && c.exceptionTable.isEmpty && decide (c.maxStack ≤ mostOperands) && decide (meth.sig.returnType = rt) && !meth.locks && decide (parseMethodDescriptor y.desc = some meth.sig)) = true) : (Jvm.Cond.code y bytes mx rt).before a s = true := by
  simp only [Bool.and_eq_true, beq_iff_eq, Bool.not_eq_true', decide_eq_true_eq] at h5
  obtain ⟨⟨⟨⟨⟨g1, g2⟩, g3⟩, g4⟩, g5⟩, g6⟩ := h5
  simp [Cond.before, Cond.holds, Cond.value, h1, h2, h3, h4, g1, g2, g3, g4, g5, g6]
def isCode : Jvm.Cond → Bool
  | .code _ _ _ _ => true
  | _ => false
theorem all_split {L : List Jvm.Cond} {P : Jvm.Cond → Bool} (h1 : L.all (fun c => isCode c || P c) = true) (h2 : ∀ c ∈ L.filter isCode, P c = true) : L.all P = true := by
  refine List.all_eq_true.mpr fun c hc => ?_
  have h := List.all_eq_true.mp h1 c hc
  rcases Bool.eq_false_or_eq_true (isCode c) with hi | hi
  · exact h2 c (List.mem_filter.mpr ⟨hc, hi⟩)
  · simpa [hi] using h
set_option maxRecDepth 65536 in
theorem w_c0 : (Jvm.Cond.code x code maxLocals ret).before args0 about1 = true := code_word (m := ⟨1, 1⟩) (meth := k1m1) (c := k1c1) (by decide +kernel) rfl rfl rfl (by decide +kernel)
set_option maxRecDepth 65536 in
theorem w_c1 : (Jvm.Cond.code ({ cls := "com/example/beliefwire/beliefwire/model/Factor", name := "<init>", desc := "([I[I[D)V" } : Jvm.MethodName) prog_60_method_1_code (5 : Nat) (Option.none : Option Jvm.ClassFile.FieldType)).before args0 about1 = true := code_word (m := ⟨2, 0⟩) (meth := k2m0) (c := k2c0) (by decide +kernel) rfl rfl rfl (by decide +kernel)
set_option maxRecDepth 65536 in
theorem w_c2 : (Jvm.Cond.code ({ cls := "java/lang/Object", name := "<init>", desc := "()V" } : Jvm.MethodName) object_method_1_code (1 : Nat) (Option.none : Option Jvm.ClassFile.FieldType)).before args0 about1 = true := code_word (m := ⟨0, 0⟩) (meth := k0m0) (c := k0c0) (by decide +kernel) rfl rfl rfl (by decide +kernel)
set_option maxRecDepth 65536 in
theorem w_c3 : (Jvm.Cond.code ({ cls := "com/example/beliefwire/beliefwire/model/Factor", name := "checkScope", desc := "([I[I)V" } : Jvm.MethodName) prog_60_method_11_code (6 : Nat) (Option.none : Option Jvm.ClassFile.FieldType)).before args0 about1 = true := code_word (m := ⟨2, 4⟩) (meth := k2m4) (c := k2c4) (by decide +kernel) rfl rfl rfl (by decide +kernel)
set_option maxRecDepth 65536 in
theorem w_c4 : (Jvm.Cond.code ({ cls := "java/util/Arrays", name := "sort", desc := "([I)V" } : Jvm.MethodName) jdk_65_method_2_code (1 : Nat) (Option.none : Option Jvm.ClassFile.FieldType)).before args0 about1 = true := code_word (m := ⟨4, 1⟩) (meth := k4m1) (c := k4c1) (by decide +kernel) rfl rfl rfl (by decide +kernel)
set_option maxRecDepth 65536 in
theorem w_c5 : (Jvm.Cond.code ({ cls := "java/util/DualPivotQuicksort", name := "sort", desc := "([IIII)V" } : Jvm.MethodName) jdk_2529_method_3_code (7 : Nat) (Option.none : Option Jvm.ClassFile.FieldType)).before args0 about1 = true := code_word (m := ⟨5, 1⟩) (meth := k5m1) (c := k5c1) (by decide +kernel) rfl rfl rfl (by decide +kernel)
set_option maxRecDepth 65536 in
theorem w_c6 : (Jvm.Cond.code ({ cls := "java/util/DualPivotQuicksort", name := "sort", desc := "(Ljava/util/DualPivotQuicksort$Sorter;[IIII)V" } : Jvm.MethodName) jdk_2529_method_4_code (21 : Nat) (Option.none : Option Jvm.ClassFile.FieldType)).before args0 about1 = true := code_word (m := ⟨5, 2⟩) (meth := k5m2) (c := k5c2) (by decide +kernel) rfl rfl rfl (by decide +kernel)
set_option maxRecDepth 65536 in
theorem w_c7 : (Jvm.Cond.code ({ cls := "java/util/DualPivotQuicksort", name := "insertionSort", desc := "([III)V" } : Jvm.MethodName) jdk_2529_method_6_code (6 : Nat) (Option.none : Option Jvm.ClassFile.FieldType)).before args0 about1 = true := code_word (m := ⟨5, 3⟩) (meth := k5m3) (c := k5c3) (by decide +kernel) rfl rfl rfl (by decide +kernel)
set_option maxRecDepth 65536 in
theorem w_c8 : (Jvm.Cond.code ({ cls := "com/example/beliefwire/beliefwire/model/Factor", name := "tableSize", desc := "([I)J" } : Jvm.MethodName) prog_60_method_3_code (7 : Nat) (Option.some Jvm.ClassFile.FieldType.long)).before args0 about1 = true := code_word (m := ⟨2, 1⟩) (meth := k2m1) (c := k2c1) (by decide +kernel) rfl rfl rfl (by decide +kernel)
set_option maxRecDepth 65536 in
theorem w_c9 : (Jvm.Cond.code ({ cls := "com/example/beliefwire/beliefwire/io/NoisyMax", name := "leak", desc := "(Lcom/example/beliefwire/beliefwire/model/Factor;)[D" } : Jvm.MethodName) prog_40_method_4_code (2 : Nat) (Option.some (Jvm.ClassFile.FieldType.array Jvm.ClassFile.FieldType.double))).before args0 about1 = true := code_word (m := ⟨6, 1⟩) (meth := k6m1) (c := k6c1) (by decide +kernel) rfl rfl rfl (by decide +kernel)
set_option maxRecDepth 65536 in
theorem w_c10 : (Jvm.Cond.code ({ cls := "com/example/beliefwire/beliefwire/model/Factor", name := "cardinalities", desc := "()[I" } : Jvm.MethodName) prog_60_method_5_code (1 : Nat) (Option.some (Jvm.ClassFile.FieldType.array Jvm.ClassFile.FieldType.int))).before args0 about1 = true := code_word (m := ⟨2, 2⟩) (meth := k2m2) (c := k2c2) (by decide +kernel) rfl rfl rfl (by decide +kernel)
set_option maxRecDepth 65536 in
theorem w_c11 : (Jvm.Cond.code ({ cls := "com/example/beliefwire/beliefwire/io/NoisyMax", name := "entries", desc := "(Lcom/example/beliefwire/beliefwire/model/Factor;II)[D" } : Jvm.MethodName) prog_40_method_6_code (5 : Nat) (Option.some (Jvm.ClassFile.FieldType.array Jvm.ClassFile.FieldType.double))).before args0 about1 = true := code_word (m := ⟨6, 2⟩) (meth := k6m2) (c := k6c2) (by decide +kernel) rfl rfl rfl (by decide +kernel)
set_option maxRecDepth 65536 in
theorem w_c12 : (Jvm.Cond.code ({ cls := "com/example/beliefwire/beliefwire/model/Factor", name := "entry", desc := "(I)D" } : Jvm.MethodName) prog_60_method_8_code (2 : Nat) (Option.some Jvm.ClassFile.FieldType.double)).before args0 about1 = true := code_word (m := ⟨2, 3⟩) (meth := k2m3) (c := k2c3) (by decide +kernel) rfl rfl rfl (by decide +kernel)
def codes1 : List Jvm.Cond := [Jvm.Cond.code x code maxLocals ret, Jvm.Cond.code ({ cls := "com/example/beliefwire/beliefwire/model/Factor", name := "<init>", desc := "([I[I[D)V" } : Jvm.MethodName) prog_60_method_1_code (5 : Nat) (Option.none : Option Jvm.ClassFile.FieldType), Jvm.Cond.code ({ cls := "java/lang/Object", name := "<init>", desc := "()V" } : Jvm.MethodName) object_method_1_code (1 : Nat) (Option.none : Option Jvm.ClassFile.FieldType), Jvm.Cond.code ({ cls := "com/example/beliefwire/beliefwire/model/Factor", name := "checkScope", desc := "([I[I)V" } : Jvm.MethodName) prog_60_method_11_code (6 : Nat) (Option.none : Option Jvm.ClassFile.FieldType), Jvm.Cond.code ({ cls := "java/util/Arrays", name := "sort", desc := "([I)V" } : Jvm.MethodName) jdk_65_method_2_code (1 : Nat) (Option.none : Option Jvm.ClassFile.FieldType), Jvm.Cond.code ({ cls := "java/util/DualPivotQuicksort", name := "sort", desc := "([IIII)V" } : Jvm.MethodName) jdk_2529_method_3_code (7 : Nat) (Option.none : Option Jvm.ClassFile.FieldType), Jvm.Cond.code ({ cls := "java/util/DualPivotQuicksort", name := "sort", desc := "(Ljava/util/DualPivotQuicksort$Sorter;[IIII)V" } : Jvm.MethodName) jdk_2529_method_4_code (21 : Nat) (Option.none : Option Jvm.ClassFile.FieldType), Jvm.Cond.code ({ cls := "java/util/DualPivotQuicksort", name := "insertionSort", desc := "([III)V" } : Jvm.MethodName) jdk_2529_method_6_code (6 : Nat) (Option.none : Option Jvm.ClassFile.FieldType), Jvm.Cond.code ({ cls := "com/example/beliefwire/beliefwire/model/Factor", name := "tableSize", desc := "([I)J" } : Jvm.MethodName) prog_60_method_3_code (7 : Nat) (Option.some Jvm.ClassFile.FieldType.long), Jvm.Cond.code ({ cls := "com/example/beliefwire/beliefwire/io/NoisyMax", name := "leak", desc := "(Lcom/example/beliefwire/beliefwire/model/Factor;)[D" } : Jvm.MethodName) prog_40_method_4_code (2 : Nat) (Option.some (Jvm.ClassFile.FieldType.array Jvm.ClassFile.FieldType.double)), Jvm.Cond.code ({ cls := "com/example/beliefwire/beliefwire/model/Factor", name := "cardinalities", desc := "()[I" } : Jvm.MethodName) prog_60_method_5_code (1 : Nat) (Option.some (Jvm.ClassFile.FieldType.array Jvm.ClassFile.FieldType.int)), Jvm.Cond.code ({ cls := "com/example/beliefwire/beliefwire/io/NoisyMax", name := "entries", desc := "(Lcom/example/beliefwire/beliefwire/model/Factor;II)[D" } : Jvm.MethodName) prog_40_method_6_code (5 : Nat) (Option.some (Jvm.ClassFile.FieldType.array Jvm.ClassFile.FieldType.double)), Jvm.Cond.code ({ cls := "com/example/beliefwire/beliefwire/model/Factor", name := "entry", desc := "(I)D" } : Jvm.MethodName) prog_60_method_8_code (2 : Nat) (Option.some Jvm.ClassFile.FieldType.double)]
set_option maxRecDepth 65536 in
theorem codes_eq : words1.filter isCode = codes1 := rfl
theorem w_codes : ∀ c ∈ words1.filter isCode, c.before args0 about1 = true := by
  rw [codes_eq]
  intro c hc
  simp only [codes1, List.mem_cons, List.not_mem_nil, or_false] at hc
  rcases hc with rfl | rfl | rfl | rfl | rfl | rfl | rfl | rfl | rfl | rfl | rfl | rfl | rfl
  · exact w_c0
  · exact w_c1
  · exact w_c2
  · exact w_c3
  · exact w_c4
  · exact w_c5
  · exact w_c6
  · exact w_c7
  · exact w_c8
  · exact w_c9
  · exact w_c10
  · exact w_c11
  · exact w_c12
set_option maxRecDepth 65536 in
theorem w_t1 : (words1.take 24).all (fun c => isCode c || c.before args0 about1) = true := by decide +kernel
set_option maxRecDepth 65536 in
theorem w_t2 : ((words1.drop 24).take 24).all (fun c => isCode c || c.before args0 about1) = true := by decide +kernel
set_option maxRecDepth 65536 in
theorem w_t3 : (((words1.drop 24).drop 24).take 24).all (fun c => isCode c || c.before args0 about1) = true := by decide +kernel
set_option maxRecDepth 65536 in
theorem w_t4 : (((words1.drop 24).drop 24).drop 24).all (fun c => isCode c || c.before args0 about1) = true := by decide +kernel
theorem w_tables : (allAtoms (Jvm.Cond.code x code maxLocals ret :: tables_1)).before args0 about1 = true := by
  rw [allAtoms_all]
  show words1.all (fun c => c.before args0 about1) = true
  refine all_split ?_ w_codes
  rw [← List.take_append_drop 24 words1, List.all_append, w_t1, ← List.take_append_drop 24 (words1.drop 24), List.all_append, w_t2, ← List.take_append_drop 24 ((words1.drop 24).drop 24), List.all_append, w_t3, w_t4]
  rfl
set_option maxRecDepth 65536 in
theorem w_case : (Jvm.Cond.and given_1 narrow_1).before args0 about1 = true := by decide +kernel
theorem w_applies : (headSpec (Jvm.Cond.code x code maxLocals ret :: tables_1) room_1).applies x e0.platform about1 = true :=
  (Spec.applies_iff w_frames).mpr ⟨w_running, w_runnable, w_alone, w_named, w_hears, w_ripe, w_room, w_tables⟩
theorem atStart : AtStart classFile x code maxLocals ret World_1 tables_1 room_1 Calls_1 rest_1 Pre_1 launch0 p0 e0 about1 theMethod args0 below0 :=
  ⟨lists_1, trivial, launch0.admits_env _ _ _, launch0.least_env, fairChoices_fair.cas, fairChoices_fair.clock, w_frames, w_args, w_heap, w_applies, trivial, trivial, w_case⟩
end start1
theorem witness_1 : WitnessClaimed_1 := ⟨start1.p0, start1.e0, start1.about1, start1.theMethod, start1.args0, start1.below0, start1.atStart⟩
end Jvm.Pilot.@@N@@
