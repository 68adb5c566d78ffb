import JvmDerived
import JvmDerived.Pilot.@@N@@Statement
import JvmDerived.Pilot.@@N@@Code
set_option linter.unusedVariables false
set_option linter.unusedSimpArgs false
namespace Jvm.RoadKit
open Sem ClassFile Op Lib Jvm.Stand Jvm.Free Jvm.LawKit
section New
variable {p : Program} {l : Launch} {e : Env} {R : Room} {s : State} {m : MethodId} {args : Array Value} {below : List Frame} {meth : Method} {c : Code} {T : State} {locs : List Loc} {cells slots : Nat}
theorem retI (X : Stand p l e R s m args below meth c T locs cells slots) (hx : p.tables.exec = Jvm.exec) {pc : Nat} {Ls : Array Slot} {z : Int32} {rest : List Value} (hret : meth.sig.returnType = some .int) (hd : decode c.code pc = .ok (.ireturn, 1)) {fs : List Frame}
    (hl : ∀ (f : JFrame) (acts : List Action), f.method = m → f.locked = none → f.entered = [] → (doReturn e (T.setTop f) acts (some (.int z))).1 = T.setFrames fs) : Steps p.tables e below (T.setTop (mkF m pc Ls (.int z :: rest))) (T.setFrames fs) := by
  have hm' : T.vm.method? m = some meth := X.method'
  have hn : narrow .int (.int z) = .int z := rfl
  show Steps p.tables e below (T.setTop { method := m, pc := pc, locals := Ls, stack := _ :: rest, locked := none }) _
  jvm_step X.here [X.here.top, hx, hd, hm', hret, hn]
  first | (intro acts; rw [hl _ acts rfl rfl rfl]) | rw [hl _ _ rfl rfl rfl]
  exact Steps.refl _
end New
end Jvm.RoadKit
namespace Jvm.Pilot.@@N@@
open Jvm Jvm.ClassFile Sem Op Lib Jvm.Free Jvm.Stand Jvm.LawKit Jvm.RoadKit Bundle Jvm.Pilot.@@N@@.Jvm.D
theorem own_nin0 {a : Addr} : a ∉ ([] : List Addr) := by simp
theorem own_nin1 {a b : Addr} (h : a ≠ b) : a ∉ [b] := by simpa using h
theorem own_nin2 {a b c : Addr} (h : a ≠ b) (h' : a ≠ c) : a ∉ [b, c] := by simp [h, h']
theorem own_nin3 {a b c d : Addr} (h : a ≠ b) (h' : a ≠ c) (h'' : a ≠ d) : a ∉ [b, c, d] := by simp [h, h', h'']
theorem own_in0 {P : Addr → Prop} : ∀ x ∈ ([] : List Addr), P x := by simp
theorem own_in1 {P : Addr → Prop} {a : Addr} (h : P a) : ∀ x ∈ [a], P x := by simpa using h
theorem own_in2 {P : Addr → Prop} {a b : Addr} (h : P a) (h' : P b) : ∀ x ∈ [a, b], P x := by simp [h, h']
theorem own_in3 {P : Addr → Prop} {a b c : Addr} (h : P a) (h' : P b) (h'' : P c) : ∀ x ∈ [a, b, c], P x := by simp [h, h', h'']
def own_sel (m b x y : Int32) : Int32 := if (m &&& b) = 0 then y else x
def own_key (l c : Int32) : Int64 := ((l.toInt64 <<< ((32 : Int32) &&& 0x3f).toInt64) + (c.toInt64 - (-2147483648 : Int64)))
def own_after (l1 c1 l2 c2 : Int32) : Int32 := if l2 < l1 then 1 else if l1 = l2 then (if c2 < c1 then 1 else 0) else 0
theorem own_key_int (l c : Int32) : (own_key l c).toInt = l.toInt * 4294967296 + (c.toInt + 2147483648) := by
  have h1 := c_lshl l.toInt64 32 32 (by decide)
  have h2 := c_lsub c.toInt64 (-2147483648)
  have h3 := c_ladd (l.toInt64 <<< ((32 : Int32) &&& 0x3f).toInt64) (c.toInt64 - (-2147483648 : Int64))
  have h4 := c_i2l l
  have h5 := c_i2l c
  have h6 := rng32 l
  have h7 := rng32 c
  have h8 := rng64 (l.toInt64 <<< ((32 : Int32) &&& 0x3f).toInt64)
  have h9 := rng64 (c.toInt64 - (-2147483648 : Int64))
  have h10 := rng64 (own_key l c)
  have h11 : (-2147483648 : Int64).toInt = -2147483648 := by decide
  unfold own_key at *
  omega
theorem own_cmp (l1 c1 l2 c2 : Int32) : own_after l1 c1 l2 c2 = if own_key l2 c2 < own_key l1 c1 then 1 else 0 := by
  have h1 := own_key_int l1 c1
  have h2 := own_key_int l2 c2
  have r1 := rng32 c1
  have r2 := rng32 c2
  have a1 : own_key l2 c2 < own_key l1 c1 ↔ (own_key l2 c2).toInt < (own_key l1 c1).toInt := Int64.lt_iff_toInt_lt
  have a2 : l2 < l1 ↔ l2.toInt < l1.toInt := Int32.lt_iff_toInt_lt
  have a3 : c2 < c1 ↔ c2.toInt < c1.toInt := Int32.lt_iff_toInt_lt
  have a4 : l1 = l2 ↔ l1.toInt = l2.toInt := Int32.toInt_inj.symm
  unfold own_after
  by_cases b1 : l2 < l1
  · rw [if_pos b1, if_pos (a1.mpr (by have := a2.mp b1; omega))]
  · rw [if_neg b1]
    by_cases b2 : l1 = l2
    · rw [if_pos b2]
      by_cases b3 : c2 < c1
      · rw [if_pos b3, if_pos (a1.mpr (by have := a4.mp b2; have := a3.mp b3; omega))]
      · rw [if_neg b3, if_neg (fun q => b3 (a3.mpr (by have := a1.mp q; have := a4.mp b2; omega)))]
    · rw [if_neg b2, if_neg (fun q => by
        have q1 := a1.mp q
        have q2 : ¬ l2.toInt < l1.toInt := fun z => b1 (a2.mpr z)
        have q3 : ¬ l1.toInt = l2.toInt := fun z => b2 (a4.mpr z)
        omega)]
theorem d2_0 : decode jdk_30_method_1_code 0 = .ok (.aload_n 0, 1) := by decide +kernel
theorem d2_1 : decode jdk_30_method_1_code 1 = .ok (.invokespecial 1, 3) := by decide +kernel
theorem d2_4 : decode jdk_30_method_1_code 4 = .ok (.return_, 1) := by decide +kernel
theorem pn_0 : plainName "java/lang/Record" = true := by first | (simp [plainName, overriddenIn]; done) | decide +kernel
theorem ef_rm2 (m : MethodId) (r0 : Addr) : entryFrame m #[(.ref r0)] 1 = mkF m 0 #[.val (.ref r0)] [] := by first | (simp [entryFrame, mkF, argsToLocals, Value.category]; done) | rfl
def Q2 (Z : State) (r0 : Addr) (h0 : Heap) (n0 : Nat) (v : Option Value) (h : Heap) (L : List Loc) : Prop := v = none ∧ Fr n0 L ∧ h = h0
set_option maxRecDepth 65536 in
set_option maxHeartbeats 40000000 in
theorem rm2 (l : Launch) (Z : State) (a0 : Array Value) (hw : ∀ d ∈ tables_1, d.before a0 Z = true) (ws : List Jvm.Cond) (r0 : Addr) (h0 : Heap) (n0 : Nat) (Z0 : n0 ≤ h0.size) :
    MetFree l (⟨"java/lang/Record", "<init>", "()V"⟩ : MethodName) (head1 (Jvm.Cond.code (⟨"java/lang/Record", "<init>", "()V"⟩ : MethodName) jdk_30_method_1_code 1 none :: ws) ({ frames := 1, cells := 0, slots := 0, locals := 12 } : Room)) (fun a U => a = #[(.ref r0)] ∧ Z.Warmed39 U.vm ∧ U.heap = h0) (fun _ _ _ _ _ => True) (fun _ U o U' => ∃ v L, o = .returned v ∧ Q2 Z r0 h0 n0 v U'.heap L ∧ FrameEnd U o U' L ({ frames := 1, cells := 0, slots := 0, locals := 12 } : Room).cells ({ frames := 1, cells := 0, slots := 0, locals := 12 } : Room).slots) := by
  refine MetFree.of_bodySF (plainFor_of_name pn_0) hisR ?_
  intro p e s m args below meth c s₁ Bd hml0 hP hK
  obtain ⟨rfl, hZ, hh⟩ := hP
  have hx := Bd.exec
  have hby := Bd.bytes
  have hml : c.maxLocals = 1 := hml0
  have hown : s.vm.findClass "java/lang/Record" = some m.cls := findClass_of_methodNamed Bd.named
  have hnm := (name_of_methodNamed Bd.named Bd.method).1
  have X0 : Stand p l e ({ frames := 1, cells := 0, slots := 0, locals := 12 } : Room) s m #[(.ref r0)] below meth c s₁ [] 0 0 := Stand.of_body Bd
  have e0 : s₁.heap = h0 := by rw [← hh, Bd.state]; rfl
  have N0 := Fr.nil n0
  have pre0 : ∀ t, Steps p.tables e below (s₁.setTop (mkF m 0 #[.val (.ref r0)] [])) t → Steps p.tables e below (s₁.setTop (entryFrame m #[(.ref r0)] 1)) t := fun t k => castTop (ef_rm2 m r0) k
  obtain ⟨T1, X1, e1, st1⟩ := initO X0 hx hZ hown (hw _ (List.mem_of_getElem? (i := 11) rfl)) (hw _ (List.mem_of_getElem? (i := 12) rfl)) (hw _ (List.mem_of_getElem? (i := 13) rfl)) e0 (g := (mkF m 1 #[.val (.ref r0)] [(.ref r0)])) rfl (by rw [hml]; rfl) rfl (hb hby d2_1) (by decide) (W := 0) (by show 2 * 0 + _ ≤ _; exact Nat.le_of_eq rfl) (by decide)
  obtain ⟨fs, hr, hrun, hended, hW, hsame⟩ := X1.leave (v := none) (fun _ => rfl)
  refine ⟨_, _, pre0 _ ?_, hrun, hended, _, _, rfl, ?_, ⟨_, rfl⟩, hW, hsame.mono (by decide) (by decide)⟩
  · show Steps p.tables e below (s₁.setTop (mkF m 0 #[.val (.ref r0)] [])) _
    refine XS.aloadN X0.here hx rfl (hb hby d2_0) rfl rfl ?_
    show Steps p.tables e below (s₁.setTop (mkF m 1 #[.val (.ref r0)] [(.ref r0)])) _
    refine st1 _ ?_
    show Steps p.tables e below (T1.setTop (mkF m 4 #[.val (.ref r0)] [])) _
    exact X1.returnOut hx Bd.returns (hb hby d2_4) hr
  · show Q2 Z r0 h0 n0 _ T1.heap _
    rw [e1]
    exact ⟨rfl, N0, rfl⟩
theorem d1_0 : decode prog_50_method_1_code 0 = .ok (.aload_n 0, 1) := by decide +kernel
theorem d1_1 : decode prog_50_method_1_code 1 = .ok (.invokespecial 1, 3) := by decide +kernel
theorem pd_0 : parseMethodDescriptor "()V" = some ⟨[], none⟩ := by decide +kernel
theorem d1_4 : decode prog_50_method_1_code 4 = .ok (.aload_n 0, 1) := by decide +kernel
theorem d1_5 : decode prog_50_method_1_code 5 = .ok (.iload_n 1, 1) := by decide +kernel
theorem d1_6 : decode prog_50_method_1_code 6 = .ok (.putfield 7, 3) := by decide +kernel
theorem d1_9 : decode prog_50_method_1_code 9 = .ok (.aload_n 0, 1) := by decide +kernel
theorem d1_10 : decode prog_50_method_1_code 10 = .ok (.iload_n 2, 1) := by decide +kernel
theorem d1_11 : decode prog_50_method_1_code 11 = .ok (.putfield 13, 3) := by decide +kernel
theorem d1_14 : decode prog_50_method_1_code 14 = .ok (.return_, 1) := by decide +kernel
theorem pn_1 : plainName "com/example/beliefwire/beliefwire/io/Tokenizer$Place" = true := by first | (simp [plainName, overriddenIn]; done) | decide +kernel
theorem ef_rm1 (m : MethodId) (r0 : Addr) (p1 : Int32) (p2 : Int32) : entryFrame m #[(.ref r0), (.int p1), (.int p2)] 3 = mkF m 0 #[.val (.ref r0), .val (.int p1), .val (.int p2)] [] := by first | (simp [entryFrame, mkF, argsToLocals, Value.category]; done) | rfl
def Q1 (Z : State) (r0 : Addr) (p1 : Int32) (p2 : Int32) (h0 : Heap) (n0 : Nat) (v : Option Value) (h : Heap) (L : List Loc) : Prop := v = none ∧ Fr n0 L ∧ Keep h0 h [r0] ∧ Exa Z h r0 "com/example/beliefwire/beliefwire/io/Tokenizer$Place" ∧ Fld Z h r0 "com/example/beliefwire/beliefwire/io/Tokenizer$Place" "line" "I" (.int p1) ∧ Fld Z h r0 "com/example/beliefwire/beliefwire/io/Tokenizer$Place" "column" "I" (.int p2)
set_option maxRecDepth 65536 in
set_option maxHeartbeats 40000000 in
theorem rm1 (l : Launch) (Z : State) (a0 : Array Value) (hw : ∀ d ∈ tables_1, d.before a0 Z = true) (ws : List Jvm.Cond) (r0 : Addr) (p1 : Int32) (p2 : Int32) (u_line_r0 : Value) (u_column_r0 : Value) (h0 : Heap) (n0 : Nat) (Z0 : n0 ≤ h0.size) (E_r0 : Exa Z h0 r0 "com/example/beliefwire/beliefwire/io/Tokenizer$Place") (F_line_r0 : Fld Z h0 r0 "com/example/beliefwire/beliefwire/io/Tokenizer$Place" "line" "I" u_line_r0) (g_r0 : n0 ≤ r0) (F_column_r0 : Fld Z h0 r0 "com/example/beliefwire/beliefwire/io/Tokenizer$Place" "column" "I" u_column_r0) :
    MetFree l (⟨"com/example/beliefwire/beliefwire/io/Tokenizer$Place", "<init>", "(II)V"⟩ : MethodName) (head1 (Jvm.Cond.code (⟨"com/example/beliefwire/beliefwire/io/Tokenizer$Place", "<init>", "(II)V"⟩ : MethodName) prog_50_method_1_code 3 none :: ws) ({ frames := 2, cells := 0, slots := 0, locals := 24 } : Room)) (fun a U => a = #[(.ref r0), (.int p1), (.int p2)] ∧ Z.Warmed39 U.vm ∧ U.heap = h0) (fun _ _ _ _ _ => True) (fun _ U o U' => ∃ v L, o = .returned v ∧ Q1 Z r0 p1 p2 h0 n0 v U'.heap L ∧ FrameEnd U o U' L ({ frames := 2, cells := 0, slots := 0, locals := 24 } : Room).cells ({ frames := 2, cells := 0, slots := 0, locals := 24 } : Room).slots) := by
  refine MetFree.of_bodySF (plainFor_of_name pn_1) hisR ?_
  intro p e s m args below meth c s₁ Bd hml0 hP hK
  obtain ⟨rfl, hZ, hh⟩ := hP
  have hx := Bd.exec
  have hby := Bd.bytes
  have hml : c.maxLocals = 3 := hml0
  have hown : s.vm.findClass "com/example/beliefwire/beliefwire/io/Tokenizer$Place" = some m.cls := findClass_of_methodNamed Bd.named
  have hnm := (name_of_methodNamed Bd.named Bd.method).1
  have X0 : Stand p l e ({ frames := 2, cells := 0, slots := 0, locals := 24 } : Room) s m #[(.ref r0), (.int p1), (.int p2)] below meth c s₁ [] 0 0 := Stand.of_body Bd
  have e0 : s₁.heap = h0 := by rw [← hh, Bd.state]; rfl
  have N0 := Fr.nil n0
  have pre0 : ∀ t, Steps p.tables e below (s₁.setTop (mkF m 0 #[.val (.ref r0), .val (.int p1), .val (.int p2)] [])) t → Steps p.tables e below (s₁.setTop (entryFrame m #[(.ref r0), (.int p1), (.int p2)] 3)) t := fun t k => castTop (ef_rm1 m r0 p1 p2) k
  obtain ⟨_, _, ⟨T1, L1, k1, n1⟩, -, X1, ⟨Lc1, hQ1, l1, y1, z1⟩, st1⟩ := X0.specialBack hx (y := (⟨"java/lang/Record", "<init>", "()V"⟩ : MethodName)) rfl hown (mvT hZ (hw _ (List.mem_of_getElem? (i := 6) rfl))) (mvT hZ (hw _ (List.mem_of_getElem? (i := 7) rfl))) (mvT hZ (hw _ (List.mem_of_getElem? (i := 10) rfl))) (by decide) (backOf (W := 0) (rm2 l Z a0 hw [] r0 h0 n0 Z0) hZ (hw _ (List.mem_of_getElem? (i := 10) rfl)) (hw _ (List.mem_of_getElem? (i := 9) rfl)) (by decide) (by decide)) (g := (mkF m 1 #[.val (.ref r0), .val (.int p1), .val (.int p2)] [(.ref r0)])) rfl (by rw [hml]; rfl) (Steps.refl _) (a := r0) (argsL := []) (rest := []) (lenOf pd_0 rfl) rfl (by show 2 * 0 + _ ≤ _; exact Nat.le_of_eq rfl) (hb hby d1_1) (fun _ _ => ⟨rfl, e0, (by decide : 0 + 0 ≤ _), (by decide : 0 + 0 ≤ _)⟩)
  dsimp only [Pt.U, Pt.locs, Pt.cells, Pt.slots] at X1 l1 y1 z1 st1 hQ1
  subst l1 y1 z1
  obtain ⟨rfl, N1q, eq1⟩ := hQ1
  have N1 := Fr.app N0 N1q
  obtain ⟨T2, h2, X2, e2, W2, st2⟩ := putF X1 hx hZ hown (host := "") (Or.inl (hw _ (List.mem_of_getElem? (i := 14) rfl))) Via.refl eq1 F_line_r0 E_r0 (Or.inr ⟨(hw _ (List.mem_of_getElem? (i := 15) rfl)), rfl, hnm⟩) (hw _ (List.mem_of_getElem? (i := 1) rfl)) (ty := .int) (by decide) rfl rfl (g := (mkF m 6 #[.val (.ref r0), .val (.int p1), .val (.int p2)] [(.int p1), (.ref r0)])) rfl rfl (hb hby d1_6)
  have Fw2 := F_line_r0.same W2
  have N2 := Fr.snoc X2 N1 g_r0
  have E_r0_3 := (E_r0.wr W2)
  have F_column_r0_4 := (F_column_r0.other W2 (Or.inr (slot_ne (Or.inr (hw _ (List.mem_of_getElem? (i := 17) rfl))) (Or.inr (hw _ (List.mem_of_getElem? (i := 15) rfl))) (by decide) (t := .int) (t' := .int) (by decide) (by decide))))
  obtain ⟨T5, h5, X5, e5, W5, st5⟩ := putF X2 hx hZ hown (host := "") (Or.inl (hw _ (List.mem_of_getElem? (i := 16) rfl))) Via.refl e2 F_column_r0_4 E_r0_3 (Or.inr ⟨(hw _ (List.mem_of_getElem? (i := 17) rfl)), rfl, hnm⟩) (hw _ (List.mem_of_getElem? (i := 1) rfl)) (ty := .int) (by decide) rfl rfl (g := (mkF m 11 #[.val (.ref r0), .val (.int p1), .val (.int p2)] [(.int p2), (.ref r0)])) rfl rfl (hb hby d1_11)
  have Fw5 := F_column_r0_4.same W5
  have N5 := Fr.snoc X5 N2 g_r0
  have KK6 : Keep h0 h5 [r0] := (((Keep.refl h0 [r0]).wr W2 (Or.inl (List.mem_of_getElem? (i := 0) rfl))).wr W5 (Or.inl (List.mem_of_getElem? (i := 0) rfl)))
  have E_r0_7 := (E_r0_3.wr W5)
  have Fw2_8 := (Fw2.other W5 (Or.inr (slot_ne (Or.inr (hw _ (List.mem_of_getElem? (i := 15) rfl))) (Or.inr (hw _ (List.mem_of_getElem? (i := 17) rfl))) (by decide) (t := .int) (t' := .int) (by decide) (by decide))))
  obtain ⟨fs, hr, hrun, hended, hW, hsame⟩ := X5.leave (v := none) (fun _ => rfl)
  refine ⟨_, _, pre0 _ ?_, hrun, hended, _, _, rfl, ?_, ⟨_, rfl⟩, hW, hsame.mono (by decide) (by decide)⟩
  · show Steps p.tables e below (s₁.setTop (mkF m 0 #[.val (.ref r0), .val (.int p1), .val (.int p2)] [])) _
    refine XS.aloadN X0.here hx rfl (hb hby d1_0) rfl rfl ?_
    show Steps p.tables e below (s₁.setTop (mkF m 1 #[.val (.ref r0), .val (.int p1), .val (.int p2)] [(.ref r0)])) _
    refine st1.trans ?_
    show Steps p.tables e below (T1.setTop (mkF m 4 #[.val (.ref r0), .val (.int p1), .val (.int p2)] [])) _
    refine XS.aloadN X1.here hx rfl (hb hby d1_4) rfl rfl ?_
    show Steps p.tables e below (T1.setTop (mkF m 5 #[.val (.ref r0), .val (.int p1), .val (.int p2)] [(.ref r0)])) _
    refine XS.iloadN X1.here hx rfl (hb hby d1_5) rfl ?_
    show Steps p.tables e below (T1.setTop (mkF m 6 #[.val (.ref r0), .val (.int p1), .val (.int p2)] [(.int p1), (.ref r0)])) _
    refine st2 _ ?_
    show Steps p.tables e below (T2.setTop (mkF m 9 #[.val (.ref r0), .val (.int p1), .val (.int p2)] [])) _
    refine XS.aloadN X2.here hx rfl (hb hby d1_9) rfl rfl ?_
    show Steps p.tables e below (T2.setTop (mkF m 10 #[.val (.ref r0), .val (.int p1), .val (.int p2)] [(.ref r0)])) _
    refine XS.iloadN X2.here hx rfl (hb hby d1_10) rfl ?_
    show Steps p.tables e below (T2.setTop (mkF m 11 #[.val (.ref r0), .val (.int p1), .val (.int p2)] [(.int p2), (.ref r0)])) _
    refine st5 _ ?_
    show Steps p.tables e below (T5.setTop (mkF m 14 #[.val (.ref r0), .val (.int p1), .val (.int p2)] [])) _
    exact X5.returnOut hx Bd.returns (hb hby d1_14) hr
  · show Q1 Z r0 p1 p2 h0 n0 _ T5.heap _
    rw [e5]
    exact ⟨rfl, N5, KK6, E_r0_7, Fw2_8, Fw5⟩
theorem d4_0 : decode method_3_code 0 = .ok (.iload_n 0, 1) := by decide +kernel
theorem d4_1 : decode method_3_code 1 = .ok (.i2l, 1) := by decide +kernel
theorem d4_2 : decode method_3_code 2 = .ok (.bipush 32, 2) := by decide +kernel
theorem d4_4 : decode method_3_code 4 = .ok (.lshl, 1) := by decide +kernel
theorem d4_5 : decode method_3_code 5 = .ok (.iload_n 1, 1) := by decide +kernel
theorem d4_6 : decode method_3_code 6 = .ok (.i2l, 1) := by decide +kernel
theorem d4_7 : decode method_3_code 7 = .ok (.ldc2_w 24, 3) := by decide +kernel
theorem d4_10 : decode method_3_code 10 = .ok (.lsub, 1) := by decide +kernel
theorem d4_11 : decode method_3_code 11 = .ok (.ladd, 1) := by decide +kernel
theorem d4_12 : decode method_3_code 12 = .ok (.lreturn, 1) := by decide +kernel
theorem pn_2 : plainName "com/example/beliefwire/beliefwire/io/PlaceIsAfterPinLaw" = true := by first | (simp [plainName, overriddenIn]; done) | decide +kernel
theorem ef_rm4 (m : MethodId) (p0 : Int32) (p1 : Int32) : entryFrame m #[(.int p0), (.int p1)] 2 = mkF m 0 #[.val (.int p0), .val (.int p1)] [] := by first | (simp [entryFrame, mkF, argsToLocals, Value.category]; done) | rfl
def Q4 (Z : State) (p0 : Int32) (p1 : Int32) (h0 : Heap) (n0 : Nat) (v : Option Value) (h : Heap) (L : List Loc) : Prop := v = some (.long (own_key p0 p1)) ∧ Fr n0 L ∧ h = h0
set_option maxRecDepth 65536 in
set_option maxHeartbeats 40000000 in
theorem rm4 (l : Launch) (Z : State) (a0 : Array Value) (hw : ∀ d ∈ tables_1, d.before a0 Z = true) (ws : List Jvm.Cond) (p0 : Int32) (p1 : Int32) (h0 : Heap) (n0 : Nat) (Z0 : n0 ≤ h0.size) :
    MetFree l (⟨"com/example/beliefwire/beliefwire/io/PlaceIsAfterPinLaw", "key", "(II)J"⟩ : MethodName) (head1 (Jvm.Cond.code (⟨"com/example/beliefwire/beliefwire/io/PlaceIsAfterPinLaw", "key", "(II)J"⟩ : MethodName) method_3_code 2 (some .long) :: ws) ({ frames := 0, cells := 0, slots := 0, locals := 0 } : Room)) (fun a U => a = #[(.int p0), (.int p1)] ∧ Z.Warmed39 U.vm ∧ U.heap = h0) (fun _ _ _ _ _ => True) (fun _ U o U' => ∃ v L, o = .returned v ∧ Q4 Z p0 p1 h0 n0 v U'.heap L ∧ FrameEnd U o U' L ({ frames := 0, cells := 0, slots := 0, locals := 0 } : Room).cells ({ frames := 0, cells := 0, slots := 0, locals := 0 } : Room).slots) := by
  refine MetFree.of_bodySF (plainFor_of_name pn_2) hisR ?_
  intro p e s m args below meth c s₁ Bd hml0 hP hK
  obtain ⟨rfl, hZ, hh⟩ := hP
  have hx := Bd.exec
  have hby := Bd.bytes
  have hml : c.maxLocals = 2 := hml0
  have hown : s.vm.findClass "com/example/beliefwire/beliefwire/io/PlaceIsAfterPinLaw" = some m.cls := findClass_of_methodNamed Bd.named
  have hnm := (name_of_methodNamed Bd.named Bd.method).1
  have X0 : Stand p l e ({ frames := 0, cells := 0, slots := 0, locals := 0 } : Room) s m #[(.int p0), (.int p1)] below meth c s₁ [] 0 0 := Stand.of_body Bd
  have e0 : s₁.heap = h0 := by rw [← hh, Bd.state]; rfl
  have N0 := Fr.nil n0
  have pre0 : ∀ t, Steps p.tables e below (s₁.setTop (mkF m 0 #[.val (.int p0), .val (.int p1)] [])) t → Steps p.tables e below (s₁.setTop (entryFrame m #[(.int p0), (.int p1)] 2)) t := fun t k => castTop (ef_rm4 m p0 p1) k
  obtain ⟨fs, hr, hrun, hended, hW, hsame⟩ := X0.leave (v := some (.long (own_key p0 p1))) (fun h => by rw [Bd.returns] at h; cases h)
  refine ⟨_, _, pre0 _ ?_, hrun, hended, _, _, rfl, ?_, ⟨_, rfl⟩, hW, hsame.mono (by decide) (by decide)⟩
  · show Steps p.tables e below (s₁.setTop (mkF m 0 #[.val (.int p0), .val (.int p1)] [])) _
    refine XS.iloadN X0.here hx rfl (hb hby d4_0) rfl ?_
    show Steps p.tables e below (s₁.setTop (mkF m 1 #[.val (.int p0), .val (.int p1)] [(.int p0)])) _
    refine XS.i2l X0.here hx rfl (hb hby d4_1) rfl ?_
    show Steps p.tables e below (s₁.setTop (mkF m 2 #[.val (.int p0), .val (.int p1)] [(.long (p0.toInt64))])) _
    refine XS.bipush X0.here hx rfl (hb hby d4_2) ?_
    show Steps p.tables e below (s₁.setTop (mkF m 4 #[.val (.int p0), .val (.int p1)] [(.int (32 : Int32)), (.long (p0.toInt64))])) _
    refine XS.lshl X0.here hx rfl (hb hby d4_4) rfl ?_
    show Steps p.tables e below (s₁.setTop (mkF m 5 #[.val (.int p0), .val (.int p1)] [(.long ((p0.toInt64) <<< ((32 : Int32) &&& 0x3f).toInt64))])) _
    refine XS.iloadN X0.here hx rfl (hb hby d4_5) rfl ?_
    show Steps p.tables e below (s₁.setTop (mkF m 6 #[.val (.int p0), .val (.int p1)] [(.int p1), (.long ((p0.toInt64) <<< ((32 : Int32) &&& 0x3f).toInt64))])) _
    refine XS.i2l X0.here hx rfl (hb hby d4_6) rfl ?_
    show Steps p.tables e below (s₁.setTop (mkF m 7 #[.val (.int p0), .val (.int p1)] [(.long (p1.toInt64)), (.long ((p0.toInt64) <<< ((32 : Int32) &&& 0x3f).toInt64))])) _
    refine X0.ldc2Long hx hown (mvT hZ (hw _ (List.mem_of_getElem? (i := 22) rfl))) (g := (mkF m 7 #[.val (.int p0), .val (.int p1)] [(.long (p1.toInt64)), (.long ((p0.toInt64) <<< ((32 : Int32) &&& 0x3f).toInt64))])) rfl (hb hby d4_7) _ ?_
    show Steps p.tables e below (s₁.setTop (mkF m 10 #[.val (.int p0), .val (.int p1)] [(.long (-2147483648 : Int64)), (.long (p1.toInt64)), (.long ((p0.toInt64) <<< ((32 : Int32) &&& 0x3f).toInt64))])) _
    refine XS.lsub X0.here hx rfl (hb hby d4_10) rfl ?_
    show Steps p.tables e below (s₁.setTop (mkF m 11 #[.val (.int p0), .val (.int p1)] [(.long ((p1.toInt64) - (-2147483648 : Int64))), (.long ((p0.toInt64) <<< ((32 : Int32) &&& 0x3f).toInt64))])) _
    refine XS.ladd X0.here hx rfl (hb hby d4_11) rfl ?_
    show Steps p.tables e below (s₁.setTop (mkF m 12 #[.val (.int p0), .val (.int p1)] [(.long (own_key p0 p1))])) _
    jvm_step X0.here [X0.here.top, hx, (hb hby d4_12), X0.method', Bd.returns, narrow]
    first | (intro acts; rw [hr _ acts rfl rfl rfl]) | rw [hr _ _ rfl rfl rfl]
    exact Steps.refl _
  · show Q4 Z p0 p1 h0 n0 _ s₁.heap _
    rw [e0]
    exact ⟨rfl, N0, rfl⟩
theorem d5_0 : decode prog_50_method_2_code 0 = .ok (.aload_n 0, 1) := by decide +kernel
theorem d5_1 : decode prog_50_method_2_code 1 = .ok (.getfield 7, 3) := by decide +kernel
theorem d5_4 : decode prog_50_method_2_code 4 = .ok (.aload_n 1, 1) := by decide +kernel
theorem d5_5 : decode prog_50_method_2_code 5 = .ok (.getfield 7, 3) := by decide +kernel
theorem d5_8 : decode prog_50_method_2_code 8 = .ok (.if_icmp .gt 25, 3) := by decide +kernel
theorem d5_33 : decode prog_50_method_2_code 33 = .ok (.iconst 1, 1) := by decide +kernel
theorem d5_34 : decode prog_50_method_2_code 34 = .ok (.goto 4, 3) := by decide +kernel
theorem d5_38 : decode prog_50_method_2_code 38 = .ok (.ireturn, 1) := by decide +kernel
theorem ef_rm5a (m : MethodId) (r0 : Addr) (r1 : Addr) : entryFrame m #[(.ref r0), (.ref r1)] 2 = mkF m 0 #[.val (.ref r0), .val (.ref r1)] [] := by first | (simp [entryFrame, mkF, argsToLocals, Value.category]; done) | rfl
def Q5 (Z : State) (w_line_r0 : Int32) (w_column_r0 : Int32) (w_line_r1 : Int32) (w_column_r1 : Int32) (h0 : Heap) (n0 : Nat) (v : Option Value) (h : Heap) (L : List Loc) : Prop := v = some (.int (own_after w_line_r0 w_column_r0 w_line_r1 w_column_r1)) ∧ Fr n0 L ∧ h = h0
set_option maxRecDepth 65536 in
set_option maxHeartbeats 40000000 in
theorem rm5a (l : Launch) (Z : State) (a0 : Array Value) (hw : ∀ d ∈ tables_1, d.before a0 Z = true) (ws : List Jvm.Cond) (r0 : Addr) (r1 : Addr) (w_line_r0 : Int32) (w_line_r1 : Int32) (w_column_r0 : Int32) (w_column_r1 : Int32) (h0 : Heap) (n0 : Nat) (Z0 : n0 ≤ h0.size) (F_line_r0 : Fld Z h0 r0 "com/example/beliefwire/beliefwire/io/Tokenizer$Place" "line" "I" (.int w_line_r0)) (F_line_r1 : Fld Z h0 r1 "com/example/beliefwire/beliefwire/io/Tokenizer$Place" "line" "I" (.int w_line_r1)) (hc8 : w_line_r1 < w_line_r0) :
    MetFree l (⟨"com/example/beliefwire/beliefwire/io/Tokenizer$Place", "isAfter", "(Lcom/example/beliefwire/beliefwire/io/Tokenizer$Place;)Z"⟩ : MethodName) (head1 (Jvm.Cond.code (⟨"com/example/beliefwire/beliefwire/io/Tokenizer$Place", "isAfter", "(Lcom/example/beliefwire/beliefwire/io/Tokenizer$Place;)Z"⟩ : MethodName) prog_50_method_2_code 2 (some .boolean) :: ws) ({ frames := 0, cells := 0, slots := 0, locals := 0 } : Room)) (fun a U => a = #[(.ref r0), (.ref r1)] ∧ Z.Warmed39 U.vm ∧ U.heap = h0) (fun _ _ _ _ _ => True) (fun _ U o U' => ∃ v L, o = .returned v ∧ Q5 Z w_line_r0 w_column_r0 w_line_r1 w_column_r1 h0 n0 v U'.heap L ∧ FrameEnd U o U' L ({ frames := 0, cells := 0, slots := 0, locals := 0 } : Room).cells ({ frames := 0, cells := 0, slots := 0, locals := 0 } : Room).slots) := by
  refine MetFree.of_bodySF (plainFor_of_name pn_1) hisR ?_
  intro p e s m args below meth c s₁ Bd hml0 hP hK
  obtain ⟨rfl, hZ, hh⟩ := hP
  have hx := Bd.exec
  have hby := Bd.bytes
  have hml : c.maxLocals = 2 := hml0
  have hown : s.vm.findClass "com/example/beliefwire/beliefwire/io/Tokenizer$Place" = some m.cls := findClass_of_methodNamed Bd.named
  have hnm := (name_of_methodNamed Bd.named Bd.method).1
  have X0 : Stand p l e ({ frames := 0, cells := 0, slots := 0, locals := 0 } : Room) s m #[(.ref r0), (.ref r1)] below meth c s₁ [] 0 0 := Stand.of_body Bd
  have e0 : s₁.heap = h0 := by rw [← hh, Bd.state]; rfl
  have N0 := Fr.nil n0
  have pre0 : ∀ t, Steps p.tables e below (s₁.setTop (mkF m 0 #[.val (.ref r0), .val (.ref r1)] [])) t → Steps p.tables e below (s₁.setTop (entryFrame m #[(.ref r0), (.ref r1)] 2)) t := fun t k => castTop (ef_rm5a m r0 r1) k
  obtain ⟨T1, X1, e1, st1⟩ := getF X0 hx hZ hown (host := "") (Or.inl (hw _ (List.mem_of_getElem? (i := 14) rfl))) Via.refl e0 F_line_r0 (g := (mkF m 1 #[.val (.ref r0), .val (.ref r1)] [(.ref r0)])) rfl rfl (hb hby d5_1)
  obtain ⟨T2, X2, e2, st2⟩ := getF X1 hx hZ hown (host := "") (Or.inl (hw _ (List.mem_of_getElem? (i := 14) rfl))) Via.refl e1 F_line_r1 (g := (mkF m 5 #[.val (.ref r0), .val (.ref r1)] [(.ref r1), (.int w_line_r0)])) rfl rfl (hb hby d5_5)
  obtain ⟨fs, hr, hrun, hended, hW, hsame⟩ := X2.leave (v := some (.int (1 : Int32))) (fun h => by rw [Bd.returns] at h; cases h)
  refine ⟨_, _, pre0 _ ?_, hrun, hended, _, _, rfl, ?_, ⟨_, rfl⟩, hW, hsame.mono (by decide) (by decide)⟩
  · show Steps p.tables e below (s₁.setTop (mkF m 0 #[.val (.ref r0), .val (.ref r1)] [])) _
    refine XS.aloadN X0.here hx rfl (hb hby d5_0) rfl rfl ?_
    show Steps p.tables e below (s₁.setTop (mkF m 1 #[.val (.ref r0), .val (.ref r1)] [(.ref r0)])) _
    refine st1 _ ?_
    show Steps p.tables e below (T1.setTop (mkF m 4 #[.val (.ref r0), .val (.ref r1)] [(.int w_line_r0)])) _
    refine XS.aloadN X1.here hx rfl (hb hby d5_4) rfl rfl ?_
    show Steps p.tables e below (T1.setTop (mkF m 5 #[.val (.ref r0), .val (.ref r1)] [(.ref r1), (.int w_line_r0)])) _
    refine st2 _ ?_
    show Steps p.tables e below (T2.setTop (mkF m 8 #[.val (.ref r0), .val (.ref r1)] [(.int w_line_r1), (.int w_line_r0)])) _
    refine XS.icmpYes X2.here hx rfl (pc0 := 8) (pc' := 33) rfl (hb hby d5_8) rfl (tlt hc8).2.2.1 (by decide) (by decide) ?_
    show Steps p.tables e below (T2.setTop (mkF m 33 #[.val (.ref r0), .val (.ref r1)] [])) _
    refine XS.iconst X2.here hx rfl (hb hby d5_33) ?_
    show Steps p.tables e below (T2.setTop (mkF m 34 #[.val (.ref r0), .val (.ref r1)] [(.int (1 : Int32))])) _
    refine XS.goto X2.here hx rfl (pc0 := 34) (pc' := 38) rfl (hb hby d5_34) (by decide) (by decide) ?_
    show Steps p.tables e below (T2.setTop (mkF m 38 #[.val (.ref r0), .val (.ref r1)] [(.int (1 : Int32))])) _
    exact retN X2 hx (t := .boolean) Bd.returns (by simp) (hb hby d5_38) hr
  · show Q5 Z w_line_r0 w_column_r0 w_line_r1 w_column_r1 h0 n0 _ T2.heap _
    rw [e2]
    exact ⟨by simp [own_after, hc8], N0, rfl⟩
theorem d5_11 : decode prog_50_method_2_code 11 = .ok (.aload_n 0, 1) := by decide +kernel
theorem d5_12 : decode prog_50_method_2_code 12 = .ok (.getfield 7, 3) := by decide +kernel
theorem d5_15 : decode prog_50_method_2_code 15 = .ok (.aload_n 1, 1) := by decide +kernel
theorem d5_16 : decode prog_50_method_2_code 16 = .ok (.getfield 7, 3) := by decide +kernel
theorem d5_19 : decode prog_50_method_2_code 19 = .ok (.if_icmp .ne 18, 3) := by decide +kernel
theorem d5_37 : decode prog_50_method_2_code 37 = .ok (.iconst 0, 1) := by decide +kernel
theorem ef_rm5b (m : MethodId) (r0 : Addr) (r1 : Addr) : entryFrame m #[(.ref r0), (.ref r1)] 2 = mkF m 0 #[.val (.ref r0), .val (.ref r1)] [] := by first | (simp [entryFrame, mkF, argsToLocals, Value.category]; done) | rfl
set_option maxRecDepth 65536 in
set_option maxHeartbeats 40000000 in
theorem rm5b (l : Launch) (Z : State) (a0 : Array Value) (hw : ∀ d ∈ tables_1, d.before a0 Z = true) (ws : List Jvm.Cond) (r0 : Addr) (r1 : Addr) (w_line_r0 : Int32) (w_line_r1 : Int32) (w_column_r0 : Int32) (w_column_r1 : Int32) (h0 : Heap) (n0 : Nat) (Z0 : n0 ≤ h0.size) (F_line_r0 : Fld Z h0 r0 "com/example/beliefwire/beliefwire/io/Tokenizer$Place" "line" "I" (.int w_line_r0)) (F_line_r1 : Fld Z h0 r1 "com/example/beliefwire/beliefwire/io/Tokenizer$Place" "line" "I" (.int w_line_r1)) (hc8 : ¬ (w_line_r1 < w_line_r0)) (hc19 : ¬ (w_line_r0 = w_line_r1)) :
    MetFree l (⟨"com/example/beliefwire/beliefwire/io/Tokenizer$Place", "isAfter", "(Lcom/example/beliefwire/beliefwire/io/Tokenizer$Place;)Z"⟩ : MethodName) (head1 (Jvm.Cond.code (⟨"com/example/beliefwire/beliefwire/io/Tokenizer$Place", "isAfter", "(Lcom/example/beliefwire/beliefwire/io/Tokenizer$Place;)Z"⟩ : MethodName) prog_50_method_2_code 2 (some .boolean) :: ws) ({ frames := 0, cells := 0, slots := 0, locals := 0 } : Room)) (fun a U => a = #[(.ref r0), (.ref r1)] ∧ Z.Warmed39 U.vm ∧ U.heap = h0) (fun _ _ _ _ _ => True) (fun _ U o U' => ∃ v L, o = .returned v ∧ Q5 Z w_line_r0 w_column_r0 w_line_r1 w_column_r1 h0 n0 v U'.heap L ∧ FrameEnd U o U' L ({ frames := 0, cells := 0, slots := 0, locals := 0 } : Room).cells ({ frames := 0, cells := 0, slots := 0, locals := 0 } : Room).slots) := by
  refine MetFree.of_bodySF (plainFor_of_name pn_1) hisR ?_
  intro p e s m args below meth c s₁ Bd hml0 hP hK
  obtain ⟨rfl, hZ, hh⟩ := hP
  have hx := Bd.exec
  have hby := Bd.bytes
  have hml : c.maxLocals = 2 := hml0
  have hown : s.vm.findClass "com/example/beliefwire/beliefwire/io/Tokenizer$Place" = some m.cls := findClass_of_methodNamed Bd.named
  have hnm := (name_of_methodNamed Bd.named Bd.method).1
  have X0 : Stand p l e ({ frames := 0, cells := 0, slots := 0, locals := 0 } : Room) s m #[(.ref r0), (.ref r1)] below meth c s₁ [] 0 0 := Stand.of_body Bd
  have e0 : s₁.heap = h0 := by rw [← hh, Bd.state]; rfl
  have N0 := Fr.nil n0
  have pre0 : ∀ t, Steps p.tables e below (s₁.setTop (mkF m 0 #[.val (.ref r0), .val (.ref r1)] [])) t → Steps p.tables e below (s₁.setTop (entryFrame m #[(.ref r0), (.ref r1)] 2)) t := fun t k => castTop (ef_rm5b m r0 r1) k
  obtain ⟨T1, X1, e1, st1⟩ := getF X0 hx hZ hown (host := "") (Or.inl (hw _ (List.mem_of_getElem? (i := 14) rfl))) Via.refl e0 F_line_r0 (g := (mkF m 1 #[.val (.ref r0), .val (.ref r1)] [(.ref r0)])) rfl rfl (hb hby d5_1)
  obtain ⟨T2, X2, e2, st2⟩ := getF X1 hx hZ hown (host := "") (Or.inl (hw _ (List.mem_of_getElem? (i := 14) rfl))) Via.refl e1 F_line_r1 (g := (mkF m 5 #[.val (.ref r0), .val (.ref r1)] [(.ref r1), (.int w_line_r0)])) rfl rfl (hb hby d5_5)
  obtain ⟨T3, X3, e3, st3⟩ := getF X2 hx hZ hown (host := "") (Or.inl (hw _ (List.mem_of_getElem? (i := 14) rfl))) Via.refl e2 F_line_r0 (g := (mkF m 12 #[.val (.ref r0), .val (.ref r1)] [(.ref r0)])) rfl rfl (hb hby d5_12)
  obtain ⟨T4, X4, e4, st4⟩ := getF X3 hx hZ hown (host := "") (Or.inl (hw _ (List.mem_of_getElem? (i := 14) rfl))) Via.refl e3 F_line_r1 (g := (mkF m 16 #[.val (.ref r0), .val (.ref r1)] [(.ref r1), (.int w_line_r0)])) rfl rfl (hb hby d5_16)
  obtain ⟨fs, hr, hrun, hended, hW, hsame⟩ := X4.leave (v := some (.int (0 : Int32))) (fun h => by rw [Bd.returns] at h; cases h)
  refine ⟨_, _, pre0 _ ?_, hrun, hended, _, _, rfl, ?_, ⟨_, rfl⟩, hW, hsame.mono (by decide) (by decide)⟩
  · show Steps p.tables e below (s₁.setTop (mkF m 0 #[.val (.ref r0), .val (.ref r1)] [])) _
    refine XS.aloadN X0.here hx rfl (hb hby d5_0) rfl rfl ?_
    show Steps p.tables e below (s₁.setTop (mkF m 1 #[.val (.ref r0), .val (.ref r1)] [(.ref r0)])) _
    refine st1 _ ?_
    show Steps p.tables e below (T1.setTop (mkF m 4 #[.val (.ref r0), .val (.ref r1)] [(.int w_line_r0)])) _
    refine XS.aloadN X1.here hx rfl (hb hby d5_4) rfl rfl ?_
    show Steps p.tables e below (T1.setTop (mkF m 5 #[.val (.ref r0), .val (.ref r1)] [(.ref r1), (.int w_line_r0)])) _
    refine st2 _ ?_
    show Steps p.tables e below (T2.setTop (mkF m 8 #[.val (.ref r0), .val (.ref r1)] [(.int w_line_r1), (.int w_line_r0)])) _
    refine XS.icmpNo X2.here hx rfl (hb hby d5_8) rfl (flt hc8).2.2.1 ?_
    show Steps p.tables e below (T2.setTop (mkF m 11 #[.val (.ref r0), .val (.ref r1)] [])) _
    refine XS.aloadN X2.here hx rfl (hb hby d5_11) rfl rfl ?_
    show Steps p.tables e below (T2.setTop (mkF m 12 #[.val (.ref r0), .val (.ref r1)] [(.ref r0)])) _
    refine st3 _ ?_
    show Steps p.tables e below (T3.setTop (mkF m 15 #[.val (.ref r0), .val (.ref r1)] [(.int w_line_r0)])) _
    refine XS.aloadN X3.here hx rfl (hb hby d5_15) rfl rfl ?_
    show Steps p.tables e below (T3.setTop (mkF m 16 #[.val (.ref r0), .val (.ref r1)] [(.ref r1), (.int w_line_r0)])) _
    refine st4 _ ?_
    show Steps p.tables e below (T4.setTop (mkF m 19 #[.val (.ref r0), .val (.ref r1)] [(.int w_line_r1), (.int w_line_r0)])) _
    refine XS.icmpYes X4.here hx rfl (pc0 := 19) (pc' := 37) rfl (hb hby d5_19) rfl (feq hc19).2 (by decide) (by decide) ?_
    show Steps p.tables e below (T4.setTop (mkF m 37 #[.val (.ref r0), .val (.ref r1)] [])) _
    refine XS.iconst X4.here hx rfl (hb hby d5_37) ?_
    show Steps p.tables e below (T4.setTop (mkF m 38 #[.val (.ref r0), .val (.ref r1)] [(.int (0 : Int32))])) _
    exact retN X4 hx (t := .boolean) Bd.returns (by simp) (hb hby d5_38) hr
  · show Q5 Z w_line_r0 w_column_r0 w_line_r1 w_column_r1 h0 n0 _ T4.heap _
    rw [e4]
    exact ⟨by simp [own_after, hc8, hc19], N0, rfl⟩
theorem d5_22 : decode prog_50_method_2_code 22 = .ok (.aload_n 0, 1) := by decide +kernel
theorem d5_23 : decode prog_50_method_2_code 23 = .ok (.getfield 13, 3) := by decide +kernel
theorem d5_26 : decode prog_50_method_2_code 26 = .ok (.aload_n 1, 1) := by decide +kernel
theorem d5_27 : decode prog_50_method_2_code 27 = .ok (.getfield 13, 3) := by decide +kernel
theorem d5_30 : decode prog_50_method_2_code 30 = .ok (.if_icmp .le 7, 3) := by decide +kernel
theorem ef_rm5c (m : MethodId) (r0 : Addr) (r1 : Addr) : entryFrame m #[(.ref r0), (.ref r1)] 2 = mkF m 0 #[.val (.ref r0), .val (.ref r1)] [] := by first | (simp [entryFrame, mkF, argsToLocals, Value.category]; done) | rfl
set_option maxRecDepth 65536 in
set_option maxHeartbeats 40000000 in
theorem rm5c (l : Launch) (Z : State) (a0 : Array Value) (hw : ∀ d ∈ tables_1, d.before a0 Z = true) (ws : List Jvm.Cond) (r0 : Addr) (r1 : Addr) (w_line_r0 : Int32) (w_line_r1 : Int32) (w_column_r0 : Int32) (w_column_r1 : Int32) (h0 : Heap) (n0 : Nat) (Z0 : n0 ≤ h0.size) (F_line_r0 : Fld Z h0 r0 "com/example/beliefwire/beliefwire/io/Tokenizer$Place" "line" "I" (.int w_line_r0)) (F_line_r1 : Fld Z h0 r1 "com/example/beliefwire/beliefwire/io/Tokenizer$Place" "line" "I" (.int w_line_r1)) (hc8 : ¬ (w_line_r1 < w_line_r0)) (hc19 : w_line_r0 = w_line_r1) (F_column_r0 : Fld Z h0 r0 "com/example/beliefwire/beliefwire/io/Tokenizer$Place" "column" "I" (.int w_column_r0)) (F_column_r1 : Fld Z h0 r1 "com/example/beliefwire/beliefwire/io/Tokenizer$Place" "column" "I" (.int w_column_r1)) (hc30 : ¬ (w_column_r1 < w_column_r0)) :
    MetFree l (⟨"com/example/beliefwire/beliefwire/io/Tokenizer$Place", "isAfter", "(Lcom/example/beliefwire/beliefwire/io/Tokenizer$Place;)Z"⟩ : MethodName) (head1 (Jvm.Cond.code (⟨"com/example/beliefwire/beliefwire/io/Tokenizer$Place", "isAfter", "(Lcom/example/beliefwire/beliefwire/io/Tokenizer$Place;)Z"⟩ : MethodName) prog_50_method_2_code 2 (some .boolean) :: ws) ({ frames := 0, cells := 0, slots := 0, locals := 0 } : Room)) (fun a U => a = #[(.ref r0), (.ref r1)] ∧ Z.Warmed39 U.vm ∧ U.heap = h0) (fun _ _ _ _ _ => True) (fun _ U o U' => ∃ v L, o = .returned v ∧ Q5 Z w_line_r0 w_column_r0 w_line_r1 w_column_r1 h0 n0 v U'.heap L ∧ FrameEnd U o U' L ({ frames := 0, cells := 0, slots := 0, locals := 0 } : Room).cells ({ frames := 0, cells := 0, slots := 0, locals := 0 } : Room).slots) := by
  refine MetFree.of_bodySF (plainFor_of_name pn_1) hisR ?_
  intro p e s m args below meth c s₁ Bd hml0 hP hK
  obtain ⟨rfl, hZ, hh⟩ := hP
  have hx := Bd.exec
  have hby := Bd.bytes
  have hml : c.maxLocals = 2 := hml0
  have hown : s.vm.findClass "com/example/beliefwire/beliefwire/io/Tokenizer$Place" = some m.cls := findClass_of_methodNamed Bd.named
  have hnm := (name_of_methodNamed Bd.named Bd.method).1
  have X0 : Stand p l e ({ frames := 0, cells := 0, slots := 0, locals := 0 } : Room) s m #[(.ref r0), (.ref r1)] below meth c s₁ [] 0 0 := Stand.of_body Bd
  have e0 : s₁.heap = h0 := by rw [← hh, Bd.state]; rfl
  have N0 := Fr.nil n0
  have pre0 : ∀ t, Steps p.tables e below (s₁.setTop (mkF m 0 #[.val (.ref r0), .val (.ref r1)] [])) t → Steps p.tables e below (s₁.setTop (entryFrame m #[(.ref r0), (.ref r1)] 2)) t := fun t k => castTop (ef_rm5c m r0 r1) k
  obtain ⟨T1, X1, e1, st1⟩ := getF X0 hx hZ hown (host := "") (Or.inl (hw _ (List.mem_of_getElem? (i := 14) rfl))) Via.refl e0 F_line_r0 (g := (mkF m 1 #[.val (.ref r0), .val (.ref r1)] [(.ref r0)])) rfl rfl (hb hby d5_1)
  obtain ⟨T2, X2, e2, st2⟩ := getF X1 hx hZ hown (host := "") (Or.inl (hw _ (List.mem_of_getElem? (i := 14) rfl))) Via.refl e1 F_line_r1 (g := (mkF m 5 #[.val (.ref r0), .val (.ref r1)] [(.ref r1), (.int w_line_r0)])) rfl rfl (hb hby d5_5)
  obtain ⟨T3, X3, e3, st3⟩ := getF X2 hx hZ hown (host := "") (Or.inl (hw _ (List.mem_of_getElem? (i := 14) rfl))) Via.refl e2 F_line_r0 (g := (mkF m 12 #[.val (.ref r0), .val (.ref r1)] [(.ref r0)])) rfl rfl (hb hby d5_12)
  obtain ⟨T4, X4, e4, st4⟩ := getF X3 hx hZ hown (host := "") (Or.inl (hw _ (List.mem_of_getElem? (i := 14) rfl))) Via.refl e3 F_line_r1 (g := (mkF m 16 #[.val (.ref r0), .val (.ref r1)] [(.ref r1), (.int w_line_r0)])) rfl rfl (hb hby d5_16)
  obtain ⟨T5, X5, e5, st5⟩ := getF X4 hx hZ hown (host := "") (Or.inl (hw _ (List.mem_of_getElem? (i := 16) rfl))) Via.refl e4 F_column_r0 (g := (mkF m 23 #[.val (.ref r0), .val (.ref r1)] [(.ref r0)])) rfl rfl (hb hby d5_23)
  obtain ⟨T6, X6, e6, st6⟩ := getF X5 hx hZ hown (host := "") (Or.inl (hw _ (List.mem_of_getElem? (i := 16) rfl))) Via.refl e5 F_column_r1 (g := (mkF m 27 #[.val (.ref r0), .val (.ref r1)] [(.ref r1), (.int w_column_r0)])) rfl rfl (hb hby d5_27)
  obtain ⟨fs, hr, hrun, hended, hW, hsame⟩ := X6.leave (v := some (.int (0 : Int32))) (fun h => by rw [Bd.returns] at h; cases h)
  refine ⟨_, _, pre0 _ ?_, hrun, hended, _, _, rfl, ?_, ⟨_, rfl⟩, hW, hsame.mono (by decide) (by decide)⟩
  · show Steps p.tables e below (s₁.setTop (mkF m 0 #[.val (.ref r0), .val (.ref r1)] [])) _
    refine XS.aloadN X0.here hx rfl (hb hby d5_0) rfl rfl ?_
    show Steps p.tables e below (s₁.setTop (mkF m 1 #[.val (.ref r0), .val (.ref r1)] [(.ref r0)])) _
    refine st1 _ ?_
    show Steps p.tables e below (T1.setTop (mkF m 4 #[.val (.ref r0), .val (.ref r1)] [(.int w_line_r0)])) _
    refine XS.aloadN X1.here hx rfl (hb hby d5_4) rfl rfl ?_
    show Steps p.tables e below (T1.setTop (mkF m 5 #[.val (.ref r0), .val (.ref r1)] [(.ref r1), (.int w_line_r0)])) _
    refine st2 _ ?_
    show Steps p.tables e below (T2.setTop (mkF m 8 #[.val (.ref r0), .val (.ref r1)] [(.int w_line_r1), (.int w_line_r0)])) _
    refine XS.icmpNo X2.here hx rfl (hb hby d5_8) rfl (flt hc8).2.2.1 ?_
    show Steps p.tables e below (T2.setTop (mkF m 11 #[.val (.ref r0), .val (.ref r1)] [])) _
    refine XS.aloadN X2.here hx rfl (hb hby d5_11) rfl rfl ?_
    show Steps p.tables e below (T2.setTop (mkF m 12 #[.val (.ref r0), .val (.ref r1)] [(.ref r0)])) _
    refine st3 _ ?_
    show Steps p.tables e below (T3.setTop (mkF m 15 #[.val (.ref r0), .val (.ref r1)] [(.int w_line_r0)])) _
    refine XS.aloadN X3.here hx rfl (hb hby d5_15) rfl rfl ?_
    show Steps p.tables e below (T3.setTop (mkF m 16 #[.val (.ref r0), .val (.ref r1)] [(.ref r1), (.int w_line_r0)])) _
    refine st4 _ ?_
    show Steps p.tables e below (T4.setTop (mkF m 19 #[.val (.ref r0), .val (.ref r1)] [(.int w_line_r1), (.int w_line_r0)])) _
    refine XS.icmpNo X4.here hx rfl (hb hby d5_19) rfl (teq hc19).2 ?_
    show Steps p.tables e below (T4.setTop (mkF m 22 #[.val (.ref r0), .val (.ref r1)] [])) _
    refine XS.aloadN X4.here hx rfl (hb hby d5_22) rfl rfl ?_
    show Steps p.tables e below (T4.setTop (mkF m 23 #[.val (.ref r0), .val (.ref r1)] [(.ref r0)])) _
    refine st5 _ ?_
    show Steps p.tables e below (T5.setTop (mkF m 26 #[.val (.ref r0), .val (.ref r1)] [(.int w_column_r0)])) _
    refine XS.aloadN X5.here hx rfl (hb hby d5_26) rfl rfl ?_
    show Steps p.tables e below (T5.setTop (mkF m 27 #[.val (.ref r0), .val (.ref r1)] [(.ref r1), (.int w_column_r0)])) _
    refine st6 _ ?_
    show Steps p.tables e below (T6.setTop (mkF m 30 #[.val (.ref r0), .val (.ref r1)] [(.int w_column_r1), (.int w_column_r0)])) _
    refine XS.icmpYes X6.here hx rfl (pc0 := 30) (pc' := 37) rfl (hb hby d5_30) rfl (flt hc30).2.2.2 (by decide) (by decide) ?_
    show Steps p.tables e below (T6.setTop (mkF m 37 #[.val (.ref r0), .val (.ref r1)] [])) _
    refine XS.iconst X6.here hx rfl (hb hby d5_37) ?_
    show Steps p.tables e below (T6.setTop (mkF m 38 #[.val (.ref r0), .val (.ref r1)] [(.int (0 : Int32))])) _
    exact retN X6 hx (t := .boolean) Bd.returns (by simp) (hb hby d5_38) hr
  · show Q5 Z w_line_r0 w_column_r0 w_line_r1 w_column_r1 h0 n0 _ T6.heap _
    rw [e6]
    exact ⟨by simp [own_after, hc8, hc19, hc30], N0, rfl⟩
theorem ef_rm5d (m : MethodId) (r0 : Addr) (r1 : Addr) : entryFrame m #[(.ref r0), (.ref r1)] 2 = mkF m 0 #[.val (.ref r0), .val (.ref r1)] [] := by first | (simp [entryFrame, mkF, argsToLocals, Value.category]; done) | rfl
set_option maxRecDepth 65536 in
set_option maxHeartbeats 40000000 in
theorem rm5d (l : Launch) (Z : State) (a0 : Array Value) (hw : ∀ d ∈ tables_1, d.before a0 Z = true) (ws : List Jvm.Cond) (r0 : Addr) (r1 : Addr) (w_line_r0 : Int32) (w_line_r1 : Int32) (w_column_r0 : Int32) (w_column_r1 : Int32) (h0 : Heap) (n0 : Nat) (Z0 : n0 ≤ h0.size) (F_line_r0 : Fld Z h0 r0 "com/example/beliefwire/beliefwire/io/Tokenizer$Place" "line" "I" (.int w_line_r0)) (F_line_r1 : Fld Z h0 r1 "com/example/beliefwire/beliefwire/io/Tokenizer$Place" "line" "I" (.int w_line_r1)) (hc8 : ¬ (w_line_r1 < w_line_r0)) (hc19 : w_line_r0 = w_line_r1) (F_column_r0 : Fld Z h0 r0 "com/example/beliefwire/beliefwire/io/Tokenizer$Place" "column" "I" (.int w_column_r0)) (F_column_r1 : Fld Z h0 r1 "com/example/beliefwire/beliefwire/io/Tokenizer$Place" "column" "I" (.int w_column_r1)) (hc30 : w_column_r1 < w_column_r0) :
    MetFree l (⟨"com/example/beliefwire/beliefwire/io/Tokenizer$Place", "isAfter", "(Lcom/example/beliefwire/beliefwire/io/Tokenizer$Place;)Z"⟩ : MethodName) (head1 (Jvm.Cond.code (⟨"com/example/beliefwire/beliefwire/io/Tokenizer$Place", "isAfter", "(Lcom/example/beliefwire/beliefwire/io/Tokenizer$Place;)Z"⟩ : MethodName) prog_50_method_2_code 2 (some .boolean) :: ws) ({ frames := 0, cells := 0, slots := 0, locals := 0 } : Room)) (fun a U => a = #[(.ref r0), (.ref r1)] ∧ Z.Warmed39 U.vm ∧ U.heap = h0) (fun _ _ _ _ _ => True) (fun _ U o U' => ∃ v L, o = .returned v ∧ Q5 Z w_line_r0 w_column_r0 w_line_r1 w_column_r1 h0 n0 v U'.heap L ∧ FrameEnd U o U' L ({ frames := 0, cells := 0, slots := 0, locals := 0 } : Room).cells ({ frames := 0, cells := 0, slots := 0, locals := 0 } : Room).slots) := by
  refine MetFree.of_bodySF (plainFor_of_name pn_1) hisR ?_
  intro p e s m args below meth c s₁ Bd hml0 hP hK
  obtain ⟨rfl, hZ, hh⟩ := hP
  have hx := Bd.exec
  have hby := Bd.bytes
  have hml : c.maxLocals = 2 := hml0
  have hown : s.vm.findClass "com/example/beliefwire/beliefwire/io/Tokenizer$Place" = some m.cls := findClass_of_methodNamed Bd.named
  have hnm := (name_of_methodNamed Bd.named Bd.method).1
  have X0 : Stand p l e ({ frames := 0, cells := 0, slots := 0, locals := 0 } : Room) s m #[(.ref r0), (.ref r1)] below meth c s₁ [] 0 0 := Stand.of_body Bd
  have e0 : s₁.heap = h0 := by rw [← hh, Bd.state]; rfl
  have N0 := Fr.nil n0
  have pre0 : ∀ t, Steps p.tables e below (s₁.setTop (mkF m 0 #[.val (.ref r0), .val (.ref r1)] [])) t → Steps p.tables e below (s₁.setTop (entryFrame m #[(.ref r0), (.ref r1)] 2)) t := fun t k => castTop (ef_rm5d m r0 r1) k
  obtain ⟨T1, X1, e1, st1⟩ := getF X0 hx hZ hown (host := "") (Or.inl (hw _ (List.mem_of_getElem? (i := 14) rfl))) Via.refl e0 F_line_r0 (g := (mkF m 1 #[.val (.ref r0), .val (.ref r1)] [(.ref r0)])) rfl rfl (hb hby d5_1)
  obtain ⟨T2, X2, e2, st2⟩ := getF X1 hx hZ hown (host := "") (Or.inl (hw _ (List.mem_of_getElem? (i := 14) rfl))) Via.refl e1 F_line_r1 (g := (mkF m 5 #[.val (.ref r0), .val (.ref r1)] [(.ref r1), (.int w_line_r0)])) rfl rfl (hb hby d5_5)
  obtain ⟨T3, X3, e3, st3⟩ := getF X2 hx hZ hown (host := "") (Or.inl (hw _ (List.mem_of_getElem? (i := 14) rfl))) Via.refl e2 F_line_r0 (g := (mkF m 12 #[.val (.ref r0), .val (.ref r1)] [(.ref r0)])) rfl rfl (hb hby d5_12)
  obtain ⟨T4, X4, e4, st4⟩ := getF X3 hx hZ hown (host := "") (Or.inl (hw _ (List.mem_of_getElem? (i := 14) rfl))) Via.refl e3 F_line_r1 (g := (mkF m 16 #[.val (.ref r0), .val (.ref r1)] [(.ref r1), (.int w_line_r0)])) rfl rfl (hb hby d5_16)
  obtain ⟨T5, X5, e5, st5⟩ := getF X4 hx hZ hown (host := "") (Or.inl (hw _ (List.mem_of_getElem? (i := 16) rfl))) Via.refl e4 F_column_r0 (g := (mkF m 23 #[.val (.ref r0), .val (.ref r1)] [(.ref r0)])) rfl rfl (hb hby d5_23)
  obtain ⟨T6, X6, e6, st6⟩ := getF X5 hx hZ hown (host := "") (Or.inl (hw _ (List.mem_of_getElem? (i := 16) rfl))) Via.refl e5 F_column_r1 (g := (mkF m 27 #[.val (.ref r0), .val (.ref r1)] [(.ref r1), (.int w_column_r0)])) rfl rfl (hb hby d5_27)
  obtain ⟨fs, hr, hrun, hended, hW, hsame⟩ := X6.leave (v := some (.int (1 : Int32))) (fun h => by rw [Bd.returns] at h; cases h)
  refine ⟨_, _, pre0 _ ?_, hrun, hended, _, _, rfl, ?_, ⟨_, rfl⟩, hW, hsame.mono (by decide) (by decide)⟩
  · show Steps p.tables e below (s₁.setTop (mkF m 0 #[.val (.ref r0), .val (.ref r1)] [])) _
    refine XS.aloadN X0.here hx rfl (hb hby d5_0) rfl rfl ?_
    show Steps p.tables e below (s₁.setTop (mkF m 1 #[.val (.ref r0), .val (.ref r1)] [(.ref r0)])) _
    refine st1 _ ?_
    show Steps p.tables e below (T1.setTop (mkF m 4 #[.val (.ref r0), .val (.ref r1)] [(.int w_line_r0)])) _
    refine XS.aloadN X1.here hx rfl (hb hby d5_4) rfl rfl ?_
    show Steps p.tables e below (T1.setTop (mkF m 5 #[.val (.ref r0), .val (.ref r1)] [(.ref r1), (.int w_line_r0)])) _
    refine st2 _ ?_
    show Steps p.tables e below (T2.setTop (mkF m 8 #[.val (.ref r0), .val (.ref r1)] [(.int w_line_r1), (.int w_line_r0)])) _
    refine XS.icmpNo X2.here hx rfl (hb hby d5_8) rfl (flt hc8).2.2.1 ?_
    show Steps p.tables e below (T2.setTop (mkF m 11 #[.val (.ref r0), .val (.ref r1)] [])) _
    refine XS.aloadN X2.here hx rfl (hb hby d5_11) rfl rfl ?_
    show Steps p.tables e below (T2.setTop (mkF m 12 #[.val (.ref r0), .val (.ref r1)] [(.ref r0)])) _
    refine st3 _ ?_
    show Steps p.tables e below (T3.setTop (mkF m 15 #[.val (.ref r0), .val (.ref r1)] [(.int w_line_r0)])) _
    refine XS.aloadN X3.here hx rfl (hb hby d5_15) rfl rfl ?_
    show Steps p.tables e below (T3.setTop (mkF m 16 #[.val (.ref r0), .val (.ref r1)] [(.ref r1), (.int w_line_r0)])) _
    refine st4 _ ?_
    show Steps p.tables e below (T4.setTop (mkF m 19 #[.val (.ref r0), .val (.ref r1)] [(.int w_line_r1), (.int w_line_r0)])) _
    refine XS.icmpNo X4.here hx rfl (hb hby d5_19) rfl (teq hc19).2 ?_
    show Steps p.tables e below (T4.setTop (mkF m 22 #[.val (.ref r0), .val (.ref r1)] [])) _
    refine XS.aloadN X4.here hx rfl (hb hby d5_22) rfl rfl ?_
    show Steps p.tables e below (T4.setTop (mkF m 23 #[.val (.ref r0), .val (.ref r1)] [(.ref r0)])) _
    refine st5 _ ?_
    show Steps p.tables e below (T5.setTop (mkF m 26 #[.val (.ref r0), .val (.ref r1)] [(.int w_column_r0)])) _
    refine XS.aloadN X5.here hx rfl (hb hby d5_26) rfl rfl ?_
    show Steps p.tables e below (T5.setTop (mkF m 27 #[.val (.ref r0), .val (.ref r1)] [(.ref r1), (.int w_column_r0)])) _
    refine st6 _ ?_
    show Steps p.tables e below (T6.setTop (mkF m 30 #[.val (.ref r0), .val (.ref r1)] [(.int w_column_r1), (.int w_column_r0)])) _
    refine XS.icmpNo X6.here hx rfl (hb hby d5_30) rfl (tlt hc30).2.2.2 ?_
    show Steps p.tables e below (T6.setTop (mkF m 33 #[.val (.ref r0), .val (.ref r1)] [])) _
    refine XS.iconst X6.here hx rfl (hb hby d5_33) ?_
    show Steps p.tables e below (T6.setTop (mkF m 34 #[.val (.ref r0), .val (.ref r1)] [(.int (1 : Int32))])) _
    refine XS.goto X6.here hx rfl (pc0 := 34) (pc' := 38) rfl (hb hby d5_34) (by decide) (by decide) ?_
    show Steps p.tables e below (T6.setTop (mkF m 38 #[.val (.ref r0), .val (.ref r1)] [(.int (1 : Int32))])) _
    exact retN X6 hx (t := .boolean) Bd.returns (by simp) (hb hby d5_38) hr
  · show Q5 Z w_line_r0 w_column_r0 w_line_r1 w_column_r1 h0 n0 _ T6.heap _
    rw [e6]
    exact ⟨by simp [own_after, hc8, hc19, hc30], N0, rfl⟩
theorem rm5 (l : Launch) (Z : State) (a0 : Array Value) (hw : ∀ d ∈ tables_1, d.before a0 Z = true) (ws : List Jvm.Cond) (r0 : Addr) (r1 : Addr) (l1 c1 l2 c2 : Int32) (h0 : Heap) (n0 : Nat) (Z0 : n0 ≤ h0.size) (Fl0 : Fld Z h0 r0 "com/example/beliefwire/beliefwire/io/Tokenizer$Place" "line" "I" (.int l1)) (Fc0 : Fld Z h0 r0 "com/example/beliefwire/beliefwire/io/Tokenizer$Place" "column" "I" (.int c1)) (Fl1 : Fld Z h0 r1 "com/example/beliefwire/beliefwire/io/Tokenizer$Place" "line" "I" (.int l2)) (Fc1 : Fld Z h0 r1 "com/example/beliefwire/beliefwire/io/Tokenizer$Place" "column" "I" (.int c2)) :
    MetFree l (⟨"com/example/beliefwire/beliefwire/io/Tokenizer$Place", "isAfter", "(Lcom/example/beliefwire/beliefwire/io/Tokenizer$Place;)Z"⟩ : MethodName) (head1 (Jvm.Cond.code (⟨"com/example/beliefwire/beliefwire/io/Tokenizer$Place", "isAfter", "(Lcom/example/beliefwire/beliefwire/io/Tokenizer$Place;)Z"⟩ : MethodName) prog_50_method_2_code 2 (some .boolean) :: ws) ({ frames := 0, cells := 0, slots := 0, locals := 0 } : Room)) (fun a U => a = #[(.ref r0), (.ref r1)] ∧ Z.Warmed39 U.vm ∧ U.heap = h0) (fun _ _ _ _ _ => True) (fun _ U o U' => ∃ v L, o = .returned v ∧ Q5 Z l1 c1 l2 c2 h0 n0 v U'.heap L ∧ FrameEnd U o U' L ({ frames := 0, cells := 0, slots := 0, locals := 0 } : Room).cells ({ frames := 0, cells := 0, slots := 0, locals := 0 } : Room).slots) := by
  by_cases b1 : l2 < l1
  · exact rm5a l Z a0 hw ws r0 r1 l1 l2 c1 c2 h0 n0 Z0 Fl0 Fl1 b1
  · by_cases b2 : l1 = l2
    · by_cases b3 : c2 < c1
      · exact rm5d l Z a0 hw ws r0 r1 l1 l2 c1 c2 h0 n0 Z0 Fl0 Fl1 b1 b2 Fc0 Fc1 b3
      · exact rm5c l Z a0 hw ws r0 r1 l1 l2 c1 c2 h0 n0 Z0 Fl0 Fl1 b1 b2 Fc0 Fc1 b3
    · exact rm5b l Z a0 hw ws r0 r1 l1 l2 c1 c2 h0 n0 Z0 Fl0 Fl1 b1 b2
theorem pd_1 : parseMethodDescriptor "(II)V" = some ⟨[.int, .int], none⟩ := by decide +kernel
theorem pd_2 : parseMethodDescriptor "(II)J" = some ⟨[.int, .int], some .long⟩ := by decide +kernel
theorem pd_3 : parseMethodDescriptor "(Lcom/example/beliefwire/beliefwire/io/Tokenizer$Place;)Z" = some ⟨[(.object "com/example/beliefwire/beliefwire/io/Tokenizer$Place")], some .boolean⟩ := by decide +kernel
theorem ef_rm0 (m : MethodId) (p0 : Int32) (p1 : Int32) (p2 : Int32) (p3 : Int32) (p4 : Int32) : entryFrame m #[(.int p0), (.int p1), (.int p2), (.int p3), (.int p4)] maxLocals = mkF m 0 #[.val (.int p0), .val (.int p1), .val (.int p2), .val (.int p3), .val (.int p4), .unset, .unset, .unset, .unset, .unset, .unset, .unset, .unset, .unset, .unset] [] := by first | (simp [entryFrame, mkF, argsToLocals, Value.category, maxLocals]; done) | rfl
def Q0 (Z : State) (p0 : Int32) (h0 : Heap) (n0 : Nat) (v : Option Value) (h : Heap) (L : List Loc) : Prop := v = some (.int 1) ∧ Fr n0 L
set_option maxRecDepth 65536 in
set_option maxHeartbeats 40000000 in
theorem rm0 (l : Launch) (Z : State) (a0 : Array Value) (hw : ∀ d ∈ tables_1, d.before a0 Z = true) (ws : List Jvm.Cond) (p0 : Int32) (p1 : Int32) (p2 : Int32) (p3 : Int32) (p4 : Int32) (h0 : Heap) (n0 : Nat) (Z0 : n0 ≤ h0.size) :
    MetFree l x (head1 (Jvm.Cond.code x code maxLocals ret :: ws) room_1) (fun a U => a = #[(.int p0), (.int p1), (.int p2), (.int p3), (.int p4)] ∧ Z.Warmed39 U.vm ∧ U.heap = h0) (fun _ _ _ _ _ => True) (fun _ U o U' => ∃ v L, o = .returned v ∧ Q0 Z p0 h0 n0 v U'.heap L ∧ FrameEnd U o U' L room_1.cells room_1.slots) := by
  refine MetFree.of_bodySF (plainFor_of_name pn_2) hisR ?_
  intro p e s m args below meth c s₁ Bd hml0 hP hK
  obtain ⟨rfl, hZ, hh⟩ := hP
  have hx := Bd.exec
  have hby := Bd.bytes
  have hml : c.maxLocals = 15 := hml0
  have hown : s.vm.findClass "com/example/beliefwire/beliefwire/io/PlaceIsAfterPinLaw" = some m.cls := findClass_of_methodNamed Bd.named
  have hnm := (name_of_methodNamed Bd.named Bd.method).1
  have X0 : Stand p l e room_1 s m #[(.int p0), (.int p1), (.int p2), (.int p3), (.int p4)] below meth c s₁ [] 0 0 := Stand.of_body Bd
  have e0 : s₁.heap = h0 := by rw [← hh, Bd.state]; rfl
  have N0 := Fr.nil n0
  have pre0 : ∀ t, Steps p.tables e below (s₁.setTop (mkF m 0 #[.val (.int p0), .val (.int p1), .val (.int p2), .val (.int p3), .val (.int p4), .unset, .unset, .unset, .unset, .unset, .unset, .unset, .unset, .unset, .unset] [])) t → Steps p.tables e below (s₁.setTop (entryFrame m #[(.int p0), (.int p1), (.int p2), (.int p3), (.int p4)] maxLocals)) t := fun t k => castTop (ef_rm0 m p0 p1 p2 p3 p4) k
  obtain ⟨T3, h3, X3, e3, E3, A3, D3, -, st3⟩ := newO X0 hx hZ hown (hw _ (List.mem_of_getElem? (i := 0) rfl)) (hw _ (List.mem_of_getElem? (i := 1) rfl)) (hw _ (List.mem_of_getElem? (i := 2) rfl)) e0 (g := (mkF m 28 #[.val (.int p0), .val (.int p1), .val (.int p2), .val (.int p3), .val (.int p4), .val (.int (own_sel p4 1 p0 p2)), .val (.int (own_sel p4 2 p1 p3)), .unset, .unset, .unset, .unset, .unset, .unset, .unset, .unset] [])) rfl (hb hby at_28) (by decide) (by decide)
  obtain ⟨b3, gg3⟩ : ∃ z, z = h0.size := ⟨_, rfl⟩
  rw [← gg3] at A3 D3 st3
  have g_b3 : n0 ≤ b3 := Nat.le_trans Z0 (Nat.le_of_eq gg3.symm)
  have sz_b3 : h0.size ≤ b3 := Nat.le_trans (Nat.le_refl h0.size) (Nat.le_of_eq gg3.symm)
  have F_line_b3 : Fld Z h3 b3 "com/example/beliefwire/beliefwire/io/Tokenizer$Place" "line" "I" (.int (0 : Int32)) := D3 (Or.inr (hw _ (List.mem_of_getElem? (i := 15) rfl))) (ty := .int) (by decide)
  have F_column_b3 : Fld Z h3 b3 "com/example/beliefwire/beliefwire/io/Tokenizer$Place" "column" "I" (.int (0 : Int32)) := D3 (Or.inr (hw _ (List.mem_of_getElem? (i := 17) rfl))) (ty := .int) (by decide)
  have Z5z : n0 ≤ h3.size := (Nat.le_trans Z0 E3.1)
  obtain ⟨_, _, ⟨T4, L4, k4, n4⟩, -, X4, ⟨Lc4, hQ4, l4, y4, z4⟩, st4⟩ := X3.specialBack hx (y := (⟨"com/example/beliefwire/beliefwire/io/Tokenizer$Place", "<init>", "(II)V"⟩ : MethodName)) rfl hown (mvT hZ (hw _ (List.mem_of_getElem? (i := 3) rfl))) (mvT hZ (hw _ (List.mem_of_getElem? (i := 4) rfl))) (mvT hZ (hw _ (List.mem_of_getElem? (i := 5) rfl))) (by decide) (backOf (W := 1) (rm1 l Z a0 hw [] b3 p0 p1 _ _ h3 n0 Z5z A3 F_line_b3 g_b3 F_column_b3) hZ (hw _ (List.mem_of_getElem? (i := 5) rfl)) (hw _ (List.mem_of_getElem? (i := 2) rfl)) (by decide) (by decide)) (g := (mkF m 34 #[.val (.int p0), .val (.int p1), .val (.int p2), .val (.int p3), .val (.int p4), .val (.int (own_sel p4 1 p0 p2)), .val (.int (own_sel p4 2 p1 p3)), .unset, .unset, .unset, .unset, .unset, .unset, .unset, .unset] [(.int p1), (.int p0), (.ref b3), (.ref b3)])) rfl (by rw [hml]; rfl) (Steps.refl _) (a := b3) (argsL := [(.int p0), (.int p1)]) (rest := [(.ref b3)]) (lenOf pd_1 rfl) rfl (by show 2 * 0 + _ ≤ _; exact Nat.le_of_eq rfl) (hb hby at_34) (fun _ _ => ⟨rfl, e3, (by decide : 1 + 0 ≤ _), (by decide : 2 + 0 ≤ _)⟩)
  dsimp only [Pt.U, Pt.locs, Pt.cells, Pt.slots] at X4 l4 y4 z4 st4 hQ4
  subst l4 y4 z4
  obtain ⟨rfl, N4q, K4, Eq4, Fq4_line, Fq4_column⟩ := hQ4
  have N4 := Fr.app N0 N4q
  have Z6z : n0 ≤ T4.heap.size := (Nat.le_trans Z5z K4.1)
  obtain ⟨T7, h7, X7, e7, E7, A7, D7, -, st7⟩ := newO X4 hx hZ hown (hw _ (List.mem_of_getElem? (i := 0) rfl)) (hw _ (List.mem_of_getElem? (i := 1) rfl)) (hw _ (List.mem_of_getElem? (i := 2) rfl)) rfl (g := (mkF m 39 #[.val (.int p0), .val (.int p1), .val (.int p2), .val (.int p3), .val (.int p4), .val (.int (own_sel p4 1 p0 p2)), .val (.int (own_sel p4 2 p1 p3)), .val (.ref b3), .unset, .unset, .unset, .unset, .unset, .unset, .unset] [])) rfl (hb hby at_39) (by decide) (by decide)
  obtain ⟨b7, gg7⟩ : ∃ z, z = T4.heap.size := ⟨_, rfl⟩
  rw [← gg7] at A7 D7 st7
  have g_b7 : n0 ≤ b7 := Nat.le_trans Z6z (Nat.le_of_eq gg7.symm)
  have sz_b7 : h0.size ≤ b7 := Nat.le_trans (Nat.le_trans (Nat.le_trans (Nat.le_refl h0.size) E3.1) K4.1) (Nat.le_of_eq gg7.symm)
  have ne_b3_b7 : b3 ≠ b7 := Nat.ne_of_lt (Nat.lt_of_lt_of_le Eq4.lt (Nat.le_of_eq gg7.symm))
  have F_line_b7 : Fld Z h7 b7 "com/example/beliefwire/beliefwire/io/Tokenizer$Place" "line" "I" (.int (0 : Int32)) := D7 (Or.inr (hw _ (List.mem_of_getElem? (i := 15) rfl))) (ty := .int) (by decide)
  have F_column_b7 : Fld Z h7 b7 "com/example/beliefwire/beliefwire/io/Tokenizer$Place" "column" "I" (.int (0 : Int32)) := D7 (Or.inr (hw _ (List.mem_of_getElem? (i := 17) rfl))) (ty := .int) (by decide)
  have Z9z : n0 ≤ h7.size := (Nat.le_trans Z6z E7.1)
  obtain ⟨_, _, ⟨T8, L8, k8, n8⟩, -, X8, ⟨Lc8, hQ8, l8, y8, z8⟩, st8⟩ := X7.specialBack hx (y := (⟨"com/example/beliefwire/beliefwire/io/Tokenizer$Place", "<init>", "(II)V"⟩ : MethodName)) rfl hown (mvT hZ (hw _ (List.mem_of_getElem? (i := 3) rfl))) (mvT hZ (hw _ (List.mem_of_getElem? (i := 4) rfl))) (mvT hZ (hw _ (List.mem_of_getElem? (i := 5) rfl))) (by decide) (backOf (W := 1) (rm1 l Z a0 hw [] b7 (own_sel p4 1 p0 p2) (own_sel p4 2 p1 p3) _ _ h7 n0 Z9z A7 F_line_b7 g_b7 F_column_b7) hZ (hw _ (List.mem_of_getElem? (i := 5) rfl)) (hw _ (List.mem_of_getElem? (i := 2) rfl)) (by decide) (by decide)) (g := (mkF m 47 #[.val (.int p0), .val (.int p1), .val (.int p2), .val (.int p3), .val (.int p4), .val (.int (own_sel p4 1 p0 p2)), .val (.int (own_sel p4 2 p1 p3)), .val (.ref b3), .unset, .unset, .unset, .unset, .unset, .unset, .unset] [(.int (own_sel p4 2 p1 p3)), (.int (own_sel p4 1 p0 p2)), (.ref b7), (.ref b7)])) rfl (by rw [hml]; rfl) (Steps.refl _) (a := b7) (argsL := [(.int (own_sel p4 1 p0 p2)), (.int (own_sel p4 2 p1 p3))]) (rest := [(.ref b7)]) (lenOf pd_1 rfl) rfl (by show 2 * 0 + _ ≤ _; exact Nat.le_of_eq rfl) (hb hby at_47) (fun _ _ => ⟨rfl, e7, (by decide : 2 + 0 ≤ _), (by decide : 4 + 0 ≤ _)⟩)
  dsimp only [Pt.U, Pt.locs, Pt.cells, Pt.slots] at X8 l8 y8 z8 st8 hQ8
  subst l8 y8 z8
  obtain ⟨rfl, N8q, K8, Eq8, Fq8_line, Fq8_column⟩ := hQ8
  have N8 := Fr.app N4 N8q
  have Z11z : n0 ≤ T8.heap.size := (Nat.le_trans Z9z K8.1)
  obtain ⟨_, _, ⟨T10, L10, k10, n10⟩, -, X10, ⟨Lc10, hQ10, l10, y10, z10⟩, st10⟩ := Jvm.LawKit.callS X8 hx (y := (⟨"com/example/beliefwire/beliefwire/io/PlaceIsAfterPinLaw", "key", "(II)J"⟩ : MethodName)) hown (mvT hZ (hw _ (List.mem_of_getElem? (i := 18) rfl))) (mvT hZ (hw _ (List.mem_of_getElem? (i := 19) rfl))) (mvT hZ (hw _ (List.mem_of_getElem? (i := 20) rfl))) (mvT hZ (hw _ (List.mem_of_getElem? (i := 21) rfl))) (by decide) (backOf (W := 0) (rm4 l Z a0 hw [] p0 p1 T8.heap n0 Z11z) hZ (hw _ (List.mem_of_getElem? (i := 21) rfl)) (hw _ (List.mem_of_getElem? (i := 20) rfl)) (by decide) (by decide)) (g := (mkF m 54 #[.val (.int p0), .val (.int p1), .val (.int p2), .val (.int p3), .val (.int p4), .val (.int (own_sel p4 1 p0 p2)), .val (.int (own_sel p4 2 p1 p3)), .val (.ref b3), .val (.ref b7), .unset, .unset, .unset, .unset, .unset, .unset] [(.int p1), (.int p0)])) rfl (by rw [hml]; rfl) (argsL := [(.int p0), (.int p1)]) (rest := []) (lenOf pd_2 rfl) rfl (by show 2 * 0 + _ ≤ _; exact Nat.le_of_eq rfl) (hb hby at_54) (fun _ _ => ⟨rfl, rfl, (by decide : 2 + 0 ≤ _), (by decide : 4 + 0 ≤ _)⟩)
  dsimp only [Pt.U, Pt.locs, Pt.cells, Pt.slots] at X10 l10 y10 z10 st10 hQ10
  subst l10 y10 z10
  obtain ⟨rfl, N10q, eq10⟩ := hQ10
  have N10 := Fr.app N8 N10q
  obtain ⟨_, _, ⟨T12, L12, k12, n12⟩, -, X12, ⟨Lc12, hQ12, l12, y12, z12⟩, st12⟩ := Jvm.LawKit.callS X10 hx (y := (⟨"com/example/beliefwire/beliefwire/io/PlaceIsAfterPinLaw", "key", "(II)J"⟩ : MethodName)) hown (mvT hZ (hw _ (List.mem_of_getElem? (i := 18) rfl))) (mvT hZ (hw _ (List.mem_of_getElem? (i := 19) rfl))) (mvT hZ (hw _ (List.mem_of_getElem? (i := 20) rfl))) (mvT hZ (hw _ (List.mem_of_getElem? (i := 21) rfl))) (by decide) (backOf (W := 0) (rm4 l Z a0 hw [] (own_sel p4 1 p0 p2) (own_sel p4 2 p1 p3) T8.heap n0 Z11z) hZ (hw _ (List.mem_of_getElem? (i := 21) rfl)) (hw _ (List.mem_of_getElem? (i := 20) rfl)) (by decide) (by decide)) (g := (mkF m 63 #[.val (.int p0), .val (.int p1), .val (.int p2), .val (.int p3), .val (.int p4), .val (.int (own_sel p4 1 p0 p2)), .val (.int (own_sel p4 2 p1 p3)), .val (.ref b3), .val (.ref b7), .val (.long (own_key p0 p1)), .second, .unset, .unset, .unset, .unset] [(.int (own_sel p4 2 p1 p3)), (.int (own_sel p4 1 p0 p2))])) rfl (by rw [hml]; rfl) (argsL := [(.int (own_sel p4 1 p0 p2)), (.int (own_sel p4 2 p1 p3))]) (rest := []) (lenOf pd_2 rfl) rfl (by show 2 * 0 + _ ≤ _; exact Nat.le_of_eq rfl) (hb hby at_63) (fun _ _ => ⟨rfl, eq10, (by decide : 2 + 0 ≤ _), (by decide : 4 + 0 ≤ _)⟩)
  dsimp only [Pt.U, Pt.locs, Pt.cells, Pt.slots] at X12 l12 y12 z12 st12 hQ12
  subst l12 y12 z12
  obtain ⟨rfl, N12q, eq12⟩ := hQ12
  have N12 := Fr.app N10 N12q
  have Fq4_line_14 := ((Fq4_line.ext E7).keep K8 (own_nin1 ne_b3_b7))
  have Fq4_column_15 := ((Fq4_column.ext E7).keep K8 (own_nin1 ne_b3_b7))
  have Eq4_16 := ((Eq4.ext E7).keep K8)
  obtain ⟨cq13, kq13, q13a, q13b, q13c⟩ := isOf hZ eq12 Eq4_16
  obtain ⟨_, _, ⟨T13, L13, k13, n13⟩, -, X13, ⟨Lc13, hQ13, l13, y13, z13⟩, st13⟩ := X12.virtualBack hx (y := (⟨"com/example/beliefwire/beliefwire/io/Tokenizer$Place", "isAfter", "(Lcom/example/beliefwire/beliefwire/io/Tokenizer$Place;)Z"⟩ : MethodName)) (z := (⟨"com/example/beliefwire/beliefwire/io/Tokenizer$Place", "isAfter", "(Lcom/example/beliefwire/beliefwire/io/Tokenizer$Place;)Z"⟩ : MethodName)) hown (mvT hZ (hw _ (List.mem_of_getElem? (i := 23) rfl))) (mvT hZ (hw _ (List.mem_of_getElem? (i := 24) rfl))) (notFace_of_selects (args := #[]) (mvT hZ (hw _ (List.mem_of_getElem? (i := 26) rfl)))) (mvT hZ (hw _ (List.mem_of_getElem? (i := 26) rfl))) (mvT hZ (hw _ (List.mem_of_getElem? (i := 25) rfl))) (by decide) (backOf (W := 0) (rm5 l Z a0 hw [] b3 b7 p0 p1 (own_sel p4 1 p0 p2) (own_sel p4 2 p1 p3) T8.heap n0 Z11z Fq4_line_14 Fq4_column_15 Fq8_line Fq8_column) hZ (hw _ (List.mem_of_getElem? (i := 27) rfl)) (hw _ (List.mem_of_getElem? (i := 2) rfl)) (by decide) (by decide)) q13a q13c (g := (mkF m 72 #[.val (.int p0), .val (.int p1), .val (.int p2), .val (.int p3), .val (.int p4), .val (.int (own_sel p4 1 p0 p2)), .val (.int (own_sel p4 2 p1 p3)), .val (.ref b3), .val (.ref b7), .val (.long (own_key p0 p1)), .second, .val (.long (own_key (own_sel p4 1 p0 p2) (own_sel p4 2 p1 p3))), .second, .unset, .unset] [(.ref b7), (.ref b3)])) rfl (by rw [hml]; rfl) (Steps.refl _) (argsL := [(.ref b7)]) (rest := []) (lenOf pd_3 rfl) rfl (by show 2 * 0 + _ ≤ _; exact Nat.le_of_eq rfl) (hb hby at_72) (fun _ _ => ⟨rfl, eq12, (by decide : 2 + 0 ≤ _), (by decide : 4 + 0 ≤ _)⟩)
  dsimp only [Pt.U, Pt.locs, Pt.cells, Pt.slots] at X13 l13 y13 z13 st13 hQ13
  subst l13 y13 z13
  obtain ⟨rfl, N13q, eq13⟩ := hQ13
  have N13 := Fr.app N12 N13q
  obtain ⟨cq18, kq18, q18a, q18b, q18c⟩ := isOf hZ eq13 Eq8
  obtain ⟨_, _, ⟨T18, L18, k18, n18⟩, -, X18, ⟨Lc18, hQ18, l18, y18, z18⟩, st18⟩ := X13.virtualBack hx (y := (⟨"com/example/beliefwire/beliefwire/io/Tokenizer$Place", "isAfter", "(Lcom/example/beliefwire/beliefwire/io/Tokenizer$Place;)Z"⟩ : MethodName)) (z := (⟨"com/example/beliefwire/beliefwire/io/Tokenizer$Place", "isAfter", "(Lcom/example/beliefwire/beliefwire/io/Tokenizer$Place;)Z"⟩ : MethodName)) hown (mvT hZ (hw _ (List.mem_of_getElem? (i := 23) rfl))) (mvT hZ (hw _ (List.mem_of_getElem? (i := 24) rfl))) (notFace_of_selects (args := #[]) (mvT hZ (hw _ (List.mem_of_getElem? (i := 26) rfl)))) (mvT hZ (hw _ (List.mem_of_getElem? (i := 26) rfl))) (mvT hZ (hw _ (List.mem_of_getElem? (i := 25) rfl))) (by decide) (backOf (W := 0) (rm5 l Z a0 hw [] b7 b3 (own_sel p4 1 p0 p2) (own_sel p4 2 p1 p3) p0 p1 T8.heap n0 Z11z Fq8_line Fq8_column Fq4_line_14 Fq4_column_15) hZ (hw _ (List.mem_of_getElem? (i := 27) rfl)) (hw _ (List.mem_of_getElem? (i := 2) rfl)) (by decide) (by decide)) q18a q18c (g := (mkF m 102 #[.val (.int p0), .val (.int p1), .val (.int p2), .val (.int p3), .val (.int p4), .val (.int (own_sel p4 1 p0 p2)), .val (.int (own_sel p4 2 p1 p3)), .val (.ref b3), .val (.ref b7), .val (.long (own_key p0 p1)), .second, .val (.long (own_key (own_sel p4 1 p0 p2) (own_sel p4 2 p1 p3))), .second, .val (.int (1 : Int32)), .unset] [(.ref b3), (.ref b7)])) rfl (by rw [hml]; rfl) (Steps.refl _) (argsL := [(.ref b3)]) (rest := []) (lenOf pd_3 rfl) rfl (by show 2 * 0 + _ ≤ _; exact Nat.le_of_eq rfl) (hb hby at_102) (fun _ _ => ⟨rfl, eq13, (by decide : 2 + 0 ≤ _), (by decide : 4 + 0 ≤ _)⟩)
  dsimp only [Pt.U, Pt.locs, Pt.cells, Pt.slots] at X18 l18 y18 z18 st18 hQ18
  subst l18 y18 z18
  obtain ⟨rfl, N18q, eq18⟩ := hQ18
  have N18 := Fr.app N13 N18q
  obtain ⟨fs, hr, hrun, hended, hW, hsame⟩ := X18.leave (v := some (.int (1 : Int32))) (fun h => by rw [Bd.returns] at h; cases h)
  refine ⟨_, _, pre0 _ ?_, hrun, hended, _, _, rfl, ?_, ⟨_, rfl⟩, hW, hsame.mono (by decide) (by decide)⟩
  · show Steps p.tables e below (s₁.setTop (mkF m 0 #[.val (.int p0), .val (.int p1), .val (.int p2), .val (.int p3), .val (.int p4), .unset, .unset, .unset, .unset, .unset, .unset, .unset, .unset, .unset, .unset] [])) _
    refine XS.iload X0.here hx rfl (hb hby at_0) rfl ?_
    show Steps p.tables e below (s₁.setTop (mkF m 2 #[.val (.int p0), .val (.int p1), .val (.int p2), .val (.int p3), .val (.int p4), .unset, .unset, .unset, .unset, .unset, .unset, .unset, .unset, .unset, .unset] [(.int p4)])) _
    refine XS.iconst X0.here hx rfl (hb hby at_2) ?_
    show Steps p.tables e below (s₁.setTop (mkF m 3 #[.val (.int p0), .val (.int p1), .val (.int p2), .val (.int p3), .val (.int p4), .unset, .unset, .unset, .unset, .unset, .unset, .unset, .unset, .unset, .unset] [(.int (1 : Int32)), (.int p4)])) _
    refine XS.iand X0.here hx rfl (hb hby at_3) rfl ?_
    show Steps p.tables e below (s₁.setTop (mkF m 4 #[.val (.int p0), .val (.int p1), .val (.int p2), .val (.int p3), .val (.int p4), .unset, .unset, .unset, .unset, .unset, .unset, .unset, .unset, .unset, .unset] [(.int (p4 &&& (1 : Int32)))])) _
    have j4_1 : ∀ t, Steps p.tables e below (s₁.setTop (mkF m 12 #[.val (.int p0), .val (.int p1), .val (.int p2), .val (.int p3), .val (.int p4), .unset, .unset, .unset, .unset, .unset, .unset, .unset, .unset, .unset, .unset] [(.int (if (p4 &&& (1 : Int32)) = (0 : Int32) then p2 else p0))])) t → Steps p.tables e below (s₁.setTop (mkF m 4 #[.val (.int p0), .val (.int p1), .val (.int p2), .val (.int p3), .val (.int p4), .unset, .unset, .unset, .unset, .unset, .unset, .unset, .unset, .unset, .unset] [(.int (p4 &&& (1 : Int32)))])) t := by
      intro t kt
      by_cases hj4_1 : (p4 &&& (1 : Int32)) = (0 : Int32)
      · try simp only [if_pos hj4_1] at kt
        show Steps p.tables e below (s₁.setTop (mkF m 4 #[.val (.int p0), .val (.int p1), .val (.int p2), .val (.int p3), .val (.int p4), .unset, .unset, .unset, .unset, .unset, .unset, .unset, .unset, .unset, .unset] [(.int (p4 &&& (1 : Int32)))])) _
        refine XS.ifYes X0.here hx rfl (pc0 := 4) (pc' := 11) rfl (hb hby at_4) rfl ((if0 _ _).trans (teq hj4_1).1) (by decide) (by decide) ?_
        show Steps p.tables e below (s₁.setTop (mkF m 11 #[.val (.int p0), .val (.int p1), .val (.int p2), .val (.int p3), .val (.int p4), .unset, .unset, .unset, .unset, .unset, .unset, .unset, .unset, .unset, .unset] [])) _
        refine XS.iloadN X0.here hx rfl (hb hby at_11) rfl ?_
        exact kt
      · try simp only [if_neg hj4_1] at kt
        show Steps p.tables e below (s₁.setTop (mkF m 4 #[.val (.int p0), .val (.int p1), .val (.int p2), .val (.int p3), .val (.int p4), .unset, .unset, .unset, .unset, .unset, .unset, .unset, .unset, .unset, .unset] [(.int (p4 &&& (1 : Int32)))])) _
        refine XS.ifNo X0.here hx rfl (hb hby at_4) rfl ((if0 _ _).trans (feq hj4_1).1) ?_
        show Steps p.tables e below (s₁.setTop (mkF m 7 #[.val (.int p0), .val (.int p1), .val (.int p2), .val (.int p3), .val (.int p4), .unset, .unset, .unset, .unset, .unset, .unset, .unset, .unset, .unset, .unset] [])) _
        refine XS.iloadN X0.here hx rfl (hb hby at_7) rfl ?_
        show Steps p.tables e below (s₁.setTop (mkF m 8 #[.val (.int p0), .val (.int p1), .val (.int p2), .val (.int p3), .val (.int p4), .unset, .unset, .unset, .unset, .unset, .unset, .unset, .unset, .unset, .unset] [(.int p0)])) _
        refine XS.goto X0.here hx rfl (pc0 := 8) (pc' := 12) rfl (hb hby at_8) (by decide) (by decide) ?_
        exact kt
    refine j4_1 _ ?_
    show Steps p.tables e below (s₁.setTop (mkF m 12 #[.val (.int p0), .val (.int p1), .val (.int p2), .val (.int p3), .val (.int p4), .unset, .unset, .unset, .unset, .unset, .unset, .unset, .unset, .unset, .unset] [(.int (if (p4 &&& (1 : Int32)) = (0 : Int32) then p2 else p0))])) _
    refine XS.istore X0.here hx rfl (hb hby at_12) rfl (l' := #[.val (.int p0), .val (.int p1), .val (.int p2), .val (.int p3), .val (.int p4), .val (.int (own_sel p4 1 p0 p2)), .unset, .unset, .unset, .unset, .unset, .unset, .unset, .unset, .unset]) rfl ?_
    show Steps p.tables e below (s₁.setTop (mkF m 14 #[.val (.int p0), .val (.int p1), .val (.int p2), .val (.int p3), .val (.int p4), .val (.int (own_sel p4 1 p0 p2)), .unset, .unset, .unset, .unset, .unset, .unset, .unset, .unset, .unset] [])) _
    refine XS.iload X0.here hx rfl (hb hby at_14) rfl ?_
    show Steps p.tables e below (s₁.setTop (mkF m 16 #[.val (.int p0), .val (.int p1), .val (.int p2), .val (.int p3), .val (.int p4), .val (.int (own_sel p4 1 p0 p2)), .unset, .unset, .unset, .unset, .unset, .unset, .unset, .unset, .unset] [(.int p4)])) _
    refine XS.iconst X0.here hx rfl (hb hby at_16) ?_
    show Steps p.tables e below (s₁.setTop (mkF m 17 #[.val (.int p0), .val (.int p1), .val (.int p2), .val (.int p3), .val (.int p4), .val (.int (own_sel p4 1 p0 p2)), .unset, .unset, .unset, .unset, .unset, .unset, .unset, .unset, .unset] [(.int (2 : Int32)), (.int p4)])) _
    refine XS.iand X0.here hx rfl (hb hby at_17) rfl ?_
    show Steps p.tables e below (s₁.setTop (mkF m 18 #[.val (.int p0), .val (.int p1), .val (.int p2), .val (.int p3), .val (.int p4), .val (.int (own_sel p4 1 p0 p2)), .unset, .unset, .unset, .unset, .unset, .unset, .unset, .unset, .unset] [(.int (p4 &&& (2 : Int32)))])) _
    have j18_2 : ∀ t, Steps p.tables e below (s₁.setTop (mkF m 26 #[.val (.int p0), .val (.int p1), .val (.int p2), .val (.int p3), .val (.int p4), .val (.int (own_sel p4 1 p0 p2)), .unset, .unset, .unset, .unset, .unset, .unset, .unset, .unset, .unset] [(.int (if (p4 &&& (2 : Int32)) = (0 : Int32) then p3 else p1))])) t → Steps p.tables e below (s₁.setTop (mkF m 18 #[.val (.int p0), .val (.int p1), .val (.int p2), .val (.int p3), .val (.int p4), .val (.int (own_sel p4 1 p0 p2)), .unset, .unset, .unset, .unset, .unset, .unset, .unset, .unset, .unset] [(.int (p4 &&& (2 : Int32)))])) t := by
      intro t kt
      by_cases hj18_2 : (p4 &&& (2 : Int32)) = (0 : Int32)
      · try simp only [if_pos hj18_2] at kt
        show Steps p.tables e below (s₁.setTop (mkF m 18 #[.val (.int p0), .val (.int p1), .val (.int p2), .val (.int p3), .val (.int p4), .val (.int (own_sel p4 1 p0 p2)), .unset, .unset, .unset, .unset, .unset, .unset, .unset, .unset, .unset] [(.int (p4 &&& (2 : Int32)))])) _
        refine XS.ifYes X0.here hx rfl (pc0 := 18) (pc' := 25) rfl (hb hby at_18) rfl ((if0 _ _).trans (teq hj18_2).1) (by decide) (by decide) ?_
        show Steps p.tables e below (s₁.setTop (mkF m 25 #[.val (.int p0), .val (.int p1), .val (.int p2), .val (.int p3), .val (.int p4), .val (.int (own_sel p4 1 p0 p2)), .unset, .unset, .unset, .unset, .unset, .unset, .unset, .unset, .unset] [])) _
        refine XS.iloadN X0.here hx rfl (hb hby at_25) rfl ?_
        exact kt
      · try simp only [if_neg hj18_2] at kt
        show Steps p.tables e below (s₁.setTop (mkF m 18 #[.val (.int p0), .val (.int p1), .val (.int p2), .val (.int p3), .val (.int p4), .val (.int (own_sel p4 1 p0 p2)), .unset, .unset, .unset, .unset, .unset, .unset, .unset, .unset, .unset] [(.int (p4 &&& (2 : Int32)))])) _
        refine XS.ifNo X0.here hx rfl (hb hby at_18) rfl ((if0 _ _).trans (feq hj18_2).1) ?_
        show Steps p.tables e below (s₁.setTop (mkF m 21 #[.val (.int p0), .val (.int p1), .val (.int p2), .val (.int p3), .val (.int p4), .val (.int (own_sel p4 1 p0 p2)), .unset, .unset, .unset, .unset, .unset, .unset, .unset, .unset, .unset] [])) _
        refine XS.iloadN X0.here hx rfl (hb hby at_21) rfl ?_
        show Steps p.tables e below (s₁.setTop (mkF m 22 #[.val (.int p0), .val (.int p1), .val (.int p2), .val (.int p3), .val (.int p4), .val (.int (own_sel p4 1 p0 p2)), .unset, .unset, .unset, .unset, .unset, .unset, .unset, .unset, .unset] [(.int p1)])) _
        refine XS.goto X0.here hx rfl (pc0 := 22) (pc' := 26) rfl (hb hby at_22) (by decide) (by decide) ?_
        exact kt
    refine j18_2 _ ?_
    show Steps p.tables e below (s₁.setTop (mkF m 26 #[.val (.int p0), .val (.int p1), .val (.int p2), .val (.int p3), .val (.int p4), .val (.int (own_sel p4 1 p0 p2)), .unset, .unset, .unset, .unset, .unset, .unset, .unset, .unset, .unset] [(.int (if (p4 &&& (2 : Int32)) = (0 : Int32) then p3 else p1))])) _
    refine XS.istore X0.here hx rfl (hb hby at_26) rfl (l' := #[.val (.int p0), .val (.int p1), .val (.int p2), .val (.int p3), .val (.int p4), .val (.int (own_sel p4 1 p0 p2)), .val (.int (own_sel p4 2 p1 p3)), .unset, .unset, .unset, .unset, .unset, .unset, .unset, .unset]) rfl ?_
    show Steps p.tables e below (s₁.setTop (mkF m 28 #[.val (.int p0), .val (.int p1), .val (.int p2), .val (.int p3), .val (.int p4), .val (.int (own_sel p4 1 p0 p2)), .val (.int (own_sel p4 2 p1 p3)), .unset, .unset, .unset, .unset, .unset, .unset, .unset, .unset] [])) _
    refine st3 _ ?_
    show Steps p.tables e below (T3.setTop (mkF m 31 #[.val (.int p0), .val (.int p1), .val (.int p2), .val (.int p3), .val (.int p4), .val (.int (own_sel p4 1 p0 p2)), .val (.int (own_sel p4 2 p1 p3)), .unset, .unset, .unset, .unset, .unset, .unset, .unset, .unset] [(.ref b3)])) _
    refine XS.dup X3.here hx rfl (hb hby at_31) rfl rfl ?_
    show Steps p.tables e below (T3.setTop (mkF m 32 #[.val (.int p0), .val (.int p1), .val (.int p2), .val (.int p3), .val (.int p4), .val (.int (own_sel p4 1 p0 p2)), .val (.int (own_sel p4 2 p1 p3)), .unset, .unset, .unset, .unset, .unset, .unset, .unset, .unset] [(.ref b3), (.ref b3)])) _
    refine XS.iloadN X3.here hx rfl (hb hby at_32) rfl ?_
    show Steps p.tables e below (T3.setTop (mkF m 33 #[.val (.int p0), .val (.int p1), .val (.int p2), .val (.int p3), .val (.int p4), .val (.int (own_sel p4 1 p0 p2)), .val (.int (own_sel p4 2 p1 p3)), .unset, .unset, .unset, .unset, .unset, .unset, .unset, .unset] [(.int p0), (.ref b3), (.ref b3)])) _
    refine XS.iloadN X3.here hx rfl (hb hby at_33) rfl ?_
    show Steps p.tables e below (T3.setTop (mkF m 34 #[.val (.int p0), .val (.int p1), .val (.int p2), .val (.int p3), .val (.int p4), .val (.int (own_sel p4 1 p0 p2)), .val (.int (own_sel p4 2 p1 p3)), .unset, .unset, .unset, .unset, .unset, .unset, .unset, .unset] [(.int p1), (.int p0), (.ref b3), (.ref b3)])) _
    refine st4.trans ?_
    show Steps p.tables e below (T4.setTop (mkF m 37 #[.val (.int p0), .val (.int p1), .val (.int p2), .val (.int p3), .val (.int p4), .val (.int (own_sel p4 1 p0 p2)), .val (.int (own_sel p4 2 p1 p3)), .unset, .unset, .unset, .unset, .unset, .unset, .unset, .unset] [(.ref b3)])) _
    refine XS.astore X4.here hx rfl (hb hby at_37) rfl rfl (l' := #[.val (.int p0), .val (.int p1), .val (.int p2), .val (.int p3), .val (.int p4), .val (.int (own_sel p4 1 p0 p2)), .val (.int (own_sel p4 2 p1 p3)), .val (.ref b3), .unset, .unset, .unset, .unset, .unset, .unset, .unset]) rfl ?_
    show Steps p.tables e below (T4.setTop (mkF m 39 #[.val (.int p0), .val (.int p1), .val (.int p2), .val (.int p3), .val (.int p4), .val (.int (own_sel p4 1 p0 p2)), .val (.int (own_sel p4 2 p1 p3)), .val (.ref b3), .unset, .unset, .unset, .unset, .unset, .unset, .unset] [])) _
    refine st7 _ ?_
    show Steps p.tables e below (T7.setTop (mkF m 42 #[.val (.int p0), .val (.int p1), .val (.int p2), .val (.int p3), .val (.int p4), .val (.int (own_sel p4 1 p0 p2)), .val (.int (own_sel p4 2 p1 p3)), .val (.ref b3), .unset, .unset, .unset, .unset, .unset, .unset, .unset] [(.ref b7)])) _
    refine XS.dup X7.here hx rfl (hb hby at_42) rfl rfl ?_
    show Steps p.tables e below (T7.setTop (mkF m 43 #[.val (.int p0), .val (.int p1), .val (.int p2), .val (.int p3), .val (.int p4), .val (.int (own_sel p4 1 p0 p2)), .val (.int (own_sel p4 2 p1 p3)), .val (.ref b3), .unset, .unset, .unset, .unset, .unset, .unset, .unset] [(.ref b7), (.ref b7)])) _
    refine XS.iload X7.here hx rfl (hb hby at_43) rfl ?_
    show Steps p.tables e below (T7.setTop (mkF m 45 #[.val (.int p0), .val (.int p1), .val (.int p2), .val (.int p3), .val (.int p4), .val (.int (own_sel p4 1 p0 p2)), .val (.int (own_sel p4 2 p1 p3)), .val (.ref b3), .unset, .unset, .unset, .unset, .unset, .unset, .unset] [(.int (own_sel p4 1 p0 p2)), (.ref b7), (.ref b7)])) _
    refine XS.iload X7.here hx rfl (hb hby at_45) rfl ?_
    show Steps p.tables e below (T7.setTop (mkF m 47 #[.val (.int p0), .val (.int p1), .val (.int p2), .val (.int p3), .val (.int p4), .val (.int (own_sel p4 1 p0 p2)), .val (.int (own_sel p4 2 p1 p3)), .val (.ref b3), .unset, .unset, .unset, .unset, .unset, .unset, .unset] [(.int (own_sel p4 2 p1 p3)), (.int (own_sel p4 1 p0 p2)), (.ref b7), (.ref b7)])) _
    refine st8.trans ?_
    show Steps p.tables e below (T8.setTop (mkF m 50 #[.val (.int p0), .val (.int p1), .val (.int p2), .val (.int p3), .val (.int p4), .val (.int (own_sel p4 1 p0 p2)), .val (.int (own_sel p4 2 p1 p3)), .val (.ref b3), .unset, .unset, .unset, .unset, .unset, .unset, .unset] [(.ref b7)])) _
    refine XS.astore X8.here hx rfl (hb hby at_50) rfl rfl (l' := #[.val (.int p0), .val (.int p1), .val (.int p2), .val (.int p3), .val (.int p4), .val (.int (own_sel p4 1 p0 p2)), .val (.int (own_sel p4 2 p1 p3)), .val (.ref b3), .val (.ref b7), .unset, .unset, .unset, .unset, .unset, .unset]) rfl ?_
    show Steps p.tables e below (T8.setTop (mkF m 52 #[.val (.int p0), .val (.int p1), .val (.int p2), .val (.int p3), .val (.int p4), .val (.int (own_sel p4 1 p0 p2)), .val (.int (own_sel p4 2 p1 p3)), .val (.ref b3), .val (.ref b7), .unset, .unset, .unset, .unset, .unset, .unset] [])) _
    refine XS.iloadN X8.here hx rfl (hb hby at_52) rfl ?_
    show Steps p.tables e below (T8.setTop (mkF m 53 #[.val (.int p0), .val (.int p1), .val (.int p2), .val (.int p3), .val (.int p4), .val (.int (own_sel p4 1 p0 p2)), .val (.int (own_sel p4 2 p1 p3)), .val (.ref b3), .val (.ref b7), .unset, .unset, .unset, .unset, .unset, .unset] [(.int p0)])) _
    refine XS.iloadN X8.here hx rfl (hb hby at_53) rfl ?_
    show Steps p.tables e below (T8.setTop (mkF m 54 #[.val (.int p0), .val (.int p1), .val (.int p2), .val (.int p3), .val (.int p4), .val (.int (own_sel p4 1 p0 p2)), .val (.int (own_sel p4 2 p1 p3)), .val (.ref b3), .val (.ref b7), .unset, .unset, .unset, .unset, .unset, .unset] [(.int p1), (.int p0)])) _
    refine st10 _ ?_
    show Steps p.tables e below (T10.setTop (mkF m 57 #[.val (.int p0), .val (.int p1), .val (.int p2), .val (.int p3), .val (.int p4), .val (.int (own_sel p4 1 p0 p2)), .val (.int (own_sel p4 2 p1 p3)), .val (.ref b3), .val (.ref b7), .unset, .unset, .unset, .unset, .unset, .unset] [(.long (own_key p0 p1))])) _
    refine XS.lstore X10.here hx rfl (hb hby at_57) rfl (l' := #[.val (.int p0), .val (.int p1), .val (.int p2), .val (.int p3), .val (.int p4), .val (.int (own_sel p4 1 p0 p2)), .val (.int (own_sel p4 2 p1 p3)), .val (.ref b3), .val (.ref b7), .val (.long (own_key p0 p1)), .second, .unset, .unset, .unset, .unset]) rfl ?_
    show Steps p.tables e below (T10.setTop (mkF m 59 #[.val (.int p0), .val (.int p1), .val (.int p2), .val (.int p3), .val (.int p4), .val (.int (own_sel p4 1 p0 p2)), .val (.int (own_sel p4 2 p1 p3)), .val (.ref b3), .val (.ref b7), .val (.long (own_key p0 p1)), .second, .unset, .unset, .unset, .unset] [])) _
    refine XS.iload X10.here hx rfl (hb hby at_59) rfl ?_
    show Steps p.tables e below (T10.setTop (mkF m 61 #[.val (.int p0), .val (.int p1), .val (.int p2), .val (.int p3), .val (.int p4), .val (.int (own_sel p4 1 p0 p2)), .val (.int (own_sel p4 2 p1 p3)), .val (.ref b3), .val (.ref b7), .val (.long (own_key p0 p1)), .second, .unset, .unset, .unset, .unset] [(.int (own_sel p4 1 p0 p2))])) _
    refine XS.iload X10.here hx rfl (hb hby at_61) rfl ?_
    show Steps p.tables e below (T10.setTop (mkF m 63 #[.val (.int p0), .val (.int p1), .val (.int p2), .val (.int p3), .val (.int p4), .val (.int (own_sel p4 1 p0 p2)), .val (.int (own_sel p4 2 p1 p3)), .val (.ref b3), .val (.ref b7), .val (.long (own_key p0 p1)), .second, .unset, .unset, .unset, .unset] [(.int (own_sel p4 2 p1 p3)), (.int (own_sel p4 1 p0 p2))])) _
    refine st12 _ ?_
    show Steps p.tables e below (T12.setTop (mkF m 66 #[.val (.int p0), .val (.int p1), .val (.int p2), .val (.int p3), .val (.int p4), .val (.int (own_sel p4 1 p0 p2)), .val (.int (own_sel p4 2 p1 p3)), .val (.ref b3), .val (.ref b7), .val (.long (own_key p0 p1)), .second, .unset, .unset, .unset, .unset] [(.long (own_key (own_sel p4 1 p0 p2) (own_sel p4 2 p1 p3)))])) _
    refine XS.lstore X12.here hx rfl (hb hby at_66) rfl (l' := #[.val (.int p0), .val (.int p1), .val (.int p2), .val (.int p3), .val (.int p4), .val (.int (own_sel p4 1 p0 p2)), .val (.int (own_sel p4 2 p1 p3)), .val (.ref b3), .val (.ref b7), .val (.long (own_key p0 p1)), .second, .val (.long (own_key (own_sel p4 1 p0 p2) (own_sel p4 2 p1 p3))), .second, .unset, .unset]) rfl ?_
    show Steps p.tables e below (T12.setTop (mkF m 68 #[.val (.int p0), .val (.int p1), .val (.int p2), .val (.int p3), .val (.int p4), .val (.int (own_sel p4 1 p0 p2)), .val (.int (own_sel p4 2 p1 p3)), .val (.ref b3), .val (.ref b7), .val (.long (own_key p0 p1)), .second, .val (.long (own_key (own_sel p4 1 p0 p2) (own_sel p4 2 p1 p3))), .second, .unset, .unset] [])) _
    refine XS.aload X12.here hx rfl (hb hby at_68) rfl rfl ?_
    show Steps p.tables e below (T12.setTop (mkF m 70 #[.val (.int p0), .val (.int p1), .val (.int p2), .val (.int p3), .val (.int p4), .val (.int (own_sel p4 1 p0 p2)), .val (.int (own_sel p4 2 p1 p3)), .val (.ref b3), .val (.ref b7), .val (.long (own_key p0 p1)), .second, .val (.long (own_key (own_sel p4 1 p0 p2) (own_sel p4 2 p1 p3))), .second, .unset, .unset] [(.ref b3)])) _
    refine XS.aload X12.here hx rfl (hb hby at_70) rfl rfl ?_
    show Steps p.tables e below (T12.setTop (mkF m 72 #[.val (.int p0), .val (.int p1), .val (.int p2), .val (.int p3), .val (.int p4), .val (.int (own_sel p4 1 p0 p2)), .val (.int (own_sel p4 2 p1 p3)), .val (.ref b3), .val (.ref b7), .val (.long (own_key p0 p1)), .second, .val (.long (own_key (own_sel p4 1 p0 p2) (own_sel p4 2 p1 p3))), .second, .unset, .unset] [(.ref b7), (.ref b3)])) _
    refine st13.trans ?_
    show Steps p.tables e below (T13.setTop (mkF m 75 #[.val (.int p0), .val (.int p1), .val (.int p2), .val (.int p3), .val (.int p4), .val (.int (own_sel p4 1 p0 p2)), .val (.int (own_sel p4 2 p1 p3)), .val (.ref b3), .val (.ref b7), .val (.long (own_key p0 p1)), .second, .val (.long (own_key (own_sel p4 1 p0 p2) (own_sel p4 2 p1 p3))), .second, .unset, .unset] [(.int (own_after p0 p1 (own_sel p4 1 p0 p2) (own_sel p4 2 p1 p3)))])) _
    refine XS.lload X13.here hx rfl (hb hby at_75) rfl ?_
    show Steps p.tables e below (T13.setTop (mkF m 77 #[.val (.int p0), .val (.int p1), .val (.int p2), .val (.int p3), .val (.int p4), .val (.int (own_sel p4 1 p0 p2)), .val (.int (own_sel p4 2 p1 p3)), .val (.ref b3), .val (.ref b7), .val (.long (own_key p0 p1)), .second, .val (.long (own_key (own_sel p4 1 p0 p2) (own_sel p4 2 p1 p3))), .second, .unset, .unset] [(.long (own_key p0 p1)), (.int (own_after p0 p1 (own_sel p4 1 p0 p2) (own_sel p4 2 p1 p3)))])) _
    refine XS.lload X13.here hx rfl (hb hby at_77) rfl ?_
    show Steps p.tables e below (T13.setTop (mkF m 79 #[.val (.int p0), .val (.int p1), .val (.int p2), .val (.int p3), .val (.int p4), .val (.int (own_sel p4 1 p0 p2)), .val (.int (own_sel p4 2 p1 p3)), .val (.ref b3), .val (.ref b7), .val (.long (own_key p0 p1)), .second, .val (.long (own_key (own_sel p4 1 p0 p2) (own_sel p4 2 p1 p3))), .second, .unset, .unset] [(.long (own_key (own_sel p4 1 p0 p2) (own_sel p4 2 p1 p3))), (.long (own_key p0 p1)), (.int (own_after p0 p1 (own_sel p4 1 p0 p2) (own_sel p4 2 p1 p3)))])) _
    refine XS.lcmp X13.here hx rfl (hb hby at_79) rfl ?_
    show Steps p.tables e below (T13.setTop (mkF m 80 #[.val (.int p0), .val (.int p1), .val (.int p2), .val (.int p3), .val (.int p4), .val (.int (own_sel p4 1 p0 p2)), .val (.int (own_sel p4 2 p1 p3)), .val (.ref b3), .val (.ref b7), .val (.long (own_key p0 p1)), .second, .val (.long (own_key (own_sel p4 1 p0 p2) (own_sel p4 2 p1 p3))), .second, .unset, .unset] [(.int (lcmpW (own_key p0 p1) (own_key (own_sel p4 1 p0 p2) (own_sel p4 2 p1 p3)))), (.int (own_after p0 p1 (own_sel p4 1 p0 p2) (own_sel p4 2 p1 p3)))])) _
    have j80_17 : ∀ t, Steps p.tables e below (T13.setTop (mkF m 88 #[.val (.int p0), .val (.int p1), .val (.int p2), .val (.int p3), .val (.int p4), .val (.int (own_sel p4 1 p0 p2)), .val (.int (own_sel p4 2 p1 p3)), .val (.ref b3), .val (.ref b7), .val (.long (own_key p0 p1)), .second, .val (.long (own_key (own_sel p4 1 p0 p2) (own_sel p4 2 p1 p3))), .second, .unset, .unset] [(.int (if (own_key (own_sel p4 1 p0 p2) (own_sel p4 2 p1 p3)) < (own_key p0 p1) then (1 : Int32) else (0 : Int32))), (.int (own_after p0 p1 (own_sel p4 1 p0 p2) (own_sel p4 2 p1 p3)))])) t → Steps p.tables e below (T13.setTop (mkF m 80 #[.val (.int p0), .val (.int p1), .val (.int p2), .val (.int p3), .val (.int p4), .val (.int (own_sel p4 1 p0 p2)), .val (.int (own_sel p4 2 p1 p3)), .val (.ref b3), .val (.ref b7), .val (.long (own_key p0 p1)), .second, .val (.long (own_key (own_sel p4 1 p0 p2) (own_sel p4 2 p1 p3))), .second, .unset, .unset] [(.int (lcmpW (own_key p0 p1) (own_key (own_sel p4 1 p0 p2) (own_sel p4 2 p1 p3)))), (.int (own_after p0 p1 (own_sel p4 1 p0 p2) (own_sel p4 2 p1 p3)))])) t := by
      intro t kt
      by_cases hj80_17 : (own_key (own_sel p4 1 p0 p2) (own_sel p4 2 p1 p3)) < (own_key p0 p1)
      · try simp only [if_pos hj80_17] at kt
        show Steps p.tables e below (T13.setTop (mkF m 80 #[.val (.int p0), .val (.int p1), .val (.int p2), .val (.int p3), .val (.int p4), .val (.int (own_sel p4 1 p0 p2)), .val (.int (own_sel p4 2 p1 p3)), .val (.ref b3), .val (.ref b7), .val (.long (own_key p0 p1)), .second, .val (.long (own_key (own_sel p4 1 p0 p2) (own_sel p4 2 p1 p3))), .second, .unset, .unset] [(.int (lcmpW (own_key p0 p1) (own_key (own_sel p4 1 p0 p2) (own_sel p4 2 p1 p3)))), (.int (own_after p0 p1 (own_sel p4 1 p0 p2) (own_sel p4 2 p1 p3)))])) _
        refine XS.ifNo X13.here hx rfl (hb hby at_80) rfl ((if0 _ _).trans (tlt ((lw_gt _ _).mpr hj80_17)).2.2.2) ?_
        show Steps p.tables e below (T13.setTop (mkF m 83 #[.val (.int p0), .val (.int p1), .val (.int p2), .val (.int p3), .val (.int p4), .val (.int (own_sel p4 1 p0 p2)), .val (.int (own_sel p4 2 p1 p3)), .val (.ref b3), .val (.ref b7), .val (.long (own_key p0 p1)), .second, .val (.long (own_key (own_sel p4 1 p0 p2) (own_sel p4 2 p1 p3))), .second, .unset, .unset] [(.int (own_after p0 p1 (own_sel p4 1 p0 p2) (own_sel p4 2 p1 p3)))])) _
        refine XS.iconst X13.here hx rfl (hb hby at_83) ?_
        show Steps p.tables e below (T13.setTop (mkF m 84 #[.val (.int p0), .val (.int p1), .val (.int p2), .val (.int p3), .val (.int p4), .val (.int (own_sel p4 1 p0 p2)), .val (.int (own_sel p4 2 p1 p3)), .val (.ref b3), .val (.ref b7), .val (.long (own_key p0 p1)), .second, .val (.long (own_key (own_sel p4 1 p0 p2) (own_sel p4 2 p1 p3))), .second, .unset, .unset] [(.int (1 : Int32)), (.int (own_after p0 p1 (own_sel p4 1 p0 p2) (own_sel p4 2 p1 p3)))])) _
        refine XS.goto X13.here hx rfl (pc0 := 84) (pc' := 88) rfl (hb hby at_84) (by decide) (by decide) ?_
        exact kt
      · try simp only [if_neg hj80_17] at kt
        show Steps p.tables e below (T13.setTop (mkF m 80 #[.val (.int p0), .val (.int p1), .val (.int p2), .val (.int p3), .val (.int p4), .val (.int (own_sel p4 1 p0 p2)), .val (.int (own_sel p4 2 p1 p3)), .val (.ref b3), .val (.ref b7), .val (.long (own_key p0 p1)), .second, .val (.long (own_key (own_sel p4 1 p0 p2) (own_sel p4 2 p1 p3))), .second, .unset, .unset] [(.int (lcmpW (own_key p0 p1) (own_key (own_sel p4 1 p0 p2) (own_sel p4 2 p1 p3)))), (.int (own_after p0 p1 (own_sel p4 1 p0 p2) (own_sel p4 2 p1 p3)))])) _
        refine XS.ifYes X13.here hx rfl (pc0 := 80) (pc' := 87) rfl (hb hby at_80) rfl ((if0 _ _).trans (flt (fun q => hj80_17 ((lw_gt _ _).mp q))).2.2.2) (by decide) (by decide) ?_
        show Steps p.tables e below (T13.setTop (mkF m 87 #[.val (.int p0), .val (.int p1), .val (.int p2), .val (.int p3), .val (.int p4), .val (.int (own_sel p4 1 p0 p2)), .val (.int (own_sel p4 2 p1 p3)), .val (.ref b3), .val (.ref b7), .val (.long (own_key p0 p1)), .second, .val (.long (own_key (own_sel p4 1 p0 p2) (own_sel p4 2 p1 p3))), .second, .unset, .unset] [(.int (own_after p0 p1 (own_sel p4 1 p0 p2) (own_sel p4 2 p1 p3)))])) _
        refine XS.iconst X13.here hx rfl (hb hby at_87) ?_
        exact kt
    refine j80_17 _ ?_
    show Steps p.tables e below (T13.setTop (mkF m 88 #[.val (.int p0), .val (.int p1), .val (.int p2), .val (.int p3), .val (.int p4), .val (.int (own_sel p4 1 p0 p2)), .val (.int (own_sel p4 2 p1 p3)), .val (.ref b3), .val (.ref b7), .val (.long (own_key p0 p1)), .second, .val (.long (own_key (own_sel p4 1 p0 p2) (own_sel p4 2 p1 p3))), .second, .unset, .unset] [(.int (if (own_key (own_sel p4 1 p0 p2) (own_sel p4 2 p1 p3)) < (own_key p0 p1) then (1 : Int32) else (0 : Int32))), (.int (own_after p0 p1 (own_sel p4 1 p0 p2) (own_sel p4 2 p1 p3)))])) _
    refine XS.icmpNo X13.here hx rfl (hb hby at_88) rfl (teq (own_cmp _ _ _ _)).2 ?_
    show Steps p.tables e below (T13.setTop (mkF m 91 #[.val (.int p0), .val (.int p1), .val (.int p2), .val (.int p3), .val (.int p4), .val (.int (own_sel p4 1 p0 p2)), .val (.int (own_sel p4 2 p1 p3)), .val (.ref b3), .val (.ref b7), .val (.long (own_key p0 p1)), .second, .val (.long (own_key (own_sel p4 1 p0 p2) (own_sel p4 2 p1 p3))), .second, .unset, .unset] [])) _
    refine XS.iconst X13.here hx rfl (hb hby at_91) ?_
    show Steps p.tables e below (T13.setTop (mkF m 92 #[.val (.int p0), .val (.int p1), .val (.int p2), .val (.int p3), .val (.int p4), .val (.int (own_sel p4 1 p0 p2)), .val (.int (own_sel p4 2 p1 p3)), .val (.ref b3), .val (.ref b7), .val (.long (own_key p0 p1)), .second, .val (.long (own_key (own_sel p4 1 p0 p2) (own_sel p4 2 p1 p3))), .second, .unset, .unset] [(.int (1 : Int32))])) _
    refine XS.goto X13.here hx rfl (pc0 := 92) (pc' := 96) rfl (hb hby at_92) (by decide) (by decide) ?_
    show Steps p.tables e below (T13.setTop (mkF m 96 #[.val (.int p0), .val (.int p1), .val (.int p2), .val (.int p3), .val (.int p4), .val (.int (own_sel p4 1 p0 p2)), .val (.int (own_sel p4 2 p1 p3)), .val (.ref b3), .val (.ref b7), .val (.long (own_key p0 p1)), .second, .val (.long (own_key (own_sel p4 1 p0 p2) (own_sel p4 2 p1 p3))), .second, .unset, .unset] [(.int (1 : Int32))])) _
    refine XS.istore X13.here hx rfl (hb hby at_96) rfl (l' := #[.val (.int p0), .val (.int p1), .val (.int p2), .val (.int p3), .val (.int p4), .val (.int (own_sel p4 1 p0 p2)), .val (.int (own_sel p4 2 p1 p3)), .val (.ref b3), .val (.ref b7), .val (.long (own_key p0 p1)), .second, .val (.long (own_key (own_sel p4 1 p0 p2) (own_sel p4 2 p1 p3))), .second, .val (.int (1 : Int32)), .unset]) rfl ?_
    show Steps p.tables e below (T13.setTop (mkF m 98 #[.val (.int p0), .val (.int p1), .val (.int p2), .val (.int p3), .val (.int p4), .val (.int (own_sel p4 1 p0 p2)), .val (.int (own_sel p4 2 p1 p3)), .val (.ref b3), .val (.ref b7), .val (.long (own_key p0 p1)), .second, .val (.long (own_key (own_sel p4 1 p0 p2) (own_sel p4 2 p1 p3))), .second, .val (.int (1 : Int32)), .unset] [])) _
    refine XS.aload X13.here hx rfl (hb hby at_98) rfl rfl ?_
    show Steps p.tables e below (T13.setTop (mkF m 100 #[.val (.int p0), .val (.int p1), .val (.int p2), .val (.int p3), .val (.int p4), .val (.int (own_sel p4 1 p0 p2)), .val (.int (own_sel p4 2 p1 p3)), .val (.ref b3), .val (.ref b7), .val (.long (own_key p0 p1)), .second, .val (.long (own_key (own_sel p4 1 p0 p2) (own_sel p4 2 p1 p3))), .second, .val (.int (1 : Int32)), .unset] [(.ref b7)])) _
    refine XS.aload X13.here hx rfl (hb hby at_100) rfl rfl ?_
    show Steps p.tables e below (T13.setTop (mkF m 102 #[.val (.int p0), .val (.int p1), .val (.int p2), .val (.int p3), .val (.int p4), .val (.int (own_sel p4 1 p0 p2)), .val (.int (own_sel p4 2 p1 p3)), .val (.ref b3), .val (.ref b7), .val (.long (own_key p0 p1)), .second, .val (.long (own_key (own_sel p4 1 p0 p2) (own_sel p4 2 p1 p3))), .second, .val (.int (1 : Int32)), .unset] [(.ref b3), (.ref b7)])) _
    refine st18.trans ?_
    show Steps p.tables e below (T18.setTop (mkF m 105 #[.val (.int p0), .val (.int p1), .val (.int p2), .val (.int p3), .val (.int p4), .val (.int (own_sel p4 1 p0 p2)), .val (.int (own_sel p4 2 p1 p3)), .val (.ref b3), .val (.ref b7), .val (.long (own_key p0 p1)), .second, .val (.long (own_key (own_sel p4 1 p0 p2) (own_sel p4 2 p1 p3))), .second, .val (.int (1 : Int32)), .unset] [(.int (own_after (own_sel p4 1 p0 p2) (own_sel p4 2 p1 p3) p0 p1))])) _
    refine XS.lload X18.here hx rfl (hb hby at_105) rfl ?_
    show Steps p.tables e below (T18.setTop (mkF m 107 #[.val (.int p0), .val (.int p1), .val (.int p2), .val (.int p3), .val (.int p4), .val (.int (own_sel p4 1 p0 p2)), .val (.int (own_sel p4 2 p1 p3)), .val (.ref b3), .val (.ref b7), .val (.long (own_key p0 p1)), .second, .val (.long (own_key (own_sel p4 1 p0 p2) (own_sel p4 2 p1 p3))), .second, .val (.int (1 : Int32)), .unset] [(.long (own_key (own_sel p4 1 p0 p2) (own_sel p4 2 p1 p3))), (.int (own_after (own_sel p4 1 p0 p2) (own_sel p4 2 p1 p3) p0 p1))])) _
    refine XS.lload X18.here hx rfl (hb hby at_107) rfl ?_
    show Steps p.tables e below (T18.setTop (mkF m 109 #[.val (.int p0), .val (.int p1), .val (.int p2), .val (.int p3), .val (.int p4), .val (.int (own_sel p4 1 p0 p2)), .val (.int (own_sel p4 2 p1 p3)), .val (.ref b3), .val (.ref b7), .val (.long (own_key p0 p1)), .second, .val (.long (own_key (own_sel p4 1 p0 p2) (own_sel p4 2 p1 p3))), .second, .val (.int (1 : Int32)), .unset] [(.long (own_key p0 p1)), (.long (own_key (own_sel p4 1 p0 p2) (own_sel p4 2 p1 p3))), (.int (own_after (own_sel p4 1 p0 p2) (own_sel p4 2 p1 p3) p0 p1))])) _
    refine XS.lcmp X18.here hx rfl (hb hby at_109) rfl ?_
    show Steps p.tables e below (T18.setTop (mkF m 110 #[.val (.int p0), .val (.int p1), .val (.int p2), .val (.int p3), .val (.int p4), .val (.int (own_sel p4 1 p0 p2)), .val (.int (own_sel p4 2 p1 p3)), .val (.ref b3), .val (.ref b7), .val (.long (own_key p0 p1)), .second, .val (.long (own_key (own_sel p4 1 p0 p2) (own_sel p4 2 p1 p3))), .second, .val (.int (1 : Int32)), .unset] [(.int (lcmpW (own_key (own_sel p4 1 p0 p2) (own_sel p4 2 p1 p3)) (own_key p0 p1))), (.int (own_after (own_sel p4 1 p0 p2) (own_sel p4 2 p1 p3) p0 p1))])) _
    have j110_19 : ∀ t, Steps p.tables e below (T18.setTop (mkF m 118 #[.val (.int p0), .val (.int p1), .val (.int p2), .val (.int p3), .val (.int p4), .val (.int (own_sel p4 1 p0 p2)), .val (.int (own_sel p4 2 p1 p3)), .val (.ref b3), .val (.ref b7), .val (.long (own_key p0 p1)), .second, .val (.long (own_key (own_sel p4 1 p0 p2) (own_sel p4 2 p1 p3))), .second, .val (.int (1 : Int32)), .unset] [(.int (if (own_key p0 p1) < (own_key (own_sel p4 1 p0 p2) (own_sel p4 2 p1 p3)) then (1 : Int32) else (0 : Int32))), (.int (own_after (own_sel p4 1 p0 p2) (own_sel p4 2 p1 p3) p0 p1))])) t → Steps p.tables e below (T18.setTop (mkF m 110 #[.val (.int p0), .val (.int p1), .val (.int p2), .val (.int p3), .val (.int p4), .val (.int (own_sel p4 1 p0 p2)), .val (.int (own_sel p4 2 p1 p3)), .val (.ref b3), .val (.ref b7), .val (.long (own_key p0 p1)), .second, .val (.long (own_key (own_sel p4 1 p0 p2) (own_sel p4 2 p1 p3))), .second, .val (.int (1 : Int32)), .unset] [(.int (lcmpW (own_key (own_sel p4 1 p0 p2) (own_sel p4 2 p1 p3)) (own_key p0 p1))), (.int (own_after (own_sel p4 1 p0 p2) (own_sel p4 2 p1 p3) p0 p1))])) t := by
      intro t kt
      by_cases hj110_19 : (own_key p0 p1) < (own_key (own_sel p4 1 p0 p2) (own_sel p4 2 p1 p3))
      · try simp only [if_pos hj110_19] at kt
        show Steps p.tables e below (T18.setTop (mkF m 110 #[.val (.int p0), .val (.int p1), .val (.int p2), .val (.int p3), .val (.int p4), .val (.int (own_sel p4 1 p0 p2)), .val (.int (own_sel p4 2 p1 p3)), .val (.ref b3), .val (.ref b7), .val (.long (own_key p0 p1)), .second, .val (.long (own_key (own_sel p4 1 p0 p2) (own_sel p4 2 p1 p3))), .second, .val (.int (1 : Int32)), .unset] [(.int (lcmpW (own_key (own_sel p4 1 p0 p2) (own_sel p4 2 p1 p3)) (own_key p0 p1))), (.int (own_after (own_sel p4 1 p0 p2) (own_sel p4 2 p1 p3) p0 p1))])) _
        refine XS.ifNo X18.here hx rfl (hb hby at_110) rfl ((if0 _ _).trans (tlt ((lw_gt _ _).mpr hj110_19)).2.2.2) ?_
        show Steps p.tables e below (T18.setTop (mkF m 113 #[.val (.int p0), .val (.int p1), .val (.int p2), .val (.int p3), .val (.int p4), .val (.int (own_sel p4 1 p0 p2)), .val (.int (own_sel p4 2 p1 p3)), .val (.ref b3), .val (.ref b7), .val (.long (own_key p0 p1)), .second, .val (.long (own_key (own_sel p4 1 p0 p2) (own_sel p4 2 p1 p3))), .second, .val (.int (1 : Int32)), .unset] [(.int (own_after (own_sel p4 1 p0 p2) (own_sel p4 2 p1 p3) p0 p1))])) _
        refine XS.iconst X18.here hx rfl (hb hby at_113) ?_
        show Steps p.tables e below (T18.setTop (mkF m 114 #[.val (.int p0), .val (.int p1), .val (.int p2), .val (.int p3), .val (.int p4), .val (.int (own_sel p4 1 p0 p2)), .val (.int (own_sel p4 2 p1 p3)), .val (.ref b3), .val (.ref b7), .val (.long (own_key p0 p1)), .second, .val (.long (own_key (own_sel p4 1 p0 p2) (own_sel p4 2 p1 p3))), .second, .val (.int (1 : Int32)), .unset] [(.int (1 : Int32)), (.int (own_after (own_sel p4 1 p0 p2) (own_sel p4 2 p1 p3) p0 p1))])) _
        refine XS.goto X18.here hx rfl (pc0 := 114) (pc' := 118) rfl (hb hby at_114) (by decide) (by decide) ?_
        exact kt
      · try simp only [if_neg hj110_19] at kt
        show Steps p.tables e below (T18.setTop (mkF m 110 #[.val (.int p0), .val (.int p1), .val (.int p2), .val (.int p3), .val (.int p4), .val (.int (own_sel p4 1 p0 p2)), .val (.int (own_sel p4 2 p1 p3)), .val (.ref b3), .val (.ref b7), .val (.long (own_key p0 p1)), .second, .val (.long (own_key (own_sel p4 1 p0 p2) (own_sel p4 2 p1 p3))), .second, .val (.int (1 : Int32)), .unset] [(.int (lcmpW (own_key (own_sel p4 1 p0 p2) (own_sel p4 2 p1 p3)) (own_key p0 p1))), (.int (own_after (own_sel p4 1 p0 p2) (own_sel p4 2 p1 p3) p0 p1))])) _
        refine XS.ifYes X18.here hx rfl (pc0 := 110) (pc' := 117) rfl (hb hby at_110) rfl ((if0 _ _).trans (flt (fun q => hj110_19 ((lw_gt _ _).mp q))).2.2.2) (by decide) (by decide) ?_
        show Steps p.tables e below (T18.setTop (mkF m 117 #[.val (.int p0), .val (.int p1), .val (.int p2), .val (.int p3), .val (.int p4), .val (.int (own_sel p4 1 p0 p2)), .val (.int (own_sel p4 2 p1 p3)), .val (.ref b3), .val (.ref b7), .val (.long (own_key p0 p1)), .second, .val (.long (own_key (own_sel p4 1 p0 p2) (own_sel p4 2 p1 p3))), .second, .val (.int (1 : Int32)), .unset] [(.int (own_after (own_sel p4 1 p0 p2) (own_sel p4 2 p1 p3) p0 p1))])) _
        refine XS.iconst X18.here hx rfl (hb hby at_117) ?_
        exact kt
    refine j110_19 _ ?_
    show Steps p.tables e below (T18.setTop (mkF m 118 #[.val (.int p0), .val (.int p1), .val (.int p2), .val (.int p3), .val (.int p4), .val (.int (own_sel p4 1 p0 p2)), .val (.int (own_sel p4 2 p1 p3)), .val (.ref b3), .val (.ref b7), .val (.long (own_key p0 p1)), .second, .val (.long (own_key (own_sel p4 1 p0 p2) (own_sel p4 2 p1 p3))), .second, .val (.int (1 : Int32)), .unset] [(.int (if (own_key p0 p1) < (own_key (own_sel p4 1 p0 p2) (own_sel p4 2 p1 p3)) then (1 : Int32) else (0 : Int32))), (.int (own_after (own_sel p4 1 p0 p2) (own_sel p4 2 p1 p3) p0 p1))])) _
    refine XS.icmpNo X18.here hx rfl (hb hby at_118) rfl (teq (own_cmp _ _ _ _)).2 ?_
    show Steps p.tables e below (T18.setTop (mkF m 121 #[.val (.int p0), .val (.int p1), .val (.int p2), .val (.int p3), .val (.int p4), .val (.int (own_sel p4 1 p0 p2)), .val (.int (own_sel p4 2 p1 p3)), .val (.ref b3), .val (.ref b7), .val (.long (own_key p0 p1)), .second, .val (.long (own_key (own_sel p4 1 p0 p2) (own_sel p4 2 p1 p3))), .second, .val (.int (1 : Int32)), .unset] [])) _
    refine XS.iconst X18.here hx rfl (hb hby at_121) ?_
    show Steps p.tables e below (T18.setTop (mkF m 122 #[.val (.int p0), .val (.int p1), .val (.int p2), .val (.int p3), .val (.int p4), .val (.int (own_sel p4 1 p0 p2)), .val (.int (own_sel p4 2 p1 p3)), .val (.ref b3), .val (.ref b7), .val (.long (own_key p0 p1)), .second, .val (.long (own_key (own_sel p4 1 p0 p2) (own_sel p4 2 p1 p3))), .second, .val (.int (1 : Int32)), .unset] [(.int (1 : Int32))])) _
    refine XS.goto X18.here hx rfl (pc0 := 122) (pc' := 126) rfl (hb hby at_122) (by decide) (by decide) ?_
    show Steps p.tables e below (T18.setTop (mkF m 126 #[.val (.int p0), .val (.int p1), .val (.int p2), .val (.int p3), .val (.int p4), .val (.int (own_sel p4 1 p0 p2)), .val (.int (own_sel p4 2 p1 p3)), .val (.ref b3), .val (.ref b7), .val (.long (own_key p0 p1)), .second, .val (.long (own_key (own_sel p4 1 p0 p2) (own_sel p4 2 p1 p3))), .second, .val (.int (1 : Int32)), .unset] [(.int (1 : Int32))])) _
    refine XS.istore X18.here hx rfl (hb hby at_126) rfl (l' := #[.val (.int p0), .val (.int p1), .val (.int p2), .val (.int p3), .val (.int p4), .val (.int (own_sel p4 1 p0 p2)), .val (.int (own_sel p4 2 p1 p3)), .val (.ref b3), .val (.ref b7), .val (.long (own_key p0 p1)), .second, .val (.long (own_key (own_sel p4 1 p0 p2) (own_sel p4 2 p1 p3))), .second, .val (.int (1 : Int32)), .val (.int (1 : Int32))]) rfl ?_
    show Steps p.tables e below (T18.setTop (mkF m 128 #[.val (.int p0), .val (.int p1), .val (.int p2), .val (.int p3), .val (.int p4), .val (.int (own_sel p4 1 p0 p2)), .val (.int (own_sel p4 2 p1 p3)), .val (.ref b3), .val (.ref b7), .val (.long (own_key p0 p1)), .second, .val (.long (own_key (own_sel p4 1 p0 p2) (own_sel p4 2 p1 p3))), .second, .val (.int (1 : Int32)), .val (.int (1 : Int32))] [])) _
    refine XS.iload X18.here hx rfl (hb hby at_128) rfl ?_
    show Steps p.tables e below (T18.setTop (mkF m 130 #[.val (.int p0), .val (.int p1), .val (.int p2), .val (.int p3), .val (.int p4), .val (.int (own_sel p4 1 p0 p2)), .val (.int (own_sel p4 2 p1 p3)), .val (.ref b3), .val (.ref b7), .val (.long (own_key p0 p1)), .second, .val (.long (own_key (own_sel p4 1 p0 p2) (own_sel p4 2 p1 p3))), .second, .val (.int (1 : Int32)), .val (.int (1 : Int32))] [(.int (1 : Int32))])) _
    refine XS.ifNo X18.here hx rfl (hb hby at_130) rfl ((if0 _ _).trans (feq (by decide)).1) ?_
    show Steps p.tables e below (T18.setTop (mkF m 133 #[.val (.int p0), .val (.int p1), .val (.int p2), .val (.int p3), .val (.int p4), .val (.int (own_sel p4 1 p0 p2)), .val (.int (own_sel p4 2 p1 p3)), .val (.ref b3), .val (.ref b7), .val (.long (own_key p0 p1)), .second, .val (.long (own_key (own_sel p4 1 p0 p2) (own_sel p4 2 p1 p3))), .second, .val (.int (1 : Int32)), .val (.int (1 : Int32))] [])) _
    refine XS.iload X18.here hx rfl (hb hby at_133) rfl ?_
    show Steps p.tables e below (T18.setTop (mkF m 135 #[.val (.int p0), .val (.int p1), .val (.int p2), .val (.int p3), .val (.int p4), .val (.int (own_sel p4 1 p0 p2)), .val (.int (own_sel p4 2 p1 p3)), .val (.ref b3), .val (.ref b7), .val (.long (own_key p0 p1)), .second, .val (.long (own_key (own_sel p4 1 p0 p2) (own_sel p4 2 p1 p3))), .second, .val (.int (1 : Int32)), .val (.int (1 : Int32))] [(.int (1 : Int32))])) _
    refine XS.ifNo X18.here hx rfl (hb hby at_135) rfl ((if0 _ _).trans (feq (by decide)).1) ?_
    show Steps p.tables e below (T18.setTop (mkF m 138 #[.val (.int p0), .val (.int p1), .val (.int p2), .val (.int p3), .val (.int p4), .val (.int (own_sel p4 1 p0 p2)), .val (.int (own_sel p4 2 p1 p3)), .val (.ref b3), .val (.ref b7), .val (.long (own_key p0 p1)), .second, .val (.long (own_key (own_sel p4 1 p0 p2) (own_sel p4 2 p1 p3))), .second, .val (.int (1 : Int32)), .val (.int (1 : Int32))] [])) _
    refine XS.iconst X18.here hx rfl (hb hby at_138) ?_
    show Steps p.tables e below (T18.setTop (mkF m 139 #[.val (.int p0), .val (.int p1), .val (.int p2), .val (.int p3), .val (.int p4), .val (.int (own_sel p4 1 p0 p2)), .val (.int (own_sel p4 2 p1 p3)), .val (.ref b3), .val (.ref b7), .val (.long (own_key p0 p1)), .second, .val (.long (own_key (own_sel p4 1 p0 p2) (own_sel p4 2 p1 p3))), .second, .val (.int (1 : Int32)), .val (.int (1 : Int32))] [(.int (1 : Int32))])) _
    refine XS.goto X18.here hx rfl (pc0 := 139) (pc' := 143) rfl (hb hby at_139) (by decide) (by decide) ?_
    show Steps p.tables e below (T18.setTop (mkF m 143 #[.val (.int p0), .val (.int p1), .val (.int p2), .val (.int p3), .val (.int p4), .val (.int (own_sel p4 1 p0 p2)), .val (.int (own_sel p4 2 p1 p3)), .val (.ref b3), .val (.ref b7), .val (.long (own_key p0 p1)), .second, .val (.long (own_key (own_sel p4 1 p0 p2) (own_sel p4 2 p1 p3))), .second, .val (.int (1 : Int32)), .val (.int (1 : Int32))] [(.int (1 : Int32))])) _
    exact retN X18 hx (t := .boolean) Bd.returns (by simp) (hb hby at_143) hr
  · show Q0 Z p0 h0 n0 _ T18.heap _
    rw [eq18]
    exact ⟨rfl, N18⟩
set_option maxRecDepth 65536 in
set_option maxHeartbeats 40000000 in
theorem comes_1 {Post : Tables → Env → Array Value → State → Outcome → State → Prop} (hpost : ∀ tb e args s v u, (limb_1_1.after args s (.returned v) u = true ∧ limb_1_2.after args s (.returned v) u = true ∧ True) → FrameEnd s (.returned v) u (Jvm.fieldLocs frame_1_writes args s ++ Jvm.arrayLocs frame_1_arrays args s ++ Jvm.staticLocs frame_1_statics s) 16 128 → Post tb e args s (.returned v) u) :
    ArmFor flags0 classFile x code maxLocals ret World_1 tables_1 room_1 Calls_1 rest_1 Pre_1 Post := by
  intro l hfl _ _ p e ha hc hk s m args below hf hA hF happ hP
  obtain ⟨hcalls, hrest, hpre⟩ := hP
  obtain ⟨-, -, -, hnamed, -, -, -, hat⟩ := (Spec.applies_iff hf).mp happ
  obtain ⟨hg, hn⟩ := and_e (Cond.before_iff.mp (show (Jvm.Cond.and given_1 narrow_1).before args s = true from hpre))
  obtain ⟨g1, g2⟩ := and_e hg
  obtain ⟨g3, g4⟩ := and_e g2
  obtain ⟨g5, g6⟩ := and_e g4
  obtain ⟨g7, g8⟩ := and_e g6
  obtain ⟨g9, g10⟩ := and_e g8
  obtain ⟨w0, w1, w2, w3, w4, rfl⟩ : ∃ w0 w1 w2 w3 w4 : Value, args = #[w0, w1, w2, w3, w4] := by
    have hs : args.size = 5 := by simpa [Cond.value, given_1] using g1
    obtain ⟨L⟩ := args
    match L, hs with
    | [w0, w1, w2, w3, w4], _ => exact ⟨w0, w1, w2, w3, w4, rfl⟩
  have hw := fun d (hd : d ∈ tables_1) => atoms_spec (ws := Jvm.Cond.code x code maxLocals ret :: tables_1) hat d (List.mem_cons_of_mem _ hd)
  have hfit : Fit s := fun {y c} hc i hi => by
    obtain ⟨ha, rfl⟩ := Array.getElem?_eq_some_iff.mp hc
    have q := List.all_eq_true.mp ((Array.all_eq_true_iff_forall_mem.mp hF) _ (Array.getElem_mem ha)) i (List.mem_range.mpr hi)
    simpa [Array.getElem?_eq_getElem hi] using q
  obtain ⟨i0, ei0⟩ := is_v g3
  obtain rfl : w0 = (.int i0) := Option.some.inj ei0
  obtain ⟨i1, ei1⟩ := is_v g5
  obtain rfl : w1 = (.int i1) := Option.some.inj ei1
  obtain ⟨i2, ei2⟩ := is_v g7
  obtain rfl : w2 = (.int i2) := Option.some.inj ei2
  obtain ⟨i3, ei3⟩ := is_v g9
  obtain rfl : w3 = (.int i3) := Option.some.inj ei3
  obtain ⟨i4, ei4⟩ := is_v g10
  obtain rfl : w4 = (.int i4) := Option.some.inj ei4
  obtain ⟨n, o, h1, h2, h3, _, L, rfl, ⟨rfl, N⟩, hq⟩ := rm0 l s _ hw tables_1 i0 i1 i2 i3 i4 s.heap s.heap.size (Nat.le_refl _) p e ha hc hk s m _ below hf ((Spec.applies_iff_loose hf).mp happ).1 ⟨rfl, State.Warmed39.refl s, rfl⟩ trivial
  refine ⟨n, _, h1, h2, h3, hpost _ _ _ _ _ _ ⟨Cond.after_iff.mpr rfl, Cond.after_iff.mpr (eq_i res_at (Term.int_eval (1)) rfl), trivial⟩ ⟨hq.1, hq.2.1, (hq.2.2.sift fun y hy => Or.inr (N y hy)).mono (by decide) (by decide)⟩⟩
theorem main_1_1 : Claimed_1_1 := comes_1 fun _ _ _ _ _ _ h hF => ⟨h.1, hF⟩
theorem main_1_2 : Claimed_1_2 := comes_1 fun _ _ _ _ _ _ h hF => ⟨h.2.1, hF⟩
end Jvm.Pilot.@@N@@
namespace Jvm.Pilot.@@N@@
open Jvm Jvm.ClassFile Sem Op Lib Jvm.Free Jvm.Stand Jvm.Pilot.@@N@@.Jvm.D
/-! MADE BY PROGRAM (witnessworld.py) out of the Statement's table words and the real class files: 10 classes; the members and pool entries that the words name. The judged class is class 1, her method 1. -/
namespace start1
open Jvm.ClassFile
def u (s : String) : CpInfo := .utf8 (stringToUtf16 s)
/-- a pool by its gaps: so many unusable entries, then the entry; so many at the end -/
def gap : Nat → List CpInfo → List CpInfo
  | 0, r => r
  | n + 1, r => .unusable :: gap n r
def poolList (es : List (Nat × CpInfo)) (last : Nat) : List CpInfo := es.foldr (fun e r => gap e.1 (e.2 :: r)) (gap last [])
def pool (es : List (Nat × CpInfo)) (last : Nat) : Array CpInfo := ⟨poolList es last⟩
def fileOf (pool : Array CpInfo) (this : Nat) (attrs : Array Attribute := #[]) (ms : Array MethodInfo := #[]) (fl : Nat := 33) (sup : Nat := 0) (ifs : Array Nat := #[]) (fds : Array FieldInfo := #[]) : ClassFile where
  minorVersion := 0
  majorVersion := 65
  constantPool := pool
  accessFlags := fl
  thisClass := this
  superClass := sup
  interfaces := ifs
  fields := fds
  methods := ms
  attributes := attrs
def plain (name : String) (sup : Option ClassId) : Class where
  name := name
  kind := .ordinary
  loader := none
  accessFlags := 33
  super := sup
  interfaces := #[]
  cf := none
  fields := #[]
  methods := #[]
  instanceTypes := #[]
  staticTypes := #[]
  resolved := #[]
  callSites := []
  init := .initialized
  statics := none
  mirror := none

def pool0 : Array CpInfo := pool [(5, u "<init>"), (0, u "()V"), (1, .class_ 10), (1, u "java/lang/Object")] 113

def k0c0 : Code := { maxStack := 0, maxLocals := 1, code := object_method_1_code, exceptionTable := #[], attributes := #[] }
def k0m0 : Method := { name := "<init>", desc := "()V", sig := { parameters := [], returnType := none }, accessFlags := 1, code := some k0c0 }
/-- java/lang/Object -/
def k0 : Class := { plain "java/lang/Object" none with
  accessFlags := 33
  interfaces := #[]
  cf := some (fileOf pool0 8 #[] #[{ accessFlags := 1, nameIndex := 5, descriptorIndex := 6, attributes := #[] }] 33 0 #[] #[])
  fields := #[]
  methods := #[k0m0]
  instanceTypes := #[]
  staticTypes := #[]
  resolved := Array.replicate 124 none
  statics := none }

def pool1 : Array CpInfo := pool [(2, .class_ 4), (1, u "java/lang/Object"), (0, u "<init>"), (0, u "()V"), (0, .class_ 8), (0, u "com/example/beliefwire/beliefwire/io/Tokenizer$Place"), (0, .methodref 7 10), (0, .nameAndType 5 11), (0, u "(II)V"), (0, .methodref 13 14), (0, .class_ 15), (0, .nameAndType 16 17), (0, u "com/example/beliefwire/beliefwire/io/PlaceIsAfterPinLaw"), (0, u "key"), (0, u "(II)J"), (0, .methodref 7 19), (0, .nameAndType 20 21), (0, u "isAfter"), (0, u "(Lcom/example/beliefwire/beliefwire/io/Tokenizer$Place;)Z"), (2, .long 18446744071562067968), (3, u "law"), (0, u "(IIIII)Z")] 7

def k1m0 : Method := { name := "<init>", desc := "()V", sig := { parameters := [], returnType := none }, accessFlags := 1, code := none }
def k1c1 : Code := { maxStack := 5, maxLocals := 15, code := code, exceptionTable := #[], attributes := #[] }
def k1m1 : Method := { name := "law", desc := "(IIIII)Z", sig := { parameters := [.int, .int, .int, .int, .int], returnType := some .boolean }, accessFlags := 9, code := some k1c1 }
def k1c2 : Code := { maxStack := 6, maxLocals := 2, code := method_3_code, exceptionTable := #[], attributes := #[] }
def k1m2 : Method := { name := "key", desc := "(II)J", sig := { parameters := [.int, .int], returnType := some .long }, accessFlags := 10, code := some k1c2 }
/-- com/example/beliefwire/beliefwire/io/PlaceIsAfterPinLaw -/
def k1 : Class := { plain "com/example/beliefwire/beliefwire/io/PlaceIsAfterPinLaw" (some 0) with
  accessFlags := 49
  interfaces := #[]
  cf := some (fileOf pool1 13 #[] #[{ accessFlags := 1, nameIndex := 5, descriptorIndex := 6, attributes := #[] }, { accessFlags := 9, nameIndex := 28, descriptorIndex := 29, attributes := #[] }, { accessFlags := 10, nameIndex := 16, descriptorIndex := 17, attributes := #[] }] 49 2 #[] #[])
  fields := #[]
  methods := #[k1m0, k1m1, k1m2]
  instanceTypes := #[]
  staticTypes := #[]
  resolved := Array.replicate 37 none
  statics := none }

def pool2 : Array CpInfo := pool [(1, .methodref 2 3), (0, .class_ 4), (0, .nameAndType 5 6), (0, u "java/lang/Object"), (0, u "<init>"), (0, u "()V"), (0, .class_ 8), (0, u "java/lang/Record")] 13

def k2c0 : Code := { maxStack := 1, maxLocals := 1, code := jdk_30_method_1_code, exceptionTable := #[], attributes := #[] }
def k2m0 : Method := { name := "<init>", desc := "()V", sig := { parameters := [], returnType := none }, accessFlags := 4, code := some k2c0 }
/-- java/lang/Record -/
def k2 : Class := { plain "java/lang/Record" (some 0) with
  accessFlags := 1057
  interfaces := #[]
  cf := some (fileOf pool2 7 #[] #[{ accessFlags := 4, nameIndex := 5, descriptorIndex := 6, attributes := #[] }] 1057 2 #[] #[])
  fields := #[]
  methods := #[k2m0]
  instanceTypes := #[]
  staticTypes := #[]
  resolved := Array.replicate 22 none
  statics := none }

def pool3 : Array CpInfo := pool [(1, .methodref 2 3), (0, .class_ 4), (0, .nameAndType 5 6), (0, u "java/lang/Record"), (0, u "<init>"), (0, u "()V"), (0, .fieldref 8 9), (0, .class_ 10), (0, .nameAndType 11 12), (0, u "com/example/beliefwire/beliefwire/io/Tokenizer$Place"), (0, u "line"), (0, u "I"), (0, .fieldref 8 14), (0, .nameAndType 15 12), (0, u "column"), (12, u "(II)V"), (3, u "isAfter"), (0, u "(Lcom/example/beliefwire/beliefwire/io/Tokenizer$Place;)Z"), (7, .class_ 42), (0, u "com/example/beliefwire/beliefwire/io/Tokenizer")] 20

def k3c0 : Code := { maxStack := 2, maxLocals := 3, code := prog_50_method_1_code, exceptionTable := #[], attributes := #[] }
def k3m0 : Method := { name := "<init>", desc := "(II)V", sig := { parameters := [.int, .int], returnType := none }, accessFlags := 0, code := some k3c0 }
def k3c1 : Code := { maxStack := 2, maxLocals := 2, code := prog_50_method_2_code, exceptionTable := #[], attributes := #[] }
def k3m1 : Method := { name := "isAfter", desc := "(Lcom/example/beliefwire/beliefwire/io/Tokenizer$Place;)Z", sig := { parameters := [(.object "com/example/beliefwire/beliefwire/io/Tokenizer$Place")], returnType := some .boolean }, accessFlags := 0, code := some k3c1 }
/-- com/example/beliefwire/beliefwire/io/Tokenizer$Place -/
def k3 : Class := { plain "com/example/beliefwire/beliefwire/io/Tokenizer$Place" (some 2) with
  accessFlags := 48
  interfaces := #[]
  cf := some (fileOf pool3 8 #[.nestHost 41] #[{ accessFlags := 0, nameIndex := 5, descriptorIndex := 28, attributes := #[] }, { accessFlags := 0, nameIndex := 32, descriptorIndex := 33, attributes := #[] }] 48 2 #[] #[{ accessFlags := 18, nameIndex := 11, descriptorIndex := 12, attributes := #[] }, { accessFlags := 18, nameIndex := 15, descriptorIndex := 12, attributes := #[] }])
  fields := #[{ name := "line", type := .int, accessFlags := 18, slot := 0, constantValue := 0 }, { name := "column", type := .int, accessFlags := 18, slot := 1, constantValue := 0 }]
  methods := #[k3m0, k3m1]
  instanceTypes := #[.int, .int]
  staticTypes := #[]
  resolved := Array.replicate 63 none
  statics := none }

def pool4 : Array CpInfo := pool [(1, u "java/lang/Cloneable"), (0, .class_ 1), (0, u "java/lang/Object"), (0, .class_ 3)] 3

/-- java/lang/Cloneable -/
def k4 : Class := { plain "java/lang/Cloneable" (some 0) with
  accessFlags := 1537
  interfaces := #[]
  cf := some (fileOf pool4 2 #[] #[] 1537 4 #[] #[])
  fields := #[]
  methods := #[]
  instanceTypes := #[]
  staticTypes := #[]
  resolved := Array.replicate 8 none
  statics := none }

def pool5 : Array CpInfo := pool [(1, u "java/io/Serializable"), (0, .class_ 1), (0, u "java/lang/Object"), (0, .class_ 3)] 3

/-- java/io/Serializable -/
def k5 : Class := { plain "java/io/Serializable" (some 0) with
  accessFlags := 1537
  interfaces := #[]
  cf := some (fileOf pool5 2 #[] #[] 1537 4 #[] #[])
  fields := #[]
  methods := #[]
  instanceTypes := #[]
  staticTypes := #[]
  resolved := Array.replicate 8 none
  statics := none }

/-- the primitive byte -/
def k6 : Class := { plain "byte" none with kind := .primitive 'B', accessFlags := 0x411 }
/-- [B -/
def k7 : Class := { plain "[B" (some 0) with kind := .array 6 .byte, interfaces := #[4, 5], accessFlags := 1041 }

/-- the primitive int -/
def k8 : Class := { plain "int" none with kind := .primitive 'I', accessFlags := 0x411 }
/-- [I -/
def k9 : Class := { plain "[I" (some 0) with kind := .array 8 .int, interfaces := #[4, 5], accessFlags := 1041 }

def heap : Heap := #[]
def classes : Array Class := #[k0, k1, k2, k3, k4, k5, k6, k7, k8, k9]
def interned : List (Array UInt16 × Addr) := []
def slotsUsed : Nat := 0
def theMethod : MethodId := ⟨1, 1⟩
def args0 : Array Value := #[.int 5, .int 6, .int 7, .int 8, .int 1]
def aboutOver (below : List Frame) : State where
  vm := { classes := classes, interned := interned.toArray }
  heap := heap
  slotsUsed := slotsUsed
  threads := #[{ frames := .invoking theMethod args0 :: below }]
def below0 : List Frame := [.native { method := ⟨0, 0⟩, args := #[] }]
def about1 : State := aboutOver below0
def p0 : Program := .bare "" "" ""
def e0 : Env := launch0.env 0 0 0
theorem w_frames : about1.frames = Frame.invoking theMethod args0 :: below0 := rfl
set_option maxRecDepth 65536 in
theorem w_args : argsFit about1.vm theMethod args0 = true := by decide +kernel
set_option maxRecDepth 65536 in
theorem w_heap : heapFits about1 = true := by decide +kernel
set_option maxRecDepth 65536 in
theorem w_runnable : about1.curStatus? = some .runnable := by decide +kernel
set_option maxRecDepth 65536 in
theorem w_alone : about1.alone = true := by decide +kernel
set_option maxRecDepth 65536 in
theorem w_named : about1.methodNamed? x = some theMethod := by decide +kernel
set_option maxRecDepth 65536 in
theorem w_hears : about1.hears theMethod below0 = true := by decide +kernel
set_option maxRecDepth 65536 in
theorem w_ripe : about1.ripe theMethod args0 below0 = true := by decide +kernel
theorem w_running : about1.status = .running := rfl
set_option maxRecDepth 65536 in
theorem w_room : about1.hasRoom e0.platform room_1 = true :=
  launch0.hasRoom_least _ room_1 (by decide +kernel) (by decide +kernel) (by decide +kernel) (by decide +kernel) (by decide +kernel) (by decide +kernel)
theorem allAtoms_all (ts : List Jvm.Cond) (a : Array Jvm.Value) (st : Jvm.State) : (allAtoms ts).before a st = ts.all (fun c => c.before a st) := by
  induction ts with
  | nil => rfl
  | cons c t ih =>
    show (Jvm.Cond.and c (allAtoms t)).before a st = _
    rw [Jvm.Cond.before_and, ih, List.all_cons]
def words1 : List Jvm.Cond := Jvm.Cond.code x code maxLocals ret :: tables_1
/-- a 'code' word, met by the world's own term for the bytes: nothing is compared byte by byte -/
theorem code_word {y : MethodName} {bytes : ByteArray} {mx : Nat} {rt : Option FieldType} {a : Array Value} {s : State} {m : MethodId} {meth : Method} {c : Code} (h1 : s.methodNamed? y = some m) (h2 : s.vm.method? m = some meth) (h3 : meth.code = some c) (h4 : c.code = bytes)
    (h5 : (c.maxLocals == mx && c.exceptionTable.isEmpty && decide (c.maxStack ≤ mostOperands) && decide (meth.sig.returnType = rt) && !meth.locks && decide (parseMethodDescriptor y.desc = some meth.sig)) = true) : (Jvm.Cond.code y bytes mx rt).before a s = true := by
  simp only [Bool.and_eq_true, beq_iff_eq, Bool.not_eq_true', decide_eq_true_eq] at h5
  obtain ⟨⟨⟨⟨⟨g1, g2⟩, g3⟩, g4⟩, g5⟩, g6⟩ := h5
  simp [Cond.before, Cond.holds, Cond.value, h1, h2, h3, h4, g1, g2, g3, g4, g5, g6]
def isCode : Jvm.Cond → Bool
  | .code _ _ _ _ => true
  | _ => false
theorem all_split {L : List Jvm.Cond} {P : Jvm.Cond → Bool} (h1 : L.all (fun c => isCode c || P c) = true) (h2 : ∀ c ∈ L.filter isCode, P c = true) : L.all P = true := by
  refine List.all_eq_true.mpr fun c hc => ?_
  have h := List.all_eq_true.mp h1 c hc
  rcases Bool.eq_false_or_eq_true (isCode c) with hi | hi
  · exact h2 c (List.mem_filter.mpr ⟨hc, hi⟩)
  · simpa [hi] using h
set_option maxRecDepth 65536 in
theorem w_c0 : (Jvm.Cond.code x code maxLocals ret).before args0 about1 = true := code_word (m := ⟨1, 1⟩) (meth := k1m1) (c := k1c1) (by decide +kernel) rfl rfl rfl (by decide +kernel)
set_option maxRecDepth 65536 in
theorem w_c1 : (Jvm.Cond.code ({ cls := "com/example/beliefwire/beliefwire/io/Tokenizer$Place", name := "<init>", desc := "(II)V" } : Jvm.MethodName) prog_50_method_1_code (3 : Nat) (Option.none : Option Jvm.ClassFile.FieldType)).before args0 about1 = true := code_word (m := ⟨3, 0⟩) (meth := k3m0) (c := k3c0) (by decide +kernel) rfl rfl rfl (by decide +kernel)
set_option maxRecDepth 65536 in
theorem w_c2 : (Jvm.Cond.code ({ cls := "java/lang/Record", name := "<init>", desc := "()V" } : Jvm.MethodName) jdk_30_method_1_code (1 : Nat) (Option.none : Option Jvm.ClassFile.FieldType)).before args0 about1 = true := code_word (m := ⟨2, 0⟩) (meth := k2m0) (c := k2c0) (by decide +kernel) rfl rfl rfl (by decide +kernel)
set_option maxRecDepth 65536 in
theorem w_c3 : (Jvm.Cond.code ({ cls := "java/lang/Object", name := "<init>", desc := "()V" } : Jvm.MethodName) object_method_1_code (1 : Nat) (Option.none : Option Jvm.ClassFile.FieldType)).before args0 about1 = true := code_word (m := ⟨0, 0⟩) (meth := k0m0) (c := k0c0) (by decide +kernel) rfl rfl rfl (by decide +kernel)
set_option maxRecDepth 65536 in
theorem w_c4 : (Jvm.Cond.code ({ cls := "com/example/beliefwire/beliefwire/io/PlaceIsAfterPinLaw", name := "key", desc := "(II)J" } : Jvm.MethodName) method_3_code (2 : Nat) (Option.some Jvm.ClassFile.FieldType.long)).before args0 about1 = true := code_word (m := ⟨1, 2⟩) (meth := k1m2) (c := k1c2) (by decide +kernel) rfl rfl rfl (by decide +kernel)
set_option maxRecDepth 65536 in
theorem w_c5 : (Jvm.Cond.code ({ cls := "com/example/beliefwire/beliefwire/io/Tokenizer$Place", name := "isAfter", desc := "(Lcom/example/beliefwire/beliefwire/io/Tokenizer$Place;)Z" } : Jvm.MethodName) prog_50_method_2_code (2 : Nat) (Option.some Jvm.ClassFile.FieldType.boolean)).before args0 about1 = true := code_word (m := ⟨3, 1⟩) (meth := k3m1) (c := k3c1) (by decide +kernel) rfl rfl rfl (by decide +kernel)
def codes1 : List Jvm.Cond := [Jvm.Cond.code x code maxLocals ret, Jvm.Cond.code ({ cls := "com/example/beliefwire/beliefwire/io/Tokenizer$Place", name := "<init>", desc := "(II)V" } : Jvm.MethodName) prog_50_method_1_code (3 : Nat) (Option.none : Option Jvm.ClassFile.FieldType), Jvm.Cond.code ({ cls := "java/lang/Record", name := "<init>", desc := "()V" } : Jvm.MethodName) jdk_30_method_1_code (1 : Nat) (Option.none : Option Jvm.ClassFile.FieldType), Jvm.Cond.code ({ cls := "java/lang/Object", name := "<init>", desc := "()V" } : Jvm.MethodName) object_method_1_code (1 : Nat) (Option.none : Option Jvm.ClassFile.FieldType), Jvm.Cond.code ({ cls := "com/example/beliefwire/beliefwire/io/PlaceIsAfterPinLaw", name := "key", desc := "(II)J" } : Jvm.MethodName) method_3_code (2 : Nat) (Option.some Jvm.ClassFile.FieldType.long), Jvm.Cond.code ({ cls := "com/example/beliefwire/beliefwire/io/Tokenizer$Place", name := "isAfter", desc := "(Lcom/example/beliefwire/beliefwire/io/Tokenizer$Place;)Z" } : Jvm.MethodName) prog_50_method_2_code (2 : Nat) (Option.some Jvm.ClassFile.FieldType.boolean)]
set_option maxRecDepth 65536 in
theorem codes_eq : words1.filter isCode = codes1 := rfl
theorem w_codes : ∀ c ∈ words1.filter isCode, c.before args0 about1 = true := by
  rw [codes_eq]
  intro c hc
  simp only [codes1, List.mem_cons, List.not_mem_nil, or_false] at hc
  rcases hc with rfl | rfl | rfl | rfl | rfl | rfl
  · exact w_c0
  · exact w_c1
  · exact w_c2
  · exact w_c3
  · exact w_c4
  · exact w_c5
set_option maxRecDepth 65536 in
theorem w_t1 : (words1.take 24).all (fun c => isCode c || c.before args0 about1) = true := by decide +kernel
set_option maxRecDepth 65536 in
theorem w_t2 : (words1.drop 24).all (fun c => isCode c || c.before args0 about1) = true := by decide +kernel
theorem w_tables : (allAtoms (Jvm.Cond.code x code maxLocals ret :: tables_1)).before args0 about1 = true := by
  rw [allAtoms_all]
  show words1.all (fun c => c.before args0 about1) = true
  refine all_split ?_ w_codes
  rw [← List.take_append_drop 24 words1, List.all_append, w_t1, w_t2]
  rfl
set_option maxRecDepth 65536 in
theorem w_case : (Jvm.Cond.and given_1 narrow_1).before args0 about1 = true := by decide +kernel
theorem w_applies : (headSpec (Jvm.Cond.code x code maxLocals ret :: tables_1) room_1).applies x e0.platform about1 = true :=
  (Spec.applies_iff w_frames).mpr ⟨w_running, w_runnable, w_alone, w_named, w_hears, w_ripe, w_room, w_tables⟩
theorem atStart : AtStart classFile x code maxLocals ret World_1 tables_1 room_1 Calls_1 rest_1 Pre_1 launch0 p0 e0 about1 theMethod args0 below0 :=
  ⟨lists_1, trivial, launch0.admits_env _ _ _, launch0.least_env, fairChoices_fair.cas, fairChoices_fair.clock, w_frames, w_args, w_heap, w_applies, trivial, trivial, w_case⟩
end start1
theorem witness_1 : WitnessClaimed_1 := ⟨start1.p0, start1.e0, start1.about1, start1.theMethod, start1.args0, start1.below0, start1.atStart⟩
end Jvm.Pilot.@@N@@
