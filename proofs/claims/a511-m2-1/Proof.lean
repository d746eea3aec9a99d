import JvmDerived
import JvmDerived.Pilot.@@N@@Statement
import JvmDerived.Pilot.@@N@@Code
set_option linter.unusedVariables false
set_option linter.unusedSimpArgs false
namespace Jvm.RoadKit
open Sem ClassFile Op Lib Jvm.Stand Jvm.Free Jvm.LawKit
section New
variable {p : Program} {l : Launch} {e : Env} {R : Room} {s : State} {m : MethodId} {args : Array Value} {below : List Frame} {meth : Method} {c : Code} {T : State} {locs : List Loc} {cells slots : Nat}
theorem retI (X : Stand p l e R s m args below meth c T locs cells slots) (hx : p.tables.exec = Jvm.exec) {pc : Nat} {Ls : Array Slot} {z : Int32} {rest : List Value} (hret : meth.sig.returnType = some .int) (hd : decode c.code pc = .ok (.ireturn, 1)) {fs : List Frame}
    (hl : ∀ (f : JFrame) (acts : List Action), f.method = m → f.locked = none → f.entered = [] → (doReturn e (T.setTop f) acts (some (.int z))).1 = T.setFrames fs) : Steps p.tables e below (T.setTop (mkF m pc Ls (.int z :: rest))) (T.setFrames fs) := by
  have hm' : T.vm.method? m = some meth := X.method'
  have hn : narrow .int (.int z) = .int z := rfl
  show Steps p.tables e below (T.setTop { method := m, pc := pc, locals := Ls, stack := _ :: rest, locked := none }) _
  jvm_step X.here [X.here.top, hx, hd, hm', hret, hn]
  first | (intro acts; rw [hl _ acts rfl rfl rfl]) | rw [hl _ _ rfl rfl rfl]
  exact Steps.refl _
end New
end Jvm.RoadKit
namespace Jvm.Pilot.@@N@@
open Jvm Jvm.ClassFile Sem Op Lib Jvm.Free Jvm.Stand Jvm.LawKit Jvm.RoadKit Bundle Jvm.Pilot.@@N@@.Jvm.D
theorem own_256 {n : Nat} (hsz : n < 2 ^ 31) (h : n.toInt32 = (256 : Int32)) : n = 256 := by
  have e : (n.toInt32).toInt = n := by
    have : (n.toInt32).toInt = (n : Int).bmod (2 ^ 32) := by simp [Nat.toInt32, Int32.size]
    rw [this]; simp [Int.bmod]; omega
  rw [h] at e
  have : ((256 : Int32)).toInt = 256 := by decide
  omega
theorem own_ns0 {Z : State} {c t : ClassId} {k : Class} (ne : c ≠ t) (h2 : Z.vm.classes[c]? = some k) (h3 : k.super = none) (fuel : Nat) : Z.vm.isSubclassAux fuel c t = false := by
  cases fuel with
  | zero => rfl
  | succ f => simp [Vm.isSubclassAux, ne, h2, h3]
theorem own_ns1 {Z : State} {c t p : ClassId} {k : Class} (ne : c ≠ t) (h2 : Z.vm.classes[c]? = some k) (h3 : k.super = some p) (ih : ∀ fuel, Z.vm.isSubclassAux fuel p t = false) (fuel : Nat) : Z.vm.isSubclassAux fuel c t = false := by
  cases fuel with
  | zero => rfl
  | succ f => simp [Vm.isSubclassAux, ne, h2, h3, ih]
theorem own_no (Z : State) (a0 : Array Value) (hw : ∀ d ∈ tables_1, d.before a0 Z = true) : ∃ c t, Z.vm.findClass "java/lang/Long" = some c ∧ Z.vm.findClass "com/example/copyleaf/copyleaf/format/ChunkRef" = some t ∧ Z.vm.assignable c t = false := by
  obtain ⟨t, kt, g1, g2, g3, g4, -⟩ := Cond.instantiable_spec (hw _ (List.mem_of_getElem? (i := 1) rfl))
  obtain ⟨c0, k0, r1, a2, a3, -, -⟩ := Cond.noSuperclass_spec (hw _ (List.mem_of_getElem? (i := 39) rfl))
  obtain ⟨c1, b0⟩ := found_sup (hw _ (List.mem_of_getElem? (i := 38) rfl))
  obtain ⟨p1, k1, kp1, b1, b2, -, b4, b5, -⟩ := Cond.superclass_spec b0 (hw _ (List.mem_of_getElem? (i := 38) rfl))
  obtain ⟨c2, d0⟩ := found_sup (hw _ (List.mem_of_getElem? (i := 37) rfl))
  obtain ⟨p2, k2, kp2, d1, d2, -, d4, d5, -, d7⟩ := Cond.superclass_spec d0 (hw _ (List.mem_of_getElem? (i := 37) rfl))
  cases r1.symm.trans b1
  cases b0.symm.trans d1
  have n0 := own_ns0 (Z := Z) (ids_ne r1 g1 (by decide)) a2 a3
  have n1 := own_ns1 (ids_ne b0 g1 (by decide)) b2 b4 n0
  have ne := ids_ne d0 g1 (by decide)
  have n2 := own_ns1 ne d2 d4 n1
  have g5 : kt.isInterface = false := (Bool.or_eq_false_iff.mp g4).1
  refine ⟨c2, t, d0, g1, ?_⟩
  show Z.vm.assignableAux (255 + 1) c2 t = false
  simp [Vm.assignableAux, ne, d2, g2, d5, g3, g5, Vm.isSubclass, n2]
theorem d2_0 : decode jdk_30_method_1_code 0 = .ok (.aload_n 0, 1) := by decide +kernel
theorem d2_1 : decode jdk_30_method_1_code 1 = .ok (.invokespecial 1, 3) := by decide +kernel
theorem d2_4 : decode jdk_30_method_1_code 4 = .ok (.return_, 1) := by decide +kernel
def Q2 (h0 : Heap) (n0 : Nat) (v : Option Value) (h : Heap) (L : List Loc) : Prop := v = none ∧ Fr n0 L ∧ h = h0
theorem pn_java_lang_Record : plainName "java/lang/Record" = true := by first | (simp [plainName, overriddenIn]; done) | decide +kernel
theorem ef_2 (m : MethodId) (r0 : Addr) : entryFrame m #[(.ref r0)] 1 = mkF m 0 #[.val (.ref r0)] [] := by first | (simp [entryFrame, mkF, argsToLocals, Value.category]; done) | rfl
set_option maxRecDepth 65536 in
set_option maxHeartbeats 40000000 in
theorem rm2 (l : Launch) (Z : State) (a0 : Array Value) (hw : ∀ d ∈ tables_1, d.before a0 Z = true) (ws : List Jvm.Cond) (r0 : Addr)  (h0 : Heap) (n0 : Nat) (Z0 : n0 ≤ h0.size)  :
    MetFree l (⟨"java/lang/Record", "<init>", "()V"⟩ : MethodName) (head1 (Jvm.Cond.code (⟨"java/lang/Record", "<init>", "()V"⟩ : MethodName) jdk_30_method_1_code 1 none :: ws) ({ frames := 1, cells := 0, slots := 0, locals := 12 } : Room)) (fun a U => a = #[(.ref r0)] ∧ Z.Warmed39 U.vm ∧ U.heap = h0) (fun _ _ _ _ _ => True) (fun _ U o U' => ∃ v L, o = .returned v ∧ Q2 h0 n0 v U'.heap L ∧ FrameEnd U o U' L ({ frames := 1, cells := 0, slots := 0, locals := 12 } : Room).cells ({ frames := 1, cells := 0, slots := 0, locals := 12 } : Room).slots) := by
  refine MetFree.of_bodySF (plainFor_of_name pn_java_lang_Record) hisR ?_
  intro p e s m args below meth c s₁ Bd hml0 hP hK
  obtain ⟨rfl, hZ, hh⟩ := hP
  have hx := Bd.exec
  have hby := Bd.bytes
  have hml : c.maxLocals = 1 := hml0
  have hown : s.vm.findClass "java/lang/Record" = some m.cls := findClass_of_methodNamed Bd.named
  have hnm := (name_of_methodNamed Bd.named Bd.method).1
  have X0 : Stand p l e ({ frames := 1, cells := 0, slots := 0, locals := 12 } : Room) s m #[(.ref r0)] below meth c s₁ [] 0 0 := Stand.of_body Bd
  have e0 : s₁.heap = h0 := by rw [← hh, Bd.state]; rfl
  have N0 := Fr.nil n0
  have pre0 : ∀ t, Steps p.tables e below (s₁.setTop (mkF m 0 #[.val (.ref r0)] [])) t → Steps p.tables e below (s₁.setTop (entryFrame m #[(.ref r0)] 1)) t := fun t k => castTop (ef_2 m r0) k
  obtain ⟨T1, X1, e1, st1⟩ := initO X0 hx hZ hown (hw _ (List.mem_of_getElem? (i := 11) rfl)) (hw _ (List.mem_of_getElem? (i := 12) rfl)) (hw _ (List.mem_of_getElem? (i := 13) rfl)) e0 (g := (mkF m 1 #[.val (.ref r0)] [(.ref r0)])) rfl (by rw [hml]; rfl) rfl (hb hby d2_1) (by decide) (W := 0) (by show 2 * 0 + _ ≤ _; exact Nat.le_of_eq rfl) (by decide)
  obtain ⟨fs, hr, hrun, hended, hW, hsame⟩ := X1.leave (v := none) (fun _ => rfl)
  refine ⟨_, _, pre0 _ ?_, hrun, hended, _, _, rfl, ?_, ⟨_, rfl⟩, hW, hsame.mono (by decide) (by decide)⟩
  · show Steps p.tables e below (s₁.setTop (mkF m 0 #[.val (.ref r0)] [])) _
    refine XS.aloadN X0.here hx rfl (hb hby d2_0) rfl rfl ?_
    show Steps p.tables e below (s₁.setTop (mkF m 1 #[.val (.ref r0)] [(.ref r0)])) _
    refine st1 _ ?_
    show Steps p.tables e below (T1.setTop (mkF m 4 #[.val (.ref r0)] [])) _
    exact X1.returnOut hx Bd.returns (hb hby d2_4) hr
  · show Q2 h0 n0 _ T1.heap _
    rw [e1]
    exact ⟨rfl, N0, rfl⟩
theorem d7_0 : decode jdk_18_method_1_code 0 = .ok (.aload_n 0, 1) := by decide +kernel
theorem d7_1 : decode jdk_18_method_1_code 1 = .ok (.invokespecial 1, 3) := by decide +kernel
theorem d7_4 : decode jdk_18_method_1_code 4 = .ok (.return_, 1) := by decide +kernel
def Q7 (h0 : Heap) (n0 : Nat) (v : Option Value) (h : Heap) (L : List Loc) : Prop := v = none ∧ Fr n0 L ∧ h = h0
theorem pn_java_lang_Number : plainName "java/lang/Number" = true := by first | (simp [plainName, overriddenIn]; done) | decide +kernel
theorem ef_7 (m : MethodId) (r0 : Addr) : entryFrame m #[(.ref r0)] 1 = mkF m 0 #[.val (.ref r0)] [] := by first | (simp [entryFrame, mkF, argsToLocals, Value.category]; done) | rfl
set_option maxRecDepth 65536 in
set_option maxHeartbeats 40000000 in
theorem rm7 (l : Launch) (Z : State) (a0 : Array Value) (hw : ∀ d ∈ tables_1, d.before a0 Z = true) (ws : List Jvm.Cond) (r0 : Addr)  (h0 : Heap) (n0 : Nat) (Z0 : n0 ≤ h0.size)  :
    MetFree l (⟨"java/lang/Number", "<init>", "()V"⟩ : MethodName) (head1 (Jvm.Cond.code (⟨"java/lang/Number", "<init>", "()V"⟩ : MethodName) jdk_18_method_1_code 1 none :: ws) ({ frames := 1, cells := 0, slots := 0, locals := 12 } : Room)) (fun a U => a = #[(.ref r0)] ∧ Z.Warmed39 U.vm ∧ U.heap = h0) (fun _ _ _ _ _ => True) (fun _ U o U' => ∃ v L, o = .returned v ∧ Q7 h0 n0 v U'.heap L ∧ FrameEnd U o U' L ({ frames := 1, cells := 0, slots := 0, locals := 12 } : Room).cells ({ frames := 1, cells := 0, slots := 0, locals := 12 } : Room).slots) := by
  refine MetFree.of_bodySF (plainFor_of_name pn_java_lang_Number) hisR ?_
  intro p e s m args below meth c s₁ Bd hml0 hP hK
  obtain ⟨rfl, hZ, hh⟩ := hP
  have hx := Bd.exec
  have hby := Bd.bytes
  have hml : c.maxLocals = 1 := hml0
  have hown : s.vm.findClass "java/lang/Number" = some m.cls := findClass_of_methodNamed Bd.named
  have hnm := (name_of_methodNamed Bd.named Bd.method).1
  have X0 : Stand p l e ({ frames := 1, cells := 0, slots := 0, locals := 12 } : Room) s m #[(.ref r0)] below meth c s₁ [] 0 0 := Stand.of_body Bd
  have e0 : s₁.heap = h0 := by rw [← hh, Bd.state]; rfl
  have N0 := Fr.nil n0
  have pre0 : ∀ t, Steps p.tables e below (s₁.setTop (mkF m 0 #[.val (.ref r0)] [])) t → Steps p.tables e below (s₁.setTop (entryFrame m #[(.ref r0)] 1)) t := fun t k => castTop (ef_7 m r0) k
  obtain ⟨T1, X1, e1, st1⟩ := initO X0 hx hZ hown (hw _ (List.mem_of_getElem? (i := 52) rfl)) (hw _ (List.mem_of_getElem? (i := 12) rfl)) (hw _ (List.mem_of_getElem? (i := 13) rfl)) e0 (g := (mkF m 1 #[.val (.ref r0)] [(.ref r0)])) rfl (by rw [hml]; rfl) rfl (hb hby d7_1) (by decide) (W := 0) (by show 2 * 0 + _ ≤ _; exact Nat.le_of_eq rfl) (by decide)
  obtain ⟨fs, hr, hrun, hended, hW, hsame⟩ := X1.leave (v := none) (fun _ => rfl)
  refine ⟨_, _, pre0 _ ?_, hrun, hended, _, _, rfl, ?_, ⟨_, rfl⟩, hW, hsame.mono (by decide) (by decide)⟩
  · show Steps p.tables e below (s₁.setTop (mkF m 0 #[.val (.ref r0)] [])) _
    refine XS.aloadN X0.here hx rfl (hb hby d7_0) rfl rfl ?_
    show Steps p.tables e below (s₁.setTop (mkF m 1 #[.val (.ref r0)] [(.ref r0)])) _
    refine st1 _ ?_
    show Steps p.tables e below (T1.setTop (mkF m 4 #[.val (.ref r0)] [])) _
    exact X1.returnOut hx Bd.returns (hb hby d7_4) hr
  · show Q7 h0 n0 _ T1.heap _
    rw [e1]
    exact ⟨rfl, N0, rfl⟩
def Q1 (Z : State) (r0 : Addr) (q1 : Int64) (q2 : Int64) (q3 : Int64) (p4 : Int32) (h0 : Heap) (n0 : Nat) (v : Option Value) (h : Heap) (L : List Loc) : Prop := v = none ∧ Fr n0 L ∧ Keep h0 h [r0] ∧ Exa Z h r0 "com/example/copyleaf/copyleaf/format/ChunkRef" ∧ Fld Z h r0 "com/example/copyleaf/copyleaf/format/ChunkRef" "version" "J" (.long q1) ∧ Fld Z h r0 "com/example/copyleaf/copyleaf/format/ChunkRef" "position" "J" (.long q2) ∧ Fld Z h r0 "com/example/copyleaf/copyleaf/format/ChunkRef" "length" "J" (.long q3) ∧ Fld Z h r0 "com/example/copyleaf/copyleaf/format/ChunkRef" "part" "Z" (.int (nar .boolean p4))
theorem d1_0 : decode prog_25_method_2_code 0 = .ok (.aload_n 0, 1) := by decide +kernel
theorem d1_1 : decode prog_25_method_2_code 1 = .ok (.invokespecial 1, 3) := by decide +kernel
theorem pd__28_29V : parseMethodDescriptor "()V" = some ⟨[], none⟩ := by decide +kernel
theorem d1_4 : decode prog_25_method_2_code 4 = .ok (.aload_n 0, 1) := by decide +kernel
theorem d1_5 : decode prog_25_method_2_code 5 = .ok (.lload_n 1, 1) := by decide +kernel
theorem d1_6 : decode prog_25_method_2_code 6 = .ok (.putfield 7, 3) := by decide +kernel
theorem d1_9 : decode prog_25_method_2_code 9 = .ok (.aload_n 0, 1) := by decide +kernel
theorem d1_10 : decode prog_25_method_2_code 10 = .ok (.lload_n 3, 1) := by decide +kernel
theorem d1_11 : decode prog_25_method_2_code 11 = .ok (.putfield 13, 3) := by decide +kernel
theorem d1_14 : decode prog_25_method_2_code 14 = .ok (.aload_n 0, 1) := by decide +kernel
theorem d1_15 : decode prog_25_method_2_code 15 = .ok (.lload 5, 2) := by decide +kernel
theorem d1_17 : decode prog_25_method_2_code 17 = .ok (.putfield 16, 3) := by decide +kernel
theorem d1_20 : decode prog_25_method_2_code 20 = .ok (.aload_n 0, 1) := by decide +kernel
theorem d1_21 : decode prog_25_method_2_code 21 = .ok (.iload 7, 2) := by decide +kernel
theorem d1_23 : decode prog_25_method_2_code 23 = .ok (.putfield 19, 3) := by decide +kernel
theorem d1_26 : decode prog_25_method_2_code 26 = .ok (.return_, 1) := by decide +kernel
theorem pn_com_example_copyleaf_copyleaf_format_ChunkRef : plainName "com/example/copyleaf/copyleaf/format/ChunkRef" = true := by first | (simp [plainName, overriddenIn]; done) | decide +kernel
theorem ef_1 (m : MethodId) (r0 : Addr) (q1 : Int64) (q2 : Int64) (q3 : Int64) (p4 : Int32) : entryFrame m #[(.ref r0), (.long q1), (.long q2), (.long q3), (.int p4)] 8 = mkF m 0 #[.val (.ref r0), .val (.long q1), .second, .val (.long q2), .second, .val (.long q3), .second, .val (.int p4)] [] := by first | (simp [entryFrame, mkF, argsToLocals, Value.category]; done) | rfl
set_option maxRecDepth 65536 in
set_option maxHeartbeats 40000000 in
theorem rm1 (l : Launch) (Z : State) (a0 : Array Value) (hw : ∀ d ∈ tables_1, d.before a0 Z = true) (ws : List Jvm.Cond) (r0 : Addr) (q1 : Int64) (q2 : Int64) (q3 : Int64) (p4 : Int32) (u_version u_position u_length u_part : Value) (h0 : Heap) (n0 : Nat) (Z0 : n0 ≤ h0.size) (Ea : Exa Z h0 r0 "com/example/copyleaf/copyleaf/format/ChunkRef") (F_version : Fld Z h0 r0 "com/example/copyleaf/copyleaf/format/ChunkRef" "version" "J" u_version) (F_position : Fld Z h0 r0 "com/example/copyleaf/copyleaf/format/ChunkRef" "position" "J" u_position) (F_length : Fld Z h0 r0 "com/example/copyleaf/copyleaf/format/ChunkRef" "length" "J" u_length) (F_part : Fld Z h0 r0 "com/example/copyleaf/copyleaf/format/ChunkRef" "part" "Z" u_part) (ga : n0 ≤ r0) :
    MetFree l (⟨"com/example/copyleaf/copyleaf/format/ChunkRef", "<init>", "(JJJZ)V"⟩ : MethodName) (head1 (Jvm.Cond.code (⟨"com/example/copyleaf/copyleaf/format/ChunkRef", "<init>", "(JJJZ)V"⟩ : MethodName) prog_25_method_2_code 8 none :: ws) ({ frames := 2, cells := 0, slots := 0, locals := 24 } : Room)) (fun a U => a = #[(.ref r0), (.long q1), (.long q2), (.long q3), (.int p4)] ∧ Z.Warmed39 U.vm ∧ U.heap = h0) (fun _ _ _ _ _ => True) (fun _ U o U' => ∃ v L, o = .returned v ∧ Q1 Z r0 q1 q2 q3 p4 h0 n0 v U'.heap L ∧ FrameEnd U o U' L ({ frames := 2, cells := 0, slots := 0, locals := 24 } : Room).cells ({ frames := 2, cells := 0, slots := 0, locals := 24 } : Room).slots) := by
  refine MetFree.of_bodySF (plainFor_of_name pn_com_example_copyleaf_copyleaf_format_ChunkRef) hisR ?_
  intro p e s m args below meth c s₁ Bd hml0 hP hK
  obtain ⟨rfl, hZ, hh⟩ := hP
  have hx := Bd.exec
  have hby := Bd.bytes
  have hml : c.maxLocals = 8 := hml0
  have hown : s.vm.findClass "com/example/copyleaf/copyleaf/format/ChunkRef" = some m.cls := findClass_of_methodNamed Bd.named
  have hnm := (name_of_methodNamed Bd.named Bd.method).1
  have X0 : Stand p l e ({ frames := 2, cells := 0, slots := 0, locals := 24 } : Room) s m #[(.ref r0), (.long q1), (.long q2), (.long q3), (.int p4)] below meth c s₁ [] 0 0 := Stand.of_body Bd
  have e0 : s₁.heap = h0 := by rw [← hh, Bd.state]; rfl
  have N0 := Fr.nil n0
  have pre0 : ∀ t, Steps p.tables e below (s₁.setTop (mkF m 0 #[.val (.ref r0), .val (.long q1), .second, .val (.long q2), .second, .val (.long q3), .second, .val (.int p4)] [])) t → Steps p.tables e below (s₁.setTop (entryFrame m #[(.ref r0), (.long q1), (.long q2), (.long q3), (.int p4)] 8)) t := fun t k => castTop (ef_1 m r0 q1 q2 q3 p4) k
  obtain ⟨_, _, ⟨T1, L1, k1, n1⟩, -, X1, ⟨Lc1, hQ1, l1, y1, z1⟩, st1⟩ := X0.specialBack hx (y := (⟨"java/lang/Record", "<init>", "()V"⟩ : MethodName)) rfl hown (mvT hZ (hw _ (List.mem_of_getElem? (i := 6) rfl))) (mvT hZ (hw _ (List.mem_of_getElem? (i := 7) rfl))) (mvT hZ (hw _ (List.mem_of_getElem? (i := 10) rfl))) (by decide) (backOf (W := 0) (rm2 l Z a0 hw [] r0  h0 n0 Z0 ) hZ (hw _ (List.mem_of_getElem? (i := 10) rfl)) (hw _ (List.mem_of_getElem? (i := 9) rfl)) (by decide) (by decide)) (g := (mkF m 1 #[.val (.ref r0), .val (.long q1), .second, .val (.long q2), .second, .val (.long q3), .second, .val (.int p4)] [(.ref r0)])) rfl (by rw [hml]; rfl) (Steps.refl _) (a := r0) (argsL := []) (rest := []) (lenOf pd__28_29V rfl) rfl (by show 2 * 0 + _ ≤ _; exact Nat.le_of_eq rfl) (hb hby d1_1) (fun _ _ => ⟨rfl, e0, (by decide : 0 + 0 ≤ _), (by decide : 0 + 0 ≤ _)⟩)
  dsimp only [Pt.U, Pt.locs, Pt.cells, Pt.slots] at X1 l1 y1 z1 st1 hQ1
  subst l1 y1 z1
  obtain ⟨rfl, N1q, e1⟩ := hQ1
  have N1 := Fr.app N0 N1q
  obtain ⟨T2, h2, X2, e2, W2, st2⟩ := putF X1 hx hZ hown (host := "") (Or.inl (hw _ (List.mem_of_getElem? (i := 14) rfl))) Via.refl e1 F_version Ea (Or.inr ⟨(hw _ (List.mem_of_getElem? (i := 15) rfl)), rfl, hnm⟩) (hw _ (List.mem_of_getElem? (i := 1) rfl)) (ty := .long) (by decide) rfl rfl (g := (mkF m 6 #[.val (.ref r0), .val (.long q1), .second, .val (.long q2), .second, .val (.long q3), .second, .val (.int p4)] [(.long q1), (.ref r0)])) rfl rfl (hb hby d1_6)
  have N2 := Fr.snoc X2 N1 ga
  have Fw2 := F_version.same W2
  have Ex3 := (Ea.wr W2)
  have Fd4 := (F_position.other W2 (Or.inr (slot_ne (Or.inr (hw _ (List.mem_of_getElem? (i := 17) rfl))) (Or.inr (hw _ (List.mem_of_getElem? (i := 15) rfl))) (by decide) (t := .long) (t' := .long) (by decide) (by decide))))
  obtain ⟨T5, h5, X5, e5, W5, st5⟩ := putF X2 hx hZ hown (host := "") (Or.inl (hw _ (List.mem_of_getElem? (i := 16) rfl))) Via.refl e2 Fd4 Ex3 (Or.inr ⟨(hw _ (List.mem_of_getElem? (i := 17) rfl)), rfl, hnm⟩) (hw _ (List.mem_of_getElem? (i := 1) rfl)) (ty := .long) (by decide) rfl rfl (g := (mkF m 11 #[.val (.ref r0), .val (.long q1), .second, .val (.long q2), .second, .val (.long q3), .second, .val (.int p4)] [(.long q2), (.ref r0)])) rfl rfl (hb hby d1_11)
  have N5 := Fr.snoc X5 N2 ga
  have Fw5 := Fd4.same W5
  have Ex6 := (Ex3.wr W5)
  have Fd7 := ((F_length.other W2 (Or.inr (slot_ne (Or.inr (hw _ (List.mem_of_getElem? (i := 19) rfl))) (Or.inr (hw _ (List.mem_of_getElem? (i := 15) rfl))) (by decide) (t := .long) (t' := .long) (by decide) (by decide)))).other W5 (Or.inr (slot_ne (Or.inr (hw _ (List.mem_of_getElem? (i := 19) rfl))) (Or.inr (hw _ (List.mem_of_getElem? (i := 17) rfl))) (by decide) (t := .long) (t' := .long) (by decide) (by decide))))
  obtain ⟨T8, h8, X8, e8, W8, st8⟩ := putF X5 hx hZ hown (host := "") (Or.inl (hw _ (List.mem_of_getElem? (i := 18) rfl))) Via.refl e5 Fd7 Ex6 (Or.inr ⟨(hw _ (List.mem_of_getElem? (i := 19) rfl)), rfl, hnm⟩) (hw _ (List.mem_of_getElem? (i := 1) rfl)) (ty := .long) (by decide) rfl rfl (g := (mkF m 17 #[.val (.ref r0), .val (.long q1), .second, .val (.long q2), .second, .val (.long q3), .second, .val (.int p4)] [(.long q3), (.ref r0)])) rfl rfl (hb hby d1_17)
  have N8 := Fr.snoc X8 N5 ga
  have Fw8 := Fd7.same W8
  have Ex9 := (Ex6.wr W8)
  have Fd10 := (((F_part.other W2 (Or.inr (slot_ne (Or.inr (hw _ (List.mem_of_getElem? (i := 21) rfl))) (Or.inr (hw _ (List.mem_of_getElem? (i := 15) rfl))) (by decide) (t := .boolean) (t' := .long) (by decide) (by decide)))).other W5 (Or.inr (slot_ne (Or.inr (hw _ (List.mem_of_getElem? (i := 21) rfl))) (Or.inr (hw _ (List.mem_of_getElem? (i := 17) rfl))) (by decide) (t := .boolean) (t' := .long) (by decide) (by decide)))).other W8 (Or.inr (slot_ne (Or.inr (hw _ (List.mem_of_getElem? (i := 21) rfl))) (Or.inr (hw _ (List.mem_of_getElem? (i := 19) rfl))) (by decide) (t := .boolean) (t' := .long) (by decide) (by decide))))
  obtain ⟨T11, h11, X11, e11, W11, st11⟩ := putFN X8 hx hZ hown (hw _ (List.mem_of_getElem? (i := 20) rfl)) Via.refl e8 Fd10 Ex9 (Or.inr ⟨(hw _ (List.mem_of_getElem? (i := 21) rfl)), rfl, hnm⟩) (hw _ (List.mem_of_getElem? (i := 1) rfl)) (ty := .boolean) (v' := (.int (nar .boolean p4))) (by decide) rfl (fits_nar_bool _) (g := (mkF m 23 #[.val (.ref r0), .val (.long q1), .second, .val (.long q2), .second, .val (.long q3), .second, .val (.int p4)] [(.int p4), (.ref r0)])) rfl rfl (hb hby d1_23)
  have N11 := Fr.snoc X11 N8 ga
  have Fw11 := Fd10.same W11
  have Kp12 := (((((Keep.refl h0 [r0]).wr W2 (Or.inl (List.mem_of_getElem? (i := 0) rfl))).wr W5 (Or.inl (List.mem_of_getElem? (i := 0) rfl))).wr W8 (Or.inl (List.mem_of_getElem? (i := 0) rfl))).wr W11 (Or.inl (List.mem_of_getElem? (i := 0) rfl)))
  have Ex13 := (Ex9.wr W11)
  have Fd14 := (((Fw2.other W5 (Or.inr (slot_ne (Or.inr (hw _ (List.mem_of_getElem? (i := 15) rfl))) (Or.inr (hw _ (List.mem_of_getElem? (i := 17) rfl))) (by decide) (t := .long) (t' := .long) (by decide) (by decide)))).other W8 (Or.inr (slot_ne (Or.inr (hw _ (List.mem_of_getElem? (i := 15) rfl))) (Or.inr (hw _ (List.mem_of_getElem? (i := 19) rfl))) (by decide) (t := .long) (t' := .long) (by decide) (by decide)))).other W11 (Or.inr (slot_ne (Or.inr (hw _ (List.mem_of_getElem? (i := 15) rfl))) (Or.inr (hw _ (List.mem_of_getElem? (i := 21) rfl))) (by decide) (t := .long) (t' := .boolean) (by decide) (by decide))))
  have Fd15 := ((Fw5.other W8 (Or.inr (slot_ne (Or.inr (hw _ (List.mem_of_getElem? (i := 17) rfl))) (Or.inr (hw _ (List.mem_of_getElem? (i := 19) rfl))) (by decide) (t := .long) (t' := .long) (by decide) (by decide)))).other W11 (Or.inr (slot_ne (Or.inr (hw _ (List.mem_of_getElem? (i := 17) rfl))) (Or.inr (hw _ (List.mem_of_getElem? (i := 21) rfl))) (by decide) (t := .long) (t' := .boolean) (by decide) (by decide))))
  have Fd16 := (Fw8.other W11 (Or.inr (slot_ne (Or.inr (hw _ (List.mem_of_getElem? (i := 19) rfl))) (Or.inr (hw _ (List.mem_of_getElem? (i := 21) rfl))) (by decide) (t := .long) (t' := .boolean) (by decide) (by decide))))
  obtain ⟨fs, hr, hrun, hended, hW, hsame⟩ := X11.leave (v := none) (fun _ => rfl)
  refine ⟨_, _, pre0 _ ?_, hrun, hended, _, _, rfl, ?_, ⟨_, rfl⟩, hW, hsame.mono (by decide) (by decide)⟩
  · show Steps p.tables e below (s₁.setTop (mkF m 0 #[.val (.ref r0), .val (.long q1), .second, .val (.long q2), .second, .val (.long q3), .second, .val (.int p4)] [])) _
    refine XS.aloadN X0.here hx rfl (hb hby d1_0) rfl rfl ?_
    show Steps p.tables e below (s₁.setTop (mkF m 1 #[.val (.ref r0), .val (.long q1), .second, .val (.long q2), .second, .val (.long q3), .second, .val (.int p4)] [(.ref r0)])) _
    refine st1.trans ?_
    show Steps p.tables e below (T1.setTop (mkF m 4 #[.val (.ref r0), .val (.long q1), .second, .val (.long q2), .second, .val (.long q3), .second, .val (.int p4)] [])) _
    refine XS.aloadN X1.here hx rfl (hb hby d1_4) rfl rfl ?_
    show Steps p.tables e below (T1.setTop (mkF m 5 #[.val (.ref r0), .val (.long q1), .second, .val (.long q2), .second, .val (.long q3), .second, .val (.int p4)] [(.ref r0)])) _
    refine XS.lloadN X1.here hx rfl (hb hby d1_5) rfl ?_
    show Steps p.tables e below (T1.setTop (mkF m 6 #[.val (.ref r0), .val (.long q1), .second, .val (.long q2), .second, .val (.long q3), .second, .val (.int p4)] [(.long q1), (.ref r0)])) _
    refine st2 _ ?_
    show Steps p.tables e below (T2.setTop (mkF m 9 #[.val (.ref r0), .val (.long q1), .second, .val (.long q2), .second, .val (.long q3), .second, .val (.int p4)] [])) _
    refine XS.aloadN X2.here hx rfl (hb hby d1_9) rfl rfl ?_
    show Steps p.tables e below (T2.setTop (mkF m 10 #[.val (.ref r0), .val (.long q1), .second, .val (.long q2), .second, .val (.long q3), .second, .val (.int p4)] [(.ref r0)])) _
    refine XS.lloadN X2.here hx rfl (hb hby d1_10) rfl ?_
    show Steps p.tables e below (T2.setTop (mkF m 11 #[.val (.ref r0), .val (.long q1), .second, .val (.long q2), .second, .val (.long q3), .second, .val (.int p4)] [(.long q2), (.ref r0)])) _
    refine st5 _ ?_
    show Steps p.tables e below (T5.setTop (mkF m 14 #[.val (.ref r0), .val (.long q1), .second, .val (.long q2), .second, .val (.long q3), .second, .val (.int p4)] [])) _
    refine XS.aloadN X5.here hx rfl (hb hby d1_14) rfl rfl ?_
    show Steps p.tables e below (T5.setTop (mkF m 15 #[.val (.ref r0), .val (.long q1), .second, .val (.long q2), .second, .val (.long q3), .second, .val (.int p4)] [(.ref r0)])) _
    refine XS.lload X5.here hx rfl (hb hby d1_15) rfl ?_
    show Steps p.tables e below (T5.setTop (mkF m 17 #[.val (.ref r0), .val (.long q1), .second, .val (.long q2), .second, .val (.long q3), .second, .val (.int p4)] [(.long q3), (.ref r0)])) _
    refine st8 _ ?_
    show Steps p.tables e below (T8.setTop (mkF m 20 #[.val (.ref r0), .val (.long q1), .second, .val (.long q2), .second, .val (.long q3), .second, .val (.int p4)] [])) _
    refine XS.aloadN X8.here hx rfl (hb hby d1_20) rfl rfl ?_
    show Steps p.tables e below (T8.setTop (mkF m 21 #[.val (.ref r0), .val (.long q1), .second, .val (.long q2), .second, .val (.long q3), .second, .val (.int p4)] [(.ref r0)])) _
    refine XS.iload X8.here hx rfl (hb hby d1_21) rfl ?_
    show Steps p.tables e below (T8.setTop (mkF m 23 #[.val (.ref r0), .val (.long q1), .second, .val (.long q2), .second, .val (.long q3), .second, .val (.int p4)] [(.int p4), (.ref r0)])) _
    refine st11 _ ?_
    show Steps p.tables e below (T11.setTop (mkF m 26 #[.val (.ref r0), .val (.long q1), .second, .val (.long q2), .second, .val (.long q3), .second, .val (.int p4)] [])) _
    exact X11.returnOut hx Bd.returns (hb hby d1_26) hr
  · show Q1 Z r0 q1 q2 q3 p4 h0 n0 _ T11.heap _
    rw [e11]
    exact ⟨rfl, N11, Kp12, Ex13, Fd14, Fd15, Fd16, Fw11⟩
def Q6 (Z : State) (r0 : Addr) (q1 : Int64) (h0 : Heap) (n0 : Nat) (v : Option Value) (h : Heap) (L : List Loc) : Prop := v = none ∧ Fr n0 L ∧ Keep h0 h [r0] ∧ Exa Z h r0 "java/lang/Long" ∧ Fld Z h r0 "java/lang/Long" "value" "J" (.long q1)
theorem d6_0 : decode jdk_35_method_26_code 0 = .ok (.aload_n 0, 1) := by decide +kernel
theorem d6_1 : decode jdk_35_method_26_code 1 = .ok (.invokespecial 270, 3) := by decide +kernel
theorem d6_4 : decode jdk_35_method_26_code 4 = .ok (.aload_n 0, 1) := by decide +kernel
theorem d6_5 : decode jdk_35_method_26_code 5 = .ok (.lload_n 1, 1) := by decide +kernel
theorem d6_6 : decode jdk_35_method_26_code 6 = .ok (.putfield 273, 3) := by decide +kernel
theorem d6_9 : decode jdk_35_method_26_code 9 = .ok (.return_, 1) := by decide +kernel
theorem pn_java_lang_Long : plainName "java/lang/Long" = true := by first | (simp [plainName, overriddenIn]; done) | decide +kernel
theorem ef_6 (m : MethodId) (r0 : Addr) (q1 : Int64) : entryFrame m #[(.ref r0), (.long q1)] 3 = mkF m 0 #[.val (.ref r0), .val (.long q1), .second] [] := by first | (simp [entryFrame, mkF, argsToLocals, Value.category]; done) | rfl
set_option maxRecDepth 65536 in
set_option maxHeartbeats 40000000 in
theorem rm6 (l : Launch) (Z : State) (a0 : Array Value) (hw : ∀ d ∈ tables_1, d.before a0 Z = true) (ws : List Jvm.Cond) (r0 : Addr) (q1 : Int64) (u_value : Value) (h0 : Heap) (n0 : Nat) (Z0 : n0 ≤ h0.size) (Ea : Exa Z h0 r0 "java/lang/Long") (F_value : Fld Z h0 r0 "java/lang/Long" "value" "J" u_value) (ga : n0 ≤ r0) :
    MetFree l (⟨"java/lang/Long", "<init>", "(J)V"⟩ : MethodName) (head1 (Jvm.Cond.code (⟨"java/lang/Long", "<init>", "(J)V"⟩ : MethodName) jdk_35_method_26_code 3 none :: ws) ({ frames := 2, cells := 0, slots := 0, locals := 24 } : Room)) (fun a U => a = #[(.ref r0), (.long q1)] ∧ Z.Warmed39 U.vm ∧ U.heap = h0) (fun _ _ _ _ _ => True) (fun _ U o U' => ∃ v L, o = .returned v ∧ Q6 Z r0 q1 h0 n0 v U'.heap L ∧ FrameEnd U o U' L ({ frames := 2, cells := 0, slots := 0, locals := 24 } : Room).cells ({ frames := 2, cells := 0, slots := 0, locals := 24 } : Room).slots) := by
  refine MetFree.of_bodySF (plainFor_of_name pn_java_lang_Long) hisR ?_
  intro p e s m args below meth c s₁ Bd hml0 hP hK
  obtain ⟨rfl, hZ, hh⟩ := hP
  have hx := Bd.exec
  have hby := Bd.bytes
  have hml : c.maxLocals = 3 := hml0
  have hown : s.vm.findClass "java/lang/Long" = some m.cls := findClass_of_methodNamed Bd.named
  have hnm := (name_of_methodNamed Bd.named Bd.method).1
  have X0 : Stand p l e ({ frames := 2, cells := 0, slots := 0, locals := 24 } : Room) s m #[(.ref r0), (.long q1)] below meth c s₁ [] 0 0 := Stand.of_body Bd
  have e0 : s₁.heap = h0 := by rw [← hh, Bd.state]; rfl
  have N0 := Fr.nil n0
  have pre0 : ∀ t, Steps p.tables e below (s₁.setTop (mkF m 0 #[.val (.ref r0), .val (.long q1), .second] [])) t → Steps p.tables e below (s₁.setTop (entryFrame m #[(.ref r0), (.long q1)] 3)) t := fun t k => castTop (ef_6 m r0 q1) k
  obtain ⟨_, _, ⟨T1, L1, k1, n1⟩, -, X1, ⟨Lc1, hQ1, l1, y1, z1⟩, st1⟩ := X0.specialBack hx (y := (⟨"java/lang/Number", "<init>", "()V"⟩ : MethodName)) rfl hown (mvT hZ (hw _ (List.mem_of_getElem? (i := 46) rfl))) (mvT hZ (hw _ (List.mem_of_getElem? (i := 47) rfl))) (mvT hZ (hw _ (List.mem_of_getElem? (i := 51) rfl))) (by decide) (backOf (W := 0) (rm7 l Z a0 hw [] r0  h0 n0 Z0 ) hZ (hw _ (List.mem_of_getElem? (i := 51) rfl)) (hw _ (List.mem_of_getElem? (i := 50) rfl)) (by decide) (by decide)) (g := (mkF m 1 #[.val (.ref r0), .val (.long q1), .second] [(.ref r0)])) rfl (by rw [hml]; rfl) (Steps.refl _) (a := r0) (argsL := []) (rest := []) (lenOf pd__28_29V rfl) rfl (by show 2 * 0 + _ ≤ _; exact Nat.le_of_eq rfl) (hb hby d6_1) (fun _ _ => ⟨rfl, e0, (by decide : 0 + 0 ≤ _), (by decide : 0 + 0 ≤ _)⟩)
  dsimp only [Pt.U, Pt.locs, Pt.cells, Pt.slots] at X1 l1 y1 z1 st1 hQ1
  subst l1 y1 z1
  obtain ⟨rfl, N1q, e1⟩ := hQ1
  have N1 := Fr.app N0 N1q
  obtain ⟨T2, h2, X2, e2, W2, st2⟩ := putF X1 hx hZ hown (host := "") (Or.inl (hw _ (List.mem_of_getElem? (i := 53) rfl))) Via.refl e1 F_value Ea (Or.inr ⟨(hw _ (List.mem_of_getElem? (i := 54) rfl)), rfl, hnm⟩) (hw _ (List.mem_of_getElem? (i := 41) rfl)) (ty := .long) (by decide) rfl rfl (g := (mkF m 6 #[.val (.ref r0), .val (.long q1), .second] [(.long q1), (.ref r0)])) rfl rfl (hb hby d6_6)
  have N2 := Fr.snoc X2 N1 ga
  have Fw2 := F_value.same W2
  have Kp3 := ((Keep.refl h0 [r0]).wr W2 (Or.inl (List.mem_of_getElem? (i := 0) rfl)))
  have Ex4 := (Ea.wr W2)
  obtain ⟨fs, hr, hrun, hended, hW, hsame⟩ := X2.leave (v := none) (fun _ => rfl)
  refine ⟨_, _, pre0 _ ?_, hrun, hended, _, _, rfl, ?_, ⟨_, rfl⟩, hW, hsame.mono (by decide) (by decide)⟩
  · show Steps p.tables e below (s₁.setTop (mkF m 0 #[.val (.ref r0), .val (.long q1), .second] [])) _
    refine XS.aloadN X0.here hx rfl (hb hby d6_0) rfl rfl ?_
    show Steps p.tables e below (s₁.setTop (mkF m 1 #[.val (.ref r0), .val (.long q1), .second] [(.ref r0)])) _
    refine st1.trans ?_
    show Steps p.tables e below (T1.setTop (mkF m 4 #[.val (.ref r0), .val (.long q1), .second] [])) _
    refine XS.aloadN X1.here hx rfl (hb hby d6_4) rfl rfl ?_
    show Steps p.tables e below (T1.setTop (mkF m 5 #[.val (.ref r0), .val (.long q1), .second] [(.ref r0)])) _
    refine XS.lloadN X1.here hx rfl (hb hby d6_5) rfl ?_
    show Steps p.tables e below (T1.setTop (mkF m 6 #[.val (.ref r0), .val (.long q1), .second] [(.long q1), (.ref r0)])) _
    refine st2 _ ?_
    show Steps p.tables e below (T2.setTop (mkF m 9 #[.val (.ref r0), .val (.long q1), .second] [])) _
    exact X2.returnOut hx Bd.returns (hb hby d6_9) hr
  · show Q6 Z r0 q1 h0 n0 _ T2.heap _
    rw [e2]
    exact ⟨rfl, N2, Kp3, Ex4, Fw2⟩
theorem d4_0 : decode jdk_35_method_24_code 0 = .ok (.sipush 128, 3) := by decide +kernel
theorem d4_3 : decode jdk_35_method_24_code 3 = .ok (.istore_n 2, 1) := by decide +kernel
theorem d4_4 : decode jdk_35_method_24_code 4 = .ok (.lload_n 0, 1) := by decide +kernel
theorem d4_5 : decode jdk_35_method_24_code 5 = .ok (.ldc2_w 230, 3) := by decide +kernel
theorem d4_8 : decode jdk_35_method_24_code 8 = .ok (.lcmp, 1) := by decide +kernel
theorem d4_9 : decode jdk_35_method_24_code 9 = .ok (.ifCond .lt 22, 3) := by decide +kernel
theorem d4_31 : decode jdk_35_method_24_code 31 = .ok (.new 1, 3) := by decide +kernel
theorem d4_34 : decode jdk_35_method_24_code 34 = .ok (.dup, 1) := by decide +kernel
theorem d4_35 : decode jdk_35_method_24_code 35 = .ok (.lload_n 0, 1) := by decide +kernel
theorem d4_36 : decode jdk_35_method_24_code 36 = .ok (.invokespecial 240, 3) := by decide +kernel
theorem pd__28J_29V : parseMethodDescriptor "(J)V" = some ⟨[.long], none⟩ := by decide +kernel
theorem d4_39 : decode jdk_35_method_24_code 39 = .ok (.areturn, 1) := by decide +kernel
theorem d4_12 : decode jdk_35_method_24_code 12 = .ok (.lload_n 0, 1) := by decide +kernel
theorem d4_13 : decode jdk_35_method_24_code 13 = .ok (.ldc2_w 232, 3) := by decide +kernel
theorem d4_16 : decode jdk_35_method_24_code 16 = .ok (.lcmp, 1) := by decide +kernel
theorem d4_17 : decode jdk_35_method_24_code 17 = .ok (.ifCond .gt 14, 3) := by decide +kernel
theorem d4_20 : decode jdk_35_method_24_code 20 = .ok (.getstatic 234, 3) := by decide +kernel
theorem d4_23 : decode jdk_35_method_24_code 23 = .ok (.lload_n 0, 1) := by decide +kernel
theorem d4_24 : decode jdk_35_method_24_code 24 = .ok (.l2i, 1) := by decide +kernel
theorem d4_25 : decode jdk_35_method_24_code 25 = .ok (.sipush 128, 3) := by decide +kernel
theorem d4_28 : decode jdk_35_method_24_code 28 = .ok (.iadd, 1) := by decide +kernel
theorem d4_29 : decode jdk_35_method_24_code 29 = .ok (.aaload, 1) := by decide +kernel
theorem d4_30 : decode jdk_35_method_24_code 30 = .ok (.areturn, 1) := by decide +kernel
def Q4 (Z : State) (h0 : Heap) (n0 : Nat) (v : Option Value) (h : Heap) (L : List Loc) : Prop := ∃ b : Addr, v = some (.ref b) ∧ Fr n0 L ∧ Keep h0 h [] ∧ Exa Z h b "java/lang/Long"
theorem ef_4 (m : MethodId) (q0 : Int64) : entryFrame m #[(.long q0)] 3 = mkF m 0 #[.val (.long q0), .second, .unset] [] := by first | (simp [entryFrame, mkF, argsToLocals, Value.category]; done) | rfl
set_option maxRecDepth 65536 in
set_option maxHeartbeats 40000000 in
theorem rm4 (l : Launch) (Z : State) (a0 : Array Value) (hw : ∀ d ∈ tables_1, d.before a0 Z = true) (ws : List Jvm.Cond) (q0 : Int64) (ca : Addr) (cc : Cell) (h0 : Heap) (n0 : Nat) (Z0 : n0 ≤ h0.size) (O0 : Old Z n0 h0) (Sc : Sta Z Z.heap "java/lang/Long$LongCache" "cache" "[Ljava/lang/Long;" (.ref ca)) (Ac : Arr Z Z.heap ca cc (.object "java/lang/Long")) (Hc : ∀ w : Int64, ¬ w < (-128 : Int64) → ¬ (127 : Int64) < w → ¬ ((w.toInt32 + (128 : Int32)) < 0 ∨ cc.slots.size ≤ (w.toInt32 + (128 : Int32)).toNatClampNeg) ∧ ∃ r : Addr, cc.slots[(w.toInt32 + (128 : Int32)).toNatClampNeg]? = some (.ref r) ∧ Exa Z Z.heap r "java/lang/Long") :
    MetFree l (⟨"java/lang/Long", "valueOf", "(J)Ljava/lang/Long;"⟩ : MethodName) (head1 (Jvm.Cond.code (⟨"java/lang/Long", "valueOf", "(J)Ljava/lang/Long;"⟩ : MethodName) jdk_35_method_24_code 3 (some (.object "java/lang/Long")) :: ws) ({ frames := 3, cells := 1, slots := 1, locals := 39 } : Room)) (fun a U => a = #[(.long q0)] ∧ Z.Warmed39 U.vm ∧ U.heap = h0) (fun _ _ _ _ _ => True) (fun _ U o U' => ∃ v L, o = .returned v ∧ Q4 Z h0 n0 v U'.heap L ∧ FrameEnd U o U' L ({ frames := 3, cells := 1, slots := 1, locals := 39 } : Room).cells ({ frames := 3, cells := 1, slots := 1, locals := 39 } : Room).slots) := by
  refine MetFree.of_bodySF (plainFor_of_name pn_java_lang_Long) hisR ?_
  intro p e s m args below meth c s₁ Bd hml0 hP hK
  obtain ⟨rfl, hZ, hh⟩ := hP
  have hx := Bd.exec
  have hby := Bd.bytes
  have hml : c.maxLocals = 3 := hml0
  have hown : s.vm.findClass "java/lang/Long" = some m.cls := findClass_of_methodNamed Bd.named
  have hnm := (name_of_methodNamed Bd.named Bd.method).1
  have X0 : Stand p l e ({ frames := 3, cells := 1, slots := 1, locals := 39 } : Room) s m #[(.long q0)] below meth c s₁ [] 0 0 := Stand.of_body Bd
  have e0 : s₁.heap = h0 := by rw [← hh, Bd.state]; rfl
  have N0 := Fr.nil n0
  have pre0 : ∀ t, Steps p.tables e below (s₁.setTop (mkF m 0 #[.val (.long q0), .second, .unset] [])) t → Steps p.tables e below (s₁.setTop (entryFrame m #[(.long q0)] 3)) t := fun t k => castTop (ef_4 m q0) k
  have pre1 : ∀ t, Steps p.tables e below (s₁.setTop (mkF m 9 #[.val (.long q0), .second, .val (.int (128 : Int32))] [(.int (lcmpW q0 (-128 : Int64)))])) t → Steps p.tables e below (s₁.setTop (entryFrame m #[(.long q0)] 3)) t := fun t kk => pre0 t (by
    show Steps p.tables e below (s₁.setTop (mkF m 0 #[.val (.long q0), .second, .unset] [])) _
    refine XS.sipush X0.here hx rfl (hb hby d4_0) ?_
    show Steps p.tables e below (s₁.setTop (mkF m 3 #[.val (.long q0), .second, .unset] [(.int (128 : Int32))])) _
    refine XS.istoreN X0.here hx rfl (hb hby d4_3) rfl (l' := #[.val (.long q0), .second, .val (.int (128 : Int32))]) rfl ?_
    show Steps p.tables e below (s₁.setTop (mkF m 4 #[.val (.long q0), .second, .val (.int (128 : Int32))] [])) _
    refine XS.lloadN X0.here hx rfl (hb hby d4_4) rfl ?_
    show Steps p.tables e below (s₁.setTop (mkF m 5 #[.val (.long q0), .second, .val (.int (128 : Int32))] [(.long q0)])) _
    refine X0.ldc2Long hx hown (mvT hZ (hw _ (List.mem_of_getElem? (i := 26) rfl))) (g := (mkF m 5 #[.val (.long q0), .second, .val (.int (128 : Int32))] [(.long q0)])) rfl (hb hby d4_5) _ ?_
    show Steps p.tables e below (s₁.setTop (mkF m 8 #[.val (.long q0), .second, .val (.int (128 : Int32))] [(.long (-128 : Int64)), (.long q0)])) _
    refine XS.lcmp X0.here hx rfl (hb hby d4_8) rfl ?_
    exact kk)
  by_cases hc2 : q0 < (-128 : Int64)
  · obtain ⟨T3, h3, X3, e3, E3, A3, D3, -, st3⟩ := newO X0 hx hZ hown (hw _ (List.mem_of_getElem? (i := 40) rfl)) (hw _ (List.mem_of_getElem? (i := 41) rfl)) (hw _ (List.mem_of_getElem? (i := 24) rfl)) e0 (g := (mkF m 31 #[.val (.long q0), .second, .val (.int (128 : Int32))] [])) rfl (hb hby d4_31) (by decide) (by decide)
    obtain ⟨b3, g3⟩ : ∃ z, z = h0.size := ⟨_, rfl⟩
    rw [← g3] at A3 D3 st3
    have g_b3 : n0 ≤ b3 := Nat.le_trans Z0 (Nat.le_of_eq g3.symm)
    have sz_b3 : h0.size ≤ b3 := Nat.le_trans (Keep.refl h0 []).1 (Nat.le_of_eq g3.symm)
    have F_value_b3 : Fld Z h3 b3 "java/lang/Long" "value" "J" (.long (0 : Int64)) := D3 (Or.inr (hw _ (List.mem_of_getElem? (i := 54) rfl))) (ty := .long) (by decide)
    have Zz5 := (Nat.le_trans Z0 E3.1)
    have Kp6 := ((Keep.refl h0 []).ext E3)
    obtain ⟨_, _, ⟨T4, L4, k4, n4⟩, -, X4, ⟨Lc4, hQ4, l4, y4, z4⟩, st4⟩ := X3.specialBack hx (y := (⟨"java/lang/Long", "<init>", "(J)V"⟩ : MethodName)) rfl hown (mvT hZ (hw _ (List.mem_of_getElem? (i := 42) rfl))) (mvT hZ (hw _ (List.mem_of_getElem? (i := 43) rfl))) (mvT hZ (hw _ (List.mem_of_getElem? (i := 45) rfl))) (by decide) (backOf (W := 1) (rm6 l Z a0 hw [] b3 q0 (.long (0 : Int64)) h3 n0 Zz5 A3 F_value_b3 g_b3) hZ (hw _ (List.mem_of_getElem? (i := 45) rfl)) (hw _ (List.mem_of_getElem? (i := 24) rfl)) (by decide) (by decide)) (g := (mkF m 36 #[.val (.long q0), .second, .val (.int (128 : Int32))] [(.long q0), (.ref b3), (.ref b3)])) rfl (by rw [hml]; rfl) (Steps.refl _) (a := b3) (argsL := [(.long q0)]) (rest := [(.ref b3)]) (lenOf pd__28J_29V rfl) rfl (by show 2 * 0 + _ ≤ _; exact Nat.le_of_eq rfl) (hb hby d4_36) (fun _ _ => ⟨rfl, e3, (by decide : 1 + 0 ≤ _), (by decide : 1 + 0 ≤ _)⟩)
    dsimp only [Pt.U, Pt.locs, Pt.cells, Pt.slots] at X4 l4 y4 z4 st4 hQ4
    subst l4 y4 z4
    obtain ⟨rfl, N4q, K4, Ex4, Fc4_value⟩ := hQ4
    have N4 := Fr.app N0 N4q
    have Kp7 := (Kp6.trans K4 (allS (Or.inr sz_b3) all0))
    obtain ⟨fs, hr, hrun, hended, hW, hsame⟩ := X4.leave (v := some (.ref b3)) (fun h => by rw [Bd.returns] at h; cases h)
    refine ⟨_, _, pre1 _ ?_, hrun, hended, _, _, rfl, ?_, ⟨_, rfl⟩, hW, hsame.mono (by decide) (by decide)⟩
    · show Steps p.tables e below (s₁.setTop (mkF m 9 #[.val (.long q0), .second, .val (.int (128 : Int32))] [(.int (lcmpW q0 (-128 : Int64)))])) _
      refine XS.ifYes X0.here hx rfl (pc0 := 9) (pc' := 31) rfl (hb hby d4_9) rfl ((if0 _ _).trans (tlt ((lw_lt _ _).mpr hc2)).1) (by decide) (by decide) ?_
      show Steps p.tables e below (s₁.setTop (mkF m 31 #[.val (.long q0), .second, .val (.int (128 : Int32))] [])) _
      refine st3 _ ?_
      show Steps p.tables e below (T3.setTop (mkF m 34 #[.val (.long q0), .second, .val (.int (128 : Int32))] [(.ref b3)])) _
      refine XS.dup X3.here hx rfl (hb hby d4_34) rfl rfl ?_
      show Steps p.tables e below (T3.setTop (mkF m 35 #[.val (.long q0), .second, .val (.int (128 : Int32))] [(.ref b3), (.ref b3)])) _
      refine XS.lloadN X3.here hx rfl (hb hby d4_35) rfl ?_
      show Steps p.tables e below (T3.setTop (mkF m 36 #[.val (.long q0), .second, .val (.int (128 : Int32))] [(.long q0), (.ref b3), (.ref b3)])) _
      refine st4.trans ?_
      show Steps p.tables e below (T4.setTop (mkF m 39 #[.val (.long q0), .second, .val (.int (128 : Int32))] [(.ref b3)])) _
      exact X4.areturnOut hx rfl Bd.returns rfl (hb hby d4_39) hr
    · show Q4 Z h0 n0 _ T4.heap _
      exact ⟨b3, rfl, N4, Kp7, Ex4⟩
  · have pre8 : ∀ t, Steps p.tables e below (s₁.setTop (mkF m 17 #[.val (.long q0), .second, .val (.int (128 : Int32))] [(.int (lcmpW q0 (127 : Int64)))])) t → Steps p.tables e below (s₁.setTop (entryFrame m #[(.long q0)] 3)) t := fun t kk => pre1 t (by
      show Steps p.tables e below (s₁.setTop (mkF m 9 #[.val (.long q0), .second, .val (.int (128 : Int32))] [(.int (lcmpW q0 (-128 : Int64)))])) _
      refine XS.ifNo X0.here hx rfl (hb hby d4_9) rfl ((if0 _ _).trans (flt (fun q => hc2 ((lw_lt _ _).mp q))).1) ?_
      show Steps p.tables e below (s₁.setTop (mkF m 12 #[.val (.long q0), .second, .val (.int (128 : Int32))] [])) _
      refine XS.lloadN X0.here hx rfl (hb hby d4_12) rfl ?_
      show Steps p.tables e below (s₁.setTop (mkF m 13 #[.val (.long q0), .second, .val (.int (128 : Int32))] [(.long q0)])) _
      refine X0.ldc2Long hx hown (mvT hZ (hw _ (List.mem_of_getElem? (i := 27) rfl))) (g := (mkF m 13 #[.val (.long q0), .second, .val (.int (128 : Int32))] [(.long q0)])) rfl (hb hby d4_13) _ ?_
      show Steps p.tables e below (s₁.setTop (mkF m 16 #[.val (.long q0), .second, .val (.int (128 : Int32))] [(.long (127 : Int64)), (.long q0)])) _
      refine XS.lcmp X0.here hx rfl (hb hby d4_16) rfl ?_
      exact kk)
    by_cases hc9 : (127 : Int64) < q0
    · obtain ⟨T10, h10, X10, e10, E10, A10, D10, -, st10⟩ := newO X0 hx hZ hown (hw _ (List.mem_of_getElem? (i := 40) rfl)) (hw _ (List.mem_of_getElem? (i := 41) rfl)) (hw _ (List.mem_of_getElem? (i := 24) rfl)) e0 (g := (mkF m 31 #[.val (.long q0), .second, .val (.int (128 : Int32))] [])) rfl (hb hby d4_31) (by decide) (by decide)
      obtain ⟨b10, g10⟩ : ∃ z, z = h0.size := ⟨_, rfl⟩
      rw [← g10] at A10 D10 st10
      have g_b10 : n0 ≤ b10 := Nat.le_trans Z0 (Nat.le_of_eq g10.symm)
      have sz_b10 : h0.size ≤ b10 := Nat.le_trans (Keep.refl h0 []).1 (Nat.le_of_eq g10.symm)
      have F_value_b10 : Fld Z h10 b10 "java/lang/Long" "value" "J" (.long (0 : Int64)) := D10 (Or.inr (hw _ (List.mem_of_getElem? (i := 54) rfl))) (ty := .long) (by decide)
      have Zz12 := (Nat.le_trans Z0 E10.1)
      have Kp13 := ((Keep.refl h0 []).ext E10)
      obtain ⟨_, _, ⟨T11, L11, k11, n11⟩, -, X11, ⟨Lc11, hQ11, l11, y11, z11⟩, st11⟩ := X10.specialBack hx (y := (⟨"java/lang/Long", "<init>", "(J)V"⟩ : MethodName)) rfl hown (mvT hZ (hw _ (List.mem_of_getElem? (i := 42) rfl))) (mvT hZ (hw _ (List.mem_of_getElem? (i := 43) rfl))) (mvT hZ (hw _ (List.mem_of_getElem? (i := 45) rfl))) (by decide) (backOf (W := 1) (rm6 l Z a0 hw [] b10 q0 (.long (0 : Int64)) h10 n0 Zz12 A10 F_value_b10 g_b10) hZ (hw _ (List.mem_of_getElem? (i := 45) rfl)) (hw _ (List.mem_of_getElem? (i := 24) rfl)) (by decide) (by decide)) (g := (mkF m 36 #[.val (.long q0), .second, .val (.int (128 : Int32))] [(.long q0), (.ref b10), (.ref b10)])) rfl (by rw [hml]; rfl) (Steps.refl _) (a := b10) (argsL := [(.long q0)]) (rest := [(.ref b10)]) (lenOf pd__28J_29V rfl) rfl (by show 2 * 0 + _ ≤ _; exact Nat.le_of_eq rfl) (hb hby d4_36) (fun _ _ => ⟨rfl, e10, (by decide : 1 + 0 ≤ _), (by decide : 1 + 0 ≤ _)⟩)
      dsimp only [Pt.U, Pt.locs, Pt.cells, Pt.slots] at X11 l11 y11 z11 st11 hQ11
      subst l11 y11 z11
      obtain ⟨rfl, N11q, K11, Ex11, Fc11_value⟩ := hQ11
      have N11 := Fr.app N0 N11q
      have Kp14 := (Kp13.trans K11 (allS (Or.inr sz_b10) all0))
      obtain ⟨fs, hr, hrun, hended, hW, hsame⟩ := X11.leave (v := some (.ref b10)) (fun h => by rw [Bd.returns] at h; cases h)
      refine ⟨_, _, pre8 _ ?_, hrun, hended, _, _, rfl, ?_, ⟨_, rfl⟩, hW, hsame.mono (by decide) (by decide)⟩
      · show Steps p.tables e below (s₁.setTop (mkF m 17 #[.val (.long q0), .second, .val (.int (128 : Int32))] [(.int (lcmpW q0 (127 : Int64)))])) _
        refine XS.ifYes X0.here hx rfl (pc0 := 17) (pc' := 31) rfl (hb hby d4_17) rfl ((if0 _ _).trans (tlt ((lw_gt _ _).mpr hc9)).2.2.1) (by decide) (by decide) ?_
        show Steps p.tables e below (s₁.setTop (mkF m 31 #[.val (.long q0), .second, .val (.int (128 : Int32))] [])) _
        refine st10 _ ?_
        show Steps p.tables e below (T10.setTop (mkF m 34 #[.val (.long q0), .second, .val (.int (128 : Int32))] [(.ref b10)])) _
        refine XS.dup X10.here hx rfl (hb hby d4_34) rfl rfl ?_
        show Steps p.tables e below (T10.setTop (mkF m 35 #[.val (.long q0), .second, .val (.int (128 : Int32))] [(.ref b10), (.ref b10)])) _
        refine XS.lloadN X10.here hx rfl (hb hby d4_35) rfl ?_
        show Steps p.tables e below (T10.setTop (mkF m 36 #[.val (.long q0), .second, .val (.int (128 : Int32))] [(.long q0), (.ref b10), (.ref b10)])) _
        refine st11.trans ?_
        show Steps p.tables e below (T11.setTop (mkF m 39 #[.val (.long q0), .second, .val (.int (128 : Int32))] [(.ref b10)])) _
        exact X11.areturnOut hx rfl Bd.returns rfl (hb hby d4_39) hr
      · show Q4 Z h0 n0 _ T11.heap _
        exact ⟨b10, rfl, N11, Kp14, Ex11⟩
    · obtain ⟨T15, X15, e15, st15⟩ := getS2 X0 hx hZ hown (host := "") (Or.inl (hw _ (List.mem_of_getElem? (i := 28) rfl))) Via.refl e0 (Sc.ext O0.2) (g := (mkF m 20 #[.val (.long q0), .second, .val (.int (128 : Int32))] [])) rfl (hb hby d4_20)
      obtain ⟨hin, r, hat, Er⟩ := Hc q0 hc2 hc9
      obtain ⟨fs, hr, hrun, hended, hW, hsame⟩ := X15.leave (v := some (.ref r)) (fun h => by rw [Bd.returns] at h; cases h)
      refine ⟨_, _, pre8 _ ?_, hrun, hended, _, _, rfl, ?_, ⟨_, rfl⟩, hW, hsame.mono (by decide) (by decide)⟩
      · show Steps p.tables e below (s₁.setTop (mkF m 17 #[.val (.long q0), .second, .val (.int (128 : Int32))] [(.int (lcmpW q0 (127 : Int64)))])) _
        refine XS.ifNo X0.here hx rfl (hb hby d4_17) rfl ((if0 _ _).trans (flt (fun q => hc9 ((lw_gt _ _).mp q))).2.2.1) ?_
        show Steps p.tables e below (s₁.setTop (mkF m 20 #[.val (.long q0), .second, .val (.int (128 : Int32))] [])) _
        refine st15 _ ?_
        show Steps p.tables e below (T15.setTop (mkF m 23 #[.val (.long q0), .second, .val (.int (128 : Int32))] [(.ref ca)])) _
        refine XS.lloadN X15.here hx rfl (hb hby d4_23) rfl ?_
        show Steps p.tables e below (T15.setTop (mkF m 24 #[.val (.long q0), .second, .val (.int (128 : Int32))] [(.long q0), (.ref ca)])) _
        refine XS.l2i X15.here hx rfl (hb hby d4_24) rfl ?_
        show Steps p.tables e below (T15.setTop (mkF m 25 #[.val (.long q0), .second, .val (.int (128 : Int32))] [(.int (q0.toInt32)), (.ref ca)])) _
        refine XS.sipush X15.here hx rfl (hb hby d4_25) ?_
        show Steps p.tables e below (T15.setTop (mkF m 28 #[.val (.long q0), .second, .val (.int (128 : Int32))] [(.int (128 : Int32)), (.int (q0.toInt32)), (.ref ca)])) _
        refine XS.iadd X15.here hx rfl (hb hby d4_28) rfl ?_
        show Steps p.tables e below (T15.setTop (mkF m 29 #[.val (.long q0), .second, .val (.int (128 : Int32))] [(.int ((q0.toInt32) + (128 : Int32))), (.ref ca)])) _
        refine X15.aaload hx (j := ((q0.toInt32) + (128 : Int32))) (v := (.ref r)) (by rw [e15]; exact O0.2.2 _ _ Ac.1) (State.isArrayOf_alike hZ.alike Ac.2.1) rfl Ac.2.2 hin hat (g := (mkF m 29 #[.val (.long q0), .second, .val (.int (128 : Int32))] [(.int ((q0.toInt32) + (128 : Int32))), (.ref ca)])) rfl rfl (hb hby d4_29) _ ?_
        show Steps p.tables e below (T15.setTop (mkF m 30 #[.val (.long q0), .second, .val (.int (128 : Int32))] [(.ref r)])) _
        exact X15.areturnOut hx rfl Bd.returns rfl (hb hby d4_30) hr
      · show Q4 Z h0 n0 _ T15.heap _
        rw [e15]
        exact ⟨r, rfl, N0, (Keep.refl h0 []), (Er.ext O0.2)⟩
def eqF (x1 x2 x3 : Int64) (x4 : Int32) (y1 y2 y3 : Int64) (y4 : Int32) : Int32 := if x1 = y1 then (if x2 = y2 then (if x3 = y3 then (if x4 = y4 then 1 else 0) else 0) else 0) else 0
def Q5 (r : Int32) (h0 : Heap) (n0 : Nat) (v : Option Value) (h : Heap) (L : List Loc) : Prop := v = some (.int r) ∧ Fr n0 L ∧ h = h0
theorem d5_0 : decode prog_25_method_3_code 0 = .ok (.aload_n 1, 1) := by decide +kernel
theorem d5_1 : decode prog_25_method_3_code 1 = .ok (.instanceof 8, 3) := by decide +kernel
theorem d5_4 : decode prog_25_method_3_code 4 = .ok (.ifCond .eq 59, 3) := by decide +kernel
theorem d5_7 : decode prog_25_method_3_code 7 = .ok (.aload_n 1, 1) := by decide +kernel
theorem d5_8 : decode prog_25_method_3_code 8 = .ok (.checkcast 8, 3) := by decide +kernel
theorem d5_11 : decode prog_25_method_3_code 11 = .ok (.astore_n 2, 1) := by decide +kernel
theorem d5_12 : decode prog_25_method_3_code 12 = .ok (.aload_n 0, 1) := by decide +kernel
theorem d5_13 : decode prog_25_method_3_code 13 = .ok (.getfield 7, 3) := by decide +kernel
theorem d5_16 : decode prog_25_method_3_code 16 = .ok (.aload_n 2, 1) := by decide +kernel
theorem d5_17 : decode prog_25_method_3_code 17 = .ok (.getfield 7, 3) := by decide +kernel
theorem d5_20 : decode prog_25_method_3_code 20 = .ok (.lcmp, 1) := by decide +kernel
theorem d5_21 : decode prog_25_method_3_code 21 = .ok (.ifCond .ne 42, 3) := by decide +kernel
theorem d5_24 : decode prog_25_method_3_code 24 = .ok (.aload_n 0, 1) := by decide +kernel
theorem d5_25 : decode prog_25_method_3_code 25 = .ok (.getfield 13, 3) := by decide +kernel
theorem d5_28 : decode prog_25_method_3_code 28 = .ok (.aload_n 2, 1) := by decide +kernel
theorem d5_29 : decode prog_25_method_3_code 29 = .ok (.getfield 13, 3) := by decide +kernel
theorem d5_32 : decode prog_25_method_3_code 32 = .ok (.lcmp, 1) := by decide +kernel
theorem d5_33 : decode prog_25_method_3_code 33 = .ok (.ifCond .ne 30, 3) := by decide +kernel
theorem d5_36 : decode prog_25_method_3_code 36 = .ok (.aload_n 0, 1) := by decide +kernel
theorem d5_37 : decode prog_25_method_3_code 37 = .ok (.getfield 16, 3) := by decide +kernel
theorem d5_40 : decode prog_25_method_3_code 40 = .ok (.aload_n 2, 1) := by decide +kernel
theorem d5_41 : decode prog_25_method_3_code 41 = .ok (.getfield 16, 3) := by decide +kernel
theorem d5_44 : decode prog_25_method_3_code 44 = .ok (.lcmp, 1) := by decide +kernel
theorem d5_45 : decode prog_25_method_3_code 45 = .ok (.ifCond .ne 18, 3) := by decide +kernel
theorem d5_48 : decode prog_25_method_3_code 48 = .ok (.aload_n 0, 1) := by decide +kernel
theorem d5_49 : decode prog_25_method_3_code 49 = .ok (.getfield 19, 3) := by decide +kernel
theorem d5_52 : decode prog_25_method_3_code 52 = .ok (.aload_n 2, 1) := by decide +kernel
theorem d5_53 : decode prog_25_method_3_code 53 = .ok (.getfield 19, 3) := by decide +kernel
theorem d5_56 : decode prog_25_method_3_code 56 = .ok (.if_icmp .ne 7, 3) := by decide +kernel
theorem d5_59 : decode prog_25_method_3_code 59 = .ok (.iconst 1, 1) := by decide +kernel
theorem d5_60 : decode prog_25_method_3_code 60 = .ok (.goto 4, 3) := by decide +kernel
theorem d5_64 : decode prog_25_method_3_code 64 = .ok (.ireturn, 1) := by decide +kernel
theorem d5_63 : decode prog_25_method_3_code 63 = .ok (.iconst 0, 1) := by decide +kernel
theorem ef_5_r (m : MethodId) (r0 : Addr) (r1 : Addr) : entryFrame m #[(.ref r0), (.ref r1)] 3 = mkF m 0 #[.val (.ref r0), .val (.ref r1), .unset] [] := by first | (simp [entryFrame, mkF, argsToLocals, Value.category]; done) | rfl
set_option maxRecDepth 65536 in
set_option maxHeartbeats 40000000 in
theorem rm5_r (l : Launch) (Z : State) (a0 : Array Value) (hw : ∀ d ∈ tables_1, d.before a0 Z = true) (ws : List Jvm.Cond) (r0 : Addr) (r1 : Addr) (x1 x2 x3 : Int64) (x4 : Int32) (y1 y2 y3 : Int64) (y4 : Int32) (h0 : Heap) (n0 : Nat) (Z0 : n0 ≤ h0.size) (Ex : Exa Z h0 r0 "com/example/copyleaf/copyleaf/format/ChunkRef") (Ey : Exa Z h0 r1 "com/example/copyleaf/copyleaf/format/ChunkRef") (Fx1 : Fld Z h0 r0 "com/example/copyleaf/copyleaf/format/ChunkRef" "version" "J" (.long x1)) (Fx2 : Fld Z h0 r0 "com/example/copyleaf/copyleaf/format/ChunkRef" "position" "J" (.long x2)) (Fx3 : Fld Z h0 r0 "com/example/copyleaf/copyleaf/format/ChunkRef" "length" "J" (.long x3)) (Fx4 : Fld Z h0 r0 "com/example/copyleaf/copyleaf/format/ChunkRef" "part" "Z" (.int x4)) (Fy1 : Fld Z h0 r1 "com/example/copyleaf/copyleaf/format/ChunkRef" "version" "J" (.long y1)) (Fy2 : Fld Z h0 r1 "com/example/copyleaf/copyleaf/format/ChunkRef" "position" "J" (.long y2)) (Fy3 : Fld Z h0 r1 "com/example/copyleaf/copyleaf/format/ChunkRef" "length" "J" (.long y3)) (Fy4 : Fld Z h0 r1 "com/example/copyleaf/copyleaf/format/ChunkRef" "part" "Z" (.int y4)) :
    MetFree l (⟨"com/example/copyleaf/copyleaf/format/ChunkRef", "equals", "(Ljava/lang/Object;)Z"⟩ : MethodName) (head1 (Jvm.Cond.code (⟨"com/example/copyleaf/copyleaf/format/ChunkRef", "equals", "(Ljava/lang/Object;)Z"⟩ : MethodName) prog_25_method_3_code 3 (some .boolean) :: ws) ({ frames := 0, cells := 0, slots := 0, locals := 0 } : Room)) (fun a U => a = #[(.ref r0), (.ref r1)] ∧ Z.Warmed39 U.vm ∧ U.heap = h0) (fun _ _ _ _ _ => True) (fun _ U o U' => ∃ v L, o = .returned v ∧ Q5 (eqF x1 x2 x3 x4 y1 y2 y3 y4) h0 n0 v U'.heap L ∧ FrameEnd U o U' L ({ frames := 0, cells := 0, slots := 0, locals := 0 } : Room).cells ({ frames := 0, cells := 0, slots := 0, locals := 0 } : Room).slots) := by
  refine MetFree.of_bodySF (plainFor_of_name pn_com_example_copyleaf_copyleaf_format_ChunkRef) hisR ?_
  intro p e s m args below meth c s₁ Bd hml0 hP hK
  obtain ⟨rfl, hZ, hh⟩ := hP
  have hx := Bd.exec
  have hby := Bd.bytes
  have hml : c.maxLocals = 3 := hml0
  have hown : s.vm.findClass "com/example/copyleaf/copyleaf/format/ChunkRef" = some m.cls := findClass_of_methodNamed Bd.named
  have hnm := (name_of_methodNamed Bd.named Bd.method).1
  have X0 : Stand p l e ({ frames := 0, cells := 0, slots := 0, locals := 0 } : Room) s m #[(.ref r0), (.ref r1)] below meth c s₁ [] 0 0 := Stand.of_body Bd
  have e0 : s₁.heap = h0 := by rw [← hh, Bd.state]; rfl
  have N0 := Fr.nil n0
  have pre0 : ∀ t, Steps p.tables e below (s₁.setTop (mkF m 0 #[.val (.ref r0), .val (.ref r1), .unset] [])) t → Steps p.tables e below (s₁.setTop (entryFrame m #[(.ref r0), (.ref r1)] 3)) t := fun t k => castTop (ef_5_r m r0 r1) k
  obtain ⟨T1, X1, e1, st1⟩ := instY X0 hx hZ hown (hw _ (List.mem_of_getElem? (i := 35) rfl)) e0 (Ins.self Ey) (g := (mkF m 1 #[.val (.ref r0), .val (.ref r1), .unset] [(.ref r1)])) rfl rfl (hb hby d5_1)
  obtain ⟨T2, X2, e2, st2⟩ := castY X1 hx hZ hown (hw _ (List.mem_of_getElem? (i := 35) rfl)) e1 (Ins.self Ey) (g := (mkF m 8 #[.val (.ref r0), .val (.ref r1), .unset] [(.ref r1)])) rfl rfl (hb hby d5_8)
  obtain ⟨T3, X3, e3, st3⟩ := getF X2 hx hZ hown (host := "") (Or.inl (hw _ (List.mem_of_getElem? (i := 14) rfl))) Via.refl e2 Fx1 (g := (mkF m 13 #[.val (.ref r0), .val (.ref r1), .val (.ref r1)] [(.ref r0)])) rfl rfl (hb hby d5_13)
  obtain ⟨T4, X4, e4, st4⟩ := getF X3 hx hZ hown (host := "") (Or.inl (hw _ (List.mem_of_getElem? (i := 14) rfl))) Via.refl e3 Fy1 (g := (mkF m 17 #[.val (.ref r0), .val (.ref r1), .val (.ref r1)] [(.ref r1), (.long x1)])) rfl rfl (hb hby d5_17)
  have pre5 : ∀ t, Steps p.tables e below (T4.setTop (mkF m 21 #[.val (.ref r0), .val (.ref r1), .val (.ref r1)] [(.int (lcmpW x1 y1))])) t → Steps p.tables e below (s₁.setTop (entryFrame m #[(.ref r0), (.ref r1)] 3)) t := fun t kk => pre0 t (by
    show Steps p.tables e below (s₁.setTop (mkF m 0 #[.val (.ref r0), .val (.ref r1), .unset] [])) _
    refine XS.aloadN X0.here hx rfl (hb hby d5_0) rfl rfl ?_
    show Steps p.tables e below (s₁.setTop (mkF m 1 #[.val (.ref r0), .val (.ref r1), .unset] [(.ref r1)])) _
    refine st1 _ ?_
    show Steps p.tables e below (T1.setTop (mkF m 4 #[.val (.ref r0), .val (.ref r1), .unset] [(.int (1 : Int32))])) _
    refine XS.ifNo X1.here hx rfl (hb hby d5_4) rfl ((if0 _ _).trans (feq (by decide)).1) ?_
    show Steps p.tables e below (T1.setTop (mkF m 7 #[.val (.ref r0), .val (.ref r1), .unset] [])) _
    refine XS.aloadN X1.here hx rfl (hb hby d5_7) rfl rfl ?_
    show Steps p.tables e below (T1.setTop (mkF m 8 #[.val (.ref r0), .val (.ref r1), .unset] [(.ref r1)])) _
    refine st2 _ ?_
    show Steps p.tables e below (T2.setTop (mkF m 11 #[.val (.ref r0), .val (.ref r1), .unset] [(.ref r1)])) _
    refine XS.astoreN X2.here hx rfl (hb hby d5_11) rfl rfl (l' := #[.val (.ref r0), .val (.ref r1), .val (.ref r1)]) rfl ?_
    show Steps p.tables e below (T2.setTop (mkF m 12 #[.val (.ref r0), .val (.ref r1), .val (.ref r1)] [])) _
    refine XS.aloadN X2.here hx rfl (hb hby d5_12) rfl rfl ?_
    show Steps p.tables e below (T2.setTop (mkF m 13 #[.val (.ref r0), .val (.ref r1), .val (.ref r1)] [(.ref r0)])) _
    refine st3 _ ?_
    show Steps p.tables e below (T3.setTop (mkF m 16 #[.val (.ref r0), .val (.ref r1), .val (.ref r1)] [(.long x1)])) _
    refine XS.aloadN X3.here hx rfl (hb hby d5_16) rfl rfl ?_
    show Steps p.tables e below (T3.setTop (mkF m 17 #[.val (.ref r0), .val (.ref r1), .val (.ref r1)] [(.ref r1), (.long x1)])) _
    refine st4 _ ?_
    show Steps p.tables e below (T4.setTop (mkF m 20 #[.val (.ref r0), .val (.ref r1), .val (.ref r1)] [(.long y1), (.long x1)])) _
    refine XS.lcmp X4.here hx rfl (hb hby d5_20) rfl ?_
    exact kk)
  by_cases hc6 : x1 = y1
  · obtain ⟨T7, X7, e7, st7⟩ := getF X4 hx hZ hown (host := "") (Or.inl (hw _ (List.mem_of_getElem? (i := 16) rfl))) Via.refl e4 Fx2 (g := (mkF m 25 #[.val (.ref r0), .val (.ref r1), .val (.ref r1)] [(.ref r0)])) rfl rfl (hb hby d5_25)
    obtain ⟨T8, X8, e8, st8⟩ := getF X7 hx hZ hown (host := "") (Or.inl (hw _ (List.mem_of_getElem? (i := 16) rfl))) Via.refl e7 Fy2 (g := (mkF m 29 #[.val (.ref r0), .val (.ref r1), .val (.ref r1)] [(.ref r1), (.long x2)])) rfl rfl (hb hby d5_29)
    have pre9 : ∀ t, Steps p.tables e below (T8.setTop (mkF m 33 #[.val (.ref r0), .val (.ref r1), .val (.ref r1)] [(.int (lcmpW x2 y2))])) t → Steps p.tables e below (s₁.setTop (entryFrame m #[(.ref r0), (.ref r1)] 3)) t := fun t kk => pre5 t (by
      show Steps p.tables e below (T4.setTop (mkF m 21 #[.val (.ref r0), .val (.ref r1), .val (.ref r1)] [(.int (lcmpW x1 y1))])) _
      refine XS.ifNo X4.here hx rfl (hb hby d5_21) rfl ((if0 _ _).trans (teq ((lw_eq _ _).mpr hc6)).2) ?_
      show Steps p.tables e below (T4.setTop (mkF m 24 #[.val (.ref r0), .val (.ref r1), .val (.ref r1)] [])) _
      refine XS.aloadN X4.here hx rfl (hb hby d5_24) rfl rfl ?_
      show Steps p.tables e below (T4.setTop (mkF m 25 #[.val (.ref r0), .val (.ref r1), .val (.ref r1)] [(.ref r0)])) _
      refine st7 _ ?_
      show Steps p.tables e below (T7.setTop (mkF m 28 #[.val (.ref r0), .val (.ref r1), .val (.ref r1)] [(.long x2)])) _
      refine XS.aloadN X7.here hx rfl (hb hby d5_28) rfl rfl ?_
      show Steps p.tables e below (T7.setTop (mkF m 29 #[.val (.ref r0), .val (.ref r1), .val (.ref r1)] [(.ref r1), (.long x2)])) _
      refine st8 _ ?_
      show Steps p.tables e below (T8.setTop (mkF m 32 #[.val (.ref r0), .val (.ref r1), .val (.ref r1)] [(.long y2), (.long x2)])) _
      refine XS.lcmp X8.here hx rfl (hb hby d5_32) rfl ?_
      exact kk)
    by_cases hc10 : x2 = y2
    · obtain ⟨T11, X11, e11, st11⟩ := getF X8 hx hZ hown (host := "") (Or.inl (hw _ (List.mem_of_getElem? (i := 18) rfl))) Via.refl e8 Fx3 (g := (mkF m 37 #[.val (.ref r0), .val (.ref r1), .val (.ref r1)] [(.ref r0)])) rfl rfl (hb hby d5_37)
      obtain ⟨T12, X12, e12, st12⟩ := getF X11 hx hZ hown (host := "") (Or.inl (hw _ (List.mem_of_getElem? (i := 18) rfl))) Via.refl e11 Fy3 (g := (mkF m 41 #[.val (.ref r0), .val (.ref r1), .val (.ref r1)] [(.ref r1), (.long x3)])) rfl rfl (hb hby d5_41)
      have pre13 : ∀ t, Steps p.tables e below (T12.setTop (mkF m 45 #[.val (.ref r0), .val (.ref r1), .val (.ref r1)] [(.int (lcmpW x3 y3))])) t → Steps p.tables e below (s₁.setTop (entryFrame m #[(.ref r0), (.ref r1)] 3)) t := fun t kk => pre9 t (by
        show Steps p.tables e below (T8.setTop (mkF m 33 #[.val (.ref r0), .val (.ref r1), .val (.ref r1)] [(.int (lcmpW x2 y2))])) _
        refine XS.ifNo X8.here hx rfl (hb hby d5_33) rfl ((if0 _ _).trans (teq ((lw_eq _ _).mpr hc10)).2) ?_
        show Steps p.tables e below (T8.setTop (mkF m 36 #[.val (.ref r0), .val (.ref r1), .val (.ref r1)] [])) _
        refine XS.aloadN X8.here hx rfl (hb hby d5_36) rfl rfl ?_
        show Steps p.tables e below (T8.setTop (mkF m 37 #[.val (.ref r0), .val (.ref r1), .val (.ref r1)] [(.ref r0)])) _
        refine st11 _ ?_
        show Steps p.tables e below (T11.setTop (mkF m 40 #[.val (.ref r0), .val (.ref r1), .val (.ref r1)] [(.long x3)])) _
        refine XS.aloadN X11.here hx rfl (hb hby d5_40) rfl rfl ?_
        show Steps p.tables e below (T11.setTop (mkF m 41 #[.val (.ref r0), .val (.ref r1), .val (.ref r1)] [(.ref r1), (.long x3)])) _
        refine st12 _ ?_
        show Steps p.tables e below (T12.setTop (mkF m 44 #[.val (.ref r0), .val (.ref r1), .val (.ref r1)] [(.long y3), (.long x3)])) _
        refine XS.lcmp X12.here hx rfl (hb hby d5_44) rfl ?_
        exact kk)
      by_cases hc14 : x3 = y3
      · obtain ⟨T15, X15, e15, st15⟩ := getF X12 hx hZ hown (host := "") (Or.inl (hw _ (List.mem_of_getElem? (i := 20) rfl))) Via.refl e12 Fx4 (g := (mkF m 49 #[.val (.ref r0), .val (.ref r1), .val (.ref r1)] [(.ref r0)])) rfl rfl (hb hby d5_49)
        obtain ⟨T16, X16, e16, st16⟩ := getF X15 hx hZ hown (host := "") (Or.inl (hw _ (List.mem_of_getElem? (i := 20) rfl))) Via.refl e15 Fy4 (g := (mkF m 53 #[.val (.ref r0), .val (.ref r1), .val (.ref r1)] [(.ref r1), (.int x4)])) rfl rfl (hb hby d5_53)
        have pre17 : ∀ t, Steps p.tables e below (T16.setTop (mkF m 56 #[.val (.ref r0), .val (.ref r1), .val (.ref r1)] [(.int y4), (.int x4)])) t → Steps p.tables e below (s₁.setTop (entryFrame m #[(.ref r0), (.ref r1)] 3)) t := fun t kk => pre13 t (by
          show Steps p.tables e below (T12.setTop (mkF m 45 #[.val (.ref r0), .val (.ref r1), .val (.ref r1)] [(.int (lcmpW x3 y3))])) _
          refine XS.ifNo X12.here hx rfl (hb hby d5_45) rfl ((if0 _ _).trans (teq ((lw_eq _ _).mpr hc14)).2) ?_
          show Steps p.tables e below (T12.setTop (mkF m 48 #[.val (.ref r0), .val (.ref r1), .val (.ref r1)] [])) _
          refine XS.aloadN X12.here hx rfl (hb hby d5_48) rfl rfl ?_
          show Steps p.tables e below (T12.setTop (mkF m 49 #[.val (.ref r0), .val (.ref r1), .val (.ref r1)] [(.ref r0)])) _
          refine st15 _ ?_
          show Steps p.tables e below (T15.setTop (mkF m 52 #[.val (.ref r0), .val (.ref r1), .val (.ref r1)] [(.int x4)])) _
          refine XS.aloadN X15.here hx rfl (hb hby d5_52) rfl rfl ?_
          show Steps p.tables e below (T15.setTop (mkF m 53 #[.val (.ref r0), .val (.ref r1), .val (.ref r1)] [(.ref r1), (.int x4)])) _
          refine st16 _ ?_
          exact kk)
        by_cases hc18 : x4 = y4
        · obtain ⟨fs, hr, hrun, hended, hW, hsame⟩ := X16.leave (v := some (.int (1 : Int32))) (fun h => by rw [Bd.returns] at h; cases h)
          refine ⟨_, _, pre17 _ ?_, hrun, hended, _, _, rfl, ?_, ⟨_, rfl⟩, hW, hsame.mono (by decide) (by decide)⟩
          · show Steps p.tables e below (T16.setTop (mkF m 56 #[.val (.ref r0), .val (.ref r1), .val (.ref r1)] [(.int y4), (.int x4)])) _
            refine XS.icmpNo X16.here hx rfl (hb hby d5_56) rfl (teq hc18).2 ?_
            show Steps p.tables e below (T16.setTop (mkF m 59 #[.val (.ref r0), .val (.ref r1), .val (.ref r1)] [])) _
            refine XS.iconst X16.here hx rfl (hb hby d5_59) ?_
            show Steps p.tables e below (T16.setTop (mkF m 60 #[.val (.ref r0), .val (.ref r1), .val (.ref r1)] [(.int (1 : Int32))])) _
            refine XS.goto X16.here hx rfl (pc0 := 60) (pc' := 64) rfl (hb hby d5_60) (by decide) (by decide) ?_
            show Steps p.tables e below (T16.setTop (mkF m 64 #[.val (.ref r0), .val (.ref r1), .val (.ref r1)] [(.int (1 : Int32))])) _
            exact retN X16 hx (t := .boolean) Bd.returns (by simp) (hb hby d5_64) hr
          · show Q5 (eqF x1 x2 x3 x4 y1 y2 y3 y4) h0 n0 _ T16.heap _
            rw [e16]
            exact ⟨congrArg (fun z => some (Value.int z)) (by unfold eqF; rw [if_pos hc6, if_pos hc10, if_pos hc14, if_pos hc18]), N0, rfl⟩
        · obtain ⟨fs, hr, hrun, hended, hW, hsame⟩ := X16.leave (v := some (.int (0 : Int32))) (fun h => by rw [Bd.returns] at h; cases h)
          refine ⟨_, _, pre17 _ ?_, hrun, hended, _, _, rfl, ?_, ⟨_, rfl⟩, hW, hsame.mono (by decide) (by decide)⟩
          · show Steps p.tables e below (T16.setTop (mkF m 56 #[.val (.ref r0), .val (.ref r1), .val (.ref r1)] [(.int y4), (.int x4)])) _
            refine XS.icmpYes X16.here hx rfl (pc0 := 56) (pc' := 63) rfl (hb hby d5_56) rfl (feq hc18).2 (by decide) (by decide) ?_
            show Steps p.tables e below (T16.setTop (mkF m 63 #[.val (.ref r0), .val (.ref r1), .val (.ref r1)] [])) _
            refine XS.iconst X16.here hx rfl (hb hby d5_63) ?_
            show Steps p.tables e below (T16.setTop (mkF m 64 #[.val (.ref r0), .val (.ref r1), .val (.ref r1)] [(.int (0 : Int32))])) _
            exact retN X16 hx (t := .boolean) Bd.returns (by simp) (hb hby d5_64) hr
          · show Q5 (eqF x1 x2 x3 x4 y1 y2 y3 y4) h0 n0 _ T16.heap _
            rw [e16]
            exact ⟨congrArg (fun z => some (Value.int z)) (by unfold eqF; rw [if_pos hc6, if_pos hc10, if_pos hc14, if_neg hc18]), N0, rfl⟩
      · obtain ⟨fs, hr, hrun, hended, hW, hsame⟩ := X12.leave (v := some (.int (0 : Int32))) (fun h => by rw [Bd.returns] at h; cases h)
        refine ⟨_, _, pre13 _ ?_, hrun, hended, _, _, rfl, ?_, ⟨_, rfl⟩, hW, hsame.mono (by decide) (by decide)⟩
        · show Steps p.tables e below (T12.setTop (mkF m 45 #[.val (.ref r0), .val (.ref r1), .val (.ref r1)] [(.int (lcmpW x3 y3))])) _
          refine XS.ifYes X12.here hx rfl (pc0 := 45) (pc' := 63) rfl (hb hby d5_45) rfl ((if0 _ _).trans (feq (fun q => hc14 ((lw_eq _ _).mp q))).2) (by decide) (by decide) ?_
          show Steps p.tables e below (T12.setTop (mkF m 63 #[.val (.ref r0), .val (.ref r1), .val (.ref r1)] [])) _
          refine XS.iconst X12.here hx rfl (hb hby d5_63) ?_
          show Steps p.tables e below (T12.setTop (mkF m 64 #[.val (.ref r0), .val (.ref r1), .val (.ref r1)] [(.int (0 : Int32))])) _
          exact retN X12 hx (t := .boolean) Bd.returns (by simp) (hb hby d5_64) hr
        · show Q5 (eqF x1 x2 x3 x4 y1 y2 y3 y4) h0 n0 _ T12.heap _
          rw [e12]
          exact ⟨congrArg (fun z => some (Value.int z)) (by unfold eqF; rw [if_pos hc6, if_pos hc10, if_neg hc14]), N0, rfl⟩
    · obtain ⟨fs, hr, hrun, hended, hW, hsame⟩ := X8.leave (v := some (.int (0 : Int32))) (fun h => by rw [Bd.returns] at h; cases h)
      refine ⟨_, _, pre9 _ ?_, hrun, hended, _, _, rfl, ?_, ⟨_, rfl⟩, hW, hsame.mono (by decide) (by decide)⟩
      · show Steps p.tables e below (T8.setTop (mkF m 33 #[.val (.ref r0), .val (.ref r1), .val (.ref r1)] [(.int (lcmpW x2 y2))])) _
        refine XS.ifYes X8.here hx rfl (pc0 := 33) (pc' := 63) rfl (hb hby d5_33) rfl ((if0 _ _).trans (feq (fun q => hc10 ((lw_eq _ _).mp q))).2) (by decide) (by decide) ?_
        show Steps p.tables e below (T8.setTop (mkF m 63 #[.val (.ref r0), .val (.ref r1), .val (.ref r1)] [])) _
        refine XS.iconst X8.here hx rfl (hb hby d5_63) ?_
        show Steps p.tables e below (T8.setTop (mkF m 64 #[.val (.ref r0), .val (.ref r1), .val (.ref r1)] [(.int (0 : Int32))])) _
        exact retN X8 hx (t := .boolean) Bd.returns (by simp) (hb hby d5_64) hr
      · show Q5 (eqF x1 x2 x3 x4 y1 y2 y3 y4) h0 n0 _ T8.heap _
        rw [e8]
        exact ⟨congrArg (fun z => some (Value.int z)) (by unfold eqF; rw [if_pos hc6, if_neg hc10]), N0, rfl⟩
  · obtain ⟨fs, hr, hrun, hended, hW, hsame⟩ := X4.leave (v := some (.int (0 : Int32))) (fun h => by rw [Bd.returns] at h; cases h)
    refine ⟨_, _, pre5 _ ?_, hrun, hended, _, _, rfl, ?_, ⟨_, rfl⟩, hW, hsame.mono (by decide) (by decide)⟩
    · show Steps p.tables e below (T4.setTop (mkF m 21 #[.val (.ref r0), .val (.ref r1), .val (.ref r1)] [(.int (lcmpW x1 y1))])) _
      refine XS.ifYes X4.here hx rfl (pc0 := 21) (pc' := 63) rfl (hb hby d5_21) rfl ((if0 _ _).trans (feq (fun q => hc6 ((lw_eq _ _).mp q))).2) (by decide) (by decide) ?_
      show Steps p.tables e below (T4.setTop (mkF m 63 #[.val (.ref r0), .val (.ref r1), .val (.ref r1)] [])) _
      refine XS.iconst X4.here hx rfl (hb hby d5_63) ?_
      show Steps p.tables e below (T4.setTop (mkF m 64 #[.val (.ref r0), .val (.ref r1), .val (.ref r1)] [(.int (0 : Int32))])) _
      exact retN X4 hx (t := .boolean) Bd.returns (by simp) (hb hby d5_64) hr
    · show Q5 (eqF x1 x2 x3 x4 y1 y2 y3 y4) h0 n0 _ T4.heap _
      rw [e4]
      exact ⟨congrArg (fun z => some (Value.int z)) (by unfold eqF; rw [if_neg hc6]), N0, rfl⟩
theorem ef_5_n (m : MethodId) (r0 : Addr) : entryFrame m #[(.ref r0), .null] 3 = mkF m 0 #[.val (.ref r0), .val .null, .unset] [] := by first | (simp [entryFrame, mkF, argsToLocals, Value.category]; done) | rfl
set_option maxRecDepth 65536 in
set_option maxHeartbeats 40000000 in
theorem rm5_n (l : Launch) (Z : State) (a0 : Array Value) (hw : ∀ d ∈ tables_1, d.before a0 Z = true) (ws : List Jvm.Cond) (r0 : Addr)  (h0 : Heap) (n0 : Nat) (Z0 : n0 ≤ h0.size)  :
    MetFree l (⟨"com/example/copyleaf/copyleaf/format/ChunkRef", "equals", "(Ljava/lang/Object;)Z"⟩ : MethodName) (head1 (Jvm.Cond.code (⟨"com/example/copyleaf/copyleaf/format/ChunkRef", "equals", "(Ljava/lang/Object;)Z"⟩ : MethodName) prog_25_method_3_code 3 (some .boolean) :: ws) ({ frames := 0, cells := 0, slots := 0, locals := 0 } : Room)) (fun a U => a = #[(.ref r0), .null] ∧ Z.Warmed39 U.vm ∧ U.heap = h0) (fun _ _ _ _ _ => True) (fun _ U o U' => ∃ v L, o = .returned v ∧ Q5 0 h0 n0 v U'.heap L ∧ FrameEnd U o U' L ({ frames := 0, cells := 0, slots := 0, locals := 0 } : Room).cells ({ frames := 0, cells := 0, slots := 0, locals := 0 } : Room).slots) := by
  refine MetFree.of_bodySF (plainFor_of_name pn_com_example_copyleaf_copyleaf_format_ChunkRef) hisR ?_
  intro p e s m args below meth c s₁ Bd hml0 hP hK
  obtain ⟨rfl, hZ, hh⟩ := hP
  have hx := Bd.exec
  have hby := Bd.bytes
  have hml : c.maxLocals = 3 := hml0
  have hown : s.vm.findClass "com/example/copyleaf/copyleaf/format/ChunkRef" = some m.cls := findClass_of_methodNamed Bd.named
  have hnm := (name_of_methodNamed Bd.named Bd.method).1
  have X0 : Stand p l e ({ frames := 0, cells := 0, slots := 0, locals := 0 } : Room) s m #[(.ref r0), .null] below meth c s₁ [] 0 0 := Stand.of_body Bd
  have e0 : s₁.heap = h0 := by rw [← hh, Bd.state]; rfl
  have N0 := Fr.nil n0
  have pre0 : ∀ t, Steps p.tables e below (s₁.setTop (mkF m 0 #[.val (.ref r0), .val .null, .unset] [])) t → Steps p.tables e below (s₁.setTop (entryFrame m #[(.ref r0), .null] 3)) t := fun t k => castTop (ef_5_n m r0) k
  obtain ⟨fs, hr, hrun, hended, hW, hsame⟩ := X0.leave (v := some (.int (0 : Int32))) (fun h => by rw [Bd.returns] at h; cases h)
  refine ⟨_, _, pre0 _ ?_, hrun, hended, _, _, rfl, ?_, ⟨_, rfl⟩, hW, hsame.mono (by decide) (by decide)⟩
  · show Steps p.tables e below (s₁.setTop (mkF m 0 #[.val (.ref r0), .val .null, .unset] [])) _
    refine XS.aloadN X0.here hx rfl (hb hby d5_0) rfl rfl ?_
    show Steps p.tables e below (s₁.setTop (mkF m 1 #[.val (.ref r0), .val .null, .unset] [.null])) _
    refine X0.instanceofNull hx (g := (mkF m 1 #[.val (.ref r0), .val .null, .unset] [.null])) rfl rfl (hb hby d5_1) _ ?_
    show Steps p.tables e below (s₁.setTop (mkF m 4 #[.val (.ref r0), .val .null, .unset] [(.int (0 : Int32))])) _
    refine XS.ifYes X0.here hx rfl (pc0 := 4) (pc' := 63) rfl (hb hby d5_4) rfl ((if0 _ _).trans (teq (rfl : (0 : Int32) = (0 : Int32))).1) (by decide) (by decide) ?_
    show Steps p.tables e below (s₁.setTop (mkF m 63 #[.val (.ref r0), .val .null, .unset] [])) _
    refine XS.iconst X0.here hx rfl (hb hby d5_63) ?_
    show Steps p.tables e below (s₁.setTop (mkF m 64 #[.val (.ref r0), .val .null, .unset] [(.int (0 : Int32))])) _
    exact retN X0 hx (t := .boolean) Bd.returns (by simp) (hb hby d5_64) hr
  · show Q5 0 h0 n0 _ s₁.heap _
    rw [e0]
    exact ⟨rfl, N0, rfl⟩
theorem ef_5_l (m : MethodId) (r0 : Addr) (r1 : Addr) : entryFrame m #[(.ref r0), (.ref r1)] 3 = mkF m 0 #[.val (.ref r0), .val (.ref r1), .unset] [] := by first | (simp [entryFrame, mkF, argsToLocals, Value.category]; done) | rfl
set_option maxRecDepth 65536 in
set_option maxHeartbeats 40000000 in
theorem rm5_l (l : Launch) (Z : State) (a0 : Array Value) (hw : ∀ d ∈ tables_1, d.before a0 Z = true) (ws : List Jvm.Cond) (r0 : Addr) (r1 : Addr)  (h0 : Heap) (n0 : Nat) (Z0 : n0 ≤ h0.size) (Ey : Exa Z h0 r1 "java/lang/Long") :
    MetFree l (⟨"com/example/copyleaf/copyleaf/format/ChunkRef", "equals", "(Ljava/lang/Object;)Z"⟩ : MethodName) (head1 (Jvm.Cond.code (⟨"com/example/copyleaf/copyleaf/format/ChunkRef", "equals", "(Ljava/lang/Object;)Z"⟩ : MethodName) prog_25_method_3_code 3 (some .boolean) :: ws) ({ frames := 0, cells := 0, slots := 0, locals := 0 } : Room)) (fun a U => a = #[(.ref r0), (.ref r1)] ∧ Z.Warmed39 U.vm ∧ U.heap = h0) (fun _ _ _ _ _ => True) (fun _ U o U' => ∃ v L, o = .returned v ∧ Q5 0 h0 n0 v U'.heap L ∧ FrameEnd U o U' L ({ frames := 0, cells := 0, slots := 0, locals := 0 } : Room).cells ({ frames := 0, cells := 0, slots := 0, locals := 0 } : Room).slots) := by
  refine MetFree.of_bodySF (plainFor_of_name pn_com_example_copyleaf_copyleaf_format_ChunkRef) hisR ?_
  intro p e s m args below meth c s₁ Bd hml0 hP hK
  obtain ⟨rfl, hZ, hh⟩ := hP
  have hx := Bd.exec
  have hby := Bd.bytes
  have hml : c.maxLocals = 3 := hml0
  have hown : s.vm.findClass "com/example/copyleaf/copyleaf/format/ChunkRef" = some m.cls := findClass_of_methodNamed Bd.named
  have hnm := (name_of_methodNamed Bd.named Bd.method).1
  have X0 : Stand p l e ({ frames := 0, cells := 0, slots := 0, locals := 0 } : Room) s m #[(.ref r0), (.ref r1)] below meth c s₁ [] 0 0 := Stand.of_body Bd
  have e0 : s₁.heap = h0 := by rw [← hh, Bd.state]; rfl
  have N0 := Fr.nil n0
  have pre0 : ∀ t, Steps p.tables e below (s₁.setTop (mkF m 0 #[.val (.ref r0), .val (.ref r1), .unset] [])) t → Steps p.tables e below (s₁.setTop (entryFrame m #[(.ref r0), (.ref r1)] 3)) t := fun t k => castTop (ef_5_l m r0 r1) k
  obtain ⟨T1, X1, e1, st1⟩ := instNo X0 hx hZ hown (hw _ (List.mem_of_getElem? (i := 35) rfl)) e0 Ey (own_no Z a0 hw) (g := (mkF m 1 #[.val (.ref r0), .val (.ref r1), .unset] [(.ref r1)])) rfl rfl (hb hby d5_1)
  obtain ⟨fs, hr, hrun, hended, hW, hsame⟩ := X1.leave (v := some (.int (0 : Int32))) (fun h => by rw [Bd.returns] at h; cases h)
  refine ⟨_, _, pre0 _ ?_, hrun, hended, _, _, rfl, ?_, ⟨_, rfl⟩, hW, hsame.mono (by decide) (by decide)⟩
  · show Steps p.tables e below (s₁.setTop (mkF m 0 #[.val (.ref r0), .val (.ref r1), .unset] [])) _
    refine XS.aloadN X0.here hx rfl (hb hby d5_0) rfl rfl ?_
    show Steps p.tables e below (s₁.setTop (mkF m 1 #[.val (.ref r0), .val (.ref r1), .unset] [(.ref r1)])) _
    refine st1 _ ?_
    show Steps p.tables e below (T1.setTop (mkF m 4 #[.val (.ref r0), .val (.ref r1), .unset] [(.int (0 : Int32))])) _
    refine XS.ifYes X1.here hx rfl (pc0 := 4) (pc' := 63) rfl (hb hby d5_4) rfl ((if0 _ _).trans (teq (rfl : (0 : Int32) = (0 : Int32))).1) (by decide) (by decide) ?_
    show Steps p.tables e below (T1.setTop (mkF m 63 #[.val (.ref r0), .val (.ref r1), .unset] [])) _
    refine XS.iconst X1.here hx rfl (hb hby d5_63) ?_
    show Steps p.tables e below (T1.setTop (mkF m 64 #[.val (.ref r0), .val (.ref r1), .unset] [(.int (0 : Int32))])) _
    exact retN X1 hx (t := .boolean) Bd.returns (by simp) (hb hby d5_64) hr
  · show Q5 0 h0 n0 _ T1.heap _
    rw [e1]
    exact ⟨rfl, N0, rfl⟩
theorem own_sym (x1 x2 x3 : Int64) (x4 : Int32) (y1 y2 y3 : Int64) (y4 : Int32) : eqF y1 y2 y3 y4 x1 x2 x3 x4 = eqF x1 x2 x3 x4 y1 y2 y3 y4 := by
  unfold eqF; simp only [eq_comm (a := y1), eq_comm (a := y2), eq_comm (a := y3), eq_comm (a := y4)]
theorem own_self (x1 x2 x3 : Int64) (x4 : Int32) : ¬ eqF x1 x2 x3 x4 x1 x2 x3 x4 = 0 := by
  unfold eqF; rw [if_pos rfl, if_pos rfl, if_pos rfl, if_pos rfl]; decide
theorem own_nar {P : Prop} [Decidable P] {v : Int32} (e : v = (if P then (0 : Int32) else (1 : Int32))) : nar .boolean v = v := by
  subst e; by_cases h : P <;> simp [h, nar]
theorem own_eq {x1 x2 x3 : Int64} {x4 : Int32} {y1 y2 y3 : Int64} {y4 v : Int32} (h4 : nar .boolean x4 = x4) (k4 : nar .boolean y4 = y4)
    (e : v = (if y1 = x1 then (if y2 = x2 then (if y3 = x3 then (if y4 = x4 then (1 : Int32) else (0 : Int32)) else (0 : Int32)) else (0 : Int32)) else (0 : Int32))) : eqF x1 x2 x3 (nar .boolean x4) y1 y2 y3 (nar .boolean y4) = v := by
  rw [h4, k4, own_sym, e]; rfl
theorem pd__28JJJZ_29V : parseMethodDescriptor "(JJJZ)V" = some ⟨[.long, .long, .long, .boolean], none⟩ := by decide +kernel
theorem pd__28J_29Ljava_2flang_2fLong_3b : parseMethodDescriptor "(J)Ljava/lang/Long;" = some ⟨[.long], some (.object "java/lang/Long")⟩ := by decide +kernel
theorem pd__28Ljava_2flang_2fObject_3b_29Z : parseMethodDescriptor "(Ljava/lang/Object;)Z" = some ⟨[(.object "java/lang/Object")], some .boolean⟩ := by decide +kernel
def Q0 (h0 : Heap) (n0 : Nat) (v : Option Value) (h : Heap) (L : List Loc) : Prop := v = some (.int 1) ∧ Fr n0 L
theorem pn_com_example_copyleaf_copyleaf_format_ChunkRefEqualsPinLaw : plainName "com/example/copyleaf/copyleaf/format/ChunkRefEqualsPinLaw" = true := by first | (simp [plainName, overriddenIn]; done) | decide +kernel
theorem ef_0 (m : MethodId) (q0 : Int64) (q1 : Int64) (q2 : Int64) (q3 : Int64) (p4 : Int32) (p5 : Int32) : entryFrame m #[(.long q0), (.long q1), (.long q2), (.long q3), (.int p4), (.int p5)] maxLocals = mkF m 0 #[.val (.long q0), .second, .val (.long q1), .second, .val (.long q2), .second, .val (.long q3), .second, .val (.int p4), .val (.int p5), .unset, .unset, .unset, .unset, .unset, .unset, .unset, .unset, .unset, .unset, .unset, .unset, .unset, .unset, .unset, .unset, .unset] [] := by first | (simp [entryFrame, mkF, argsToLocals, Value.category, maxLocals]; done) | rfl
set_option maxRecDepth 65536 in
set_option maxHeartbeats 40000000 in
theorem rm0 (l : Launch) (Z : State) (a0 : Array Value) (hw : ∀ d ∈ tables_1, d.before a0 Z = true) (ws : List Jvm.Cond) (q0 : Int64) (q1 : Int64) (q2 : Int64) (q3 : Int64) (p4 : Int32) (p5 : Int32) (ca : Addr) (cc : Cell) (h0 : Heap) (n0 : Nat) (Z0 : n0 ≤ h0.size) (O0 : Old Z n0 h0) (Sc : Sta Z Z.heap "java/lang/Long$LongCache" "cache" "[Ljava/lang/Long;" (.ref ca)) (Ac : Arr Z Z.heap ca cc (.object "java/lang/Long")) (Hc : ∀ w : Int64, ¬ w < (-128 : Int64) → ¬ (127 : Int64) < w → ¬ ((w.toInt32 + (128 : Int32)) < 0 ∨ cc.slots.size ≤ (w.toInt32 + (128 : Int32)).toNatClampNeg) ∧ ∃ r : Addr, cc.slots[(w.toInt32 + (128 : Int32)).toNatClampNeg]? = some (.ref r) ∧ Exa Z Z.heap r "java/lang/Long") :
    MetFree l x (head1 (Jvm.Cond.code x code maxLocals ret :: ws) room_1) (fun a U => a = #[(.long q0), (.long q1), (.long q2), (.long q3), (.int p4), (.int p5)] ∧ Z.Warmed39 U.vm ∧ U.heap = h0) (fun _ _ _ _ _ => True) (fun _ U o U' => ∃ v L, o = .returned v ∧ Q0 h0 n0 v U'.heap L ∧ FrameEnd U o U' L room_1.cells room_1.slots) := by
  refine MetFree.of_bodySF (plainFor_of_name pn_com_example_copyleaf_copyleaf_format_ChunkRefEqualsPinLaw) hisR ?_
  intro p e s m args below meth c s₁ Bd hml0 hP hK
  obtain ⟨rfl, hZ, hh⟩ := hP
  have hx := Bd.exec
  have hby := Bd.bytes
  have hml : c.maxLocals = 27 := hml0
  have hown : s.vm.findClass "com/example/copyleaf/copyleaf/format/ChunkRefEqualsPinLaw" = some m.cls := findClass_of_methodNamed Bd.named
  have hnm := (name_of_methodNamed Bd.named Bd.method).1
  have X0 : Stand p l e room_1 s m #[(.long q0), (.long q1), (.long q2), (.long q3), (.int p4), (.int p5)] below meth c s₁ [] 0 0 := Stand.of_body Bd
  have e0 : s₁.heap = h0 := by rw [← hh, Bd.state]; rfl
  have N0 := Fr.nil n0
  have pre0 : ∀ t, Steps p.tables e below (s₁.setTop (mkF m 0 #[.val (.long q0), .second, .val (.long q1), .second, .val (.long q2), .second, .val (.long q3), .second, .val (.int p4), .val (.int p5), .unset, .unset, .unset, .unset, .unset, .unset, .unset, .unset, .unset, .unset, .unset, .unset, .unset, .unset, .unset, .unset, .unset] [])) t → Steps p.tables e below (s₁.setTop (entryFrame m #[(.long q0), (.long q1), (.long q2), (.long q3), (.int p4), (.int p5)] maxLocals)) t := fun t k => castTop (ef_0 m q0 q1 q2 q3 p4 p5) k
  have pre1 : ∀ t, Steps p.tables e below (s₁.setTop (mkF m 4 #[.val (.long q0), .second, .val (.long q1), .second, .val (.long q2), .second, .val (.long q3), .second, .val (.int p4), .val (.int p5), .unset, .unset, .unset, .unset, .unset, .unset, .unset, .unset, .unset, .unset, .unset, .unset, .unset, .unset, .unset, .unset, .unset] [(.int (p5 &&& (1 : Int32)))])) t → Steps p.tables e below (s₁.setTop (entryFrame m #[(.long q0), (.long q1), (.long q2), (.long q3), (.int p4), (.int p5)] maxLocals)) t := fun t kk => pre0 t (by
    show Steps p.tables e below (s₁.setTop (mkF m 0 #[.val (.long q0), .second, .val (.long q1), .second, .val (.long q2), .second, .val (.long q3), .second, .val (.int p4), .val (.int p5), .unset, .unset, .unset, .unset, .unset, .unset, .unset, .unset, .unset, .unset, .unset, .unset, .unset, .unset, .unset, .unset, .unset] [])) _
    refine XS.iload X0.here hx rfl (hb hby at_0) rfl ?_
    show Steps p.tables e below (s₁.setTop (mkF m 2 #[.val (.long q0), .second, .val (.long q1), .second, .val (.long q2), .second, .val (.long q3), .second, .val (.int p4), .val (.int p5), .unset, .unset, .unset, .unset, .unset, .unset, .unset, .unset, .unset, .unset, .unset, .unset, .unset, .unset, .unset, .unset, .unset] [(.int p5)])) _
    refine XS.iconst X0.here hx rfl (hb hby at_2) ?_
    show Steps p.tables e below (s₁.setTop (mkF m 3 #[.val (.long q0), .second, .val (.long q1), .second, .val (.long q2), .second, .val (.long q3), .second, .val (.int p4), .val (.int p5), .unset, .unset, .unset, .unset, .unset, .unset, .unset, .unset, .unset, .unset, .unset, .unset, .unset, .unset, .unset, .unset, .unset] [(.int (1 : Int32)), (.int p5)])) _
    refine XS.iand X0.here hx rfl (hb hby at_3) rfl ?_
    exact kk)
  obtain ⟨v2, ev2, pre2⟩ : ∃ z : Int32, z = (if (p5 &&& (1 : Int32)) = (0 : Int32) then (0 : Int32) else (1 : Int32)) ∧ ∀ t, Steps p.tables e below (s₁.setTop (mkF m 12 #[.val (.long q0), .second, .val (.long q1), .second, .val (.long q2), .second, .val (.long q3), .second, .val (.int p4), .val (.int p5), .unset, .unset, .unset, .unset, .unset, .unset, .unset, .unset, .unset, .unset, .unset, .unset, .unset, .unset, .unset, .unset, .unset] [(.int z)])) t → Steps p.tables e below (s₁.setTop (entryFrame m #[(.long q0), (.long q1), (.long q2), (.long q3), (.int p4), (.int p5)] maxLocals)) t := by
    by_cases hd3 : (p5 &&& (1 : Int32)) = (0 : Int32)
    · refine ⟨(0 : Int32), (by rw [if_pos hd3]), fun t kk => pre1 t ?_⟩
      show Steps p.tables e below (s₁.setTop (mkF m 4 #[.val (.long q0), .second, .val (.long q1), .second, .val (.long q2), .second, .val (.long q3), .second, .val (.int p4), .val (.int p5), .unset, .unset, .unset, .unset, .unset, .unset, .unset, .unset, .unset, .unset, .unset, .unset, .unset, .unset, .unset, .unset, .unset] [(.int (p5 &&& (1 : Int32)))])) _
      refine XS.ifYes X0.here hx rfl (pc0 := 4) (pc' := 11) rfl (hb hby at_4) rfl ((if0 _ _).trans (teq hd3).1) (by decide) (by decide) ?_
      show Steps p.tables e below (s₁.setTop (mkF m 11 #[.val (.long q0), .second, .val (.long q1), .second, .val (.long q2), .second, .val (.long q3), .second, .val (.int p4), .val (.int p5), .unset, .unset, .unset, .unset, .unset, .unset, .unset, .unset, .unset, .unset, .unset, .unset, .unset, .unset, .unset, .unset, .unset] [])) _
      refine XS.iconst X0.here hx rfl (hb hby at_11) ?_
      exact kk
    · refine ⟨(1 : Int32), (by rw [if_neg hd3]), fun t kk => pre1 t ?_⟩
      show Steps p.tables e below (s₁.setTop (mkF m 4 #[.val (.long q0), .second, .val (.long q1), .second, .val (.long q2), .second, .val (.long q3), .second, .val (.int p4), .val (.int p5), .unset, .unset, .unset, .unset, .unset, .unset, .unset, .unset, .unset, .unset, .unset, .unset, .unset, .unset, .unset, .unset, .unset] [(.int (p5 &&& (1 : Int32)))])) _
      refine XS.ifNo X0.here hx rfl (hb hby at_4) rfl ((if0 _ _).trans (feq hd3).1) ?_
      show Steps p.tables e below (s₁.setTop (mkF m 7 #[.val (.long q0), .second, .val (.long q1), .second, .val (.long q2), .second, .val (.long q3), .second, .val (.int p4), .val (.int p5), .unset, .unset, .unset, .unset, .unset, .unset, .unset, .unset, .unset, .unset, .unset, .unset, .unset, .unset, .unset, .unset, .unset] [])) _
      refine XS.iconst X0.here hx rfl (hb hby at_7) ?_
      show Steps p.tables e below (s₁.setTop (mkF m 8 #[.val (.long q0), .second, .val (.long q1), .second, .val (.long q2), .second, .val (.long q3), .second, .val (.int p4), .val (.int p5), .unset, .unset, .unset, .unset, .unset, .unset, .unset, .unset, .unset, .unset, .unset, .unset, .unset, .unset, .unset, .unset, .unset] [(.int (1 : Int32))])) _
      refine XS.goto X0.here hx rfl (pc0 := 8) (pc' := 12) rfl (hb hby at_8) (by decide) (by decide) ?_
      exact kk
  have pre4 : ∀ t, Steps p.tables e below (s₁.setTop (mkF m 18 #[.val (.long q0), .second, .val (.long q1), .second, .val (.long q2), .second, .val (.long q3), .second, .val (.int p4), .val (.int p5), .val (.int v2), .unset, .unset, .unset, .unset, .unset, .unset, .unset, .unset, .unset, .unset, .unset, .unset, .unset, .unset, .unset, .unset] [(.int (p5 &&& (2 : Int32)))])) t → Steps p.tables e below (s₁.setTop (entryFrame m #[(.long q0), (.long q1), (.long q2), (.long q3), (.int p4), (.int p5)] maxLocals)) t := fun t kk => pre2 t (by
    show Steps p.tables e below (s₁.setTop (mkF m 12 #[.val (.long q0), .second, .val (.long q1), .second, .val (.long q2), .second, .val (.long q3), .second, .val (.int p4), .val (.int p5), .unset, .unset, .unset, .unset, .unset, .unset, .unset, .unset, .unset, .unset, .unset, .unset, .unset, .unset, .unset, .unset, .unset] [(.int v2)])) _
    refine XS.istore X0.here hx rfl (hb hby at_12) rfl (l' := #[.val (.long q0), .second, .val (.long q1), .second, .val (.long q2), .second, .val (.long q3), .second, .val (.int p4), .val (.int p5), .val (.int v2), .unset, .unset, .unset, .unset, .unset, .unset, .unset, .unset, .unset, .unset, .unset, .unset, .unset, .unset, .unset, .unset]) rfl ?_
    show Steps p.tables e below (s₁.setTop (mkF m 14 #[.val (.long q0), .second, .val (.long q1), .second, .val (.long q2), .second, .val (.long q3), .second, .val (.int p4), .val (.int p5), .val (.int v2), .unset, .unset, .unset, .unset, .unset, .unset, .unset, .unset, .unset, .unset, .unset, .unset, .unset, .unset, .unset, .unset] [])) _
    refine XS.iload X0.here hx rfl (hb hby at_14) rfl ?_
    show Steps p.tables e below (s₁.setTop (mkF m 16 #[.val (.long q0), .second, .val (.long q1), .second, .val (.long q2), .second, .val (.long q3), .second, .val (.int p4), .val (.int p5), .val (.int v2), .unset, .unset, .unset, .unset, .unset, .unset, .unset, .unset, .unset, .unset, .unset, .unset, .unset, .unset, .unset, .unset] [(.int p5)])) _
    refine XS.iconst X0.here hx rfl (hb hby at_16) ?_
    show Steps p.tables e below (s₁.setTop (mkF m 17 #[.val (.long q0), .second, .val (.long q1), .second, .val (.long q2), .second, .val (.long q3), .second, .val (.int p4), .val (.int p5), .val (.int v2), .unset, .unset, .unset, .unset, .unset, .unset, .unset, .unset, .unset, .unset, .unset, .unset, .unset, .unset, .unset, .unset] [(.int (2 : Int32)), (.int p5)])) _
    refine XS.iand X0.here hx rfl (hb hby at_17) rfl ?_
    exact kk)
  obtain ⟨v5, ev5, pre5⟩ : ∃ z : Int32, z = (if (p5 &&& (2 : Int32)) = (0 : Int32) then (0 : Int32) else (1 : Int32)) ∧ ∀ t, Steps p.tables e below (s₁.setTop (mkF m 26 #[.val (.long q0), .second, .val (.long q1), .second, .val (.long q2), .second, .val (.long q3), .second, .val (.int p4), .val (.int p5), .val (.int v2), .unset, .unset, .unset, .unset, .unset, .unset, .unset, .unset, .unset, .unset, .unset, .unset, .unset, .unset, .unset, .unset] [(.int z)])) t → Steps p.tables e below (s₁.setTop (entryFrame m #[(.long q0), (.long q1), (.long q2), (.long q3), (.int p4), (.int p5)] maxLocals)) t := by
    by_cases hd6 : (p5 &&& (2 : Int32)) = (0 : Int32)
    · refine ⟨(0 : Int32), (by rw [if_pos hd6]), fun t kk => pre4 t ?_⟩
      show Steps p.tables e below (s₁.setTop (mkF m 18 #[.val (.long q0), .second, .val (.long q1), .second, .val (.long q2), .second, .val (.long q3), .second, .val (.int p4), .val (.int p5), .val (.int v2), .unset, .unset, .unset, .unset, .unset, .unset, .unset, .unset, .unset, .unset, .unset, .unset, .unset, .unset, .unset, .unset] [(.int (p5 &&& (2 : Int32)))])) _
      refine XS.ifYes X0.here hx rfl (pc0 := 18) (pc' := 25) rfl (hb hby at_18) rfl ((if0 _ _).trans (teq hd6).1) (by decide) (by decide) ?_
      show Steps p.tables e below (s₁.setTop (mkF m 25 #[.val (.long q0), .second, .val (.long q1), .second, .val (.long q2), .second, .val (.long q3), .second, .val (.int p4), .val (.int p5), .val (.int v2), .unset, .unset, .unset, .unset, .unset, .unset, .unset, .unset, .unset, .unset, .unset, .unset, .unset, .unset, .unset, .unset] [])) _
      refine XS.iconst X0.here hx rfl (hb hby at_25) ?_
      exact kk
    · refine ⟨(1 : Int32), (by rw [if_neg hd6]), fun t kk => pre4 t ?_⟩
      show Steps p.tables e below (s₁.setTop (mkF m 18 #[.val (.long q0), .second, .val (.long q1), .second, .val (.long q2), .second, .val (.long q3), .second, .val (.int p4), .val (.int p5), .val (.int v2), .unset, .unset, .unset, .unset, .unset, .unset, .unset, .unset, .unset, .unset, .unset, .unset, .unset, .unset, .unset, .unset] [(.int (p5 &&& (2 : Int32)))])) _
      refine XS.ifNo X0.here hx rfl (hb hby at_18) rfl ((if0 _ _).trans (feq hd6).1) ?_
      show Steps p.tables e below (s₁.setTop (mkF m 21 #[.val (.long q0), .second, .val (.long q1), .second, .val (.long q2), .second, .val (.long q3), .second, .val (.int p4), .val (.int p5), .val (.int v2), .unset, .unset, .unset, .unset, .unset, .unset, .unset, .unset, .unset, .unset, .unset, .unset, .unset, .unset, .unset, .unset] [])) _
      refine XS.iconst X0.here hx rfl (hb hby at_21) ?_
      show Steps p.tables e below (s₁.setTop (mkF m 22 #[.val (.long q0), .second, .val (.long q1), .second, .val (.long q2), .second, .val (.long q3), .second, .val (.int p4), .val (.int p5), .val (.int v2), .unset, .unset, .unset, .unset, .unset, .unset, .unset, .unset, .unset, .unset, .unset, .unset, .unset, .unset, .unset, .unset] [(.int (1 : Int32))])) _
      refine XS.goto X0.here hx rfl (pc0 := 22) (pc' := 26) rfl (hb hby at_22) (by decide) (by decide) ?_
      exact kk
  have pre7 : ∀ t, Steps p.tables e below (s₁.setTop (mkF m 32 #[.val (.long q0), .second, .val (.long q1), .second, .val (.long q2), .second, .val (.long q3), .second, .val (.int p4), .val (.int p5), .val (.int v2), .val (.int v5), .unset, .unset, .unset, .unset, .unset, .unset, .unset, .unset, .unset, .unset, .unset, .unset, .unset, .unset, .unset] [(.int (p4 &&& (1 : Int32)))])) t → Steps p.tables e below (s₁.setTop (entryFrame m #[(.long q0), (.long q1), (.long q2), (.long q3), (.int p4), (.int p5)] maxLocals)) t := fun t kk => pre5 t (by
    show Steps p.tables e below (s₁.setTop (mkF m 26 #[.val (.long q0), .second, .val (.long q1), .second, .val (.long q2), .second, .val (.long q3), .second, .val (.int p4), .val (.int p5), .val (.int v2), .unset, .unset, .unset, .unset, .unset, .unset, .unset, .unset, .unset, .unset, .unset, .unset, .unset, .unset, .unset, .unset] [(.int v5)])) _
    refine XS.istore X0.here hx rfl (hb hby at_26) rfl (l' := #[.val (.long q0), .second, .val (.long q1), .second, .val (.long q2), .second, .val (.long q3), .second, .val (.int p4), .val (.int p5), .val (.int v2), .val (.int v5), .unset, .unset, .unset, .unset, .unset, .unset, .unset, .unset, .unset, .unset, .unset, .unset, .unset, .unset, .unset]) rfl ?_
    show Steps p.tables e below (s₁.setTop (mkF m 28 #[.val (.long q0), .second, .val (.long q1), .second, .val (.long q2), .second, .val (.long q3), .second, .val (.int p4), .val (.int p5), .val (.int v2), .val (.int v5), .unset, .unset, .unset, .unset, .unset, .unset, .unset, .unset, .unset, .unset, .unset, .unset, .unset, .unset, .unset] [])) _
    refine XS.iload X0.here hx rfl (hb hby at_28) rfl ?_
    show Steps p.tables e below (s₁.setTop (mkF m 30 #[.val (.long q0), .second, .val (.long q1), .second, .val (.long q2), .second, .val (.long q3), .second, .val (.int p4), .val (.int p5), .val (.int v2), .val (.int v5), .unset, .unset, .unset, .unset, .unset, .unset, .unset, .unset, .unset, .unset, .unset, .unset, .unset, .unset, .unset] [(.int p4)])) _
    refine XS.iconst X0.here hx rfl (hb hby at_30) ?_
    show Steps p.tables e below (s₁.setTop (mkF m 31 #[.val (.long q0), .second, .val (.long q1), .second, .val (.long q2), .second, .val (.long q3), .second, .val (.int p4), .val (.int p5), .val (.int v2), .val (.int v5), .unset, .unset, .unset, .unset, .unset, .unset, .unset, .unset, .unset, .unset, .unset, .unset, .unset, .unset, .unset] [(.int (1 : Int32)), (.int p4)])) _
    refine XS.iand X0.here hx rfl (hb hby at_31) rfl ?_
    exact kk)
  obtain ⟨v8, ev8, pre8⟩ : ∃ z : Int64, z = (if (p4 &&& (1 : Int32)) = (0 : Int32) then q0 else (q0 ^^^ q3)) ∧ ∀ t, Steps p.tables e below (s₁.setTop (mkF m 43 #[.val (.long q0), .second, .val (.long q1), .second, .val (.long q2), .second, .val (.long q3), .second, .val (.int p4), .val (.int p5), .val (.int v2), .val (.int v5), .unset, .unset, .unset, .unset, .unset, .unset, .unset, .unset, .unset, .unset, .unset, .unset, .unset, .unset, .unset] [(.long z)])) t → Steps p.tables e below (s₁.setTop (entryFrame m #[(.long q0), (.long q1), (.long q2), (.long q3), (.int p4), (.int p5)] maxLocals)) t := by
    by_cases hd9 : (p4 &&& (1 : Int32)) = (0 : Int32)
    · refine ⟨q0, (by rw [if_pos hd9]), fun t kk => pre7 t ?_⟩
      show Steps p.tables e below (s₁.setTop (mkF m 32 #[.val (.long q0), .second, .val (.long q1), .second, .val (.long q2), .second, .val (.long q3), .second, .val (.int p4), .val (.int p5), .val (.int v2), .val (.int v5), .unset, .unset, .unset, .unset, .unset, .unset, .unset, .unset, .unset, .unset, .unset, .unset, .unset, .unset, .unset] [(.int (p4 &&& (1 : Int32)))])) _
      refine XS.ifYes X0.here hx rfl (pc0 := 32) (pc' := 42) rfl (hb hby at_32) rfl ((if0 _ _).trans (teq hd9).1) (by decide) (by decide) ?_
      show Steps p.tables e below (s₁.setTop (mkF m 42 #[.val (.long q0), .second, .val (.long q1), .second, .val (.long q2), .second, .val (.long q3), .second, .val (.int p4), .val (.int p5), .val (.int v2), .val (.int v5), .unset, .unset, .unset, .unset, .unset, .unset, .unset, .unset, .unset, .unset, .unset, .unset, .unset, .unset, .unset] [])) _
      refine XS.lloadN X0.here hx rfl (hb hby at_42) rfl ?_
      exact kk
    · refine ⟨(q0 ^^^ q3), (by rw [if_neg hd9]), fun t kk => pre7 t ?_⟩
      show Steps p.tables e below (s₁.setTop (mkF m 32 #[.val (.long q0), .second, .val (.long q1), .second, .val (.long q2), .second, .val (.long q3), .second, .val (.int p4), .val (.int p5), .val (.int v2), .val (.int v5), .unset, .unset, .unset, .unset, .unset, .unset, .unset, .unset, .unset, .unset, .unset, .unset, .unset, .unset, .unset] [(.int (p4 &&& (1 : Int32)))])) _
      refine XS.ifNo X0.here hx rfl (hb hby at_32) rfl ((if0 _ _).trans (feq hd9).1) ?_
      show Steps p.tables e below (s₁.setTop (mkF m 35 #[.val (.long q0), .second, .val (.long q1), .second, .val (.long q2), .second, .val (.long q3), .second, .val (.int p4), .val (.int p5), .val (.int v2), .val (.int v5), .unset, .unset, .unset, .unset, .unset, .unset, .unset, .unset, .unset, .unset, .unset, .unset, .unset, .unset, .unset] [])) _
      refine XS.lloadN X0.here hx rfl (hb hby at_35) rfl ?_
      show Steps p.tables e below (s₁.setTop (mkF m 36 #[.val (.long q0), .second, .val (.long q1), .second, .val (.long q2), .second, .val (.long q3), .second, .val (.int p4), .val (.int p5), .val (.int v2), .val (.int v5), .unset, .unset, .unset, .unset, .unset, .unset, .unset, .unset, .unset, .unset, .unset, .unset, .unset, .unset, .unset] [(.long q0)])) _
      refine XS.lload X0.here hx rfl (hb hby at_36) rfl ?_
      show Steps p.tables e below (s₁.setTop (mkF m 38 #[.val (.long q0), .second, .val (.long q1), .second, .val (.long q2), .second, .val (.long q3), .second, .val (.int p4), .val (.int p5), .val (.int v2), .val (.int v5), .unset, .unset, .unset, .unset, .unset, .unset, .unset, .unset, .unset, .unset, .unset, .unset, .unset, .unset, .unset] [(.long q3), (.long q0)])) _
      refine XS.lxor X0.here hx rfl (hb hby at_38) rfl ?_
      show Steps p.tables e below (s₁.setTop (mkF m 39 #[.val (.long q0), .second, .val (.long q1), .second, .val (.long q2), .second, .val (.long q3), .second, .val (.int p4), .val (.int p5), .val (.int v2), .val (.int v5), .unset, .unset, .unset, .unset, .unset, .unset, .unset, .unset, .unset, .unset, .unset, .unset, .unset, .unset, .unset] [(.long (q0 ^^^ q3))])) _
      refine XS.goto X0.here hx rfl (pc0 := 39) (pc' := 43) rfl (hb hby at_39) (by decide) (by decide) ?_
      exact kk
  have pre10 : ∀ t, Steps p.tables e below (s₁.setTop (mkF m 49 #[.val (.long q0), .second, .val (.long q1), .second, .val (.long q2), .second, .val (.long q3), .second, .val (.int p4), .val (.int p5), .val (.int v2), .val (.int v5), .val (.long v8), .second, .unset, .unset, .unset, .unset, .unset, .unset, .unset, .unset, .unset, .unset, .unset, .unset, .unset] [(.int (p4 &&& (2 : Int32)))])) t → Steps p.tables e below (s₁.setTop (entryFrame m #[(.long q0), (.long q1), (.long q2), (.long q3), (.int p4), (.int p5)] maxLocals)) t := fun t kk => pre8 t (by
    show Steps p.tables e below (s₁.setTop (mkF m 43 #[.val (.long q0), .second, .val (.long q1), .second, .val (.long q2), .second, .val (.long q3), .second, .val (.int p4), .val (.int p5), .val (.int v2), .val (.int v5), .unset, .unset, .unset, .unset, .unset, .unset, .unset, .unset, .unset, .unset, .unset, .unset, .unset, .unset, .unset] [(.long v8)])) _
    refine XS.lstore X0.here hx rfl (hb hby at_43) rfl (l' := #[.val (.long q0), .second, .val (.long q1), .second, .val (.long q2), .second, .val (.long q3), .second, .val (.int p4), .val (.int p5), .val (.int v2), .val (.int v5), .val (.long v8), .second, .unset, .unset, .unset, .unset, .unset, .unset, .unset, .unset, .unset, .unset, .unset, .unset, .unset]) rfl ?_
    show Steps p.tables e below (s₁.setTop (mkF m 45 #[.val (.long q0), .second, .val (.long q1), .second, .val (.long q2), .second, .val (.long q3), .second, .val (.int p4), .val (.int p5), .val (.int v2), .val (.int v5), .val (.long v8), .second, .unset, .unset, .unset, .unset, .unset, .unset, .unset, .unset, .unset, .unset, .unset, .unset, .unset] [])) _
    refine XS.iload X0.here hx rfl (hb hby at_45) rfl ?_
    show Steps p.tables e below (s₁.setTop (mkF m 47 #[.val (.long q0), .second, .val (.long q1), .second, .val (.long q2), .second, .val (.long q3), .second, .val (.int p4), .val (.int p5), .val (.int v2), .val (.int v5), .val (.long v8), .second, .unset, .unset, .unset, .unset, .unset, .unset, .unset, .unset, .unset, .unset, .unset, .unset, .unset] [(.int p4)])) _
    refine XS.iconst X0.here hx rfl (hb hby at_47) ?_
    show Steps p.tables e below (s₁.setTop (mkF m 48 #[.val (.long q0), .second, .val (.long q1), .second, .val (.long q2), .second, .val (.long q3), .second, .val (.int p4), .val (.int p5), .val (.int v2), .val (.int v5), .val (.long v8), .second, .unset, .unset, .unset, .unset, .unset, .unset, .unset, .unset, .unset, .unset, .unset, .unset, .unset] [(.int (2 : Int32)), (.int p4)])) _
    refine XS.iand X0.here hx rfl (hb hby at_48) rfl ?_
    exact kk)
  obtain ⟨v11, ev11, pre11⟩ : ∃ z : Int64, z = (if (p4 &&& (2 : Int32)) = (0 : Int32) then q1 else (q1 ^^^ q3)) ∧ ∀ t, Steps p.tables e below (s₁.setTop (mkF m 60 #[.val (.long q0), .second, .val (.long q1), .second, .val (.long q2), .second, .val (.long q3), .second, .val (.int p4), .val (.int p5), .val (.int v2), .val (.int v5), .val (.long v8), .second, .unset, .unset, .unset, .unset, .unset, .unset, .unset, .unset, .unset, .unset, .unset, .unset, .unset] [(.long z)])) t → Steps p.tables e below (s₁.setTop (entryFrame m #[(.long q0), (.long q1), (.long q2), (.long q3), (.int p4), (.int p5)] maxLocals)) t := by
    by_cases hd12 : (p4 &&& (2 : Int32)) = (0 : Int32)
    · refine ⟨q1, (by rw [if_pos hd12]), fun t kk => pre10 t ?_⟩
      show Steps p.tables e below (s₁.setTop (mkF m 49 #[.val (.long q0), .second, .val (.long q1), .second, .val (.long q2), .second, .val (.long q3), .second, .val (.int p4), .val (.int p5), .val (.int v2), .val (.int v5), .val (.long v8), .second, .unset, .unset, .unset, .unset, .unset, .unset, .unset, .unset, .unset, .unset, .unset, .unset, .unset] [(.int (p4 &&& (2 : Int32)))])) _
      refine XS.ifYes X0.here hx rfl (pc0 := 49) (pc' := 59) rfl (hb hby at_49) rfl ((if0 _ _).trans (teq hd12).1) (by decide) (by decide) ?_
      show Steps p.tables e below (s₁.setTop (mkF m 59 #[.val (.long q0), .second, .val (.long q1), .second, .val (.long q2), .second, .val (.long q3), .second, .val (.int p4), .val (.int p5), .val (.int v2), .val (.int v5), .val (.long v8), .second, .unset, .unset, .unset, .unset, .unset, .unset, .unset, .unset, .unset, .unset, .unset, .unset, .unset] [])) _
      refine XS.lloadN X0.here hx rfl (hb hby at_59) rfl ?_
      exact kk
    · refine ⟨(q1 ^^^ q3), (by rw [if_neg hd12]), fun t kk => pre10 t ?_⟩
      show Steps p.tables e below (s₁.setTop (mkF m 49 #[.val (.long q0), .second, .val (.long q1), .second, .val (.long q2), .second, .val (.long q3), .second, .val (.int p4), .val (.int p5), .val (.int v2), .val (.int v5), .val (.long v8), .second, .unset, .unset, .unset, .unset, .unset, .unset, .unset, .unset, .unset, .unset, .unset, .unset, .unset] [(.int (p4 &&& (2 : Int32)))])) _
      refine XS.ifNo X0.here hx rfl (hb hby at_49) rfl ((if0 _ _).trans (feq hd12).1) ?_
      show Steps p.tables e below (s₁.setTop (mkF m 52 #[.val (.long q0), .second, .val (.long q1), .second, .val (.long q2), .second, .val (.long q3), .second, .val (.int p4), .val (.int p5), .val (.int v2), .val (.int v5), .val (.long v8), .second, .unset, .unset, .unset, .unset, .unset, .unset, .unset, .unset, .unset, .unset, .unset, .unset, .unset] [])) _
      refine XS.lloadN X0.here hx rfl (hb hby at_52) rfl ?_
      show Steps p.tables e below (s₁.setTop (mkF m 53 #[.val (.long q0), .second, .val (.long q1), .second, .val (.long q2), .second, .val (.long q3), .second, .val (.int p4), .val (.int p5), .val (.int v2), .val (.int v5), .val (.long v8), .second, .unset, .unset, .unset, .unset, .unset, .unset, .unset, .unset, .unset, .unset, .unset, .unset, .unset] [(.long q1)])) _
      refine XS.lload X0.here hx rfl (hb hby at_53) rfl ?_
      show Steps p.tables e below (s₁.setTop (mkF m 55 #[.val (.long q0), .second, .val (.long q1), .second, .val (.long q2), .second, .val (.long q3), .second, .val (.int p4), .val (.int p5), .val (.int v2), .val (.int v5), .val (.long v8), .second, .unset, .unset, .unset, .unset, .unset, .unset, .unset, .unset, .unset, .unset, .unset, .unset, .unset] [(.long q3), (.long q1)])) _
      refine XS.lxor X0.here hx rfl (hb hby at_55) rfl ?_
      show Steps p.tables e below (s₁.setTop (mkF m 56 #[.val (.long q0), .second, .val (.long q1), .second, .val (.long q2), .second, .val (.long q3), .second, .val (.int p4), .val (.int p5), .val (.int v2), .val (.int v5), .val (.long v8), .second, .unset, .unset, .unset, .unset, .unset, .unset, .unset, .unset, .unset, .unset, .unset, .unset, .unset] [(.long (q1 ^^^ q3))])) _
      refine XS.goto X0.here hx rfl (pc0 := 56) (pc' := 60) rfl (hb hby at_56) (by decide) (by decide) ?_
      exact kk
  have pre13 : ∀ t, Steps p.tables e below (s₁.setTop (mkF m 66 #[.val (.long q0), .second, .val (.long q1), .second, .val (.long q2), .second, .val (.long q3), .second, .val (.int p4), .val (.int p5), .val (.int v2), .val (.int v5), .val (.long v8), .second, .val (.long v11), .second, .unset, .unset, .unset, .unset, .unset, .unset, .unset, .unset, .unset, .unset, .unset] [(.int (p4 &&& (4 : Int32)))])) t → Steps p.tables e below (s₁.setTop (entryFrame m #[(.long q0), (.long q1), (.long q2), (.long q3), (.int p4), (.int p5)] maxLocals)) t := fun t kk => pre11 t (by
    show Steps p.tables e below (s₁.setTop (mkF m 60 #[.val (.long q0), .second, .val (.long q1), .second, .val (.long q2), .second, .val (.long q3), .second, .val (.int p4), .val (.int p5), .val (.int v2), .val (.int v5), .val (.long v8), .second, .unset, .unset, .unset, .unset, .unset, .unset, .unset, .unset, .unset, .unset, .unset, .unset, .unset] [(.long v11)])) _
    refine XS.lstore X0.here hx rfl (hb hby at_60) rfl (l' := #[.val (.long q0), .second, .val (.long q1), .second, .val (.long q2), .second, .val (.long q3), .second, .val (.int p4), .val (.int p5), .val (.int v2), .val (.int v5), .val (.long v8), .second, .val (.long v11), .second, .unset, .unset, .unset, .unset, .unset, .unset, .unset, .unset, .unset, .unset, .unset]) rfl ?_
    show Steps p.tables e below (s₁.setTop (mkF m 62 #[.val (.long q0), .second, .val (.long q1), .second, .val (.long q2), .second, .val (.long q3), .second, .val (.int p4), .val (.int p5), .val (.int v2), .val (.int v5), .val (.long v8), .second, .val (.long v11), .second, .unset, .unset, .unset, .unset, .unset, .unset, .unset, .unset, .unset, .unset, .unset] [])) _
    refine XS.iload X0.here hx rfl (hb hby at_62) rfl ?_
    show Steps p.tables e below (s₁.setTop (mkF m 64 #[.val (.long q0), .second, .val (.long q1), .second, .val (.long q2), .second, .val (.long q3), .second, .val (.int p4), .val (.int p5), .val (.int v2), .val (.int v5), .val (.long v8), .second, .val (.long v11), .second, .unset, .unset, .unset, .unset, .unset, .unset, .unset, .unset, .unset, .unset, .unset] [(.int p4)])) _
    refine XS.iconst X0.here hx rfl (hb hby at_64) ?_
    show Steps p.tables e below (s₁.setTop (mkF m 65 #[.val (.long q0), .second, .val (.long q1), .second, .val (.long q2), .second, .val (.long q3), .second, .val (.int p4), .val (.int p5), .val (.int v2), .val (.int v5), .val (.long v8), .second, .val (.long v11), .second, .unset, .unset, .unset, .unset, .unset, .unset, .unset, .unset, .unset, .unset, .unset] [(.int (4 : Int32)), (.int p4)])) _
    refine XS.iand X0.here hx rfl (hb hby at_65) rfl ?_
    exact kk)
  obtain ⟨v14, ev14, pre14⟩ : ∃ z : Int64, z = (if (p4 &&& (4 : Int32)) = (0 : Int32) then q2 else (q2 ^^^ q3)) ∧ ∀ t, Steps p.tables e below (s₁.setTop (mkF m 79 #[.val (.long q0), .second, .val (.long q1), .second, .val (.long q2), .second, .val (.long q3), .second, .val (.int p4), .val (.int p5), .val (.int v2), .val (.int v5), .val (.long v8), .second, .val (.long v11), .second, .unset, .unset, .unset, .unset, .unset, .unset, .unset, .unset, .unset, .unset, .unset] [(.long z)])) t → Steps p.tables e below (s₁.setTop (entryFrame m #[(.long q0), (.long q1), (.long q2), (.long q3), (.int p4), (.int p5)] maxLocals)) t := by
    by_cases hd15 : (p4 &&& (4 : Int32)) = (0 : Int32)
    · refine ⟨q2, (by rw [if_pos hd15]), fun t kk => pre13 t ?_⟩
      show Steps p.tables e below (s₁.setTop (mkF m 66 #[.val (.long q0), .second, .val (.long q1), .second, .val (.long q2), .second, .val (.long q3), .second, .val (.int p4), .val (.int p5), .val (.int v2), .val (.int v5), .val (.long v8), .second, .val (.long v11), .second, .unset, .unset, .unset, .unset, .unset, .unset, .unset, .unset, .unset, .unset, .unset] [(.int (p4 &&& (4 : Int32)))])) _
      refine XS.ifYes X0.here hx rfl (pc0 := 66) (pc' := 77) rfl (hb hby at_66) rfl ((if0 _ _).trans (teq hd15).1) (by decide) (by decide) ?_
      show Steps p.tables e below (s₁.setTop (mkF m 77 #[.val (.long q0), .second, .val (.long q1), .second, .val (.long q2), .second, .val (.long q3), .second, .val (.int p4), .val (.int p5), .val (.int v2), .val (.int v5), .val (.long v8), .second, .val (.long v11), .second, .unset, .unset, .unset, .unset, .unset, .unset, .unset, .unset, .unset, .unset, .unset] [])) _
      refine XS.lload X0.here hx rfl (hb hby at_77) rfl ?_
      exact kk
    · refine ⟨(q2 ^^^ q3), (by rw [if_neg hd15]), fun t kk => pre13 t ?_⟩
      show Steps p.tables e below (s₁.setTop (mkF m 66 #[.val (.long q0), .second, .val (.long q1), .second, .val (.long q2), .second, .val (.long q3), .second, .val (.int p4), .val (.int p5), .val (.int v2), .val (.int v5), .val (.long v8), .second, .val (.long v11), .second, .unset, .unset, .unset, .unset, .unset, .unset, .unset, .unset, .unset, .unset, .unset] [(.int (p4 &&& (4 : Int32)))])) _
      refine XS.ifNo X0.here hx rfl (hb hby at_66) rfl ((if0 _ _).trans (feq hd15).1) ?_
      show Steps p.tables e below (s₁.setTop (mkF m 69 #[.val (.long q0), .second, .val (.long q1), .second, .val (.long q2), .second, .val (.long q3), .second, .val (.int p4), .val (.int p5), .val (.int v2), .val (.int v5), .val (.long v8), .second, .val (.long v11), .second, .unset, .unset, .unset, .unset, .unset, .unset, .unset, .unset, .unset, .unset, .unset] [])) _
      refine XS.lload X0.here hx rfl (hb hby at_69) rfl ?_
      show Steps p.tables e below (s₁.setTop (mkF m 71 #[.val (.long q0), .second, .val (.long q1), .second, .val (.long q2), .second, .val (.long q3), .second, .val (.int p4), .val (.int p5), .val (.int v2), .val (.int v5), .val (.long v8), .second, .val (.long v11), .second, .unset, .unset, .unset, .unset, .unset, .unset, .unset, .unset, .unset, .unset, .unset] [(.long q2)])) _
      refine XS.lload X0.here hx rfl (hb hby at_71) rfl ?_
      show Steps p.tables e below (s₁.setTop (mkF m 73 #[.val (.long q0), .second, .val (.long q1), .second, .val (.long q2), .second, .val (.long q3), .second, .val (.int p4), .val (.int p5), .val (.int v2), .val (.int v5), .val (.long v8), .second, .val (.long v11), .second, .unset, .unset, .unset, .unset, .unset, .unset, .unset, .unset, .unset, .unset, .unset] [(.long q3), (.long q2)])) _
      refine XS.lxor X0.here hx rfl (hb hby at_73) rfl ?_
      show Steps p.tables e below (s₁.setTop (mkF m 74 #[.val (.long q0), .second, .val (.long q1), .second, .val (.long q2), .second, .val (.long q3), .second, .val (.int p4), .val (.int p5), .val (.int v2), .val (.int v5), .val (.long v8), .second, .val (.long v11), .second, .unset, .unset, .unset, .unset, .unset, .unset, .unset, .unset, .unset, .unset, .unset] [(.long (q2 ^^^ q3))])) _
      refine XS.goto X0.here hx rfl (pc0 := 74) (pc' := 79) rfl (hb hby at_74) (by decide) (by decide) ?_
      exact kk
  obtain ⟨T16, h16, X16, e16, E16, A16, D16, -, st16⟩ := newO X0 hx hZ hown (hw _ (List.mem_of_getElem? (i := 0) rfl)) (hw _ (List.mem_of_getElem? (i := 1) rfl)) (hw _ (List.mem_of_getElem? (i := 2) rfl)) e0 (g := (mkF m 81 #[.val (.long q0), .second, .val (.long q1), .second, .val (.long q2), .second, .val (.long q3), .second, .val (.int p4), .val (.int p5), .val (.int v2), .val (.int v5), .val (.long v8), .second, .val (.long v11), .second, .val (.long v14), .second, .unset, .unset, .unset, .unset, .unset, .unset, .unset, .unset, .unset] [])) rfl (hb hby at_81) (by decide) (by decide)
  obtain ⟨b16, g16⟩ : ∃ z, z = h0.size := ⟨_, rfl⟩
  rw [← g16] at A16 D16 st16
  have g_b16 : n0 ≤ b16 := Nat.le_trans Z0 (Nat.le_of_eq g16.symm)
  have F_version_b16 : Fld Z h16 b16 "com/example/copyleaf/copyleaf/format/ChunkRef" "version" "J" (.long (0 : Int64)) := D16 (Or.inr (hw _ (List.mem_of_getElem? (i := 15) rfl))) (ty := .long) (by decide)
  have F_position_b16 : Fld Z h16 b16 "com/example/copyleaf/copyleaf/format/ChunkRef" "position" "J" (.long (0 : Int64)) := D16 (Or.inr (hw _ (List.mem_of_getElem? (i := 17) rfl))) (ty := .long) (by decide)
  have F_length_b16 : Fld Z h16 b16 "com/example/copyleaf/copyleaf/format/ChunkRef" "length" "J" (.long (0 : Int64)) := D16 (Or.inr (hw _ (List.mem_of_getElem? (i := 19) rfl))) (ty := .long) (by decide)
  have F_part_b16 : Fld Z h16 b16 "com/example/copyleaf/copyleaf/format/ChunkRef" "part" "Z" (.int (0 : Int32)) := D16 (Or.inr (hw _ (List.mem_of_getElem? (i := 21) rfl))) (ty := .boolean) (by decide)
  have Zz18 := (Nat.le_trans Z0 E16.1)
  obtain ⟨_, _, ⟨T17, L17, k17, n17⟩, -, X17, ⟨Lc17, hQ17, l17, y17, z17⟩, st17⟩ := X16.specialBack hx (y := (⟨"com/example/copyleaf/copyleaf/format/ChunkRef", "<init>", "(JJJZ)V"⟩ : MethodName)) rfl hown (mvT hZ (hw _ (List.mem_of_getElem? (i := 3) rfl))) (mvT hZ (hw _ (List.mem_of_getElem? (i := 4) rfl))) (mvT hZ (hw _ (List.mem_of_getElem? (i := 5) rfl))) (by decide) (backOf (W := 1) (rm1 l Z a0 hw [] b16 q0 q1 q2 v2 (.long (0 : Int64)) (.long (0 : Int64)) (.long (0 : Int64)) (.int (0 : Int32)) h16 n0 Zz18 A16 F_version_b16 F_position_b16 F_length_b16 F_part_b16 g_b16) hZ (hw _ (List.mem_of_getElem? (i := 5) rfl)) (hw _ (List.mem_of_getElem? (i := 2) rfl)) (by decide) (by decide)) (g := (mkF m 91 #[.val (.long q0), .second, .val (.long q1), .second, .val (.long q2), .second, .val (.long q3), .second, .val (.int p4), .val (.int p5), .val (.int v2), .val (.int v5), .val (.long v8), .second, .val (.long v11), .second, .val (.long v14), .second, .unset, .unset, .unset, .unset, .unset, .unset, .unset, .unset, .unset] [(.int v2), (.long q2), (.long q1), (.long q0), (.ref b16), (.ref b16)])) rfl (by rw [hml]; rfl) (Steps.refl _) (a := b16) (argsL := [(.long q0), (.long q1), (.long q2), (.int v2)]) (rest := [(.ref b16)]) (lenOf pd__28JJJZ_29V rfl) rfl (by show 2 * 0 + _ ≤ _; exact Nat.le_of_eq rfl) (hb hby at_91) (fun _ _ => ⟨rfl, e16, (by decide : 1 + 0 ≤ _), (by decide : 4 + 0 ≤ _)⟩)
  dsimp only [Pt.U, Pt.locs, Pt.cells, Pt.slots] at X17 l17 y17 z17 st17 hQ17
  subst l17 y17 z17
  obtain ⟨rfl, N17q, K17, Ex17, Fc17_version, Fc17_position, Fc17_length, Fc17_part⟩ := hQ17
  have N17 := Fr.app N0 N17q
  obtain ⟨T19, h19, X19, e19, E19, A19, D19, -, st19⟩ := newO X17 hx hZ hown (hw _ (List.mem_of_getElem? (i := 0) rfl)) (hw _ (List.mem_of_getElem? (i := 1) rfl)) (hw _ (List.mem_of_getElem? (i := 2) rfl)) rfl (g := (mkF m 96 #[.val (.long q0), .second, .val (.long q1), .second, .val (.long q2), .second, .val (.long q3), .second, .val (.int p4), .val (.int p5), .val (.int v2), .val (.int v5), .val (.long v8), .second, .val (.long v11), .second, .val (.long v14), .second, .val (.ref b16), .unset, .unset, .unset, .unset, .unset, .unset, .unset, .unset] [])) rfl (hb hby at_96) (by decide) (by decide)
  obtain ⟨b19, g19⟩ : ∃ z, z = T17.heap.size := ⟨_, rfl⟩
  rw [← g19] at A19 D19 st19
  have Zz20 := (Nat.le_trans Zz18 K17.1)
  have g_b19 : n0 ≤ b19 := Nat.le_trans Zz20 (Nat.le_of_eq g19.symm)
  have ne_b16_b19 : b16 ≠ b19 := Nat.ne_of_lt (Nat.lt_of_lt_of_le Ex17.lt (Nat.le_of_eq g19.symm))
  have F_version_b19 : Fld Z h19 b19 "com/example/copyleaf/copyleaf/format/ChunkRef" "version" "J" (.long (0 : Int64)) := D19 (Or.inr (hw _ (List.mem_of_getElem? (i := 15) rfl))) (ty := .long) (by decide)
  have F_position_b19 : Fld Z h19 b19 "com/example/copyleaf/copyleaf/format/ChunkRef" "position" "J" (.long (0 : Int64)) := D19 (Or.inr (hw _ (List.mem_of_getElem? (i := 17) rfl))) (ty := .long) (by decide)
  have F_length_b19 : Fld Z h19 b19 "com/example/copyleaf/copyleaf/format/ChunkRef" "length" "J" (.long (0 : Int64)) := D19 (Or.inr (hw _ (List.mem_of_getElem? (i := 19) rfl))) (ty := .long) (by decide)
  have F_part_b19 : Fld Z h19 b19 "com/example/copyleaf/copyleaf/format/ChunkRef" "part" "Z" (.int (0 : Int32)) := D19 (Or.inr (hw _ (List.mem_of_getElem? (i := 21) rfl))) (ty := .boolean) (by decide)
  have Ex22 := (Ex17.ext E19)
  have Zz23 := (Nat.le_trans Zz20 E19.1)
  obtain ⟨_, _, ⟨T21, L21, k21, n21⟩, -, X21, ⟨Lc21, hQ21, l21, y21, z21⟩, st21⟩ := X19.specialBack hx (y := (⟨"com/example/copyleaf/copyleaf/format/ChunkRef", "<init>", "(JJJZ)V"⟩ : MethodName)) rfl hown (mvT hZ (hw _ (List.mem_of_getElem? (i := 3) rfl))) (mvT hZ (hw _ (List.mem_of_getElem? (i := 4) rfl))) (mvT hZ (hw _ (List.mem_of_getElem? (i := 5) rfl))) (by decide) (backOf (W := 1) (rm1 l Z a0 hw [] b19 v8 v11 v14 v5 (.long (0 : Int64)) (.long (0 : Int64)) (.long (0 : Int64)) (.int (0 : Int32)) h19 n0 Zz23 A19 F_version_b19 F_position_b19 F_length_b19 F_part_b19 g_b19) hZ (hw _ (List.mem_of_getElem? (i := 5) rfl)) (hw _ (List.mem_of_getElem? (i := 2) rfl)) (by decide) (by decide)) (g := (mkF m 108 #[.val (.long q0), .second, .val (.long q1), .second, .val (.long q2), .second, .val (.long q3), .second, .val (.int p4), .val (.int p5), .val (.int v2), .val (.int v5), .val (.long v8), .second, .val (.long v11), .second, .val (.long v14), .second, .val (.ref b16), .unset, .unset, .unset, .unset, .unset, .unset, .unset, .unset] [(.int v5), (.long v14), (.long v11), (.long v8), (.ref b19), (.ref b19)])) rfl (by rw [hml]; rfl) (Steps.refl _) (a := b19) (argsL := [(.long v8), (.long v11), (.long v14), (.int v5)]) (rest := [(.ref b19)]) (lenOf pd__28JJJZ_29V rfl) rfl (by show 2 * 0 + _ ≤ _; exact Nat.le_of_eq rfl) (hb hby at_108) (fun _ _ => ⟨rfl, e19, (by decide : 2 + 0 ≤ _), (by decide : 8 + 0 ≤ _)⟩)
  dsimp only [Pt.U, Pt.locs, Pt.cells, Pt.slots] at X21 l21 y21 z21 st21 hQ21
  subst l21 y21 z21
  obtain ⟨rfl, N21q, K21, Ex21, Fc21_version, Fc21_position, Fc21_length, Fc21_part⟩ := hQ21
  have N21 := Fr.app N17 N21q
  have Ex25 := (Ex22.keep K21)
  have Zz26 := (Nat.le_trans Zz23 K21.1)
  have Od27 := ((((O0.ext E16).keep K17 (allS g_b16 all0)).ext E19).keep K21 (allS g_b19 all0))
  obtain ⟨_, _, ⟨T24, L24, k24, n24⟩, -, X24, ⟨Lc24, hQ24, l24, y24, z24⟩, st24⟩ := Jvm.LawKit.callS X21 hx (y := (⟨"java/lang/Long", "valueOf", "(J)Ljava/lang/Long;"⟩ : MethodName)) hown (mvT hZ (hw _ (List.mem_of_getElem? (i := 22) rfl))) (mvT hZ (hw _ (List.mem_of_getElem? (i := 23) rfl))) (mvT hZ (hw _ (List.mem_of_getElem? (i := 24) rfl))) (mvT hZ (hw _ (List.mem_of_getElem? (i := 25) rfl))) (by decide) (backOf (W := 0) (rm4 l Z a0 hw [] q0 ca cc T21.heap n0 Zz26 Od27 Sc Ac Hc) hZ (hw _ (List.mem_of_getElem? (i := 25) rfl)) (hw _ (List.mem_of_getElem? (i := 24) rfl)) (by decide) (by decide)) (g := (mkF m 114 #[.val (.long q0), .second, .val (.long q1), .second, .val (.long q2), .second, .val (.long q3), .second, .val (.int p4), .val (.int p5), .val (.int v2), .val (.int v5), .val (.long v8), .second, .val (.long v11), .second, .val (.long v14), .second, .val (.ref b16), .val (.ref b19), .unset, .unset, .unset, .unset, .unset, .unset, .unset] [(.long q0)])) rfl (by rw [hml]; rfl) (argsL := [(.long q0)]) (rest := []) (lenOf pd__28J_29Ljava_2flang_2fLong_3b rfl) rfl (by show 2 * 0 + _ ≤ _; exact Nat.le_of_eq rfl) (hb hby at_114) (fun _ _ => ⟨rfl, rfl, (by decide : 2 + 1 ≤ _), (by decide : 8 + 1 ≤ _)⟩)
  dsimp only [Pt.U, Pt.locs, Pt.cells, Pt.slots] at X24 l24 y24 z24 st24 hQ24
  subst l24 y24 z24
  obtain ⟨b24, rfl, N24q, K24, Eb24⟩ := hQ24
  have N24 := Fr.app N21 N24q
  have pre28 : ∀ t, Steps p.tables e below (T24.setTop (mkF m 123 #[.val (.long q0), .second, .val (.long q1), .second, .val (.long q2), .second, .val (.long q3), .second, .val (.int p4), .val (.int p5), .val (.int v2), .val (.int v5), .val (.long v8), .second, .val (.long v11), .second, .val (.long v14), .second, .val (.ref b16), .val (.ref b19), .val (.ref b24), .unset, .unset, .unset, .unset, .unset, .unset] [(.int (lcmpW v8 q0))])) t → Steps p.tables e below (s₁.setTop (entryFrame m #[(.long q0), (.long q1), (.long q2), (.long q3), (.int p4), (.int p5)] maxLocals)) t := fun t kk => pre14 t (by
    show Steps p.tables e below (s₁.setTop (mkF m 79 #[.val (.long q0), .second, .val (.long q1), .second, .val (.long q2), .second, .val (.long q3), .second, .val (.int p4), .val (.int p5), .val (.int v2), .val (.int v5), .val (.long v8), .second, .val (.long v11), .second, .unset, .unset, .unset, .unset, .unset, .unset, .unset, .unset, .unset, .unset, .unset] [(.long v14)])) _
    refine XS.lstore X0.here hx rfl (hb hby at_79) rfl (l' := #[.val (.long q0), .second, .val (.long q1), .second, .val (.long q2), .second, .val (.long q3), .second, .val (.int p4), .val (.int p5), .val (.int v2), .val (.int v5), .val (.long v8), .second, .val (.long v11), .second, .val (.long v14), .second, .unset, .unset, .unset, .unset, .unset, .unset, .unset, .unset, .unset]) rfl ?_
    show Steps p.tables e below (s₁.setTop (mkF m 81 #[.val (.long q0), .second, .val (.long q1), .second, .val (.long q2), .second, .val (.long q3), .second, .val (.int p4), .val (.int p5), .val (.int v2), .val (.int v5), .val (.long v8), .second, .val (.long v11), .second, .val (.long v14), .second, .unset, .unset, .unset, .unset, .unset, .unset, .unset, .unset, .unset] [])) _
    refine st16 _ ?_
    show Steps p.tables e below (T16.setTop (mkF m 84 #[.val (.long q0), .second, .val (.long q1), .second, .val (.long q2), .second, .val (.long q3), .second, .val (.int p4), .val (.int p5), .val (.int v2), .val (.int v5), .val (.long v8), .second, .val (.long v11), .second, .val (.long v14), .second, .unset, .unset, .unset, .unset, .unset, .unset, .unset, .unset, .unset] [(.ref b16)])) _
    refine XS.dup X16.here hx rfl (hb hby at_84) rfl rfl ?_
    show Steps p.tables e below (T16.setTop (mkF m 85 #[.val (.long q0), .second, .val (.long q1), .second, .val (.long q2), .second, .val (.long q3), .second, .val (.int p4), .val (.int p5), .val (.int v2), .val (.int v5), .val (.long v8), .second, .val (.long v11), .second, .val (.long v14), .second, .unset, .unset, .unset, .unset, .unset, .unset, .unset, .unset, .unset] [(.ref b16), (.ref b16)])) _
    refine XS.lloadN X16.here hx rfl (hb hby at_85) rfl ?_
    show Steps p.tables e below (T16.setTop (mkF m 86 #[.val (.long q0), .second, .val (.long q1), .second, .val (.long q2), .second, .val (.long q3), .second, .val (.int p4), .val (.int p5), .val (.int v2), .val (.int v5), .val (.long v8), .second, .val (.long v11), .second, .val (.long v14), .second, .unset, .unset, .unset, .unset, .unset, .unset, .unset, .unset, .unset] [(.long q0), (.ref b16), (.ref b16)])) _
    refine XS.lloadN X16.here hx rfl (hb hby at_86) rfl ?_
    show Steps p.tables e below (T16.setTop (mkF m 87 #[.val (.long q0), .second, .val (.long q1), .second, .val (.long q2), .second, .val (.long q3), .second, .val (.int p4), .val (.int p5), .val (.int v2), .val (.int v5), .val (.long v8), .second, .val (.long v11), .second, .val (.long v14), .second, .unset, .unset, .unset, .unset, .unset, .unset, .unset, .unset, .unset] [(.long q1), (.long q0), (.ref b16), (.ref b16)])) _
    refine XS.lload X16.here hx rfl (hb hby at_87) rfl ?_
    show Steps p.tables e below (T16.setTop (mkF m 89 #[.val (.long q0), .second, .val (.long q1), .second, .val (.long q2), .second, .val (.long q3), .second, .val (.int p4), .val (.int p5), .val (.int v2), .val (.int v5), .val (.long v8), .second, .val (.long v11), .second, .val (.long v14), .second, .unset, .unset, .unset, .unset, .unset, .unset, .unset, .unset, .unset] [(.long q2), (.long q1), (.long q0), (.ref b16), (.ref b16)])) _
    refine XS.iload X16.here hx rfl (hb hby at_89) rfl ?_
    show Steps p.tables e below (T16.setTop (mkF m 91 #[.val (.long q0), .second, .val (.long q1), .second, .val (.long q2), .second, .val (.long q3), .second, .val (.int p4), .val (.int p5), .val (.int v2), .val (.int v5), .val (.long v8), .second, .val (.long v11), .second, .val (.long v14), .second, .unset, .unset, .unset, .unset, .unset, .unset, .unset, .unset, .unset] [(.int v2), (.long q2), (.long q1), (.long q0), (.ref b16), (.ref b16)])) _
    refine st17.trans ?_
    show Steps p.tables e below (T17.setTop (mkF m 94 #[.val (.long q0), .second, .val (.long q1), .second, .val (.long q2), .second, .val (.long q3), .second, .val (.int p4), .val (.int p5), .val (.int v2), .val (.int v5), .val (.long v8), .second, .val (.long v11), .second, .val (.long v14), .second, .unset, .unset, .unset, .unset, .unset, .unset, .unset, .unset, .unset] [(.ref b16)])) _
    refine XS.astore X17.here hx rfl (hb hby at_94) rfl rfl (l' := #[.val (.long q0), .second, .val (.long q1), .second, .val (.long q2), .second, .val (.long q3), .second, .val (.int p4), .val (.int p5), .val (.int v2), .val (.int v5), .val (.long v8), .second, .val (.long v11), .second, .val (.long v14), .second, .val (.ref b16), .unset, .unset, .unset, .unset, .unset, .unset, .unset, .unset]) rfl ?_
    show Steps p.tables e below (T17.setTop (mkF m 96 #[.val (.long q0), .second, .val (.long q1), .second, .val (.long q2), .second, .val (.long q3), .second, .val (.int p4), .val (.int p5), .val (.int v2), .val (.int v5), .val (.long v8), .second, .val (.long v11), .second, .val (.long v14), .second, .val (.ref b16), .unset, .unset, .unset, .unset, .unset, .unset, .unset, .unset] [])) _
    refine st19 _ ?_
    show Steps p.tables e below (T19.setTop (mkF m 99 #[.val (.long q0), .second, .val (.long q1), .second, .val (.long q2), .second, .val (.long q3), .second, .val (.int p4), .val (.int p5), .val (.int v2), .val (.int v5), .val (.long v8), .second, .val (.long v11), .second, .val (.long v14), .second, .val (.ref b16), .unset, .unset, .unset, .unset, .unset, .unset, .unset, .unset] [(.ref b19)])) _
    refine XS.dup X19.here hx rfl (hb hby at_99) rfl rfl ?_
    show Steps p.tables e below (T19.setTop (mkF m 100 #[.val (.long q0), .second, .val (.long q1), .second, .val (.long q2), .second, .val (.long q3), .second, .val (.int p4), .val (.int p5), .val (.int v2), .val (.int v5), .val (.long v8), .second, .val (.long v11), .second, .val (.long v14), .second, .val (.ref b16), .unset, .unset, .unset, .unset, .unset, .unset, .unset, .unset] [(.ref b19), (.ref b19)])) _
    refine XS.lload X19.here hx rfl (hb hby at_100) rfl ?_
    show Steps p.tables e below (T19.setTop (mkF m 102 #[.val (.long q0), .second, .val (.long q1), .second, .val (.long q2), .second, .val (.long q3), .second, .val (.int p4), .val (.int p5), .val (.int v2), .val (.int v5), .val (.long v8), .second, .val (.long v11), .second, .val (.long v14), .second, .val (.ref b16), .unset, .unset, .unset, .unset, .unset, .unset, .unset, .unset] [(.long v8), (.ref b19), (.ref b19)])) _
    refine XS.lload X19.here hx rfl (hb hby at_102) rfl ?_
    show Steps p.tables e below (T19.setTop (mkF m 104 #[.val (.long q0), .second, .val (.long q1), .second, .val (.long q2), .second, .val (.long q3), .second, .val (.int p4), .val (.int p5), .val (.int v2), .val (.int v5), .val (.long v8), .second, .val (.long v11), .second, .val (.long v14), .second, .val (.ref b16), .unset, .unset, .unset, .unset, .unset, .unset, .unset, .unset] [(.long v11), (.long v8), (.ref b19), (.ref b19)])) _
    refine XS.lload X19.here hx rfl (hb hby at_104) rfl ?_
    show Steps p.tables e below (T19.setTop (mkF m 106 #[.val (.long q0), .second, .val (.long q1), .second, .val (.long q2), .second, .val (.long q3), .second, .val (.int p4), .val (.int p5), .val (.int v2), .val (.int v5), .val (.long v8), .second, .val (.long v11), .second, .val (.long v14), .second, .val (.ref b16), .unset, .unset, .unset, .unset, .unset, .unset, .unset, .unset] [(.long v14), (.long v11), (.long v8), (.ref b19), (.ref b19)])) _
    refine XS.iload X19.here hx rfl (hb hby at_106) rfl ?_
    show Steps p.tables e below (T19.setTop (mkF m 108 #[.val (.long q0), .second, .val (.long q1), .second, .val (.long q2), .second, .val (.long q3), .second, .val (.int p4), .val (.int p5), .val (.int v2), .val (.int v5), .val (.long v8), .second, .val (.long v11), .second, .val (.long v14), .second, .val (.ref b16), .unset, .unset, .unset, .unset, .unset, .unset, .unset, .unset] [(.int v5), (.long v14), (.long v11), (.long v8), (.ref b19), (.ref b19)])) _
    refine st21.trans ?_
    show Steps p.tables e below (T21.setTop (mkF m 111 #[.val (.long q0), .second, .val (.long q1), .second, .val (.long q2), .second, .val (.long q3), .second, .val (.int p4), .val (.int p5), .val (.int v2), .val (.int v5), .val (.long v8), .second, .val (.long v11), .second, .val (.long v14), .second, .val (.ref b16), .unset, .unset, .unset, .unset, .unset, .unset, .unset, .unset] [(.ref b19)])) _
    refine XS.astore X21.here hx rfl (hb hby at_111) rfl rfl (l' := #[.val (.long q0), .second, .val (.long q1), .second, .val (.long q2), .second, .val (.long q3), .second, .val (.int p4), .val (.int p5), .val (.int v2), .val (.int v5), .val (.long v8), .second, .val (.long v11), .second, .val (.long v14), .second, .val (.ref b16), .val (.ref b19), .unset, .unset, .unset, .unset, .unset, .unset, .unset]) rfl ?_
    show Steps p.tables e below (T21.setTop (mkF m 113 #[.val (.long q0), .second, .val (.long q1), .second, .val (.long q2), .second, .val (.long q3), .second, .val (.int p4), .val (.int p5), .val (.int v2), .val (.int v5), .val (.long v8), .second, .val (.long v11), .second, .val (.long v14), .second, .val (.ref b16), .val (.ref b19), .unset, .unset, .unset, .unset, .unset, .unset, .unset] [])) _
    refine XS.lloadN X21.here hx rfl (hb hby at_113) rfl ?_
    show Steps p.tables e below (T21.setTop (mkF m 114 #[.val (.long q0), .second, .val (.long q1), .second, .val (.long q2), .second, .val (.long q3), .second, .val (.int p4), .val (.int p5), .val (.int v2), .val (.int v5), .val (.long v8), .second, .val (.long v11), .second, .val (.long v14), .second, .val (.ref b16), .val (.ref b19), .unset, .unset, .unset, .unset, .unset, .unset, .unset] [(.long q0)])) _
    refine st24 _ ?_
    show Steps p.tables e below (T24.setTop (mkF m 117 #[.val (.long q0), .second, .val (.long q1), .second, .val (.long q2), .second, .val (.long q3), .second, .val (.int p4), .val (.int p5), .val (.int v2), .val (.int v5), .val (.long v8), .second, .val (.long v11), .second, .val (.long v14), .second, .val (.ref b16), .val (.ref b19), .unset, .unset, .unset, .unset, .unset, .unset, .unset] [(.ref b24)])) _
    refine XS.astore X24.here hx rfl (hb hby at_117) rfl rfl (l' := #[.val (.long q0), .second, .val (.long q1), .second, .val (.long q2), .second, .val (.long q3), .second, .val (.int p4), .val (.int p5), .val (.int v2), .val (.int v5), .val (.long v8), .second, .val (.long v11), .second, .val (.long v14), .second, .val (.ref b16), .val (.ref b19), .val (.ref b24), .unset, .unset, .unset, .unset, .unset, .unset]) rfl ?_
    show Steps p.tables e below (T24.setTop (mkF m 119 #[.val (.long q0), .second, .val (.long q1), .second, .val (.long q2), .second, .val (.long q3), .second, .val (.int p4), .val (.int p5), .val (.int v2), .val (.int v5), .val (.long v8), .second, .val (.long v11), .second, .val (.long v14), .second, .val (.ref b16), .val (.ref b19), .val (.ref b24), .unset, .unset, .unset, .unset, .unset, .unset] [])) _
    refine XS.lload X24.here hx rfl (hb hby at_119) rfl ?_
    show Steps p.tables e below (T24.setTop (mkF m 121 #[.val (.long q0), .second, .val (.long q1), .second, .val (.long q2), .second, .val (.long q3), .second, .val (.int p4), .val (.int p5), .val (.int v2), .val (.int v5), .val (.long v8), .second, .val (.long v11), .second, .val (.long v14), .second, .val (.ref b16), .val (.ref b19), .val (.ref b24), .unset, .unset, .unset, .unset, .unset, .unset] [(.long v8)])) _
    refine XS.lloadN X24.here hx rfl (hb hby at_121) rfl ?_
    show Steps p.tables e below (T24.setTop (mkF m 122 #[.val (.long q0), .second, .val (.long q1), .second, .val (.long q2), .second, .val (.long q3), .second, .val (.int p4), .val (.int p5), .val (.int v2), .val (.int v5), .val (.long v8), .second, .val (.long v11), .second, .val (.long v14), .second, .val (.ref b16), .val (.ref b19), .val (.ref b24), .unset, .unset, .unset, .unset, .unset, .unset] [(.long q0), (.long v8)])) _
    refine XS.lcmp X24.here hx rfl (hb hby at_122) rfl ?_
    exact kk)
  obtain ⟨v29, ev29, pre29⟩ : ∃ z : Int32, z = (if v8 = q0 then (if v11 = q1 then (if v14 = q2 then (if v5 = v2 then (1 : Int32) else (0 : Int32)) else (0 : Int32)) else (0 : Int32)) else (0 : Int32)) ∧ ∀ t, Steps p.tables e below (T24.setTop (mkF m 153 #[.val (.long q0), .second, .val (.long q1), .second, .val (.long q2), .second, .val (.long q3), .second, .val (.int p4), .val (.int p5), .val (.int v2), .val (.int v5), .val (.long v8), .second, .val (.long v11), .second, .val (.long v14), .second, .val (.ref b16), .val (.ref b19), .val (.ref b24), .unset, .unset, .unset, .unset, .unset, .unset] [(.int z)])) t → Steps p.tables e below (s₁.setTop (entryFrame m #[(.long q0), (.long q1), (.long q2), (.long q3), (.int p4), (.int p5)] maxLocals)) t := by
    by_cases hd30 : v8 = q0
    · by_cases hd31 : v11 = q1
      · by_cases hd32 : v14 = q2
        · by_cases hd33 : v5 = v2
          · refine ⟨(1 : Int32), (by rw [if_pos hd30, if_pos hd31, if_pos hd32, if_pos hd33]), fun t kk => pre28 t ?_⟩
            show Steps p.tables e below (T24.setTop (mkF m 123 #[.val (.long q0), .second, .val (.long q1), .second, .val (.long q2), .second, .val (.long q3), .second, .val (.int p4), .val (.int p5), .val (.int v2), .val (.int v5), .val (.long v8), .second, .val (.long v11), .second, .val (.long v14), .second, .val (.ref b16), .val (.ref b19), .val (.ref b24), .unset, .unset, .unset, .unset, .unset, .unset] [(.int (lcmpW v8 q0))])) _
            refine XS.ifNo X24.here hx rfl (hb hby at_123) rfl ((if0 _ _).trans (teq ((lw_eq _ _).mpr hd30)).2) ?_
            show Steps p.tables e below (T24.setTop (mkF m 126 #[.val (.long q0), .second, .val (.long q1), .second, .val (.long q2), .second, .val (.long q3), .second, .val (.int p4), .val (.int p5), .val (.int v2), .val (.int v5), .val (.long v8), .second, .val (.long v11), .second, .val (.long v14), .second, .val (.ref b16), .val (.ref b19), .val (.ref b24), .unset, .unset, .unset, .unset, .unset, .unset] [])) _
            refine XS.lload X24.here hx rfl (hb hby at_126) rfl ?_
            show Steps p.tables e below (T24.setTop (mkF m 128 #[.val (.long q0), .second, .val (.long q1), .second, .val (.long q2), .second, .val (.long q3), .second, .val (.int p4), .val (.int p5), .val (.int v2), .val (.int v5), .val (.long v8), .second, .val (.long v11), .second, .val (.long v14), .second, .val (.ref b16), .val (.ref b19), .val (.ref b24), .unset, .unset, .unset, .unset, .unset, .unset] [(.long v11)])) _
            refine XS.lloadN X24.here hx rfl (hb hby at_128) rfl ?_
            show Steps p.tables e below (T24.setTop (mkF m 129 #[.val (.long q0), .second, .val (.long q1), .second, .val (.long q2), .second, .val (.long q3), .second, .val (.int p4), .val (.int p5), .val (.int v2), .val (.int v5), .val (.long v8), .second, .val (.long v11), .second, .val (.long v14), .second, .val (.ref b16), .val (.ref b19), .val (.ref b24), .unset, .unset, .unset, .unset, .unset, .unset] [(.long q1), (.long v11)])) _
            refine XS.lcmp X24.here hx rfl (hb hby at_129) rfl ?_
            show Steps p.tables e below (T24.setTop (mkF m 130 #[.val (.long q0), .second, .val (.long q1), .second, .val (.long q2), .second, .val (.long q3), .second, .val (.int p4), .val (.int p5), .val (.int v2), .val (.int v5), .val (.long v8), .second, .val (.long v11), .second, .val (.long v14), .second, .val (.ref b16), .val (.ref b19), .val (.ref b24), .unset, .unset, .unset, .unset, .unset, .unset] [(.int (lcmpW v11 q1))])) _
            refine XS.ifNo X24.here hx rfl (hb hby at_130) rfl ((if0 _ _).trans (teq ((lw_eq _ _).mpr hd31)).2) ?_
            show Steps p.tables e below (T24.setTop (mkF m 133 #[.val (.long q0), .second, .val (.long q1), .second, .val (.long q2), .second, .val (.long q3), .second, .val (.int p4), .val (.int p5), .val (.int v2), .val (.int v5), .val (.long v8), .second, .val (.long v11), .second, .val (.long v14), .second, .val (.ref b16), .val (.ref b19), .val (.ref b24), .unset, .unset, .unset, .unset, .unset, .unset] [])) _
            refine XS.lload X24.here hx rfl (hb hby at_133) rfl ?_
            show Steps p.tables e below (T24.setTop (mkF m 135 #[.val (.long q0), .second, .val (.long q1), .second, .val (.long q2), .second, .val (.long q3), .second, .val (.int p4), .val (.int p5), .val (.int v2), .val (.int v5), .val (.long v8), .second, .val (.long v11), .second, .val (.long v14), .second, .val (.ref b16), .val (.ref b19), .val (.ref b24), .unset, .unset, .unset, .unset, .unset, .unset] [(.long v14)])) _
            refine XS.lload X24.here hx rfl (hb hby at_135) rfl ?_
            show Steps p.tables e below (T24.setTop (mkF m 137 #[.val (.long q0), .second, .val (.long q1), .second, .val (.long q2), .second, .val (.long q3), .second, .val (.int p4), .val (.int p5), .val (.int v2), .val (.int v5), .val (.long v8), .second, .val (.long v11), .second, .val (.long v14), .second, .val (.ref b16), .val (.ref b19), .val (.ref b24), .unset, .unset, .unset, .unset, .unset, .unset] [(.long q2), (.long v14)])) _
            refine XS.lcmp X24.here hx rfl (hb hby at_137) rfl ?_
            show Steps p.tables e below (T24.setTop (mkF m 138 #[.val (.long q0), .second, .val (.long q1), .second, .val (.long q2), .second, .val (.long q3), .second, .val (.int p4), .val (.int p5), .val (.int v2), .val (.int v5), .val (.long v8), .second, .val (.long v11), .second, .val (.long v14), .second, .val (.ref b16), .val (.ref b19), .val (.ref b24), .unset, .unset, .unset, .unset, .unset, .unset] [(.int (lcmpW v14 q2))])) _
            refine XS.ifNo X24.here hx rfl (hb hby at_138) rfl ((if0 _ _).trans (teq ((lw_eq _ _).mpr hd32)).2) ?_
            show Steps p.tables e below (T24.setTop (mkF m 141 #[.val (.long q0), .second, .val (.long q1), .second, .val (.long q2), .second, .val (.long q3), .second, .val (.int p4), .val (.int p5), .val (.int v2), .val (.int v5), .val (.long v8), .second, .val (.long v11), .second, .val (.long v14), .second, .val (.ref b16), .val (.ref b19), .val (.ref b24), .unset, .unset, .unset, .unset, .unset, .unset] [])) _
            refine XS.iload X24.here hx rfl (hb hby at_141) rfl ?_
            show Steps p.tables e below (T24.setTop (mkF m 143 #[.val (.long q0), .second, .val (.long q1), .second, .val (.long q2), .second, .val (.long q3), .second, .val (.int p4), .val (.int p5), .val (.int v2), .val (.int v5), .val (.long v8), .second, .val (.long v11), .second, .val (.long v14), .second, .val (.ref b16), .val (.ref b19), .val (.ref b24), .unset, .unset, .unset, .unset, .unset, .unset] [(.int v5)])) _
            refine XS.iload X24.here hx rfl (hb hby at_143) rfl ?_
            show Steps p.tables e below (T24.setTop (mkF m 145 #[.val (.long q0), .second, .val (.long q1), .second, .val (.long q2), .second, .val (.long q3), .second, .val (.int p4), .val (.int p5), .val (.int v2), .val (.int v5), .val (.long v8), .second, .val (.long v11), .second, .val (.long v14), .second, .val (.ref b16), .val (.ref b19), .val (.ref b24), .unset, .unset, .unset, .unset, .unset, .unset] [(.int v2), (.int v5)])) _
            refine XS.icmpNo X24.here hx rfl (hb hby at_145) rfl (teq hd33).2 ?_
            show Steps p.tables e below (T24.setTop (mkF m 148 #[.val (.long q0), .second, .val (.long q1), .second, .val (.long q2), .second, .val (.long q3), .second, .val (.int p4), .val (.int p5), .val (.int v2), .val (.int v5), .val (.long v8), .second, .val (.long v11), .second, .val (.long v14), .second, .val (.ref b16), .val (.ref b19), .val (.ref b24), .unset, .unset, .unset, .unset, .unset, .unset] [])) _
            refine XS.iconst X24.here hx rfl (hb hby at_148) ?_
            show Steps p.tables e below (T24.setTop (mkF m 149 #[.val (.long q0), .second, .val (.long q1), .second, .val (.long q2), .second, .val (.long q3), .second, .val (.int p4), .val (.int p5), .val (.int v2), .val (.int v5), .val (.long v8), .second, .val (.long v11), .second, .val (.long v14), .second, .val (.ref b16), .val (.ref b19), .val (.ref b24), .unset, .unset, .unset, .unset, .unset, .unset] [(.int (1 : Int32))])) _
            refine XS.goto X24.here hx rfl (pc0 := 149) (pc' := 153) rfl (hb hby at_149) (by decide) (by decide) ?_
            exact kk
          · refine ⟨(0 : Int32), (by rw [if_pos hd30, if_pos hd31, if_pos hd32, if_neg hd33]), fun t kk => pre28 t ?_⟩
            show Steps p.tables e below (T24.setTop (mkF m 123 #[.val (.long q0), .second, .val (.long q1), .second, .val (.long q2), .second, .val (.long q3), .second, .val (.int p4), .val (.int p5), .val (.int v2), .val (.int v5), .val (.long v8), .second, .val (.long v11), .second, .val (.long v14), .second, .val (.ref b16), .val (.ref b19), .val (.ref b24), .unset, .unset, .unset, .unset, .unset, .unset] [(.int (lcmpW v8 q0))])) _
            refine XS.ifNo X24.here hx rfl (hb hby at_123) rfl ((if0 _ _).trans (teq ((lw_eq _ _).mpr hd30)).2) ?_
            show Steps p.tables e below (T24.setTop (mkF m 126 #[.val (.long q0), .second, .val (.long q1), .second, .val (.long q2), .second, .val (.long q3), .second, .val (.int p4), .val (.int p5), .val (.int v2), .val (.int v5), .val (.long v8), .second, .val (.long v11), .second, .val (.long v14), .second, .val (.ref b16), .val (.ref b19), .val (.ref b24), .unset, .unset, .unset, .unset, .unset, .unset] [])) _
            refine XS.lload X24.here hx rfl (hb hby at_126) rfl ?_
            show Steps p.tables e below (T24.setTop (mkF m 128 #[.val (.long q0), .second, .val (.long q1), .second, .val (.long q2), .second, .val (.long q3), .second, .val (.int p4), .val (.int p5), .val (.int v2), .val (.int v5), .val (.long v8), .second, .val (.long v11), .second, .val (.long v14), .second, .val (.ref b16), .val (.ref b19), .val (.ref b24), .unset, .unset, .unset, .unset, .unset, .unset] [(.long v11)])) _
            refine XS.lloadN X24.here hx rfl (hb hby at_128) rfl ?_
            show Steps p.tables e below (T24.setTop (mkF m 129 #[.val (.long q0), .second, .val (.long q1), .second, .val (.long q2), .second, .val (.long q3), .second, .val (.int p4), .val (.int p5), .val (.int v2), .val (.int v5), .val (.long v8), .second, .val (.long v11), .second, .val (.long v14), .second, .val (.ref b16), .val (.ref b19), .val (.ref b24), .unset, .unset, .unset, .unset, .unset, .unset] [(.long q1), (.long v11)])) _
            refine XS.lcmp X24.here hx rfl (hb hby at_129) rfl ?_
            show Steps p.tables e below (T24.setTop (mkF m 130 #[.val (.long q0), .second, .val (.long q1), .second, .val (.long q2), .second, .val (.long q3), .second, .val (.int p4), .val (.int p5), .val (.int v2), .val (.int v5), .val (.long v8), .second, .val (.long v11), .second, .val (.long v14), .second, .val (.ref b16), .val (.ref b19), .val (.ref b24), .unset, .unset, .unset, .unset, .unset, .unset] [(.int (lcmpW v11 q1))])) _
            refine XS.ifNo X24.here hx rfl (hb hby at_130) rfl ((if0 _ _).trans (teq ((lw_eq _ _).mpr hd31)).2) ?_
            show Steps p.tables e below (T24.setTop (mkF m 133 #[.val (.long q0), .second, .val (.long q1), .second, .val (.long q2), .second, .val (.long q3), .second, .val (.int p4), .val (.int p5), .val (.int v2), .val (.int v5), .val (.long v8), .second, .val (.long v11), .second, .val (.long v14), .second, .val (.ref b16), .val (.ref b19), .val (.ref b24), .unset, .unset, .unset, .unset, .unset, .unset] [])) _
            refine XS.lload X24.here hx rfl (hb hby at_133) rfl ?_
            show Steps p.tables e below (T24.setTop (mkF m 135 #[.val (.long q0), .second, .val (.long q1), .second, .val (.long q2), .second, .val (.long q3), .second, .val (.int p4), .val (.int p5), .val (.int v2), .val (.int v5), .val (.long v8), .second, .val (.long v11), .second, .val (.long v14), .second, .val (.ref b16), .val (.ref b19), .val (.ref b24), .unset, .unset, .unset, .unset, .unset, .unset] [(.long v14)])) _
            refine XS.lload X24.here hx rfl (hb hby at_135) rfl ?_
            show Steps p.tables e below (T24.setTop (mkF m 137 #[.val (.long q0), .second, .val (.long q1), .second, .val (.long q2), .second, .val (.long q3), .second, .val (.int p4), .val (.int p5), .val (.int v2), .val (.int v5), .val (.long v8), .second, .val (.long v11), .second, .val (.long v14), .second, .val (.ref b16), .val (.ref b19), .val (.ref b24), .unset, .unset, .unset, .unset, .unset, .unset] [(.long q2), (.long v14)])) _
            refine XS.lcmp X24.here hx rfl (hb hby at_137) rfl ?_
            show Steps p.tables e below (T24.setTop (mkF m 138 #[.val (.long q0), .second, .val (.long q1), .second, .val (.long q2), .second, .val (.long q3), .second, .val (.int p4), .val (.int p5), .val (.int v2), .val (.int v5), .val (.long v8), .second, .val (.long v11), .second, .val (.long v14), .second, .val (.ref b16), .val (.ref b19), .val (.ref b24), .unset, .unset, .unset, .unset, .unset, .unset] [(.int (lcmpW v14 q2))])) _
            refine XS.ifNo X24.here hx rfl (hb hby at_138) rfl ((if0 _ _).trans (teq ((lw_eq _ _).mpr hd32)).2) ?_
            show Steps p.tables e below (T24.setTop (mkF m 141 #[.val (.long q0), .second, .val (.long q1), .second, .val (.long q2), .second, .val (.long q3), .second, .val (.int p4), .val (.int p5), .val (.int v2), .val (.int v5), .val (.long v8), .second, .val (.long v11), .second, .val (.long v14), .second, .val (.ref b16), .val (.ref b19), .val (.ref b24), .unset, .unset, .unset, .unset, .unset, .unset] [])) _
            refine XS.iload X24.here hx rfl (hb hby at_141) rfl ?_
            show Steps p.tables e below (T24.setTop (mkF m 143 #[.val (.long q0), .second, .val (.long q1), .second, .val (.long q2), .second, .val (.long q3), .second, .val (.int p4), .val (.int p5), .val (.int v2), .val (.int v5), .val (.long v8), .second, .val (.long v11), .second, .val (.long v14), .second, .val (.ref b16), .val (.ref b19), .val (.ref b24), .unset, .unset, .unset, .unset, .unset, .unset] [(.int v5)])) _
            refine XS.iload X24.here hx rfl (hb hby at_143) rfl ?_
            show Steps p.tables e below (T24.setTop (mkF m 145 #[.val (.long q0), .second, .val (.long q1), .second, .val (.long q2), .second, .val (.long q3), .second, .val (.int p4), .val (.int p5), .val (.int v2), .val (.int v5), .val (.long v8), .second, .val (.long v11), .second, .val (.long v14), .second, .val (.ref b16), .val (.ref b19), .val (.ref b24), .unset, .unset, .unset, .unset, .unset, .unset] [(.int v2), (.int v5)])) _
            refine XS.icmpYes X24.here hx rfl (pc0 := 145) (pc' := 152) rfl (hb hby at_145) rfl (feq hd33).2 (by decide) (by decide) ?_
            show Steps p.tables e below (T24.setTop (mkF m 152 #[.val (.long q0), .second, .val (.long q1), .second, .val (.long q2), .second, .val (.long q3), .second, .val (.int p4), .val (.int p5), .val (.int v2), .val (.int v5), .val (.long v8), .second, .val (.long v11), .second, .val (.long v14), .second, .val (.ref b16), .val (.ref b19), .val (.ref b24), .unset, .unset, .unset, .unset, .unset, .unset] [])) _
            refine XS.iconst X24.here hx rfl (hb hby at_152) ?_
            exact kk
        · refine ⟨(0 : Int32), (by rw [if_pos hd30, if_pos hd31, if_neg hd32]), fun t kk => pre28 t ?_⟩
          show Steps p.tables e below (T24.setTop (mkF m 123 #[.val (.long q0), .second, .val (.long q1), .second, .val (.long q2), .second, .val (.long q3), .second, .val (.int p4), .val (.int p5), .val (.int v2), .val (.int v5), .val (.long v8), .second, .val (.long v11), .second, .val (.long v14), .second, .val (.ref b16), .val (.ref b19), .val (.ref b24), .unset, .unset, .unset, .unset, .unset, .unset] [(.int (lcmpW v8 q0))])) _
          refine XS.ifNo X24.here hx rfl (hb hby at_123) rfl ((if0 _ _).trans (teq ((lw_eq _ _).mpr hd30)).2) ?_
          show Steps p.tables e below (T24.setTop (mkF m 126 #[.val (.long q0), .second, .val (.long q1), .second, .val (.long q2), .second, .val (.long q3), .second, .val (.int p4), .val (.int p5), .val (.int v2), .val (.int v5), .val (.long v8), .second, .val (.long v11), .second, .val (.long v14), .second, .val (.ref b16), .val (.ref b19), .val (.ref b24), .unset, .unset, .unset, .unset, .unset, .unset] [])) _
          refine XS.lload X24.here hx rfl (hb hby at_126) rfl ?_
          show Steps p.tables e below (T24.setTop (mkF m 128 #[.val (.long q0), .second, .val (.long q1), .second, .val (.long q2), .second, .val (.long q3), .second, .val (.int p4), .val (.int p5), .val (.int v2), .val (.int v5), .val (.long v8), .second, .val (.long v11), .second, .val (.long v14), .second, .val (.ref b16), .val (.ref b19), .val (.ref b24), .unset, .unset, .unset, .unset, .unset, .unset] [(.long v11)])) _
          refine XS.lloadN X24.here hx rfl (hb hby at_128) rfl ?_
          show Steps p.tables e below (T24.setTop (mkF m 129 #[.val (.long q0), .second, .val (.long q1), .second, .val (.long q2), .second, .val (.long q3), .second, .val (.int p4), .val (.int p5), .val (.int v2), .val (.int v5), .val (.long v8), .second, .val (.long v11), .second, .val (.long v14), .second, .val (.ref b16), .val (.ref b19), .val (.ref b24), .unset, .unset, .unset, .unset, .unset, .unset] [(.long q1), (.long v11)])) _
          refine XS.lcmp X24.here hx rfl (hb hby at_129) rfl ?_
          show Steps p.tables e below (T24.setTop (mkF m 130 #[.val (.long q0), .second, .val (.long q1), .second, .val (.long q2), .second, .val (.long q3), .second, .val (.int p4), .val (.int p5), .val (.int v2), .val (.int v5), .val (.long v8), .second, .val (.long v11), .second, .val (.long v14), .second, .val (.ref b16), .val (.ref b19), .val (.ref b24), .unset, .unset, .unset, .unset, .unset, .unset] [(.int (lcmpW v11 q1))])) _
          refine XS.ifNo X24.here hx rfl (hb hby at_130) rfl ((if0 _ _).trans (teq ((lw_eq _ _).mpr hd31)).2) ?_
          show Steps p.tables e below (T24.setTop (mkF m 133 #[.val (.long q0), .second, .val (.long q1), .second, .val (.long q2), .second, .val (.long q3), .second, .val (.int p4), .val (.int p5), .val (.int v2), .val (.int v5), .val (.long v8), .second, .val (.long v11), .second, .val (.long v14), .second, .val (.ref b16), .val (.ref b19), .val (.ref b24), .unset, .unset, .unset, .unset, .unset, .unset] [])) _
          refine XS.lload X24.here hx rfl (hb hby at_133) rfl ?_
          show Steps p.tables e below (T24.setTop (mkF m 135 #[.val (.long q0), .second, .val (.long q1), .second, .val (.long q2), .second, .val (.long q3), .second, .val (.int p4), .val (.int p5), .val (.int v2), .val (.int v5), .val (.long v8), .second, .val (.long v11), .second, .val (.long v14), .second, .val (.ref b16), .val (.ref b19), .val (.ref b24), .unset, .unset, .unset, .unset, .unset, .unset] [(.long v14)])) _
          refine XS.lload X24.here hx rfl (hb hby at_135) rfl ?_
          show Steps p.tables e below (T24.setTop (mkF m 137 #[.val (.long q0), .second, .val (.long q1), .second, .val (.long q2), .second, .val (.long q3), .second, .val (.int p4), .val (.int p5), .val (.int v2), .val (.int v5), .val (.long v8), .second, .val (.long v11), .second, .val (.long v14), .second, .val (.ref b16), .val (.ref b19), .val (.ref b24), .unset, .unset, .unset, .unset, .unset, .unset] [(.long q2), (.long v14)])) _
          refine XS.lcmp X24.here hx rfl (hb hby at_137) rfl ?_
          show Steps p.tables e below (T24.setTop (mkF m 138 #[.val (.long q0), .second, .val (.long q1), .second, .val (.long q2), .second, .val (.long q3), .second, .val (.int p4), .val (.int p5), .val (.int v2), .val (.int v5), .val (.long v8), .second, .val (.long v11), .second, .val (.long v14), .second, .val (.ref b16), .val (.ref b19), .val (.ref b24), .unset, .unset, .unset, .unset, .unset, .unset] [(.int (lcmpW v14 q2))])) _
          refine XS.ifYes X24.here hx rfl (pc0 := 138) (pc' := 152) rfl (hb hby at_138) rfl ((if0 _ _).trans (feq (fun q => hd32 ((lw_eq _ _).mp q))).2) (by decide) (by decide) ?_
          show Steps p.tables e below (T24.setTop (mkF m 152 #[.val (.long q0), .second, .val (.long q1), .second, .val (.long q2), .second, .val (.long q3), .second, .val (.int p4), .val (.int p5), .val (.int v2), .val (.int v5), .val (.long v8), .second, .val (.long v11), .second, .val (.long v14), .second, .val (.ref b16), .val (.ref b19), .val (.ref b24), .unset, .unset, .unset, .unset, .unset, .unset] [])) _
          refine XS.iconst X24.here hx rfl (hb hby at_152) ?_
          exact kk
      · refine ⟨(0 : Int32), (by rw [if_pos hd30, if_neg hd31]), fun t kk => pre28 t ?_⟩
        show Steps p.tables e below (T24.setTop (mkF m 123 #[.val (.long q0), .second, .val (.long q1), .second, .val (.long q2), .second, .val (.long q3), .second, .val (.int p4), .val (.int p5), .val (.int v2), .val (.int v5), .val (.long v8), .second, .val (.long v11), .second, .val (.long v14), .second, .val (.ref b16), .val (.ref b19), .val (.ref b24), .unset, .unset, .unset, .unset, .unset, .unset] [(.int (lcmpW v8 q0))])) _
        refine XS.ifNo X24.here hx rfl (hb hby at_123) rfl ((if0 _ _).trans (teq ((lw_eq _ _).mpr hd30)).2) ?_
        show Steps p.tables e below (T24.setTop (mkF m 126 #[.val (.long q0), .second, .val (.long q1), .second, .val (.long q2), .second, .val (.long q3), .second, .val (.int p4), .val (.int p5), .val (.int v2), .val (.int v5), .val (.long v8), .second, .val (.long v11), .second, .val (.long v14), .second, .val (.ref b16), .val (.ref b19), .val (.ref b24), .unset, .unset, .unset, .unset, .unset, .unset] [])) _
        refine XS.lload X24.here hx rfl (hb hby at_126) rfl ?_
        show Steps p.tables e below (T24.setTop (mkF m 128 #[.val (.long q0), .second, .val (.long q1), .second, .val (.long q2), .second, .val (.long q3), .second, .val (.int p4), .val (.int p5), .val (.int v2), .val (.int v5), .val (.long v8), .second, .val (.long v11), .second, .val (.long v14), .second, .val (.ref b16), .val (.ref b19), .val (.ref b24), .unset, .unset, .unset, .unset, .unset, .unset] [(.long v11)])) _
        refine XS.lloadN X24.here hx rfl (hb hby at_128) rfl ?_
        show Steps p.tables e below (T24.setTop (mkF m 129 #[.val (.long q0), .second, .val (.long q1), .second, .val (.long q2), .second, .val (.long q3), .second, .val (.int p4), .val (.int p5), .val (.int v2), .val (.int v5), .val (.long v8), .second, .val (.long v11), .second, .val (.long v14), .second, .val (.ref b16), .val (.ref b19), .val (.ref b24), .unset, .unset, .unset, .unset, .unset, .unset] [(.long q1), (.long v11)])) _
        refine XS.lcmp X24.here hx rfl (hb hby at_129) rfl ?_
        show Steps p.tables e below (T24.setTop (mkF m 130 #[.val (.long q0), .second, .val (.long q1), .second, .val (.long q2), .second, .val (.long q3), .second, .val (.int p4), .val (.int p5), .val (.int v2), .val (.int v5), .val (.long v8), .second, .val (.long v11), .second, .val (.long v14), .second, .val (.ref b16), .val (.ref b19), .val (.ref b24), .unset, .unset, .unset, .unset, .unset, .unset] [(.int (lcmpW v11 q1))])) _
        refine XS.ifYes X24.here hx rfl (pc0 := 130) (pc' := 152) rfl (hb hby at_130) rfl ((if0 _ _).trans (feq (fun q => hd31 ((lw_eq _ _).mp q))).2) (by decide) (by decide) ?_
        show Steps p.tables e below (T24.setTop (mkF m 152 #[.val (.long q0), .second, .val (.long q1), .second, .val (.long q2), .second, .val (.long q3), .second, .val (.int p4), .val (.int p5), .val (.int v2), .val (.int v5), .val (.long v8), .second, .val (.long v11), .second, .val (.long v14), .second, .val (.ref b16), .val (.ref b19), .val (.ref b24), .unset, .unset, .unset, .unset, .unset, .unset] [])) _
        refine XS.iconst X24.here hx rfl (hb hby at_152) ?_
        exact kk
    · refine ⟨(0 : Int32), (by rw [if_neg hd30]), fun t kk => pre28 t ?_⟩
      show Steps p.tables e below (T24.setTop (mkF m 123 #[.val (.long q0), .second, .val (.long q1), .second, .val (.long q2), .second, .val (.long q3), .second, .val (.int p4), .val (.int p5), .val (.int v2), .val (.int v5), .val (.long v8), .second, .val (.long v11), .second, .val (.long v14), .second, .val (.ref b16), .val (.ref b19), .val (.ref b24), .unset, .unset, .unset, .unset, .unset, .unset] [(.int (lcmpW v8 q0))])) _
      refine XS.ifYes X24.here hx rfl (pc0 := 123) (pc' := 152) rfl (hb hby at_123) rfl ((if0 _ _).trans (feq (fun q => hd30 ((lw_eq _ _).mp q))).2) (by decide) (by decide) ?_
      show Steps p.tables e below (T24.setTop (mkF m 152 #[.val (.long q0), .second, .val (.long q1), .second, .val (.long q2), .second, .val (.long q3), .second, .val (.int p4), .val (.int p5), .val (.int v2), .val (.int v5), .val (.long v8), .second, .val (.long v11), .second, .val (.long v14), .second, .val (.ref b16), .val (.ref b19), .val (.ref b24), .unset, .unset, .unset, .unset, .unset, .unset] [])) _
      refine XS.iconst X24.here hx rfl (hb hby at_152) ?_
      exact kk
  have Ex35 := (Ex25.keep K24)
  have Ex36 := (Ex21.keep K24)
  have Zz37 := (Nat.le_trans Zz26 K24.1)
  have Fd38 := (((Fc17_version.ext E19).keep K21 (ninS ne_b16_b19 nin0)).keep K24 nin0)
  have Fd39 := (((Fc17_position.ext E19).keep K21 (ninS ne_b16_b19 nin0)).keep K24 nin0)
  have Fd40 := (((Fc17_length.ext E19).keep K21 (ninS ne_b16_b19 nin0)).keep K24 nin0)
  have Fd41 := (((Fc17_part.ext E19).keep K21 (ninS ne_b16_b19 nin0)).keep K24 nin0)
  have Fd42 := (Fc21_version.keep K24 nin0)
  have Fd43 := (Fc21_position.keep K24 nin0)
  have Fd44 := (Fc21_length.keep K24 nin0)
  have Fd45 := (Fc21_part.keep K24 nin0)
  obtain ⟨cq34, kq34, q34a, q34b, q34c⟩ := isOf hZ rfl Ex35
  obtain ⟨_, _, ⟨T34, L34, k34, n34⟩, -, X34, ⟨Lc34, hQ34, l34, y34, z34⟩, st34⟩ := X24.virtualBack hx (y := (⟨"com/example/copyleaf/copyleaf/format/ChunkRef", "equals", "(Ljava/lang/Object;)Z"⟩ : MethodName)) (z := (⟨"com/example/copyleaf/copyleaf/format/ChunkRef", "equals", "(Ljava/lang/Object;)Z"⟩ : MethodName)) hown (mvT hZ (hw _ (List.mem_of_getElem? (i := 30) rfl))) (mvT hZ (hw _ (List.mem_of_getElem? (i := 31) rfl))) (notFace_of_selects (args := #[]) (mvT hZ (hw _ (List.mem_of_getElem? (i := 33) rfl)))) (mvT hZ (hw _ (List.mem_of_getElem? (i := 33) rfl))) (mvT hZ (hw _ (List.mem_of_getElem? (i := 32) rfl))) (by decide) (backOf (W := 0) (rm5_r l Z a0 hw [] b16 b19 q0 q1 q2 (nar .boolean v2) v8 v11 v14 (nar .boolean v5) T24.heap n0 Zz37 Ex35 Ex36 Fd38 Fd39 Fd40 Fd41 Fd42 Fd43 Fd44 Fd45) hZ (hw _ (List.mem_of_getElem? (i := 34) rfl)) (hw _ (List.mem_of_getElem? (i := 2) rfl)) (by decide) (by decide)) q34a q34c (g := (mkF m 159 #[.val (.long q0), .second, .val (.long q1), .second, .val (.long q2), .second, .val (.long q3), .second, .val (.int p4), .val (.int p5), .val (.int v2), .val (.int v5), .val (.long v8), .second, .val (.long v11), .second, .val (.long v14), .second, .val (.ref b16), .val (.ref b19), .val (.ref b24), .val (.int v29), .unset, .unset, .unset, .unset, .unset] [(.ref b19), (.ref b16)])) rfl (by rw [hml]; rfl) (Steps.refl _) (argsL := [(.ref b19)]) (rest := []) (lenOf pd__28Ljava_2flang_2fObject_3b_29Z rfl) rfl (by show 2 * 0 + _ ≤ _; exact Nat.le_of_eq rfl) (hb hby at_159) (fun _ _ => ⟨rfl, rfl, (by decide : 3 + 0 ≤ _), (by decide : 9 + 0 ≤ _)⟩)
  dsimp only [Pt.U, Pt.locs, Pt.cells, Pt.slots] at X34 l34 y34 z34 st34 hQ34
  subst l34 y34 z34
  obtain ⟨rfl, N34q, e34⟩ := hQ34
  have N34 := Fr.app N24 N34q
  obtain ⟨cq46, kq46, q46a, q46b, q46c⟩ := isOf hZ e34 Ex36
  obtain ⟨_, _, ⟨T46, L46, k46, n46⟩, -, X46, ⟨Lc46, hQ46, l46, y46, z46⟩, st46⟩ := X34.virtualBack hx (y := (⟨"com/example/copyleaf/copyleaf/format/ChunkRef", "equals", "(Ljava/lang/Object;)Z"⟩ : MethodName)) (z := (⟨"com/example/copyleaf/copyleaf/format/ChunkRef", "equals", "(Ljava/lang/Object;)Z"⟩ : MethodName)) hown (mvT hZ (hw _ (List.mem_of_getElem? (i := 30) rfl))) (mvT hZ (hw _ (List.mem_of_getElem? (i := 31) rfl))) (notFace_of_selects (args := #[]) (mvT hZ (hw _ (List.mem_of_getElem? (i := 33) rfl)))) (mvT hZ (hw _ (List.mem_of_getElem? (i := 33) rfl))) (mvT hZ (hw _ (List.mem_of_getElem? (i := 32) rfl))) (by decide) (backOf (W := 0) (rm5_r l Z a0 hw [] b19 b16 v8 v11 v14 (nar .boolean v5) q0 q1 q2 (nar .boolean v2) T24.heap n0 Zz37 Ex36 Ex35 Fd42 Fd43 Fd44 Fd45 Fd38 Fd39 Fd40 Fd41) hZ (hw _ (List.mem_of_getElem? (i := 34) rfl)) (hw _ (List.mem_of_getElem? (i := 2) rfl)) (by decide) (by decide)) q46a q46c (g := (mkF m 168 #[.val (.long q0), .second, .val (.long q1), .second, .val (.long q2), .second, .val (.long q3), .second, .val (.int p4), .val (.int p5), .val (.int v2), .val (.int v5), .val (.long v8), .second, .val (.long v11), .second, .val (.long v14), .second, .val (.ref b16), .val (.ref b19), .val (.ref b24), .val (.int v29), .val (.int (eqF q0 q1 q2 (nar .boolean v2) v8 v11 v14 (nar .boolean v5))), .unset, .unset, .unset, .unset] [(.ref b16), (.ref b19)])) rfl (by rw [hml]; rfl) (Steps.refl _) (argsL := [(.ref b16)]) (rest := []) (lenOf pd__28Ljava_2flang_2fObject_3b_29Z rfl) rfl (by show 2 * 0 + _ ≤ _; exact Nat.le_of_eq rfl) (hb hby at_168) (fun _ _ => ⟨rfl, e34, (by decide : 3 + 0 ≤ _), (by decide : 9 + 0 ≤ _)⟩)
  dsimp only [Pt.U, Pt.locs, Pt.cells, Pt.slots] at X46 l46 y46 z46 st46 hQ46
  subst l46 y46 z46
  obtain ⟨rfl, N46q, e46⟩ := hQ46
  have N46 := Fr.app N34 N46q
  obtain ⟨cq47, kq47, q47a, q47b, q47c⟩ := isOf hZ e46 Ex35
  obtain ⟨_, _, ⟨T47, L47, k47, n47⟩, -, X47, ⟨Lc47, hQ47, l47, y47, z47⟩, st47⟩ := X46.virtualBack hx (y := (⟨"com/example/copyleaf/copyleaf/format/ChunkRef", "equals", "(Ljava/lang/Object;)Z"⟩ : MethodName)) (z := (⟨"com/example/copyleaf/copyleaf/format/ChunkRef", "equals", "(Ljava/lang/Object;)Z"⟩ : MethodName)) hown (mvT hZ (hw _ (List.mem_of_getElem? (i := 30) rfl))) (mvT hZ (hw _ (List.mem_of_getElem? (i := 31) rfl))) (notFace_of_selects (args := #[]) (mvT hZ (hw _ (List.mem_of_getElem? (i := 33) rfl)))) (mvT hZ (hw _ (List.mem_of_getElem? (i := 33) rfl))) (mvT hZ (hw _ (List.mem_of_getElem? (i := 32) rfl))) (by decide) (backOf (W := 0) (rm5_r l Z a0 hw [] b16 b16 q0 q1 q2 (nar .boolean v2) q0 q1 q2 (nar .boolean v2) T24.heap n0 Zz37 Ex35 Ex35 Fd38 Fd39 Fd40 Fd41 Fd38 Fd39 Fd40 Fd41) hZ (hw _ (List.mem_of_getElem? (i := 34) rfl)) (hw _ (List.mem_of_getElem? (i := 2) rfl)) (by decide) (by decide)) q47a q47c (g := (mkF m 177 #[.val (.long q0), .second, .val (.long q1), .second, .val (.long q2), .second, .val (.long q3), .second, .val (.int p4), .val (.int p5), .val (.int v2), .val (.int v5), .val (.long v8), .second, .val (.long v11), .second, .val (.long v14), .second, .val (.ref b16), .val (.ref b19), .val (.ref b24), .val (.int v29), .val (.int (eqF q0 q1 q2 (nar .boolean v2) v8 v11 v14 (nar .boolean v5))), .val (.int (eqF v8 v11 v14 (nar .boolean v5) q0 q1 q2 (nar .boolean v2))), .unset, .unset, .unset] [(.ref b16), (.ref b16)])) rfl (by rw [hml]; rfl) (Steps.refl _) (argsL := [(.ref b16)]) (rest := []) (lenOf pd__28Ljava_2flang_2fObject_3b_29Z rfl) rfl (by show 2 * 0 + _ ≤ _; exact Nat.le_of_eq rfl) (hb hby at_177) (fun _ _ => ⟨rfl, e46, (by decide : 3 + 0 ≤ _), (by decide : 9 + 0 ≤ _)⟩)
  dsimp only [Pt.U, Pt.locs, Pt.cells, Pt.slots] at X47 l47 y47 z47 st47 hQ47
  subst l47 y47 z47
  obtain ⟨rfl, N47q, e47⟩ := hQ47
  have N47 := Fr.app N46 N47q
  obtain ⟨cq48, kq48, q48a, q48b, q48c⟩ := isOf hZ e47 Ex35
  obtain ⟨_, _, ⟨T48, L48, k48, n48⟩, -, X48, ⟨Lc48, hQ48, l48, y48, z48⟩, st48⟩ := X47.virtualBack hx (y := (⟨"com/example/copyleaf/copyleaf/format/ChunkRef", "equals", "(Ljava/lang/Object;)Z"⟩ : MethodName)) (z := (⟨"com/example/copyleaf/copyleaf/format/ChunkRef", "equals", "(Ljava/lang/Object;)Z"⟩ : MethodName)) hown (mvT hZ (hw _ (List.mem_of_getElem? (i := 30) rfl))) (mvT hZ (hw _ (List.mem_of_getElem? (i := 31) rfl))) (notFace_of_selects (args := #[]) (mvT hZ (hw _ (List.mem_of_getElem? (i := 33) rfl)))) (mvT hZ (hw _ (List.mem_of_getElem? (i := 33) rfl))) (mvT hZ (hw _ (List.mem_of_getElem? (i := 32) rfl))) (by decide) (backOf (W := 0) (rm5_n l Z a0 hw [] b16  T24.heap n0 Zz37 ) hZ (hw _ (List.mem_of_getElem? (i := 34) rfl)) (hw _ (List.mem_of_getElem? (i := 2) rfl)) (by decide) (by decide)) q48a q48c (g := (mkF m 185 #[.val (.long q0), .second, .val (.long q1), .second, .val (.long q2), .second, .val (.long q3), .second, .val (.int p4), .val (.int p5), .val (.int v2), .val (.int v5), .val (.long v8), .second, .val (.long v11), .second, .val (.long v14), .second, .val (.ref b16), .val (.ref b19), .val (.ref b24), .val (.int v29), .val (.int (eqF q0 q1 q2 (nar .boolean v2) v8 v11 v14 (nar .boolean v5))), .val (.int (eqF v8 v11 v14 (nar .boolean v5) q0 q1 q2 (nar .boolean v2))), .val (.int (eqF q0 q1 q2 (nar .boolean v2) q0 q1 q2 (nar .boolean v2))), .unset, .unset] [.null, (.ref b16)])) rfl (by rw [hml]; rfl) (Steps.refl _) (argsL := [.null]) (rest := []) (lenOf pd__28Ljava_2flang_2fObject_3b_29Z rfl) rfl (by show 2 * 0 + _ ≤ _; exact Nat.le_of_eq rfl) (hb hby at_185) (fun _ _ => ⟨rfl, e47, (by decide : 3 + 0 ≤ _), (by decide : 9 + 0 ≤ _)⟩)
  dsimp only [Pt.U, Pt.locs, Pt.cells, Pt.slots] at X48 l48 y48 z48 st48 hQ48
  subst l48 y48 z48
  obtain ⟨rfl, N48q, e48⟩ := hQ48
  have N48 := Fr.app N47 N48q
  obtain ⟨cq49, kq49, q49a, q49b, q49c⟩ := isOf hZ e48 Ex35
  obtain ⟨_, _, ⟨T49, L49, k49, n49⟩, -, X49, ⟨Lc49, hQ49, l49, y49, z49⟩, st49⟩ := X48.virtualBack hx (y := (⟨"com/example/copyleaf/copyleaf/format/ChunkRef", "equals", "(Ljava/lang/Object;)Z"⟩ : MethodName)) (z := (⟨"com/example/copyleaf/copyleaf/format/ChunkRef", "equals", "(Ljava/lang/Object;)Z"⟩ : MethodName)) hown (mvT hZ (hw _ (List.mem_of_getElem? (i := 30) rfl))) (mvT hZ (hw _ (List.mem_of_getElem? (i := 31) rfl))) (notFace_of_selects (args := #[]) (mvT hZ (hw _ (List.mem_of_getElem? (i := 33) rfl)))) (mvT hZ (hw _ (List.mem_of_getElem? (i := 33) rfl))) (mvT hZ (hw _ (List.mem_of_getElem? (i := 32) rfl))) (by decide) (backOf (W := 0) (rm5_l l Z a0 hw [] b16 b24  T24.heap n0 Zz37 Eb24) hZ (hw _ (List.mem_of_getElem? (i := 34) rfl)) (hw _ (List.mem_of_getElem? (i := 2) rfl)) (by decide) (by decide)) q49a q49c (g := (mkF m 194 #[.val (.long q0), .second, .val (.long q1), .second, .val (.long q2), .second, .val (.long q3), .second, .val (.int p4), .val (.int p5), .val (.int v2), .val (.int v5), .val (.long v8), .second, .val (.long v11), .second, .val (.long v14), .second, .val (.ref b16), .val (.ref b19), .val (.ref b24), .val (.int v29), .val (.int (eqF q0 q1 q2 (nar .boolean v2) v8 v11 v14 (nar .boolean v5))), .val (.int (eqF v8 v11 v14 (nar .boolean v5) q0 q1 q2 (nar .boolean v2))), .val (.int (eqF q0 q1 q2 (nar .boolean v2) q0 q1 q2 (nar .boolean v2))), .val (.int (0 : Int32)), .unset] [(.ref b24), (.ref b16)])) rfl (by rw [hml]; rfl) (Steps.refl _) (argsL := [(.ref b24)]) (rest := []) (lenOf pd__28Ljava_2flang_2fObject_3b_29Z rfl) rfl (by show 2 * 0 + _ ≤ _; exact Nat.le_of_eq rfl) (hb hby at_194) (fun _ _ => ⟨rfl, e48, (by decide : 3 + 0 ≤ _), (by decide : 9 + 0 ≤ _)⟩)
  dsimp only [Pt.U, Pt.locs, Pt.cells, Pt.slots] at X49 l49 y49 z49 st49 hQ49
  subst l49 y49 z49
  obtain ⟨rfl, N49q, e49⟩ := hQ49
  have N49 := Fr.app N48 N49q
  obtain ⟨fs, hr, hrun, hended, hW, hsame⟩ := X49.leave (v := some (.int (1 : Int32))) (fun h => by rw [Bd.returns] at h; cases h)
  refine ⟨_, _, pre29 _ ?_, hrun, hended, _, _, rfl, ?_, ⟨_, rfl⟩, hW, hsame.mono (by decide) (by decide)⟩
  · show Steps p.tables e below (T24.setTop (mkF m 153 #[.val (.long q0), .second, .val (.long q1), .second, .val (.long q2), .second, .val (.long q3), .second, .val (.int p4), .val (.int p5), .val (.int v2), .val (.int v5), .val (.long v8), .second, .val (.long v11), .second, .val (.long v14), .second, .val (.ref b16), .val (.ref b19), .val (.ref b24), .unset, .unset, .unset, .unset, .unset, .unset] [(.int v29)])) _
    refine XS.istore X24.here hx rfl (hb hby at_153) rfl (l' := #[.val (.long q0), .second, .val (.long q1), .second, .val (.long q2), .second, .val (.long q3), .second, .val (.int p4), .val (.int p5), .val (.int v2), .val (.int v5), .val (.long v8), .second, .val (.long v11), .second, .val (.long v14), .second, .val (.ref b16), .val (.ref b19), .val (.ref b24), .val (.int v29), .unset, .unset, .unset, .unset, .unset]) rfl ?_
    show Steps p.tables e below (T24.setTop (mkF m 155 #[.val (.long q0), .second, .val (.long q1), .second, .val (.long q2), .second, .val (.long q3), .second, .val (.int p4), .val (.int p5), .val (.int v2), .val (.int v5), .val (.long v8), .second, .val (.long v11), .second, .val (.long v14), .second, .val (.ref b16), .val (.ref b19), .val (.ref b24), .val (.int v29), .unset, .unset, .unset, .unset, .unset] [])) _
    refine XS.aload X24.here hx rfl (hb hby at_155) rfl rfl ?_
    show Steps p.tables e below (T24.setTop (mkF m 157 #[.val (.long q0), .second, .val (.long q1), .second, .val (.long q2), .second, .val (.long q3), .second, .val (.int p4), .val (.int p5), .val (.int v2), .val (.int v5), .val (.long v8), .second, .val (.long v11), .second, .val (.long v14), .second, .val (.ref b16), .val (.ref b19), .val (.ref b24), .val (.int v29), .unset, .unset, .unset, .unset, .unset] [(.ref b16)])) _
    refine XS.aload X24.here hx rfl (hb hby at_157) rfl rfl ?_
    show Steps p.tables e below (T24.setTop (mkF m 159 #[.val (.long q0), .second, .val (.long q1), .second, .val (.long q2), .second, .val (.long q3), .second, .val (.int p4), .val (.int p5), .val (.int v2), .val (.int v5), .val (.long v8), .second, .val (.long v11), .second, .val (.long v14), .second, .val (.ref b16), .val (.ref b19), .val (.ref b24), .val (.int v29), .unset, .unset, .unset, .unset, .unset] [(.ref b19), (.ref b16)])) _
    refine st34.trans ?_
    show Steps p.tables e below (T34.setTop (mkF m 162 #[.val (.long q0), .second, .val (.long q1), .second, .val (.long q2), .second, .val (.long q3), .second, .val (.int p4), .val (.int p5), .val (.int v2), .val (.int v5), .val (.long v8), .second, .val (.long v11), .second, .val (.long v14), .second, .val (.ref b16), .val (.ref b19), .val (.ref b24), .val (.int v29), .unset, .unset, .unset, .unset, .unset] [(.int (eqF q0 q1 q2 (nar .boolean v2) v8 v11 v14 (nar .boolean v5)))])) _
    refine XS.istore X34.here hx rfl (hb hby at_162) rfl (l' := #[.val (.long q0), .second, .val (.long q1), .second, .val (.long q2), .second, .val (.long q3), .second, .val (.int p4), .val (.int p5), .val (.int v2), .val (.int v5), .val (.long v8), .second, .val (.long v11), .second, .val (.long v14), .second, .val (.ref b16), .val (.ref b19), .val (.ref b24), .val (.int v29), .val (.int (eqF q0 q1 q2 (nar .boolean v2) v8 v11 v14 (nar .boolean v5))), .unset, .unset, .unset, .unset]) rfl ?_
    show Steps p.tables e below (T34.setTop (mkF m 164 #[.val (.long q0), .second, .val (.long q1), .second, .val (.long q2), .second, .val (.long q3), .second, .val (.int p4), .val (.int p5), .val (.int v2), .val (.int v5), .val (.long v8), .second, .val (.long v11), .second, .val (.long v14), .second, .val (.ref b16), .val (.ref b19), .val (.ref b24), .val (.int v29), .val (.int (eqF q0 q1 q2 (nar .boolean v2) v8 v11 v14 (nar .boolean v5))), .unset, .unset, .unset, .unset] [])) _
    refine XS.aload X34.here hx rfl (hb hby at_164) rfl rfl ?_
    show Steps p.tables e below (T34.setTop (mkF m 166 #[.val (.long q0), .second, .val (.long q1), .second, .val (.long q2), .second, .val (.long q3), .second, .val (.int p4), .val (.int p5), .val (.int v2), .val (.int v5), .val (.long v8), .second, .val (.long v11), .second, .val (.long v14), .second, .val (.ref b16), .val (.ref b19), .val (.ref b24), .val (.int v29), .val (.int (eqF q0 q1 q2 (nar .boolean v2) v8 v11 v14 (nar .boolean v5))), .unset, .unset, .unset, .unset] [(.ref b19)])) _
    refine XS.aload X34.here hx rfl (hb hby at_166) rfl rfl ?_
    show Steps p.tables e below (T34.setTop (mkF m 168 #[.val (.long q0), .second, .val (.long q1), .second, .val (.long q2), .second, .val (.long q3), .second, .val (.int p4), .val (.int p5), .val (.int v2), .val (.int v5), .val (.long v8), .second, .val (.long v11), .second, .val (.long v14), .second, .val (.ref b16), .val (.ref b19), .val (.ref b24), .val (.int v29), .val (.int (eqF q0 q1 q2 (nar .boolean v2) v8 v11 v14 (nar .boolean v5))), .unset, .unset, .unset, .unset] [(.ref b16), (.ref b19)])) _
    refine st46.trans ?_
    show Steps p.tables e below (T46.setTop (mkF m 171 #[.val (.long q0), .second, .val (.long q1), .second, .val (.long q2), .second, .val (.long q3), .second, .val (.int p4), .val (.int p5), .val (.int v2), .val (.int v5), .val (.long v8), .second, .val (.long v11), .second, .val (.long v14), .second, .val (.ref b16), .val (.ref b19), .val (.ref b24), .val (.int v29), .val (.int (eqF q0 q1 q2 (nar .boolean v2) v8 v11 v14 (nar .boolean v5))), .unset, .unset, .unset, .unset] [(.int (eqF v8 v11 v14 (nar .boolean v5) q0 q1 q2 (nar .boolean v2)))])) _
    refine XS.istore X46.here hx rfl (hb hby at_171) rfl (l' := #[.val (.long q0), .second, .val (.long q1), .second, .val (.long q2), .second, .val (.long q3), .second, .val (.int p4), .val (.int p5), .val (.int v2), .val (.int v5), .val (.long v8), .second, .val (.long v11), .second, .val (.long v14), .second, .val (.ref b16), .val (.ref b19), .val (.ref b24), .val (.int v29), .val (.int (eqF q0 q1 q2 (nar .boolean v2) v8 v11 v14 (nar .boolean v5))), .val (.int (eqF v8 v11 v14 (nar .boolean v5) q0 q1 q2 (nar .boolean v2))), .unset, .unset, .unset]) rfl ?_
    show Steps p.tables e below (T46.setTop (mkF m 173 #[.val (.long q0), .second, .val (.long q1), .second, .val (.long q2), .second, .val (.long q3), .second, .val (.int p4), .val (.int p5), .val (.int v2), .val (.int v5), .val (.long v8), .second, .val (.long v11), .second, .val (.long v14), .second, .val (.ref b16), .val (.ref b19), .val (.ref b24), .val (.int v29), .val (.int (eqF q0 q1 q2 (nar .boolean v2) v8 v11 v14 (nar .boolean v5))), .val (.int (eqF v8 v11 v14 (nar .boolean v5) q0 q1 q2 (nar .boolean v2))), .unset, .unset, .unset] [])) _
    refine XS.aload X46.here hx rfl (hb hby at_173) rfl rfl ?_
    show Steps p.tables e below (T46.setTop (mkF m 175 #[.val (.long q0), .second, .val (.long q1), .second, .val (.long q2), .second, .val (.long q3), .second, .val (.int p4), .val (.int p5), .val (.int v2), .val (.int v5), .val (.long v8), .second, .val (.long v11), .second, .val (.long v14), .second, .val (.ref b16), .val (.ref b19), .val (.ref b24), .val (.int v29), .val (.int (eqF q0 q1 q2 (nar .boolean v2) v8 v11 v14 (nar .boolean v5))), .val (.int (eqF v8 v11 v14 (nar .boolean v5) q0 q1 q2 (nar .boolean v2))), .unset, .unset, .unset] [(.ref b16)])) _
    refine XS.aload X46.here hx rfl (hb hby at_175) rfl rfl ?_
    show Steps p.tables e below (T46.setTop (mkF m 177 #[.val (.long q0), .second, .val (.long q1), .second, .val (.long q2), .second, .val (.long q3), .second, .val (.int p4), .val (.int p5), .val (.int v2), .val (.int v5), .val (.long v8), .second, .val (.long v11), .second, .val (.long v14), .second, .val (.ref b16), .val (.ref b19), .val (.ref b24), .val (.int v29), .val (.int (eqF q0 q1 q2 (nar .boolean v2) v8 v11 v14 (nar .boolean v5))), .val (.int (eqF v8 v11 v14 (nar .boolean v5) q0 q1 q2 (nar .boolean v2))), .unset, .unset, .unset] [(.ref b16), (.ref b16)])) _
    refine st47.trans ?_
    show Steps p.tables e below (T47.setTop (mkF m 180 #[.val (.long q0), .second, .val (.long q1), .second, .val (.long q2), .second, .val (.long q3), .second, .val (.int p4), .val (.int p5), .val (.int v2), .val (.int v5), .val (.long v8), .second, .val (.long v11), .second, .val (.long v14), .second, .val (.ref b16), .val (.ref b19), .val (.ref b24), .val (.int v29), .val (.int (eqF q0 q1 q2 (nar .boolean v2) v8 v11 v14 (nar .boolean v5))), .val (.int (eqF v8 v11 v14 (nar .boolean v5) q0 q1 q2 (nar .boolean v2))), .unset, .unset, .unset] [(.int (eqF q0 q1 q2 (nar .boolean v2) q0 q1 q2 (nar .boolean v2)))])) _
    refine XS.istore X47.here hx rfl (hb hby at_180) rfl (l' := #[.val (.long q0), .second, .val (.long q1), .second, .val (.long q2), .second, .val (.long q3), .second, .val (.int p4), .val (.int p5), .val (.int v2), .val (.int v5), .val (.long v8), .second, .val (.long v11), .second, .val (.long v14), .second, .val (.ref b16), .val (.ref b19), .val (.ref b24), .val (.int v29), .val (.int (eqF q0 q1 q2 (nar .boolean v2) v8 v11 v14 (nar .boolean v5))), .val (.int (eqF v8 v11 v14 (nar .boolean v5) q0 q1 q2 (nar .boolean v2))), .val (.int (eqF q0 q1 q2 (nar .boolean v2) q0 q1 q2 (nar .boolean v2))), .unset, .unset]) rfl ?_
    show Steps p.tables e below (T47.setTop (mkF m 182 #[.val (.long q0), .second, .val (.long q1), .second, .val (.long q2), .second, .val (.long q3), .second, .val (.int p4), .val (.int p5), .val (.int v2), .val (.int v5), .val (.long v8), .second, .val (.long v11), .second, .val (.long v14), .second, .val (.ref b16), .val (.ref b19), .val (.ref b24), .val (.int v29), .val (.int (eqF q0 q1 q2 (nar .boolean v2) v8 v11 v14 (nar .boolean v5))), .val (.int (eqF v8 v11 v14 (nar .boolean v5) q0 q1 q2 (nar .boolean v2))), .val (.int (eqF q0 q1 q2 (nar .boolean v2) q0 q1 q2 (nar .boolean v2))), .unset, .unset] [])) _
    refine XS.aload X47.here hx rfl (hb hby at_182) rfl rfl ?_
    show Steps p.tables e below (T47.setTop (mkF m 184 #[.val (.long q0), .second, .val (.long q1), .second, .val (.long q2), .second, .val (.long q3), .second, .val (.int p4), .val (.int p5), .val (.int v2), .val (.int v5), .val (.long v8), .second, .val (.long v11), .second, .val (.long v14), .second, .val (.ref b16), .val (.ref b19), .val (.ref b24), .val (.int v29), .val (.int (eqF q0 q1 q2 (nar .boolean v2) v8 v11 v14 (nar .boolean v5))), .val (.int (eqF v8 v11 v14 (nar .boolean v5) q0 q1 q2 (nar .boolean v2))), .val (.int (eqF q0 q1 q2 (nar .boolean v2) q0 q1 q2 (nar .boolean v2))), .unset, .unset] [(.ref b16)])) _
    refine XS.aconstNull X47.here hx rfl (hb hby at_184) ?_
    show Steps p.tables e below (T47.setTop (mkF m 185 #[.val (.long q0), .second, .val (.long q1), .second, .val (.long q2), .second, .val (.long q3), .second, .val (.int p4), .val (.int p5), .val (.int v2), .val (.int v5), .val (.long v8), .second, .val (.long v11), .second, .val (.long v14), .second, .val (.ref b16), .val (.ref b19), .val (.ref b24), .val (.int v29), .val (.int (eqF q0 q1 q2 (nar .boolean v2) v8 v11 v14 (nar .boolean v5))), .val (.int (eqF v8 v11 v14 (nar .boolean v5) q0 q1 q2 (nar .boolean v2))), .val (.int (eqF q0 q1 q2 (nar .boolean v2) q0 q1 q2 (nar .boolean v2))), .unset, .unset] [.null, (.ref b16)])) _
    refine st48.trans ?_
    show Steps p.tables e below (T48.setTop (mkF m 188 #[.val (.long q0), .second, .val (.long q1), .second, .val (.long q2), .second, .val (.long q3), .second, .val (.int p4), .val (.int p5), .val (.int v2), .val (.int v5), .val (.long v8), .second, .val (.long v11), .second, .val (.long v14), .second, .val (.ref b16), .val (.ref b19), .val (.ref b24), .val (.int v29), .val (.int (eqF q0 q1 q2 (nar .boolean v2) v8 v11 v14 (nar .boolean v5))), .val (.int (eqF v8 v11 v14 (nar .boolean v5) q0 q1 q2 (nar .boolean v2))), .val (.int (eqF q0 q1 q2 (nar .boolean v2) q0 q1 q2 (nar .boolean v2))), .unset, .unset] [(.int (0 : Int32))])) _
    refine XS.istore X48.here hx rfl (hb hby at_188) rfl (l' := #[.val (.long q0), .second, .val (.long q1), .second, .val (.long q2), .second, .val (.long q3), .second, .val (.int p4), .val (.int p5), .val (.int v2), .val (.int v5), .val (.long v8), .second, .val (.long v11), .second, .val (.long v14), .second, .val (.ref b16), .val (.ref b19), .val (.ref b24), .val (.int v29), .val (.int (eqF q0 q1 q2 (nar .boolean v2) v8 v11 v14 (nar .boolean v5))), .val (.int (eqF v8 v11 v14 (nar .boolean v5) q0 q1 q2 (nar .boolean v2))), .val (.int (eqF q0 q1 q2 (nar .boolean v2) q0 q1 q2 (nar .boolean v2))), .val (.int (0 : Int32)), .unset]) rfl ?_
    show Steps p.tables e below (T48.setTop (mkF m 190 #[.val (.long q0), .second, .val (.long q1), .second, .val (.long q2), .second, .val (.long q3), .second, .val (.int p4), .val (.int p5), .val (.int v2), .val (.int v5), .val (.long v8), .second, .val (.long v11), .second, .val (.long v14), .second, .val (.ref b16), .val (.ref b19), .val (.ref b24), .val (.int v29), .val (.int (eqF q0 q1 q2 (nar .boolean v2) v8 v11 v14 (nar .boolean v5))), .val (.int (eqF v8 v11 v14 (nar .boolean v5) q0 q1 q2 (nar .boolean v2))), .val (.int (eqF q0 q1 q2 (nar .boolean v2) q0 q1 q2 (nar .boolean v2))), .val (.int (0 : Int32)), .unset] [])) _
    refine XS.aload X48.here hx rfl (hb hby at_190) rfl rfl ?_
    show Steps p.tables e below (T48.setTop (mkF m 192 #[.val (.long q0), .second, .val (.long q1), .second, .val (.long q2), .second, .val (.long q3), .second, .val (.int p4), .val (.int p5), .val (.int v2), .val (.int v5), .val (.long v8), .second, .val (.long v11), .second, .val (.long v14), .second, .val (.ref b16), .val (.ref b19), .val (.ref b24), .val (.int v29), .val (.int (eqF q0 q1 q2 (nar .boolean v2) v8 v11 v14 (nar .boolean v5))), .val (.int (eqF v8 v11 v14 (nar .boolean v5) q0 q1 q2 (nar .boolean v2))), .val (.int (eqF q0 q1 q2 (nar .boolean v2) q0 q1 q2 (nar .boolean v2))), .val (.int (0 : Int32)), .unset] [(.ref b16)])) _
    refine XS.aload X48.here hx rfl (hb hby at_192) rfl rfl ?_
    show Steps p.tables e below (T48.setTop (mkF m 194 #[.val (.long q0), .second, .val (.long q1), .second, .val (.long q2), .second, .val (.long q3), .second, .val (.int p4), .val (.int p5), .val (.int v2), .val (.int v5), .val (.long v8), .second, .val (.long v11), .second, .val (.long v14), .second, .val (.ref b16), .val (.ref b19), .val (.ref b24), .val (.int v29), .val (.int (eqF q0 q1 q2 (nar .boolean v2) v8 v11 v14 (nar .boolean v5))), .val (.int (eqF v8 v11 v14 (nar .boolean v5) q0 q1 q2 (nar .boolean v2))), .val (.int (eqF q0 q1 q2 (nar .boolean v2) q0 q1 q2 (nar .boolean v2))), .val (.int (0 : Int32)), .unset] [(.ref b24), (.ref b16)])) _
    refine st49.trans ?_
    show Steps p.tables e below (T49.setTop (mkF m 197 #[.val (.long q0), .second, .val (.long q1), .second, .val (.long q2), .second, .val (.long q3), .second, .val (.int p4), .val (.int p5), .val (.int v2), .val (.int v5), .val (.long v8), .second, .val (.long v11), .second, .val (.long v14), .second, .val (.ref b16), .val (.ref b19), .val (.ref b24), .val (.int v29), .val (.int (eqF q0 q1 q2 (nar .boolean v2) v8 v11 v14 (nar .boolean v5))), .val (.int (eqF v8 v11 v14 (nar .boolean v5) q0 q1 q2 (nar .boolean v2))), .val (.int (eqF q0 q1 q2 (nar .boolean v2) q0 q1 q2 (nar .boolean v2))), .val (.int (0 : Int32)), .unset] [(.int (0 : Int32))])) _
    refine XS.istore X49.here hx rfl (hb hby at_197) rfl (l' := #[.val (.long q0), .second, .val (.long q1), .second, .val (.long q2), .second, .val (.long q3), .second, .val (.int p4), .val (.int p5), .val (.int v2), .val (.int v5), .val (.long v8), .second, .val (.long v11), .second, .val (.long v14), .second, .val (.ref b16), .val (.ref b19), .val (.ref b24), .val (.int v29), .val (.int (eqF q0 q1 q2 (nar .boolean v2) v8 v11 v14 (nar .boolean v5))), .val (.int (eqF v8 v11 v14 (nar .boolean v5) q0 q1 q2 (nar .boolean v2))), .val (.int (eqF q0 q1 q2 (nar .boolean v2) q0 q1 q2 (nar .boolean v2))), .val (.int (0 : Int32)), .val (.int (0 : Int32))]) rfl ?_
    show Steps p.tables e below (T49.setTop (mkF m 199 #[.val (.long q0), .second, .val (.long q1), .second, .val (.long q2), .second, .val (.long q3), .second, .val (.int p4), .val (.int p5), .val (.int v2), .val (.int v5), .val (.long v8), .second, .val (.long v11), .second, .val (.long v14), .second, .val (.ref b16), .val (.ref b19), .val (.ref b24), .val (.int v29), .val (.int (eqF q0 q1 q2 (nar .boolean v2) v8 v11 v14 (nar .boolean v5))), .val (.int (eqF v8 v11 v14 (nar .boolean v5) q0 q1 q2 (nar .boolean v2))), .val (.int (eqF q0 q1 q2 (nar .boolean v2) q0 q1 q2 (nar .boolean v2))), .val (.int (0 : Int32)), .val (.int (0 : Int32))] [])) _
    refine XS.iload X49.here hx rfl (hb hby at_199) rfl ?_
    show Steps p.tables e below (T49.setTop (mkF m 201 #[.val (.long q0), .second, .val (.long q1), .second, .val (.long q2), .second, .val (.long q3), .second, .val (.int p4), .val (.int p5), .val (.int v2), .val (.int v5), .val (.long v8), .second, .val (.long v11), .second, .val (.long v14), .second, .val (.ref b16), .val (.ref b19), .val (.ref b24), .val (.int v29), .val (.int (eqF q0 q1 q2 (nar .boolean v2) v8 v11 v14 (nar .boolean v5))), .val (.int (eqF v8 v11 v14 (nar .boolean v5) q0 q1 q2 (nar .boolean v2))), .val (.int (eqF q0 q1 q2 (nar .boolean v2) q0 q1 q2 (nar .boolean v2))), .val (.int (0 : Int32)), .val (.int (0 : Int32))] [(.int (eqF q0 q1 q2 (nar .boolean v2) v8 v11 v14 (nar .boolean v5)))])) _
    refine XS.iload X49.here hx rfl (hb hby at_201) rfl ?_
    show Steps p.tables e below (T49.setTop (mkF m 203 #[.val (.long q0), .second, .val (.long q1), .second, .val (.long q2), .second, .val (.long q3), .second, .val (.int p4), .val (.int p5), .val (.int v2), .val (.int v5), .val (.long v8), .second, .val (.long v11), .second, .val (.long v14), .second, .val (.ref b16), .val (.ref b19), .val (.ref b24), .val (.int v29), .val (.int (eqF q0 q1 q2 (nar .boolean v2) v8 v11 v14 (nar .boolean v5))), .val (.int (eqF v8 v11 v14 (nar .boolean v5) q0 q1 q2 (nar .boolean v2))), .val (.int (eqF q0 q1 q2 (nar .boolean v2) q0 q1 q2 (nar .boolean v2))), .val (.int (0 : Int32)), .val (.int (0 : Int32))] [(.int v29), (.int (eqF q0 q1 q2 (nar .boolean v2) v8 v11 v14 (nar .boolean v5)))])) _
    refine XS.icmpNo X49.here hx rfl (hb hby at_203) rfl (teq (own_eq (own_nar ev2) (own_nar ev5) ev29)).2 ?_
    show Steps p.tables e below (T49.setTop (mkF m 206 #[.val (.long q0), .second, .val (.long q1), .second, .val (.long q2), .second, .val (.long q3), .second, .val (.int p4), .val (.int p5), .val (.int v2), .val (.int v5), .val (.long v8), .second, .val (.long v11), .second, .val (.long v14), .second, .val (.ref b16), .val (.ref b19), .val (.ref b24), .val (.int v29), .val (.int (eqF q0 q1 q2 (nar .boolean v2) v8 v11 v14 (nar .boolean v5))), .val (.int (eqF v8 v11 v14 (nar .boolean v5) q0 q1 q2 (nar .boolean v2))), .val (.int (eqF q0 q1 q2 (nar .boolean v2) q0 q1 q2 (nar .boolean v2))), .val (.int (0 : Int32)), .val (.int (0 : Int32))] [])) _
    refine XS.iload X49.here hx rfl (hb hby at_206) rfl ?_
    show Steps p.tables e below (T49.setTop (mkF m 208 #[.val (.long q0), .second, .val (.long q1), .second, .val (.long q2), .second, .val (.long q3), .second, .val (.int p4), .val (.int p5), .val (.int v2), .val (.int v5), .val (.long v8), .second, .val (.long v11), .second, .val (.long v14), .second, .val (.ref b16), .val (.ref b19), .val (.ref b24), .val (.int v29), .val (.int (eqF q0 q1 q2 (nar .boolean v2) v8 v11 v14 (nar .boolean v5))), .val (.int (eqF v8 v11 v14 (nar .boolean v5) q0 q1 q2 (nar .boolean v2))), .val (.int (eqF q0 q1 q2 (nar .boolean v2) q0 q1 q2 (nar .boolean v2))), .val (.int (0 : Int32)), .val (.int (0 : Int32))] [(.int (eqF v8 v11 v14 (nar .boolean v5) q0 q1 q2 (nar .boolean v2)))])) _
    refine XS.iload X49.here hx rfl (hb hby at_208) rfl ?_
    show Steps p.tables e below (T49.setTop (mkF m 210 #[.val (.long q0), .second, .val (.long q1), .second, .val (.long q2), .second, .val (.long q3), .second, .val (.int p4), .val (.int p5), .val (.int v2), .val (.int v5), .val (.long v8), .second, .val (.long v11), .second, .val (.long v14), .second, .val (.ref b16), .val (.ref b19), .val (.ref b24), .val (.int v29), .val (.int (eqF q0 q1 q2 (nar .boolean v2) v8 v11 v14 (nar .boolean v5))), .val (.int (eqF v8 v11 v14 (nar .boolean v5) q0 q1 q2 (nar .boolean v2))), .val (.int (eqF q0 q1 q2 (nar .boolean v2) q0 q1 q2 (nar .boolean v2))), .val (.int (0 : Int32)), .val (.int (0 : Int32))] [(.int v29), (.int (eqF v8 v11 v14 (nar .boolean v5) q0 q1 q2 (nar .boolean v2)))])) _
    refine XS.icmpNo X49.here hx rfl (hb hby at_210) rfl (teq ((own_sym _ _ _ _ _ _ _ _).trans (own_eq (own_nar ev2) (own_nar ev5) ev29))).2 ?_
    show Steps p.tables e below (T49.setTop (mkF m 213 #[.val (.long q0), .second, .val (.long q1), .second, .val (.long q2), .second, .val (.long q3), .second, .val (.int p4), .val (.int p5), .val (.int v2), .val (.int v5), .val (.long v8), .second, .val (.long v11), .second, .val (.long v14), .second, .val (.ref b16), .val (.ref b19), .val (.ref b24), .val (.int v29), .val (.int (eqF q0 q1 q2 (nar .boolean v2) v8 v11 v14 (nar .boolean v5))), .val (.int (eqF v8 v11 v14 (nar .boolean v5) q0 q1 q2 (nar .boolean v2))), .val (.int (eqF q0 q1 q2 (nar .boolean v2) q0 q1 q2 (nar .boolean v2))), .val (.int (0 : Int32)), .val (.int (0 : Int32))] [])) _
    refine XS.iload X49.here hx rfl (hb hby at_213) rfl ?_
    show Steps p.tables e below (T49.setTop (mkF m 215 #[.val (.long q0), .second, .val (.long q1), .second, .val (.long q2), .second, .val (.long q3), .second, .val (.int p4), .val (.int p5), .val (.int v2), .val (.int v5), .val (.long v8), .second, .val (.long v11), .second, .val (.long v14), .second, .val (.ref b16), .val (.ref b19), .val (.ref b24), .val (.int v29), .val (.int (eqF q0 q1 q2 (nar .boolean v2) v8 v11 v14 (nar .boolean v5))), .val (.int (eqF v8 v11 v14 (nar .boolean v5) q0 q1 q2 (nar .boolean v2))), .val (.int (eqF q0 q1 q2 (nar .boolean v2) q0 q1 q2 (nar .boolean v2))), .val (.int (0 : Int32)), .val (.int (0 : Int32))] [(.int (eqF q0 q1 q2 (nar .boolean v2) q0 q1 q2 (nar .boolean v2)))])) _
    refine XS.ifNo X49.here hx rfl (hb hby at_215) rfl ((if0 _ _).trans (feq (own_self _ _ _ _)).1) ?_
    show Steps p.tables e below (T49.setTop (mkF m 218 #[.val (.long q0), .second, .val (.long q1), .second, .val (.long q2), .second, .val (.long q3), .second, .val (.int p4), .val (.int p5), .val (.int v2), .val (.int v5), .val (.long v8), .second, .val (.long v11), .second, .val (.long v14), .second, .val (.ref b16), .val (.ref b19), .val (.ref b24), .val (.int v29), .val (.int (eqF q0 q1 q2 (nar .boolean v2) v8 v11 v14 (nar .boolean v5))), .val (.int (eqF v8 v11 v14 (nar .boolean v5) q0 q1 q2 (nar .boolean v2))), .val (.int (eqF q0 q1 q2 (nar .boolean v2) q0 q1 q2 (nar .boolean v2))), .val (.int (0 : Int32)), .val (.int (0 : Int32))] [])) _
    refine XS.iload X49.here hx rfl (hb hby at_218) rfl ?_
    show Steps p.tables e below (T49.setTop (mkF m 220 #[.val (.long q0), .second, .val (.long q1), .second, .val (.long q2), .second, .val (.long q3), .second, .val (.int p4), .val (.int p5), .val (.int v2), .val (.int v5), .val (.long v8), .second, .val (.long v11), .second, .val (.long v14), .second, .val (.ref b16), .val (.ref b19), .val (.ref b24), .val (.int v29), .val (.int (eqF q0 q1 q2 (nar .boolean v2) v8 v11 v14 (nar .boolean v5))), .val (.int (eqF v8 v11 v14 (nar .boolean v5) q0 q1 q2 (nar .boolean v2))), .val (.int (eqF q0 q1 q2 (nar .boolean v2) q0 q1 q2 (nar .boolean v2))), .val (.int (0 : Int32)), .val (.int (0 : Int32))] [(.int (0 : Int32))])) _
    refine XS.ifNo X49.here hx rfl (hb hby at_220) rfl ((if0 _ _).trans (teq (rfl : (0 : Int32) = (0 : Int32))).2) ?_
    show Steps p.tables e below (T49.setTop (mkF m 223 #[.val (.long q0), .second, .val (.long q1), .second, .val (.long q2), .second, .val (.long q3), .second, .val (.int p4), .val (.int p5), .val (.int v2), .val (.int v5), .val (.long v8), .second, .val (.long v11), .second, .val (.long v14), .second, .val (.ref b16), .val (.ref b19), .val (.ref b24), .val (.int v29), .val (.int (eqF q0 q1 q2 (nar .boolean v2) v8 v11 v14 (nar .boolean v5))), .val (.int (eqF v8 v11 v14 (nar .boolean v5) q0 q1 q2 (nar .boolean v2))), .val (.int (eqF q0 q1 q2 (nar .boolean v2) q0 q1 q2 (nar .boolean v2))), .val (.int (0 : Int32)), .val (.int (0 : Int32))] [])) _
    refine XS.iload X49.here hx rfl (hb hby at_223) rfl ?_
    show Steps p.tables e below (T49.setTop (mkF m 225 #[.val (.long q0), .second, .val (.long q1), .second, .val (.long q2), .second, .val (.long q3), .second, .val (.int p4), .val (.int p5), .val (.int v2), .val (.int v5), .val (.long v8), .second, .val (.long v11), .second, .val (.long v14), .second, .val (.ref b16), .val (.ref b19), .val (.ref b24), .val (.int v29), .val (.int (eqF q0 q1 q2 (nar .boolean v2) v8 v11 v14 (nar .boolean v5))), .val (.int (eqF v8 v11 v14 (nar .boolean v5) q0 q1 q2 (nar .boolean v2))), .val (.int (eqF q0 q1 q2 (nar .boolean v2) q0 q1 q2 (nar .boolean v2))), .val (.int (0 : Int32)), .val (.int (0 : Int32))] [(.int (0 : Int32))])) _
    refine XS.ifNo X49.here hx rfl (hb hby at_225) rfl ((if0 _ _).trans (teq (rfl : (0 : Int32) = (0 : Int32))).2) ?_
    show Steps p.tables e below (T49.setTop (mkF m 228 #[.val (.long q0), .second, .val (.long q1), .second, .val (.long q2), .second, .val (.long q3), .second, .val (.int p4), .val (.int p5), .val (.int v2), .val (.int v5), .val (.long v8), .second, .val (.long v11), .second, .val (.long v14), .second, .val (.ref b16), .val (.ref b19), .val (.ref b24), .val (.int v29), .val (.int (eqF q0 q1 q2 (nar .boolean v2) v8 v11 v14 (nar .boolean v5))), .val (.int (eqF v8 v11 v14 (nar .boolean v5) q0 q1 q2 (nar .boolean v2))), .val (.int (eqF q0 q1 q2 (nar .boolean v2) q0 q1 q2 (nar .boolean v2))), .val (.int (0 : Int32)), .val (.int (0 : Int32))] [])) _
    refine XS.iconst X49.here hx rfl (hb hby at_228) ?_
    show Steps p.tables e below (T49.setTop (mkF m 229 #[.val (.long q0), .second, .val (.long q1), .second, .val (.long q2), .second, .val (.long q3), .second, .val (.int p4), .val (.int p5), .val (.int v2), .val (.int v5), .val (.long v8), .second, .val (.long v11), .second, .val (.long v14), .second, .val (.ref b16), .val (.ref b19), .val (.ref b24), .val (.int v29), .val (.int (eqF q0 q1 q2 (nar .boolean v2) v8 v11 v14 (nar .boolean v5))), .val (.int (eqF v8 v11 v14 (nar .boolean v5) q0 q1 q2 (nar .boolean v2))), .val (.int (eqF q0 q1 q2 (nar .boolean v2) q0 q1 q2 (nar .boolean v2))), .val (.int (0 : Int32)), .val (.int (0 : Int32))] [(.int (1 : Int32))])) _
    refine XS.goto X49.here hx rfl (pc0 := 229) (pc' := 233) rfl (hb hby at_229) (by decide) (by decide) ?_
    show Steps p.tables e below (T49.setTop (mkF m 233 #[.val (.long q0), .second, .val (.long q1), .second, .val (.long q2), .second, .val (.long q3), .second, .val (.int p4), .val (.int p5), .val (.int v2), .val (.int v5), .val (.long v8), .second, .val (.long v11), .second, .val (.long v14), .second, .val (.ref b16), .val (.ref b19), .val (.ref b24), .val (.int v29), .val (.int (eqF q0 q1 q2 (nar .boolean v2) v8 v11 v14 (nar .boolean v5))), .val (.int (eqF v8 v11 v14 (nar .boolean v5) q0 q1 q2 (nar .boolean v2))), .val (.int (eqF q0 q1 q2 (nar .boolean v2) q0 q1 q2 (nar .boolean v2))), .val (.int (0 : Int32)), .val (.int (0 : Int32))] [(.int (1 : Int32))])) _
    exact retN X49 hx (t := .boolean) Bd.returns (by simp) (hb hby at_233) hr
  · show Q0 h0 n0 _ T49.heap _
    rw [e49]
    exact ⟨rfl, N49⟩
set_option maxRecDepth 65536 in
set_option maxHeartbeats 40000000 in
theorem comes_1 {Post : Tables → Env → Array Value → State → Outcome → State → Prop} (hpost : ∀ tb e args s v u, (limb_1_1.after args s (.returned v) u = true ∧ limb_1_2.after args s (.returned v) u = true ∧ True) → FrameEnd s (.returned v) u (Jvm.fieldLocs frame_1_writes args s ++ Jvm.arrayLocs frame_1_arrays args s ++ Jvm.staticLocs frame_1_statics s) 16 128 → Post tb e args s (.returned v) u) :
    ArmFor flags0 classFile x code maxLocals ret World_1 tables_1 room_1 Calls_1 rest_1 Pre_1 Post := by
  intro l hfl _ _ p e ha hc hk s m args below hf hA hF happ hP
  obtain ⟨hcalls, hrest, hpre⟩ := hP
  obtain ⟨-, -, -, hnamed, -, -, -, hat⟩ := (Spec.applies_iff hf).mp happ
  obtain ⟨hg, hn⟩ := and_e (Cond.before_iff.mp (show (Jvm.Cond.and given_1 narrow_1).before args s = true from hpre))
  obtain ⟨gg1, gg2⟩ := and_e hg
  obtain ⟨gg3, gg4⟩ := and_e gg2
  obtain ⟨gg5, gg6⟩ := and_e gg4
  obtain ⟨gg7, gg8⟩ := and_e gg6
  obtain ⟨gg9, gg10⟩ := and_e gg8
  obtain ⟨gg11, gg12⟩ := and_e gg10
  obtain ⟨w0, w1, w2, w3, w4, w5, rfl⟩ : ∃ w0 w1 w2 w3 w4 w5 : Value, args = #[w0, w1, w2, w3, w4, w5] := by
    have hs : args.size = 6 := by simpa [Cond.value, given_1] using gg1
    obtain ⟨L⟩ := args
    match L, hs with
    | [w0, w1, w2, w3, w4, w5], _ => exact ⟨w0, w1, w2, w3, w4, w5, rfl⟩
  have hw := fun d (hd : d ∈ tables_1) => atoms_spec (ws := Jvm.Cond.code x code maxLocals ret :: tables_1) hat d (List.mem_cons_of_mem _ hd)
  have hfit : Fit s := fun {y c} hc i hi => by
    obtain ⟨ha, rfl⟩ := Array.getElem?_eq_some_iff.mp hc
    have q := List.all_eq_true.mp ((Array.all_eq_true_iff_forall_mem.mp hF) _ (Array.getElem_mem ha)) i (List.mem_range.mpr hi)
    simpa [Array.getElem?_eq_getElem hi] using q
  obtain ⟨hsets, hown0⟩ := atoms_of _ (rest_1_c_eq ▸ (show rest_1_c.before _ s = true from hrest))
  have hr0 := Cond.before_iff.mp hown0
  obtain ⟨i0, ei0⟩ := isL_v gg3
  obtain rfl : w0 = (.long i0) := Option.some.inj ei0
  obtain ⟨i1, ei1⟩ := isL_v gg5
  obtain rfl : w1 = (.long i1) := Option.some.inj ei1
  obtain ⟨i2, ei2⟩ := isL_v gg7
  obtain rfl : w2 = (.long i2) := Option.some.inj ei2
  obtain ⟨i3, ei3⟩ := isL_v gg9
  obtain rfl : w3 = (.long i3) := Option.some.inj ei3
  obtain ⟨i4, ei4⟩ := is_v gg11
  obtain rfl : w4 = (.int i4) := Option.some.inj ei4
  obtain ⟨i5, ei5⟩ := is_v gg12
  obtain rfl : w5 = (.int i5) := Option.some.inj ei5
  obtain ⟨ca, eca⟩ := arr_v (Cond.before_iff.mp (hsets _ (List.mem_of_getElem? (i := 2) rfl)))
  obtain ⟨cc, Ac⟩ := Arr.start eca (Cond.before_iff.mp (hsets _ (List.mem_of_getElem? (i := 2) rfl)))
  have Sc : Sta s s.heap "java/lang/Long$LongCache" "cache" "[Ljava/lang/Long;" (.ref ca) := Sta.start eca (Or.inl (hsets _ (List.mem_of_getElem? (i := 1) rfl)))
  have hat0 := IntBox.arrayAt_of Ac.1 Ac.2.1 Ac.2.2
  obtain ⟨hsz, hsize⟩ := IntBox.length_fwd (hsets _ (List.mem_of_getElem? (i := 4) rfl)) eca Ac.1 Ac.2.1 Ac.2.2
  have h256 : cc.slots.size = 256 := own_256 hsz hsize
  have hall := Cond.all_elim eca hat0 (Cond.before_iff.mp (hsets _ (List.mem_of_getElem? (i := 5) rfl)))
  have Hc : ∀ w : Int64, ¬ w < (-128 : Int64) → ¬ (127 : Int64) < w → ¬ ((w.toInt32 + (128 : Int32)) < 0 ∨ cc.slots.size ≤ (w.toInt32 + (128 : Int32)).toNatClampNeg) ∧ ∃ r : Addr, cc.slots[(w.toInt32 + (128 : Int32)).toNatClampNeg]? = some (.ref r) ∧ Exa s s.heap r "java/lang/Long" := by
    intro w h1 h2
    obtain ⟨q1, q2⟩ := LongBox.place_okL w h1 h2
    have hj := hall _ (by rw [h256]; exact q2)
    obtain ⟨hex, -⟩ := and_e hj
    obtain ⟨r, er⟩ := exa_v hex
    have hnn : ¬ (w.toInt32 + (128 : Int32)) < 0 := fun q => q1 (Or.inl q)
    refine ⟨by rw [h256]; exact q1, r, ?_, exa_at er hex⟩
    have ea : (Term.static "java/lang/Long$LongCache" "cache" "[Ljava/lang/Long;").eval #[(.long i0), (.long i1), (.long i2), (.long i3), (.int i4), (.int i5)] s none [(w.toInt32 + (128 : Int32)).toNatClampNeg] s = some (.ref ca) := eca
    rw [elem_f ea (idx_at hnn) hat0 hnn] at er
    exact er
  obtain ⟨n, o, h1, h2, h3, _, L, rfl, ⟨rfl, N⟩, hq⟩ := rm0 l s _ hw tables_1 i0 i1 i2 i3 i4 i5 ca cc s.heap s.heap.size (Nat.le_refl _) (Old.start s) Sc Ac Hc p e ha hc hk s m _ below hf ((Spec.applies_iff_loose hf).mp happ).1 ⟨rfl, State.Warmed39.refl s, rfl⟩ trivial
  refine ⟨n, _, h1, h2, h3, hpost _ _ _ _ _ _ ⟨Cond.after_iff.mpr rfl, Cond.after_iff.mpr (eq_i res_at (Term.int_eval (1)) rfl), trivial⟩ ⟨hq.1, hq.2.1, (hq.2.2.sift fun y hy => Or.inr (N y hy)).mono (by decide) (by decide)⟩⟩
theorem main_1_1 : Claimed_1_1 := comes_1 fun _ _ _ _ _ _ h hF => ⟨h.1, hF⟩
theorem main_1_2 : Claimed_1_2 := comes_1 fun _ _ _ _ _ _ h hF => ⟨h.2.1, hF⟩
end Jvm.Pilot.@@N@@
namespace Jvm.Pilot.@@N@@
open Jvm Jvm.ClassFile Sem Op Lib Jvm.Free Jvm.Stand Jvm.Pilot.@@N@@.Jvm.D
/-! MADE BY PROGRAM (witnessworld.py) out of the Statement's table words and the real class files: 17 classes; the members and pool entries that the words name. The judged class is class 1, her method 1. -/
namespace start1
open Jvm.ClassFile
def u (s : String) : CpInfo := .utf8 (stringToUtf16 s)
/-- a pool by its gaps: so many unusable entries, then the entry; so many at the end -/
def gap : Nat → List CpInfo → List CpInfo
  | 0, r => r
  | n + 1, r => .unusable :: gap n r
def poolList (es : List (Nat × CpInfo)) (last : Nat) : List CpInfo := es.foldr (fun e r => gap e.1 (e.2 :: r)) (gap last [])
def pool (es : List (Nat × CpInfo)) (last : Nat) : Array CpInfo := ⟨poolList es last⟩
def fileOf (pool : Array CpInfo) (this : Nat) (attrs : Array Attribute := #[]) (ms : Array MethodInfo := #[]) (fl : Nat := 33) (sup : Nat := 0) (ifs : Array Nat := #[]) (fds : Array FieldInfo := #[]) : ClassFile where
  minorVersion := 0
  majorVersion := 65
  constantPool := pool
  accessFlags := fl
  thisClass := this
  superClass := sup
  interfaces := ifs
  fields := fds
  methods := ms
  attributes := attrs
def plain (name : String) (sup : Option ClassId) : Class where
  name := name
  kind := .ordinary
  loader := none
  accessFlags := 33
  super := sup
  interfaces := #[]
  cf := none
  fields := #[]
  methods := #[]
  instanceTypes := #[]
  staticTypes := #[]
  resolved := #[]
  callSites := []
  init := .initialized
  statics := none
  mirror := none

def pool0 : Array CpInfo := pool [(5, u "<init>"), (0, u "()V"), (1, .class_ 10), (1, u "java/lang/Object")] 113

def k0c0 : Code := { maxStack := 0, maxLocals := 1, code := object_method_1_code, exceptionTable := #[], attributes := #[] }
def k0m0 : Method := { name := "<init>", desc := "()V", sig := { parameters := [], returnType := none }, accessFlags := 1, code := some k0c0 }
/-- java/lang/Object -/
def k0 : Class := { plain "java/lang/Object" none with
  accessFlags := 33
  interfaces := #[]
  cf := some (fileOf pool0 8 #[] #[{ accessFlags := 1, nameIndex := 5, descriptorIndex := 6, attributes := #[] }] 33 0 #[] #[])
  fields := #[]
  methods := #[k0m0]
  instanceTypes := #[]
  staticTypes := #[]
  resolved := Array.replicate 124 none
  statics := none }

def pool1 : Array CpInfo := pool [(2, .class_ 4), (1, u "java/lang/Object"), (0, u "<init>"), (0, u "()V"), (0, .class_ 8), (0, u "com/example/copyleaf/copyleaf/format/ChunkRef"), (0, .methodref 7 10), (0, .nameAndType 5 11), (0, u "(JJJZ)V"), (0, .methodref 13 14), (0, .class_ 15), (0, .nameAndType 16 17), (0, u "java/lang/Long"), (0, u "valueOf"), (0, u "(J)Ljava/lang/Long;"), (0, .methodref 7 19), (0, .nameAndType 20 21), (0, u "equals"), (0, u "(Ljava/lang/Object;)Z"), (0, .class_ 23), (0, u "com/example/copyleaf/copyleaf/format/ChunkRefEqualsPinLaw"), (2, u "law"), (0, u "(JJJJII)Z")] 3

def k1m0 : Method := { name := "<init>", desc := "()V", sig := { parameters := [], returnType := none }, accessFlags := 1, code := none }
def k1c1 : Code := { maxStack := 9, maxLocals := 27, code := code, exceptionTable := #[], attributes := #[] }
def k1m1 : Method := { name := "law", desc := "(JJJJII)Z", sig := { parameters := [.long, .long, .long, .long, .int, .int], returnType := some .boolean }, accessFlags := 9, code := some k1c1 }
/-- com/example/copyleaf/copyleaf/format/ChunkRefEqualsPinLaw -/
def k1 : Class := { plain "com/example/copyleaf/copyleaf/format/ChunkRefEqualsPinLaw" (some 0) with
  accessFlags := 49
  interfaces := #[]
  cf := some (fileOf pool1 22 #[] #[{ accessFlags := 1, nameIndex := 5, descriptorIndex := 6, attributes := #[] }, { accessFlags := 9, nameIndex := 26, descriptorIndex := 27, attributes := #[] }] 49 2 #[] #[])
  fields := #[]
  methods := #[k1m0, k1m1]
  instanceTypes := #[]
  staticTypes := #[]
  resolved := Array.replicate 31 none
  statics := none }

def pool2 : Array CpInfo := pool [(1, .methodref 2 3), (0, .class_ 4), (0, .nameAndType 5 6), (0, u "java/lang/Object"), (0, u "<init>"), (0, u "()V"), (0, .class_ 8), (0, u "java/lang/Record")] 13

def k2c0 : Code := { maxStack := 1, maxLocals := 1, code := jdk_30_method_1_code, exceptionTable := #[], attributes := #[] }
def k2m0 : Method := { name := "<init>", desc := "()V", sig := { parameters := [], returnType := none }, accessFlags := 4, code := some k2c0 }
/-- java/lang/Record -/
def k2 : Class := { plain "java/lang/Record" (some 0) with
  accessFlags := 1057
  interfaces := #[]
  cf := some (fileOf pool2 7 #[] #[{ accessFlags := 4, nameIndex := 5, descriptorIndex := 6, attributes := #[] }] 1057 2 #[] #[])
  fields := #[]
  methods := #[k2m0]
  instanceTypes := #[]
  staticTypes := #[]
  resolved := Array.replicate 22 none
  statics := none }

def pool3 : Array CpInfo := pool [(1, .methodref 2 3), (0, .class_ 4), (0, .nameAndType 5 6), (0, u "java/lang/Record"), (0, u "<init>"), (0, u "()V"), (0, .fieldref 8 9), (0, .class_ 10), (0, .nameAndType 11 12), (0, u "com/example/copyleaf/copyleaf/format/ChunkRef"), (0, u "version"), (0, u "J"), (0, .fieldref 8 14), (0, .nameAndType 15 12), (0, u "position"), (0, .fieldref 8 17), (0, .nameAndType 18 12), (0, u "length"), (0, .fieldref 8 20), (0, .nameAndType 21 22), (0, u "part"), (0, u "Z"), (2, u "(JJJZ)V"), (20, u "NONE"), (0, u "Lcom/example/copyleaf/copyleaf/format/ChunkRef;"), (3, u "equals"), (0, u "(Ljava/lang/Object;)Z")] 29

def k3c0 : Code := { maxStack := 3, maxLocals := 8, code := prog_25_method_2_code, exceptionTable := #[], attributes := #[] }
def k3m0 : Method := { name := "<init>", desc := "(JJJZ)V", sig := { parameters := [.long, .long, .long, .boolean], returnType := none }, accessFlags := 1, code := some k3c0 }
def k3c1 : Code := { maxStack := 4, maxLocals := 3, code := prog_25_method_3_code, exceptionTable := #[], attributes := #[] }
def k3m1 : Method := { name := "equals", desc := "(Ljava/lang/Object;)Z", sig := { parameters := [(.object "java/lang/Object")], returnType := some .boolean }, accessFlags := 1, code := some k3c1 }
/-- com/example/copyleaf/copyleaf/format/ChunkRef -/
def k3 : Class := { plain "com/example/copyleaf/copyleaf/format/ChunkRef" (some 2) with
  accessFlags := 49
  interfaces := #[]
  cf := some (fileOf pool3 8 #[] #[{ accessFlags := 1, nameIndex := 5, descriptorIndex := 25, attributes := #[] }, { accessFlags := 1, nameIndex := 51, descriptorIndex := 52, attributes := #[] }] 49 2 #[] #[{ accessFlags := 18, nameIndex := 11, descriptorIndex := 12, attributes := #[] }, { accessFlags := 18, nameIndex := 15, descriptorIndex := 12, attributes := #[] }, { accessFlags := 18, nameIndex := 18, descriptorIndex := 12, attributes := #[] }, { accessFlags := 18, nameIndex := 21, descriptorIndex := 22, attributes := #[] }, { accessFlags := 25, nameIndex := 46, descriptorIndex := 47, attributes := #[] }])
  fields := #[{ name := "version", type := .long, accessFlags := 18, slot := 0, constantValue := 0 }, { name := "position", type := .long, accessFlags := 18, slot := 1, constantValue := 0 }, { name := "length", type := .long, accessFlags := 18, slot := 2, constantValue := 0 }, { name := "part", type := .boolean, accessFlags := 18, slot := 3, constantValue := 0 }, { name := "NONE", type := (.object "com/example/copyleaf/copyleaf/format/ChunkRef"), accessFlags := 25, slot := 0, constantValue := 0 }]
  methods := #[k3m0, k3m1]
  instanceTypes := #[.long, .long, .long, .boolean]
  staticTypes := #[(.object "com/example/copyleaf/copyleaf/format/ChunkRef")]
  resolved := Array.replicate 82 none
  statics := none }

def pool4 : Array CpInfo := pool [(1, .class_ 2), (0, u "java/io/Serializable"), (0, .class_ 4), (0, u "java/lang/Object")] 2

/-- java/io/Serializable -/
def k4 : Class := { plain "java/io/Serializable" (some 0) with
  accessFlags := 1537
  interfaces := #[]
  cf := some (fileOf pool4 1 #[] #[] 1537 3 #[] #[])
  fields := #[]
  methods := #[]
  instanceTypes := #[]
  staticTypes := #[]
  resolved := Array.replicate 7 none
  statics := none }

def pool5 : Array CpInfo := pool [(1, .methodref 2 3), (0, .class_ 4), (0, .nameAndType 5 6), (0, u "java/lang/Object"), (0, u "<init>"), (0, u "()V"), (1, .class_ 10), (1, u "java/lang/Number"), (2, .class_ 14), (0, u "java/io/Serializable"), (0, u "serialVersionUID"), (0, u "J")] 20

def k5c0 : Code := { maxStack := 1, maxLocals := 1, code := jdk_18_method_1_code, exceptionTable := #[], attributes := #[] }
def k5m0 : Method := { name := "<init>", desc := "()V", sig := { parameters := [], returnType := none }, accessFlags := 1, code := some k5c0 }
/-- java/lang/Number -/
def k5 : Class := { plain "java/lang/Number" (some 0) with
  accessFlags := 1057
  interfaces := #[4]
  cf := some (fileOf pool5 8 #[] #[{ accessFlags := 1, nameIndex := 5, descriptorIndex := 6, attributes := #[] }] 1057 2 #[13] #[{ accessFlags := 26, nameIndex := 15, descriptorIndex := 16, attributes := #[] }])
  fields := #[{ name := "serialVersionUID", type := .long, accessFlags := 26, slot := 0, constantValue := 0 }]
  methods := #[k5m0]
  instanceTypes := #[]
  staticTypes := #[.long]
  resolved := Array.replicate 37 none
  statics := none }

def pool6 : Array CpInfo := pool [(1, .class_ 2), (0, u "java/lang/Comparable"), (0, .class_ 4), (0, u "java/lang/Object")] 7

/-- java/lang/Comparable -/
def k6 : Class := { plain "java/lang/Comparable" (some 0) with
  accessFlags := 1537
  interfaces := #[]
  cf := some (fileOf pool6 1 #[] #[] 1537 3 #[] #[])
  fields := #[]
  methods := #[]
  instanceTypes := #[]
  staticTypes := #[]
  resolved := Array.replicate 12 none
  statics := none }

def pool7 : Array CpInfo := pool [(1, .class_ 2), (0, u "java/lang/constant/Constable"), (0, .class_ 4), (0, u "java/lang/Object")] 6

/-- java/lang/constant/Constable -/
def k7 : Class := { plain "java/lang/constant/Constable" (some 0) with
  accessFlags := 1537
  interfaces := #[]
  cf := some (fileOf pool7 1 #[] #[] 1537 3 #[] #[])
  fields := #[]
  methods := #[]
  instanceTypes := #[]
  staticTypes := #[]
  resolved := Array.replicate 11 none
  statics := none }

def pool8 : Array CpInfo := pool [(1, .class_ 2), (0, u "java/lang/constant/ConstantDesc"), (0, .class_ 4), (0, u "java/lang/Object")] 32

/-- java/lang/constant/ConstantDesc -/
def k8 : Class := { plain "java/lang/constant/ConstantDesc" (some 0) with
  accessFlags := 1537
  interfaces := #[]
  cf := some (fileOf pool8 1 #[] #[] 1537 3 #[] #[])
  fields := #[]
  methods := #[]
  instanceTypes := #[]
  staticTypes := #[]
  resolved := Array.replicate 37 none
  statics := none }

def pool9 : Array CpInfo := pool [(1, .class_ 2), (0, u "java/lang/Long"), (55, .nameAndType 59 60), (0, u "<init>"), (0, u "()V"), (24, u "valueOf"), (143, u "(J)Ljava/lang/Long;"), (0, .long 18446744073709551488), (1, .long 127), (1, .fieldref 235 236), (0, .class_ 237), (0, .nameAndType 238 239), (0, u "java/lang/Long$LongCache"), (0, u "cache"), (0, u "[Ljava/lang/Long;"), (0, .methodref 1 241), (0, .nameAndType 59 242), (0, u "(J)V"), (27, .methodref 271 58), (0, .class_ 272), (0, u "java/lang/Number"), (0, .fieldref 1 274), (0, .nameAndType 275 276), (0, u "value"), (0, u "J"), (84, u "TYPE"), (0, u "Ljava/lang/Class;"), (0, .class_ 364), (0, u "java/lang/Comparable"), (0, .class_ 366), (0, u "java/lang/constant/Constable"), (0, .class_ 368), (0, u "java/lang/constant/ConstantDesc"), (0, u "MIN_VALUE"), (1, u "MAX_VALUE"), (4, u "SIZE"), (0, u "I"), (1, u "BYTES"), (1, u "serialVersionUID")] 142

def k9c0 : Code := { maxStack := 4, maxLocals := 3, code := jdk_35_method_24_code, exceptionTable := #[], attributes := #[] }
def k9m0 : Method := { name := "valueOf", desc := "(J)Ljava/lang/Long;", sig := { parameters := [.long], returnType := some (.object "java/lang/Long") }, accessFlags := 9, code := some k9c0 }
def k9c1 : Code := { maxStack := 3, maxLocals := 3, code := jdk_35_method_26_code, exceptionTable := #[], attributes := #[] }
def k9m1 : Method := { name := "<init>", desc := "(J)V", sig := { parameters := [.long], returnType := none }, accessFlags := 1, code := some k9c1 }
/-- java/lang/Long -/
def k9 : Class := { plain "java/lang/Long" (some 5) with
  accessFlags := 49
  interfaces := #[6, 7, 8]
  cf := some (fileOf pool9 1 #[.nestMembers #[235]] #[{ accessFlags := 9, nameIndex := 85, descriptorIndex := 229, attributes := #[] }, { accessFlags := 1, nameIndex := 59, descriptorIndex := 242, attributes := #[] }] 49 271 #[363, 365, 367] #[{ accessFlags := 25, nameIndex := 369, descriptorIndex := 276, attributes := #[] }, { accessFlags := 25, nameIndex := 371, descriptorIndex := 276, attributes := #[] }, { accessFlags := 25, nameIndex := 361, descriptorIndex := 362, attributes := #[] }, { accessFlags := 18, nameIndex := 275, descriptorIndex := 276, attributes := #[] }, { accessFlags := 25, nameIndex := 376, descriptorIndex := 377, attributes := #[] }, { accessFlags := 25, nameIndex := 379, descriptorIndex := 377, attributes := #[] }, { accessFlags := 26, nameIndex := 381, descriptorIndex := 276, attributes := #[] }])
  fields := #[{ name := "MIN_VALUE", type := .long, accessFlags := 25, slot := 0, constantValue := 0 }, { name := "MAX_VALUE", type := .long, accessFlags := 25, slot := 1, constantValue := 0 }, { name := "TYPE", type := (.object "java/lang/Class"), accessFlags := 25, slot := 2, constantValue := 0 }, { name := "value", type := .long, accessFlags := 18, slot := 0, constantValue := 0 }, { name := "SIZE", type := .int, accessFlags := 25, slot := 3, constantValue := 0 }, { name := "BYTES", type := .int, accessFlags := 25, slot := 4, constantValue := 0 }, { name := "serialVersionUID", type := .long, accessFlags := 26, slot := 5, constantValue := 0 }]
  methods := #[k9m0, k9m1]
  instanceTypes := #[.long]
  staticTypes := #[.long, .long, (.object "java/lang/Class"), .int, .int, .long]
  resolved := Array.replicate 524 none
  statics := none }

def pool10 : Array CpInfo := pool [(2, .class_ 4), (1, u "java/lang/Object"), (0, u "<init>"), (0, u "()V"), (0, .class_ 8), (0, u "java/lang/Long"), (7, .class_ 18), (1, u "java/lang/Long$LongCache"), (0, u "$assertionsDisabled"), (0, u "Z"), (8, u "archivedCache"), (0, u "[Ljava/lang/Long;"), (7, u "cache")] 24

def k10m0 : Method := { name := "<init>", desc := "()V", sig := { parameters := [], returnType := none }, accessFlags := 2, code := none }
/-- java/lang/Long$LongCache -/
def k10 : Class := { plain "java/lang/Long$LongCache" (some 0) with
  accessFlags := 48
  interfaces := #[]
  cf := some (fileOf pool10 16 #[.nestHost 7] #[{ accessFlags := 2, nameIndex := 5, descriptorIndex := 6, attributes := #[] }] 48 2 #[] #[{ accessFlags := 24, nameIndex := 38, descriptorIndex := 30, attributes := #[] }, { accessFlags := 8, nameIndex := 29, descriptorIndex := 30, attributes := #[] }, { accessFlags := 4120, nameIndex := 19, descriptorIndex := 20, attributes := #[] }])
  fields := #[{ name := "cache", type := (.array (.object "java/lang/Long")), accessFlags := 24, slot := 0, constantValue := 0 }, { name := "archivedCache", type := (.array (.object "java/lang/Long")), accessFlags := 8, slot := 1, constantValue := 0 }, { name := "$assertionsDisabled", type := .boolean, accessFlags := 4120, slot := 2, constantValue := 0 }]
  methods := #[k10m0]
  instanceTypes := #[]
  staticTypes := #[(.array (.object "java/lang/Long")), (.array (.object "java/lang/Long")), .boolean]
  resolved := Array.replicate 63 none
  statics := some 0 }

def pool11 : Array CpInfo := pool [(1, u "java/lang/Cloneable"), (0, .class_ 1), (0, u "java/lang/Object"), (0, .class_ 3)] 3

/-- java/lang/Cloneable -/
def k11 : Class := { plain "java/lang/Cloneable" (some 0) with
  accessFlags := 1537
  interfaces := #[]
  cf := some (fileOf pool11 2 #[] #[] 1537 4 #[] #[])
  fields := #[]
  methods := #[]
  instanceTypes := #[]
  staticTypes := #[]
  resolved := Array.replicate 8 none
  statics := none }

/-- the primitive byte -/
def k12 : Class := { plain "byte" none with kind := .primitive 'B', accessFlags := 0x411 }
/-- [B -/
def k13 : Class := { plain "[B" (some 0) with kind := .array 12 .byte, interfaces := #[11, 4], accessFlags := 1041 }

/-- the primitive int -/
def k14 : Class := { plain "int" none with kind := .primitive 'I', accessFlags := 0x411 }
/-- [I -/
def k15 : Class := { plain "[I" (some 0) with kind := .array 14 .int, interfaces := #[11, 4], accessFlags := 1041 }

/-- [Ljava/lang/Long; -/
def k16 : Class := { plain "[Ljava/lang/Long;" (some 0) with kind := .array 9 (.object "java/lang/Long"), interfaces := #[11, 4], accessFlags := 1041 }

def heap : Heap := #[{ cls := 10, slots := #[.ref 1, .null, .int 0], vm := .statics 10 },
  { cls := 16, slots := #[.ref 2, .ref 3, .ref 4, .ref 5, .ref 6, .ref 7, .ref 8, .ref 9, .ref 10, .ref 11, .ref 12, .ref 13, .ref 14, .ref 15, .ref 16, .ref 17, .ref 18, .ref 19, .ref 20, .ref 21, .ref 22, .ref 23, .ref 24, .ref 25, .ref 26, .ref 27, .ref 28, .ref 29, .ref 30, .ref 31, .ref 32, .ref 33, .ref 34, .ref 35, .ref 36, .ref 37, .ref 38, .ref 39, .ref 40, .ref 41, .ref 42, .ref 43, .ref 44, .ref 45, .ref 46, .ref 47, .ref 48, .ref 49, .ref 50, .ref 51, .ref 52, .ref 53, .ref 54, .ref 55, .ref 56, .ref 57, .ref 58, .ref 59, .ref 60, .ref 61, .ref 62, .ref 63, .ref 64, .ref 65, .ref 66, .ref 67, .ref 68, .ref 69, .ref 70, .ref 71, .ref 72, .ref 73, .ref 74, .ref 75, .ref 76, .ref 77, .ref 78, .ref 79, .ref 80, .ref 81, .ref 82, .ref 83, .ref 84, .ref 85, .ref 86, .ref 87, .ref 88, .ref 89, .ref 90, .ref 91, .ref 92, .ref 93, .ref 94, .ref 95, .ref 96, .ref 97, .ref 98, .ref 99, .ref 100, .ref 101, .ref 102, .ref 103, .ref 104, .ref 105, .ref 106, .ref 107, .ref 108, .ref 109, .ref 110, .ref 111, .ref 112, .ref 113, .ref 114, .ref 115, .ref 116, .ref 117, .ref 118, .ref 119, .ref 120, .ref 121, .ref 122, .ref 123, .ref 124, .ref 125, .ref 126, .ref 127, .ref 128, .ref 129, .ref 130, .ref 131, .ref 132, .ref 133, .ref 134, .ref 135, .ref 136, .ref 137, .ref 138, .ref 139, .ref 140, .ref 141, .ref 142, .ref 143, .ref 144, .ref 145, .ref 146, .ref 147, .ref 148, .ref 149, .ref 150, .ref 151, .ref 152, .ref 153, .ref 154, .ref 155, .ref 156, .ref 157, .ref 158, .ref 159, .ref 160, .ref 161, .ref 162, .ref 163, .ref 164, .ref 165, .ref 166, .ref 167, .ref 168, .ref 169, .ref 170, .ref 171, .ref 172, .ref 173, .ref 174, .ref 175, .ref 176, .ref 177, .ref 178, .ref 179, .ref 180, .ref 181, .ref 182, .ref 183, .ref 184, .ref 185, .ref 186, .ref 187, .ref 188, .ref 189, .ref 190, .ref 191, .ref 192, .ref 193, .ref 194, .ref 195, .ref 196, .ref 197, .ref 198, .ref 199, .ref 200, .ref 201, .ref 202, .ref 203, .ref 204, .ref 205, .ref 206, .ref 207, .ref 208, .ref 209, .ref 210, .ref 211, .ref 212, .ref 213, .ref 214, .ref 215, .ref 216, .ref 217, .ref 218, .ref 219, .ref 220, .ref 221, .ref 222, .ref 223, .ref 224, .ref 225, .ref 226, .ref 227, .ref 228, .ref 229, .ref 230, .ref 231, .ref 232, .ref 233, .ref 234, .ref 235, .ref 236, .ref 237, .ref 238, .ref 239, .ref 240, .ref 241, .ref 242, .ref 243, .ref 244, .ref 245, .ref 246, .ref 247, .ref 248, .ref 249, .ref 250, .ref 251, .ref 252, .ref 253, .ref 254, .ref 255, .ref 256, .ref 257], vm := .none },
  { cls := 9, slots := #[.long (-128)], vm := .none },
  { cls := 9, slots := #[.long (-127)], vm := .none },
  { cls := 9, slots := #[.long (-126)], vm := .none },
  { cls := 9, slots := #[.long (-125)], vm := .none },
  { cls := 9, slots := #[.long (-124)], vm := .none },
  { cls := 9, slots := #[.long (-123)], vm := .none },
  { cls := 9, slots := #[.long (-122)], vm := .none },
  { cls := 9, slots := #[.long (-121)], vm := .none },
  { cls := 9, slots := #[.long (-120)], vm := .none },
  { cls := 9, slots := #[.long (-119)], vm := .none },
  { cls := 9, slots := #[.long (-118)], vm := .none },
  { cls := 9, slots := #[.long (-117)], vm := .none },
  { cls := 9, slots := #[.long (-116)], vm := .none },
  { cls := 9, slots := #[.long (-115)], vm := .none },
  { cls := 9, slots := #[.long (-114)], vm := .none },
  { cls := 9, slots := #[.long (-113)], vm := .none },
  { cls := 9, slots := #[.long (-112)], vm := .none },
  { cls := 9, slots := #[.long (-111)], vm := .none },
  { cls := 9, slots := #[.long (-110)], vm := .none },
  { cls := 9, slots := #[.long (-109)], vm := .none },
  { cls := 9, slots := #[.long (-108)], vm := .none },
  { cls := 9, slots := #[.long (-107)], vm := .none },
  { cls := 9, slots := #[.long (-106)], vm := .none },
  { cls := 9, slots := #[.long (-105)], vm := .none },
  { cls := 9, slots := #[.long (-104)], vm := .none },
  { cls := 9, slots := #[.long (-103)], vm := .none },
  { cls := 9, slots := #[.long (-102)], vm := .none },
  { cls := 9, slots := #[.long (-101)], vm := .none },
  { cls := 9, slots := #[.long (-100)], vm := .none },
  { cls := 9, slots := #[.long (-99)], vm := .none },
  { cls := 9, slots := #[.long (-98)], vm := .none },
  { cls := 9, slots := #[.long (-97)], vm := .none },
  { cls := 9, slots := #[.long (-96)], vm := .none },
  { cls := 9, slots := #[.long (-95)], vm := .none },
  { cls := 9, slots := #[.long (-94)], vm := .none },
  { cls := 9, slots := #[.long (-93)], vm := .none },
  { cls := 9, slots := #[.long (-92)], vm := .none },
  { cls := 9, slots := #[.long (-91)], vm := .none },
  { cls := 9, slots := #[.long (-90)], vm := .none },
  { cls := 9, slots := #[.long (-89)], vm := .none },
  { cls := 9, slots := #[.long (-88)], vm := .none },
  { cls := 9, slots := #[.long (-87)], vm := .none },
  { cls := 9, slots := #[.long (-86)], vm := .none },
  { cls := 9, slots := #[.long (-85)], vm := .none },
  { cls := 9, slots := #[.long (-84)], vm := .none },
  { cls := 9, slots := #[.long (-83)], vm := .none },
  { cls := 9, slots := #[.long (-82)], vm := .none },
  { cls := 9, slots := #[.long (-81)], vm := .none },
  { cls := 9, slots := #[.long (-80)], vm := .none },
  { cls := 9, slots := #[.long (-79)], vm := .none },
  { cls := 9, slots := #[.long (-78)], vm := .none },
  { cls := 9, slots := #[.long (-77)], vm := .none },
  { cls := 9, slots := #[.long (-76)], vm := .none },
  { cls := 9, slots := #[.long (-75)], vm := .none },
  { cls := 9, slots := #[.long (-74)], vm := .none },
  { cls := 9, slots := #[.long (-73)], vm := .none },
  { cls := 9, slots := #[.long (-72)], vm := .none },
  { cls := 9, slots := #[.long (-71)], vm := .none },
  { cls := 9, slots := #[.long (-70)], vm := .none },
  { cls := 9, slots := #[.long (-69)], vm := .none },
  { cls := 9, slots := #[.long (-68)], vm := .none },
  { cls := 9, slots := #[.long (-67)], vm := .none },
  { cls := 9, slots := #[.long (-66)], vm := .none },
  { cls := 9, slots := #[.long (-65)], vm := .none },
  { cls := 9, slots := #[.long (-64)], vm := .none },
  { cls := 9, slots := #[.long (-63)], vm := .none },
  { cls := 9, slots := #[.long (-62)], vm := .none },
  { cls := 9, slots := #[.long (-61)], vm := .none },
  { cls := 9, slots := #[.long (-60)], vm := .none },
  { cls := 9, slots := #[.long (-59)], vm := .none },
  { cls := 9, slots := #[.long (-58)], vm := .none },
  { cls := 9, slots := #[.long (-57)], vm := .none },
  { cls := 9, slots := #[.long (-56)], vm := .none },
  { cls := 9, slots := #[.long (-55)], vm := .none },
  { cls := 9, slots := #[.long (-54)], vm := .none },
  { cls := 9, slots := #[.long (-53)], vm := .none },
  { cls := 9, slots := #[.long (-52)], vm := .none },
  { cls := 9, slots := #[.long (-51)], vm := .none },
  { cls := 9, slots := #[.long (-50)], vm := .none },
  { cls := 9, slots := #[.long (-49)], vm := .none },
  { cls := 9, slots := #[.long (-48)], vm := .none },
  { cls := 9, slots := #[.long (-47)], vm := .none },
  { cls := 9, slots := #[.long (-46)], vm := .none },
  { cls := 9, slots := #[.long (-45)], vm := .none },
  { cls := 9, slots := #[.long (-44)], vm := .none },
  { cls := 9, slots := #[.long (-43)], vm := .none },
  { cls := 9, slots := #[.long (-42)], vm := .none },
  { cls := 9, slots := #[.long (-41)], vm := .none },
  { cls := 9, slots := #[.long (-40)], vm := .none },
  { cls := 9, slots := #[.long (-39)], vm := .none },
  { cls := 9, slots := #[.long (-38)], vm := .none },
  { cls := 9, slots := #[.long (-37)], vm := .none },
  { cls := 9, slots := #[.long (-36)], vm := .none },
  { cls := 9, slots := #[.long (-35)], vm := .none },
  { cls := 9, slots := #[.long (-34)], vm := .none },
  { cls := 9, slots := #[.long (-33)], vm := .none },
  { cls := 9, slots := #[.long (-32)], vm := .none },
  { cls := 9, slots := #[.long (-31)], vm := .none },
  { cls := 9, slots := #[.long (-30)], vm := .none },
  { cls := 9, slots := #[.long (-29)], vm := .none },
  { cls := 9, slots := #[.long (-28)], vm := .none },
  { cls := 9, slots := #[.long (-27)], vm := .none },
  { cls := 9, slots := #[.long (-26)], vm := .none },
  { cls := 9, slots := #[.long (-25)], vm := .none },
  { cls := 9, slots := #[.long (-24)], vm := .none },
  { cls := 9, slots := #[.long (-23)], vm := .none },
  { cls := 9, slots := #[.long (-22)], vm := .none },
  { cls := 9, slots := #[.long (-21)], vm := .none },
  { cls := 9, slots := #[.long (-20)], vm := .none },
  { cls := 9, slots := #[.long (-19)], vm := .none },
  { cls := 9, slots := #[.long (-18)], vm := .none },
  { cls := 9, slots := #[.long (-17)], vm := .none },
  { cls := 9, slots := #[.long (-16)], vm := .none },
  { cls := 9, slots := #[.long (-15)], vm := .none },
  { cls := 9, slots := #[.long (-14)], vm := .none },
  { cls := 9, slots := #[.long (-13)], vm := .none },
  { cls := 9, slots := #[.long (-12)], vm := .none },
  { cls := 9, slots := #[.long (-11)], vm := .none },
  { cls := 9, slots := #[.long (-10)], vm := .none },
  { cls := 9, slots := #[.long (-9)], vm := .none },
  { cls := 9, slots := #[.long (-8)], vm := .none },
  { cls := 9, slots := #[.long (-7)], vm := .none },
  { cls := 9, slots := #[.long (-6)], vm := .none },
  { cls := 9, slots := #[.long (-5)], vm := .none },
  { cls := 9, slots := #[.long (-4)], vm := .none },
  { cls := 9, slots := #[.long (-3)], vm := .none },
  { cls := 9, slots := #[.long (-2)], vm := .none },
  { cls := 9, slots := #[.long (-1)], vm := .none },
  { cls := 9, slots := #[.long (0)], vm := .none },
  { cls := 9, slots := #[.long (1)], vm := .none },
  { cls := 9, slots := #[.long (2)], vm := .none },
  { cls := 9, slots := #[.long (3)], vm := .none },
  { cls := 9, slots := #[.long (4)], vm := .none },
  { cls := 9, slots := #[.long (5)], vm := .none },
  { cls := 9, slots := #[.long (6)], vm := .none },
  { cls := 9, slots := #[.long (7)], vm := .none },
  { cls := 9, slots := #[.long (8)], vm := .none },
  { cls := 9, slots := #[.long (9)], vm := .none },
  { cls := 9, slots := #[.long (10)], vm := .none },
  { cls := 9, slots := #[.long (11)], vm := .none },
  { cls := 9, slots := #[.long (12)], vm := .none },
  { cls := 9, slots := #[.long (13)], vm := .none },
  { cls := 9, slots := #[.long (14)], vm := .none },
  { cls := 9, slots := #[.long (15)], vm := .none },
  { cls := 9, slots := #[.long (16)], vm := .none },
  { cls := 9, slots := #[.long (17)], vm := .none },
  { cls := 9, slots := #[.long (18)], vm := .none },
  { cls := 9, slots := #[.long (19)], vm := .none },
  { cls := 9, slots := #[.long (20)], vm := .none },
  { cls := 9, slots := #[.long (21)], vm := .none },
  { cls := 9, slots := #[.long (22)], vm := .none },
  { cls := 9, slots := #[.long (23)], vm := .none },
  { cls := 9, slots := #[.long (24)], vm := .none },
  { cls := 9, slots := #[.long (25)], vm := .none },
  { cls := 9, slots := #[.long (26)], vm := .none },
  { cls := 9, slots := #[.long (27)], vm := .none },
  { cls := 9, slots := #[.long (28)], vm := .none },
  { cls := 9, slots := #[.long (29)], vm := .none },
  { cls := 9, slots := #[.long (30)], vm := .none },
  { cls := 9, slots := #[.long (31)], vm := .none },
  { cls := 9, slots := #[.long (32)], vm := .none },
  { cls := 9, slots := #[.long (33)], vm := .none },
  { cls := 9, slots := #[.long (34)], vm := .none },
  { cls := 9, slots := #[.long (35)], vm := .none },
  { cls := 9, slots := #[.long (36)], vm := .none },
  { cls := 9, slots := #[.long (37)], vm := .none },
  { cls := 9, slots := #[.long (38)], vm := .none },
  { cls := 9, slots := #[.long (39)], vm := .none },
  { cls := 9, slots := #[.long (40)], vm := .none },
  { cls := 9, slots := #[.long (41)], vm := .none },
  { cls := 9, slots := #[.long (42)], vm := .none },
  { cls := 9, slots := #[.long (43)], vm := .none },
  { cls := 9, slots := #[.long (44)], vm := .none },
  { cls := 9, slots := #[.long (45)], vm := .none },
  { cls := 9, slots := #[.long (46)], vm := .none },
  { cls := 9, slots := #[.long (47)], vm := .none },
  { cls := 9, slots := #[.long (48)], vm := .none },
  { cls := 9, slots := #[.long (49)], vm := .none },
  { cls := 9, slots := #[.long (50)], vm := .none },
  { cls := 9, slots := #[.long (51)], vm := .none },
  { cls := 9, slots := #[.long (52)], vm := .none },
  { cls := 9, slots := #[.long (53)], vm := .none },
  { cls := 9, slots := #[.long (54)], vm := .none },
  { cls := 9, slots := #[.long (55)], vm := .none },
  { cls := 9, slots := #[.long (56)], vm := .none },
  { cls := 9, slots := #[.long (57)], vm := .none },
  { cls := 9, slots := #[.long (58)], vm := .none },
  { cls := 9, slots := #[.long (59)], vm := .none },
  { cls := 9, slots := #[.long (60)], vm := .none },
  { cls := 9, slots := #[.long (61)], vm := .none },
  { cls := 9, slots := #[.long (62)], vm := .none },
  { cls := 9, slots := #[.long (63)], vm := .none },
  { cls := 9, slots := #[.long (64)], vm := .none },
  { cls := 9, slots := #[.long (65)], vm := .none },
  { cls := 9, slots := #[.long (66)], vm := .none },
  { cls := 9, slots := #[.long (67)], vm := .none },
  { cls := 9, slots := #[.long (68)], vm := .none },
  { cls := 9, slots := #[.long (69)], vm := .none },
  { cls := 9, slots := #[.long (70)], vm := .none },
  { cls := 9, slots := #[.long (71)], vm := .none },
  { cls := 9, slots := #[.long (72)], vm := .none },
  { cls := 9, slots := #[.long (73)], vm := .none },
  { cls := 9, slots := #[.long (74)], vm := .none },
  { cls := 9, slots := #[.long (75)], vm := .none },
  { cls := 9, slots := #[.long (76)], vm := .none },
  { cls := 9, slots := #[.long (77)], vm := .none },
  { cls := 9, slots := #[.long (78)], vm := .none },
  { cls := 9, slots := #[.long (79)], vm := .none },
  { cls := 9, slots := #[.long (80)], vm := .none },
  { cls := 9, slots := #[.long (81)], vm := .none },
  { cls := 9, slots := #[.long (82)], vm := .none },
  { cls := 9, slots := #[.long (83)], vm := .none },
  { cls := 9, slots := #[.long (84)], vm := .none },
  { cls := 9, slots := #[.long (85)], vm := .none },
  { cls := 9, slots := #[.long (86)], vm := .none },
  { cls := 9, slots := #[.long (87)], vm := .none },
  { cls := 9, slots := #[.long (88)], vm := .none },
  { cls := 9, slots := #[.long (89)], vm := .none },
  { cls := 9, slots := #[.long (90)], vm := .none },
  { cls := 9, slots := #[.long (91)], vm := .none },
  { cls := 9, slots := #[.long (92)], vm := .none },
  { cls := 9, slots := #[.long (93)], vm := .none },
  { cls := 9, slots := #[.long (94)], vm := .none },
  { cls := 9, slots := #[.long (95)], vm := .none },
  { cls := 9, slots := #[.long (96)], vm := .none },
  { cls := 9, slots := #[.long (97)], vm := .none },
  { cls := 9, slots := #[.long (98)], vm := .none },
  { cls := 9, slots := #[.long (99)], vm := .none },
  { cls := 9, slots := #[.long (100)], vm := .none },
  { cls := 9, slots := #[.long (101)], vm := .none },
  { cls := 9, slots := #[.long (102)], vm := .none },
  { cls := 9, slots := #[.long (103)], vm := .none },
  { cls := 9, slots := #[.long (104)], vm := .none },
  { cls := 9, slots := #[.long (105)], vm := .none },
  { cls := 9, slots := #[.long (106)], vm := .none },
  { cls := 9, slots := #[.long (107)], vm := .none },
  { cls := 9, slots := #[.long (108)], vm := .none },
  { cls := 9, slots := #[.long (109)], vm := .none },
  { cls := 9, slots := #[.long (110)], vm := .none },
  { cls := 9, slots := #[.long (111)], vm := .none },
  { cls := 9, slots := #[.long (112)], vm := .none },
  { cls := 9, slots := #[.long (113)], vm := .none },
  { cls := 9, slots := #[.long (114)], vm := .none },
  { cls := 9, slots := #[.long (115)], vm := .none },
  { cls := 9, slots := #[.long (116)], vm := .none },
  { cls := 9, slots := #[.long (117)], vm := .none },
  { cls := 9, slots := #[.long (118)], vm := .none },
  { cls := 9, slots := #[.long (119)], vm := .none },
  { cls := 9, slots := #[.long (120)], vm := .none },
  { cls := 9, slots := #[.long (121)], vm := .none },
  { cls := 9, slots := #[.long (122)], vm := .none },
  { cls := 9, slots := #[.long (123)], vm := .none },
  { cls := 9, slots := #[.long (124)], vm := .none },
  { cls := 9, slots := #[.long (125)], vm := .none },
  { cls := 9, slots := #[.long (126)], vm := .none },
  { cls := 9, slots := #[.long (127)], vm := .none }]
def classes : Array Class := #[k0, k1, k2, k3, k4, k5, k6, k7, k8, k9, k10, k11, k12, k13, k14, k15, k16]
def interned : List (Array UInt16 × Addr) := []
def slotsUsed : Nat := 515
def theMethod : MethodId := ⟨1, 1⟩
def args0 : Array Value := #[.long 5, .long 6, .long 7, .long 8, .int 1, .int 2]
def aboutOver (below : List Frame) : State where
  vm := { classes := classes, interned := interned.toArray }
  heap := heap
  slotsUsed := slotsUsed
  threads := #[{ frames := .invoking theMethod args0 :: below }]
def below0 : List Frame := [.native { method := ⟨0, 0⟩, args := #[] }]
def about1 : State := aboutOver below0
def p0 : Program := .bare "" "" ""
def e0 : Env := launch0.env 0 0 0
theorem w_frames : about1.frames = Frame.invoking theMethod args0 :: below0 := rfl
set_option maxRecDepth 65536 in
theorem w_args : argsFit about1.vm theMethod args0 = true := by decide +kernel
set_option maxRecDepth 65536 in
theorem w_heap : heapFits about1 = true := by decide +kernel
set_option maxRecDepth 65536 in
theorem w_runnable : about1.curStatus? = some .runnable := by decide +kernel
set_option maxRecDepth 65536 in
theorem w_alone : about1.alone = true := by decide +kernel
set_option maxRecDepth 65536 in
theorem w_named : about1.methodNamed? x = some theMethod := by decide +kernel
set_option maxRecDepth 65536 in
theorem w_hears : about1.hears theMethod below0 = true := by decide +kernel
set_option maxRecDepth 65536 in
theorem w_ripe : about1.ripe theMethod args0 below0 = true := by decide +kernel
theorem w_running : about1.status = .running := rfl
set_option maxRecDepth 65536 in
theorem w_room : about1.hasRoom e0.platform room_1 = true :=
  launch0.hasRoom_least _ room_1 (by decide +kernel) (by decide +kernel) (by decide +kernel) (by decide +kernel) (by decide +kernel) (by decide +kernel)
theorem allAtoms_all (ts : List Jvm.Cond) (a : Array Jvm.Value) (st : Jvm.State) : (allAtoms ts).before a st = ts.all (fun c => c.before a st) := by
  induction ts with
  | nil => rfl
  | cons c t ih =>
    show (Jvm.Cond.and c (allAtoms t)).before a st = _
    rw [Jvm.Cond.before_and, ih, List.all_cons]
def words1 : List Jvm.Cond := Jvm.Cond.code x code maxLocals ret :: tables_1
/-- a 'code' word, met by the world's own term for the bytes: nothing is compared byte by byte -/
theorem code_word {y : MethodName} {bytes : ByteArray} {mx : Nat} {rt : Option FieldType} {a : Array Value} {s : State} {m : MethodId} {meth : Method} {c : Code} (h1 : s.methodNamed? y = some m) (h2 : s.vm.method? m = some meth) (h3 : meth.code = some c) (h4 : c.code = bytes)
    (h5 : (c.maxLocals == mx && c.exceptionTable.isEmpty && decide (c.maxStack ≤ mostOperands) && decide (meth.sig.returnType = rt) && !meth.locks && decide (parseMethodDescriptor y.desc = some meth.sig)) = true) : (Jvm.Cond.code y bytes mx rt).before a s = true := by
  simp only [Bool.and_eq_true, beq_iff_eq, Bool.not_eq_true', decide_eq_true_eq] at h5
  obtain ⟨⟨⟨⟨⟨g1, g2⟩, g3⟩, g4⟩, g5⟩, g6⟩ := h5
  simp [Cond.before, Cond.holds, Cond.value, h1, h2, h3, h4, g1, g2, g3, g4, g5, g6]
def isCode : Jvm.Cond → Bool
  | .code _ _ _ _ => true
  | _ => false
theorem all_split {L : List Jvm.Cond} {P : Jvm.Cond → Bool} (h1 : L.all (fun c => isCode c || P c) = true) (h2 : ∀ c ∈ L.filter isCode, P c = true) : L.all P = true := by
  refine List.all_eq_true.mpr fun c hc => ?_
  have h := List.all_eq_true.mp h1 c hc
  rcases Bool.eq_false_or_eq_true (isCode c) with hi | hi
  · exact h2 c (List.mem_filter.mpr ⟨hc, hi⟩)
  · simpa [hi] using h
set_option maxRecDepth 65536 in
theorem w_c0 : (Jvm.Cond.code x code maxLocals ret).before args0 about1 = true := code_word (m := ⟨1, 1⟩) (meth := k1m1) (c := k1c1) (by decide +kernel) rfl rfl rfl (by decide +kernel)
set_option maxRecDepth 65536 in
theorem w_c1 : (Jvm.Cond.code ({ cls := "com/example/copyleaf/copyleaf/format/ChunkRef", name := "<init>", desc := "(JJJZ)V" } : Jvm.MethodName) prog_25_method_2_code (8 : Nat) (Option.none : Option Jvm.ClassFile.FieldType)).before args0 about1 = true := code_word (m := ⟨3, 0⟩) (meth := k3m0) (c := k3c0) (by decide +kernel) rfl rfl rfl (by decide +kernel)
set_option maxRecDepth 65536 in
theorem w_c2 : (Jvm.Cond.code ({ cls := "java/lang/Record", name := "<init>", desc := "()V" } : Jvm.MethodName) jdk_30_method_1_code (1 : Nat) (Option.none : Option Jvm.ClassFile.FieldType)).before args0 about1 = true := code_word (m := ⟨2, 0⟩) (meth := k2m0) (c := k2c0) (by decide +kernel) rfl rfl rfl (by decide +kernel)
set_option maxRecDepth 65536 in
theorem w_c3 : (Jvm.Cond.code ({ cls := "java/lang/Object", name := "<init>", desc := "()V" } : Jvm.MethodName) object_method_1_code (1 : Nat) (Option.none : Option Jvm.ClassFile.FieldType)).before args0 about1 = true := code_word (m := ⟨0, 0⟩) (meth := k0m0) (c := k0c0) (by decide +kernel) rfl rfl rfl (by decide +kernel)
set_option maxRecDepth 65536 in
theorem w_c4 : (Jvm.Cond.code ({ cls := "java/lang/Long", name := "valueOf", desc := "(J)Ljava/lang/Long;" } : Jvm.MethodName) jdk_35_method_24_code (3 : Nat) (Option.some (Jvm.ClassFile.FieldType.object "java/lang/Long"))).before args0 about1 = true := code_word (m := ⟨9, 0⟩) (meth := k9m0) (c := k9c0) (by decide +kernel) rfl rfl rfl (by decide +kernel)
set_option maxRecDepth 65536 in
theorem w_c5 : (Jvm.Cond.code ({ cls := "com/example/copyleaf/copyleaf/format/ChunkRef", name := "equals", desc := "(Ljava/lang/Object;)Z" } : Jvm.MethodName) prog_25_method_3_code (3 : Nat) (Option.some Jvm.ClassFile.FieldType.boolean)).before args0 about1 = true := code_word (m := ⟨3, 1⟩) (meth := k3m1) (c := k3c1) (by decide +kernel) rfl rfl rfl (by decide +kernel)
set_option maxRecDepth 65536 in
theorem w_c6 : (Jvm.Cond.code ({ cls := "java/lang/Long", name := "<init>", desc := "(J)V" } : Jvm.MethodName) jdk_35_method_26_code (3 : Nat) (Option.none : Option Jvm.ClassFile.FieldType)).before args0 about1 = true := code_word (m := ⟨9, 1⟩) (meth := k9m1) (c := k9c1) (by decide +kernel) rfl rfl rfl (by decide +kernel)
set_option maxRecDepth 65536 in
theorem w_c7 : (Jvm.Cond.code ({ cls := "java/lang/Number", name := "<init>", desc := "()V" } : Jvm.MethodName) jdk_18_method_1_code (1 : Nat) (Option.none : Option Jvm.ClassFile.FieldType)).before args0 about1 = true := code_word (m := ⟨5, 0⟩) (meth := k5m0) (c := k5c0) (by decide +kernel) rfl rfl rfl (by decide +kernel)
def codes1 : List Jvm.Cond := [Jvm.Cond.code x code maxLocals ret, Jvm.Cond.code ({ cls := "com/example/copyleaf/copyleaf/format/ChunkRef", name := "<init>", desc := "(JJJZ)V" } : Jvm.MethodName) prog_25_method_2_code (8 : Nat) (Option.none : Option Jvm.ClassFile.FieldType), Jvm.Cond.code ({ cls := "java/lang/Record", name := "<init>", desc := "()V" } : Jvm.MethodName) jdk_30_method_1_code (1 : Nat) (Option.none : Option Jvm.ClassFile.FieldType), Jvm.Cond.code ({ cls := "java/lang/Object", name := "<init>", desc := "()V" } : Jvm.MethodName) object_method_1_code (1 : Nat) (Option.none : Option Jvm.ClassFile.FieldType), Jvm.Cond.code ({ cls := "java/lang/Long", name := "valueOf", desc := "(J)Ljava/lang/Long;" } : Jvm.MethodName) jdk_35_method_24_code (3 : Nat) (Option.some (Jvm.ClassFile.FieldType.object "java/lang/Long")), Jvm.Cond.code ({ cls := "com/example/copyleaf/copyleaf/format/ChunkRef", name := "equals", desc := "(Ljava/lang/Object;)Z" } : Jvm.MethodName) prog_25_method_3_code (3 : Nat) (Option.some Jvm.ClassFile.FieldType.boolean), Jvm.Cond.code ({ cls := "java/lang/Long", name := "<init>", desc := "(J)V" } : Jvm.MethodName) jdk_35_method_26_code (3 : Nat) (Option.none : Option Jvm.ClassFile.FieldType), Jvm.Cond.code ({ cls := "java/lang/Number", name := "<init>", desc := "()V" } : Jvm.MethodName) jdk_18_method_1_code (1 : Nat) (Option.none : Option Jvm.ClassFile.FieldType)]
set_option maxRecDepth 65536 in
theorem codes_eq : words1.filter isCode = codes1 := rfl
theorem w_codes : ∀ c ∈ words1.filter isCode, c.before args0 about1 = true := by
  rw [codes_eq]
  intro c hc
  simp only [codes1, List.mem_cons, List.not_mem_nil, or_false] at hc
  rcases hc with rfl | rfl | rfl | rfl | rfl | rfl | rfl | rfl
  · exact w_c0
  · exact w_c1
  · exact w_c2
  · exact w_c3
  · exact w_c4
  · exact w_c5
  · exact w_c6
  · exact w_c7
set_option maxRecDepth 65536 in
theorem w_t1 : (words1.take 24).all (fun c => isCode c || c.before args0 about1) = true := by decide +kernel
set_option maxRecDepth 65536 in
theorem w_t2 : ((words1.drop 24).take 24).all (fun c => isCode c || c.before args0 about1) = true := by decide +kernel
set_option maxRecDepth 65536 in
theorem w_t3 : ((words1.drop 24).drop 24).all (fun c => isCode c || c.before args0 about1) = true := by decide +kernel
theorem w_tables : (allAtoms (Jvm.Cond.code x code maxLocals ret :: tables_1)).before args0 about1 = true := by
  rw [allAtoms_all]
  show words1.all (fun c => c.before args0 about1) = true
  refine all_split ?_ w_codes
  rw [← List.take_append_drop 24 words1, List.all_append, w_t1, ← List.take_append_drop 24 (words1.drop 24), List.all_append, w_t2, w_t3]
  rfl
set_option maxRecDepth 65536 in
theorem w_rest : rest_1_c.before args0 about1 = true := by decide +kernel
set_option maxRecDepth 65536 in
theorem w_case : (Jvm.Cond.and given_1 narrow_1).before args0 about1 = true := by decide +kernel
theorem w_applies : (headSpec (Jvm.Cond.code x code maxLocals ret :: tables_1) room_1).applies x e0.platform about1 = true :=
  (Spec.applies_iff w_frames).mpr ⟨w_running, w_runnable, w_alone, w_named, w_hears, w_ripe, w_room, w_tables⟩
theorem atStart : AtStart classFile x code maxLocals ret World_1 tables_1 room_1 Calls_1 rest_1 Pre_1 launch0 p0 e0 about1 theMethod args0 below0 :=
  ⟨lists_1, trivial, launch0.admits_env _ _ _, launch0.least_env, fairChoices_fair.cas, fairChoices_fair.clock, w_frames, w_args, w_heap, w_applies, trivial, w_rest, w_case⟩
end start1
theorem witness_1 : WitnessClaimed_1 := ⟨start1.p0, start1.e0, start1.about1, start1.theMethod, start1.args0, start1.below0, start1.atStart⟩
end Jvm.Pilot.@@N@@
