import JvmDerived
import JvmDerived.Pilot.@@N@@Statement
import JvmDerived.Pilot.@@N@@Code
set_option linter.unusedVariables false
set_option linter.unusedSimpArgs false
namespace Jvm.RoadKit
open Sem ClassFile Op Lib Jvm.Stand Jvm.Free Jvm.LawKit
section New
variable {p : Program} {l : Launch} {e : Env} {R : Room} {s : State} {m : MethodId} {args : Array Value} {below : List Frame} {meth : Method} {c : Code} {T : State} {locs : List Loc} {cells slots : Nat}
theorem retI (X : Stand p l e R s m args below meth c T locs cells slots) (hx : p.tables.exec = Jvm.exec) {pc : Nat} {Ls : Array Slot} {z : Int32} {rest : List Value} (hret : meth.sig.returnType = some .int) (hd : decode c.code pc = .ok (.ireturn, 1)) {fs : List Frame}
    (hl : ∀ (f : JFrame) (acts : List Action), f.method = m → f.locked = none → f.entered = [] → (doReturn e (T.setTop f) acts (some (.int z))).1 = T.setFrames fs) : Steps p.tables e below (T.setTop (mkF m pc Ls (.int z :: rest))) (T.setFrames fs) := by
  have hm' : T.vm.method? m = some meth := X.method'
  have hn : narrow .int (.int z) = .int z := rfl
  show Steps p.tables e below (T.setTop { method := m, pc := pc, locals := Ls, stack := _ :: rest, locked := none }) _
  jvm_step X.here [X.here.top, hx, hd, hm', hret, hn]
  first | (intro acts; rw [hl _ acts rfl rfl rfl]) | rw [hl _ _ rfl rfl rfl]
  exact Steps.refl _
end New
end Jvm.RoadKit
namespace Jvm.Pilot.@@N@@
open Jvm Jvm.ClassFile Sem Op Lib Jvm.Free Jvm.Stand Jvm.LawKit Jvm.RoadKit Bundle Jvm.Pilot.@@N@@.Jvm.D
theorem d2_0 : decode method_2_code 0 = .ok (.iload_n 0, 1) := by decide +kernel
theorem d2_1 : decode method_2_code 1 = .ok (.sipush 128, 3) := by decide +kernel
theorem d2_4 : decode method_2_code 4 = .ok (.if_icmp .ge 13, 3) := by decide +kernel
theorem d2_7 : decode method_2_code 7 = .ok (.iload_n 0, 1) := by decide +kernel
theorem d2_8 : decode method_2_code 8 = .ok (.bipush 92, 2) := by decide +kernel
theorem d2_10 : decode method_2_code 10 = .ok (.if_icmp .eq 7, 3) := by decide +kernel
theorem d2_17 : decode method_2_code 17 = .ok (.iconst 0, 1) := by decide +kernel
theorem d2_18 : decode method_2_code 18 = .ok (.ireturn, 1) := by decide +kernel
theorem d2_13 : decode method_2_code 13 = .ok (.iconst 1, 1) := by decide +kernel
theorem d2_14 : decode method_2_code 14 = .ok (.goto 4, 3) := by decide +kernel
def goodF (p0 : Int32) : Int32 := (if p0 < (128 : Int32) then (if p0 = (92 : Int32) then (0 : Int32) else (1 : Int32)) else (0 : Int32))
def Q2 (Z : State) (p0 : Int32) (h0 : Heap) (n0 : Nat) (v : Option Value) (h : Heap) (L : List Loc) : Prop := v = some (.int (goodF p0)) ∧ Fr n0 L ∧ h = h0
theorem pn_com_example_onesnap_onesnap_node_SqlLexerSplitsAlikeUnderAnySettingsPinLaw : plainName "com/example/onesnap/onesnap/node/SqlLexerSplitsAlikeUnderAnySettingsPinLaw" = true := by first | (simp [plainName, overriddenIn]; done) | decide +kernel
theorem ef_2 (m : MethodId) (p0 : Int32) : entryFrame m #[(.int p0)] 1 = mkF m 0 #[.val (.int p0)] [] := by first | (simp [entryFrame, mkF, argsToLocals, Value.category]; done) | rfl
set_option maxRecDepth 65536 in
set_option maxHeartbeats 40000000 in
theorem rm2 (l : Launch) (Z : State) (a0 : Array Value) (hw : ∀ d ∈ tables_1, d.before a0 Z = true) (ws : List Jvm.Cond) (p0 : Int32)  (h0 : Heap) (n0 : Nat) (Z0 : n0 ≤ h0.size)  :
    MetFree l (⟨"com/example/onesnap/onesnap/node/SqlLexerSplitsAlikeUnderAnySettingsPinLaw", "good", "(I)Z"⟩ : MethodName) (head1 (Jvm.Cond.code (⟨"com/example/onesnap/onesnap/node/SqlLexerSplitsAlikeUnderAnySettingsPinLaw", "good", "(I)Z"⟩ : MethodName) method_2_code 1 (some .boolean) :: ws) ({ frames := 0, cells := 0, slots := 0, locals := 0 } : Room)) (fun a U => a = #[(.int p0)] ∧ Z.Warmed39 U.vm ∧ U.heap = h0) (fun _ _ _ _ _ => True) (fun _ U o U' => ∃ v L, o = .returned v ∧ Q2 Z p0 h0 n0 v U'.heap L ∧ FrameEnd U o U' L ({ frames := 0, cells := 0, slots := 0, locals := 0 } : Room).cells ({ frames := 0, cells := 0, slots := 0, locals := 0 } : Room).slots) := by
  refine MetFree.of_bodySF (plainFor_of_name pn_com_example_onesnap_onesnap_node_SqlLexerSplitsAlikeUnderAnySettingsPinLaw) hisR ?_
  intro p e s m args below meth c s₁ Bd hml0 hP hK
  obtain ⟨rfl, hZ, hh⟩ := hP
  have hx := Bd.exec
  have hby := Bd.bytes
  have hml : c.maxLocals = 1 := hml0
  have hown : s.vm.findClass "com/example/onesnap/onesnap/node/SqlLexerSplitsAlikeUnderAnySettingsPinLaw" = some m.cls := findClass_of_methodNamed Bd.named
  have hnm := (name_of_methodNamed Bd.named Bd.method).1
  have X0 : Stand p l e ({ frames := 0, cells := 0, slots := 0, locals := 0 } : Room) s m #[(.int p0)] below meth c s₁ [] 0 0 := Stand.of_body Bd
  have e0 : s₁.heap = h0 := by rw [← hh, Bd.state]; rfl
  have N0 := Fr.nil n0
  have pre0 : ∀ t, Steps p.tables e below (s₁.setTop (mkF m 0 #[.val (.int p0)] [])) t → Steps p.tables e below (s₁.setTop (entryFrame m #[(.int p0)] 1)) t := fun t k => castTop (ef_2 m p0) k
  have pre1 : ∀ t, Steps p.tables e below (s₁.setTop (mkF m 4 #[.val (.int p0)] [(.int (128 : Int32)), (.int p0)])) t → Steps p.tables e below (s₁.setTop (entryFrame m #[(.int p0)] 1)) t := fun t kk => pre0 t (by
    show Steps p.tables e below (s₁.setTop (mkF m 0 #[.val (.int p0)] [])) _
    refine XS.iloadN X0.here hx rfl (hb hby d2_0) rfl ?_
    show Steps p.tables e below (s₁.setTop (mkF m 1 #[.val (.int p0)] [(.int p0)])) _
    refine XS.sipush X0.here hx rfl (hb hby d2_1) ?_
    exact kk)
  by_cases hc2 : p0 < (128 : Int32)
  · have pre3 : ∀ t, Steps p.tables e below (s₁.setTop (mkF m 10 #[.val (.int p0)] [(.int (92 : Int32)), (.int p0)])) t → Steps p.tables e below (s₁.setTop (entryFrame m #[(.int p0)] 1)) t := fun t kk => pre1 t (by
      show Steps p.tables e below (s₁.setTop (mkF m 4 #[.val (.int p0)] [(.int (128 : Int32)), (.int p0)])) _
      refine XS.icmpNo X0.here hx rfl (hb hby d2_4) rfl (tlt hc2).2.1 ?_
      show Steps p.tables e below (s₁.setTop (mkF m 7 #[.val (.int p0)] [])) _
      refine XS.iloadN X0.here hx rfl (hb hby d2_7) rfl ?_
      show Steps p.tables e below (s₁.setTop (mkF m 8 #[.val (.int p0)] [(.int p0)])) _
      refine XS.bipush X0.here hx rfl (hb hby d2_8) ?_
      exact kk)
    by_cases hc4 : p0 = (92 : Int32)
    · obtain ⟨fs, hr, hrun, hended, hW, hsame⟩ := X0.leave (v := some (.int (0 : Int32))) (fun h => by rw [Bd.returns] at h; cases h)
      refine ⟨_, _, pre3 _ ?_, hrun, hended, _, _, rfl, ?_, ⟨_, rfl⟩, hW, hsame.mono (by decide) (by decide)⟩
      · show Steps p.tables e below (s₁.setTop (mkF m 10 #[.val (.int p0)] [(.int (92 : Int32)), (.int p0)])) _
        refine XS.icmpYes X0.here hx rfl (pc0 := 10) (pc' := 17) rfl (hb hby d2_10) rfl (teq hc4).1 (by decide) (by decide) ?_
        show Steps p.tables e below (s₁.setTop (mkF m 17 #[.val (.int p0)] [])) _
        refine XS.iconst X0.here hx rfl (hb hby d2_17) ?_
        show Steps p.tables e below (s₁.setTop (mkF m 18 #[.val (.int p0)] [(.int (0 : Int32))])) _
        exact retN X0 hx (t := .boolean) Bd.returns (by simp) (hb hby d2_18) hr
      · show Q2 Z p0 h0 n0 _ s₁.heap _
        rw [e0]
        exact ⟨congrArg (fun z => some (Value.int z)) (by unfold goodF; rw [if_pos hc2, if_pos hc4]), N0, rfl⟩
    · obtain ⟨fs, hr, hrun, hended, hW, hsame⟩ := X0.leave (v := some (.int (1 : Int32))) (fun h => by rw [Bd.returns] at h; cases h)
      refine ⟨_, _, pre3 _ ?_, hrun, hended, _, _, rfl, ?_, ⟨_, rfl⟩, hW, hsame.mono (by decide) (by decide)⟩
      · show Steps p.tables e below (s₁.setTop (mkF m 10 #[.val (.int p0)] [(.int (92 : Int32)), (.int p0)])) _
        refine XS.icmpNo X0.here hx rfl (hb hby d2_10) rfl (feq hc4).1 ?_
        show Steps p.tables e below (s₁.setTop (mkF m 13 #[.val (.int p0)] [])) _
        refine XS.iconst X0.here hx rfl (hb hby d2_13) ?_
        show Steps p.tables e below (s₁.setTop (mkF m 14 #[.val (.int p0)] [(.int (1 : Int32))])) _
        refine XS.goto X0.here hx rfl (pc0 := 14) (pc' := 18) rfl (hb hby d2_14) (by decide) (by decide) ?_
        show Steps p.tables e below (s₁.setTop (mkF m 18 #[.val (.int p0)] [(.int (1 : Int32))])) _
        exact retN X0 hx (t := .boolean) Bd.returns (by simp) (hb hby d2_18) hr
      · show Q2 Z p0 h0 n0 _ s₁.heap _
        rw [e0]
        exact ⟨congrArg (fun z => some (Value.int z)) (by unfold goodF; rw [if_pos hc2, if_neg hc4]), N0, rfl⟩
  · obtain ⟨fs, hr, hrun, hended, hW, hsame⟩ := X0.leave (v := some (.int (0 : Int32))) (fun h => by rw [Bd.returns] at h; cases h)
    refine ⟨_, _, pre1 _ ?_, hrun, hended, _, _, rfl, ?_, ⟨_, rfl⟩, hW, hsame.mono (by decide) (by decide)⟩
    · show Steps p.tables e below (s₁.setTop (mkF m 4 #[.val (.int p0)] [(.int (128 : Int32)), (.int p0)])) _
      refine XS.icmpYes X0.here hx rfl (pc0 := 4) (pc' := 17) rfl (hb hby d2_4) rfl (flt hc2).2.1 (by decide) (by decide) ?_
      show Steps p.tables e below (s₁.setTop (mkF m 17 #[.val (.int p0)] [])) _
      refine XS.iconst X0.here hx rfl (hb hby d2_17) ?_
      show Steps p.tables e below (s₁.setTop (mkF m 18 #[.val (.int p0)] [(.int (0 : Int32))])) _
      exact retN X0 hx (t := .boolean) Bd.returns (by simp) (hb hby d2_18) hr
    · show Q2 Z p0 h0 n0 _ s₁.heap _
      rw [e0]
      exact ⟨congrArg (fun z => some (Value.int z)) (by unfold goodF; rw [if_neg hc2]), N0, rfl⟩
def spl0  : Int32 := (1 : Int32)
def Q1_0  (h0 : Heap) (n0 : Nat) (v : Option Value) (h : Heap) (L : List Loc) : Prop := v = some (.int (spl0 )) ∧ Fr n0 L ∧ h = h0
theorem d1_0 : decode prog_40_method_3_code 0 = .ok (.iconst 1, 1) := by decide +kernel
theorem d1_1 : decode prog_40_method_3_code 1 = .ok (.istore_n 1, 1) := by decide +kernel
theorem d1_2 : decode prog_40_method_3_code 2 = .ok (.iconst 0, 1) := by decide +kernel
theorem d1_3 : decode prog_40_method_3_code 3 = .ok (.istore_n 2, 1) := by decide +kernel
theorem d1_4 : decode prog_40_method_3_code 4 = .ok (.iload_n 2, 1) := by decide +kernel
theorem d1_5 : decode prog_40_method_3_code 5 = .ok (.aload_n 0, 1) := by decide +kernel
theorem d1_6 : decode prog_40_method_3_code 6 = .ok (.arraylength, 1) := by decide +kernel
theorem d1_7 : decode prog_40_method_3_code 7 = .ok (.if_icmp .ge 33, 3) := by decide +kernel
theorem d1_40 : decode prog_40_method_3_code 40 = .ok (.iload_n 1, 1) := by decide +kernel
theorem d1_41 : decode prog_40_method_3_code 41 = .ok (.ireturn, 1) := by decide +kernel
theorem pn_com_example_onesnap_onesnap_node_SqlLexer : plainName "com/example/onesnap/onesnap/node/SqlLexer" = true := by first | (simp [plainName, overriddenIn]; done) | decide +kernel
theorem ef_1_0 (m : MethodId) (r0 : Addr) : entryFrame m #[(.ref r0)] 3 = mkF m 0 #[.val (.ref r0), .unset, .unset] [] := by first | (simp [entryFrame, mkF, argsToLocals, Value.category]; done) | rfl
set_option maxRecDepth 65536 in
set_option maxHeartbeats 40000000 in
theorem rm1_0 (l : Launch) (Z : State) (a0 : Array Value) (hw : ∀ d ∈ tables_1, d.before a0 Z = true) (ws : List Jvm.Cond) (r0 : Addr) (kA : ClassId)  (h0 : Heap) (n0 : Nat) (Z0 : n0 ≤ h0.size) (Va : Arv Z h0 r0 kA .byte (0 : Int32) [] (.int (0 : Int32))) :
    MetFree l (⟨"com/example/onesnap/onesnap/node/SqlLexer", "splitsAlikeUnderAnySettings", "([B)Z"⟩ : MethodName) (head1 (Jvm.Cond.code (⟨"com/example/onesnap/onesnap/node/SqlLexer", "splitsAlikeUnderAnySettings", "([B)Z"⟩ : MethodName) prog_40_method_3_code 3 (some .boolean) :: ws) ({ frames := 0, cells := 0, slots := 0, locals := 0 } : Room)) (fun a U => a = #[(.ref r0)] ∧ Z.Warmed39 U.vm ∧ U.heap = h0) (fun _ _ _ _ _ => True) (fun _ U o U' => ∃ v L, o = .returned v ∧ Q1_0  h0 n0 v U'.heap L ∧ FrameEnd U o U' L ({ frames := 0, cells := 0, slots := 0, locals := 0 } : Room).cells ({ frames := 0, cells := 0, slots := 0, locals := 0 } : Room).slots) := by
  refine MetFree.of_bodySF (plainFor_of_name pn_com_example_onesnap_onesnap_node_SqlLexer) hisR ?_
  intro p e s m args below meth c s₁ Bd hml0 hP hK
  obtain ⟨rfl, hZ, hh⟩ := hP
  have hx := Bd.exec
  have hby := Bd.bytes
  have hml : c.maxLocals = 3 := hml0
  have hown : s.vm.findClass "com/example/onesnap/onesnap/node/SqlLexer" = some m.cls := findClass_of_methodNamed Bd.named
  have hnm := (name_of_methodNamed Bd.named Bd.method).1
  have X0 : Stand p l e ({ frames := 0, cells := 0, slots := 0, locals := 0 } : Room) s m #[(.ref r0)] below meth c s₁ [] 0 0 := Stand.of_body Bd
  have e0 : s₁.heap = h0 := by rw [← hh, Bd.state]; rfl
  have N0 := Fr.nil n0
  have pre0 : ∀ t, Steps p.tables e below (s₁.setTop (mkF m 0 #[.val (.ref r0), .unset, .unset] [])) t → Steps p.tables e below (s₁.setTop (entryFrame m #[(.ref r0)] 3)) t := fun t k => castTop (ef_1_0 m r0) k
  obtain ⟨cl1, Ar1, -, S1, Nn1, -, -⟩ := id Va
  obtain ⟨fs, hr, hrun, hended, hW, hsame⟩ := X0.leave (v := some (.int (1 : Int32))) (fun h => by rw [Bd.returns] at h; cases h)
  refine ⟨_, _, pre0 _ ?_, hrun, hended, _, _, rfl, ?_, ⟨_, rfl⟩, hW, hsame.mono (by decide) (by decide)⟩
  · show Steps p.tables e below (s₁.setTop (mkF m 0 #[.val (.ref r0), .unset, .unset] [])) _
    refine XS.iconst X0.here hx rfl (hb hby d1_0) ?_
    show Steps p.tables e below (s₁.setTop (mkF m 1 #[.val (.ref r0), .unset, .unset] [(.int (1 : Int32))])) _
    refine XS.istoreN X0.here hx rfl (hb hby d1_1) rfl (l' := #[.val (.ref r0), .val (.int (1 : Int32)), .unset]) rfl ?_
    show Steps p.tables e below (s₁.setTop (mkF m 2 #[.val (.ref r0), .val (.int (1 : Int32)), .unset] [])) _
    refine XS.iconst X0.here hx rfl (hb hby d1_2) ?_
    show Steps p.tables e below (s₁.setTop (mkF m 3 #[.val (.ref r0), .val (.int (1 : Int32)), .unset] [(.int (0 : Int32))])) _
    refine XS.istoreN X0.here hx rfl (hb hby d1_3) rfl (l' := #[.val (.ref r0), .val (.int (1 : Int32)), .val (.int (0 : Int32))]) rfl ?_
    show Steps p.tables e below (s₁.setTop (mkF m 4 #[.val (.ref r0), .val (.int (1 : Int32)), .val (.int (0 : Int32))] [])) _
    refine XS.iloadN X0.here hx rfl (hb hby d1_4) rfl ?_
    show Steps p.tables e below (s₁.setTop (mkF m 5 #[.val (.ref r0), .val (.int (1 : Int32)), .val (.int (0 : Int32))] [(.int (0 : Int32))])) _
    refine XS.aloadN X0.here hx rfl (hb hby d1_5) rfl rfl ?_
    show Steps p.tables e below (s₁.setTop (mkF m 6 #[.val (.ref r0), .val (.int (1 : Int32)), .val (.int (0 : Int32))] [(.ref r0), (.int (0 : Int32))])) _
    refine X0.arraylength hx (by rw [e0]; exact Ar1.1) (State.isArrayOf_alike hZ.alike Ar1.2.1) (g := (mkF m 6 #[.val (.ref r0), .val (.int (1 : Int32)), .val (.int (0 : Int32))] [(.ref r0), (.int (0 : Int32))])) rfl rfl (hb hby d1_6) _ ?_
    rw [len_of S1 Nn1]
    show Steps p.tables e below (s₁.setTop (mkF m 7 #[.val (.ref r0), .val (.int (1 : Int32)), .val (.int (0 : Int32))] [(.int (0 : Int32)), (.int (0 : Int32))])) _
    refine XS.icmpYes X0.here hx rfl (pc0 := 7) (pc' := 40) rfl (hb hby d1_7) rfl (flt (by decide)).2.1 (by decide) (by decide) ?_
    show Steps p.tables e below (s₁.setTop (mkF m 40 #[.val (.ref r0), .val (.int (1 : Int32)), .val (.int (0 : Int32))] [])) _
    refine XS.iloadN X0.here hx rfl (hb hby d1_40) rfl ?_
    show Steps p.tables e below (s₁.setTop (mkF m 41 #[.val (.ref r0), .val (.int (1 : Int32)), .val (.int (0 : Int32))] [(.int (1 : Int32))])) _
    exact retN X0 hx (t := .boolean) Bd.returns (by simp) (hb hby d1_41) hr
  · show Q1_0  h0 n0 _ s₁.heap _
    rw [e0]
    exact ⟨congrArg (fun z => some (Value.int z)) (by unfold spl0; rfl), N0, rfl⟩
def spl1 (x0 : Int32) : Int32 := (if x0 < (0 : Int32) then (0 : Int32) else (if x0 = (92 : Int32) then (0 : Int32) else (1 : Int32)))
def Q1_1 (x0 : Int32) (h0 : Heap) (n0 : Nat) (v : Option Value) (h : Heap) (L : List Loc) : Prop := v = some (.int (spl1 x0)) ∧ Fr n0 L ∧ h = h0
theorem d1_10 : decode prog_40_method_3_code 10 = .ok (.iload_n 1, 1) := by decide +kernel
theorem d1_11 : decode prog_40_method_3_code 11 = .ok (.ifCond .eq 29, 3) := by decide +kernel
theorem d1_14 : decode prog_40_method_3_code 14 = .ok (.aload_n 0, 1) := by decide +kernel
theorem d1_15 : decode prog_40_method_3_code 15 = .ok (.iload_n 2, 1) := by decide +kernel
theorem d1_16 : decode prog_40_method_3_code 16 = .ok (.baload, 1) := by decide +kernel
theorem d1_17 : decode prog_40_method_3_code 17 = .ok (.ifCond .lt 15, 3) := by decide +kernel
theorem d1_32 : decode prog_40_method_3_code 32 = .ok (.iconst 0, 1) := by decide +kernel
theorem d1_33 : decode prog_40_method_3_code 33 = .ok (.istore_n 1, 1) := by decide +kernel
theorem d1_34 : decode prog_40_method_3_code 34 = .ok (.iinc 2 1, 3) := by decide +kernel
theorem d1_37 : decode prog_40_method_3_code 37 = .ok (.goto (-33), 3) := by decide +kernel
theorem d1_20 : decode prog_40_method_3_code 20 = .ok (.aload_n 0, 1) := by decide +kernel
theorem d1_21 : decode prog_40_method_3_code 21 = .ok (.iload_n 2, 1) := by decide +kernel
theorem d1_22 : decode prog_40_method_3_code 22 = .ok (.baload, 1) := by decide +kernel
theorem d1_23 : decode prog_40_method_3_code 23 = .ok (.bipush 92, 2) := by decide +kernel
theorem d1_25 : decode prog_40_method_3_code 25 = .ok (.if_icmp .eq 7, 3) := by decide +kernel
theorem d1_28 : decode prog_40_method_3_code 28 = .ok (.iconst 1, 1) := by decide +kernel
theorem d1_29 : decode prog_40_method_3_code 29 = .ok (.goto 4, 3) := by decide +kernel
theorem ef_1_1 (m : MethodId) (r0 : Addr) : entryFrame m #[(.ref r0)] 3 = mkF m 0 #[.val (.ref r0), .unset, .unset] [] := by first | (simp [entryFrame, mkF, argsToLocals, Value.category]; done) | rfl
set_option maxRecDepth 65536 in
set_option maxHeartbeats 40000000 in
theorem rm1_1 (l : Launch) (Z : State) (a0 : Array Value) (hw : ∀ d ∈ tables_1, d.before a0 Z = true) (ws : List Jvm.Cond) (r0 : Addr) (kA : ClassId) (x0 : Int32) (h0 : Heap) (n0 : Nat) (Z0 : n0 ≤ h0.size) (Va : Arv Z h0 r0 kA .byte (1 : Int32) [(.int x0)] (.int (0 : Int32))) :
    MetFree l (⟨"com/example/onesnap/onesnap/node/SqlLexer", "splitsAlikeUnderAnySettings", "([B)Z"⟩ : MethodName) (head1 (Jvm.Cond.code (⟨"com/example/onesnap/onesnap/node/SqlLexer", "splitsAlikeUnderAnySettings", "([B)Z"⟩ : MethodName) prog_40_method_3_code 3 (some .boolean) :: ws) ({ frames := 0, cells := 0, slots := 0, locals := 0 } : Room)) (fun a U => a = #[(.ref r0)] ∧ Z.Warmed39 U.vm ∧ U.heap = h0) (fun _ _ _ _ _ => True) (fun _ U o U' => ∃ v L, o = .returned v ∧ Q1_1 x0 h0 n0 v U'.heap L ∧ FrameEnd U o U' L ({ frames := 0, cells := 0, slots := 0, locals := 0 } : Room).cells ({ frames := 0, cells := 0, slots := 0, locals := 0 } : Room).slots) := by
  refine MetFree.of_bodySF (plainFor_of_name pn_com_example_onesnap_onesnap_node_SqlLexer) hisR ?_
  intro p e s m args below meth c s₁ Bd hml0 hP hK
  obtain ⟨rfl, hZ, hh⟩ := hP
  have hx := Bd.exec
  have hby := Bd.bytes
  have hml : c.maxLocals = 3 := hml0
  have hown : s.vm.findClass "com/example/onesnap/onesnap/node/SqlLexer" = some m.cls := findClass_of_methodNamed Bd.named
  have hnm := (name_of_methodNamed Bd.named Bd.method).1
  have X0 : Stand p l e ({ frames := 0, cells := 0, slots := 0, locals := 0 } : Room) s m #[(.ref r0)] below meth c s₁ [] 0 0 := Stand.of_body Bd
  have e0 : s₁.heap = h0 := by rw [← hh, Bd.state]; rfl
  have N0 := Fr.nil n0
  have pre0 : ∀ t, Steps p.tables e below (s₁.setTop (mkF m 0 #[.val (.ref r0), .unset, .unset] [])) t → Steps p.tables e below (s₁.setTop (entryFrame m #[(.ref r0)] 3)) t := fun t k => castTop (ef_1_1 m r0) k
  obtain ⟨cl1, Ar1, -, S1, Nn1, -, -⟩ := id Va
  obtain ⟨cl2, Ar2, -, S2, -, H2, -⟩ := id Va
  have hin2 : ¬ ((0 : Int32) < 0 ∨ cl2.slots.size ≤ ((0 : Int32)).toNatClampNeg) := inb_of S2 ⟨by decide, by decide⟩
  have hat2 : cl2.slots[((0 : Int32)).toNatClampNeg]? = some (.int x0) := Has.at H2 hin2 rfl
  have pre3 : ∀ t, Steps p.tables e below (s₁.setTop (mkF m 17 #[.val (.ref r0), .val (.int (1 : Int32)), .val (.int (0 : Int32))] [(.int x0)])) t → Steps p.tables e below (s₁.setTop (entryFrame m #[(.ref r0)] 3)) t := fun t kk => pre0 t (by
    show Steps p.tables e below (s₁.setTop (mkF m 0 #[.val (.ref r0), .unset, .unset] [])) _
    refine XS.iconst X0.here hx rfl (hb hby d1_0) ?_
    show Steps p.tables e below (s₁.setTop (mkF m 1 #[.val (.ref r0), .unset, .unset] [(.int (1 : Int32))])) _
    refine XS.istoreN X0.here hx rfl (hb hby d1_1) rfl (l' := #[.val (.ref r0), .val (.int (1 : Int32)), .unset]) rfl ?_
    show Steps p.tables e below (s₁.setTop (mkF m 2 #[.val (.ref r0), .val (.int (1 : Int32)), .unset] [])) _
    refine XS.iconst X0.here hx rfl (hb hby d1_2) ?_
    show Steps p.tables e below (s₁.setTop (mkF m 3 #[.val (.ref r0), .val (.int (1 : Int32)), .unset] [(.int (0 : Int32))])) _
    refine XS.istoreN X0.here hx rfl (hb hby d1_3) rfl (l' := #[.val (.ref r0), .val (.int (1 : Int32)), .val (.int (0 : Int32))]) rfl ?_
    show Steps p.tables e below (s₁.setTop (mkF m 4 #[.val (.ref r0), .val (.int (1 : Int32)), .val (.int (0 : Int32))] [])) _
    refine XS.iloadN X0.here hx rfl (hb hby d1_4) rfl ?_
    show Steps p.tables e below (s₁.setTop (mkF m 5 #[.val (.ref r0), .val (.int (1 : Int32)), .val (.int (0 : Int32))] [(.int (0 : Int32))])) _
    refine XS.aloadN X0.here hx rfl (hb hby d1_5) rfl rfl ?_
    show Steps p.tables e below (s₁.setTop (mkF m 6 #[.val (.ref r0), .val (.int (1 : Int32)), .val (.int (0 : Int32))] [(.ref r0), (.int (0 : Int32))])) _
    refine X0.arraylength hx (by rw [e0]; exact Ar1.1) (State.isArrayOf_alike hZ.alike Ar1.2.1) (g := (mkF m 6 #[.val (.ref r0), .val (.int (1 : Int32)), .val (.int (0 : Int32))] [(.ref r0), (.int (0 : Int32))])) rfl rfl (hb hby d1_6) _ ?_
    rw [len_of S1 Nn1]
    show Steps p.tables e below (s₁.setTop (mkF m 7 #[.val (.ref r0), .val (.int (1 : Int32)), .val (.int (0 : Int32))] [(.int (1 : Int32)), (.int (0 : Int32))])) _
    refine XS.icmpNo X0.here hx rfl (hb hby d1_7) rfl (tlt (by decide)).2.1 ?_
    show Steps p.tables e below (s₁.setTop (mkF m 10 #[.val (.ref r0), .val (.int (1 : Int32)), .val (.int (0 : Int32))] [])) _
    refine XS.iloadN X0.here hx rfl (hb hby d1_10) rfl ?_
    show Steps p.tables e below (s₁.setTop (mkF m 11 #[.val (.ref r0), .val (.int (1 : Int32)), .val (.int (0 : Int32))] [(.int (1 : Int32))])) _
    refine XS.ifNo X0.here hx rfl (hb hby d1_11) rfl ((if0 _ _).trans (feq (by decide)).1) ?_
    show Steps p.tables e below (s₁.setTop (mkF m 14 #[.val (.ref r0), .val (.int (1 : Int32)), .val (.int (0 : Int32))] [])) _
    refine XS.aloadN X0.here hx rfl (hb hby d1_14) rfl rfl ?_
    show Steps p.tables e below (s₁.setTop (mkF m 15 #[.val (.ref r0), .val (.int (1 : Int32)), .val (.int (0 : Int32))] [(.ref r0)])) _
    refine XS.iloadN X0.here hx rfl (hb hby d1_15) rfl ?_
    show Steps p.tables e below (s₁.setTop (mkF m 16 #[.val (.ref r0), .val (.int (1 : Int32)), .val (.int (0 : Int32))] [(.int (0 : Int32)), (.ref r0)])) _
    refine X0.baloadBytes hx (j := (0 : Int32)) (v := (.int x0)) (by rw [e0]; exact Ar2.1) (State.isArrayOf_alike hZ.alike Ar2.2.1) Ar2.2.2 hin2 hat2 (g := (mkF m 16 #[.val (.ref r0), .val (.int (1 : Int32)), .val (.int (0 : Int32))] [(.int (0 : Int32)), (.ref r0)])) rfl rfl (hb hby d1_16) _ ?_
    exact kk)
  by_cases hc4 : x0 < (0 : Int32)
  · obtain ⟨cl5, Ar5, -, S5, Nn5, -, -⟩ := id Va
    obtain ⟨fs, hr, hrun, hended, hW, hsame⟩ := X0.leave (v := some (.int (0 : Int32))) (fun h => by rw [Bd.returns] at h; cases h)
    refine ⟨_, _, pre3 _ ?_, hrun, hended, _, _, rfl, ?_, ⟨_, rfl⟩, hW, hsame.mono (by decide) (by decide)⟩
    · show Steps p.tables e below (s₁.setTop (mkF m 17 #[.val (.ref r0), .val (.int (1 : Int32)), .val (.int (0 : Int32))] [(.int x0)])) _
      refine XS.ifYes X0.here hx rfl (pc0 := 17) (pc' := 32) rfl (hb hby d1_17) rfl ((if0 _ _).trans (tlt hc4).1) (by decide) (by decide) ?_
      show Steps p.tables e below (s₁.setTop (mkF m 32 #[.val (.ref r0), .val (.int (1 : Int32)), .val (.int (0 : Int32))] [])) _
      refine XS.iconst X0.here hx rfl (hb hby d1_32) ?_
      show Steps p.tables e below (s₁.setTop (mkF m 33 #[.val (.ref r0), .val (.int (1 : Int32)), .val (.int (0 : Int32))] [(.int (0 : Int32))])) _
      refine XS.istoreN X0.here hx rfl (hb hby d1_33) rfl (l' := #[.val (.ref r0), .val (.int (0 : Int32)), .val (.int (0 : Int32))]) rfl ?_
      show Steps p.tables e below (s₁.setTop (mkF m 34 #[.val (.ref r0), .val (.int (0 : Int32)), .val (.int (0 : Int32))] [])) _
      refine XS.iinc X0.here hx rfl (hb hby d1_34) rfl (l' := #[.val (.ref r0), .val (.int (0 : Int32)), .val (.int (1 : Int32))]) rfl ?_
      show Steps p.tables e below (s₁.setTop (mkF m 37 #[.val (.ref r0), .val (.int (0 : Int32)), .val (.int (1 : Int32))] [])) _
      refine XS.goto X0.here hx rfl (pc0 := 37) (pc' := 4) rfl (hb hby d1_37) (by decide) (by decide) ?_
      show Steps p.tables e below (s₁.setTop (mkF m 4 #[.val (.ref r0), .val (.int (0 : Int32)), .val (.int (1 : Int32))] [])) _
      refine XS.iloadN X0.here hx rfl (hb hby d1_4) rfl ?_
      show Steps p.tables e below (s₁.setTop (mkF m 5 #[.val (.ref r0), .val (.int (0 : Int32)), .val (.int (1 : Int32))] [(.int (1 : Int32))])) _
      refine XS.aloadN X0.here hx rfl (hb hby d1_5) rfl rfl ?_
      show Steps p.tables e below (s₁.setTop (mkF m 6 #[.val (.ref r0), .val (.int (0 : Int32)), .val (.int (1 : Int32))] [(.ref r0), (.int (1 : Int32))])) _
      refine X0.arraylength hx (by rw [e0]; exact Ar5.1) (State.isArrayOf_alike hZ.alike Ar5.2.1) (g := (mkF m 6 #[.val (.ref r0), .val (.int (0 : Int32)), .val (.int (1 : Int32))] [(.ref r0), (.int (1 : Int32))])) rfl rfl (hb hby d1_6) _ ?_
      rw [len_of S5 Nn5]
      show Steps p.tables e below (s₁.setTop (mkF m 7 #[.val (.ref r0), .val (.int (0 : Int32)), .val (.int (1 : Int32))] [(.int (1 : Int32)), (.int (1 : Int32))])) _
      refine XS.icmpYes X0.here hx rfl (pc0 := 7) (pc' := 40) rfl (hb hby d1_7) rfl (flt (by decide)).2.1 (by decide) (by decide) ?_
      show Steps p.tables e below (s₁.setTop (mkF m 40 #[.val (.ref r0), .val (.int (0 : Int32)), .val (.int (1 : Int32))] [])) _
      refine XS.iloadN X0.here hx rfl (hb hby d1_40) rfl ?_
      show Steps p.tables e below (s₁.setTop (mkF m 41 #[.val (.ref r0), .val (.int (0 : Int32)), .val (.int (1 : Int32))] [(.int (0 : Int32))])) _
      exact retN X0 hx (t := .boolean) Bd.returns (by simp) (hb hby d1_41) hr
    · show Q1_1 x0 h0 n0 _ s₁.heap _
      rw [e0]
      exact ⟨congrArg (fun z => some (Value.int z)) (by unfold spl1; rw [if_pos hc4]), N0, rfl⟩
  · obtain ⟨cl6, Ar6, -, S6, -, H6, -⟩ := id Va
    have hin6 : ¬ ((0 : Int32) < 0 ∨ cl6.slots.size ≤ ((0 : Int32)).toNatClampNeg) := inb_of S6 ⟨by decide, by decide⟩
    have hat6 : cl6.slots[((0 : Int32)).toNatClampNeg]? = some (.int x0) := Has.at H6 hin6 rfl
    have pre7 : ∀ t, Steps p.tables e below (s₁.setTop (mkF m 25 #[.val (.ref r0), .val (.int (1 : Int32)), .val (.int (0 : Int32))] [(.int (92 : Int32)), (.int x0)])) t → Steps p.tables e below (s₁.setTop (entryFrame m #[(.ref r0)] 3)) t := fun t kk => pre3 t (by
      show Steps p.tables e below (s₁.setTop (mkF m 17 #[.val (.ref r0), .val (.int (1 : Int32)), .val (.int (0 : Int32))] [(.int x0)])) _
      refine XS.ifNo X0.here hx rfl (hb hby d1_17) rfl ((if0 _ _).trans (flt hc4).1) ?_
      show Steps p.tables e below (s₁.setTop (mkF m 20 #[.val (.ref r0), .val (.int (1 : Int32)), .val (.int (0 : Int32))] [])) _
      refine XS.aloadN X0.here hx rfl (hb hby d1_20) rfl rfl ?_
      show Steps p.tables e below (s₁.setTop (mkF m 21 #[.val (.ref r0), .val (.int (1 : Int32)), .val (.int (0 : Int32))] [(.ref r0)])) _
      refine XS.iloadN X0.here hx rfl (hb hby d1_21) rfl ?_
      show Steps p.tables e below (s₁.setTop (mkF m 22 #[.val (.ref r0), .val (.int (1 : Int32)), .val (.int (0 : Int32))] [(.int (0 : Int32)), (.ref r0)])) _
      refine X0.baloadBytes hx (j := (0 : Int32)) (v := (.int x0)) (by rw [e0]; exact Ar6.1) (State.isArrayOf_alike hZ.alike Ar6.2.1) Ar6.2.2 hin6 hat6 (g := (mkF m 22 #[.val (.ref r0), .val (.int (1 : Int32)), .val (.int (0 : Int32))] [(.int (0 : Int32)), (.ref r0)])) rfl rfl (hb hby d1_22) _ ?_
      show Steps p.tables e below (s₁.setTop (mkF m 23 #[.val (.ref r0), .val (.int (1 : Int32)), .val (.int (0 : Int32))] [(.int x0)])) _
      refine XS.bipush X0.here hx rfl (hb hby d1_23) ?_
      exact kk)
    by_cases hc8 : x0 = (92 : Int32)
    · obtain ⟨cl9, Ar9, -, S9, Nn9, -, -⟩ := id Va
      obtain ⟨fs, hr, hrun, hended, hW, hsame⟩ := X0.leave (v := some (.int (0 : Int32))) (fun h => by rw [Bd.returns] at h; cases h)
      refine ⟨_, _, pre7 _ ?_, hrun, hended, _, _, rfl, ?_, ⟨_, rfl⟩, hW, hsame.mono (by decide) (by decide)⟩
      · show Steps p.tables e below (s₁.setTop (mkF m 25 #[.val (.ref r0), .val (.int (1 : Int32)), .val (.int (0 : Int32))] [(.int (92 : Int32)), (.int x0)])) _
        refine XS.icmpYes X0.here hx rfl (pc0 := 25) (pc' := 32) rfl (hb hby d1_25) rfl (teq hc8).1 (by decide) (by decide) ?_
        show Steps p.tables e below (s₁.setTop (mkF m 32 #[.val (.ref r0), .val (.int (1 : Int32)), .val (.int (0 : Int32))] [])) _
        refine XS.iconst X0.here hx rfl (hb hby d1_32) ?_
        show Steps p.tables e below (s₁.setTop (mkF m 33 #[.val (.ref r0), .val (.int (1 : Int32)), .val (.int (0 : Int32))] [(.int (0 : Int32))])) _
        refine XS.istoreN X0.here hx rfl (hb hby d1_33) rfl (l' := #[.val (.ref r0), .val (.int (0 : Int32)), .val (.int (0 : Int32))]) rfl ?_
        show Steps p.tables e below (s₁.setTop (mkF m 34 #[.val (.ref r0), .val (.int (0 : Int32)), .val (.int (0 : Int32))] [])) _
        refine XS.iinc X0.here hx rfl (hb hby d1_34) rfl (l' := #[.val (.ref r0), .val (.int (0 : Int32)), .val (.int (1 : Int32))]) rfl ?_
        show Steps p.tables e below (s₁.setTop (mkF m 37 #[.val (.ref r0), .val (.int (0 : Int32)), .val (.int (1 : Int32))] [])) _
        refine XS.goto X0.here hx rfl (pc0 := 37) (pc' := 4) rfl (hb hby d1_37) (by decide) (by decide) ?_
        show Steps p.tables e below (s₁.setTop (mkF m 4 #[.val (.ref r0), .val (.int (0 : Int32)), .val (.int (1 : Int32))] [])) _
        refine XS.iloadN X0.here hx rfl (hb hby d1_4) rfl ?_
        show Steps p.tables e below (s₁.setTop (mkF m 5 #[.val (.ref r0), .val (.int (0 : Int32)), .val (.int (1 : Int32))] [(.int (1 : Int32))])) _
        refine XS.aloadN X0.here hx rfl (hb hby d1_5) rfl rfl ?_
        show Steps p.tables e below (s₁.setTop (mkF m 6 #[.val (.ref r0), .val (.int (0 : Int32)), .val (.int (1 : Int32))] [(.ref r0), (.int (1 : Int32))])) _
        refine X0.arraylength hx (by rw [e0]; exact Ar9.1) (State.isArrayOf_alike hZ.alike Ar9.2.1) (g := (mkF m 6 #[.val (.ref r0), .val (.int (0 : Int32)), .val (.int (1 : Int32))] [(.ref r0), (.int (1 : Int32))])) rfl rfl (hb hby d1_6) _ ?_
        rw [len_of S9 Nn9]
        show Steps p.tables e below (s₁.setTop (mkF m 7 #[.val (.ref r0), .val (.int (0 : Int32)), .val (.int (1 : Int32))] [(.int (1 : Int32)), (.int (1 : Int32))])) _
        refine XS.icmpYes X0.here hx rfl (pc0 := 7) (pc' := 40) rfl (hb hby d1_7) rfl (flt (by decide)).2.1 (by decide) (by decide) ?_
        show Steps p.tables e below (s₁.setTop (mkF m 40 #[.val (.ref r0), .val (.int (0 : Int32)), .val (.int (1 : Int32))] [])) _
        refine XS.iloadN X0.here hx rfl (hb hby d1_40) rfl ?_
        show Steps p.tables e below (s₁.setTop (mkF m 41 #[.val (.ref r0), .val (.int (0 : Int32)), .val (.int (1 : Int32))] [(.int (0 : Int32))])) _
        exact retN X0 hx (t := .boolean) Bd.returns (by simp) (hb hby d1_41) hr
      · show Q1_1 x0 h0 n0 _ s₁.heap _
        rw [e0]
        exact ⟨congrArg (fun z => some (Value.int z)) (by unfold spl1; rw [if_neg hc4, if_pos hc8]), N0, rfl⟩
    · obtain ⟨cl10, Ar10, -, S10, Nn10, -, -⟩ := id Va
      obtain ⟨fs, hr, hrun, hended, hW, hsame⟩ := X0.leave (v := some (.int (1 : Int32))) (fun h => by rw [Bd.returns] at h; cases h)
      refine ⟨_, _, pre7 _ ?_, hrun, hended, _, _, rfl, ?_, ⟨_, rfl⟩, hW, hsame.mono (by decide) (by decide)⟩
      · show Steps p.tables e below (s₁.setTop (mkF m 25 #[.val (.ref r0), .val (.int (1 : Int32)), .val (.int (0 : Int32))] [(.int (92 : Int32)), (.int x0)])) _
        refine XS.icmpNo X0.here hx rfl (hb hby d1_25) rfl (feq hc8).1 ?_
        show Steps p.tables e below (s₁.setTop (mkF m 28 #[.val (.ref r0), .val (.int (1 : Int32)), .val (.int (0 : Int32))] [])) _
        refine XS.iconst X0.here hx rfl (hb hby d1_28) ?_
        show Steps p.tables e below (s₁.setTop (mkF m 29 #[.val (.ref r0), .val (.int (1 : Int32)), .val (.int (0 : Int32))] [(.int (1 : Int32))])) _
        refine XS.goto X0.here hx rfl (pc0 := 29) (pc' := 33) rfl (hb hby d1_29) (by decide) (by decide) ?_
        show Steps p.tables e below (s₁.setTop (mkF m 33 #[.val (.ref r0), .val (.int (1 : Int32)), .val (.int (0 : Int32))] [(.int (1 : Int32))])) _
        refine XS.istoreN X0.here hx rfl (hb hby d1_33) rfl (l' := #[.val (.ref r0), .val (.int (1 : Int32)), .val (.int (0 : Int32))]) rfl ?_
        show Steps p.tables e below (s₁.setTop (mkF m 34 #[.val (.ref r0), .val (.int (1 : Int32)), .val (.int (0 : Int32))] [])) _
        refine XS.iinc X0.here hx rfl (hb hby d1_34) rfl (l' := #[.val (.ref r0), .val (.int (1 : Int32)), .val (.int (1 : Int32))]) rfl ?_
        show Steps p.tables e below (s₁.setTop (mkF m 37 #[.val (.ref r0), .val (.int (1 : Int32)), .val (.int (1 : Int32))] [])) _
        refine XS.goto X0.here hx rfl (pc0 := 37) (pc' := 4) rfl (hb hby d1_37) (by decide) (by decide) ?_
        show Steps p.tables e below (s₁.setTop (mkF m 4 #[.val (.ref r0), .val (.int (1 : Int32)), .val (.int (1 : Int32))] [])) _
        refine XS.iloadN X0.here hx rfl (hb hby d1_4) rfl ?_
        show Steps p.tables e below (s₁.setTop (mkF m 5 #[.val (.ref r0), .val (.int (1 : Int32)), .val (.int (1 : Int32))] [(.int (1 : Int32))])) _
        refine XS.aloadN X0.here hx rfl (hb hby d1_5) rfl rfl ?_
        show Steps p.tables e below (s₁.setTop (mkF m 6 #[.val (.ref r0), .val (.int (1 : Int32)), .val (.int (1 : Int32))] [(.ref r0), (.int (1 : Int32))])) _
        refine X0.arraylength hx (by rw [e0]; exact Ar10.1) (State.isArrayOf_alike hZ.alike Ar10.2.1) (g := (mkF m 6 #[.val (.ref r0), .val (.int (1 : Int32)), .val (.int (1 : Int32))] [(.ref r0), (.int (1 : Int32))])) rfl rfl (hb hby d1_6) _ ?_
        rw [len_of S10 Nn10]
        show Steps p.tables e below (s₁.setTop (mkF m 7 #[.val (.ref r0), .val (.int (1 : Int32)), .val (.int (1 : Int32))] [(.int (1 : Int32)), (.int (1 : Int32))])) _
        refine XS.icmpYes X0.here hx rfl (pc0 := 7) (pc' := 40) rfl (hb hby d1_7) rfl (flt (by decide)).2.1 (by decide) (by decide) ?_
        show Steps p.tables e below (s₁.setTop (mkF m 40 #[.val (.ref r0), .val (.int (1 : Int32)), .val (.int (1 : Int32))] [])) _
        refine XS.iloadN X0.here hx rfl (hb hby d1_40) rfl ?_
        show Steps p.tables e below (s₁.setTop (mkF m 41 #[.val (.ref r0), .val (.int (1 : Int32)), .val (.int (1 : Int32))] [(.int (1 : Int32))])) _
        exact retN X0 hx (t := .boolean) Bd.returns (by simp) (hb hby d1_41) hr
      · show Q1_1 x0 h0 n0 _ s₁.heap _
        rw [e0]
        exact ⟨congrArg (fun z => some (Value.int z)) (by unfold spl1; rw [if_neg hc4, if_neg hc8]), N0, rfl⟩
def spl2 (x0 x1 : Int32) : Int32 := (if x0 < (0 : Int32) then (0 : Int32) else (if x0 = (92 : Int32) then (0 : Int32) else (if x1 < (0 : Int32) then (0 : Int32) else (if x1 = (92 : Int32) then (0 : Int32) else (1 : Int32)))))
def Q1_2 (x0 x1 : Int32) (h0 : Heap) (n0 : Nat) (v : Option Value) (h : Heap) (L : List Loc) : Prop := v = some (.int (spl2 x0 x1)) ∧ Fr n0 L ∧ h = h0
theorem ef_1_2 (m : MethodId) (r0 : Addr) : entryFrame m #[(.ref r0)] 3 = mkF m 0 #[.val (.ref r0), .unset, .unset] [] := by first | (simp [entryFrame, mkF, argsToLocals, Value.category]; done) | rfl
set_option maxRecDepth 65536 in
set_option maxHeartbeats 40000000 in
theorem rm1_2 (l : Launch) (Z : State) (a0 : Array Value) (hw : ∀ d ∈ tables_1, d.before a0 Z = true) (ws : List Jvm.Cond) (r0 : Addr) (kA : ClassId) (x0 x1 : Int32) (h0 : Heap) (n0 : Nat) (Z0 : n0 ≤ h0.size) (Va : Arv Z h0 r0 kA .byte (2 : Int32) [(.int x0), (.int x1)] (.int (0 : Int32))) :
    MetFree l (⟨"com/example/onesnap/onesnap/node/SqlLexer", "splitsAlikeUnderAnySettings", "([B)Z"⟩ : MethodName) (head1 (Jvm.Cond.code (⟨"com/example/onesnap/onesnap/node/SqlLexer", "splitsAlikeUnderAnySettings", "([B)Z"⟩ : MethodName) prog_40_method_3_code 3 (some .boolean) :: ws) ({ frames := 0, cells := 0, slots := 0, locals := 0 } : Room)) (fun a U => a = #[(.ref r0)] ∧ Z.Warmed39 U.vm ∧ U.heap = h0) (fun _ _ _ _ _ => True) (fun _ U o U' => ∃ v L, o = .returned v ∧ Q1_2 x0 x1 h0 n0 v U'.heap L ∧ FrameEnd U o U' L ({ frames := 0, cells := 0, slots := 0, locals := 0 } : Room).cells ({ frames := 0, cells := 0, slots := 0, locals := 0 } : Room).slots) := by
  refine MetFree.of_bodySF (plainFor_of_name pn_com_example_onesnap_onesnap_node_SqlLexer) hisR ?_
  intro p e s m args below meth c s₁ Bd hml0 hP hK
  obtain ⟨rfl, hZ, hh⟩ := hP
  have hx := Bd.exec
  have hby := Bd.bytes
  have hml : c.maxLocals = 3 := hml0
  have hown : s.vm.findClass "com/example/onesnap/onesnap/node/SqlLexer" = some m.cls := findClass_of_methodNamed Bd.named
  have hnm := (name_of_methodNamed Bd.named Bd.method).1
  have X0 : Stand p l e ({ frames := 0, cells := 0, slots := 0, locals := 0 } : Room) s m #[(.ref r0)] below meth c s₁ [] 0 0 := Stand.of_body Bd
  have e0 : s₁.heap = h0 := by rw [← hh, Bd.state]; rfl
  have N0 := Fr.nil n0
  have pre0 : ∀ t, Steps p.tables e below (s₁.setTop (mkF m 0 #[.val (.ref r0), .unset, .unset] [])) t → Steps p.tables e below (s₁.setTop (entryFrame m #[(.ref r0)] 3)) t := fun t k => castTop (ef_1_2 m r0) k
  obtain ⟨cl1, Ar1, -, S1, Nn1, -, -⟩ := id Va
  obtain ⟨cl2, Ar2, -, S2, -, H2, -⟩ := id Va
  have hin2 : ¬ ((0 : Int32) < 0 ∨ cl2.slots.size ≤ ((0 : Int32)).toNatClampNeg) := inb_of S2 ⟨by decide, by decide⟩
  have hat2 : cl2.slots[((0 : Int32)).toNatClampNeg]? = some (.int x0) := Has.at H2 hin2 rfl
  have pre3 : ∀ t, Steps p.tables e below (s₁.setTop (mkF m 17 #[.val (.ref r0), .val (.int (1 : Int32)), .val (.int (0 : Int32))] [(.int x0)])) t → Steps p.tables e below (s₁.setTop (entryFrame m #[(.ref r0)] 3)) t := fun t kk => pre0 t (by
    show Steps p.tables e below (s₁.setTop (mkF m 0 #[.val (.ref r0), .unset, .unset] [])) _
    refine XS.iconst X0.here hx rfl (hb hby d1_0) ?_
    show Steps p.tables e below (s₁.setTop (mkF m 1 #[.val (.ref r0), .unset, .unset] [(.int (1 : Int32))])) _
    refine XS.istoreN X0.here hx rfl (hb hby d1_1) rfl (l' := #[.val (.ref r0), .val (.int (1 : Int32)), .unset]) rfl ?_
    show Steps p.tables e below (s₁.setTop (mkF m 2 #[.val (.ref r0), .val (.int (1 : Int32)), .unset] [])) _
    refine XS.iconst X0.here hx rfl (hb hby d1_2) ?_
    show Steps p.tables e below (s₁.setTop (mkF m 3 #[.val (.ref r0), .val (.int (1 : Int32)), .unset] [(.int (0 : Int32))])) _
    refine XS.istoreN X0.here hx rfl (hb hby d1_3) rfl (l' := #[.val (.ref r0), .val (.int (1 : Int32)), .val (.int (0 : Int32))]) rfl ?_
    show Steps p.tables e below (s₁.setTop (mkF m 4 #[.val (.ref r0), .val (.int (1 : Int32)), .val (.int (0 : Int32))] [])) _
    refine XS.iloadN X0.here hx rfl (hb hby d1_4) rfl ?_
    show Steps p.tables e below (s₁.setTop (mkF m 5 #[.val (.ref r0), .val (.int (1 : Int32)), .val (.int (0 : Int32))] [(.int (0 : Int32))])) _
    refine XS.aloadN X0.here hx rfl (hb hby d1_5) rfl rfl ?_
    show Steps p.tables e below (s₁.setTop (mkF m 6 #[.val (.ref r0), .val (.int (1 : Int32)), .val (.int (0 : Int32))] [(.ref r0), (.int (0 : Int32))])) _
    refine X0.arraylength hx (by rw [e0]; exact Ar1.1) (State.isArrayOf_alike hZ.alike Ar1.2.1) (g := (mkF m 6 #[.val (.ref r0), .val (.int (1 : Int32)), .val (.int (0 : Int32))] [(.ref r0), (.int (0 : Int32))])) rfl rfl (hb hby d1_6) _ ?_
    rw [len_of S1 Nn1]
    show Steps p.tables e below (s₁.setTop (mkF m 7 #[.val (.ref r0), .val (.int (1 : Int32)), .val (.int (0 : Int32))] [(.int (2 : Int32)), (.int (0 : Int32))])) _
    refine XS.icmpNo X0.here hx rfl (hb hby d1_7) rfl (tlt (by decide)).2.1 ?_
    show Steps p.tables e below (s₁.setTop (mkF m 10 #[.val (.ref r0), .val (.int (1 : Int32)), .val (.int (0 : Int32))] [])) _
    refine XS.iloadN X0.here hx rfl (hb hby d1_10) rfl ?_
    show Steps p.tables e below (s₁.setTop (mkF m 11 #[.val (.ref r0), .val (.int (1 : Int32)), .val (.int (0 : Int32))] [(.int (1 : Int32))])) _
    refine XS.ifNo X0.here hx rfl (hb hby d1_11) rfl ((if0 _ _).trans (feq (by decide)).1) ?_
    show Steps p.tables e below (s₁.setTop (mkF m 14 #[.val (.ref r0), .val (.int (1 : Int32)), .val (.int (0 : Int32))] [])) _
    refine XS.aloadN X0.here hx rfl (hb hby d1_14) rfl rfl ?_
    show Steps p.tables e below (s₁.setTop (mkF m 15 #[.val (.ref r0), .val (.int (1 : Int32)), .val (.int (0 : Int32))] [(.ref r0)])) _
    refine XS.iloadN X0.here hx rfl (hb hby d1_15) rfl ?_
    show Steps p.tables e below (s₁.setTop (mkF m 16 #[.val (.ref r0), .val (.int (1 : Int32)), .val (.int (0 : Int32))] [(.int (0 : Int32)), (.ref r0)])) _
    refine X0.baloadBytes hx (j := (0 : Int32)) (v := (.int x0)) (by rw [e0]; exact Ar2.1) (State.isArrayOf_alike hZ.alike Ar2.2.1) Ar2.2.2 hin2 hat2 (g := (mkF m 16 #[.val (.ref r0), .val (.int (1 : Int32)), .val (.int (0 : Int32))] [(.int (0 : Int32)), (.ref r0)])) rfl rfl (hb hby d1_16) _ ?_
    exact kk)
  by_cases hc4 : x0 < (0 : Int32)
  · obtain ⟨cl5, Ar5, -, S5, Nn5, -, -⟩ := id Va
    obtain ⟨fs, hr, hrun, hended, hW, hsame⟩ := X0.leave (v := some (.int (0 : Int32))) (fun h => by rw [Bd.returns] at h; cases h)
    refine ⟨_, _, pre3 _ ?_, hrun, hended, _, _, rfl, ?_, ⟨_, rfl⟩, hW, hsame.mono (by decide) (by decide)⟩
    · show Steps p.tables e below (s₁.setTop (mkF m 17 #[.val (.ref r0), .val (.int (1 : Int32)), .val (.int (0 : Int32))] [(.int x0)])) _
      refine XS.ifYes X0.here hx rfl (pc0 := 17) (pc' := 32) rfl (hb hby d1_17) rfl ((if0 _ _).trans (tlt hc4).1) (by decide) (by decide) ?_
      show Steps p.tables e below (s₁.setTop (mkF m 32 #[.val (.ref r0), .val (.int (1 : Int32)), .val (.int (0 : Int32))] [])) _
      refine XS.iconst X0.here hx rfl (hb hby d1_32) ?_
      show Steps p.tables e below (s₁.setTop (mkF m 33 #[.val (.ref r0), .val (.int (1 : Int32)), .val (.int (0 : Int32))] [(.int (0 : Int32))])) _
      refine XS.istoreN X0.here hx rfl (hb hby d1_33) rfl (l' := #[.val (.ref r0), .val (.int (0 : Int32)), .val (.int (0 : Int32))]) rfl ?_
      show Steps p.tables e below (s₁.setTop (mkF m 34 #[.val (.ref r0), .val (.int (0 : Int32)), .val (.int (0 : Int32))] [])) _
      refine XS.iinc X0.here hx rfl (hb hby d1_34) rfl (l' := #[.val (.ref r0), .val (.int (0 : Int32)), .val (.int (1 : Int32))]) rfl ?_
      show Steps p.tables e below (s₁.setTop (mkF m 37 #[.val (.ref r0), .val (.int (0 : Int32)), .val (.int (1 : Int32))] [])) _
      refine XS.goto X0.here hx rfl (pc0 := 37) (pc' := 4) rfl (hb hby d1_37) (by decide) (by decide) ?_
      show Steps p.tables e below (s₁.setTop (mkF m 4 #[.val (.ref r0), .val (.int (0 : Int32)), .val (.int (1 : Int32))] [])) _
      refine XS.iloadN X0.here hx rfl (hb hby d1_4) rfl ?_
      show Steps p.tables e below (s₁.setTop (mkF m 5 #[.val (.ref r0), .val (.int (0 : Int32)), .val (.int (1 : Int32))] [(.int (1 : Int32))])) _
      refine XS.aloadN X0.here hx rfl (hb hby d1_5) rfl rfl ?_
      show Steps p.tables e below (s₁.setTop (mkF m 6 #[.val (.ref r0), .val (.int (0 : Int32)), .val (.int (1 : Int32))] [(.ref r0), (.int (1 : Int32))])) _
      refine X0.arraylength hx (by rw [e0]; exact Ar5.1) (State.isArrayOf_alike hZ.alike Ar5.2.1) (g := (mkF m 6 #[.val (.ref r0), .val (.int (0 : Int32)), .val (.int (1 : Int32))] [(.ref r0), (.int (1 : Int32))])) rfl rfl (hb hby d1_6) _ ?_
      rw [len_of S5 Nn5]
      show Steps p.tables e below (s₁.setTop (mkF m 7 #[.val (.ref r0), .val (.int (0 : Int32)), .val (.int (1 : Int32))] [(.int (2 : Int32)), (.int (1 : Int32))])) _
      refine XS.icmpNo X0.here hx rfl (hb hby d1_7) rfl (tlt (by decide)).2.1 ?_
      show Steps p.tables e below (s₁.setTop (mkF m 10 #[.val (.ref r0), .val (.int (0 : Int32)), .val (.int (1 : Int32))] [])) _
      refine XS.iloadN X0.here hx rfl (hb hby d1_10) rfl ?_
      show Steps p.tables e below (s₁.setTop (mkF m 11 #[.val (.ref r0), .val (.int (0 : Int32)), .val (.int (1 : Int32))] [(.int (0 : Int32))])) _
      refine XS.ifYes X0.here hx rfl (pc0 := 11) (pc' := 40) rfl (hb hby d1_11) rfl ((if0 _ _).trans (teq (rfl : (0 : Int32) = (0 : Int32))).1) (by decide) (by decide) ?_
      show Steps p.tables e below (s₁.setTop (mkF m 40 #[.val (.ref r0), .val (.int (0 : Int32)), .val (.int (1 : Int32))] [])) _
      refine XS.iloadN X0.here hx rfl (hb hby d1_40) rfl ?_
      show Steps p.tables e below (s₁.setTop (mkF m 41 #[.val (.ref r0), .val (.int (0 : Int32)), .val (.int (1 : Int32))] [(.int (0 : Int32))])) _
      exact retN X0 hx (t := .boolean) Bd.returns (by simp) (hb hby d1_41) hr
    · show Q1_2 x0 x1 h0 n0 _ s₁.heap _
      rw [e0]
      exact ⟨congrArg (fun z => some (Value.int z)) (by unfold spl2; rw [if_pos hc4]), N0, rfl⟩
  · obtain ⟨cl6, Ar6, -, S6, -, H6, -⟩ := id Va
    have hin6 : ¬ ((0 : Int32) < 0 ∨ cl6.slots.size ≤ ((0 : Int32)).toNatClampNeg) := inb_of S6 ⟨by decide, by decide⟩
    have hat6 : cl6.slots[((0 : Int32)).toNatClampNeg]? = some (.int x0) := Has.at H6 hin6 rfl
    have pre7 : ∀ t, Steps p.tables e below (s₁.setTop (mkF m 25 #[.val (.ref r0), .val (.int (1 : Int32)), .val (.int (0 : Int32))] [(.int (92 : Int32)), (.int x0)])) t → Steps p.tables e below (s₁.setTop (entryFrame m #[(.ref r0)] 3)) t := fun t kk => pre3 t (by
      show Steps p.tables e below (s₁.setTop (mkF m 17 #[.val (.ref r0), .val (.int (1 : Int32)), .val (.int (0 : Int32))] [(.int x0)])) _
      refine XS.ifNo X0.here hx rfl (hb hby d1_17) rfl ((if0 _ _).trans (flt hc4).1) ?_
      show Steps p.tables e below (s₁.setTop (mkF m 20 #[.val (.ref r0), .val (.int (1 : Int32)), .val (.int (0 : Int32))] [])) _
      refine XS.aloadN X0.here hx rfl (hb hby d1_20) rfl rfl ?_
      show Steps p.tables e below (s₁.setTop (mkF m 21 #[.val (.ref r0), .val (.int (1 : Int32)), .val (.int (0 : Int32))] [(.ref r0)])) _
      refine XS.iloadN X0.here hx rfl (hb hby d1_21) rfl ?_
      show Steps p.tables e below (s₁.setTop (mkF m 22 #[.val (.ref r0), .val (.int (1 : Int32)), .val (.int (0 : Int32))] [(.int (0 : Int32)), (.ref r0)])) _
      refine X0.baloadBytes hx (j := (0 : Int32)) (v := (.int x0)) (by rw [e0]; exact Ar6.1) (State.isArrayOf_alike hZ.alike Ar6.2.1) Ar6.2.2 hin6 hat6 (g := (mkF m 22 #[.val (.ref r0), .val (.int (1 : Int32)), .val (.int (0 : Int32))] [(.int (0 : Int32)), (.ref r0)])) rfl rfl (hb hby d1_22) _ ?_
      show Steps p.tables e below (s₁.setTop (mkF m 23 #[.val (.ref r0), .val (.int (1 : Int32)), .val (.int (0 : Int32))] [(.int x0)])) _
      refine XS.bipush X0.here hx rfl (hb hby d1_23) ?_
      exact kk)
    by_cases hc8 : x0 = (92 : Int32)
    · obtain ⟨cl9, Ar9, -, S9, Nn9, -, -⟩ := id Va
      obtain ⟨fs, hr, hrun, hended, hW, hsame⟩ := X0.leave (v := some (.int (0 : Int32))) (fun h => by rw [Bd.returns] at h; cases h)
      refine ⟨_, _, pre7 _ ?_, hrun, hended, _, _, rfl, ?_, ⟨_, rfl⟩, hW, hsame.mono (by decide) (by decide)⟩
      · show Steps p.tables e below (s₁.setTop (mkF m 25 #[.val (.ref r0), .val (.int (1 : Int32)), .val (.int (0 : Int32))] [(.int (92 : Int32)), (.int x0)])) _
        refine XS.icmpYes X0.here hx rfl (pc0 := 25) (pc' := 32) rfl (hb hby d1_25) rfl (teq hc8).1 (by decide) (by decide) ?_
        show Steps p.tables e below (s₁.setTop (mkF m 32 #[.val (.ref r0), .val (.int (1 : Int32)), .val (.int (0 : Int32))] [])) _
        refine XS.iconst X0.here hx rfl (hb hby d1_32) ?_
        show Steps p.tables e below (s₁.setTop (mkF m 33 #[.val (.ref r0), .val (.int (1 : Int32)), .val (.int (0 : Int32))] [(.int (0 : Int32))])) _
        refine XS.istoreN X0.here hx rfl (hb hby d1_33) rfl (l' := #[.val (.ref r0), .val (.int (0 : Int32)), .val (.int (0 : Int32))]) rfl ?_
        show Steps p.tables e below (s₁.setTop (mkF m 34 #[.val (.ref r0), .val (.int (0 : Int32)), .val (.int (0 : Int32))] [])) _
        refine XS.iinc X0.here hx rfl (hb hby d1_34) rfl (l' := #[.val (.ref r0), .val (.int (0 : Int32)), .val (.int (1 : Int32))]) rfl ?_
        show Steps p.tables e below (s₁.setTop (mkF m 37 #[.val (.ref r0), .val (.int (0 : Int32)), .val (.int (1 : Int32))] [])) _
        refine XS.goto X0.here hx rfl (pc0 := 37) (pc' := 4) rfl (hb hby d1_37) (by decide) (by decide) ?_
        show Steps p.tables e below (s₁.setTop (mkF m 4 #[.val (.ref r0), .val (.int (0 : Int32)), .val (.int (1 : Int32))] [])) _
        refine XS.iloadN X0.here hx rfl (hb hby d1_4) rfl ?_
        show Steps p.tables e below (s₁.setTop (mkF m 5 #[.val (.ref r0), .val (.int (0 : Int32)), .val (.int (1 : Int32))] [(.int (1 : Int32))])) _
        refine XS.aloadN X0.here hx rfl (hb hby d1_5) rfl rfl ?_
        show Steps p.tables e below (s₁.setTop (mkF m 6 #[.val (.ref r0), .val (.int (0 : Int32)), .val (.int (1 : Int32))] [(.ref r0), (.int (1 : Int32))])) _
        refine X0.arraylength hx (by rw [e0]; exact Ar9.1) (State.isArrayOf_alike hZ.alike Ar9.2.1) (g := (mkF m 6 #[.val (.ref r0), .val (.int (0 : Int32)), .val (.int (1 : Int32))] [(.ref r0), (.int (1 : Int32))])) rfl rfl (hb hby d1_6) _ ?_
        rw [len_of S9 Nn9]
        show Steps p.tables e below (s₁.setTop (mkF m 7 #[.val (.ref r0), .val (.int (0 : Int32)), .val (.int (1 : Int32))] [(.int (2 : Int32)), (.int (1 : Int32))])) _
        refine XS.icmpNo X0.here hx rfl (hb hby d1_7) rfl (tlt (by decide)).2.1 ?_
        show Steps p.tables e below (s₁.setTop (mkF m 10 #[.val (.ref r0), .val (.int (0 : Int32)), .val (.int (1 : Int32))] [])) _
        refine XS.iloadN X0.here hx rfl (hb hby d1_10) rfl ?_
        show Steps p.tables e below (s₁.setTop (mkF m 11 #[.val (.ref r0), .val (.int (0 : Int32)), .val (.int (1 : Int32))] [(.int (0 : Int32))])) _
        refine XS.ifYes X0.here hx rfl (pc0 := 11) (pc' := 40) rfl (hb hby d1_11) rfl ((if0 _ _).trans (teq (rfl : (0 : Int32) = (0 : Int32))).1) (by decide) (by decide) ?_
        show Steps p.tables e below (s₁.setTop (mkF m 40 #[.val (.ref r0), .val (.int (0 : Int32)), .val (.int (1 : Int32))] [])) _
        refine XS.iloadN X0.here hx rfl (hb hby d1_40) rfl ?_
        show Steps p.tables e below (s₁.setTop (mkF m 41 #[.val (.ref r0), .val (.int (0 : Int32)), .val (.int (1 : Int32))] [(.int (0 : Int32))])) _
        exact retN X0 hx (t := .boolean) Bd.returns (by simp) (hb hby d1_41) hr
      · show Q1_2 x0 x1 h0 n0 _ s₁.heap _
        rw [e0]
        exact ⟨congrArg (fun z => some (Value.int z)) (by unfold spl2; rw [if_neg hc4, if_pos hc8]), N0, rfl⟩
    · obtain ⟨cl10, Ar10, -, S10, Nn10, -, -⟩ := id Va
      obtain ⟨cl11, Ar11, -, S11, -, H11, -⟩ := id Va
      have hin11 : ¬ ((1 : Int32) < 0 ∨ cl11.slots.size ≤ ((1 : Int32)).toNatClampNeg) := inb_of S11 ⟨by decide, by decide⟩
      have hat11 : cl11.slots[((1 : Int32)).toNatClampNeg]? = some (.int x1) := Has.at H11 hin11 rfl
      have pre12 : ∀ t, Steps p.tables e below (s₁.setTop (mkF m 17 #[.val (.ref r0), .val (.int (1 : Int32)), .val (.int (1 : Int32))] [(.int x1)])) t → Steps p.tables e below (s₁.setTop (entryFrame m #[(.ref r0)] 3)) t := fun t kk => pre7 t (by
        show Steps p.tables e below (s₁.setTop (mkF m 25 #[.val (.ref r0), .val (.int (1 : Int32)), .val (.int (0 : Int32))] [(.int (92 : Int32)), (.int x0)])) _
        refine XS.icmpNo X0.here hx rfl (hb hby d1_25) rfl (feq hc8).1 ?_
        show Steps p.tables e below (s₁.setTop (mkF m 28 #[.val (.ref r0), .val (.int (1 : Int32)), .val (.int (0 : Int32))] [])) _
        refine XS.iconst X0.here hx rfl (hb hby d1_28) ?_
        show Steps p.tables e below (s₁.setTop (mkF m 29 #[.val (.ref r0), .val (.int (1 : Int32)), .val (.int (0 : Int32))] [(.int (1 : Int32))])) _
        refine XS.goto X0.here hx rfl (pc0 := 29) (pc' := 33) rfl (hb hby d1_29) (by decide) (by decide) ?_
        show Steps p.tables e below (s₁.setTop (mkF m 33 #[.val (.ref r0), .val (.int (1 : Int32)), .val (.int (0 : Int32))] [(.int (1 : Int32))])) _
        refine XS.istoreN X0.here hx rfl (hb hby d1_33) rfl (l' := #[.val (.ref r0), .val (.int (1 : Int32)), .val (.int (0 : Int32))]) rfl ?_
        show Steps p.tables e below (s₁.setTop (mkF m 34 #[.val (.ref r0), .val (.int (1 : Int32)), .val (.int (0 : Int32))] [])) _
        refine XS.iinc X0.here hx rfl (hb hby d1_34) rfl (l' := #[.val (.ref r0), .val (.int (1 : Int32)), .val (.int (1 : Int32))]) rfl ?_
        show Steps p.tables e below (s₁.setTop (mkF m 37 #[.val (.ref r0), .val (.int (1 : Int32)), .val (.int (1 : Int32))] [])) _
        refine XS.goto X0.here hx rfl (pc0 := 37) (pc' := 4) rfl (hb hby d1_37) (by decide) (by decide) ?_
        show Steps p.tables e below (s₁.setTop (mkF m 4 #[.val (.ref r0), .val (.int (1 : Int32)), .val (.int (1 : Int32))] [])) _
        refine XS.iloadN X0.here hx rfl (hb hby d1_4) rfl ?_
        show Steps p.tables e below (s₁.setTop (mkF m 5 #[.val (.ref r0), .val (.int (1 : Int32)), .val (.int (1 : Int32))] [(.int (1 : Int32))])) _
        refine XS.aloadN X0.here hx rfl (hb hby d1_5) rfl rfl ?_
        show Steps p.tables e below (s₁.setTop (mkF m 6 #[.val (.ref r0), .val (.int (1 : Int32)), .val (.int (1 : Int32))] [(.ref r0), (.int (1 : Int32))])) _
        refine X0.arraylength hx (by rw [e0]; exact Ar10.1) (State.isArrayOf_alike hZ.alike Ar10.2.1) (g := (mkF m 6 #[.val (.ref r0), .val (.int (1 : Int32)), .val (.int (1 : Int32))] [(.ref r0), (.int (1 : Int32))])) rfl rfl (hb hby d1_6) _ ?_
        rw [len_of S10 Nn10]
        show Steps p.tables e below (s₁.setTop (mkF m 7 #[.val (.ref r0), .val (.int (1 : Int32)), .val (.int (1 : Int32))] [(.int (2 : Int32)), (.int (1 : Int32))])) _
        refine XS.icmpNo X0.here hx rfl (hb hby d1_7) rfl (tlt (by decide)).2.1 ?_
        show Steps p.tables e below (s₁.setTop (mkF m 10 #[.val (.ref r0), .val (.int (1 : Int32)), .val (.int (1 : Int32))] [])) _
        refine XS.iloadN X0.here hx rfl (hb hby d1_10) rfl ?_
        show Steps p.tables e below (s₁.setTop (mkF m 11 #[.val (.ref r0), .val (.int (1 : Int32)), .val (.int (1 : Int32))] [(.int (1 : Int32))])) _
        refine XS.ifNo X0.here hx rfl (hb hby d1_11) rfl ((if0 _ _).trans (feq (by decide)).1) ?_
        show Steps p.tables e below (s₁.setTop (mkF m 14 #[.val (.ref r0), .val (.int (1 : Int32)), .val (.int (1 : Int32))] [])) _
        refine XS.aloadN X0.here hx rfl (hb hby d1_14) rfl rfl ?_
        show Steps p.tables e below (s₁.setTop (mkF m 15 #[.val (.ref r0), .val (.int (1 : Int32)), .val (.int (1 : Int32))] [(.ref r0)])) _
        refine XS.iloadN X0.here hx rfl (hb hby d1_15) rfl ?_
        show Steps p.tables e below (s₁.setTop (mkF m 16 #[.val (.ref r0), .val (.int (1 : Int32)), .val (.int (1 : Int32))] [(.int (1 : Int32)), (.ref r0)])) _
        refine X0.baloadBytes hx (j := (1 : Int32)) (v := (.int x1)) (by rw [e0]; exact Ar11.1) (State.isArrayOf_alike hZ.alike Ar11.2.1) Ar11.2.2 hin11 hat11 (g := (mkF m 16 #[.val (.ref r0), .val (.int (1 : Int32)), .val (.int (1 : Int32))] [(.int (1 : Int32)), (.ref r0)])) rfl rfl (hb hby d1_16) _ ?_
        exact kk)
      by_cases hc13 : x1 < (0 : Int32)
      · obtain ⟨cl14, Ar14, -, S14, Nn14, -, -⟩ := id Va
        obtain ⟨fs, hr, hrun, hended, hW, hsame⟩ := X0.leave (v := some (.int (0 : Int32))) (fun h => by rw [Bd.returns] at h; cases h)
        refine ⟨_, _, pre12 _ ?_, hrun, hended, _, _, rfl, ?_, ⟨_, rfl⟩, hW, hsame.mono (by decide) (by decide)⟩
        · show Steps p.tables e below (s₁.setTop (mkF m 17 #[.val (.ref r0), .val (.int (1 : Int32)), .val (.int (1 : Int32))] [(.int x1)])) _
          refine XS.ifYes X0.here hx rfl (pc0 := 17) (pc' := 32) rfl (hb hby d1_17) rfl ((if0 _ _).trans (tlt hc13).1) (by decide) (by decide) ?_
          show Steps p.tables e below (s₁.setTop (mkF m 32 #[.val (.ref r0), .val (.int (1 : Int32)), .val (.int (1 : Int32))] [])) _
          refine XS.iconst X0.here hx rfl (hb hby d1_32) ?_
          show Steps p.tables e below (s₁.setTop (mkF m 33 #[.val (.ref r0), .val (.int (1 : Int32)), .val (.int (1 : Int32))] [(.int (0 : Int32))])) _
          refine XS.istoreN X0.here hx rfl (hb hby d1_33) rfl (l' := #[.val (.ref r0), .val (.int (0 : Int32)), .val (.int (1 : Int32))]) rfl ?_
          show Steps p.tables e below (s₁.setTop (mkF m 34 #[.val (.ref r0), .val (.int (0 : Int32)), .val (.int (1 : Int32))] [])) _
          refine XS.iinc X0.here hx rfl (hb hby d1_34) rfl (l' := #[.val (.ref r0), .val (.int (0 : Int32)), .val (.int (2 : Int32))]) rfl ?_
          show Steps p.tables e below (s₁.setTop (mkF m 37 #[.val (.ref r0), .val (.int (0 : Int32)), .val (.int (2 : Int32))] [])) _
          refine XS.goto X0.here hx rfl (pc0 := 37) (pc' := 4) rfl (hb hby d1_37) (by decide) (by decide) ?_
          show Steps p.tables e below (s₁.setTop (mkF m 4 #[.val (.ref r0), .val (.int (0 : Int32)), .val (.int (2 : Int32))] [])) _
          refine XS.iloadN X0.here hx rfl (hb hby d1_4) rfl ?_
          show Steps p.tables e below (s₁.setTop (mkF m 5 #[.val (.ref r0), .val (.int (0 : Int32)), .val (.int (2 : Int32))] [(.int (2 : Int32))])) _
          refine XS.aloadN X0.here hx rfl (hb hby d1_5) rfl rfl ?_
          show Steps p.tables e below (s₁.setTop (mkF m 6 #[.val (.ref r0), .val (.int (0 : Int32)), .val (.int (2 : Int32))] [(.ref r0), (.int (2 : Int32))])) _
          refine X0.arraylength hx (by rw [e0]; exact Ar14.1) (State.isArrayOf_alike hZ.alike Ar14.2.1) (g := (mkF m 6 #[.val (.ref r0), .val (.int (0 : Int32)), .val (.int (2 : Int32))] [(.ref r0), (.int (2 : Int32))])) rfl rfl (hb hby d1_6) _ ?_
          rw [len_of S14 Nn14]
          show Steps p.tables e below (s₁.setTop (mkF m 7 #[.val (.ref r0), .val (.int (0 : Int32)), .val (.int (2 : Int32))] [(.int (2 : Int32)), (.int (2 : Int32))])) _
          refine XS.icmpYes X0.here hx rfl (pc0 := 7) (pc' := 40) rfl (hb hby d1_7) rfl (flt (by decide)).2.1 (by decide) (by decide) ?_
          show Steps p.tables e below (s₁.setTop (mkF m 40 #[.val (.ref r0), .val (.int (0 : Int32)), .val (.int (2 : Int32))] [])) _
          refine XS.iloadN X0.here hx rfl (hb hby d1_40) rfl ?_
          show Steps p.tables e below (s₁.setTop (mkF m 41 #[.val (.ref r0), .val (.int (0 : Int32)), .val (.int (2 : Int32))] [(.int (0 : Int32))])) _
          exact retN X0 hx (t := .boolean) Bd.returns (by simp) (hb hby d1_41) hr
        · show Q1_2 x0 x1 h0 n0 _ s₁.heap _
          rw [e0]
          exact ⟨congrArg (fun z => some (Value.int z)) (by unfold spl2; rw [if_neg hc4, if_neg hc8, if_pos hc13]), N0, rfl⟩
      · obtain ⟨cl15, Ar15, -, S15, -, H15, -⟩ := id Va
        have hin15 : ¬ ((1 : Int32) < 0 ∨ cl15.slots.size ≤ ((1 : Int32)).toNatClampNeg) := inb_of S15 ⟨by decide, by decide⟩
        have hat15 : cl15.slots[((1 : Int32)).toNatClampNeg]? = some (.int x1) := Has.at H15 hin15 rfl
        have pre16 : ∀ t, Steps p.tables e below (s₁.setTop (mkF m 25 #[.val (.ref r0), .val (.int (1 : Int32)), .val (.int (1 : Int32))] [(.int (92 : Int32)), (.int x1)])) t → Steps p.tables e below (s₁.setTop (entryFrame m #[(.ref r0)] 3)) t := fun t kk => pre12 t (by
          show Steps p.tables e below (s₁.setTop (mkF m 17 #[.val (.ref r0), .val (.int (1 : Int32)), .val (.int (1 : Int32))] [(.int x1)])) _
          refine XS.ifNo X0.here hx rfl (hb hby d1_17) rfl ((if0 _ _).trans (flt hc13).1) ?_
          show Steps p.tables e below (s₁.setTop (mkF m 20 #[.val (.ref r0), .val (.int (1 : Int32)), .val (.int (1 : Int32))] [])) _
          refine XS.aloadN X0.here hx rfl (hb hby d1_20) rfl rfl ?_
          show Steps p.tables e below (s₁.setTop (mkF m 21 #[.val (.ref r0), .val (.int (1 : Int32)), .val (.int (1 : Int32))] [(.ref r0)])) _
          refine XS.iloadN X0.here hx rfl (hb hby d1_21) rfl ?_
          show Steps p.tables e below (s₁.setTop (mkF m 22 #[.val (.ref r0), .val (.int (1 : Int32)), .val (.int (1 : Int32))] [(.int (1 : Int32)), (.ref r0)])) _
          refine X0.baloadBytes hx (j := (1 : Int32)) (v := (.int x1)) (by rw [e0]; exact Ar15.1) (State.isArrayOf_alike hZ.alike Ar15.2.1) Ar15.2.2 hin15 hat15 (g := (mkF m 22 #[.val (.ref r0), .val (.int (1 : Int32)), .val (.int (1 : Int32))] [(.int (1 : Int32)), (.ref r0)])) rfl rfl (hb hby d1_22) _ ?_
          show Steps p.tables e below (s₁.setTop (mkF m 23 #[.val (.ref r0), .val (.int (1 : Int32)), .val (.int (1 : Int32))] [(.int x1)])) _
          refine XS.bipush X0.here hx rfl (hb hby d1_23) ?_
          exact kk)
        by_cases hc17 : x1 = (92 : Int32)
        · obtain ⟨cl18, Ar18, -, S18, Nn18, -, -⟩ := id Va
          obtain ⟨fs, hr, hrun, hended, hW, hsame⟩ := X0.leave (v := some (.int (0 : Int32))) (fun h => by rw [Bd.returns] at h; cases h)
          refine ⟨_, _, pre16 _ ?_, hrun, hended, _, _, rfl, ?_, ⟨_, rfl⟩, hW, hsame.mono (by decide) (by decide)⟩
          · show Steps p.tables e below (s₁.setTop (mkF m 25 #[.val (.ref r0), .val (.int (1 : Int32)), .val (.int (1 : Int32))] [(.int (92 : Int32)), (.int x1)])) _
            refine XS.icmpYes X0.here hx rfl (pc0 := 25) (pc' := 32) rfl (hb hby d1_25) rfl (teq hc17).1 (by decide) (by decide) ?_
            show Steps p.tables e below (s₁.setTop (mkF m 32 #[.val (.ref r0), .val (.int (1 : Int32)), .val (.int (1 : Int32))] [])) _
            refine XS.iconst X0.here hx rfl (hb hby d1_32) ?_
            show Steps p.tables e below (s₁.setTop (mkF m 33 #[.val (.ref r0), .val (.int (1 : Int32)), .val (.int (1 : Int32))] [(.int (0 : Int32))])) _
            refine XS.istoreN X0.here hx rfl (hb hby d1_33) rfl (l' := #[.val (.ref r0), .val (.int (0 : Int32)), .val (.int (1 : Int32))]) rfl ?_
            show Steps p.tables e below (s₁.setTop (mkF m 34 #[.val (.ref r0), .val (.int (0 : Int32)), .val (.int (1 : Int32))] [])) _
            refine XS.iinc X0.here hx rfl (hb hby d1_34) rfl (l' := #[.val (.ref r0), .val (.int (0 : Int32)), .val (.int (2 : Int32))]) rfl ?_
            show Steps p.tables e below (s₁.setTop (mkF m 37 #[.val (.ref r0), .val (.int (0 : Int32)), .val (.int (2 : Int32))] [])) _
            refine XS.goto X0.here hx rfl (pc0 := 37) (pc' := 4) rfl (hb hby d1_37) (by decide) (by decide) ?_
            show Steps p.tables e below (s₁.setTop (mkF m 4 #[.val (.ref r0), .val (.int (0 : Int32)), .val (.int (2 : Int32))] [])) _
            refine XS.iloadN X0.here hx rfl (hb hby d1_4) rfl ?_
            show Steps p.tables e below (s₁.setTop (mkF m 5 #[.val (.ref r0), .val (.int (0 : Int32)), .val (.int (2 : Int32))] [(.int (2 : Int32))])) _
            refine XS.aloadN X0.here hx rfl (hb hby d1_5) rfl rfl ?_
            show Steps p.tables e below (s₁.setTop (mkF m 6 #[.val (.ref r0), .val (.int (0 : Int32)), .val (.int (2 : Int32))] [(.ref r0), (.int (2 : Int32))])) _
            refine X0.arraylength hx (by rw [e0]; exact Ar18.1) (State.isArrayOf_alike hZ.alike Ar18.2.1) (g := (mkF m 6 #[.val (.ref r0), .val (.int (0 : Int32)), .val (.int (2 : Int32))] [(.ref r0), (.int (2 : Int32))])) rfl rfl (hb hby d1_6) _ ?_
            rw [len_of S18 Nn18]
            show Steps p.tables e below (s₁.setTop (mkF m 7 #[.val (.ref r0), .val (.int (0 : Int32)), .val (.int (2 : Int32))] [(.int (2 : Int32)), (.int (2 : Int32))])) _
            refine XS.icmpYes X0.here hx rfl (pc0 := 7) (pc' := 40) rfl (hb hby d1_7) rfl (flt (by decide)).2.1 (by decide) (by decide) ?_
            show Steps p.tables e below (s₁.setTop (mkF m 40 #[.val (.ref r0), .val (.int (0 : Int32)), .val (.int (2 : Int32))] [])) _
            refine XS.iloadN X0.here hx rfl (hb hby d1_40) rfl ?_
            show Steps p.tables e below (s₁.setTop (mkF m 41 #[.val (.ref r0), .val (.int (0 : Int32)), .val (.int (2 : Int32))] [(.int (0 : Int32))])) _
            exact retN X0 hx (t := .boolean) Bd.returns (by simp) (hb hby d1_41) hr
          · show Q1_2 x0 x1 h0 n0 _ s₁.heap _
            rw [e0]
            exact ⟨congrArg (fun z => some (Value.int z)) (by unfold spl2; rw [if_neg hc4, if_neg hc8, if_neg hc13, if_pos hc17]), N0, rfl⟩
        · obtain ⟨cl19, Ar19, -, S19, Nn19, -, -⟩ := id Va
          obtain ⟨fs, hr, hrun, hended, hW, hsame⟩ := X0.leave (v := some (.int (1 : Int32))) (fun h => by rw [Bd.returns] at h; cases h)
          refine ⟨_, _, pre16 _ ?_, hrun, hended, _, _, rfl, ?_, ⟨_, rfl⟩, hW, hsame.mono (by decide) (by decide)⟩
          · show Steps p.tables e below (s₁.setTop (mkF m 25 #[.val (.ref r0), .val (.int (1 : Int32)), .val (.int (1 : Int32))] [(.int (92 : Int32)), (.int x1)])) _
            refine XS.icmpNo X0.here hx rfl (hb hby d1_25) rfl (feq hc17).1 ?_
            show Steps p.tables e below (s₁.setTop (mkF m 28 #[.val (.ref r0), .val (.int (1 : Int32)), .val (.int (1 : Int32))] [])) _
            refine XS.iconst X0.here hx rfl (hb hby d1_28) ?_
            show Steps p.tables e below (s₁.setTop (mkF m 29 #[.val (.ref r0), .val (.int (1 : Int32)), .val (.int (1 : Int32))] [(.int (1 : Int32))])) _
            refine XS.goto X0.here hx rfl (pc0 := 29) (pc' := 33) rfl (hb hby d1_29) (by decide) (by decide) ?_
            show Steps p.tables e below (s₁.setTop (mkF m 33 #[.val (.ref r0), .val (.int (1 : Int32)), .val (.int (1 : Int32))] [(.int (1 : Int32))])) _
            refine XS.istoreN X0.here hx rfl (hb hby d1_33) rfl (l' := #[.val (.ref r0), .val (.int (1 : Int32)), .val (.int (1 : Int32))]) rfl ?_
            show Steps p.tables e below (s₁.setTop (mkF m 34 #[.val (.ref r0), .val (.int (1 : Int32)), .val (.int (1 : Int32))] [])) _
            refine XS.iinc X0.here hx rfl (hb hby d1_34) rfl (l' := #[.val (.ref r0), .val (.int (1 : Int32)), .val (.int (2 : Int32))]) rfl ?_
            show Steps p.tables e below (s₁.setTop (mkF m 37 #[.val (.ref r0), .val (.int (1 : Int32)), .val (.int (2 : Int32))] [])) _
            refine XS.goto X0.here hx rfl (pc0 := 37) (pc' := 4) rfl (hb hby d1_37) (by decide) (by decide) ?_
            show Steps p.tables e below (s₁.setTop (mkF m 4 #[.val (.ref r0), .val (.int (1 : Int32)), .val (.int (2 : Int32))] [])) _
            refine XS.iloadN X0.here hx rfl (hb hby d1_4) rfl ?_
            show Steps p.tables e below (s₁.setTop (mkF m 5 #[.val (.ref r0), .val (.int (1 : Int32)), .val (.int (2 : Int32))] [(.int (2 : Int32))])) _
            refine XS.aloadN X0.here hx rfl (hb hby d1_5) rfl rfl ?_
            show Steps p.tables e below (s₁.setTop (mkF m 6 #[.val (.ref r0), .val (.int (1 : Int32)), .val (.int (2 : Int32))] [(.ref r0), (.int (2 : Int32))])) _
            refine X0.arraylength hx (by rw [e0]; exact Ar19.1) (State.isArrayOf_alike hZ.alike Ar19.2.1) (g := (mkF m 6 #[.val (.ref r0), .val (.int (1 : Int32)), .val (.int (2 : Int32))] [(.ref r0), (.int (2 : Int32))])) rfl rfl (hb hby d1_6) _ ?_
            rw [len_of S19 Nn19]
            show Steps p.tables e below (s₁.setTop (mkF m 7 #[.val (.ref r0), .val (.int (1 : Int32)), .val (.int (2 : Int32))] [(.int (2 : Int32)), (.int (2 : Int32))])) _
            refine XS.icmpYes X0.here hx rfl (pc0 := 7) (pc' := 40) rfl (hb hby d1_7) rfl (flt (by decide)).2.1 (by decide) (by decide) ?_
            show Steps p.tables e below (s₁.setTop (mkF m 40 #[.val (.ref r0), .val (.int (1 : Int32)), .val (.int (2 : Int32))] [])) _
            refine XS.iloadN X0.here hx rfl (hb hby d1_40) rfl ?_
            show Steps p.tables e below (s₁.setTop (mkF m 41 #[.val (.ref r0), .val (.int (1 : Int32)), .val (.int (2 : Int32))] [(.int (1 : Int32))])) _
            exact retN X0 hx (t := .boolean) Bd.returns (by simp) (hb hby d1_41) hr
          · show Q1_2 x0 x1 h0 n0 _ s₁.heap _
            rw [e0]
            exact ⟨congrArg (fun z => some (Value.int z)) (by unfold spl2; rw [if_neg hc4, if_neg hc8, if_neg hc13, if_neg hc17]), N0, rfl⟩
def spl3 (x0 x1 x2 : Int32) : Int32 := (if x0 < (0 : Int32) then (0 : Int32) else (if x0 = (92 : Int32) then (0 : Int32) else (if x1 < (0 : Int32) then (0 : Int32) else (if x1 = (92 : Int32) then (0 : Int32) else (if x2 < (0 : Int32) then (0 : Int32) else (if x2 = (92 : Int32) then (0 : Int32) else (1 : Int32)))))))
def Q1_3 (x0 x1 x2 : Int32) (h0 : Heap) (n0 : Nat) (v : Option Value) (h : Heap) (L : List Loc) : Prop := v = some (.int (spl3 x0 x1 x2)) ∧ Fr n0 L ∧ h = h0
theorem ef_1_3 (m : MethodId) (r0 : Addr) : entryFrame m #[(.ref r0)] 3 = mkF m 0 #[.val (.ref r0), .unset, .unset] [] := by first | (simp [entryFrame, mkF, argsToLocals, Value.category]; done) | rfl
set_option maxRecDepth 65536 in
set_option maxHeartbeats 40000000 in
theorem rm1_3 (l : Launch) (Z : State) (a0 : Array Value) (hw : ∀ d ∈ tables_1, d.before a0 Z = true) (ws : List Jvm.Cond) (r0 : Addr) (kA : ClassId) (x0 x1 x2 : Int32) (h0 : Heap) (n0 : Nat) (Z0 : n0 ≤ h0.size) (Va : Arv Z h0 r0 kA .byte (3 : Int32) [(.int x0), (.int x1), (.int x2)] (.int (0 : Int32))) :
    MetFree l (⟨"com/example/onesnap/onesnap/node/SqlLexer", "splitsAlikeUnderAnySettings", "([B)Z"⟩ : MethodName) (head1 (Jvm.Cond.code (⟨"com/example/onesnap/onesnap/node/SqlLexer", "splitsAlikeUnderAnySettings", "([B)Z"⟩ : MethodName) prog_40_method_3_code 3 (some .boolean) :: ws) ({ frames := 0, cells := 0, slots := 0, locals := 0 } : Room)) (fun a U => a = #[(.ref r0)] ∧ Z.Warmed39 U.vm ∧ U.heap = h0) (fun _ _ _ _ _ => True) (fun _ U o U' => ∃ v L, o = .returned v ∧ Q1_3 x0 x1 x2 h0 n0 v U'.heap L ∧ FrameEnd U o U' L ({ frames := 0, cells := 0, slots := 0, locals := 0 } : Room).cells ({ frames := 0, cells := 0, slots := 0, locals := 0 } : Room).slots) := by
  refine MetFree.of_bodySF (plainFor_of_name pn_com_example_onesnap_onesnap_node_SqlLexer) hisR ?_
  intro p e s m args below meth c s₁ Bd hml0 hP hK
  obtain ⟨rfl, hZ, hh⟩ := hP
  have hx := Bd.exec
  have hby := Bd.bytes
  have hml : c.maxLocals = 3 := hml0
  have hown : s.vm.findClass "com/example/onesnap/onesnap/node/SqlLexer" = some m.cls := findClass_of_methodNamed Bd.named
  have hnm := (name_of_methodNamed Bd.named Bd.method).1
  have X0 : Stand p l e ({ frames := 0, cells := 0, slots := 0, locals := 0 } : Room) s m #[(.ref r0)] below meth c s₁ [] 0 0 := Stand.of_body Bd
  have e0 : s₁.heap = h0 := by rw [← hh, Bd.state]; rfl
  have N0 := Fr.nil n0
  have pre0 : ∀ t, Steps p.tables e below (s₁.setTop (mkF m 0 #[.val (.ref r0), .unset, .unset] [])) t → Steps p.tables e below (s₁.setTop (entryFrame m #[(.ref r0)] 3)) t := fun t k => castTop (ef_1_3 m r0) k
  obtain ⟨cl1, Ar1, -, S1, Nn1, -, -⟩ := id Va
  obtain ⟨cl2, Ar2, -, S2, -, H2, -⟩ := id Va
  have hin2 : ¬ ((0 : Int32) < 0 ∨ cl2.slots.size ≤ ((0 : Int32)).toNatClampNeg) := inb_of S2 ⟨by decide, by decide⟩
  have hat2 : cl2.slots[((0 : Int32)).toNatClampNeg]? = some (.int x0) := Has.at H2 hin2 rfl
  have pre3 : ∀ t, Steps p.tables e below (s₁.setTop (mkF m 17 #[.val (.ref r0), .val (.int (1 : Int32)), .val (.int (0 : Int32))] [(.int x0)])) t → Steps p.tables e below (s₁.setTop (entryFrame m #[(.ref r0)] 3)) t := fun t kk => pre0 t (by
    show Steps p.tables e below (s₁.setTop (mkF m 0 #[.val (.ref r0), .unset, .unset] [])) _
    refine XS.iconst X0.here hx rfl (hb hby d1_0) ?_
    show Steps p.tables e below (s₁.setTop (mkF m 1 #[.val (.ref r0), .unset, .unset] [(.int (1 : Int32))])) _
    refine XS.istoreN X0.here hx rfl (hb hby d1_1) rfl (l' := #[.val (.ref r0), .val (.int (1 : Int32)), .unset]) rfl ?_
    show Steps p.tables e below (s₁.setTop (mkF m 2 #[.val (.ref r0), .val (.int (1 : Int32)), .unset] [])) _
    refine XS.iconst X0.here hx rfl (hb hby d1_2) ?_
    show Steps p.tables e below (s₁.setTop (mkF m 3 #[.val (.ref r0), .val (.int (1 : Int32)), .unset] [(.int (0 : Int32))])) _
    refine XS.istoreN X0.here hx rfl (hb hby d1_3) rfl (l' := #[.val (.ref r0), .val (.int (1 : Int32)), .val (.int (0 : Int32))]) rfl ?_
    show Steps p.tables e below (s₁.setTop (mkF m 4 #[.val (.ref r0), .val (.int (1 : Int32)), .val (.int (0 : Int32))] [])) _
    refine XS.iloadN X0.here hx rfl (hb hby d1_4) rfl ?_
    show Steps p.tables e below (s₁.setTop (mkF m 5 #[.val (.ref r0), .val (.int (1 : Int32)), .val (.int (0 : Int32))] [(.int (0 : Int32))])) _
    refine XS.aloadN X0.here hx rfl (hb hby d1_5) rfl rfl ?_
    show Steps p.tables e below (s₁.setTop (mkF m 6 #[.val (.ref r0), .val (.int (1 : Int32)), .val (.int (0 : Int32))] [(.ref r0), (.int (0 : Int32))])) _
    refine X0.arraylength hx (by rw [e0]; exact Ar1.1) (State.isArrayOf_alike hZ.alike Ar1.2.1) (g := (mkF m 6 #[.val (.ref r0), .val (.int (1 : Int32)), .val (.int (0 : Int32))] [(.ref r0), (.int (0 : Int32))])) rfl rfl (hb hby d1_6) _ ?_
    rw [len_of S1 Nn1]
    show Steps p.tables e below (s₁.setTop (mkF m 7 #[.val (.ref r0), .val (.int (1 : Int32)), .val (.int (0 : Int32))] [(.int (3 : Int32)), (.int (0 : Int32))])) _
    refine XS.icmpNo X0.here hx rfl (hb hby d1_7) rfl (tlt (by decide)).2.1 ?_
    show Steps p.tables e below (s₁.setTop (mkF m 10 #[.val (.ref r0), .val (.int (1 : Int32)), .val (.int (0 : Int32))] [])) _
    refine XS.iloadN X0.here hx rfl (hb hby d1_10) rfl ?_
    show Steps p.tables e below (s₁.setTop (mkF m 11 #[.val (.ref r0), .val (.int (1 : Int32)), .val (.int (0 : Int32))] [(.int (1 : Int32))])) _
    refine XS.ifNo X0.here hx rfl (hb hby d1_11) rfl ((if0 _ _).trans (feq (by decide)).1) ?_
    show Steps p.tables e below (s₁.setTop (mkF m 14 #[.val (.ref r0), .val (.int (1 : Int32)), .val (.int (0 : Int32))] [])) _
    refine XS.aloadN X0.here hx rfl (hb hby d1_14) rfl rfl ?_
    show Steps p.tables e below (s₁.setTop (mkF m 15 #[.val (.ref r0), .val (.int (1 : Int32)), .val (.int (0 : Int32))] [(.ref r0)])) _
    refine XS.iloadN X0.here hx rfl (hb hby d1_15) rfl ?_
    show Steps p.tables e below (s₁.setTop (mkF m 16 #[.val (.ref r0), .val (.int (1 : Int32)), .val (.int (0 : Int32))] [(.int (0 : Int32)), (.ref r0)])) _
    refine X0.baloadBytes hx (j := (0 : Int32)) (v := (.int x0)) (by rw [e0]; exact Ar2.1) (State.isArrayOf_alike hZ.alike Ar2.2.1) Ar2.2.2 hin2 hat2 (g := (mkF m 16 #[.val (.ref r0), .val (.int (1 : Int32)), .val (.int (0 : Int32))] [(.int (0 : Int32)), (.ref r0)])) rfl rfl (hb hby d1_16) _ ?_
    exact kk)
  by_cases hc4 : x0 < (0 : Int32)
  · obtain ⟨cl5, Ar5, -, S5, Nn5, -, -⟩ := id Va
    obtain ⟨fs, hr, hrun, hended, hW, hsame⟩ := X0.leave (v := some (.int (0 : Int32))) (fun h => by rw [Bd.returns] at h; cases h)
    refine ⟨_, _, pre3 _ ?_, hrun, hended, _, _, rfl, ?_, ⟨_, rfl⟩, hW, hsame.mono (by decide) (by decide)⟩
    · show Steps p.tables e below (s₁.setTop (mkF m 17 #[.val (.ref r0), .val (.int (1 : Int32)), .val (.int (0 : Int32))] [(.int x0)])) _
      refine XS.ifYes X0.here hx rfl (pc0 := 17) (pc' := 32) rfl (hb hby d1_17) rfl ((if0 _ _).trans (tlt hc4).1) (by decide) (by decide) ?_
      show Steps p.tables e below (s₁.setTop (mkF m 32 #[.val (.ref r0), .val (.int (1 : Int32)), .val (.int (0 : Int32))] [])) _
      refine XS.iconst X0.here hx rfl (hb hby d1_32) ?_
      show Steps p.tables e below (s₁.setTop (mkF m 33 #[.val (.ref r0), .val (.int (1 : Int32)), .val (.int (0 : Int32))] [(.int (0 : Int32))])) _
      refine XS.istoreN X0.here hx rfl (hb hby d1_33) rfl (l' := #[.val (.ref r0), .val (.int (0 : Int32)), .val (.int (0 : Int32))]) rfl ?_
      show Steps p.tables e below (s₁.setTop (mkF m 34 #[.val (.ref r0), .val (.int (0 : Int32)), .val (.int (0 : Int32))] [])) _
      refine XS.iinc X0.here hx rfl (hb hby d1_34) rfl (l' := #[.val (.ref r0), .val (.int (0 : Int32)), .val (.int (1 : Int32))]) rfl ?_
      show Steps p.tables e below (s₁.setTop (mkF m 37 #[.val (.ref r0), .val (.int (0 : Int32)), .val (.int (1 : Int32))] [])) _
      refine XS.goto X0.here hx rfl (pc0 := 37) (pc' := 4) rfl (hb hby d1_37) (by decide) (by decide) ?_
      show Steps p.tables e below (s₁.setTop (mkF m 4 #[.val (.ref r0), .val (.int (0 : Int32)), .val (.int (1 : Int32))] [])) _
      refine XS.iloadN X0.here hx rfl (hb hby d1_4) rfl ?_
      show Steps p.tables e below (s₁.setTop (mkF m 5 #[.val (.ref r0), .val (.int (0 : Int32)), .val (.int (1 : Int32))] [(.int (1 : Int32))])) _
      refine XS.aloadN X0.here hx rfl (hb hby d1_5) rfl rfl ?_
      show Steps p.tables e below (s₁.setTop (mkF m 6 #[.val (.ref r0), .val (.int (0 : Int32)), .val (.int (1 : Int32))] [(.ref r0), (.int (1 : Int32))])) _
      refine X0.arraylength hx (by rw [e0]; exact Ar5.1) (State.isArrayOf_alike hZ.alike Ar5.2.1) (g := (mkF m 6 #[.val (.ref r0), .val (.int (0 : Int32)), .val (.int (1 : Int32))] [(.ref r0), (.int (1 : Int32))])) rfl rfl (hb hby d1_6) _ ?_
      rw [len_of S5 Nn5]
      show Steps p.tables e below (s₁.setTop (mkF m 7 #[.val (.ref r0), .val (.int (0 : Int32)), .val (.int (1 : Int32))] [(.int (3 : Int32)), (.int (1 : Int32))])) _
      refine XS.icmpNo X0.here hx rfl (hb hby d1_7) rfl (tlt (by decide)).2.1 ?_
      show Steps p.tables e below (s₁.setTop (mkF m 10 #[.val (.ref r0), .val (.int (0 : Int32)), .val (.int (1 : Int32))] [])) _
      refine XS.iloadN X0.here hx rfl (hb hby d1_10) rfl ?_
      show Steps p.tables e below (s₁.setTop (mkF m 11 #[.val (.ref r0), .val (.int (0 : Int32)), .val (.int (1 : Int32))] [(.int (0 : Int32))])) _
      refine XS.ifYes X0.here hx rfl (pc0 := 11) (pc' := 40) rfl (hb hby d1_11) rfl ((if0 _ _).trans (teq (rfl : (0 : Int32) = (0 : Int32))).1) (by decide) (by decide) ?_
      show Steps p.tables e below (s₁.setTop (mkF m 40 #[.val (.ref r0), .val (.int (0 : Int32)), .val (.int (1 : Int32))] [])) _
      refine XS.iloadN X0.here hx rfl (hb hby d1_40) rfl ?_
      show Steps p.tables e below (s₁.setTop (mkF m 41 #[.val (.ref r0), .val (.int (0 : Int32)), .val (.int (1 : Int32))] [(.int (0 : Int32))])) _
      exact retN X0 hx (t := .boolean) Bd.returns (by simp) (hb hby d1_41) hr
    · show Q1_3 x0 x1 x2 h0 n0 _ s₁.heap _
      rw [e0]
      exact ⟨congrArg (fun z => some (Value.int z)) (by unfold spl3; rw [if_pos hc4]), N0, rfl⟩
  · obtain ⟨cl6, Ar6, -, S6, -, H6, -⟩ := id Va
    have hin6 : ¬ ((0 : Int32) < 0 ∨ cl6.slots.size ≤ ((0 : Int32)).toNatClampNeg) := inb_of S6 ⟨by decide, by decide⟩
    have hat6 : cl6.slots[((0 : Int32)).toNatClampNeg]? = some (.int x0) := Has.at H6 hin6 rfl
    have pre7 : ∀ t, Steps p.tables e below (s₁.setTop (mkF m 25 #[.val (.ref r0), .val (.int (1 : Int32)), .val (.int (0 : Int32))] [(.int (92 : Int32)), (.int x0)])) t → Steps p.tables e below (s₁.setTop (entryFrame m #[(.ref r0)] 3)) t := fun t kk => pre3 t (by
      show Steps p.tables e below (s₁.setTop (mkF m 17 #[.val (.ref r0), .val (.int (1 : Int32)), .val (.int (0 : Int32))] [(.int x0)])) _
      refine XS.ifNo X0.here hx rfl (hb hby d1_17) rfl ((if0 _ _).trans (flt hc4).1) ?_
      show Steps p.tables e below (s₁.setTop (mkF m 20 #[.val (.ref r0), .val (.int (1 : Int32)), .val (.int (0 : Int32))] [])) _
      refine XS.aloadN X0.here hx rfl (hb hby d1_20) rfl rfl ?_
      show Steps p.tables e below (s₁.setTop (mkF m 21 #[.val (.ref r0), .val (.int (1 : Int32)), .val (.int (0 : Int32))] [(.ref r0)])) _
      refine XS.iloadN X0.here hx rfl (hb hby d1_21) rfl ?_
      show Steps p.tables e below (s₁.setTop (mkF m 22 #[.val (.ref r0), .val (.int (1 : Int32)), .val (.int (0 : Int32))] [(.int (0 : Int32)), (.ref r0)])) _
      refine X0.baloadBytes hx (j := (0 : Int32)) (v := (.int x0)) (by rw [e0]; exact Ar6.1) (State.isArrayOf_alike hZ.alike Ar6.2.1) Ar6.2.2 hin6 hat6 (g := (mkF m 22 #[.val (.ref r0), .val (.int (1 : Int32)), .val (.int (0 : Int32))] [(.int (0 : Int32)), (.ref r0)])) rfl rfl (hb hby d1_22) _ ?_
      show Steps p.tables e below (s₁.setTop (mkF m 23 #[.val (.ref r0), .val (.int (1 : Int32)), .val (.int (0 : Int32))] [(.int x0)])) _
      refine XS.bipush X0.here hx rfl (hb hby d1_23) ?_
      exact kk)
    by_cases hc8 : x0 = (92 : Int32)
    · obtain ⟨cl9, Ar9, -, S9, Nn9, -, -⟩ := id Va
      obtain ⟨fs, hr, hrun, hended, hW, hsame⟩ := X0.leave (v := some (.int (0 : Int32))) (fun h => by rw [Bd.returns] at h; cases h)
      refine ⟨_, _, pre7 _ ?_, hrun, hended, _, _, rfl, ?_, ⟨_, rfl⟩, hW, hsame.mono (by decide) (by decide)⟩
      · show Steps p.tables e below (s₁.setTop (mkF m 25 #[.val (.ref r0), .val (.int (1 : Int32)), .val (.int (0 : Int32))] [(.int (92 : Int32)), (.int x0)])) _
        refine XS.icmpYes X0.here hx rfl (pc0 := 25) (pc' := 32) rfl (hb hby d1_25) rfl (teq hc8).1 (by decide) (by decide) ?_
        show Steps p.tables e below (s₁.setTop (mkF m 32 #[.val (.ref r0), .val (.int (1 : Int32)), .val (.int (0 : Int32))] [])) _
        refine XS.iconst X0.here hx rfl (hb hby d1_32) ?_
        show Steps p.tables e below (s₁.setTop (mkF m 33 #[.val (.ref r0), .val (.int (1 : Int32)), .val (.int (0 : Int32))] [(.int (0 : Int32))])) _
        refine XS.istoreN X0.here hx rfl (hb hby d1_33) rfl (l' := #[.val (.ref r0), .val (.int (0 : Int32)), .val (.int (0 : Int32))]) rfl ?_
        show Steps p.tables e below (s₁.setTop (mkF m 34 #[.val (.ref r0), .val (.int (0 : Int32)), .val (.int (0 : Int32))] [])) _
        refine XS.iinc X0.here hx rfl (hb hby d1_34) rfl (l' := #[.val (.ref r0), .val (.int (0 : Int32)), .val (.int (1 : Int32))]) rfl ?_
        show Steps p.tables e below (s₁.setTop (mkF m 37 #[.val (.ref r0), .val (.int (0 : Int32)), .val (.int (1 : Int32))] [])) _
        refine XS.goto X0.here hx rfl (pc0 := 37) (pc' := 4) rfl (hb hby d1_37) (by decide) (by decide) ?_
        show Steps p.tables e below (s₁.setTop (mkF m 4 #[.val (.ref r0), .val (.int (0 : Int32)), .val (.int (1 : Int32))] [])) _
        refine XS.iloadN X0.here hx rfl (hb hby d1_4) rfl ?_
        show Steps p.tables e below (s₁.setTop (mkF m 5 #[.val (.ref r0), .val (.int (0 : Int32)), .val (.int (1 : Int32))] [(.int (1 : Int32))])) _
        refine XS.aloadN X0.here hx rfl (hb hby d1_5) rfl rfl ?_
        show Steps p.tables e below (s₁.setTop (mkF m 6 #[.val (.ref r0), .val (.int (0 : Int32)), .val (.int (1 : Int32))] [(.ref r0), (.int (1 : Int32))])) _
        refine X0.arraylength hx (by rw [e0]; exact Ar9.1) (State.isArrayOf_alike hZ.alike Ar9.2.1) (g := (mkF m 6 #[.val (.ref r0), .val (.int (0 : Int32)), .val (.int (1 : Int32))] [(.ref r0), (.int (1 : Int32))])) rfl rfl (hb hby d1_6) _ ?_
        rw [len_of S9 Nn9]
        show Steps p.tables e below (s₁.setTop (mkF m 7 #[.val (.ref r0), .val (.int (0 : Int32)), .val (.int (1 : Int32))] [(.int (3 : Int32)), (.int (1 : Int32))])) _
        refine XS.icmpNo X0.here hx rfl (hb hby d1_7) rfl (tlt (by decide)).2.1 ?_
        show Steps p.tables e below (s₁.setTop (mkF m 10 #[.val (.ref r0), .val (.int (0 : Int32)), .val (.int (1 : Int32))] [])) _
        refine XS.iloadN X0.here hx rfl (hb hby d1_10) rfl ?_
        show Steps p.tables e below (s₁.setTop (mkF m 11 #[.val (.ref r0), .val (.int (0 : Int32)), .val (.int (1 : Int32))] [(.int (0 : Int32))])) _
        refine XS.ifYes X0.here hx rfl (pc0 := 11) (pc' := 40) rfl (hb hby d1_11) rfl ((if0 _ _).trans (teq (rfl : (0 : Int32) = (0 : Int32))).1) (by decide) (by decide) ?_
        show Steps p.tables e below (s₁.setTop (mkF m 40 #[.val (.ref r0), .val (.int (0 : Int32)), .val (.int (1 : Int32))] [])) _
        refine XS.iloadN X0.here hx rfl (hb hby d1_40) rfl ?_
        show Steps p.tables e below (s₁.setTop (mkF m 41 #[.val (.ref r0), .val (.int (0 : Int32)), .val (.int (1 : Int32))] [(.int (0 : Int32))])) _
        exact retN X0 hx (t := .boolean) Bd.returns (by simp) (hb hby d1_41) hr
      · show Q1_3 x0 x1 x2 h0 n0 _ s₁.heap _
        rw [e0]
        exact ⟨congrArg (fun z => some (Value.int z)) (by unfold spl3; rw [if_neg hc4, if_pos hc8]), N0, rfl⟩
    · obtain ⟨cl10, Ar10, -, S10, Nn10, -, -⟩ := id Va
      obtain ⟨cl11, Ar11, -, S11, -, H11, -⟩ := id Va
      have hin11 : ¬ ((1 : Int32) < 0 ∨ cl11.slots.size ≤ ((1 : Int32)).toNatClampNeg) := inb_of S11 ⟨by decide, by decide⟩
      have hat11 : cl11.slots[((1 : Int32)).toNatClampNeg]? = some (.int x1) := Has.at H11 hin11 rfl
      have pre12 : ∀ t, Steps p.tables e below (s₁.setTop (mkF m 17 #[.val (.ref r0), .val (.int (1 : Int32)), .val (.int (1 : Int32))] [(.int x1)])) t → Steps p.tables e below (s₁.setTop (entryFrame m #[(.ref r0)] 3)) t := fun t kk => pre7 t (by
        show Steps p.tables e below (s₁.setTop (mkF m 25 #[.val (.ref r0), .val (.int (1 : Int32)), .val (.int (0 : Int32))] [(.int (92 : Int32)), (.int x0)])) _
        refine XS.icmpNo X0.here hx rfl (hb hby d1_25) rfl (feq hc8).1 ?_
        show Steps p.tables e below (s₁.setTop (mkF m 28 #[.val (.ref r0), .val (.int (1 : Int32)), .val (.int (0 : Int32))] [])) _
        refine XS.iconst X0.here hx rfl (hb hby d1_28) ?_
        show Steps p.tables e below (s₁.setTop (mkF m 29 #[.val (.ref r0), .val (.int (1 : Int32)), .val (.int (0 : Int32))] [(.int (1 : Int32))])) _
        refine XS.goto X0.here hx rfl (pc0 := 29) (pc' := 33) rfl (hb hby d1_29) (by decide) (by decide) ?_
        show Steps p.tables e below (s₁.setTop (mkF m 33 #[.val (.ref r0), .val (.int (1 : Int32)), .val (.int (0 : Int32))] [(.int (1 : Int32))])) _
        refine XS.istoreN X0.here hx rfl (hb hby d1_33) rfl (l' := #[.val (.ref r0), .val (.int (1 : Int32)), .val (.int (0 : Int32))]) rfl ?_
        show Steps p.tables e below (s₁.setTop (mkF m 34 #[.val (.ref r0), .val (.int (1 : Int32)), .val (.int (0 : Int32))] [])) _
        refine XS.iinc X0.here hx rfl (hb hby d1_34) rfl (l' := #[.val (.ref r0), .val (.int (1 : Int32)), .val (.int (1 : Int32))]) rfl ?_
        show Steps p.tables e below (s₁.setTop (mkF m 37 #[.val (.ref r0), .val (.int (1 : Int32)), .val (.int (1 : Int32))] [])) _
        refine XS.goto X0.here hx rfl (pc0 := 37) (pc' := 4) rfl (hb hby d1_37) (by decide) (by decide) ?_
        show Steps p.tables e below (s₁.setTop (mkF m 4 #[.val (.ref r0), .val (.int (1 : Int32)), .val (.int (1 : Int32))] [])) _
        refine XS.iloadN X0.here hx rfl (hb hby d1_4) rfl ?_
        show Steps p.tables e below (s₁.setTop (mkF m 5 #[.val (.ref r0), .val (.int (1 : Int32)), .val (.int (1 : Int32))] [(.int (1 : Int32))])) _
        refine XS.aloadN X0.here hx rfl (hb hby d1_5) rfl rfl ?_
        show Steps p.tables e below (s₁.setTop (mkF m 6 #[.val (.ref r0), .val (.int (1 : Int32)), .val (.int (1 : Int32))] [(.ref r0), (.int (1 : Int32))])) _
        refine X0.arraylength hx (by rw [e0]; exact Ar10.1) (State.isArrayOf_alike hZ.alike Ar10.2.1) (g := (mkF m 6 #[.val (.ref r0), .val (.int (1 : Int32)), .val (.int (1 : Int32))] [(.ref r0), (.int (1 : Int32))])) rfl rfl (hb hby d1_6) _ ?_
        rw [len_of S10 Nn10]
        show Steps p.tables e below (s₁.setTop (mkF m 7 #[.val (.ref r0), .val (.int (1 : Int32)), .val (.int (1 : Int32))] [(.int (3 : Int32)), (.int (1 : Int32))])) _
        refine XS.icmpNo X0.here hx rfl (hb hby d1_7) rfl (tlt (by decide)).2.1 ?_
        show Steps p.tables e below (s₁.setTop (mkF m 10 #[.val (.ref r0), .val (.int (1 : Int32)), .val (.int (1 : Int32))] [])) _
        refine XS.iloadN X0.here hx rfl (hb hby d1_10) rfl ?_
        show Steps p.tables e below (s₁.setTop (mkF m 11 #[.val (.ref r0), .val (.int (1 : Int32)), .val (.int (1 : Int32))] [(.int (1 : Int32))])) _
        refine XS.ifNo X0.here hx rfl (hb hby d1_11) rfl ((if0 _ _).trans (feq (by decide)).1) ?_
        show Steps p.tables e below (s₁.setTop (mkF m 14 #[.val (.ref r0), .val (.int (1 : Int32)), .val (.int (1 : Int32))] [])) _
        refine XS.aloadN X0.here hx rfl (hb hby d1_14) rfl rfl ?_
        show Steps p.tables e below (s₁.setTop (mkF m 15 #[.val (.ref r0), .val (.int (1 : Int32)), .val (.int (1 : Int32))] [(.ref r0)])) _
        refine XS.iloadN X0.here hx rfl (hb hby d1_15) rfl ?_
        show Steps p.tables e below (s₁.setTop (mkF m 16 #[.val (.ref r0), .val (.int (1 : Int32)), .val (.int (1 : Int32))] [(.int (1 : Int32)), (.ref r0)])) _
        refine X0.baloadBytes hx (j := (1 : Int32)) (v := (.int x1)) (by rw [e0]; exact Ar11.1) (State.isArrayOf_alike hZ.alike Ar11.2.1) Ar11.2.2 hin11 hat11 (g := (mkF m 16 #[.val (.ref r0), .val (.int (1 : Int32)), .val (.int (1 : Int32))] [(.int (1 : Int32)), (.ref r0)])) rfl rfl (hb hby d1_16) _ ?_
        exact kk)
      by_cases hc13 : x1 < (0 : Int32)
      · obtain ⟨cl14, Ar14, -, S14, Nn14, -, -⟩ := id Va
        obtain ⟨fs, hr, hrun, hended, hW, hsame⟩ := X0.leave (v := some (.int (0 : Int32))) (fun h => by rw [Bd.returns] at h; cases h)
        refine ⟨_, _, pre12 _ ?_, hrun, hended, _, _, rfl, ?_, ⟨_, rfl⟩, hW, hsame.mono (by decide) (by decide)⟩
        · show Steps p.tables e below (s₁.setTop (mkF m 17 #[.val (.ref r0), .val (.int (1 : Int32)), .val (.int (1 : Int32))] [(.int x1)])) _
          refine XS.ifYes X0.here hx rfl (pc0 := 17) (pc' := 32) rfl (hb hby d1_17) rfl ((if0 _ _).trans (tlt hc13).1) (by decide) (by decide) ?_
          show Steps p.tables e below (s₁.setTop (mkF m 32 #[.val (.ref r0), .val (.int (1 : Int32)), .val (.int (1 : Int32))] [])) _
          refine XS.iconst X0.here hx rfl (hb hby d1_32) ?_
          show Steps p.tables e below (s₁.setTop (mkF m 33 #[.val (.ref r0), .val (.int (1 : Int32)), .val (.int (1 : Int32))] [(.int (0 : Int32))])) _
          refine XS.istoreN X0.here hx rfl (hb hby d1_33) rfl (l' := #[.val (.ref r0), .val (.int (0 : Int32)), .val (.int (1 : Int32))]) rfl ?_
          show Steps p.tables e below (s₁.setTop (mkF m 34 #[.val (.ref r0), .val (.int (0 : Int32)), .val (.int (1 : Int32))] [])) _
          refine XS.iinc X0.here hx rfl (hb hby d1_34) rfl (l' := #[.val (.ref r0), .val (.int (0 : Int32)), .val (.int (2 : Int32))]) rfl ?_
          show Steps p.tables e below (s₁.setTop (mkF m 37 #[.val (.ref r0), .val (.int (0 : Int32)), .val (.int (2 : Int32))] [])) _
          refine XS.goto X0.here hx rfl (pc0 := 37) (pc' := 4) rfl (hb hby d1_37) (by decide) (by decide) ?_
          show Steps p.tables e below (s₁.setTop (mkF m 4 #[.val (.ref r0), .val (.int (0 : Int32)), .val (.int (2 : Int32))] [])) _
          refine XS.iloadN X0.here hx rfl (hb hby d1_4) rfl ?_
          show Steps p.tables e below (s₁.setTop (mkF m 5 #[.val (.ref r0), .val (.int (0 : Int32)), .val (.int (2 : Int32))] [(.int (2 : Int32))])) _
          refine XS.aloadN X0.here hx rfl (hb hby d1_5) rfl rfl ?_
          show Steps p.tables e below (s₁.setTop (mkF m 6 #[.val (.ref r0), .val (.int (0 : Int32)), .val (.int (2 : Int32))] [(.ref r0), (.int (2 : Int32))])) _
          refine X0.arraylength hx (by rw [e0]; exact Ar14.1) (State.isArrayOf_alike hZ.alike Ar14.2.1) (g := (mkF m 6 #[.val (.ref r0), .val (.int (0 : Int32)), .val (.int (2 : Int32))] [(.ref r0), (.int (2 : Int32))])) rfl rfl (hb hby d1_6) _ ?_
          rw [len_of S14 Nn14]
          show Steps p.tables e below (s₁.setTop (mkF m 7 #[.val (.ref r0), .val (.int (0 : Int32)), .val (.int (2 : Int32))] [(.int (3 : Int32)), (.int (2 : Int32))])) _
          refine XS.icmpNo X0.here hx rfl (hb hby d1_7) rfl (tlt (by decide)).2.1 ?_
          show Steps p.tables e below (s₁.setTop (mkF m 10 #[.val (.ref r0), .val (.int (0 : Int32)), .val (.int (2 : Int32))] [])) _
          refine XS.iloadN X0.here hx rfl (hb hby d1_10) rfl ?_
          show Steps p.tables e below (s₁.setTop (mkF m 11 #[.val (.ref r0), .val (.int (0 : Int32)), .val (.int (2 : Int32))] [(.int (0 : Int32))])) _
          refine XS.ifYes X0.here hx rfl (pc0 := 11) (pc' := 40) rfl (hb hby d1_11) rfl ((if0 _ _).trans (teq (rfl : (0 : Int32) = (0 : Int32))).1) (by decide) (by decide) ?_
          show Steps p.tables e below (s₁.setTop (mkF m 40 #[.val (.ref r0), .val (.int (0 : Int32)), .val (.int (2 : Int32))] [])) _
          refine XS.iloadN X0.here hx rfl (hb hby d1_40) rfl ?_
          show Steps p.tables e below (s₁.setTop (mkF m 41 #[.val (.ref r0), .val (.int (0 : Int32)), .val (.int (2 : Int32))] [(.int (0 : Int32))])) _
          exact retN X0 hx (t := .boolean) Bd.returns (by simp) (hb hby d1_41) hr
        · show Q1_3 x0 x1 x2 h0 n0 _ s₁.heap _
          rw [e0]
          exact ⟨congrArg (fun z => some (Value.int z)) (by unfold spl3; rw [if_neg hc4, if_neg hc8, if_pos hc13]), N0, rfl⟩
      · obtain ⟨cl15, Ar15, -, S15, -, H15, -⟩ := id Va
        have hin15 : ¬ ((1 : Int32) < 0 ∨ cl15.slots.size ≤ ((1 : Int32)).toNatClampNeg) := inb_of S15 ⟨by decide, by decide⟩
        have hat15 : cl15.slots[((1 : Int32)).toNatClampNeg]? = some (.int x1) := Has.at H15 hin15 rfl
        have pre16 : ∀ t, Steps p.tables e below (s₁.setTop (mkF m 25 #[.val (.ref r0), .val (.int (1 : Int32)), .val (.int (1 : Int32))] [(.int (92 : Int32)), (.int x1)])) t → Steps p.tables e below (s₁.setTop (entryFrame m #[(.ref r0)] 3)) t := fun t kk => pre12 t (by
          show Steps p.tables e below (s₁.setTop (mkF m 17 #[.val (.ref r0), .val (.int (1 : Int32)), .val (.int (1 : Int32))] [(.int x1)])) _
          refine XS.ifNo X0.here hx rfl (hb hby d1_17) rfl ((if0 _ _).trans (flt hc13).1) ?_
          show Steps p.tables e below (s₁.setTop (mkF m 20 #[.val (.ref r0), .val (.int (1 : Int32)), .val (.int (1 : Int32))] [])) _
          refine XS.aloadN X0.here hx rfl (hb hby d1_20) rfl rfl ?_
          show Steps p.tables e below (s₁.setTop (mkF m 21 #[.val (.ref r0), .val (.int (1 : Int32)), .val (.int (1 : Int32))] [(.ref r0)])) _
          refine XS.iloadN X0.here hx rfl (hb hby d1_21) rfl ?_
          show Steps p.tables e below (s₁.setTop (mkF m 22 #[.val (.ref r0), .val (.int (1 : Int32)), .val (.int (1 : Int32))] [(.int (1 : Int32)), (.ref r0)])) _
          refine X0.baloadBytes hx (j := (1 : Int32)) (v := (.int x1)) (by rw [e0]; exact Ar15.1) (State.isArrayOf_alike hZ.alike Ar15.2.1) Ar15.2.2 hin15 hat15 (g := (mkF m 22 #[.val (.ref r0), .val (.int (1 : Int32)), .val (.int (1 : Int32))] [(.int (1 : Int32)), (.ref r0)])) rfl rfl (hb hby d1_22) _ ?_
          show Steps p.tables e below (s₁.setTop (mkF m 23 #[.val (.ref r0), .val (.int (1 : Int32)), .val (.int (1 : Int32))] [(.int x1)])) _
          refine XS.bipush X0.here hx rfl (hb hby d1_23) ?_
          exact kk)
        by_cases hc17 : x1 = (92 : Int32)
        · obtain ⟨cl18, Ar18, -, S18, Nn18, -, -⟩ := id Va
          obtain ⟨fs, hr, hrun, hended, hW, hsame⟩ := X0.leave (v := some (.int (0 : Int32))) (fun h => by rw [Bd.returns] at h; cases h)
          refine ⟨_, _, pre16 _ ?_, hrun, hended, _, _, rfl, ?_, ⟨_, rfl⟩, hW, hsame.mono (by decide) (by decide)⟩
          · show Steps p.tables e below (s₁.setTop (mkF m 25 #[.val (.ref r0), .val (.int (1 : Int32)), .val (.int (1 : Int32))] [(.int (92 : Int32)), (.int x1)])) _
            refine XS.icmpYes X0.here hx rfl (pc0 := 25) (pc' := 32) rfl (hb hby d1_25) rfl (teq hc17).1 (by decide) (by decide) ?_
            show Steps p.tables e below (s₁.setTop (mkF m 32 #[.val (.ref r0), .val (.int (1 : Int32)), .val (.int (1 : Int32))] [])) _
            refine XS.iconst X0.here hx rfl (hb hby d1_32) ?_
            show Steps p.tables e below (s₁.setTop (mkF m 33 #[.val (.ref r0), .val (.int (1 : Int32)), .val (.int (1 : Int32))] [(.int (0 : Int32))])) _
            refine XS.istoreN X0.here hx rfl (hb hby d1_33) rfl (l' := #[.val (.ref r0), .val (.int (0 : Int32)), .val (.int (1 : Int32))]) rfl ?_
            show Steps p.tables e below (s₁.setTop (mkF m 34 #[.val (.ref r0), .val (.int (0 : Int32)), .val (.int (1 : Int32))] [])) _
            refine XS.iinc X0.here hx rfl (hb hby d1_34) rfl (l' := #[.val (.ref r0), .val (.int (0 : Int32)), .val (.int (2 : Int32))]) rfl ?_
            show Steps p.tables e below (s₁.setTop (mkF m 37 #[.val (.ref r0), .val (.int (0 : Int32)), .val (.int (2 : Int32))] [])) _
            refine XS.goto X0.here hx rfl (pc0 := 37) (pc' := 4) rfl (hb hby d1_37) (by decide) (by decide) ?_
            show Steps p.tables e below (s₁.setTop (mkF m 4 #[.val (.ref r0), .val (.int (0 : Int32)), .val (.int (2 : Int32))] [])) _
            refine XS.iloadN X0.here hx rfl (hb hby d1_4) rfl ?_
            show Steps p.tables e below (s₁.setTop (mkF m 5 #[.val (.ref r0), .val (.int (0 : Int32)), .val (.int (2 : Int32))] [(.int (2 : Int32))])) _
            refine XS.aloadN X0.here hx rfl (hb hby d1_5) rfl rfl ?_
            show Steps p.tables e below (s₁.setTop (mkF m 6 #[.val (.ref r0), .val (.int (0 : Int32)), .val (.int (2 : Int32))] [(.ref r0), (.int (2 : Int32))])) _
            refine X0.arraylength hx (by rw [e0]; exact Ar18.1) (State.isArrayOf_alike hZ.alike Ar18.2.1) (g := (mkF m 6 #[.val (.ref r0), .val (.int (0 : Int32)), .val (.int (2 : Int32))] [(.ref r0), (.int (2 : Int32))])) rfl rfl (hb hby d1_6) _ ?_
            rw [len_of S18 Nn18]
            show Steps p.tables e below (s₁.setTop (mkF m 7 #[.val (.ref r0), .val (.int (0 : Int32)), .val (.int (2 : Int32))] [(.int (3 : Int32)), (.int (2 : Int32))])) _
            refine XS.icmpNo X0.here hx rfl (hb hby d1_7) rfl (tlt (by decide)).2.1 ?_
            show Steps p.tables e below (s₁.setTop (mkF m 10 #[.val (.ref r0), .val (.int (0 : Int32)), .val (.int (2 : Int32))] [])) _
            refine XS.iloadN X0.here hx rfl (hb hby d1_10) rfl ?_
            show Steps p.tables e below (s₁.setTop (mkF m 11 #[.val (.ref r0), .val (.int (0 : Int32)), .val (.int (2 : Int32))] [(.int (0 : Int32))])) _
            refine XS.ifYes X0.here hx rfl (pc0 := 11) (pc' := 40) rfl (hb hby d1_11) rfl ((if0 _ _).trans (teq (rfl : (0 : Int32) = (0 : Int32))).1) (by decide) (by decide) ?_
            show Steps p.tables e below (s₁.setTop (mkF m 40 #[.val (.ref r0), .val (.int (0 : Int32)), .val (.int (2 : Int32))] [])) _
            refine XS.iloadN X0.here hx rfl (hb hby d1_40) rfl ?_
            show Steps p.tables e below (s₁.setTop (mkF m 41 #[.val (.ref r0), .val (.int (0 : Int32)), .val (.int (2 : Int32))] [(.int (0 : Int32))])) _
            exact retN X0 hx (t := .boolean) Bd.returns (by simp) (hb hby d1_41) hr
          · show Q1_3 x0 x1 x2 h0 n0 _ s₁.heap _
            rw [e0]
            exact ⟨congrArg (fun z => some (Value.int z)) (by unfold spl3; rw [if_neg hc4, if_neg hc8, if_neg hc13, if_pos hc17]), N0, rfl⟩
        · obtain ⟨cl19, Ar19, -, S19, Nn19, -, -⟩ := id Va
          obtain ⟨cl20, Ar20, -, S20, -, H20, -⟩ := id Va
          have hin20 : ¬ ((2 : Int32) < 0 ∨ cl20.slots.size ≤ ((2 : Int32)).toNatClampNeg) := inb_of S20 ⟨by decide, by decide⟩
          have hat20 : cl20.slots[((2 : Int32)).toNatClampNeg]? = some (.int x2) := Has.at H20 hin20 rfl
          have pre21 : ∀ t, Steps p.tables e below (s₁.setTop (mkF m 17 #[.val (.ref r0), .val (.int (1 : Int32)), .val (.int (2 : Int32))] [(.int x2)])) t → Steps p.tables e below (s₁.setTop (entryFrame m #[(.ref r0)] 3)) t := fun t kk => pre16 t (by
            show Steps p.tables e below (s₁.setTop (mkF m 25 #[.val (.ref r0), .val (.int (1 : Int32)), .val (.int (1 : Int32))] [(.int (92 : Int32)), (.int x1)])) _
            refine XS.icmpNo X0.here hx rfl (hb hby d1_25) rfl (feq hc17).1 ?_
            show Steps p.tables e below (s₁.setTop (mkF m 28 #[.val (.ref r0), .val (.int (1 : Int32)), .val (.int (1 : Int32))] [])) _
            refine XS.iconst X0.here hx rfl (hb hby d1_28) ?_
            show Steps p.tables e below (s₁.setTop (mkF m 29 #[.val (.ref r0), .val (.int (1 : Int32)), .val (.int (1 : Int32))] [(.int (1 : Int32))])) _
            refine XS.goto X0.here hx rfl (pc0 := 29) (pc' := 33) rfl (hb hby d1_29) (by decide) (by decide) ?_
            show Steps p.tables e below (s₁.setTop (mkF m 33 #[.val (.ref r0), .val (.int (1 : Int32)), .val (.int (1 : Int32))] [(.int (1 : Int32))])) _
            refine XS.istoreN X0.here hx rfl (hb hby d1_33) rfl (l' := #[.val (.ref r0), .val (.int (1 : Int32)), .val (.int (1 : Int32))]) rfl ?_
            show Steps p.tables e below (s₁.setTop (mkF m 34 #[.val (.ref r0), .val (.int (1 : Int32)), .val (.int (1 : Int32))] [])) _
            refine XS.iinc X0.here hx rfl (hb hby d1_34) rfl (l' := #[.val (.ref r0), .val (.int (1 : Int32)), .val (.int (2 : Int32))]) rfl ?_
            show Steps p.tables e below (s₁.setTop (mkF m 37 #[.val (.ref r0), .val (.int (1 : Int32)), .val (.int (2 : Int32))] [])) _
            refine XS.goto X0.here hx rfl (pc0 := 37) (pc' := 4) rfl (hb hby d1_37) (by decide) (by decide) ?_
            show Steps p.tables e below (s₁.setTop (mkF m 4 #[.val (.ref r0), .val (.int (1 : Int32)), .val (.int (2 : Int32))] [])) _
            refine XS.iloadN X0.here hx rfl (hb hby d1_4) rfl ?_
            show Steps p.tables e below (s₁.setTop (mkF m 5 #[.val (.ref r0), .val (.int (1 : Int32)), .val (.int (2 : Int32))] [(.int (2 : Int32))])) _
            refine XS.aloadN X0.here hx rfl (hb hby d1_5) rfl rfl ?_
            show Steps p.tables e below (s₁.setTop (mkF m 6 #[.val (.ref r0), .val (.int (1 : Int32)), .val (.int (2 : Int32))] [(.ref r0), (.int (2 : Int32))])) _
            refine X0.arraylength hx (by rw [e0]; exact Ar19.1) (State.isArrayOf_alike hZ.alike Ar19.2.1) (g := (mkF m 6 #[.val (.ref r0), .val (.int (1 : Int32)), .val (.int (2 : Int32))] [(.ref r0), (.int (2 : Int32))])) rfl rfl (hb hby d1_6) _ ?_
            rw [len_of S19 Nn19]
            show Steps p.tables e below (s₁.setTop (mkF m 7 #[.val (.ref r0), .val (.int (1 : Int32)), .val (.int (2 : Int32))] [(.int (3 : Int32)), (.int (2 : Int32))])) _
            refine XS.icmpNo X0.here hx rfl (hb hby d1_7) rfl (tlt (by decide)).2.1 ?_
            show Steps p.tables e below (s₁.setTop (mkF m 10 #[.val (.ref r0), .val (.int (1 : Int32)), .val (.int (2 : Int32))] [])) _
            refine XS.iloadN X0.here hx rfl (hb hby d1_10) rfl ?_
            show Steps p.tables e below (s₁.setTop (mkF m 11 #[.val (.ref r0), .val (.int (1 : Int32)), .val (.int (2 : Int32))] [(.int (1 : Int32))])) _
            refine XS.ifNo X0.here hx rfl (hb hby d1_11) rfl ((if0 _ _).trans (feq (by decide)).1) ?_
            show Steps p.tables e below (s₁.setTop (mkF m 14 #[.val (.ref r0), .val (.int (1 : Int32)), .val (.int (2 : Int32))] [])) _
            refine XS.aloadN X0.here hx rfl (hb hby d1_14) rfl rfl ?_
            show Steps p.tables e below (s₁.setTop (mkF m 15 #[.val (.ref r0), .val (.int (1 : Int32)), .val (.int (2 : Int32))] [(.ref r0)])) _
            refine XS.iloadN X0.here hx rfl (hb hby d1_15) rfl ?_
            show Steps p.tables e below (s₁.setTop (mkF m 16 #[.val (.ref r0), .val (.int (1 : Int32)), .val (.int (2 : Int32))] [(.int (2 : Int32)), (.ref r0)])) _
            refine X0.baloadBytes hx (j := (2 : Int32)) (v := (.int x2)) (by rw [e0]; exact Ar20.1) (State.isArrayOf_alike hZ.alike Ar20.2.1) Ar20.2.2 hin20 hat20 (g := (mkF m 16 #[.val (.ref r0), .val (.int (1 : Int32)), .val (.int (2 : Int32))] [(.int (2 : Int32)), (.ref r0)])) rfl rfl (hb hby d1_16) _ ?_
            exact kk)
          by_cases hc22 : x2 < (0 : Int32)
          · obtain ⟨cl23, Ar23, -, S23, Nn23, -, -⟩ := id Va
            obtain ⟨fs, hr, hrun, hended, hW, hsame⟩ := X0.leave (v := some (.int (0 : Int32))) (fun h => by rw [Bd.returns] at h; cases h)
            refine ⟨_, _, pre21 _ ?_, hrun, hended, _, _, rfl, ?_, ⟨_, rfl⟩, hW, hsame.mono (by decide) (by decide)⟩
            · show Steps p.tables e below (s₁.setTop (mkF m 17 #[.val (.ref r0), .val (.int (1 : Int32)), .val (.int (2 : Int32))] [(.int x2)])) _
              refine XS.ifYes X0.here hx rfl (pc0 := 17) (pc' := 32) rfl (hb hby d1_17) rfl ((if0 _ _).trans (tlt hc22).1) (by decide) (by decide) ?_
              show Steps p.tables e below (s₁.setTop (mkF m 32 #[.val (.ref r0), .val (.int (1 : Int32)), .val (.int (2 : Int32))] [])) _
              refine XS.iconst X0.here hx rfl (hb hby d1_32) ?_
              show Steps p.tables e below (s₁.setTop (mkF m 33 #[.val (.ref r0), .val (.int (1 : Int32)), .val (.int (2 : Int32))] [(.int (0 : Int32))])) _
              refine XS.istoreN X0.here hx rfl (hb hby d1_33) rfl (l' := #[.val (.ref r0), .val (.int (0 : Int32)), .val (.int (2 : Int32))]) rfl ?_
              show Steps p.tables e below (s₁.setTop (mkF m 34 #[.val (.ref r0), .val (.int (0 : Int32)), .val (.int (2 : Int32))] [])) _
              refine XS.iinc X0.here hx rfl (hb hby d1_34) rfl (l' := #[.val (.ref r0), .val (.int (0 : Int32)), .val (.int (3 : Int32))]) rfl ?_
              show Steps p.tables e below (s₁.setTop (mkF m 37 #[.val (.ref r0), .val (.int (0 : Int32)), .val (.int (3 : Int32))] [])) _
              refine XS.goto X0.here hx rfl (pc0 := 37) (pc' := 4) rfl (hb hby d1_37) (by decide) (by decide) ?_
              show Steps p.tables e below (s₁.setTop (mkF m 4 #[.val (.ref r0), .val (.int (0 : Int32)), .val (.int (3 : Int32))] [])) _
              refine XS.iloadN X0.here hx rfl (hb hby d1_4) rfl ?_
              show Steps p.tables e below (s₁.setTop (mkF m 5 #[.val (.ref r0), .val (.int (0 : Int32)), .val (.int (3 : Int32))] [(.int (3 : Int32))])) _
              refine XS.aloadN X0.here hx rfl (hb hby d1_5) rfl rfl ?_
              show Steps p.tables e below (s₁.setTop (mkF m 6 #[.val (.ref r0), .val (.int (0 : Int32)), .val (.int (3 : Int32))] [(.ref r0), (.int (3 : Int32))])) _
              refine X0.arraylength hx (by rw [e0]; exact Ar23.1) (State.isArrayOf_alike hZ.alike Ar23.2.1) (g := (mkF m 6 #[.val (.ref r0), .val (.int (0 : Int32)), .val (.int (3 : Int32))] [(.ref r0), (.int (3 : Int32))])) rfl rfl (hb hby d1_6) _ ?_
              rw [len_of S23 Nn23]
              show Steps p.tables e below (s₁.setTop (mkF m 7 #[.val (.ref r0), .val (.int (0 : Int32)), .val (.int (3 : Int32))] [(.int (3 : Int32)), (.int (3 : Int32))])) _
              refine XS.icmpYes X0.here hx rfl (pc0 := 7) (pc' := 40) rfl (hb hby d1_7) rfl (flt (by decide)).2.1 (by decide) (by decide) ?_
              show Steps p.tables e below (s₁.setTop (mkF m 40 #[.val (.ref r0), .val (.int (0 : Int32)), .val (.int (3 : Int32))] [])) _
              refine XS.iloadN X0.here hx rfl (hb hby d1_40) rfl ?_
              show Steps p.tables e below (s₁.setTop (mkF m 41 #[.val (.ref r0), .val (.int (0 : Int32)), .val (.int (3 : Int32))] [(.int (0 : Int32))])) _
              exact retN X0 hx (t := .boolean) Bd.returns (by simp) (hb hby d1_41) hr
            · show Q1_3 x0 x1 x2 h0 n0 _ s₁.heap _
              rw [e0]
              exact ⟨congrArg (fun z => some (Value.int z)) (by unfold spl3; rw [if_neg hc4, if_neg hc8, if_neg hc13, if_neg hc17, if_pos hc22]), N0, rfl⟩
          · obtain ⟨cl24, Ar24, -, S24, -, H24, -⟩ := id Va
            have hin24 : ¬ ((2 : Int32) < 0 ∨ cl24.slots.size ≤ ((2 : Int32)).toNatClampNeg) := inb_of S24 ⟨by decide, by decide⟩
            have hat24 : cl24.slots[((2 : Int32)).toNatClampNeg]? = some (.int x2) := Has.at H24 hin24 rfl
            have pre25 : ∀ t, Steps p.tables e below (s₁.setTop (mkF m 25 #[.val (.ref r0), .val (.int (1 : Int32)), .val (.int (2 : Int32))] [(.int (92 : Int32)), (.int x2)])) t → Steps p.tables e below (s₁.setTop (entryFrame m #[(.ref r0)] 3)) t := fun t kk => pre21 t (by
              show Steps p.tables e below (s₁.setTop (mkF m 17 #[.val (.ref r0), .val (.int (1 : Int32)), .val (.int (2 : Int32))] [(.int x2)])) _
              refine XS.ifNo X0.here hx rfl (hb hby d1_17) rfl ((if0 _ _).trans (flt hc22).1) ?_
              show Steps p.tables e below (s₁.setTop (mkF m 20 #[.val (.ref r0), .val (.int (1 : Int32)), .val (.int (2 : Int32))] [])) _
              refine XS.aloadN X0.here hx rfl (hb hby d1_20) rfl rfl ?_
              show Steps p.tables e below (s₁.setTop (mkF m 21 #[.val (.ref r0), .val (.int (1 : Int32)), .val (.int (2 : Int32))] [(.ref r0)])) _
              refine XS.iloadN X0.here hx rfl (hb hby d1_21) rfl ?_
              show Steps p.tables e below (s₁.setTop (mkF m 22 #[.val (.ref r0), .val (.int (1 : Int32)), .val (.int (2 : Int32))] [(.int (2 : Int32)), (.ref r0)])) _
              refine X0.baloadBytes hx (j := (2 : Int32)) (v := (.int x2)) (by rw [e0]; exact Ar24.1) (State.isArrayOf_alike hZ.alike Ar24.2.1) Ar24.2.2 hin24 hat24 (g := (mkF m 22 #[.val (.ref r0), .val (.int (1 : Int32)), .val (.int (2 : Int32))] [(.int (2 : Int32)), (.ref r0)])) rfl rfl (hb hby d1_22) _ ?_
              show Steps p.tables e below (s₁.setTop (mkF m 23 #[.val (.ref r0), .val (.int (1 : Int32)), .val (.int (2 : Int32))] [(.int x2)])) _
              refine XS.bipush X0.here hx rfl (hb hby d1_23) ?_
              exact kk)
            by_cases hc26 : x2 = (92 : Int32)
            · obtain ⟨cl27, Ar27, -, S27, Nn27, -, -⟩ := id Va
              obtain ⟨fs, hr, hrun, hended, hW, hsame⟩ := X0.leave (v := some (.int (0 : Int32))) (fun h => by rw [Bd.returns] at h; cases h)
              refine ⟨_, _, pre25 _ ?_, hrun, hended, _, _, rfl, ?_, ⟨_, rfl⟩, hW, hsame.mono (by decide) (by decide)⟩
              · show Steps p.tables e below (s₁.setTop (mkF m 25 #[.val (.ref r0), .val (.int (1 : Int32)), .val (.int (2 : Int32))] [(.int (92 : Int32)), (.int x2)])) _
                refine XS.icmpYes X0.here hx rfl (pc0 := 25) (pc' := 32) rfl (hb hby d1_25) rfl (teq hc26).1 (by decide) (by decide) ?_
                show Steps p.tables e below (s₁.setTop (mkF m 32 #[.val (.ref r0), .val (.int (1 : Int32)), .val (.int (2 : Int32))] [])) _
                refine XS.iconst X0.here hx rfl (hb hby d1_32) ?_
                show Steps p.tables e below (s₁.setTop (mkF m 33 #[.val (.ref r0), .val (.int (1 : Int32)), .val (.int (2 : Int32))] [(.int (0 : Int32))])) _
                refine XS.istoreN X0.here hx rfl (hb hby d1_33) rfl (l' := #[.val (.ref r0), .val (.int (0 : Int32)), .val (.int (2 : Int32))]) rfl ?_
                show Steps p.tables e below (s₁.setTop (mkF m 34 #[.val (.ref r0), .val (.int (0 : Int32)), .val (.int (2 : Int32))] [])) _
                refine XS.iinc X0.here hx rfl (hb hby d1_34) rfl (l' := #[.val (.ref r0), .val (.int (0 : Int32)), .val (.int (3 : Int32))]) rfl ?_
                show Steps p.tables e below (s₁.setTop (mkF m 37 #[.val (.ref r0), .val (.int (0 : Int32)), .val (.int (3 : Int32))] [])) _
                refine XS.goto X0.here hx rfl (pc0 := 37) (pc' := 4) rfl (hb hby d1_37) (by decide) (by decide) ?_
                show Steps p.tables e below (s₁.setTop (mkF m 4 #[.val (.ref r0), .val (.int (0 : Int32)), .val (.int (3 : Int32))] [])) _
                refine XS.iloadN X0.here hx rfl (hb hby d1_4) rfl ?_
                show Steps p.tables e below (s₁.setTop (mkF m 5 #[.val (.ref r0), .val (.int (0 : Int32)), .val (.int (3 : Int32))] [(.int (3 : Int32))])) _
                refine XS.aloadN X0.here hx rfl (hb hby d1_5) rfl rfl ?_
                show Steps p.tables e below (s₁.setTop (mkF m 6 #[.val (.ref r0), .val (.int (0 : Int32)), .val (.int (3 : Int32))] [(.ref r0), (.int (3 : Int32))])) _
                refine X0.arraylength hx (by rw [e0]; exact Ar27.1) (State.isArrayOf_alike hZ.alike Ar27.2.1) (g := (mkF m 6 #[.val (.ref r0), .val (.int (0 : Int32)), .val (.int (3 : Int32))] [(.ref r0), (.int (3 : Int32))])) rfl rfl (hb hby d1_6) _ ?_
                rw [len_of S27 Nn27]
                show Steps p.tables e below (s₁.setTop (mkF m 7 #[.val (.ref r0), .val (.int (0 : Int32)), .val (.int (3 : Int32))] [(.int (3 : Int32)), (.int (3 : Int32))])) _
                refine XS.icmpYes X0.here hx rfl (pc0 := 7) (pc' := 40) rfl (hb hby d1_7) rfl (flt (by decide)).2.1 (by decide) (by decide) ?_
                show Steps p.tables e below (s₁.setTop (mkF m 40 #[.val (.ref r0), .val (.int (0 : Int32)), .val (.int (3 : Int32))] [])) _
                refine XS.iloadN X0.here hx rfl (hb hby d1_40) rfl ?_
                show Steps p.tables e below (s₁.setTop (mkF m 41 #[.val (.ref r0), .val (.int (0 : Int32)), .val (.int (3 : Int32))] [(.int (0 : Int32))])) _
                exact retN X0 hx (t := .boolean) Bd.returns (by simp) (hb hby d1_41) hr
              · show Q1_3 x0 x1 x2 h0 n0 _ s₁.heap _
                rw [e0]
                exact ⟨congrArg (fun z => some (Value.int z)) (by unfold spl3; rw [if_neg hc4, if_neg hc8, if_neg hc13, if_neg hc17, if_neg hc22, if_pos hc26]), N0, rfl⟩
            · obtain ⟨cl28, Ar28, -, S28, Nn28, -, -⟩ := id Va
              obtain ⟨fs, hr, hrun, hended, hW, hsame⟩ := X0.leave (v := some (.int (1 : Int32))) (fun h => by rw [Bd.returns] at h; cases h)
              refine ⟨_, _, pre25 _ ?_, hrun, hended, _, _, rfl, ?_, ⟨_, rfl⟩, hW, hsame.mono (by decide) (by decide)⟩
              · show Steps p.tables e below (s₁.setTop (mkF m 25 #[.val (.ref r0), .val (.int (1 : Int32)), .val (.int (2 : Int32))] [(.int (92 : Int32)), (.int x2)])) _
                refine XS.icmpNo X0.here hx rfl (hb hby d1_25) rfl (feq hc26).1 ?_
                show Steps p.tables e below (s₁.setTop (mkF m 28 #[.val (.ref r0), .val (.int (1 : Int32)), .val (.int (2 : Int32))] [])) _
                refine XS.iconst X0.here hx rfl (hb hby d1_28) ?_
                show Steps p.tables e below (s₁.setTop (mkF m 29 #[.val (.ref r0), .val (.int (1 : Int32)), .val (.int (2 : Int32))] [(.int (1 : Int32))])) _
                refine XS.goto X0.here hx rfl (pc0 := 29) (pc' := 33) rfl (hb hby d1_29) (by decide) (by decide) ?_
                show Steps p.tables e below (s₁.setTop (mkF m 33 #[.val (.ref r0), .val (.int (1 : Int32)), .val (.int (2 : Int32))] [(.int (1 : Int32))])) _
                refine XS.istoreN X0.here hx rfl (hb hby d1_33) rfl (l' := #[.val (.ref r0), .val (.int (1 : Int32)), .val (.int (2 : Int32))]) rfl ?_
                show Steps p.tables e below (s₁.setTop (mkF m 34 #[.val (.ref r0), .val (.int (1 : Int32)), .val (.int (2 : Int32))] [])) _
                refine XS.iinc X0.here hx rfl (hb hby d1_34) rfl (l' := #[.val (.ref r0), .val (.int (1 : Int32)), .val (.int (3 : Int32))]) rfl ?_
                show Steps p.tables e below (s₁.setTop (mkF m 37 #[.val (.ref r0), .val (.int (1 : Int32)), .val (.int (3 : Int32))] [])) _
                refine XS.goto X0.here hx rfl (pc0 := 37) (pc' := 4) rfl (hb hby d1_37) (by decide) (by decide) ?_
                show Steps p.tables e below (s₁.setTop (mkF m 4 #[.val (.ref r0), .val (.int (1 : Int32)), .val (.int (3 : Int32))] [])) _
                refine XS.iloadN X0.here hx rfl (hb hby d1_4) rfl ?_
                show Steps p.tables e below (s₁.setTop (mkF m 5 #[.val (.ref r0), .val (.int (1 : Int32)), .val (.int (3 : Int32))] [(.int (3 : Int32))])) _
                refine XS.aloadN X0.here hx rfl (hb hby d1_5) rfl rfl ?_
                show Steps p.tables e below (s₁.setTop (mkF m 6 #[.val (.ref r0), .val (.int (1 : Int32)), .val (.int (3 : Int32))] [(.ref r0), (.int (3 : Int32))])) _
                refine X0.arraylength hx (by rw [e0]; exact Ar28.1) (State.isArrayOf_alike hZ.alike Ar28.2.1) (g := (mkF m 6 #[.val (.ref r0), .val (.int (1 : Int32)), .val (.int (3 : Int32))] [(.ref r0), (.int (3 : Int32))])) rfl rfl (hb hby d1_6) _ ?_
                rw [len_of S28 Nn28]
                show Steps p.tables e below (s₁.setTop (mkF m 7 #[.val (.ref r0), .val (.int (1 : Int32)), .val (.int (3 : Int32))] [(.int (3 : Int32)), (.int (3 : Int32))])) _
                refine XS.icmpYes X0.here hx rfl (pc0 := 7) (pc' := 40) rfl (hb hby d1_7) rfl (flt (by decide)).2.1 (by decide) (by decide) ?_
                show Steps p.tables e below (s₁.setTop (mkF m 40 #[.val (.ref r0), .val (.int (1 : Int32)), .val (.int (3 : Int32))] [])) _
                refine XS.iloadN X0.here hx rfl (hb hby d1_40) rfl ?_
                show Steps p.tables e below (s₁.setTop (mkF m 41 #[.val (.ref r0), .val (.int (1 : Int32)), .val (.int (3 : Int32))] [(.int (1 : Int32))])) _
                exact retN X0 hx (t := .boolean) Bd.returns (by simp) (hb hby d1_41) hr
              · show Q1_3 x0 x1 x2 h0 n0 _ s₁.heap _
                rw [e0]
                exact ⟨congrArg (fun z => some (Value.int z)) (by unfold spl3; rw [if_neg hc4, if_neg hc8, if_neg hc13, if_neg hc17, if_neg hc22, if_neg hc26]), N0, rfl⟩
def spl4 (x0 x1 x2 x3 : Int32) : Int32 := (if x0 < (0 : Int32) then (0 : Int32) else (if x0 = (92 : Int32) then (0 : Int32) else (if x1 < (0 : Int32) then (0 : Int32) else (if x1 = (92 : Int32) then (0 : Int32) else (if x2 < (0 : Int32) then (0 : Int32) else (if x2 = (92 : Int32) then (0 : Int32) else (if x3 < (0 : Int32) then (0 : Int32) else (if x3 = (92 : Int32) then (0 : Int32) else (1 : Int32)))))))))
def Q1_4 (x0 x1 x2 x3 : Int32) (h0 : Heap) (n0 : Nat) (v : Option Value) (h : Heap) (L : List Loc) : Prop := v = some (.int (spl4 x0 x1 x2 x3)) ∧ Fr n0 L ∧ h = h0
theorem ef_1_4 (m : MethodId) (r0 : Addr) : entryFrame m #[(.ref r0)] 3 = mkF m 0 #[.val (.ref r0), .unset, .unset] [] := by first | (simp [entryFrame, mkF, argsToLocals, Value.category]; done) | rfl
set_option maxRecDepth 65536 in
set_option maxHeartbeats 40000000 in
theorem rm1_4 (l : Launch) (Z : State) (a0 : Array Value) (hw : ∀ d ∈ tables_1, d.before a0 Z = true) (ws : List Jvm.Cond) (r0 : Addr) (kA : ClassId) (x0 x1 x2 x3 : Int32) (h0 : Heap) (n0 : Nat) (Z0 : n0 ≤ h0.size) (Va : Arv Z h0 r0 kA .byte (4 : Int32) [(.int x0), (.int x1), (.int x2), (.int x3)] (.int (0 : Int32))) :
    MetFree l (⟨"com/example/onesnap/onesnap/node/SqlLexer", "splitsAlikeUnderAnySettings", "([B)Z"⟩ : MethodName) (head1 (Jvm.Cond.code (⟨"com/example/onesnap/onesnap/node/SqlLexer", "splitsAlikeUnderAnySettings", "([B)Z"⟩ : MethodName) prog_40_method_3_code 3 (some .boolean) :: ws) ({ frames := 0, cells := 0, slots := 0, locals := 0 } : Room)) (fun a U => a = #[(.ref r0)] ∧ Z.Warmed39 U.vm ∧ U.heap = h0) (fun _ _ _ _ _ => True) (fun _ U o U' => ∃ v L, o = .returned v ∧ Q1_4 x0 x1 x2 x3 h0 n0 v U'.heap L ∧ FrameEnd U o U' L ({ frames := 0, cells := 0, slots := 0, locals := 0 } : Room).cells ({ frames := 0, cells := 0, slots := 0, locals := 0 } : Room).slots) := by
  refine MetFree.of_bodySF (plainFor_of_name pn_com_example_onesnap_onesnap_node_SqlLexer) hisR ?_
  intro p e s m args below meth c s₁ Bd hml0 hP hK
  obtain ⟨rfl, hZ, hh⟩ := hP
  have hx := Bd.exec
  have hby := Bd.bytes
  have hml : c.maxLocals = 3 := hml0
  have hown : s.vm.findClass "com/example/onesnap/onesnap/node/SqlLexer" = some m.cls := findClass_of_methodNamed Bd.named
  have hnm := (name_of_methodNamed Bd.named Bd.method).1
  have X0 : Stand p l e ({ frames := 0, cells := 0, slots := 0, locals := 0 } : Room) s m #[(.ref r0)] below meth c s₁ [] 0 0 := Stand.of_body Bd
  have e0 : s₁.heap = h0 := by rw [← hh, Bd.state]; rfl
  have N0 := Fr.nil n0
  have pre0 : ∀ t, Steps p.tables e below (s₁.setTop (mkF m 0 #[.val (.ref r0), .unset, .unset] [])) t → Steps p.tables e below (s₁.setTop (entryFrame m #[(.ref r0)] 3)) t := fun t k => castTop (ef_1_4 m r0) k
  obtain ⟨cl1, Ar1, -, S1, Nn1, -, -⟩ := id Va
  obtain ⟨cl2, Ar2, -, S2, -, H2, -⟩ := id Va
  have hin2 : ¬ ((0 : Int32) < 0 ∨ cl2.slots.size ≤ ((0 : Int32)).toNatClampNeg) := inb_of S2 ⟨by decide, by decide⟩
  have hat2 : cl2.slots[((0 : Int32)).toNatClampNeg]? = some (.int x0) := Has.at H2 hin2 rfl
  have pre3 : ∀ t, Steps p.tables e below (s₁.setTop (mkF m 17 #[.val (.ref r0), .val (.int (1 : Int32)), .val (.int (0 : Int32))] [(.int x0)])) t → Steps p.tables e below (s₁.setTop (entryFrame m #[(.ref r0)] 3)) t := fun t kk => pre0 t (by
    show Steps p.tables e below (s₁.setTop (mkF m 0 #[.val (.ref r0), .unset, .unset] [])) _
    refine XS.iconst X0.here hx rfl (hb hby d1_0) ?_
    show Steps p.tables e below (s₁.setTop (mkF m 1 #[.val (.ref r0), .unset, .unset] [(.int (1 : Int32))])) _
    refine XS.istoreN X0.here hx rfl (hb hby d1_1) rfl (l' := #[.val (.ref r0), .val (.int (1 : Int32)), .unset]) rfl ?_
    show Steps p.tables e below (s₁.setTop (mkF m 2 #[.val (.ref r0), .val (.int (1 : Int32)), .unset] [])) _
    refine XS.iconst X0.here hx rfl (hb hby d1_2) ?_
    show Steps p.tables e below (s₁.setTop (mkF m 3 #[.val (.ref r0), .val (.int (1 : Int32)), .unset] [(.int (0 : Int32))])) _
    refine XS.istoreN X0.here hx rfl (hb hby d1_3) rfl (l' := #[.val (.ref r0), .val (.int (1 : Int32)), .val (.int (0 : Int32))]) rfl ?_
    show Steps p.tables e below (s₁.setTop (mkF m 4 #[.val (.ref r0), .val (.int (1 : Int32)), .val (.int (0 : Int32))] [])) _
    refine XS.iloadN X0.here hx rfl (hb hby d1_4) rfl ?_
    show Steps p.tables e below (s₁.setTop (mkF m 5 #[.val (.ref r0), .val (.int (1 : Int32)), .val (.int (0 : Int32))] [(.int (0 : Int32))])) _
    refine XS.aloadN X0.here hx rfl (hb hby d1_5) rfl rfl ?_
    show Steps p.tables e below (s₁.setTop (mkF m 6 #[.val (.ref r0), .val (.int (1 : Int32)), .val (.int (0 : Int32))] [(.ref r0), (.int (0 : Int32))])) _
    refine X0.arraylength hx (by rw [e0]; exact Ar1.1) (State.isArrayOf_alike hZ.alike Ar1.2.1) (g := (mkF m 6 #[.val (.ref r0), .val (.int (1 : Int32)), .val (.int (0 : Int32))] [(.ref r0), (.int (0 : Int32))])) rfl rfl (hb hby d1_6) _ ?_
    rw [len_of S1 Nn1]
    show Steps p.tables e below (s₁.setTop (mkF m 7 #[.val (.ref r0), .val (.int (1 : Int32)), .val (.int (0 : Int32))] [(.int (4 : Int32)), (.int (0 : Int32))])) _
    refine XS.icmpNo X0.here hx rfl (hb hby d1_7) rfl (tlt (by decide)).2.1 ?_
    show Steps p.tables e below (s₁.setTop (mkF m 10 #[.val (.ref r0), .val (.int (1 : Int32)), .val (.int (0 : Int32))] [])) _
    refine XS.iloadN X0.here hx rfl (hb hby d1_10) rfl ?_
    show Steps p.tables e below (s₁.setTop (mkF m 11 #[.val (.ref r0), .val (.int (1 : Int32)), .val (.int (0 : Int32))] [(.int (1 : Int32))])) _
    refine XS.ifNo X0.here hx rfl (hb hby d1_11) rfl ((if0 _ _).trans (feq (by decide)).1) ?_
    show Steps p.tables e below (s₁.setTop (mkF m 14 #[.val (.ref r0), .val (.int (1 : Int32)), .val (.int (0 : Int32))] [])) _
    refine XS.aloadN X0.here hx rfl (hb hby d1_14) rfl rfl ?_
    show Steps p.tables e below (s₁.setTop (mkF m 15 #[.val (.ref r0), .val (.int (1 : Int32)), .val (.int (0 : Int32))] [(.ref r0)])) _
    refine XS.iloadN X0.here hx rfl (hb hby d1_15) rfl ?_
    show Steps p.tables e below (s₁.setTop (mkF m 16 #[.val (.ref r0), .val (.int (1 : Int32)), .val (.int (0 : Int32))] [(.int (0 : Int32)), (.ref r0)])) _
    refine X0.baloadBytes hx (j := (0 : Int32)) (v := (.int x0)) (by rw [e0]; exact Ar2.1) (State.isArrayOf_alike hZ.alike Ar2.2.1) Ar2.2.2 hin2 hat2 (g := (mkF m 16 #[.val (.ref r0), .val (.int (1 : Int32)), .val (.int (0 : Int32))] [(.int (0 : Int32)), (.ref r0)])) rfl rfl (hb hby d1_16) _ ?_
    exact kk)
  by_cases hc4 : x0 < (0 : Int32)
  · obtain ⟨cl5, Ar5, -, S5, Nn5, -, -⟩ := id Va
    obtain ⟨fs, hr, hrun, hended, hW, hsame⟩ := X0.leave (v := some (.int (0 : Int32))) (fun h => by rw [Bd.returns] at h; cases h)
    refine ⟨_, _, pre3 _ ?_, hrun, hended, _, _, rfl, ?_, ⟨_, rfl⟩, hW, hsame.mono (by decide) (by decide)⟩
    · show Steps p.tables e below (s₁.setTop (mkF m 17 #[.val (.ref r0), .val (.int (1 : Int32)), .val (.int (0 : Int32))] [(.int x0)])) _
      refine XS.ifYes X0.here hx rfl (pc0 := 17) (pc' := 32) rfl (hb hby d1_17) rfl ((if0 _ _).trans (tlt hc4).1) (by decide) (by decide) ?_
      show Steps p.tables e below (s₁.setTop (mkF m 32 #[.val (.ref r0), .val (.int (1 : Int32)), .val (.int (0 : Int32))] [])) _
      refine XS.iconst X0.here hx rfl (hb hby d1_32) ?_
      show Steps p.tables e below (s₁.setTop (mkF m 33 #[.val (.ref r0), .val (.int (1 : Int32)), .val (.int (0 : Int32))] [(.int (0 : Int32))])) _
      refine XS.istoreN X0.here hx rfl (hb hby d1_33) rfl (l' := #[.val (.ref r0), .val (.int (0 : Int32)), .val (.int (0 : Int32))]) rfl ?_
      show Steps p.tables e below (s₁.setTop (mkF m 34 #[.val (.ref r0), .val (.int (0 : Int32)), .val (.int (0 : Int32))] [])) _
      refine XS.iinc X0.here hx rfl (hb hby d1_34) rfl (l' := #[.val (.ref r0), .val (.int (0 : Int32)), .val (.int (1 : Int32))]) rfl ?_
      show Steps p.tables e below (s₁.setTop (mkF m 37 #[.val (.ref r0), .val (.int (0 : Int32)), .val (.int (1 : Int32))] [])) _
      refine XS.goto X0.here hx rfl (pc0 := 37) (pc' := 4) rfl (hb hby d1_37) (by decide) (by decide) ?_
      show Steps p.tables e below (s₁.setTop (mkF m 4 #[.val (.ref r0), .val (.int (0 : Int32)), .val (.int (1 : Int32))] [])) _
      refine XS.iloadN X0.here hx rfl (hb hby d1_4) rfl ?_
      show Steps p.tables e below (s₁.setTop (mkF m 5 #[.val (.ref r0), .val (.int (0 : Int32)), .val (.int (1 : Int32))] [(.int (1 : Int32))])) _
      refine XS.aloadN X0.here hx rfl (hb hby d1_5) rfl rfl ?_
      show Steps p.tables e below (s₁.setTop (mkF m 6 #[.val (.ref r0), .val (.int (0 : Int32)), .val (.int (1 : Int32))] [(.ref r0), (.int (1 : Int32))])) _
      refine X0.arraylength hx (by rw [e0]; exact Ar5.1) (State.isArrayOf_alike hZ.alike Ar5.2.1) (g := (mkF m 6 #[.val (.ref r0), .val (.int (0 : Int32)), .val (.int (1 : Int32))] [(.ref r0), (.int (1 : Int32))])) rfl rfl (hb hby d1_6) _ ?_
      rw [len_of S5 Nn5]
      show Steps p.tables e below (s₁.setTop (mkF m 7 #[.val (.ref r0), .val (.int (0 : Int32)), .val (.int (1 : Int32))] [(.int (4 : Int32)), (.int (1 : Int32))])) _
      refine XS.icmpNo X0.here hx rfl (hb hby d1_7) rfl (tlt (by decide)).2.1 ?_
      show Steps p.tables e below (s₁.setTop (mkF m 10 #[.val (.ref r0), .val (.int (0 : Int32)), .val (.int (1 : Int32))] [])) _
      refine XS.iloadN X0.here hx rfl (hb hby d1_10) rfl ?_
      show Steps p.tables e below (s₁.setTop (mkF m 11 #[.val (.ref r0), .val (.int (0 : Int32)), .val (.int (1 : Int32))] [(.int (0 : Int32))])) _
      refine XS.ifYes X0.here hx rfl (pc0 := 11) (pc' := 40) rfl (hb hby d1_11) rfl ((if0 _ _).trans (teq (rfl : (0 : Int32) = (0 : Int32))).1) (by decide) (by decide) ?_
      show Steps p.tables e below (s₁.setTop (mkF m 40 #[.val (.ref r0), .val (.int (0 : Int32)), .val (.int (1 : Int32))] [])) _
      refine XS.iloadN X0.here hx rfl (hb hby d1_40) rfl ?_
      show Steps p.tables e below (s₁.setTop (mkF m 41 #[.val (.ref r0), .val (.int (0 : Int32)), .val (.int (1 : Int32))] [(.int (0 : Int32))])) _
      exact retN X0 hx (t := .boolean) Bd.returns (by simp) (hb hby d1_41) hr
    · show Q1_4 x0 x1 x2 x3 h0 n0 _ s₁.heap _
      rw [e0]
      exact ⟨congrArg (fun z => some (Value.int z)) (by unfold spl4; rw [if_pos hc4]), N0, rfl⟩
  · obtain ⟨cl6, Ar6, -, S6, -, H6, -⟩ := id Va
    have hin6 : ¬ ((0 : Int32) < 0 ∨ cl6.slots.size ≤ ((0 : Int32)).toNatClampNeg) := inb_of S6 ⟨by decide, by decide⟩
    have hat6 : cl6.slots[((0 : Int32)).toNatClampNeg]? = some (.int x0) := Has.at H6 hin6 rfl
    have pre7 : ∀ t, Steps p.tables e below (s₁.setTop (mkF m 25 #[.val (.ref r0), .val (.int (1 : Int32)), .val (.int (0 : Int32))] [(.int (92 : Int32)), (.int x0)])) t → Steps p.tables e below (s₁.setTop (entryFrame m #[(.ref r0)] 3)) t := fun t kk => pre3 t (by
      show Steps p.tables e below (s₁.setTop (mkF m 17 #[.val (.ref r0), .val (.int (1 : Int32)), .val (.int (0 : Int32))] [(.int x0)])) _
      refine XS.ifNo X0.here hx rfl (hb hby d1_17) rfl ((if0 _ _).trans (flt hc4).1) ?_
      show Steps p.tables e below (s₁.setTop (mkF m 20 #[.val (.ref r0), .val (.int (1 : Int32)), .val (.int (0 : Int32))] [])) _
      refine XS.aloadN X0.here hx rfl (hb hby d1_20) rfl rfl ?_
      show Steps p.tables e below (s₁.setTop (mkF m 21 #[.val (.ref r0), .val (.int (1 : Int32)), .val (.int (0 : Int32))] [(.ref r0)])) _
      refine XS.iloadN X0.here hx rfl (hb hby d1_21) rfl ?_
      show Steps p.tables e below (s₁.setTop (mkF m 22 #[.val (.ref r0), .val (.int (1 : Int32)), .val (.int (0 : Int32))] [(.int (0 : Int32)), (.ref r0)])) _
      refine X0.baloadBytes hx (j := (0 : Int32)) (v := (.int x0)) (by rw [e0]; exact Ar6.1) (State.isArrayOf_alike hZ.alike Ar6.2.1) Ar6.2.2 hin6 hat6 (g := (mkF m 22 #[.val (.ref r0), .val (.int (1 : Int32)), .val (.int (0 : Int32))] [(.int (0 : Int32)), (.ref r0)])) rfl rfl (hb hby d1_22) _ ?_
      show Steps p.tables e below (s₁.setTop (mkF m 23 #[.val (.ref r0), .val (.int (1 : Int32)), .val (.int (0 : Int32))] [(.int x0)])) _
      refine XS.bipush X0.here hx rfl (hb hby d1_23) ?_
      exact kk)
    by_cases hc8 : x0 = (92 : Int32)
    · obtain ⟨cl9, Ar9, -, S9, Nn9, -, -⟩ := id Va
      obtain ⟨fs, hr, hrun, hended, hW, hsame⟩ := X0.leave (v := some (.int (0 : Int32))) (fun h => by rw [Bd.returns] at h; cases h)
      refine ⟨_, _, pre7 _ ?_, hrun, hended, _, _, rfl, ?_, ⟨_, rfl⟩, hW, hsame.mono (by decide) (by decide)⟩
      · show Steps p.tables e below (s₁.setTop (mkF m 25 #[.val (.ref r0), .val (.int (1 : Int32)), .val (.int (0 : Int32))] [(.int (92 : Int32)), (.int x0)])) _
        refine XS.icmpYes X0.here hx rfl (pc0 := 25) (pc' := 32) rfl (hb hby d1_25) rfl (teq hc8).1 (by decide) (by decide) ?_
        show Steps p.tables e below (s₁.setTop (mkF m 32 #[.val (.ref r0), .val (.int (1 : Int32)), .val (.int (0 : Int32))] [])) _
        refine XS.iconst X0.here hx rfl (hb hby d1_32) ?_
        show Steps p.tables e below (s₁.setTop (mkF m 33 #[.val (.ref r0), .val (.int (1 : Int32)), .val (.int (0 : Int32))] [(.int (0 : Int32))])) _
        refine XS.istoreN X0.here hx rfl (hb hby d1_33) rfl (l' := #[.val (.ref r0), .val (.int (0 : Int32)), .val (.int (0 : Int32))]) rfl ?_
        show Steps p.tables e below (s₁.setTop (mkF m 34 #[.val (.ref r0), .val (.int (0 : Int32)), .val (.int (0 : Int32))] [])) _
        refine XS.iinc X0.here hx rfl (hb hby d1_34) rfl (l' := #[.val (.ref r0), .val (.int (0 : Int32)), .val (.int (1 : Int32))]) rfl ?_
        show Steps p.tables e below (s₁.setTop (mkF m 37 #[.val (.ref r0), .val (.int (0 : Int32)), .val (.int (1 : Int32))] [])) _
        refine XS.goto X0.here hx rfl (pc0 := 37) (pc' := 4) rfl (hb hby d1_37) (by decide) (by decide) ?_
        show Steps p.tables e below (s₁.setTop (mkF m 4 #[.val (.ref r0), .val (.int (0 : Int32)), .val (.int (1 : Int32))] [])) _
        refine XS.iloadN X0.here hx rfl (hb hby d1_4) rfl ?_
        show Steps p.tables e below (s₁.setTop (mkF m 5 #[.val (.ref r0), .val (.int (0 : Int32)), .val (.int (1 : Int32))] [(.int (1 : Int32))])) _
        refine XS.aloadN X0.here hx rfl (hb hby d1_5) rfl rfl ?_
        show Steps p.tables e below (s₁.setTop (mkF m 6 #[.val (.ref r0), .val (.int (0 : Int32)), .val (.int (1 : Int32))] [(.ref r0), (.int (1 : Int32))])) _
        refine X0.arraylength hx (by rw [e0]; exact Ar9.1) (State.isArrayOf_alike hZ.alike Ar9.2.1) (g := (mkF m 6 #[.val (.ref r0), .val (.int (0 : Int32)), .val (.int (1 : Int32))] [(.ref r0), (.int (1 : Int32))])) rfl rfl (hb hby d1_6) _ ?_
        rw [len_of S9 Nn9]
        show Steps p.tables e below (s₁.setTop (mkF m 7 #[.val (.ref r0), .val (.int (0 : Int32)), .val (.int (1 : Int32))] [(.int (4 : Int32)), (.int (1 : Int32))])) _
        refine XS.icmpNo X0.here hx rfl (hb hby d1_7) rfl (tlt (by decide)).2.1 ?_
        show Steps p.tables e below (s₁.setTop (mkF m 10 #[.val (.ref r0), .val (.int (0 : Int32)), .val (.int (1 : Int32))] [])) _
        refine XS.iloadN X0.here hx rfl (hb hby d1_10) rfl ?_
        show Steps p.tables e below (s₁.setTop (mkF m 11 #[.val (.ref r0), .val (.int (0 : Int32)), .val (.int (1 : Int32))] [(.int (0 : Int32))])) _
        refine XS.ifYes X0.here hx rfl (pc0 := 11) (pc' := 40) rfl (hb hby d1_11) rfl ((if0 _ _).trans (teq (rfl : (0 : Int32) = (0 : Int32))).1) (by decide) (by decide) ?_
        show Steps p.tables e below (s₁.setTop (mkF m 40 #[.val (.ref r0), .val (.int (0 : Int32)), .val (.int (1 : Int32))] [])) _
        refine XS.iloadN X0.here hx rfl (hb hby d1_40) rfl ?_
        show Steps p.tables e below (s₁.setTop (mkF m 41 #[.val (.ref r0), .val (.int (0 : Int32)), .val (.int (1 : Int32))] [(.int (0 : Int32))])) _
        exact retN X0 hx (t := .boolean) Bd.returns (by simp) (hb hby d1_41) hr
      · show Q1_4 x0 x1 x2 x3 h0 n0 _ s₁.heap _
        rw [e0]
        exact ⟨congrArg (fun z => some (Value.int z)) (by unfold spl4; rw [if_neg hc4, if_pos hc8]), N0, rfl⟩
    · obtain ⟨cl10, Ar10, -, S10, Nn10, -, -⟩ := id Va
      obtain ⟨cl11, Ar11, -, S11, -, H11, -⟩ := id Va
      have hin11 : ¬ ((1 : Int32) < 0 ∨ cl11.slots.size ≤ ((1 : Int32)).toNatClampNeg) := inb_of S11 ⟨by decide, by decide⟩
      have hat11 : cl11.slots[((1 : Int32)).toNatClampNeg]? = some (.int x1) := Has.at H11 hin11 rfl
      have pre12 : ∀ t, Steps p.tables e below (s₁.setTop (mkF m 17 #[.val (.ref r0), .val (.int (1 : Int32)), .val (.int (1 : Int32))] [(.int x1)])) t → Steps p.tables e below (s₁.setTop (entryFrame m #[(.ref r0)] 3)) t := fun t kk => pre7 t (by
        show Steps p.tables e below (s₁.setTop (mkF m 25 #[.val (.ref r0), .val (.int (1 : Int32)), .val (.int (0 : Int32))] [(.int (92 : Int32)), (.int x0)])) _
        refine XS.icmpNo X0.here hx rfl (hb hby d1_25) rfl (feq hc8).1 ?_
        show Steps p.tables e below (s₁.setTop (mkF m 28 #[.val (.ref r0), .val (.int (1 : Int32)), .val (.int (0 : Int32))] [])) _
        refine XS.iconst X0.here hx rfl (hb hby d1_28) ?_
        show Steps p.tables e below (s₁.setTop (mkF m 29 #[.val (.ref r0), .val (.int (1 : Int32)), .val (.int (0 : Int32))] [(.int (1 : Int32))])) _
        refine XS.goto X0.here hx rfl (pc0 := 29) (pc' := 33) rfl (hb hby d1_29) (by decide) (by decide) ?_
        show Steps p.tables e below (s₁.setTop (mkF m 33 #[.val (.ref r0), .val (.int (1 : Int32)), .val (.int (0 : Int32))] [(.int (1 : Int32))])) _
        refine XS.istoreN X0.here hx rfl (hb hby d1_33) rfl (l' := #[.val (.ref r0), .val (.int (1 : Int32)), .val (.int (0 : Int32))]) rfl ?_
        show Steps p.tables e below (s₁.setTop (mkF m 34 #[.val (.ref r0), .val (.int (1 : Int32)), .val (.int (0 : Int32))] [])) _
        refine XS.iinc X0.here hx rfl (hb hby d1_34) rfl (l' := #[.val (.ref r0), .val (.int (1 : Int32)), .val (.int (1 : Int32))]) rfl ?_
        show Steps p.tables e below (s₁.setTop (mkF m 37 #[.val (.ref r0), .val (.int (1 : Int32)), .val (.int (1 : Int32))] [])) _
        refine XS.goto X0.here hx rfl (pc0 := 37) (pc' := 4) rfl (hb hby d1_37) (by decide) (by decide) ?_
        show Steps p.tables e below (s₁.setTop (mkF m 4 #[.val (.ref r0), .val (.int (1 : Int32)), .val (.int (1 : Int32))] [])) _
        refine XS.iloadN X0.here hx rfl (hb hby d1_4) rfl ?_
        show Steps p.tables e below (s₁.setTop (mkF m 5 #[.val (.ref r0), .val (.int (1 : Int32)), .val (.int (1 : Int32))] [(.int (1 : Int32))])) _
        refine XS.aloadN X0.here hx rfl (hb hby d1_5) rfl rfl ?_
        show Steps p.tables e below (s₁.setTop (mkF m 6 #[.val (.ref r0), .val (.int (1 : Int32)), .val (.int (1 : Int32))] [(.ref r0), (.int (1 : Int32))])) _
        refine X0.arraylength hx (by rw [e0]; exact Ar10.1) (State.isArrayOf_alike hZ.alike Ar10.2.1) (g := (mkF m 6 #[.val (.ref r0), .val (.int (1 : Int32)), .val (.int (1 : Int32))] [(.ref r0), (.int (1 : Int32))])) rfl rfl (hb hby d1_6) _ ?_
        rw [len_of S10 Nn10]
        show Steps p.tables e below (s₁.setTop (mkF m 7 #[.val (.ref r0), .val (.int (1 : Int32)), .val (.int (1 : Int32))] [(.int (4 : Int32)), (.int (1 : Int32))])) _
        refine XS.icmpNo X0.here hx rfl (hb hby d1_7) rfl (tlt (by decide)).2.1 ?_
        show Steps p.tables e below (s₁.setTop (mkF m 10 #[.val (.ref r0), .val (.int (1 : Int32)), .val (.int (1 : Int32))] [])) _
        refine XS.iloadN X0.here hx rfl (hb hby d1_10) rfl ?_
        show Steps p.tables e below (s₁.setTop (mkF m 11 #[.val (.ref r0), .val (.int (1 : Int32)), .val (.int (1 : Int32))] [(.int (1 : Int32))])) _
        refine XS.ifNo X0.here hx rfl (hb hby d1_11) rfl ((if0 _ _).trans (feq (by decide)).1) ?_
        show Steps p.tables e below (s₁.setTop (mkF m 14 #[.val (.ref r0), .val (.int (1 : Int32)), .val (.int (1 : Int32))] [])) _
        refine XS.aloadN X0.here hx rfl (hb hby d1_14) rfl rfl ?_
        show Steps p.tables e below (s₁.setTop (mkF m 15 #[.val (.ref r0), .val (.int (1 : Int32)), .val (.int (1 : Int32))] [(.ref r0)])) _
        refine XS.iloadN X0.here hx rfl (hb hby d1_15) rfl ?_
        show Steps p.tables e below (s₁.setTop (mkF m 16 #[.val (.ref r0), .val (.int (1 : Int32)), .val (.int (1 : Int32))] [(.int (1 : Int32)), (.ref r0)])) _
        refine X0.baloadBytes hx (j := (1 : Int32)) (v := (.int x1)) (by rw [e0]; exact Ar11.1) (State.isArrayOf_alike hZ.alike Ar11.2.1) Ar11.2.2 hin11 hat11 (g := (mkF m 16 #[.val (.ref r0), .val (.int (1 : Int32)), .val (.int (1 : Int32))] [(.int (1 : Int32)), (.ref r0)])) rfl rfl (hb hby d1_16) _ ?_
        exact kk)
      by_cases hc13 : x1 < (0 : Int32)
      · obtain ⟨cl14, Ar14, -, S14, Nn14, -, -⟩ := id Va
        obtain ⟨fs, hr, hrun, hended, hW, hsame⟩ := X0.leave (v := some (.int (0 : Int32))) (fun h => by rw [Bd.returns] at h; cases h)
        refine ⟨_, _, pre12 _ ?_, hrun, hended, _, _, rfl, ?_, ⟨_, rfl⟩, hW, hsame.mono (by decide) (by decide)⟩
        · show Steps p.tables e below (s₁.setTop (mkF m 17 #[.val (.ref r0), .val (.int (1 : Int32)), .val (.int (1 : Int32))] [(.int x1)])) _
          refine XS.ifYes X0.here hx rfl (pc0 := 17) (pc' := 32) rfl (hb hby d1_17) rfl ((if0 _ _).trans (tlt hc13).1) (by decide) (by decide) ?_
          show Steps p.tables e below (s₁.setTop (mkF m 32 #[.val (.ref r0), .val (.int (1 : Int32)), .val (.int (1 : Int32))] [])) _
          refine XS.iconst X0.here hx rfl (hb hby d1_32) ?_
          show Steps p.tables e below (s₁.setTop (mkF m 33 #[.val (.ref r0), .val (.int (1 : Int32)), .val (.int (1 : Int32))] [(.int (0 : Int32))])) _
          refine XS.istoreN X0.here hx rfl (hb hby d1_33) rfl (l' := #[.val (.ref r0), .val (.int (0 : Int32)), .val (.int (1 : Int32))]) rfl ?_
          show Steps p.tables e below (s₁.setTop (mkF m 34 #[.val (.ref r0), .val (.int (0 : Int32)), .val (.int (1 : Int32))] [])) _
          refine XS.iinc X0.here hx rfl (hb hby d1_34) rfl (l' := #[.val (.ref r0), .val (.int (0 : Int32)), .val (.int (2 : Int32))]) rfl ?_
          show Steps p.tables e below (s₁.setTop (mkF m 37 #[.val (.ref r0), .val (.int (0 : Int32)), .val (.int (2 : Int32))] [])) _
          refine XS.goto X0.here hx rfl (pc0 := 37) (pc' := 4) rfl (hb hby d1_37) (by decide) (by decide) ?_
          show Steps p.tables e below (s₁.setTop (mkF m 4 #[.val (.ref r0), .val (.int (0 : Int32)), .val (.int (2 : Int32))] [])) _
          refine XS.iloadN X0.here hx rfl (hb hby d1_4) rfl ?_
          show Steps p.tables e below (s₁.setTop (mkF m 5 #[.val (.ref r0), .val (.int (0 : Int32)), .val (.int (2 : Int32))] [(.int (2 : Int32))])) _
          refine XS.aloadN X0.here hx rfl (hb hby d1_5) rfl rfl ?_
          show Steps p.tables e below (s₁.setTop (mkF m 6 #[.val (.ref r0), .val (.int (0 : Int32)), .val (.int (2 : Int32))] [(.ref r0), (.int (2 : Int32))])) _
          refine X0.arraylength hx (by rw [e0]; exact Ar14.1) (State.isArrayOf_alike hZ.alike Ar14.2.1) (g := (mkF m 6 #[.val (.ref r0), .val (.int (0 : Int32)), .val (.int (2 : Int32))] [(.ref r0), (.int (2 : Int32))])) rfl rfl (hb hby d1_6) _ ?_
          rw [len_of S14 Nn14]
          show Steps p.tables e below (s₁.setTop (mkF m 7 #[.val (.ref r0), .val (.int (0 : Int32)), .val (.int (2 : Int32))] [(.int (4 : Int32)), (.int (2 : Int32))])) _
          refine XS.icmpNo X0.here hx rfl (hb hby d1_7) rfl (tlt (by decide)).2.1 ?_
          show Steps p.tables e below (s₁.setTop (mkF m 10 #[.val (.ref r0), .val (.int (0 : Int32)), .val (.int (2 : Int32))] [])) _
          refine XS.iloadN X0.here hx rfl (hb hby d1_10) rfl ?_
          show Steps p.tables e below (s₁.setTop (mkF m 11 #[.val (.ref r0), .val (.int (0 : Int32)), .val (.int (2 : Int32))] [(.int (0 : Int32))])) _
          refine XS.ifYes X0.here hx rfl (pc0 := 11) (pc' := 40) rfl (hb hby d1_11) rfl ((if0 _ _).trans (teq (rfl : (0 : Int32) = (0 : Int32))).1) (by decide) (by decide) ?_
          show Steps p.tables e below (s₁.setTop (mkF m 40 #[.val (.ref r0), .val (.int (0 : Int32)), .val (.int (2 : Int32))] [])) _
          refine XS.iloadN X0.here hx rfl (hb hby d1_40) rfl ?_
          show Steps p.tables e below (s₁.setTop (mkF m 41 #[.val (.ref r0), .val (.int (0 : Int32)), .val (.int (2 : Int32))] [(.int (0 : Int32))])) _
          exact retN X0 hx (t := .boolean) Bd.returns (by simp) (hb hby d1_41) hr
        · show Q1_4 x0 x1 x2 x3 h0 n0 _ s₁.heap _
          rw [e0]
          exact ⟨congrArg (fun z => some (Value.int z)) (by unfold spl4; rw [if_neg hc4, if_neg hc8, if_pos hc13]), N0, rfl⟩
      · obtain ⟨cl15, Ar15, -, S15, -, H15, -⟩ := id Va
        have hin15 : ¬ ((1 : Int32) < 0 ∨ cl15.slots.size ≤ ((1 : Int32)).toNatClampNeg) := inb_of S15 ⟨by decide, by decide⟩
        have hat15 : cl15.slots[((1 : Int32)).toNatClampNeg]? = some (.int x1) := Has.at H15 hin15 rfl
        have pre16 : ∀ t, Steps p.tables e below (s₁.setTop (mkF m 25 #[.val (.ref r0), .val (.int (1 : Int32)), .val (.int (1 : Int32))] [(.int (92 : Int32)), (.int x1)])) t → Steps p.tables e below (s₁.setTop (entryFrame m #[(.ref r0)] 3)) t := fun t kk => pre12 t (by
          show Steps p.tables e below (s₁.setTop (mkF m 17 #[.val (.ref r0), .val (.int (1 : Int32)), .val (.int (1 : Int32))] [(.int x1)])) _
          refine XS.ifNo X0.here hx rfl (hb hby d1_17) rfl ((if0 _ _).trans (flt hc13).1) ?_
          show Steps p.tables e below (s₁.setTop (mkF m 20 #[.val (.ref r0), .val (.int (1 : Int32)), .val (.int (1 : Int32))] [])) _
          refine XS.aloadN X0.here hx rfl (hb hby d1_20) rfl rfl ?_
          show Steps p.tables e below (s₁.setTop (mkF m 21 #[.val (.ref r0), .val (.int (1 : Int32)), .val (.int (1 : Int32))] [(.ref r0)])) _
          refine XS.iloadN X0.here hx rfl (hb hby d1_21) rfl ?_
          show Steps p.tables e below (s₁.setTop (mkF m 22 #[.val (.ref r0), .val (.int (1 : Int32)), .val (.int (1 : Int32))] [(.int (1 : Int32)), (.ref r0)])) _
          refine X0.baloadBytes hx (j := (1 : Int32)) (v := (.int x1)) (by rw [e0]; exact Ar15.1) (State.isArrayOf_alike hZ.alike Ar15.2.1) Ar15.2.2 hin15 hat15 (g := (mkF m 22 #[.val (.ref r0), .val (.int (1 : Int32)), .val (.int (1 : Int32))] [(.int (1 : Int32)), (.ref r0)])) rfl rfl (hb hby d1_22) _ ?_
          show Steps p.tables e below (s₁.setTop (mkF m 23 #[.val (.ref r0), .val (.int (1 : Int32)), .val (.int (1 : Int32))] [(.int x1)])) _
          refine XS.bipush X0.here hx rfl (hb hby d1_23) ?_
          exact kk)
        by_cases hc17 : x1 = (92 : Int32)
        · obtain ⟨cl18, Ar18, -, S18, Nn18, -, -⟩ := id Va
          obtain ⟨fs, hr, hrun, hended, hW, hsame⟩ := X0.leave (v := some (.int (0 : Int32))) (fun h => by rw [Bd.returns] at h; cases h)
          refine ⟨_, _, pre16 _ ?_, hrun, hended, _, _, rfl, ?_, ⟨_, rfl⟩, hW, hsame.mono (by decide) (by decide)⟩
          · show Steps p.tables e below (s₁.setTop (mkF m 25 #[.val (.ref r0), .val (.int (1 : Int32)), .val (.int (1 : Int32))] [(.int (92 : Int32)), (.int x1)])) _
            refine XS.icmpYes X0.here hx rfl (pc0 := 25) (pc' := 32) rfl (hb hby d1_25) rfl (teq hc17).1 (by decide) (by decide) ?_
            show Steps p.tables e below (s₁.setTop (mkF m 32 #[.val (.ref r0), .val (.int (1 : Int32)), .val (.int (1 : Int32))] [])) _
            refine XS.iconst X0.here hx rfl (hb hby d1_32) ?_
            show Steps p.tables e below (s₁.setTop (mkF m 33 #[.val (.ref r0), .val (.int (1 : Int32)), .val (.int (1 : Int32))] [(.int (0 : Int32))])) _
            refine XS.istoreN X0.here hx rfl (hb hby d1_33) rfl (l' := #[.val (.ref r0), .val (.int (0 : Int32)), .val (.int (1 : Int32))]) rfl ?_
            show Steps p.tables e below (s₁.setTop (mkF m 34 #[.val (.ref r0), .val (.int (0 : Int32)), .val (.int (1 : Int32))] [])) _
            refine XS.iinc X0.here hx rfl (hb hby d1_34) rfl (l' := #[.val (.ref r0), .val (.int (0 : Int32)), .val (.int (2 : Int32))]) rfl ?_
            show Steps p.tables e below (s₁.setTop (mkF m 37 #[.val (.ref r0), .val (.int (0 : Int32)), .val (.int (2 : Int32))] [])) _
            refine XS.goto X0.here hx rfl (pc0 := 37) (pc' := 4) rfl (hb hby d1_37) (by decide) (by decide) ?_
            show Steps p.tables e below (s₁.setTop (mkF m 4 #[.val (.ref r0), .val (.int (0 : Int32)), .val (.int (2 : Int32))] [])) _
            refine XS.iloadN X0.here hx rfl (hb hby d1_4) rfl ?_
            show Steps p.tables e below (s₁.setTop (mkF m 5 #[.val (.ref r0), .val (.int (0 : Int32)), .val (.int (2 : Int32))] [(.int (2 : Int32))])) _
            refine XS.aloadN X0.here hx rfl (hb hby d1_5) rfl rfl ?_
            show Steps p.tables e below (s₁.setTop (mkF m 6 #[.val (.ref r0), .val (.int (0 : Int32)), .val (.int (2 : Int32))] [(.ref r0), (.int (2 : Int32))])) _
            refine X0.arraylength hx (by rw [e0]; exact Ar18.1) (State.isArrayOf_alike hZ.alike Ar18.2.1) (g := (mkF m 6 #[.val (.ref r0), .val (.int (0 : Int32)), .val (.int (2 : Int32))] [(.ref r0), (.int (2 : Int32))])) rfl rfl (hb hby d1_6) _ ?_
            rw [len_of S18 Nn18]
            show Steps p.tables e below (s₁.setTop (mkF m 7 #[.val (.ref r0), .val (.int (0 : Int32)), .val (.int (2 : Int32))] [(.int (4 : Int32)), (.int (2 : Int32))])) _
            refine XS.icmpNo X0.here hx rfl (hb hby d1_7) rfl (tlt (by decide)).2.1 ?_
            show Steps p.tables e below (s₁.setTop (mkF m 10 #[.val (.ref r0), .val (.int (0 : Int32)), .val (.int (2 : Int32))] [])) _
            refine XS.iloadN X0.here hx rfl (hb hby d1_10) rfl ?_
            show Steps p.tables e below (s₁.setTop (mkF m 11 #[.val (.ref r0), .val (.int (0 : Int32)), .val (.int (2 : Int32))] [(.int (0 : Int32))])) _
            refine XS.ifYes X0.here hx rfl (pc0 := 11) (pc' := 40) rfl (hb hby d1_11) rfl ((if0 _ _).trans (teq (rfl : (0 : Int32) = (0 : Int32))).1) (by decide) (by decide) ?_
            show Steps p.tables e below (s₁.setTop (mkF m 40 #[.val (.ref r0), .val (.int (0 : Int32)), .val (.int (2 : Int32))] [])) _
            refine XS.iloadN X0.here hx rfl (hb hby d1_40) rfl ?_
            show Steps p.tables e below (s₁.setTop (mkF m 41 #[.val (.ref r0), .val (.int (0 : Int32)), .val (.int (2 : Int32))] [(.int (0 : Int32))])) _
            exact retN X0 hx (t := .boolean) Bd.returns (by simp) (hb hby d1_41) hr
          · show Q1_4 x0 x1 x2 x3 h0 n0 _ s₁.heap _
            rw [e0]
            exact ⟨congrArg (fun z => some (Value.int z)) (by unfold spl4; rw [if_neg hc4, if_neg hc8, if_neg hc13, if_pos hc17]), N0, rfl⟩
        · obtain ⟨cl19, Ar19, -, S19, Nn19, -, -⟩ := id Va
          obtain ⟨cl20, Ar20, -, S20, -, H20, -⟩ := id Va
          have hin20 : ¬ ((2 : Int32) < 0 ∨ cl20.slots.size ≤ ((2 : Int32)).toNatClampNeg) := inb_of S20 ⟨by decide, by decide⟩
          have hat20 : cl20.slots[((2 : Int32)).toNatClampNeg]? = some (.int x2) := Has.at H20 hin20 rfl
          have pre21 : ∀ t, Steps p.tables e below (s₁.setTop (mkF m 17 #[.val (.ref r0), .val (.int (1 : Int32)), .val (.int (2 : Int32))] [(.int x2)])) t → Steps p.tables e below (s₁.setTop (entryFrame m #[(.ref r0)] 3)) t := fun t kk => pre16 t (by
            show Steps p.tables e below (s₁.setTop (mkF m 25 #[.val (.ref r0), .val (.int (1 : Int32)), .val (.int (1 : Int32))] [(.int (92 : Int32)), (.int x1)])) _
            refine XS.icmpNo X0.here hx rfl (hb hby d1_25) rfl (feq hc17).1 ?_
            show Steps p.tables e below (s₁.setTop (mkF m 28 #[.val (.ref r0), .val (.int (1 : Int32)), .val (.int (1 : Int32))] [])) _
            refine XS.iconst X0.here hx rfl (hb hby d1_28) ?_
            show Steps p.tables e below (s₁.setTop (mkF m 29 #[.val (.ref r0), .val (.int (1 : Int32)), .val (.int (1 : Int32))] [(.int (1 : Int32))])) _
            refine XS.goto X0.here hx rfl (pc0 := 29) (pc' := 33) rfl (hb hby d1_29) (by decide) (by decide) ?_
            show Steps p.tables e below (s₁.setTop (mkF m 33 #[.val (.ref r0), .val (.int (1 : Int32)), .val (.int (1 : Int32))] [(.int (1 : Int32))])) _
            refine XS.istoreN X0.here hx rfl (hb hby d1_33) rfl (l' := #[.val (.ref r0), .val (.int (1 : Int32)), .val (.int (1 : Int32))]) rfl ?_
            show Steps p.tables e below (s₁.setTop (mkF m 34 #[.val (.ref r0), .val (.int (1 : Int32)), .val (.int (1 : Int32))] [])) _
            refine XS.iinc X0.here hx rfl (hb hby d1_34) rfl (l' := #[.val (.ref r0), .val (.int (1 : Int32)), .val (.int (2 : Int32))]) rfl ?_
            show Steps p.tables e below (s₁.setTop (mkF m 37 #[.val (.ref r0), .val (.int (1 : Int32)), .val (.int (2 : Int32))] [])) _
            refine XS.goto X0.here hx rfl (pc0 := 37) (pc' := 4) rfl (hb hby d1_37) (by decide) (by decide) ?_
            show Steps p.tables e below (s₁.setTop (mkF m 4 #[.val (.ref r0), .val (.int (1 : Int32)), .val (.int (2 : Int32))] [])) _
            refine XS.iloadN X0.here hx rfl (hb hby d1_4) rfl ?_
            show Steps p.tables e below (s₁.setTop (mkF m 5 #[.val (.ref r0), .val (.int (1 : Int32)), .val (.int (2 : Int32))] [(.int (2 : Int32))])) _
            refine XS.aloadN X0.here hx rfl (hb hby d1_5) rfl rfl ?_
            show Steps p.tables e below (s₁.setTop (mkF m 6 #[.val (.ref r0), .val (.int (1 : Int32)), .val (.int (2 : Int32))] [(.ref r0), (.int (2 : Int32))])) _
            refine X0.arraylength hx (by rw [e0]; exact Ar19.1) (State.isArrayOf_alike hZ.alike Ar19.2.1) (g := (mkF m 6 #[.val (.ref r0), .val (.int (1 : Int32)), .val (.int (2 : Int32))] [(.ref r0), (.int (2 : Int32))])) rfl rfl (hb hby d1_6) _ ?_
            rw [len_of S19 Nn19]
            show Steps p.tables e below (s₁.setTop (mkF m 7 #[.val (.ref r0), .val (.int (1 : Int32)), .val (.int (2 : Int32))] [(.int (4 : Int32)), (.int (2 : Int32))])) _
            refine XS.icmpNo X0.here hx rfl (hb hby d1_7) rfl (tlt (by decide)).2.1 ?_
            show Steps p.tables e below (s₁.setTop (mkF m 10 #[.val (.ref r0), .val (.int (1 : Int32)), .val (.int (2 : Int32))] [])) _
            refine XS.iloadN X0.here hx rfl (hb hby d1_10) rfl ?_
            show Steps p.tables e below (s₁.setTop (mkF m 11 #[.val (.ref r0), .val (.int (1 : Int32)), .val (.int (2 : Int32))] [(.int (1 : Int32))])) _
            refine XS.ifNo X0.here hx rfl (hb hby d1_11) rfl ((if0 _ _).trans (feq (by decide)).1) ?_
            show Steps p.tables e below (s₁.setTop (mkF m 14 #[.val (.ref r0), .val (.int (1 : Int32)), .val (.int (2 : Int32))] [])) _
            refine XS.aloadN X0.here hx rfl (hb hby d1_14) rfl rfl ?_
            show Steps p.tables e below (s₁.setTop (mkF m 15 #[.val (.ref r0), .val (.int (1 : Int32)), .val (.int (2 : Int32))] [(.ref r0)])) _
            refine XS.iloadN X0.here hx rfl (hb hby d1_15) rfl ?_
            show Steps p.tables e below (s₁.setTop (mkF m 16 #[.val (.ref r0), .val (.int (1 : Int32)), .val (.int (2 : Int32))] [(.int (2 : Int32)), (.ref r0)])) _
            refine X0.baloadBytes hx (j := (2 : Int32)) (v := (.int x2)) (by rw [e0]; exact Ar20.1) (State.isArrayOf_alike hZ.alike Ar20.2.1) Ar20.2.2 hin20 hat20 (g := (mkF m 16 #[.val (.ref r0), .val (.int (1 : Int32)), .val (.int (2 : Int32))] [(.int (2 : Int32)), (.ref r0)])) rfl rfl (hb hby d1_16) _ ?_
            exact kk)
          by_cases hc22 : x2 < (0 : Int32)
          · obtain ⟨cl23, Ar23, -, S23, Nn23, -, -⟩ := id Va
            obtain ⟨fs, hr, hrun, hended, hW, hsame⟩ := X0.leave (v := some (.int (0 : Int32))) (fun h => by rw [Bd.returns] at h; cases h)
            refine ⟨_, _, pre21 _ ?_, hrun, hended, _, _, rfl, ?_, ⟨_, rfl⟩, hW, hsame.mono (by decide) (by decide)⟩
            · show Steps p.tables e below (s₁.setTop (mkF m 17 #[.val (.ref r0), .val (.int (1 : Int32)), .val (.int (2 : Int32))] [(.int x2)])) _
              refine XS.ifYes X0.here hx rfl (pc0 := 17) (pc' := 32) rfl (hb hby d1_17) rfl ((if0 _ _).trans (tlt hc22).1) (by decide) (by decide) ?_
              show Steps p.tables e below (s₁.setTop (mkF m 32 #[.val (.ref r0), .val (.int (1 : Int32)), .val (.int (2 : Int32))] [])) _
              refine XS.iconst X0.here hx rfl (hb hby d1_32) ?_
              show Steps p.tables e below (s₁.setTop (mkF m 33 #[.val (.ref r0), .val (.int (1 : Int32)), .val (.int (2 : Int32))] [(.int (0 : Int32))])) _
              refine XS.istoreN X0.here hx rfl (hb hby d1_33) rfl (l' := #[.val (.ref r0), .val (.int (0 : Int32)), .val (.int (2 : Int32))]) rfl ?_
              show Steps p.tables e below (s₁.setTop (mkF m 34 #[.val (.ref r0), .val (.int (0 : Int32)), .val (.int (2 : Int32))] [])) _
              refine XS.iinc X0.here hx rfl (hb hby d1_34) rfl (l' := #[.val (.ref r0), .val (.int (0 : Int32)), .val (.int (3 : Int32))]) rfl ?_
              show Steps p.tables e below (s₁.setTop (mkF m 37 #[.val (.ref r0), .val (.int (0 : Int32)), .val (.int (3 : Int32))] [])) _
              refine XS.goto X0.here hx rfl (pc0 := 37) (pc' := 4) rfl (hb hby d1_37) (by decide) (by decide) ?_
              show Steps p.tables e below (s₁.setTop (mkF m 4 #[.val (.ref r0), .val (.int (0 : Int32)), .val (.int (3 : Int32))] [])) _
              refine XS.iloadN X0.here hx rfl (hb hby d1_4) rfl ?_
              show Steps p.tables e below (s₁.setTop (mkF m 5 #[.val (.ref r0), .val (.int (0 : Int32)), .val (.int (3 : Int32))] [(.int (3 : Int32))])) _
              refine XS.aloadN X0.here hx rfl (hb hby d1_5) rfl rfl ?_
              show Steps p.tables e below (s₁.setTop (mkF m 6 #[.val (.ref r0), .val (.int (0 : Int32)), .val (.int (3 : Int32))] [(.ref r0), (.int (3 : Int32))])) _
              refine X0.arraylength hx (by rw [e0]; exact Ar23.1) (State.isArrayOf_alike hZ.alike Ar23.2.1) (g := (mkF m 6 #[.val (.ref r0), .val (.int (0 : Int32)), .val (.int (3 : Int32))] [(.ref r0), (.int (3 : Int32))])) rfl rfl (hb hby d1_6) _ ?_
              rw [len_of S23 Nn23]
              show Steps p.tables e below (s₁.setTop (mkF m 7 #[.val (.ref r0), .val (.int (0 : Int32)), .val (.int (3 : Int32))] [(.int (4 : Int32)), (.int (3 : Int32))])) _
              refine XS.icmpNo X0.here hx rfl (hb hby d1_7) rfl (tlt (by decide)).2.1 ?_
              show Steps p.tables e below (s₁.setTop (mkF m 10 #[.val (.ref r0), .val (.int (0 : Int32)), .val (.int (3 : Int32))] [])) _
              refine XS.iloadN X0.here hx rfl (hb hby d1_10) rfl ?_
              show Steps p.tables e below (s₁.setTop (mkF m 11 #[.val (.ref r0), .val (.int (0 : Int32)), .val (.int (3 : Int32))] [(.int (0 : Int32))])) _
              refine XS.ifYes X0.here hx rfl (pc0 := 11) (pc' := 40) rfl (hb hby d1_11) rfl ((if0 _ _).trans (teq (rfl : (0 : Int32) = (0 : Int32))).1) (by decide) (by decide) ?_
              show Steps p.tables e below (s₁.setTop (mkF m 40 #[.val (.ref r0), .val (.int (0 : Int32)), .val (.int (3 : Int32))] [])) _
              refine XS.iloadN X0.here hx rfl (hb hby d1_40) rfl ?_
              show Steps p.tables e below (s₁.setTop (mkF m 41 #[.val (.ref r0), .val (.int (0 : Int32)), .val (.int (3 : Int32))] [(.int (0 : Int32))])) _
              exact retN X0 hx (t := .boolean) Bd.returns (by simp) (hb hby d1_41) hr
            · show Q1_4 x0 x1 x2 x3 h0 n0 _ s₁.heap _
              rw [e0]
              exact ⟨congrArg (fun z => some (Value.int z)) (by unfold spl4; rw [if_neg hc4, if_neg hc8, if_neg hc13, if_neg hc17, if_pos hc22]), N0, rfl⟩
          · obtain ⟨cl24, Ar24, -, S24, -, H24, -⟩ := id Va
            have hin24 : ¬ ((2 : Int32) < 0 ∨ cl24.slots.size ≤ ((2 : Int32)).toNatClampNeg) := inb_of S24 ⟨by decide, by decide⟩
            have hat24 : cl24.slots[((2 : Int32)).toNatClampNeg]? = some (.int x2) := Has.at H24 hin24 rfl
            have pre25 : ∀ t, Steps p.tables e below (s₁.setTop (mkF m 25 #[.val (.ref r0), .val (.int (1 : Int32)), .val (.int (2 : Int32))] [(.int (92 : Int32)), (.int x2)])) t → Steps p.tables e below (s₁.setTop (entryFrame m #[(.ref r0)] 3)) t := fun t kk => pre21 t (by
              show Steps p.tables e below (s₁.setTop (mkF m 17 #[.val (.ref r0), .val (.int (1 : Int32)), .val (.int (2 : Int32))] [(.int x2)])) _
              refine XS.ifNo X0.here hx rfl (hb hby d1_17) rfl ((if0 _ _).trans (flt hc22).1) ?_
              show Steps p.tables e below (s₁.setTop (mkF m 20 #[.val (.ref r0), .val (.int (1 : Int32)), .val (.int (2 : Int32))] [])) _
              refine XS.aloadN X0.here hx rfl (hb hby d1_20) rfl rfl ?_
              show Steps p.tables e below (s₁.setTop (mkF m 21 #[.val (.ref r0), .val (.int (1 : Int32)), .val (.int (2 : Int32))] [(.ref r0)])) _
              refine XS.iloadN X0.here hx rfl (hb hby d1_21) rfl ?_
              show Steps p.tables e below (s₁.setTop (mkF m 22 #[.val (.ref r0), .val (.int (1 : Int32)), .val (.int (2 : Int32))] [(.int (2 : Int32)), (.ref r0)])) _
              refine X0.baloadBytes hx (j := (2 : Int32)) (v := (.int x2)) (by rw [e0]; exact Ar24.1) (State.isArrayOf_alike hZ.alike Ar24.2.1) Ar24.2.2 hin24 hat24 (g := (mkF m 22 #[.val (.ref r0), .val (.int (1 : Int32)), .val (.int (2 : Int32))] [(.int (2 : Int32)), (.ref r0)])) rfl rfl (hb hby d1_22) _ ?_
              show Steps p.tables e below (s₁.setTop (mkF m 23 #[.val (.ref r0), .val (.int (1 : Int32)), .val (.int (2 : Int32))] [(.int x2)])) _
              refine XS.bipush X0.here hx rfl (hb hby d1_23) ?_
              exact kk)
            by_cases hc26 : x2 = (92 : Int32)
            · obtain ⟨cl27, Ar27, -, S27, Nn27, -, -⟩ := id Va
              obtain ⟨fs, hr, hrun, hended, hW, hsame⟩ := X0.leave (v := some (.int (0 : Int32))) (fun h => by rw [Bd.returns] at h; cases h)
              refine ⟨_, _, pre25 _ ?_, hrun, hended, _, _, rfl, ?_, ⟨_, rfl⟩, hW, hsame.mono (by decide) (by decide)⟩
              · show Steps p.tables e below (s₁.setTop (mkF m 25 #[.val (.ref r0), .val (.int (1 : Int32)), .val (.int (2 : Int32))] [(.int (92 : Int32)), (.int x2)])) _
                refine XS.icmpYes X0.here hx rfl (pc0 := 25) (pc' := 32) rfl (hb hby d1_25) rfl (teq hc26).1 (by decide) (by decide) ?_
                show Steps p.tables e below (s₁.setTop (mkF m 32 #[.val (.ref r0), .val (.int (1 : Int32)), .val (.int (2 : Int32))] [])) _
                refine XS.iconst X0.here hx rfl (hb hby d1_32) ?_
                show Steps p.tables e below (s₁.setTop (mkF m 33 #[.val (.ref r0), .val (.int (1 : Int32)), .val (.int (2 : Int32))] [(.int (0 : Int32))])) _
                refine XS.istoreN X0.here hx rfl (hb hby d1_33) rfl (l' := #[.val (.ref r0), .val (.int (0 : Int32)), .val (.int (2 : Int32))]) rfl ?_
                show Steps p.tables e below (s₁.setTop (mkF m 34 #[.val (.ref r0), .val (.int (0 : Int32)), .val (.int (2 : Int32))] [])) _
                refine XS.iinc X0.here hx rfl (hb hby d1_34) rfl (l' := #[.val (.ref r0), .val (.int (0 : Int32)), .val (.int (3 : Int32))]) rfl ?_
                show Steps p.tables e below (s₁.setTop (mkF m 37 #[.val (.ref r0), .val (.int (0 : Int32)), .val (.int (3 : Int32))] [])) _
                refine XS.goto X0.here hx rfl (pc0 := 37) (pc' := 4) rfl (hb hby d1_37) (by decide) (by decide) ?_
                show Steps p.tables e below (s₁.setTop (mkF m 4 #[.val (.ref r0), .val (.int (0 : Int32)), .val (.int (3 : Int32))] [])) _
                refine XS.iloadN X0.here hx rfl (hb hby d1_4) rfl ?_
                show Steps p.tables e below (s₁.setTop (mkF m 5 #[.val (.ref r0), .val (.int (0 : Int32)), .val (.int (3 : Int32))] [(.int (3 : Int32))])) _
                refine XS.aloadN X0.here hx rfl (hb hby d1_5) rfl rfl ?_
                show Steps p.tables e below (s₁.setTop (mkF m 6 #[.val (.ref r0), .val (.int (0 : Int32)), .val (.int (3 : Int32))] [(.ref r0), (.int (3 : Int32))])) _
                refine X0.arraylength hx (by rw [e0]; exact Ar27.1) (State.isArrayOf_alike hZ.alike Ar27.2.1) (g := (mkF m 6 #[.val (.ref r0), .val (.int (0 : Int32)), .val (.int (3 : Int32))] [(.ref r0), (.int (3 : Int32))])) rfl rfl (hb hby d1_6) _ ?_
                rw [len_of S27 Nn27]
                show Steps p.tables e below (s₁.setTop (mkF m 7 #[.val (.ref r0), .val (.int (0 : Int32)), .val (.int (3 : Int32))] [(.int (4 : Int32)), (.int (3 : Int32))])) _
                refine XS.icmpNo X0.here hx rfl (hb hby d1_7) rfl (tlt (by decide)).2.1 ?_
                show Steps p.tables e below (s₁.setTop (mkF m 10 #[.val (.ref r0), .val (.int (0 : Int32)), .val (.int (3 : Int32))] [])) _
                refine XS.iloadN X0.here hx rfl (hb hby d1_10) rfl ?_
                show Steps p.tables e below (s₁.setTop (mkF m 11 #[.val (.ref r0), .val (.int (0 : Int32)), .val (.int (3 : Int32))] [(.int (0 : Int32))])) _
                refine XS.ifYes X0.here hx rfl (pc0 := 11) (pc' := 40) rfl (hb hby d1_11) rfl ((if0 _ _).trans (teq (rfl : (0 : Int32) = (0 : Int32))).1) (by decide) (by decide) ?_
                show Steps p.tables e below (s₁.setTop (mkF m 40 #[.val (.ref r0), .val (.int (0 : Int32)), .val (.int (3 : Int32))] [])) _
                refine XS.iloadN X0.here hx rfl (hb hby d1_40) rfl ?_
                show Steps p.tables e below (s₁.setTop (mkF m 41 #[.val (.ref r0), .val (.int (0 : Int32)), .val (.int (3 : Int32))] [(.int (0 : Int32))])) _
                exact retN X0 hx (t := .boolean) Bd.returns (by simp) (hb hby d1_41) hr
              · show Q1_4 x0 x1 x2 x3 h0 n0 _ s₁.heap _
                rw [e0]
                exact ⟨congrArg (fun z => some (Value.int z)) (by unfold spl4; rw [if_neg hc4, if_neg hc8, if_neg hc13, if_neg hc17, if_neg hc22, if_pos hc26]), N0, rfl⟩
            · obtain ⟨cl28, Ar28, -, S28, Nn28, -, -⟩ := id Va
              obtain ⟨cl29, Ar29, -, S29, -, H29, -⟩ := id Va
              have hin29 : ¬ ((3 : Int32) < 0 ∨ cl29.slots.size ≤ ((3 : Int32)).toNatClampNeg) := inb_of S29 ⟨by decide, by decide⟩
              have hat29 : cl29.slots[((3 : Int32)).toNatClampNeg]? = some (.int x3) := Has.at H29 hin29 rfl
              have pre30 : ∀ t, Steps p.tables e below (s₁.setTop (mkF m 17 #[.val (.ref r0), .val (.int (1 : Int32)), .val (.int (3 : Int32))] [(.int x3)])) t → Steps p.tables e below (s₁.setTop (entryFrame m #[(.ref r0)] 3)) t := fun t kk => pre25 t (by
                show Steps p.tables e below (s₁.setTop (mkF m 25 #[.val (.ref r0), .val (.int (1 : Int32)), .val (.int (2 : Int32))] [(.int (92 : Int32)), (.int x2)])) _
                refine XS.icmpNo X0.here hx rfl (hb hby d1_25) rfl (feq hc26).1 ?_
                show Steps p.tables e below (s₁.setTop (mkF m 28 #[.val (.ref r0), .val (.int (1 : Int32)), .val (.int (2 : Int32))] [])) _
                refine XS.iconst X0.here hx rfl (hb hby d1_28) ?_
                show Steps p.tables e below (s₁.setTop (mkF m 29 #[.val (.ref r0), .val (.int (1 : Int32)), .val (.int (2 : Int32))] [(.int (1 : Int32))])) _
                refine XS.goto X0.here hx rfl (pc0 := 29) (pc' := 33) rfl (hb hby d1_29) (by decide) (by decide) ?_
                show Steps p.tables e below (s₁.setTop (mkF m 33 #[.val (.ref r0), .val (.int (1 : Int32)), .val (.int (2 : Int32))] [(.int (1 : Int32))])) _
                refine XS.istoreN X0.here hx rfl (hb hby d1_33) rfl (l' := #[.val (.ref r0), .val (.int (1 : Int32)), .val (.int (2 : Int32))]) rfl ?_
                show Steps p.tables e below (s₁.setTop (mkF m 34 #[.val (.ref r0), .val (.int (1 : Int32)), .val (.int (2 : Int32))] [])) _
                refine XS.iinc X0.here hx rfl (hb hby d1_34) rfl (l' := #[.val (.ref r0), .val (.int (1 : Int32)), .val (.int (3 : Int32))]) rfl ?_
                show Steps p.tables e below (s₁.setTop (mkF m 37 #[.val (.ref r0), .val (.int (1 : Int32)), .val (.int (3 : Int32))] [])) _
                refine XS.goto X0.here hx rfl (pc0 := 37) (pc' := 4) rfl (hb hby d1_37) (by decide) (by decide) ?_
                show Steps p.tables e below (s₁.setTop (mkF m 4 #[.val (.ref r0), .val (.int (1 : Int32)), .val (.int (3 : Int32))] [])) _
                refine XS.iloadN X0.here hx rfl (hb hby d1_4) rfl ?_
                show Steps p.tables e below (s₁.setTop (mkF m 5 #[.val (.ref r0), .val (.int (1 : Int32)), .val (.int (3 : Int32))] [(.int (3 : Int32))])) _
                refine XS.aloadN X0.here hx rfl (hb hby d1_5) rfl rfl ?_
                show Steps p.tables e below (s₁.setTop (mkF m 6 #[.val (.ref r0), .val (.int (1 : Int32)), .val (.int (3 : Int32))] [(.ref r0), (.int (3 : Int32))])) _
                refine X0.arraylength hx (by rw [e0]; exact Ar28.1) (State.isArrayOf_alike hZ.alike Ar28.2.1) (g := (mkF m 6 #[.val (.ref r0), .val (.int (1 : Int32)), .val (.int (3 : Int32))] [(.ref r0), (.int (3 : Int32))])) rfl rfl (hb hby d1_6) _ ?_
                rw [len_of S28 Nn28]
                show Steps p.tables e below (s₁.setTop (mkF m 7 #[.val (.ref r0), .val (.int (1 : Int32)), .val (.int (3 : Int32))] [(.int (4 : Int32)), (.int (3 : Int32))])) _
                refine XS.icmpNo X0.here hx rfl (hb hby d1_7) rfl (tlt (by decide)).2.1 ?_
                show Steps p.tables e below (s₁.setTop (mkF m 10 #[.val (.ref r0), .val (.int (1 : Int32)), .val (.int (3 : Int32))] [])) _
                refine XS.iloadN X0.here hx rfl (hb hby d1_10) rfl ?_
                show Steps p.tables e below (s₁.setTop (mkF m 11 #[.val (.ref r0), .val (.int (1 : Int32)), .val (.int (3 : Int32))] [(.int (1 : Int32))])) _
                refine XS.ifNo X0.here hx rfl (hb hby d1_11) rfl ((if0 _ _).trans (feq (by decide)).1) ?_
                show Steps p.tables e below (s₁.setTop (mkF m 14 #[.val (.ref r0), .val (.int (1 : Int32)), .val (.int (3 : Int32))] [])) _
                refine XS.aloadN X0.here hx rfl (hb hby d1_14) rfl rfl ?_
                show Steps p.tables e below (s₁.setTop (mkF m 15 #[.val (.ref r0), .val (.int (1 : Int32)), .val (.int (3 : Int32))] [(.ref r0)])) _
                refine XS.iloadN X0.here hx rfl (hb hby d1_15) rfl ?_
                show Steps p.tables e below (s₁.setTop (mkF m 16 #[.val (.ref r0), .val (.int (1 : Int32)), .val (.int (3 : Int32))] [(.int (3 : Int32)), (.ref r0)])) _
                refine X0.baloadBytes hx (j := (3 : Int32)) (v := (.int x3)) (by rw [e0]; exact Ar29.1) (State.isArrayOf_alike hZ.alike Ar29.2.1) Ar29.2.2 hin29 hat29 (g := (mkF m 16 #[.val (.ref r0), .val (.int (1 : Int32)), .val (.int (3 : Int32))] [(.int (3 : Int32)), (.ref r0)])) rfl rfl (hb hby d1_16) _ ?_
                exact kk)
              by_cases hc31 : x3 < (0 : Int32)
              · obtain ⟨cl32, Ar32, -, S32, Nn32, -, -⟩ := id Va
                obtain ⟨fs, hr, hrun, hended, hW, hsame⟩ := X0.leave (v := some (.int (0 : Int32))) (fun h => by rw [Bd.returns] at h; cases h)
                refine ⟨_, _, pre30 _ ?_, hrun, hended, _, _, rfl, ?_, ⟨_, rfl⟩, hW, hsame.mono (by decide) (by decide)⟩
                · show Steps p.tables e below (s₁.setTop (mkF m 17 #[.val (.ref r0), .val (.int (1 : Int32)), .val (.int (3 : Int32))] [(.int x3)])) _
                  refine XS.ifYes X0.here hx rfl (pc0 := 17) (pc' := 32) rfl (hb hby d1_17) rfl ((if0 _ _).trans (tlt hc31).1) (by decide) (by decide) ?_
                  show Steps p.tables e below (s₁.setTop (mkF m 32 #[.val (.ref r0), .val (.int (1 : Int32)), .val (.int (3 : Int32))] [])) _
                  refine XS.iconst X0.here hx rfl (hb hby d1_32) ?_
                  show Steps p.tables e below (s₁.setTop (mkF m 33 #[.val (.ref r0), .val (.int (1 : Int32)), .val (.int (3 : Int32))] [(.int (0 : Int32))])) _
                  refine XS.istoreN X0.here hx rfl (hb hby d1_33) rfl (l' := #[.val (.ref r0), .val (.int (0 : Int32)), .val (.int (3 : Int32))]) rfl ?_
                  show Steps p.tables e below (s₁.setTop (mkF m 34 #[.val (.ref r0), .val (.int (0 : Int32)), .val (.int (3 : Int32))] [])) _
                  refine XS.iinc X0.here hx rfl (hb hby d1_34) rfl (l' := #[.val (.ref r0), .val (.int (0 : Int32)), .val (.int (4 : Int32))]) rfl ?_
                  show Steps p.tables e below (s₁.setTop (mkF m 37 #[.val (.ref r0), .val (.int (0 : Int32)), .val (.int (4 : Int32))] [])) _
                  refine XS.goto X0.here hx rfl (pc0 := 37) (pc' := 4) rfl (hb hby d1_37) (by decide) (by decide) ?_
                  show Steps p.tables e below (s₁.setTop (mkF m 4 #[.val (.ref r0), .val (.int (0 : Int32)), .val (.int (4 : Int32))] [])) _
                  refine XS.iloadN X0.here hx rfl (hb hby d1_4) rfl ?_
                  show Steps p.tables e below (s₁.setTop (mkF m 5 #[.val (.ref r0), .val (.int (0 : Int32)), .val (.int (4 : Int32))] [(.int (4 : Int32))])) _
                  refine XS.aloadN X0.here hx rfl (hb hby d1_5) rfl rfl ?_
                  show Steps p.tables e below (s₁.setTop (mkF m 6 #[.val (.ref r0), .val (.int (0 : Int32)), .val (.int (4 : Int32))] [(.ref r0), (.int (4 : Int32))])) _
                  refine X0.arraylength hx (by rw [e0]; exact Ar32.1) (State.isArrayOf_alike hZ.alike Ar32.2.1) (g := (mkF m 6 #[.val (.ref r0), .val (.int (0 : Int32)), .val (.int (4 : Int32))] [(.ref r0), (.int (4 : Int32))])) rfl rfl (hb hby d1_6) _ ?_
                  rw [len_of S32 Nn32]
                  show Steps p.tables e below (s₁.setTop (mkF m 7 #[.val (.ref r0), .val (.int (0 : Int32)), .val (.int (4 : Int32))] [(.int (4 : Int32)), (.int (4 : Int32))])) _
                  refine XS.icmpYes X0.here hx rfl (pc0 := 7) (pc' := 40) rfl (hb hby d1_7) rfl (flt (by decide)).2.1 (by decide) (by decide) ?_
                  show Steps p.tables e below (s₁.setTop (mkF m 40 #[.val (.ref r0), .val (.int (0 : Int32)), .val (.int (4 : Int32))] [])) _
                  refine XS.iloadN X0.here hx rfl (hb hby d1_40) rfl ?_
                  show Steps p.tables e below (s₁.setTop (mkF m 41 #[.val (.ref r0), .val (.int (0 : Int32)), .val (.int (4 : Int32))] [(.int (0 : Int32))])) _
                  exact retN X0 hx (t := .boolean) Bd.returns (by simp) (hb hby d1_41) hr
                · show Q1_4 x0 x1 x2 x3 h0 n0 _ s₁.heap _
                  rw [e0]
                  exact ⟨congrArg (fun z => some (Value.int z)) (by unfold spl4; rw [if_neg hc4, if_neg hc8, if_neg hc13, if_neg hc17, if_neg hc22, if_neg hc26, if_pos hc31]), N0, rfl⟩
              · obtain ⟨cl33, Ar33, -, S33, -, H33, -⟩ := id Va
                have hin33 : ¬ ((3 : Int32) < 0 ∨ cl33.slots.size ≤ ((3 : Int32)).toNatClampNeg) := inb_of S33 ⟨by decide, by decide⟩
                have hat33 : cl33.slots[((3 : Int32)).toNatClampNeg]? = some (.int x3) := Has.at H33 hin33 rfl
                have pre34 : ∀ t, Steps p.tables e below (s₁.setTop (mkF m 25 #[.val (.ref r0), .val (.int (1 : Int32)), .val (.int (3 : Int32))] [(.int (92 : Int32)), (.int x3)])) t → Steps p.tables e below (s₁.setTop (entryFrame m #[(.ref r0)] 3)) t := fun t kk => pre30 t (by
                  show Steps p.tables e below (s₁.setTop (mkF m 17 #[.val (.ref r0), .val (.int (1 : Int32)), .val (.int (3 : Int32))] [(.int x3)])) _
                  refine XS.ifNo X0.here hx rfl (hb hby d1_17) rfl ((if0 _ _).trans (flt hc31).1) ?_
                  show Steps p.tables e below (s₁.setTop (mkF m 20 #[.val (.ref r0), .val (.int (1 : Int32)), .val (.int (3 : Int32))] [])) _
                  refine XS.aloadN X0.here hx rfl (hb hby d1_20) rfl rfl ?_
                  show Steps p.tables e below (s₁.setTop (mkF m 21 #[.val (.ref r0), .val (.int (1 : Int32)), .val (.int (3 : Int32))] [(.ref r0)])) _
                  refine XS.iloadN X0.here hx rfl (hb hby d1_21) rfl ?_
                  show Steps p.tables e below (s₁.setTop (mkF m 22 #[.val (.ref r0), .val (.int (1 : Int32)), .val (.int (3 : Int32))] [(.int (3 : Int32)), (.ref r0)])) _
                  refine X0.baloadBytes hx (j := (3 : Int32)) (v := (.int x3)) (by rw [e0]; exact Ar33.1) (State.isArrayOf_alike hZ.alike Ar33.2.1) Ar33.2.2 hin33 hat33 (g := (mkF m 22 #[.val (.ref r0), .val (.int (1 : Int32)), .val (.int (3 : Int32))] [(.int (3 : Int32)), (.ref r0)])) rfl rfl (hb hby d1_22) _ ?_
                  show Steps p.tables e below (s₁.setTop (mkF m 23 #[.val (.ref r0), .val (.int (1 : Int32)), .val (.int (3 : Int32))] [(.int x3)])) _
                  refine XS.bipush X0.here hx rfl (hb hby d1_23) ?_
                  exact kk)
                by_cases hc35 : x3 = (92 : Int32)
                · obtain ⟨cl36, Ar36, -, S36, Nn36, -, -⟩ := id Va
                  obtain ⟨fs, hr, hrun, hended, hW, hsame⟩ := X0.leave (v := some (.int (0 : Int32))) (fun h => by rw [Bd.returns] at h; cases h)
                  refine ⟨_, _, pre34 _ ?_, hrun, hended, _, _, rfl, ?_, ⟨_, rfl⟩, hW, hsame.mono (by decide) (by decide)⟩
                  · show Steps p.tables e below (s₁.setTop (mkF m 25 #[.val (.ref r0), .val (.int (1 : Int32)), .val (.int (3 : Int32))] [(.int (92 : Int32)), (.int x3)])) _
                    refine XS.icmpYes X0.here hx rfl (pc0 := 25) (pc' := 32) rfl (hb hby d1_25) rfl (teq hc35).1 (by decide) (by decide) ?_
                    show Steps p.tables e below (s₁.setTop (mkF m 32 #[.val (.ref r0), .val (.int (1 : Int32)), .val (.int (3 : Int32))] [])) _
                    refine XS.iconst X0.here hx rfl (hb hby d1_32) ?_
                    show Steps p.tables e below (s₁.setTop (mkF m 33 #[.val (.ref r0), .val (.int (1 : Int32)), .val (.int (3 : Int32))] [(.int (0 : Int32))])) _
                    refine XS.istoreN X0.here hx rfl (hb hby d1_33) rfl (l' := #[.val (.ref r0), .val (.int (0 : Int32)), .val (.int (3 : Int32))]) rfl ?_
                    show Steps p.tables e below (s₁.setTop (mkF m 34 #[.val (.ref r0), .val (.int (0 : Int32)), .val (.int (3 : Int32))] [])) _
                    refine XS.iinc X0.here hx rfl (hb hby d1_34) rfl (l' := #[.val (.ref r0), .val (.int (0 : Int32)), .val (.int (4 : Int32))]) rfl ?_
                    show Steps p.tables e below (s₁.setTop (mkF m 37 #[.val (.ref r0), .val (.int (0 : Int32)), .val (.int (4 : Int32))] [])) _
                    refine XS.goto X0.here hx rfl (pc0 := 37) (pc' := 4) rfl (hb hby d1_37) (by decide) (by decide) ?_
                    show Steps p.tables e below (s₁.setTop (mkF m 4 #[.val (.ref r0), .val (.int (0 : Int32)), .val (.int (4 : Int32))] [])) _
                    refine XS.iloadN X0.here hx rfl (hb hby d1_4) rfl ?_
                    show Steps p.tables e below (s₁.setTop (mkF m 5 #[.val (.ref r0), .val (.int (0 : Int32)), .val (.int (4 : Int32))] [(.int (4 : Int32))])) _
                    refine XS.aloadN X0.here hx rfl (hb hby d1_5) rfl rfl ?_
                    show Steps p.tables e below (s₁.setTop (mkF m 6 #[.val (.ref r0), .val (.int (0 : Int32)), .val (.int (4 : Int32))] [(.ref r0), (.int (4 : Int32))])) _
                    refine X0.arraylength hx (by rw [e0]; exact Ar36.1) (State.isArrayOf_alike hZ.alike Ar36.2.1) (g := (mkF m 6 #[.val (.ref r0), .val (.int (0 : Int32)), .val (.int (4 : Int32))] [(.ref r0), (.int (4 : Int32))])) rfl rfl (hb hby d1_6) _ ?_
                    rw [len_of S36 Nn36]
                    show Steps p.tables e below (s₁.setTop (mkF m 7 #[.val (.ref r0), .val (.int (0 : Int32)), .val (.int (4 : Int32))] [(.int (4 : Int32)), (.int (4 : Int32))])) _
                    refine XS.icmpYes X0.here hx rfl (pc0 := 7) (pc' := 40) rfl (hb hby d1_7) rfl (flt (by decide)).2.1 (by decide) (by decide) ?_
                    show Steps p.tables e below (s₁.setTop (mkF m 40 #[.val (.ref r0), .val (.int (0 : Int32)), .val (.int (4 : Int32))] [])) _
                    refine XS.iloadN X0.here hx rfl (hb hby d1_40) rfl ?_
                    show Steps p.tables e below (s₁.setTop (mkF m 41 #[.val (.ref r0), .val (.int (0 : Int32)), .val (.int (4 : Int32))] [(.int (0 : Int32))])) _
                    exact retN X0 hx (t := .boolean) Bd.returns (by simp) (hb hby d1_41) hr
                  · show Q1_4 x0 x1 x2 x3 h0 n0 _ s₁.heap _
                    rw [e0]
                    exact ⟨congrArg (fun z => some (Value.int z)) (by unfold spl4; rw [if_neg hc4, if_neg hc8, if_neg hc13, if_neg hc17, if_neg hc22, if_neg hc26, if_neg hc31, if_pos hc35]), N0, rfl⟩
                · obtain ⟨cl37, Ar37, -, S37, Nn37, -, -⟩ := id Va
                  obtain ⟨fs, hr, hrun, hended, hW, hsame⟩ := X0.leave (v := some (.int (1 : Int32))) (fun h => by rw [Bd.returns] at h; cases h)
                  refine ⟨_, _, pre34 _ ?_, hrun, hended, _, _, rfl, ?_, ⟨_, rfl⟩, hW, hsame.mono (by decide) (by decide)⟩
                  · show Steps p.tables e below (s₁.setTop (mkF m 25 #[.val (.ref r0), .val (.int (1 : Int32)), .val (.int (3 : Int32))] [(.int (92 : Int32)), (.int x3)])) _
                    refine XS.icmpNo X0.here hx rfl (hb hby d1_25) rfl (feq hc35).1 ?_
                    show Steps p.tables e below (s₁.setTop (mkF m 28 #[.val (.ref r0), .val (.int (1 : Int32)), .val (.int (3 : Int32))] [])) _
                    refine XS.iconst X0.here hx rfl (hb hby d1_28) ?_
                    show Steps p.tables e below (s₁.setTop (mkF m 29 #[.val (.ref r0), .val (.int (1 : Int32)), .val (.int (3 : Int32))] [(.int (1 : Int32))])) _
                    refine XS.goto X0.here hx rfl (pc0 := 29) (pc' := 33) rfl (hb hby d1_29) (by decide) (by decide) ?_
                    show Steps p.tables e below (s₁.setTop (mkF m 33 #[.val (.ref r0), .val (.int (1 : Int32)), .val (.int (3 : Int32))] [(.int (1 : Int32))])) _
                    refine XS.istoreN X0.here hx rfl (hb hby d1_33) rfl (l' := #[.val (.ref r0), .val (.int (1 : Int32)), .val (.int (3 : Int32))]) rfl ?_
                    show Steps p.tables e below (s₁.setTop (mkF m 34 #[.val (.ref r0), .val (.int (1 : Int32)), .val (.int (3 : Int32))] [])) _
                    refine XS.iinc X0.here hx rfl (hb hby d1_34) rfl (l' := #[.val (.ref r0), .val (.int (1 : Int32)), .val (.int (4 : Int32))]) rfl ?_
                    show Steps p.tables e below (s₁.setTop (mkF m 37 #[.val (.ref r0), .val (.int (1 : Int32)), .val (.int (4 : Int32))] [])) _
                    refine XS.goto X0.here hx rfl (pc0 := 37) (pc' := 4) rfl (hb hby d1_37) (by decide) (by decide) ?_
                    show Steps p.tables e below (s₁.setTop (mkF m 4 #[.val (.ref r0), .val (.int (1 : Int32)), .val (.int (4 : Int32))] [])) _
                    refine XS.iloadN X0.here hx rfl (hb hby d1_4) rfl ?_
                    show Steps p.tables e below (s₁.setTop (mkF m 5 #[.val (.ref r0), .val (.int (1 : Int32)), .val (.int (4 : Int32))] [(.int (4 : Int32))])) _
                    refine XS.aloadN X0.here hx rfl (hb hby d1_5) rfl rfl ?_
                    show Steps p.tables e below (s₁.setTop (mkF m 6 #[.val (.ref r0), .val (.int (1 : Int32)), .val (.int (4 : Int32))] [(.ref r0), (.int (4 : Int32))])) _
                    refine X0.arraylength hx (by rw [e0]; exact Ar37.1) (State.isArrayOf_alike hZ.alike Ar37.2.1) (g := (mkF m 6 #[.val (.ref r0), .val (.int (1 : Int32)), .val (.int (4 : Int32))] [(.ref r0), (.int (4 : Int32))])) rfl rfl (hb hby d1_6) _ ?_
                    rw [len_of S37 Nn37]
                    show Steps p.tables e below (s₁.setTop (mkF m 7 #[.val (.ref r0), .val (.int (1 : Int32)), .val (.int (4 : Int32))] [(.int (4 : Int32)), (.int (4 : Int32))])) _
                    refine XS.icmpYes X0.here hx rfl (pc0 := 7) (pc' := 40) rfl (hb hby d1_7) rfl (flt (by decide)).2.1 (by decide) (by decide) ?_
                    show Steps p.tables e below (s₁.setTop (mkF m 40 #[.val (.ref r0), .val (.int (1 : Int32)), .val (.int (4 : Int32))] [])) _
                    refine XS.iloadN X0.here hx rfl (hb hby d1_40) rfl ?_
                    show Steps p.tables e below (s₁.setTop (mkF m 41 #[.val (.ref r0), .val (.int (1 : Int32)), .val (.int (4 : Int32))] [(.int (1 : Int32))])) _
                    exact retN X0 hx (t := .boolean) Bd.returns (by simp) (hb hby d1_41) hr
                  · show Q1_4 x0 x1 x2 x3 h0 n0 _ s₁.heap _
                    rw [e0]
                    exact ⟨congrArg (fun z => some (Value.int z)) (by unfold spl4; rw [if_neg hc4, if_neg hc8, if_neg hc13, if_neg hc17, if_neg hc22, if_neg hc26, if_neg hc31, if_neg hc35]), N0, rfl⟩
theorem own_five (x : Int32) : ((x &&& (2147483647 : Int32)) % (5 : Int32)) = (0 : Int32) ∨ ((x &&& (2147483647 : Int32)) % (5 : Int32)) = (1 : Int32) ∨ ((x &&& (2147483647 : Int32)) % (5 : Int32)) = (2 : Int32) ∨ ((x &&& (2147483647 : Int32)) % (5 : Int32)) = (3 : Int32) ∨ ((x &&& (2147483647 : Int32)) % (5 : Int32)) = (4 : Int32) := by
  have h1 := c_mask x 2147483647 31 (by decide) (by decide)
  have h2 := (c_irem (x &&& 2147483647) 5 5 (by decide)).1 (by rw [h1]; exact Int.emod_nonneg _ (by decide))
  have h6 := Int.emod_nonneg (x &&& 2147483647 : Int32).toInt (show (5 : Int) ≠ 0 by decide)
  have h7 := Int.emod_lt_of_pos (x &&& 2147483647 : Int32).toInt (show (0 : Int) < 5 by decide)
  rw [← h2] at h6 h7
  simp only [← Int32.toInt_inj]
  have e0 : (0 : Int32).toInt = 0 := by decide
  have e1 : (1 : Int32).toInt = 1 := by decide
  have e2 : (2 : Int32).toInt = 2 := by decide
  have e3 : (3 : Int32).toInt = 3 := by decide
  have e4 : (4 : Int32).toInt = 4 := by decide
  omega
theorem own_b (x : Int32) : (goodF (x &&& (255 : Int32)) = (0 : Int32) ∧ ((nar .byte ((x &&& (255 : Int32)).toInt8.toInt32)) < (0 : Int32) ∨ (nar .byte ((x &&& (255 : Int32)).toInt8.toInt32)) = (92 : Int32))) ∨ (¬ goodF (x &&& (255 : Int32)) = (0 : Int32) ∧ ¬ (nar .byte ((x &&& (255 : Int32)).toInt8.toInt32)) < (0 : Int32) ∧ ¬ (nar .byte ((x &&& (255 : Int32)).toInt8.toInt32)) = (92 : Int32)) := by
  have h1 := c_mask x 255 8 (by decide) (by decide)
  have h2 := c_i2b (x &&& 255)
  have h3 := c_i2b ((x &&& 255).toInt8.toInt32)
  have e : (nar .byte ((x &&& (255 : Int32)).toInt8.toInt32)) = ((x &&& (255 : Int32)).toInt8.toInt32).toInt8.toInt32 := rfl
  have e0 : (0 : Int32).toInt = 0 := by decide
  have e92 : (92 : Int32).toInt = 92 := by decide
  have e128 : (128 : Int32).toInt = 128 := by decide
  have l := Int.emod_nonneg x.toInt (show (256 : Int) ≠ 0 by decide)
  have r := Int.emod_lt_of_pos x.toInt (show (0 : Int) < 256 by decide)
  have h1' : (x &&& 255).toInt = x.toInt % 256 := h1
  rw [e]
  unfold goodF
  by_cases a : (x &&& (255 : Int32)) < (128 : Int32)
  · rw [if_pos a]
    by_cases b : (x &&& (255 : Int32)) = (92 : Int32)
    · rw [if_pos b]
      left
      refine ⟨rfl, Or.inr ?_⟩
      rw [b]; decide
    · rw [if_neg b]
      right
      simp only [Int32.lt_iff_toInt_lt, ← Int32.toInt_inj, e0, e92, e128] at *
      refine ⟨by decide, by omega, by omega⟩
  · rw [if_neg a]
    left
    simp only [Int32.lt_iff_toInt_lt, ← Int32.toInt_inj, e0, e92, e128] at *
    exact ⟨by first | rfl | trivial, Or.inl (by omega)⟩
theorem pd__28_5bB_29Z : parseMethodDescriptor "([B)Z" = some ⟨[(.array .byte)], some .boolean⟩ := by decide +kernel
theorem pd__28I_29Z : parseMethodDescriptor "(I)Z" = some ⟨[.int], some .boolean⟩ := by decide +kernel
def Q0 (h0 : Heap) (n0 : Nat) (v : Option Value) (h : Heap) (L : List Loc) : Prop := v = some (.int 1) ∧ Fr n0 L
theorem ef_0 (m : MethodId) (p0 : Int32) (p1 : Int32) (p2 : Int32) (p3 : Int32) (p4 : Int32) : entryFrame m #[(.int p0), (.int p1), (.int p2), (.int p3), (.int p4)] maxLocals = mkF m 0 #[.val (.int p0), .val (.int p1), .val (.int p2), .val (.int p3), .val (.int p4), .unset, .unset, .unset, .unset, .unset, .unset, .unset] [] := by first | (simp [entryFrame, mkF, argsToLocals, Value.category, maxLocals]; done) | rfl
set_option maxRecDepth 65536 in
set_option maxHeartbeats 40000000 in
theorem rm0 (l : Launch) (Z : State) (a0 : Array Value) (hw : ∀ d ∈ tables_1, d.before a0 Z = true) (ws : List Jvm.Cond) (p0 : Int32) (p1 : Int32) (p2 : Int32) (p3 : Int32) (p4 : Int32)  (h0 : Heap) (n0 : Nat) (Z0 : n0 ≤ h0.size)  :
    MetFree l x (head1 (Jvm.Cond.code x code maxLocals ret :: ws) room_1) (fun a U => a = #[(.int p0), (.int p1), (.int p2), (.int p3), (.int p4)] ∧ Z.Warmed39 U.vm ∧ U.heap = h0) (fun _ _ _ _ _ => True) (fun _ U o U' => ∃ v L, o = .returned v ∧ Q0 h0 n0 v U'.heap L ∧ FrameEnd U o U' L room_1.cells room_1.slots) := by
  refine MetFree.of_bodySF (plainFor_of_name pn_com_example_onesnap_onesnap_node_SqlLexerSplitsAlikeUnderAnySettingsPinLaw) hisR ?_
  intro p e s m args below meth c s₁ Bd hml0 hP hK
  obtain ⟨rfl, hZ, hh⟩ := hP
  have hx := Bd.exec
  have hby := Bd.bytes
  have hml : c.maxLocals = 12 := hml0
  have hown : s.vm.findClass "com/example/onesnap/onesnap/node/SqlLexerSplitsAlikeUnderAnySettingsPinLaw" = some m.cls := findClass_of_methodNamed Bd.named
  have hnm := (name_of_methodNamed Bd.named Bd.method).1
  have X0 : Stand p l e room_1 s m #[(.int p0), (.int p1), (.int p2), (.int p3), (.int p4)] below meth c s₁ [] 0 0 := Stand.of_body Bd
  have e0 : s₁.heap = h0 := by rw [← hh, Bd.state]; rfl
  have N0 := Fr.nil n0
  have pre0 : ∀ t, Steps p.tables e below (s₁.setTop (mkF m 0 #[.val (.int p0), .val (.int p1), .val (.int p2), .val (.int p3), .val (.int p4), .unset, .unset, .unset, .unset, .unset, .unset, .unset] [])) t → Steps p.tables e below (s₁.setTop (entryFrame m #[(.int p0), (.int p1), (.int p2), (.int p3), (.int p4)] maxLocals)) t := fun t k => castTop (ef_0 m p0 p1 p2 p3 p4) k
  have pre1 : ∀ t, Steps p.tables e below (s₁.setTop (mkF m 6 #[.val (.int p0), .val (.int p1), .val (.int p2), .val (.int p3), .val (.int p4), .unset, .unset, .unset, .unset, .unset, .unset, .unset] [(.int ((p0 &&& (2147483647 : Int32)) % (5 : Int32)))])) t → Steps p.tables e below (s₁.setTop (entryFrame m #[(.int p0), (.int p1), (.int p2), (.int p3), (.int p4)] maxLocals)) t := fun t kk => pre0 t (by
    show Steps p.tables e below (s₁.setTop (mkF m 0 #[.val (.int p0), .val (.int p1), .val (.int p2), .val (.int p3), .val (.int p4), .unset, .unset, .unset, .unset, .unset, .unset, .unset] [])) _
    refine XS.iloadN X0.here hx rfl (hb hby at_0) rfl ?_
    show Steps p.tables e below (s₁.setTop (mkF m 1 #[.val (.int p0), .val (.int p1), .val (.int p2), .val (.int p3), .val (.int p4), .unset, .unset, .unset, .unset, .unset, .unset, .unset] [(.int p0)])) _
    refine X0.ldcInt hx hown (mvT hZ (hw _ (List.mem_of_getElem? (i := 0) rfl))) (g := (mkF m 1 #[.val (.int p0), .val (.int p1), .val (.int p2), .val (.int p3), .val (.int p4), .unset, .unset, .unset, .unset, .unset, .unset, .unset] [(.int p0)])) rfl (hb hby at_1) _ ?_
    show Steps p.tables e below (s₁.setTop (mkF m 3 #[.val (.int p0), .val (.int p1), .val (.int p2), .val (.int p3), .val (.int p4), .unset, .unset, .unset, .unset, .unset, .unset, .unset] [(.int (2147483647 : Int32)), (.int p0)])) _
    refine XS.iand X0.here hx rfl (hb hby at_3) rfl ?_
    show Steps p.tables e below (s₁.setTop (mkF m 4 #[.val (.int p0), .val (.int p1), .val (.int p2), .val (.int p3), .val (.int p4), .unset, .unset, .unset, .unset, .unset, .unset, .unset] [(.int (p0 &&& (2147483647 : Int32)))])) _
    refine XS.iconst X0.here hx rfl (hb hby at_4) ?_
    show Steps p.tables e below (s₁.setTop (mkF m 5 #[.val (.int p0), .val (.int p1), .val (.int p2), .val (.int p3), .val (.int p4), .unset, .unset, .unset, .unset, .unset, .unset, .unset] [(.int (5 : Int32)), (.int (p0 &&& (2147483647 : Int32)))])) _
    refine iremM (g := (mkF m 5 #[.val (.int p0), .val (.int p1), .val (.int p2), .val (.int p3), .val (.int p4), .unset, .unset, .unset, .unset, .unset, .unset, .unset] [(.int (5 : Int32)), (.int (p0 &&& (2147483647 : Int32)))])) X0 hx rfl (hb hby at_5) rfl (by decide) ?_
    exact kk)
  rcases own_five p0 with h5 | h5 | h5 | h5 | h5
  · skip
    obtain ⟨v2, ev2⟩ : ∃ z : Int32, z = (p1 &&& (255 : Int32)) := ⟨_, rfl⟩
    obtain ⟨v3, ev3⟩ : ∃ z : Int32, z = (p2 &&& (255 : Int32)) := ⟨_, rfl⟩
    obtain ⟨v4, ev4⟩ : ∃ z : Int32, z = (p3 &&& (255 : Int32)) := ⟨_, rfl⟩
    obtain ⟨v5, ev5⟩ : ∃ z : Int32, z = (p4 &&& (255 : Int32)) := ⟨_, rfl⟩
    obtain ⟨T6, h6, k6, X6, e6, E6, A6, st6⟩ := newP X0 hx hZ (hw _ (List.mem_of_getElem? (i := 1) rfl)) e0 (g := (mkF m 39 #[.val (.int p0), .val (.int p1), .val (.int p2), .val (.int p3), .val (.int p4), .val (.int (0 : Int32)), .val (.int v2), .val (.int v3), .val (.int v4), .val (.int v5), .unset, .unset] [(.int (0 : Int32))])) rfl (hb hby at_39) rfl (by decide) (cap := 0) (by decide) (by decide) (by decide) (by decide)
    obtain ⟨b6, g6⟩ : ∃ z, z = h0.size := ⟨_, rfl⟩
    rw [← g6] at A6 st6
    have g_b6 : n0 ≤ b6 := Nat.le_trans Z0 (Nat.le_of_eq g6.symm)
    have V_b6 : Arv Z h6 b6 k6 .byte (0 : Int32) [] (.int (0 : Int32)) := Arv.new A6 (by decide)
    have pre7 : ∀ t, Steps p.tables e below (T6.setTop (mkF m 159 #[.val (.int p0), .val (.int p1), .val (.int p2), .val (.int p3), .val (.int p4), .val (.int (0 : Int32)), .val (.int v2), .val (.int v3), .val (.int v4), .val (.int v5), .val (.ref b6), .val (.int (1 : Int32))] [(.ref b6)])) t → Steps p.tables e below (s₁.setTop (entryFrame m #[(.int p0), (.int p1), (.int p2), (.int p3), (.int p4)] maxLocals)) t := fun t kk => pre1 t (by
      show Steps p.tables e below (s₁.setTop (mkF m 6 #[.val (.int p0), .val (.int p1), .val (.int p2), .val (.int p3), .val (.int p4), .unset, .unset, .unset, .unset, .unset, .unset, .unset] [(.int ((p0 &&& (2147483647 : Int32)) % (5 : Int32)))])) _
      rw [h5]
      show Steps p.tables e below (s₁.setTop (mkF m 6 #[.val (.int p0), .val (.int p1), .val (.int p2), .val (.int p3), .val (.int p4), .unset, .unset, .unset, .unset, .unset, .unset, .unset] [(.int (0 : Int32))])) _
      refine XS.istore X0.here hx rfl (hb hby at_6) rfl (l' := #[.val (.int p0), .val (.int p1), .val (.int p2), .val (.int p3), .val (.int p4), .val (.int (0 : Int32)), .unset, .unset, .unset, .unset, .unset, .unset]) rfl ?_
      show Steps p.tables e below (s₁.setTop (mkF m 8 #[.val (.int p0), .val (.int p1), .val (.int p2), .val (.int p3), .val (.int p4), .val (.int (0 : Int32)), .unset, .unset, .unset, .unset, .unset, .unset] [])) _
      refine XS.iloadN X0.here hx rfl (hb hby at_8) rfl ?_
      show Steps p.tables e below (s₁.setTop (mkF m 9 #[.val (.int p0), .val (.int p1), .val (.int p2), .val (.int p3), .val (.int p4), .val (.int (0 : Int32)), .unset, .unset, .unset, .unset, .unset, .unset] [(.int p1)])) _
      refine XS.sipush X0.here hx rfl (hb hby at_9) ?_
      show Steps p.tables e below (s₁.setTop (mkF m 12 #[.val (.int p0), .val (.int p1), .val (.int p2), .val (.int p3), .val (.int p4), .val (.int (0 : Int32)), .unset, .unset, .unset, .unset, .unset, .unset] [(.int (255 : Int32)), (.int p1)])) _
      refine XS.iand X0.here hx rfl (hb hby at_12) rfl ?_
      show Steps p.tables e below (s₁.setTop (mkF m 13 #[.val (.int p0), .val (.int p1), .val (.int p2), .val (.int p3), .val (.int p4), .val (.int (0 : Int32)), .unset, .unset, .unset, .unset, .unset, .unset] [(.int (p1 &&& (255 : Int32)))])) _
      rw [← ev2]
      show Steps p.tables e below (s₁.setTop (mkF m 13 #[.val (.int p0), .val (.int p1), .val (.int p2), .val (.int p3), .val (.int p4), .val (.int (0 : Int32)), .unset, .unset, .unset, .unset, .unset, .unset] [(.int v2)])) _
      refine XS.istore X0.here hx rfl (hb hby at_13) rfl (l' := #[.val (.int p0), .val (.int p1), .val (.int p2), .val (.int p3), .val (.int p4), .val (.int (0 : Int32)), .val (.int v2), .unset, .unset, .unset, .unset, .unset]) rfl ?_
      show Steps p.tables e below (s₁.setTop (mkF m 15 #[.val (.int p0), .val (.int p1), .val (.int p2), .val (.int p3), .val (.int p4), .val (.int (0 : Int32)), .val (.int v2), .unset, .unset, .unset, .unset, .unset] [])) _
      refine XS.iloadN X0.here hx rfl (hb hby at_15) rfl ?_
      show Steps p.tables e below (s₁.setTop (mkF m 16 #[.val (.int p0), .val (.int p1), .val (.int p2), .val (.int p3), .val (.int p4), .val (.int (0 : Int32)), .val (.int v2), .unset, .unset, .unset, .unset, .unset] [(.int p2)])) _
      refine XS.sipush X0.here hx rfl (hb hby at_16) ?_
      show Steps p.tables e below (s₁.setTop (mkF m 19 #[.val (.int p0), .val (.int p1), .val (.int p2), .val (.int p3), .val (.int p4), .val (.int (0 : Int32)), .val (.int v2), .unset, .unset, .unset, .unset, .unset] [(.int (255 : Int32)), (.int p2)])) _
      refine XS.iand X0.here hx rfl (hb hby at_19) rfl ?_
      show Steps p.tables e below (s₁.setTop (mkF m 20 #[.val (.int p0), .val (.int p1), .val (.int p2), .val (.int p3), .val (.int p4), .val (.int (0 : Int32)), .val (.int v2), .unset, .unset, .unset, .unset, .unset] [(.int (p2 &&& (255 : Int32)))])) _
      rw [← ev3]
      show Steps p.tables e below (s₁.setTop (mkF m 20 #[.val (.int p0), .val (.int p1), .val (.int p2), .val (.int p3), .val (.int p4), .val (.int (0 : Int32)), .val (.int v2), .unset, .unset, .unset, .unset, .unset] [(.int v3)])) _
      refine XS.istore X0.here hx rfl (hb hby at_20) rfl (l' := #[.val (.int p0), .val (.int p1), .val (.int p2), .val (.int p3), .val (.int p4), .val (.int (0 : Int32)), .val (.int v2), .val (.int v3), .unset, .unset, .unset, .unset]) rfl ?_
      show Steps p.tables e below (s₁.setTop (mkF m 22 #[.val (.int p0), .val (.int p1), .val (.int p2), .val (.int p3), .val (.int p4), .val (.int (0 : Int32)), .val (.int v2), .val (.int v3), .unset, .unset, .unset, .unset] [])) _
      refine XS.iloadN X0.here hx rfl (hb hby at_22) rfl ?_
      show Steps p.tables e below (s₁.setTop (mkF m 23 #[.val (.int p0), .val (.int p1), .val (.int p2), .val (.int p3), .val (.int p4), .val (.int (0 : Int32)), .val (.int v2), .val (.int v3), .unset, .unset, .unset, .unset] [(.int p3)])) _
      refine XS.sipush X0.here hx rfl (hb hby at_23) ?_
      show Steps p.tables e below (s₁.setTop (mkF m 26 #[.val (.int p0), .val (.int p1), .val (.int p2), .val (.int p3), .val (.int p4), .val (.int (0 : Int32)), .val (.int v2), .val (.int v3), .unset, .unset, .unset, .unset] [(.int (255 : Int32)), (.int p3)])) _
      refine XS.iand X0.here hx rfl (hb hby at_26) rfl ?_
      show Steps p.tables e below (s₁.setTop (mkF m 27 #[.val (.int p0), .val (.int p1), .val (.int p2), .val (.int p3), .val (.int p4), .val (.int (0 : Int32)), .val (.int v2), .val (.int v3), .unset, .unset, .unset, .unset] [(.int (p3 &&& (255 : Int32)))])) _
      rw [← ev4]
      show Steps p.tables e below (s₁.setTop (mkF m 27 #[.val (.int p0), .val (.int p1), .val (.int p2), .val (.int p3), .val (.int p4), .val (.int (0 : Int32)), .val (.int v2), .val (.int v3), .unset, .unset, .unset, .unset] [(.int v4)])) _
      refine XS.istore X0.here hx rfl (hb hby at_27) rfl (l' := #[.val (.int p0), .val (.int p1), .val (.int p2), .val (.int p3), .val (.int p4), .val (.int (0 : Int32)), .val (.int v2), .val (.int v3), .val (.int v4), .unset, .unset, .unset]) rfl ?_
      show Steps p.tables e below (s₁.setTop (mkF m 29 #[.val (.int p0), .val (.int p1), .val (.int p2), .val (.int p3), .val (.int p4), .val (.int (0 : Int32)), .val (.int v2), .val (.int v3), .val (.int v4), .unset, .unset, .unset] [])) _
      refine XS.iload X0.here hx rfl (hb hby at_29) rfl ?_
      show Steps p.tables e below (s₁.setTop (mkF m 31 #[.val (.int p0), .val (.int p1), .val (.int p2), .val (.int p3), .val (.int p4), .val (.int (0 : Int32)), .val (.int v2), .val (.int v3), .val (.int v4), .unset, .unset, .unset] [(.int p4)])) _
      refine XS.sipush X0.here hx rfl (hb hby at_31) ?_
      show Steps p.tables e below (s₁.setTop (mkF m 34 #[.val (.int p0), .val (.int p1), .val (.int p2), .val (.int p3), .val (.int p4), .val (.int (0 : Int32)), .val (.int v2), .val (.int v3), .val (.int v4), .unset, .unset, .unset] [(.int (255 : Int32)), (.int p4)])) _
      refine XS.iand X0.here hx rfl (hb hby at_34) rfl ?_
      show Steps p.tables e below (s₁.setTop (mkF m 35 #[.val (.int p0), .val (.int p1), .val (.int p2), .val (.int p3), .val (.int p4), .val (.int (0 : Int32)), .val (.int v2), .val (.int v3), .val (.int v4), .unset, .unset, .unset] [(.int (p4 &&& (255 : Int32)))])) _
      rw [← ev5]
      show Steps p.tables e below (s₁.setTop (mkF m 35 #[.val (.int p0), .val (.int p1), .val (.int p2), .val (.int p3), .val (.int p4), .val (.int (0 : Int32)), .val (.int v2), .val (.int v3), .val (.int v4), .unset, .unset, .unset] [(.int v5)])) _
      refine XS.istore X0.here hx rfl (hb hby at_35) rfl (l' := #[.val (.int p0), .val (.int p1), .val (.int p2), .val (.int p3), .val (.int p4), .val (.int (0 : Int32)), .val (.int v2), .val (.int v3), .val (.int v4), .val (.int v5), .unset, .unset]) rfl ?_
      show Steps p.tables e below (s₁.setTop (mkF m 37 #[.val (.int p0), .val (.int p1), .val (.int p2), .val (.int p3), .val (.int p4), .val (.int (0 : Int32)), .val (.int v2), .val (.int v3), .val (.int v4), .val (.int v5), .unset, .unset] [])) _
      refine XS.iload X0.here hx rfl (hb hby at_37) rfl ?_
      show Steps p.tables e below (s₁.setTop (mkF m 39 #[.val (.int p0), .val (.int p1), .val (.int p2), .val (.int p3), .val (.int p4), .val (.int (0 : Int32)), .val (.int v2), .val (.int v3), .val (.int v4), .val (.int v5), .unset, .unset] [(.int (0 : Int32))])) _
      refine st6 _ ?_
      show Steps p.tables e below (T6.setTop (mkF m 41 #[.val (.int p0), .val (.int p1), .val (.int p2), .val (.int p3), .val (.int p4), .val (.int (0 : Int32)), .val (.int v2), .val (.int v3), .val (.int v4), .val (.int v5), .unset, .unset] [(.ref b6)])) _
      refine XS.astore X6.here hx rfl (hb hby at_41) rfl rfl (l' := #[.val (.int p0), .val (.int p1), .val (.int p2), .val (.int p3), .val (.int p4), .val (.int (0 : Int32)), .val (.int v2), .val (.int v3), .val (.int v4), .val (.int v5), .val (.ref b6), .unset]) rfl ?_
      show Steps p.tables e below (T6.setTop (mkF m 43 #[.val (.int p0), .val (.int p1), .val (.int p2), .val (.int p3), .val (.int p4), .val (.int (0 : Int32)), .val (.int v2), .val (.int v3), .val (.int v4), .val (.int v5), .val (.ref b6), .unset] [])) _
      refine XS.iload X6.here hx rfl (hb hby at_43) rfl ?_
      show Steps p.tables e below (T6.setTop (mkF m 45 #[.val (.int p0), .val (.int p1), .val (.int p2), .val (.int p3), .val (.int p4), .val (.int (0 : Int32)), .val (.int v2), .val (.int v3), .val (.int v4), .val (.int v5), .val (.ref b6), .unset] [(.int (0 : Int32))])) _
      refine XS.ifYes X6.here hx rfl (pc0 := 45) (pc' := 55) rfl (hb hby at_45) rfl ((if0 _ _).trans (flt (by decide)).2.2.2) (by decide) (by decide) ?_
      show Steps p.tables e below (T6.setTop (mkF m 55 #[.val (.int p0), .val (.int p1), .val (.int p2), .val (.int p3), .val (.int p4), .val (.int (0 : Int32)), .val (.int v2), .val (.int v3), .val (.int v4), .val (.int v5), .val (.ref b6), .unset] [])) _
      refine XS.iload X6.here hx rfl (hb hby at_55) rfl ?_
      show Steps p.tables e below (T6.setTop (mkF m 57 #[.val (.int p0), .val (.int p1), .val (.int p2), .val (.int p3), .val (.int p4), .val (.int (0 : Int32)), .val (.int v2), .val (.int v3), .val (.int v4), .val (.int v5), .val (.ref b6), .unset] [(.int (0 : Int32))])) _
      refine XS.iconst X6.here hx rfl (hb hby at_57) ?_
      show Steps p.tables e below (T6.setTop (mkF m 58 #[.val (.int p0), .val (.int p1), .val (.int p2), .val (.int p3), .val (.int p4), .val (.int (0 : Int32)), .val (.int v2), .val (.int v3), .val (.int v4), .val (.int v5), .val (.ref b6), .unset] [(.int (1 : Int32)), (.int (0 : Int32))])) _
      refine XS.icmpYes X6.here hx rfl (pc0 := 58) (pc' := 68) rfl (hb hby at_58) rfl (flt (by decide)).2.2.2 (by decide) (by decide) ?_
      show Steps p.tables e below (T6.setTop (mkF m 68 #[.val (.int p0), .val (.int p1), .val (.int p2), .val (.int p3), .val (.int p4), .val (.int (0 : Int32)), .val (.int v2), .val (.int v3), .val (.int v4), .val (.int v5), .val (.ref b6), .unset] [])) _
      refine XS.iload X6.here hx rfl (hb hby at_68) rfl ?_
      show Steps p.tables e below (T6.setTop (mkF m 70 #[.val (.int p0), .val (.int p1), .val (.int p2), .val (.int p3), .val (.int p4), .val (.int (0 : Int32)), .val (.int v2), .val (.int v3), .val (.int v4), .val (.int v5), .val (.ref b6), .unset] [(.int (0 : Int32))])) _
      refine XS.iconst X6.here hx rfl (hb hby at_70) ?_
      show Steps p.tables e below (T6.setTop (mkF m 71 #[.val (.int p0), .val (.int p1), .val (.int p2), .val (.int p3), .val (.int p4), .val (.int (0 : Int32)), .val (.int v2), .val (.int v3), .val (.int v4), .val (.int v5), .val (.ref b6), .unset] [(.int (2 : Int32)), (.int (0 : Int32))])) _
      refine XS.icmpYes X6.here hx rfl (pc0 := 71) (pc' := 81) rfl (hb hby at_71) rfl (flt (by decide)).2.2.2 (by decide) (by decide) ?_
      show Steps p.tables e below (T6.setTop (mkF m 81 #[.val (.int p0), .val (.int p1), .val (.int p2), .val (.int p3), .val (.int p4), .val (.int (0 : Int32)), .val (.int v2), .val (.int v3), .val (.int v4), .val (.int v5), .val (.ref b6), .unset] [])) _
      refine XS.iload X6.here hx rfl (hb hby at_81) rfl ?_
      show Steps p.tables e below (T6.setTop (mkF m 83 #[.val (.int p0), .val (.int p1), .val (.int p2), .val (.int p3), .val (.int p4), .val (.int (0 : Int32)), .val (.int v2), .val (.int v3), .val (.int v4), .val (.int v5), .val (.ref b6), .unset] [(.int (0 : Int32))])) _
      refine XS.iconst X6.here hx rfl (hb hby at_83) ?_
      show Steps p.tables e below (T6.setTop (mkF m 84 #[.val (.int p0), .val (.int p1), .val (.int p2), .val (.int p3), .val (.int p4), .val (.int (0 : Int32)), .val (.int v2), .val (.int v3), .val (.int v4), .val (.int v5), .val (.ref b6), .unset] [(.int (3 : Int32)), (.int (0 : Int32))])) _
      refine XS.icmpYes X6.here hx rfl (pc0 := 84) (pc' := 94) rfl (hb hby at_84) rfl (flt (by decide)).2.2.2 (by decide) (by decide) ?_
      show Steps p.tables e below (T6.setTop (mkF m 94 #[.val (.int p0), .val (.int p1), .val (.int p2), .val (.int p3), .val (.int p4), .val (.int (0 : Int32)), .val (.int v2), .val (.int v3), .val (.int v4), .val (.int v5), .val (.ref b6), .unset] [])) _
      refine XS.iload X6.here hx rfl (hb hby at_94) rfl ?_
      show Steps p.tables e below (T6.setTop (mkF m 96 #[.val (.int p0), .val (.int p1), .val (.int p2), .val (.int p3), .val (.int p4), .val (.int (0 : Int32)), .val (.int v2), .val (.int v3), .val (.int v4), .val (.int v5), .val (.ref b6), .unset] [(.int (0 : Int32))])) _
      refine XS.iconst X6.here hx rfl (hb hby at_96) ?_
      show Steps p.tables e below (T6.setTop (mkF m 97 #[.val (.int p0), .val (.int p1), .val (.int p2), .val (.int p3), .val (.int p4), .val (.int (0 : Int32)), .val (.int v2), .val (.int v3), .val (.int v4), .val (.int v5), .val (.ref b6), .unset] [(.int (1 : Int32)), (.int (0 : Int32))])) _
      refine XS.icmpYes X6.here hx rfl (pc0 := 97) (pc' := 108) rfl (hb hby at_97) rfl (tlt (by decide)).1 (by decide) (by decide) ?_
      show Steps p.tables e below (T6.setTop (mkF m 108 #[.val (.int p0), .val (.int p1), .val (.int p2), .val (.int p3), .val (.int p4), .val (.int (0 : Int32)), .val (.int v2), .val (.int v3), .val (.int v4), .val (.int v5), .val (.ref b6), .unset] [])) _
      refine XS.iload X6.here hx rfl (hb hby at_108) rfl ?_
      show Steps p.tables e below (T6.setTop (mkF m 110 #[.val (.int p0), .val (.int p1), .val (.int p2), .val (.int p3), .val (.int p4), .val (.int (0 : Int32)), .val (.int v2), .val (.int v3), .val (.int v4), .val (.int v5), .val (.ref b6), .unset] [(.int (0 : Int32))])) _
      refine XS.iconst X6.here hx rfl (hb hby at_110) ?_
      show Steps p.tables e below (T6.setTop (mkF m 111 #[.val (.int p0), .val (.int p1), .val (.int p2), .val (.int p3), .val (.int p4), .val (.int (0 : Int32)), .val (.int v2), .val (.int v3), .val (.int v4), .val (.int v5), .val (.ref b6), .unset] [(.int (2 : Int32)), (.int (0 : Int32))])) _
      refine XS.icmpYes X6.here hx rfl (pc0 := 111) (pc' := 122) rfl (hb hby at_111) rfl (tlt (by decide)).1 (by decide) (by decide) ?_
      show Steps p.tables e below (T6.setTop (mkF m 122 #[.val (.int p0), .val (.int p1), .val (.int p2), .val (.int p3), .val (.int p4), .val (.int (0 : Int32)), .val (.int v2), .val (.int v3), .val (.int v4), .val (.int v5), .val (.ref b6), .unset] [])) _
      refine XS.iload X6.here hx rfl (hb hby at_122) rfl ?_
      show Steps p.tables e below (T6.setTop (mkF m 124 #[.val (.int p0), .val (.int p1), .val (.int p2), .val (.int p3), .val (.int p4), .val (.int (0 : Int32)), .val (.int v2), .val (.int v3), .val (.int v4), .val (.int v5), .val (.ref b6), .unset] [(.int (0 : Int32))])) _
      refine XS.iconst X6.here hx rfl (hb hby at_124) ?_
      show Steps p.tables e below (T6.setTop (mkF m 125 #[.val (.int p0), .val (.int p1), .val (.int p2), .val (.int p3), .val (.int p4), .val (.int (0 : Int32)), .val (.int v2), .val (.int v3), .val (.int v4), .val (.int v5), .val (.ref b6), .unset] [(.int (3 : Int32)), (.int (0 : Int32))])) _
      refine XS.icmpYes X6.here hx rfl (pc0 := 125) (pc' := 136) rfl (hb hby at_125) rfl (tlt (by decide)).1 (by decide) (by decide) ?_
      show Steps p.tables e below (T6.setTop (mkF m 136 #[.val (.int p0), .val (.int p1), .val (.int p2), .val (.int p3), .val (.int p4), .val (.int (0 : Int32)), .val (.int v2), .val (.int v3), .val (.int v4), .val (.int v5), .val (.ref b6), .unset] [])) _
      refine XS.iload X6.here hx rfl (hb hby at_136) rfl ?_
      show Steps p.tables e below (T6.setTop (mkF m 138 #[.val (.int p0), .val (.int p1), .val (.int p2), .val (.int p3), .val (.int p4), .val (.int (0 : Int32)), .val (.int v2), .val (.int v3), .val (.int v4), .val (.int v5), .val (.ref b6), .unset] [(.int (0 : Int32))])) _
      refine XS.iconst X6.here hx rfl (hb hby at_138) ?_
      show Steps p.tables e below (T6.setTop (mkF m 139 #[.val (.int p0), .val (.int p1), .val (.int p2), .val (.int p3), .val (.int p4), .val (.int (0 : Int32)), .val (.int v2), .val (.int v3), .val (.int v4), .val (.int v5), .val (.ref b6), .unset] [(.int (4 : Int32)), (.int (0 : Int32))])) _
      refine XS.icmpYes X6.here hx rfl (pc0 := 139) (pc' := 150) rfl (hb hby at_139) rfl (tlt (by decide)).1 (by decide) (by decide) ?_
      show Steps p.tables e below (T6.setTop (mkF m 150 #[.val (.int p0), .val (.int p1), .val (.int p2), .val (.int p3), .val (.int p4), .val (.int (0 : Int32)), .val (.int v2), .val (.int v3), .val (.int v4), .val (.int v5), .val (.ref b6), .unset] [])) _
      refine XS.iconst X6.here hx rfl (hb hby at_150) ?_
      show Steps p.tables e below (T6.setTop (mkF m 151 #[.val (.int p0), .val (.int p1), .val (.int p2), .val (.int p3), .val (.int p4), .val (.int (0 : Int32)), .val (.int v2), .val (.int v3), .val (.int v4), .val (.int v5), .val (.ref b6), .unset] [(.int (1 : Int32))])) _
      refine XS.goto X6.here hx rfl (pc0 := 151) (pc' := 155) rfl (hb hby at_151) (by decide) (by decide) ?_
      show Steps p.tables e below (T6.setTop (mkF m 155 #[.val (.int p0), .val (.int p1), .val (.int p2), .val (.int p3), .val (.int p4), .val (.int (0 : Int32)), .val (.int v2), .val (.int v3), .val (.int v4), .val (.int v5), .val (.ref b6), .unset] [(.int (1 : Int32))])) _
      refine XS.istore X6.here hx rfl (hb hby at_155) rfl (l' := #[.val (.int p0), .val (.int p1), .val (.int p2), .val (.int p3), .val (.int p4), .val (.int (0 : Int32)), .val (.int v2), .val (.int v3), .val (.int v4), .val (.int v5), .val (.ref b6), .val (.int (1 : Int32))]) rfl ?_
      show Steps p.tables e below (T6.setTop (mkF m 157 #[.val (.int p0), .val (.int p1), .val (.int p2), .val (.int p3), .val (.int p4), .val (.int (0 : Int32)), .val (.int v2), .val (.int v3), .val (.int v4), .val (.int v5), .val (.ref b6), .val (.int (1 : Int32))] [])) _
      refine XS.aload X6.here hx rfl (hb hby at_157) rfl rfl ?_
      exact kk)
    have Zz9 := (Nat.le_trans Z0 E6.1)
    obtain ⟨_, _, ⟨T8, L8, k8, n8⟩, -, X8, ⟨Lc8, hQ8, l8, y8, z8⟩, st8⟩ := Jvm.LawKit.callS X6 hx (y := (⟨"com/example/onesnap/onesnap/node/SqlLexer", "splitsAlikeUnderAnySettings", "([B)Z"⟩ : MethodName)) hown (mvT hZ (hw _ (List.mem_of_getElem? (i := 2) rfl))) (mvT hZ (hw _ (List.mem_of_getElem? (i := 3) rfl))) (mvT hZ (hw _ (List.mem_of_getElem? (i := 4) rfl))) (mvT hZ (hw _ (List.mem_of_getElem? (i := 5) rfl))) (by decide) (backOf (W := 0) (rm1_0 l Z a0 hw [] b6 k6  h6 n0 Zz9 V_b6) hZ (hw _ (List.mem_of_getElem? (i := 5) rfl)) (hw _ (List.mem_of_getElem? (i := 4) rfl)) (by decide) (by decide)) (g := (mkF m 159 #[.val (.int p0), .val (.int p1), .val (.int p2), .val (.int p3), .val (.int p4), .val (.int (0 : Int32)), .val (.int v2), .val (.int v3), .val (.int v4), .val (.int v5), .val (.ref b6), .val (.int (1 : Int32))] [(.ref b6)])) rfl (by rw [hml]; rfl) (argsL := [(.ref b6)]) (rest := []) (lenOf pd__28_5bB_29Z rfl) rfl (by show 2 * 0 + _ ≤ _; exact Nat.le_of_eq rfl) (hb hby at_159) (fun _ _ => ⟨rfl, e6, (by decide : 1 + 0 ≤ _), (by decide : 0 + 0 ≤ _)⟩)
    dsimp only [Pt.U, Pt.locs, Pt.cells, Pt.slots] at X8 l8 y8 z8 st8 hQ8
    subst l8 y8 z8
    obtain ⟨rfl, N8q, e8⟩ := hQ8
    have N8 := Fr.app N0 N8q
    have pre10 : ∀ t, Steps p.tables e below (T8.setTop (mkF m 164 #[.val (.int p0), .val (.int p1), .val (.int p2), .val (.int p3), .val (.int p4), .val (.int (0 : Int32)), .val (.int v2), .val (.int v3), .val (.int v4), .val (.int v5), .val (.ref b6), .val (.int (1 : Int32))] [(.int (1 : Int32)), (.int (spl0 ))])) t → Steps p.tables e below (s₁.setTop (entryFrame m #[(.int p0), (.int p1), (.int p2), (.int p3), (.int p4)] maxLocals)) t := fun t kk => pre7 t (by
      show Steps p.tables e below (T6.setTop (mkF m 159 #[.val (.int p0), .val (.int p1), .val (.int p2), .val (.int p3), .val (.int p4), .val (.int (0 : Int32)), .val (.int v2), .val (.int v3), .val (.int v4), .val (.int v5), .val (.ref b6), .val (.int (1 : Int32))] [(.ref b6)])) _
      refine st8 _ ?_
      show Steps p.tables e below (T8.setTop (mkF m 162 #[.val (.int p0), .val (.int p1), .val (.int p2), .val (.int p3), .val (.int p4), .val (.int (0 : Int32)), .val (.int v2), .val (.int v3), .val (.int v4), .val (.int v5), .val (.ref b6), .val (.int (1 : Int32))] [(.int (spl0 ))])) _
      refine XS.iload X8.here hx rfl (hb hby at_162) rfl ?_
      exact kk)
    by_cases hc11 : (spl0 ) = (1 : Int32)
    · obtain ⟨fs, hr, hrun, hended, hW, hsame⟩ := X8.leave (v := some (.int (1 : Int32))) (fun h => by rw [Bd.returns] at h; cases h)
      refine ⟨_, _, pre10 _ ?_, hrun, hended, _, _, rfl, ?_, ⟨_, rfl⟩, hW, hsame.mono (by decide) (by decide)⟩
      · show Steps p.tables e below (T8.setTop (mkF m 164 #[.val (.int p0), .val (.int p1), .val (.int p2), .val (.int p3), .val (.int p4), .val (.int (0 : Int32)), .val (.int v2), .val (.int v3), .val (.int v4), .val (.int v5), .val (.ref b6), .val (.int (1 : Int32))] [(.int (1 : Int32)), (.int (spl0 ))])) _
        refine XS.icmpNo X8.here hx rfl (hb hby at_164) rfl (teq hc11).2 ?_
        show Steps p.tables e below (T8.setTop (mkF m 167 #[.val (.int p0), .val (.int p1), .val (.int p2), .val (.int p3), .val (.int p4), .val (.int (0 : Int32)), .val (.int v2), .val (.int v3), .val (.int v4), .val (.int v5), .val (.ref b6), .val (.int (1 : Int32))] [])) _
        refine XS.iconst X8.here hx rfl (hb hby at_167) ?_
        show Steps p.tables e below (T8.setTop (mkF m 168 #[.val (.int p0), .val (.int p1), .val (.int p2), .val (.int p3), .val (.int p4), .val (.int (0 : Int32)), .val (.int v2), .val (.int v3), .val (.int v4), .val (.int v5), .val (.ref b6), .val (.int (1 : Int32))] [(.int (1 : Int32))])) _
        refine XS.goto X8.here hx rfl (pc0 := 168) (pc' := 172) rfl (hb hby at_168) (by decide) (by decide) ?_
        show Steps p.tables e below (T8.setTop (mkF m 172 #[.val (.int p0), .val (.int p1), .val (.int p2), .val (.int p3), .val (.int p4), .val (.int (0 : Int32)), .val (.int v2), .val (.int v3), .val (.int v4), .val (.int v5), .val (.ref b6), .val (.int (1 : Int32))] [(.int (1 : Int32))])) _
        exact retN X8 hx (t := .boolean) Bd.returns (by simp) (hb hby at_172) hr
      · show Q0 h0 n0 _ T8.heap _
        rw [e8]
        exact ⟨rfl, N8⟩
    · obtain ⟨fs, hr, hrun, hended, hW, hsame⟩ := X8.leave (v := some (.int (0 : Int32))) (fun h => by rw [Bd.returns] at h; cases h)
      refine ⟨_, _, pre10 _ ?_, hrun, hended, _, _, rfl, ?_, ⟨_, rfl⟩, hW, hsame.mono (by decide) (by decide)⟩
      · show Steps p.tables e below (T8.setTop (mkF m 164 #[.val (.int p0), .val (.int p1), .val (.int p2), .val (.int p3), .val (.int p4), .val (.int (0 : Int32)), .val (.int v2), .val (.int v3), .val (.int v4), .val (.int v5), .val (.ref b6), .val (.int (1 : Int32))] [(.int (1 : Int32)), (.int (spl0 ))])) _
        refine XS.icmpYes X8.here hx rfl (pc0 := 164) (pc' := 171) rfl (hb hby at_164) rfl (feq hc11).2 (by decide) (by decide) ?_
        show Steps p.tables e below (T8.setTop (mkF m 171 #[.val (.int p0), .val (.int p1), .val (.int p2), .val (.int p3), .val (.int p4), .val (.int (0 : Int32)), .val (.int v2), .val (.int v3), .val (.int v4), .val (.int v5), .val (.ref b6), .val (.int (1 : Int32))] [])) _
        refine XS.iconst X8.here hx rfl (hb hby at_171) ?_
        show Steps p.tables e below (T8.setTop (mkF m 172 #[.val (.int p0), .val (.int p1), .val (.int p2), .val (.int p3), .val (.int p4), .val (.int (0 : Int32)), .val (.int v2), .val (.int v3), .val (.int v4), .val (.int v5), .val (.ref b6), .val (.int (1 : Int32))] [(.int (0 : Int32))])) _
        exact retN X8 hx (t := .boolean) Bd.returns (by simp) (hb hby at_172) hr
      · show Q0 h0 n0 _ T8.heap _
        rw [e8]
        exfalso
        simp only [spl0] at hc11
        grind
  · skip
    obtain ⟨v12, ev12⟩ : ∃ z : Int32, z = (p1 &&& (255 : Int32)) := ⟨_, rfl⟩
    obtain ⟨v13, ev13⟩ : ∃ z : Int32, z = (p2 &&& (255 : Int32)) := ⟨_, rfl⟩
    obtain ⟨v14, ev14⟩ : ∃ z : Int32, z = (p3 &&& (255 : Int32)) := ⟨_, rfl⟩
    obtain ⟨v15, ev15⟩ : ∃ z : Int32, z = (p4 &&& (255 : Int32)) := ⟨_, rfl⟩
    obtain ⟨T16, h16, k16, X16, e16, E16, A16, st16⟩ := newP X0 hx hZ (hw _ (List.mem_of_getElem? (i := 1) rfl)) e0 (g := (mkF m 39 #[.val (.int p0), .val (.int p1), .val (.int p2), .val (.int p3), .val (.int p4), .val (.int (1 : Int32)), .val (.int v12), .val (.int v13), .val (.int v14), .val (.int v15), .unset, .unset] [(.int (1 : Int32))])) rfl (hb hby at_39) rfl (by decide) (cap := 1) (by decide) (by decide) (by decide) (by decide)
    obtain ⟨b16, g16⟩ : ∃ z, z = h0.size := ⟨_, rfl⟩
    rw [← g16] at A16 st16
    have g_b16 : n0 ≤ b16 := Nat.le_trans Z0 (Nat.le_of_eq g16.symm)
    have V_b16 : Arv Z h16 b16 k16 .byte (1 : Int32) [(.int (0 : Int32))] (.int (0 : Int32)) := (Arv.new A16 (by decide)).pad (pad_rep [] (.int (0 : Int32)) 1)
    obtain ⟨cl17, Ar17, q17, S17, Nn17, H17, G17⟩ := id V_b16
    have hin17 : ¬ ((0 : Int32) < 0 ∨ cl17.slots.size ≤ ((0 : Int32)).toNatClampNeg) := inb_of S17 ⟨by decide, by decide⟩
    obtain ⟨T18, h18, X18, e18, W18, st18⟩ := stB X16 hx hZ e16 Ar17 (j := (0 : Int32)) hin17 (g := (mkF m 54 #[.val (.int p0), .val (.int p1), .val (.int p2), .val (.int p3), .val (.int p4), .val (.int (1 : Int32)), .val (.int v12), .val (.int v13), .val (.int v14), .val (.int v15), .val (.ref b16), .unset] [(.int (v12.toInt8.toInt32)), (.int (0 : Int32)), (.ref b16)])) rfl rfl (hb hby at_54)
    have N18 := Fr.snoc X18 N0 g_b16
    have V18 : Arv Z h18 b16 k16 .byte (1 : Int32) [(.int (nar .byte (v12.toInt8.toInt32)))] (.int (0 : Int32)) := Arv.set Ar17 q17 S17 Nn17 H17 G17 (fits_nar_byte _) W18 0 rfl (Nat.le_of_ble_eq_true rfl)
    have pre19 : ∀ t, Steps p.tables e below (T18.setTop (mkF m 102 #[.val (.int p0), .val (.int p1), .val (.int p2), .val (.int p3), .val (.int p4), .val (.int (1 : Int32)), .val (.int v12), .val (.int v13), .val (.int v14), .val (.int v15), .val (.ref b16), .unset] [(.int v12)])) t → Steps p.tables e below (s₁.setTop (entryFrame m #[(.int p0), (.int p1), (.int p2), (.int p3), (.int p4)] maxLocals)) t := fun t kk => pre1 t (by
      show Steps p.tables e below (s₁.setTop (mkF m 6 #[.val (.int p0), .val (.int p1), .val (.int p2), .val (.int p3), .val (.int p4), .unset, .unset, .unset, .unset, .unset, .unset, .unset] [(.int ((p0 &&& (2147483647 : Int32)) % (5 : Int32)))])) _
      rw [h5]
      show Steps p.tables e below (s₁.setTop (mkF m 6 #[.val (.int p0), .val (.int p1), .val (.int p2), .val (.int p3), .val (.int p4), .unset, .unset, .unset, .unset, .unset, .unset, .unset] [(.int (1 : Int32))])) _
      refine XS.istore X0.here hx rfl (hb hby at_6) rfl (l' := #[.val (.int p0), .val (.int p1), .val (.int p2), .val (.int p3), .val (.int p4), .val (.int (1 : Int32)), .unset, .unset, .unset, .unset, .unset, .unset]) rfl ?_
      show Steps p.tables e below (s₁.setTop (mkF m 8 #[.val (.int p0), .val (.int p1), .val (.int p2), .val (.int p3), .val (.int p4), .val (.int (1 : Int32)), .unset, .unset, .unset, .unset, .unset, .unset] [])) _
      refine XS.iloadN X0.here hx rfl (hb hby at_8) rfl ?_
      show Steps p.tables e below (s₁.setTop (mkF m 9 #[.val (.int p0), .val (.int p1), .val (.int p2), .val (.int p3), .val (.int p4), .val (.int (1 : Int32)), .unset, .unset, .unset, .unset, .unset, .unset] [(.int p1)])) _
      refine XS.sipush X0.here hx rfl (hb hby at_9) ?_
      show Steps p.tables e below (s₁.setTop (mkF m 12 #[.val (.int p0), .val (.int p1), .val (.int p2), .val (.int p3), .val (.int p4), .val (.int (1 : Int32)), .unset, .unset, .unset, .unset, .unset, .unset] [(.int (255 : Int32)), (.int p1)])) _
      refine XS.iand X0.here hx rfl (hb hby at_12) rfl ?_
      show Steps p.tables e below (s₁.setTop (mkF m 13 #[.val (.int p0), .val (.int p1), .val (.int p2), .val (.int p3), .val (.int p4), .val (.int (1 : Int32)), .unset, .unset, .unset, .unset, .unset, .unset] [(.int (p1 &&& (255 : Int32)))])) _
      rw [← ev12]
      show Steps p.tables e below (s₁.setTop (mkF m 13 #[.val (.int p0), .val (.int p1), .val (.int p2), .val (.int p3), .val (.int p4), .val (.int (1 : Int32)), .unset, .unset, .unset, .unset, .unset, .unset] [(.int v12)])) _
      refine XS.istore X0.here hx rfl (hb hby at_13) rfl (l' := #[.val (.int p0), .val (.int p1), .val (.int p2), .val (.int p3), .val (.int p4), .val (.int (1 : Int32)), .val (.int v12), .unset, .unset, .unset, .unset, .unset]) rfl ?_
      show Steps p.tables e below (s₁.setTop (mkF m 15 #[.val (.int p0), .val (.int p1), .val (.int p2), .val (.int p3), .val (.int p4), .val (.int (1 : Int32)), .val (.int v12), .unset, .unset, .unset, .unset, .unset] [])) _
      refine XS.iloadN X0.here hx rfl (hb hby at_15) rfl ?_
      show Steps p.tables e below (s₁.setTop (mkF m 16 #[.val (.int p0), .val (.int p1), .val (.int p2), .val (.int p3), .val (.int p4), .val (.int (1 : Int32)), .val (.int v12), .unset, .unset, .unset, .unset, .unset] [(.int p2)])) _
      refine XS.sipush X0.here hx rfl (hb hby at_16) ?_
      show Steps p.tables e below (s₁.setTop (mkF m 19 #[.val (.int p0), .val (.int p1), .val (.int p2), .val (.int p3), .val (.int p4), .val (.int (1 : Int32)), .val (.int v12), .unset, .unset, .unset, .unset, .unset] [(.int (255 : Int32)), (.int p2)])) _
      refine XS.iand X0.here hx rfl (hb hby at_19) rfl ?_
      show Steps p.tables e below (s₁.setTop (mkF m 20 #[.val (.int p0), .val (.int p1), .val (.int p2), .val (.int p3), .val (.int p4), .val (.int (1 : Int32)), .val (.int v12), .unset, .unset, .unset, .unset, .unset] [(.int (p2 &&& (255 : Int32)))])) _
      rw [← ev13]
      show Steps p.tables e below (s₁.setTop (mkF m 20 #[.val (.int p0), .val (.int p1), .val (.int p2), .val (.int p3), .val (.int p4), .val (.int (1 : Int32)), .val (.int v12), .unset, .unset, .unset, .unset, .unset] [(.int v13)])) _
      refine XS.istore X0.here hx rfl (hb hby at_20) rfl (l' := #[.val (.int p0), .val (.int p1), .val (.int p2), .val (.int p3), .val (.int p4), .val (.int (1 : Int32)), .val (.int v12), .val (.int v13), .unset, .unset, .unset, .unset]) rfl ?_
      show Steps p.tables e below (s₁.setTop (mkF m 22 #[.val (.int p0), .val (.int p1), .val (.int p2), .val (.int p3), .val (.int p4), .val (.int (1 : Int32)), .val (.int v12), .val (.int v13), .unset, .unset, .unset, .unset] [])) _
      refine XS.iloadN X0.here hx rfl (hb hby at_22) rfl ?_
      show Steps p.tables e below (s₁.setTop (mkF m 23 #[.val (.int p0), .val (.int p1), .val (.int p2), .val (.int p3), .val (.int p4), .val (.int (1 : Int32)), .val (.int v12), .val (.int v13), .unset, .unset, .unset, .unset] [(.int p3)])) _
      refine XS.sipush X0.here hx rfl (hb hby at_23) ?_
      show Steps p.tables e below (s₁.setTop (mkF m 26 #[.val (.int p0), .val (.int p1), .val (.int p2), .val (.int p3), .val (.int p4), .val (.int (1 : Int32)), .val (.int v12), .val (.int v13), .unset, .unset, .unset, .unset] [(.int (255 : Int32)), (.int p3)])) _
      refine XS.iand X0.here hx rfl (hb hby at_26) rfl ?_
      show Steps p.tables e below (s₁.setTop (mkF m 27 #[.val (.int p0), .val (.int p1), .val (.int p2), .val (.int p3), .val (.int p4), .val (.int (1 : Int32)), .val (.int v12), .val (.int v13), .unset, .unset, .unset, .unset] [(.int (p3 &&& (255 : Int32)))])) _
      rw [← ev14]
      show Steps p.tables e below (s₁.setTop (mkF m 27 #[.val (.int p0), .val (.int p1), .val (.int p2), .val (.int p3), .val (.int p4), .val (.int (1 : Int32)), .val (.int v12), .val (.int v13), .unset, .unset, .unset, .unset] [(.int v14)])) _
      refine XS.istore X0.here hx rfl (hb hby at_27) rfl (l' := #[.val (.int p0), .val (.int p1), .val (.int p2), .val (.int p3), .val (.int p4), .val (.int (1 : Int32)), .val (.int v12), .val (.int v13), .val (.int v14), .unset, .unset, .unset]) rfl ?_
      show Steps p.tables e below (s₁.setTop (mkF m 29 #[.val (.int p0), .val (.int p1), .val (.int p2), .val (.int p3), .val (.int p4), .val (.int (1 : Int32)), .val (.int v12), .val (.int v13), .val (.int v14), .unset, .unset, .unset] [])) _
      refine XS.iload X0.here hx rfl (hb hby at_29) rfl ?_
      show Steps p.tables e below (s₁.setTop (mkF m 31 #[.val (.int p0), .val (.int p1), .val (.int p2), .val (.int p3), .val (.int p4), .val (.int (1 : Int32)), .val (.int v12), .val (.int v13), .val (.int v14), .unset, .unset, .unset] [(.int p4)])) _
      refine XS.sipush X0.here hx rfl (hb hby at_31) ?_
      show Steps p.tables e below (s₁.setTop (mkF m 34 #[.val (.int p0), .val (.int p1), .val (.int p2), .val (.int p3), .val (.int p4), .val (.int (1 : Int32)), .val (.int v12), .val (.int v13), .val (.int v14), .unset, .unset, .unset] [(.int (255 : Int32)), (.int p4)])) _
      refine XS.iand X0.here hx rfl (hb hby at_34) rfl ?_
      show Steps p.tables e below (s₁.setTop (mkF m 35 #[.val (.int p0), .val (.int p1), .val (.int p2), .val (.int p3), .val (.int p4), .val (.int (1 : Int32)), .val (.int v12), .val (.int v13), .val (.int v14), .unset, .unset, .unset] [(.int (p4 &&& (255 : Int32)))])) _
      rw [← ev15]
      show Steps p.tables e below (s₁.setTop (mkF m 35 #[.val (.int p0), .val (.int p1), .val (.int p2), .val (.int p3), .val (.int p4), .val (.int (1 : Int32)), .val (.int v12), .val (.int v13), .val (.int v14), .unset, .unset, .unset] [(.int v15)])) _
      refine XS.istore X0.here hx rfl (hb hby at_35) rfl (l' := #[.val (.int p0), .val (.int p1), .val (.int p2), .val (.int p3), .val (.int p4), .val (.int (1 : Int32)), .val (.int v12), .val (.int v13), .val (.int v14), .val (.int v15), .unset, .unset]) rfl ?_
      show Steps p.tables e below (s₁.setTop (mkF m 37 #[.val (.int p0), .val (.int p1), .val (.int p2), .val (.int p3), .val (.int p4), .val (.int (1 : Int32)), .val (.int v12), .val (.int v13), .val (.int v14), .val (.int v15), .unset, .unset] [])) _
      refine XS.iload X0.here hx rfl (hb hby at_37) rfl ?_
      show Steps p.tables e below (s₁.setTop (mkF m 39 #[.val (.int p0), .val (.int p1), .val (.int p2), .val (.int p3), .val (.int p4), .val (.int (1 : Int32)), .val (.int v12), .val (.int v13), .val (.int v14), .val (.int v15), .unset, .unset] [(.int (1 : Int32))])) _
      refine st16 _ ?_
      show Steps p.tables e below (T16.setTop (mkF m 41 #[.val (.int p0), .val (.int p1), .val (.int p2), .val (.int p3), .val (.int p4), .val (.int (1 : Int32)), .val (.int v12), .val (.int v13), .val (.int v14), .val (.int v15), .unset, .unset] [(.ref b16)])) _
      refine XS.astore X16.here hx rfl (hb hby at_41) rfl rfl (l' := #[.val (.int p0), .val (.int p1), .val (.int p2), .val (.int p3), .val (.int p4), .val (.int (1 : Int32)), .val (.int v12), .val (.int v13), .val (.int v14), .val (.int v15), .val (.ref b16), .unset]) rfl ?_
      show Steps p.tables e below (T16.setTop (mkF m 43 #[.val (.int p0), .val (.int p1), .val (.int p2), .val (.int p3), .val (.int p4), .val (.int (1 : Int32)), .val (.int v12), .val (.int v13), .val (.int v14), .val (.int v15), .val (.ref b16), .unset] [])) _
      refine XS.iload X16.here hx rfl (hb hby at_43) rfl ?_
      show Steps p.tables e below (T16.setTop (mkF m 45 #[.val (.int p0), .val (.int p1), .val (.int p2), .val (.int p3), .val (.int p4), .val (.int (1 : Int32)), .val (.int v12), .val (.int v13), .val (.int v14), .val (.int v15), .val (.ref b16), .unset] [(.int (1 : Int32))])) _
      refine XS.ifNo X16.here hx rfl (hb hby at_45) rfl ((if0 _ _).trans (tlt (by decide)).2.2.2) ?_
      show Steps p.tables e below (T16.setTop (mkF m 48 #[.val (.int p0), .val (.int p1), .val (.int p2), .val (.int p3), .val (.int p4), .val (.int (1 : Int32)), .val (.int v12), .val (.int v13), .val (.int v14), .val (.int v15), .val (.ref b16), .unset] [])) _
      refine XS.aload X16.here hx rfl (hb hby at_48) rfl rfl ?_
      show Steps p.tables e below (T16.setTop (mkF m 50 #[.val (.int p0), .val (.int p1), .val (.int p2), .val (.int p3), .val (.int p4), .val (.int (1 : Int32)), .val (.int v12), .val (.int v13), .val (.int v14), .val (.int v15), .val (.ref b16), .unset] [(.ref b16)])) _
      refine XS.iconst X16.here hx rfl (hb hby at_50) ?_
      show Steps p.tables e below (T16.setTop (mkF m 51 #[.val (.int p0), .val (.int p1), .val (.int p2), .val (.int p3), .val (.int p4), .val (.int (1 : Int32)), .val (.int v12), .val (.int v13), .val (.int v14), .val (.int v15), .val (.ref b16), .unset] [(.int (0 : Int32)), (.ref b16)])) _
      refine XS.iload X16.here hx rfl (hb hby at_51) rfl ?_
      show Steps p.tables e below (T16.setTop (mkF m 53 #[.val (.int p0), .val (.int p1), .val (.int p2), .val (.int p3), .val (.int p4), .val (.int (1 : Int32)), .val (.int v12), .val (.int v13), .val (.int v14), .val (.int v15), .val (.ref b16), .unset] [(.int v12), (.int (0 : Int32)), (.ref b16)])) _
      refine XS.i2b X16.here hx rfl (hb hby at_53) rfl ?_
      show Steps p.tables e below (T16.setTop (mkF m 54 #[.val (.int p0), .val (.int p1), .val (.int p2), .val (.int p3), .val (.int p4), .val (.int (1 : Int32)), .val (.int v12), .val (.int v13), .val (.int v14), .val (.int v15), .val (.ref b16), .unset] [(.int (v12.toInt8.toInt32)), (.int (0 : Int32)), (.ref b16)])) _
      refine st18 _ ?_
      show Steps p.tables e below (T18.setTop (mkF m 55 #[.val (.int p0), .val (.int p1), .val (.int p2), .val (.int p3), .val (.int p4), .val (.int (1 : Int32)), .val (.int v12), .val (.int v13), .val (.int v14), .val (.int v15), .val (.ref b16), .unset] [])) _
      refine XS.iload X18.here hx rfl (hb hby at_55) rfl ?_
      show Steps p.tables e below (T18.setTop (mkF m 57 #[.val (.int p0), .val (.int p1), .val (.int p2), .val (.int p3), .val (.int p4), .val (.int (1 : Int32)), .val (.int v12), .val (.int v13), .val (.int v14), .val (.int v15), .val (.ref b16), .unset] [(.int (1 : Int32))])) _
      refine XS.iconst X18.here hx rfl (hb hby at_57) ?_
      show Steps p.tables e below (T18.setTop (mkF m 58 #[.val (.int p0), .val (.int p1), .val (.int p2), .val (.int p3), .val (.int p4), .val (.int (1 : Int32)), .val (.int v12), .val (.int v13), .val (.int v14), .val (.int v15), .val (.ref b16), .unset] [(.int (1 : Int32)), (.int (1 : Int32))])) _
      refine XS.icmpYes X18.here hx rfl (pc0 := 58) (pc' := 68) rfl (hb hby at_58) rfl (flt (by decide)).2.2.2 (by decide) (by decide) ?_
      show Steps p.tables e below (T18.setTop (mkF m 68 #[.val (.int p0), .val (.int p1), .val (.int p2), .val (.int p3), .val (.int p4), .val (.int (1 : Int32)), .val (.int v12), .val (.int v13), .val (.int v14), .val (.int v15), .val (.ref b16), .unset] [])) _
      refine XS.iload X18.here hx rfl (hb hby at_68) rfl ?_
      show Steps p.tables e below (T18.setTop (mkF m 70 #[.val (.int p0), .val (.int p1), .val (.int p2), .val (.int p3), .val (.int p4), .val (.int (1 : Int32)), .val (.int v12), .val (.int v13), .val (.int v14), .val (.int v15), .val (.ref b16), .unset] [(.int (1 : Int32))])) _
      refine XS.iconst X18.here hx rfl (hb hby at_70) ?_
      show Steps p.tables e below (T18.setTop (mkF m 71 #[.val (.int p0), .val (.int p1), .val (.int p2), .val (.int p3), .val (.int p4), .val (.int (1 : Int32)), .val (.int v12), .val (.int v13), .val (.int v14), .val (.int v15), .val (.ref b16), .unset] [(.int (2 : Int32)), (.int (1 : Int32))])) _
      refine XS.icmpYes X18.here hx rfl (pc0 := 71) (pc' := 81) rfl (hb hby at_71) rfl (flt (by decide)).2.2.2 (by decide) (by decide) ?_
      show Steps p.tables e below (T18.setTop (mkF m 81 #[.val (.int p0), .val (.int p1), .val (.int p2), .val (.int p3), .val (.int p4), .val (.int (1 : Int32)), .val (.int v12), .val (.int v13), .val (.int v14), .val (.int v15), .val (.ref b16), .unset] [])) _
      refine XS.iload X18.here hx rfl (hb hby at_81) rfl ?_
      show Steps p.tables e below (T18.setTop (mkF m 83 #[.val (.int p0), .val (.int p1), .val (.int p2), .val (.int p3), .val (.int p4), .val (.int (1 : Int32)), .val (.int v12), .val (.int v13), .val (.int v14), .val (.int v15), .val (.ref b16), .unset] [(.int (1 : Int32))])) _
      refine XS.iconst X18.here hx rfl (hb hby at_83) ?_
      show Steps p.tables e below (T18.setTop (mkF m 84 #[.val (.int p0), .val (.int p1), .val (.int p2), .val (.int p3), .val (.int p4), .val (.int (1 : Int32)), .val (.int v12), .val (.int v13), .val (.int v14), .val (.int v15), .val (.ref b16), .unset] [(.int (3 : Int32)), (.int (1 : Int32))])) _
      refine XS.icmpYes X18.here hx rfl (pc0 := 84) (pc' := 94) rfl (hb hby at_84) rfl (flt (by decide)).2.2.2 (by decide) (by decide) ?_
      show Steps p.tables e below (T18.setTop (mkF m 94 #[.val (.int p0), .val (.int p1), .val (.int p2), .val (.int p3), .val (.int p4), .val (.int (1 : Int32)), .val (.int v12), .val (.int v13), .val (.int v14), .val (.int v15), .val (.ref b16), .unset] [])) _
      refine XS.iload X18.here hx rfl (hb hby at_94) rfl ?_
      show Steps p.tables e below (T18.setTop (mkF m 96 #[.val (.int p0), .val (.int p1), .val (.int p2), .val (.int p3), .val (.int p4), .val (.int (1 : Int32)), .val (.int v12), .val (.int v13), .val (.int v14), .val (.int v15), .val (.ref b16), .unset] [(.int (1 : Int32))])) _
      refine XS.iconst X18.here hx rfl (hb hby at_96) ?_
      show Steps p.tables e below (T18.setTop (mkF m 97 #[.val (.int p0), .val (.int p1), .val (.int p2), .val (.int p3), .val (.int p4), .val (.int (1 : Int32)), .val (.int v12), .val (.int v13), .val (.int v14), .val (.int v15), .val (.ref b16), .unset] [(.int (1 : Int32)), (.int (1 : Int32))])) _
      refine XS.icmpNo X18.here hx rfl (hb hby at_97) rfl (flt (by decide)).1 ?_
      show Steps p.tables e below (T18.setTop (mkF m 100 #[.val (.int p0), .val (.int p1), .val (.int p2), .val (.int p3), .val (.int p4), .val (.int (1 : Int32)), .val (.int v12), .val (.int v13), .val (.int v14), .val (.int v15), .val (.ref b16), .unset] [])) _
      refine XS.iload X18.here hx rfl (hb hby at_100) rfl ?_
      exact kk)
    have Zz21 := (Nat.le_trans (Nat.le_trans Z0 E16.1) (Keep.of_wr W18).1)
    obtain ⟨_, _, ⟨T20, L20, k20, n20⟩, -, X20, ⟨Lc20, hQ20, l20, y20, z20⟩, st20⟩ := Jvm.LawKit.callS X18 hx (y := (⟨"com/example/onesnap/onesnap/node/SqlLexerSplitsAlikeUnderAnySettingsPinLaw", "good", "(I)Z"⟩ : MethodName)) hown (mvT hZ (hw _ (List.mem_of_getElem? (i := 6) rfl))) (mvT hZ (hw _ (List.mem_of_getElem? (i := 7) rfl))) (mvT hZ (hw _ (List.mem_of_getElem? (i := 8) rfl))) (mvT hZ (hw _ (List.mem_of_getElem? (i := 9) rfl))) (by decide) (backOf (W := 0) (rm2 l Z a0 hw [] v12 h18 n0 Zz21) hZ (hw _ (List.mem_of_getElem? (i := 9) rfl)) (hw _ (List.mem_of_getElem? (i := 8) rfl)) (by decide) (by decide)) (g := (mkF m 102 #[.val (.int p0), .val (.int p1), .val (.int p2), .val (.int p3), .val (.int p4), .val (.int (1 : Int32)), .val (.int v12), .val (.int v13), .val (.int v14), .val (.int v15), .val (.ref b16), .unset] [(.int v12)])) rfl (by rw [hml]; rfl) (argsL := [(.int v12)]) (rest := []) (lenOf pd__28I_29Z rfl) rfl (by show 2 * 0 + _ ≤ _; exact Nat.le_of_eq rfl) (hb hby at_102) (fun _ _ => ⟨rfl, e18, (by decide : 1 + 0 ≤ _), (by decide : 1 + 0 ≤ _)⟩)
    dsimp only [Pt.U, Pt.locs, Pt.cells, Pt.slots] at X20 l20 y20 z20 st20 hQ20
    subst l20 y20 z20
    obtain ⟨rfl, N20q, e20⟩ := hQ20
    have N20 := Fr.app N18 N20q
    have pre22 : ∀ t, Steps p.tables e below (T20.setTop (mkF m 105 #[.val (.int p0), .val (.int p1), .val (.int p2), .val (.int p3), .val (.int p4), .val (.int (1 : Int32)), .val (.int v12), .val (.int v13), .val (.int v14), .val (.int v15), .val (.ref b16), .unset] [(.int (goodF v12))])) t → Steps p.tables e below (s₁.setTop (entryFrame m #[(.int p0), (.int p1), (.int p2), (.int p3), (.int p4)] maxLocals)) t := fun t kk => pre19 t (by
      show Steps p.tables e below (T18.setTop (mkF m 102 #[.val (.int p0), .val (.int p1), .val (.int p2), .val (.int p3), .val (.int p4), .val (.int (1 : Int32)), .val (.int v12), .val (.int v13), .val (.int v14), .val (.int v15), .val (.ref b16), .unset] [(.int v12)])) _
      refine st20 _ ?_
      exact kk)
    by_cases hc23 : (goodF v12) = (0 : Int32)
    · obtain ⟨_, _, ⟨T24, L24, k24, n24⟩, -, X24, ⟨Lc24, hQ24, l24, y24, z24⟩, st24⟩ := Jvm.LawKit.callS X20 hx (y := (⟨"com/example/onesnap/onesnap/node/SqlLexer", "splitsAlikeUnderAnySettings", "([B)Z"⟩ : MethodName)) hown (mvT hZ (hw _ (List.mem_of_getElem? (i := 2) rfl))) (mvT hZ (hw _ (List.mem_of_getElem? (i := 3) rfl))) (mvT hZ (hw _ (List.mem_of_getElem? (i := 4) rfl))) (mvT hZ (hw _ (List.mem_of_getElem? (i := 5) rfl))) (by decide) (backOf (W := 0) (rm1_1 l Z a0 hw [] b16 k16 (nar .byte (v12.toInt8.toInt32)) h18 n0 Zz21 V18) hZ (hw _ (List.mem_of_getElem? (i := 5) rfl)) (hw _ (List.mem_of_getElem? (i := 4) rfl)) (by decide) (by decide)) (g := (mkF m 159 #[.val (.int p0), .val (.int p1), .val (.int p2), .val (.int p3), .val (.int p4), .val (.int (1 : Int32)), .val (.int v12), .val (.int v13), .val (.int v14), .val (.int v15), .val (.ref b16), .val (.int (0 : Int32))] [(.ref b16)])) rfl (by rw [hml]; rfl) (argsL := [(.ref b16)]) (rest := []) (lenOf pd__28_5bB_29Z rfl) rfl (by show 2 * 0 + _ ≤ _; exact Nat.le_of_eq rfl) (hb hby at_159) (fun _ _ => ⟨rfl, e20, (by decide : 1 + 0 ≤ _), (by decide : 1 + 0 ≤ _)⟩)
      dsimp only [Pt.U, Pt.locs, Pt.cells, Pt.slots] at X24 l24 y24 z24 st24 hQ24
      subst l24 y24 z24
      obtain ⟨rfl, N24q, e24⟩ := hQ24
      have N24 := Fr.app N20 N24q
      have pre25 : ∀ t, Steps p.tables e below (T24.setTop (mkF m 164 #[.val (.int p0), .val (.int p1), .val (.int p2), .val (.int p3), .val (.int p4), .val (.int (1 : Int32)), .val (.int v12), .val (.int v13), .val (.int v14), .val (.int v15), .val (.ref b16), .val (.int (0 : Int32))] [(.int (0 : Int32)), (.int (spl1 (nar .byte (v12.toInt8.toInt32))))])) t → Steps p.tables e below (s₁.setTop (entryFrame m #[(.int p0), (.int p1), (.int p2), (.int p3), (.int p4)] maxLocals)) t := fun t kk => pre22 t (by
        show Steps p.tables e below (T20.setTop (mkF m 105 #[.val (.int p0), .val (.int p1), .val (.int p2), .val (.int p3), .val (.int p4), .val (.int (1 : Int32)), .val (.int v12), .val (.int v13), .val (.int v14), .val (.int v15), .val (.ref b16), .unset] [(.int (goodF v12))])) _
        refine XS.ifYes X20.here hx rfl (pc0 := 105) (pc' := 154) rfl (hb hby at_105) rfl ((if0 _ _).trans (teq hc23).1) (by decide) (by decide) ?_
        show Steps p.tables e below (T20.setTop (mkF m 154 #[.val (.int p0), .val (.int p1), .val (.int p2), .val (.int p3), .val (.int p4), .val (.int (1 : Int32)), .val (.int v12), .val (.int v13), .val (.int v14), .val (.int v15), .val (.ref b16), .unset] [])) _
        refine XS.iconst X20.here hx rfl (hb hby at_154) ?_
        show Steps p.tables e below (T20.setTop (mkF m 155 #[.val (.int p0), .val (.int p1), .val (.int p2), .val (.int p3), .val (.int p4), .val (.int (1 : Int32)), .val (.int v12), .val (.int v13), .val (.int v14), .val (.int v15), .val (.ref b16), .unset] [(.int (0 : Int32))])) _
        refine XS.istore X20.here hx rfl (hb hby at_155) rfl (l' := #[.val (.int p0), .val (.int p1), .val (.int p2), .val (.int p3), .val (.int p4), .val (.int (1 : Int32)), .val (.int v12), .val (.int v13), .val (.int v14), .val (.int v15), .val (.ref b16), .val (.int (0 : Int32))]) rfl ?_
        show Steps p.tables e below (T20.setTop (mkF m 157 #[.val (.int p0), .val (.int p1), .val (.int p2), .val (.int p3), .val (.int p4), .val (.int (1 : Int32)), .val (.int v12), .val (.int v13), .val (.int v14), .val (.int v15), .val (.ref b16), .val (.int (0 : Int32))] [])) _
        refine XS.aload X20.here hx rfl (hb hby at_157) rfl rfl ?_
        show Steps p.tables e below (T20.setTop (mkF m 159 #[.val (.int p0), .val (.int p1), .val (.int p2), .val (.int p3), .val (.int p4), .val (.int (1 : Int32)), .val (.int v12), .val (.int v13), .val (.int v14), .val (.int v15), .val (.ref b16), .val (.int (0 : Int32))] [(.ref b16)])) _
        refine st24 _ ?_
        show Steps p.tables e below (T24.setTop (mkF m 162 #[.val (.int p0), .val (.int p1), .val (.int p2), .val (.int p3), .val (.int p4), .val (.int (1 : Int32)), .val (.int v12), .val (.int v13), .val (.int v14), .val (.int v15), .val (.ref b16), .val (.int (0 : Int32))] [(.int (spl1 (nar .byte (v12.toInt8.toInt32))))])) _
        refine XS.iload X24.here hx rfl (hb hby at_162) rfl ?_
        exact kk)
      by_cases hc26 : (spl1 (nar .byte (v12.toInt8.toInt32))) = (0 : Int32)
      · obtain ⟨fs, hr, hrun, hended, hW, hsame⟩ := X24.leave (v := some (.int (1 : Int32))) (fun h => by rw [Bd.returns] at h; cases h)
        refine ⟨_, _, pre25 _ ?_, hrun, hended, _, _, rfl, ?_, ⟨_, rfl⟩, hW, hsame.mono (by decide) (by decide)⟩
        · show Steps p.tables e below (T24.setTop (mkF m 164 #[.val (.int p0), .val (.int p1), .val (.int p2), .val (.int p3), .val (.int p4), .val (.int (1 : Int32)), .val (.int v12), .val (.int v13), .val (.int v14), .val (.int v15), .val (.ref b16), .val (.int (0 : Int32))] [(.int (0 : Int32)), (.int (spl1 (nar .byte (v12.toInt8.toInt32))))])) _
          refine XS.icmpNo X24.here hx rfl (hb hby at_164) rfl (teq hc26).2 ?_
          show Steps p.tables e below (T24.setTop (mkF m 167 #[.val (.int p0), .val (.int p1), .val (.int p2), .val (.int p3), .val (.int p4), .val (.int (1 : Int32)), .val (.int v12), .val (.int v13), .val (.int v14), .val (.int v15), .val (.ref b16), .val (.int (0 : Int32))] [])) _
          refine XS.iconst X24.here hx rfl (hb hby at_167) ?_
          show Steps p.tables e below (T24.setTop (mkF m 168 #[.val (.int p0), .val (.int p1), .val (.int p2), .val (.int p3), .val (.int p4), .val (.int (1 : Int32)), .val (.int v12), .val (.int v13), .val (.int v14), .val (.int v15), .val (.ref b16), .val (.int (0 : Int32))] [(.int (1 : Int32))])) _
          refine XS.goto X24.here hx rfl (pc0 := 168) (pc' := 172) rfl (hb hby at_168) (by decide) (by decide) ?_
          show Steps p.tables e below (T24.setTop (mkF m 172 #[.val (.int p0), .val (.int p1), .val (.int p2), .val (.int p3), .val (.int p4), .val (.int (1 : Int32)), .val (.int v12), .val (.int v13), .val (.int v14), .val (.int v15), .val (.ref b16), .val (.int (0 : Int32))] [(.int (1 : Int32))])) _
          exact retN X24 hx (t := .boolean) Bd.returns (by simp) (hb hby at_172) hr
        · show Q0 h0 n0 _ T24.heap _
          rw [e24]
          exact ⟨rfl, N24⟩
      · obtain ⟨fs, hr, hrun, hended, hW, hsame⟩ := X24.leave (v := some (.int (0 : Int32))) (fun h => by rw [Bd.returns] at h; cases h)
        refine ⟨_, _, pre25 _ ?_, hrun, hended, _, _, rfl, ?_, ⟨_, rfl⟩, hW, hsame.mono (by decide) (by decide)⟩
        · show Steps p.tables e below (T24.setTop (mkF m 164 #[.val (.int p0), .val (.int p1), .val (.int p2), .val (.int p3), .val (.int p4), .val (.int (1 : Int32)), .val (.int v12), .val (.int v13), .val (.int v14), .val (.int v15), .val (.ref b16), .val (.int (0 : Int32))] [(.int (0 : Int32)), (.int (spl1 (nar .byte (v12.toInt8.toInt32))))])) _
          refine XS.icmpYes X24.here hx rfl (pc0 := 164) (pc' := 171) rfl (hb hby at_164) rfl (feq hc26).2 (by decide) (by decide) ?_
          show Steps p.tables e below (T24.setTop (mkF m 171 #[.val (.int p0), .val (.int p1), .val (.int p2), .val (.int p3), .val (.int p4), .val (.int (1 : Int32)), .val (.int v12), .val (.int v13), .val (.int v14), .val (.int v15), .val (.ref b16), .val (.int (0 : Int32))] [])) _
          refine XS.iconst X24.here hx rfl (hb hby at_171) ?_
          show Steps p.tables e below (T24.setTop (mkF m 172 #[.val (.int p0), .val (.int p1), .val (.int p2), .val (.int p3), .val (.int p4), .val (.int (1 : Int32)), .val (.int v12), .val (.int v13), .val (.int v14), .val (.int v15), .val (.ref b16), .val (.int (0 : Int32))] [(.int (0 : Int32))])) _
          exact retN X24 hx (t := .boolean) Bd.returns (by simp) (hb hby at_172) hr
        · show Q0 h0 n0 _ T24.heap _
          rw [e24]
          exfalso
          have o0 := own_b p1; rw [← ev12] at o0
          simp only [spl1] at hc26
          grind
    · obtain ⟨_, _, ⟨T27, L27, k27, n27⟩, -, X27, ⟨Lc27, hQ27, l27, y27, z27⟩, st27⟩ := Jvm.LawKit.callS X20 hx (y := (⟨"com/example/onesnap/onesnap/node/SqlLexer", "splitsAlikeUnderAnySettings", "([B)Z"⟩ : MethodName)) hown (mvT hZ (hw _ (List.mem_of_getElem? (i := 2) rfl))) (mvT hZ (hw _ (List.mem_of_getElem? (i := 3) rfl))) (mvT hZ (hw _ (List.mem_of_getElem? (i := 4) rfl))) (mvT hZ (hw _ (List.mem_of_getElem? (i := 5) rfl))) (by decide) (backOf (W := 0) (rm1_1 l Z a0 hw [] b16 k16 (nar .byte (v12.toInt8.toInt32)) h18 n0 Zz21 V18) hZ (hw _ (List.mem_of_getElem? (i := 5) rfl)) (hw _ (List.mem_of_getElem? (i := 4) rfl)) (by decide) (by decide)) (g := (mkF m 159 #[.val (.int p0), .val (.int p1), .val (.int p2), .val (.int p3), .val (.int p4), .val (.int (1 : Int32)), .val (.int v12), .val (.int v13), .val (.int v14), .val (.int v15), .val (.ref b16), .val (.int (1 : Int32))] [(.ref b16)])) rfl (by rw [hml]; rfl) (argsL := [(.ref b16)]) (rest := []) (lenOf pd__28_5bB_29Z rfl) rfl (by show 2 * 0 + _ ≤ _; exact Nat.le_of_eq rfl) (hb hby at_159) (fun _ _ => ⟨rfl, e20, (by decide : 1 + 0 ≤ _), (by decide : 1 + 0 ≤ _)⟩)
      dsimp only [Pt.U, Pt.locs, Pt.cells, Pt.slots] at X27 l27 y27 z27 st27 hQ27
      subst l27 y27 z27
      obtain ⟨rfl, N27q, e27⟩ := hQ27
      have N27 := Fr.app N20 N27q
      have pre28 : ∀ t, Steps p.tables e below (T27.setTop (mkF m 164 #[.val (.int p0), .val (.int p1), .val (.int p2), .val (.int p3), .val (.int p4), .val (.int (1 : Int32)), .val (.int v12), .val (.int v13), .val (.int v14), .val (.int v15), .val (.ref b16), .val (.int (1 : Int32))] [(.int (1 : Int32)), (.int (spl1 (nar .byte (v12.toInt8.toInt32))))])) t → Steps p.tables e below (s₁.setTop (entryFrame m #[(.int p0), (.int p1), (.int p2), (.int p3), (.int p4)] maxLocals)) t := fun t kk => pre22 t (by
        show Steps p.tables e below (T20.setTop (mkF m 105 #[.val (.int p0), .val (.int p1), .val (.int p2), .val (.int p3), .val (.int p4), .val (.int (1 : Int32)), .val (.int v12), .val (.int v13), .val (.int v14), .val (.int v15), .val (.ref b16), .unset] [(.int (goodF v12))])) _
        refine XS.ifNo X20.here hx rfl (hb hby at_105) rfl ((if0 _ _).trans (feq hc23).1) ?_
        show Steps p.tables e below (T20.setTop (mkF m 108 #[.val (.int p0), .val (.int p1), .val (.int p2), .val (.int p3), .val (.int p4), .val (.int (1 : Int32)), .val (.int v12), .val (.int v13), .val (.int v14), .val (.int v15), .val (.ref b16), .unset] [])) _
        refine XS.iload X20.here hx rfl (hb hby at_108) rfl ?_
        show Steps p.tables e below (T20.setTop (mkF m 110 #[.val (.int p0), .val (.int p1), .val (.int p2), .val (.int p3), .val (.int p4), .val (.int (1 : Int32)), .val (.int v12), .val (.int v13), .val (.int v14), .val (.int v15), .val (.ref b16), .unset] [(.int (1 : Int32))])) _
        refine XS.iconst X20.here hx rfl (hb hby at_110) ?_
        show Steps p.tables e below (T20.setTop (mkF m 111 #[.val (.int p0), .val (.int p1), .val (.int p2), .val (.int p3), .val (.int p4), .val (.int (1 : Int32)), .val (.int v12), .val (.int v13), .val (.int v14), .val (.int v15), .val (.ref b16), .unset] [(.int (2 : Int32)), (.int (1 : Int32))])) _
        refine XS.icmpYes X20.here hx rfl (pc0 := 111) (pc' := 122) rfl (hb hby at_111) rfl (tlt (by decide)).1 (by decide) (by decide) ?_
        show Steps p.tables e below (T20.setTop (mkF m 122 #[.val (.int p0), .val (.int p1), .val (.int p2), .val (.int p3), .val (.int p4), .val (.int (1 : Int32)), .val (.int v12), .val (.int v13), .val (.int v14), .val (.int v15), .val (.ref b16), .unset] [])) _
        refine XS.iload X20.here hx rfl (hb hby at_122) rfl ?_
        show Steps p.tables e below (T20.setTop (mkF m 124 #[.val (.int p0), .val (.int p1), .val (.int p2), .val (.int p3), .val (.int p4), .val (.int (1 : Int32)), .val (.int v12), .val (.int v13), .val (.int v14), .val (.int v15), .val (.ref b16), .unset] [(.int (1 : Int32))])) _
        refine XS.iconst X20.here hx rfl (hb hby at_124) ?_
        show Steps p.tables e below (T20.setTop (mkF m 125 #[.val (.int p0), .val (.int p1), .val (.int p2), .val (.int p3), .val (.int p4), .val (.int (1 : Int32)), .val (.int v12), .val (.int v13), .val (.int v14), .val (.int v15), .val (.ref b16), .unset] [(.int (3 : Int32)), (.int (1 : Int32))])) _
        refine XS.icmpYes X20.here hx rfl (pc0 := 125) (pc' := 136) rfl (hb hby at_125) rfl (tlt (by decide)).1 (by decide) (by decide) ?_
        show Steps p.tables e below (T20.setTop (mkF m 136 #[.val (.int p0), .val (.int p1), .val (.int p2), .val (.int p3), .val (.int p4), .val (.int (1 : Int32)), .val (.int v12), .val (.int v13), .val (.int v14), .val (.int v15), .val (.ref b16), .unset] [])) _
        refine XS.iload X20.here hx rfl (hb hby at_136) rfl ?_
        show Steps p.tables e below (T20.setTop (mkF m 138 #[.val (.int p0), .val (.int p1), .val (.int p2), .val (.int p3), .val (.int p4), .val (.int (1 : Int32)), .val (.int v12), .val (.int v13), .val (.int v14), .val (.int v15), .val (.ref b16), .unset] [(.int (1 : Int32))])) _
        refine XS.iconst X20.here hx rfl (hb hby at_138) ?_
        show Steps p.tables e below (T20.setTop (mkF m 139 #[.val (.int p0), .val (.int p1), .val (.int p2), .val (.int p3), .val (.int p4), .val (.int (1 : Int32)), .val (.int v12), .val (.int v13), .val (.int v14), .val (.int v15), .val (.ref b16), .unset] [(.int (4 : Int32)), (.int (1 : Int32))])) _
        refine XS.icmpYes X20.here hx rfl (pc0 := 139) (pc' := 150) rfl (hb hby at_139) rfl (tlt (by decide)).1 (by decide) (by decide) ?_
        show Steps p.tables e below (T20.setTop (mkF m 150 #[.val (.int p0), .val (.int p1), .val (.int p2), .val (.int p3), .val (.int p4), .val (.int (1 : Int32)), .val (.int v12), .val (.int v13), .val (.int v14), .val (.int v15), .val (.ref b16), .unset] [])) _
        refine XS.iconst X20.here hx rfl (hb hby at_150) ?_
        show Steps p.tables e below (T20.setTop (mkF m 151 #[.val (.int p0), .val (.int p1), .val (.int p2), .val (.int p3), .val (.int p4), .val (.int (1 : Int32)), .val (.int v12), .val (.int v13), .val (.int v14), .val (.int v15), .val (.ref b16), .unset] [(.int (1 : Int32))])) _
        refine XS.goto X20.here hx rfl (pc0 := 151) (pc' := 155) rfl (hb hby at_151) (by decide) (by decide) ?_
        show Steps p.tables e below (T20.setTop (mkF m 155 #[.val (.int p0), .val (.int p1), .val (.int p2), .val (.int p3), .val (.int p4), .val (.int (1 : Int32)), .val (.int v12), .val (.int v13), .val (.int v14), .val (.int v15), .val (.ref b16), .unset] [(.int (1 : Int32))])) _
        refine XS.istore X20.here hx rfl (hb hby at_155) rfl (l' := #[.val (.int p0), .val (.int p1), .val (.int p2), .val (.int p3), .val (.int p4), .val (.int (1 : Int32)), .val (.int v12), .val (.int v13), .val (.int v14), .val (.int v15), .val (.ref b16), .val (.int (1 : Int32))]) rfl ?_
        show Steps p.tables e below (T20.setTop (mkF m 157 #[.val (.int p0), .val (.int p1), .val (.int p2), .val (.int p3), .val (.int p4), .val (.int (1 : Int32)), .val (.int v12), .val (.int v13), .val (.int v14), .val (.int v15), .val (.ref b16), .val (.int (1 : Int32))] [])) _
        refine XS.aload X20.here hx rfl (hb hby at_157) rfl rfl ?_
        show Steps p.tables e below (T20.setTop (mkF m 159 #[.val (.int p0), .val (.int p1), .val (.int p2), .val (.int p3), .val (.int p4), .val (.int (1 : Int32)), .val (.int v12), .val (.int v13), .val (.int v14), .val (.int v15), .val (.ref b16), .val (.int (1 : Int32))] [(.ref b16)])) _
        refine st27 _ ?_
        show Steps p.tables e below (T27.setTop (mkF m 162 #[.val (.int p0), .val (.int p1), .val (.int p2), .val (.int p3), .val (.int p4), .val (.int (1 : Int32)), .val (.int v12), .val (.int v13), .val (.int v14), .val (.int v15), .val (.ref b16), .val (.int (1 : Int32))] [(.int (spl1 (nar .byte (v12.toInt8.toInt32))))])) _
        refine XS.iload X27.here hx rfl (hb hby at_162) rfl ?_
        exact kk)
      by_cases hc29 : (spl1 (nar .byte (v12.toInt8.toInt32))) = (1 : Int32)
      · obtain ⟨fs, hr, hrun, hended, hW, hsame⟩ := X27.leave (v := some (.int (1 : Int32))) (fun h => by rw [Bd.returns] at h; cases h)
        refine ⟨_, _, pre28 _ ?_, hrun, hended, _, _, rfl, ?_, ⟨_, rfl⟩, hW, hsame.mono (by decide) (by decide)⟩
        · show Steps p.tables e below (T27.setTop (mkF m 164 #[.val (.int p0), .val (.int p1), .val (.int p2), .val (.int p3), .val (.int p4), .val (.int (1 : Int32)), .val (.int v12), .val (.int v13), .val (.int v14), .val (.int v15), .val (.ref b16), .val (.int (1 : Int32))] [(.int (1 : Int32)), (.int (spl1 (nar .byte (v12.toInt8.toInt32))))])) _
          refine XS.icmpNo X27.here hx rfl (hb hby at_164) rfl (teq hc29).2 ?_
          show Steps p.tables e below (T27.setTop (mkF m 167 #[.val (.int p0), .val (.int p1), .val (.int p2), .val (.int p3), .val (.int p4), .val (.int (1 : Int32)), .val (.int v12), .val (.int v13), .val (.int v14), .val (.int v15), .val (.ref b16), .val (.int (1 : Int32))] [])) _
          refine XS.iconst X27.here hx rfl (hb hby at_167) ?_
          show Steps p.tables e below (T27.setTop (mkF m 168 #[.val (.int p0), .val (.int p1), .val (.int p2), .val (.int p3), .val (.int p4), .val (.int (1 : Int32)), .val (.int v12), .val (.int v13), .val (.int v14), .val (.int v15), .val (.ref b16), .val (.int (1 : Int32))] [(.int (1 : Int32))])) _
          refine XS.goto X27.here hx rfl (pc0 := 168) (pc' := 172) rfl (hb hby at_168) (by decide) (by decide) ?_
          show Steps p.tables e below (T27.setTop (mkF m 172 #[.val (.int p0), .val (.int p1), .val (.int p2), .val (.int p3), .val (.int p4), .val (.int (1 : Int32)), .val (.int v12), .val (.int v13), .val (.int v14), .val (.int v15), .val (.ref b16), .val (.int (1 : Int32))] [(.int (1 : Int32))])) _
          exact retN X27 hx (t := .boolean) Bd.returns (by simp) (hb hby at_172) hr
        · show Q0 h0 n0 _ T27.heap _
          rw [e27]
          exact ⟨rfl, N27⟩
      · obtain ⟨fs, hr, hrun, hended, hW, hsame⟩ := X27.leave (v := some (.int (0 : Int32))) (fun h => by rw [Bd.returns] at h; cases h)
        refine ⟨_, _, pre28 _ ?_, hrun, hended, _, _, rfl, ?_, ⟨_, rfl⟩, hW, hsame.mono (by decide) (by decide)⟩
        · show Steps p.tables e below (T27.setTop (mkF m 164 #[.val (.int p0), .val (.int p1), .val (.int p2), .val (.int p3), .val (.int p4), .val (.int (1 : Int32)), .val (.int v12), .val (.int v13), .val (.int v14), .val (.int v15), .val (.ref b16), .val (.int (1 : Int32))] [(.int (1 : Int32)), (.int (spl1 (nar .byte (v12.toInt8.toInt32))))])) _
          refine XS.icmpYes X27.here hx rfl (pc0 := 164) (pc' := 171) rfl (hb hby at_164) rfl (feq hc29).2 (by decide) (by decide) ?_
          show Steps p.tables e below (T27.setTop (mkF m 171 #[.val (.int p0), .val (.int p1), .val (.int p2), .val (.int p3), .val (.int p4), .val (.int (1 : Int32)), .val (.int v12), .val (.int v13), .val (.int v14), .val (.int v15), .val (.ref b16), .val (.int (1 : Int32))] [])) _
          refine XS.iconst X27.here hx rfl (hb hby at_171) ?_
          show Steps p.tables e below (T27.setTop (mkF m 172 #[.val (.int p0), .val (.int p1), .val (.int p2), .val (.int p3), .val (.int p4), .val (.int (1 : Int32)), .val (.int v12), .val (.int v13), .val (.int v14), .val (.int v15), .val (.ref b16), .val (.int (1 : Int32))] [(.int (0 : Int32))])) _
          exact retN X27 hx (t := .boolean) Bd.returns (by simp) (hb hby at_172) hr
        · show Q0 h0 n0 _ T27.heap _
          rw [e27]
          exfalso
          have o0 := own_b p1; rw [← ev12] at o0
          simp only [spl1] at hc29
          grind
  · skip
    obtain ⟨v30, ev30⟩ : ∃ z : Int32, z = (p1 &&& (255 : Int32)) := ⟨_, rfl⟩
    obtain ⟨v31, ev31⟩ : ∃ z : Int32, z = (p2 &&& (255 : Int32)) := ⟨_, rfl⟩
    obtain ⟨v32, ev32⟩ : ∃ z : Int32, z = (p3 &&& (255 : Int32)) := ⟨_, rfl⟩
    obtain ⟨v33, ev33⟩ : ∃ z : Int32, z = (p4 &&& (255 : Int32)) := ⟨_, rfl⟩
    obtain ⟨T34, h34, k34, X34, e34, E34, A34, st34⟩ := newP X0 hx hZ (hw _ (List.mem_of_getElem? (i := 1) rfl)) e0 (g := (mkF m 39 #[.val (.int p0), .val (.int p1), .val (.int p2), .val (.int p3), .val (.int p4), .val (.int (2 : Int32)), .val (.int v30), .val (.int v31), .val (.int v32), .val (.int v33), .unset, .unset] [(.int (2 : Int32))])) rfl (hb hby at_39) rfl (by decide) (cap := 2) (by decide) (by decide) (by decide) (by decide)
    obtain ⟨b34, g34⟩ : ∃ z, z = h0.size := ⟨_, rfl⟩
    rw [← g34] at A34 st34
    have g_b34 : n0 ≤ b34 := Nat.le_trans Z0 (Nat.le_of_eq g34.symm)
    have V_b34 : Arv Z h34 b34 k34 .byte (2 : Int32) [(.int (0 : Int32)), (.int (0 : Int32))] (.int (0 : Int32)) := (Arv.new A34 (by decide)).pad (pad_rep [] (.int (0 : Int32)) 2)
    obtain ⟨cl35, Ar35, q35, S35, Nn35, H35, G35⟩ := id V_b34
    have hin35 : ¬ ((0 : Int32) < 0 ∨ cl35.slots.size ≤ ((0 : Int32)).toNatClampNeg) := inb_of S35 ⟨by decide, by decide⟩
    obtain ⟨T36, h36, X36, e36, W36, st36⟩ := stB X34 hx hZ e34 Ar35 (j := (0 : Int32)) hin35 (g := (mkF m 54 #[.val (.int p0), .val (.int p1), .val (.int p2), .val (.int p3), .val (.int p4), .val (.int (2 : Int32)), .val (.int v30), .val (.int v31), .val (.int v32), .val (.int v33), .val (.ref b34), .unset] [(.int (v30.toInt8.toInt32)), (.int (0 : Int32)), (.ref b34)])) rfl rfl (hb hby at_54)
    have N36 := Fr.snoc X36 N0 g_b34
    have V36 : Arv Z h36 b34 k34 .byte (2 : Int32) [(.int (nar .byte (v30.toInt8.toInt32))), (.int (0 : Int32))] (.int (0 : Int32)) := Arv.set Ar35 q35 S35 Nn35 H35 G35 (fits_nar_byte _) W36 0 rfl (Nat.le_of_ble_eq_true rfl)
    obtain ⟨cl37, Ar37, q37, S37, Nn37, H37, G37⟩ := id V36
    have hin37 : ¬ ((1 : Int32) < 0 ∨ cl37.slots.size ≤ ((1 : Int32)).toNatClampNeg) := inb_of S37 ⟨by decide, by decide⟩
    obtain ⟨T38, h38, X38, e38, W38, st38⟩ := stB X36 hx hZ e36 Ar37 (j := (1 : Int32)) hin37 (g := (mkF m 67 #[.val (.int p0), .val (.int p1), .val (.int p2), .val (.int p3), .val (.int p4), .val (.int (2 : Int32)), .val (.int v30), .val (.int v31), .val (.int v32), .val (.int v33), .val (.ref b34), .unset] [(.int (v31.toInt8.toInt32)), (.int (1 : Int32)), (.ref b34)])) rfl rfl (hb hby at_67)
    have N38 := Fr.snoc X38 N36 g_b34
    have V38 : Arv Z h38 b34 k34 .byte (2 : Int32) [(.int (nar .byte (v30.toInt8.toInt32))), (.int (nar .byte (v31.toInt8.toInt32)))] (.int (0 : Int32)) := Arv.set Ar37 q37 S37 Nn37 H37 G37 (fits_nar_byte _) W38 1 rfl (Nat.le_of_ble_eq_true rfl)
    have pre39 : ∀ t, Steps p.tables e below (T38.setTop (mkF m 102 #[.val (.int p0), .val (.int p1), .val (.int p2), .val (.int p3), .val (.int p4), .val (.int (2 : Int32)), .val (.int v30), .val (.int v31), .val (.int v32), .val (.int v33), .val (.ref b34), .unset] [(.int v30)])) t → Steps p.tables e below (s₁.setTop (entryFrame m #[(.int p0), (.int p1), (.int p2), (.int p3), (.int p4)] maxLocals)) t := fun t kk => pre1 t (by
      show Steps p.tables e below (s₁.setTop (mkF m 6 #[.val (.int p0), .val (.int p1), .val (.int p2), .val (.int p3), .val (.int p4), .unset, .unset, .unset, .unset, .unset, .unset, .unset] [(.int ((p0 &&& (2147483647 : Int32)) % (5 : Int32)))])) _
      rw [h5]
      show Steps p.tables e below (s₁.setTop (mkF m 6 #[.val (.int p0), .val (.int p1), .val (.int p2), .val (.int p3), .val (.int p4), .unset, .unset, .unset, .unset, .unset, .unset, .unset] [(.int (2 : Int32))])) _
      refine XS.istore X0.here hx rfl (hb hby at_6) rfl (l' := #[.val (.int p0), .val (.int p1), .val (.int p2), .val (.int p3), .val (.int p4), .val (.int (2 : Int32)), .unset, .unset, .unset, .unset, .unset, .unset]) rfl ?_
      show Steps p.tables e below (s₁.setTop (mkF m 8 #[.val (.int p0), .val (.int p1), .val (.int p2), .val (.int p3), .val (.int p4), .val (.int (2 : Int32)), .unset, .unset, .unset, .unset, .unset, .unset] [])) _
      refine XS.iloadN X0.here hx rfl (hb hby at_8) rfl ?_
      show Steps p.tables e below (s₁.setTop (mkF m 9 #[.val (.int p0), .val (.int p1), .val (.int p2), .val (.int p3), .val (.int p4), .val (.int (2 : Int32)), .unset, .unset, .unset, .unset, .unset, .unset] [(.int p1)])) _
      refine XS.sipush X0.here hx rfl (hb hby at_9) ?_
      show Steps p.tables e below (s₁.setTop (mkF m 12 #[.val (.int p0), .val (.int p1), .val (.int p2), .val (.int p3), .val (.int p4), .val (.int (2 : Int32)), .unset, .unset, .unset, .unset, .unset, .unset] [(.int (255 : Int32)), (.int p1)])) _
      refine XS.iand X0.here hx rfl (hb hby at_12) rfl ?_
      show Steps p.tables e below (s₁.setTop (mkF m 13 #[.val (.int p0), .val (.int p1), .val (.int p2), .val (.int p3), .val (.int p4), .val (.int (2 : Int32)), .unset, .unset, .unset, .unset, .unset, .unset] [(.int (p1 &&& (255 : Int32)))])) _
      rw [← ev30]
      show Steps p.tables e below (s₁.setTop (mkF m 13 #[.val (.int p0), .val (.int p1), .val (.int p2), .val (.int p3), .val (.int p4), .val (.int (2 : Int32)), .unset, .unset, .unset, .unset, .unset, .unset] [(.int v30)])) _
      refine XS.istore X0.here hx rfl (hb hby at_13) rfl (l' := #[.val (.int p0), .val (.int p1), .val (.int p2), .val (.int p3), .val (.int p4), .val (.int (2 : Int32)), .val (.int v30), .unset, .unset, .unset, .unset, .unset]) rfl ?_
      show Steps p.tables e below (s₁.setTop (mkF m 15 #[.val (.int p0), .val (.int p1), .val (.int p2), .val (.int p3), .val (.int p4), .val (.int (2 : Int32)), .val (.int v30), .unset, .unset, .unset, .unset, .unset] [])) _
      refine XS.iloadN X0.here hx rfl (hb hby at_15) rfl ?_
      show Steps p.tables e below (s₁.setTop (mkF m 16 #[.val (.int p0), .val (.int p1), .val (.int p2), .val (.int p3), .val (.int p4), .val (.int (2 : Int32)), .val (.int v30), .unset, .unset, .unset, .unset, .unset] [(.int p2)])) _
      refine XS.sipush X0.here hx rfl (hb hby at_16) ?_
      show Steps p.tables e below (s₁.setTop (mkF m 19 #[.val (.int p0), .val (.int p1), .val (.int p2), .val (.int p3), .val (.int p4), .val (.int (2 : Int32)), .val (.int v30), .unset, .unset, .unset, .unset, .unset] [(.int (255 : Int32)), (.int p2)])) _
      refine XS.iand X0.here hx rfl (hb hby at_19) rfl ?_
      show Steps p.tables e below (s₁.setTop (mkF m 20 #[.val (.int p0), .val (.int p1), .val (.int p2), .val (.int p3), .val (.int p4), .val (.int (2 : Int32)), .val (.int v30), .unset, .unset, .unset, .unset, .unset] [(.int (p2 &&& (255 : Int32)))])) _
      rw [← ev31]
      show Steps p.tables e below (s₁.setTop (mkF m 20 #[.val (.int p0), .val (.int p1), .val (.int p2), .val (.int p3), .val (.int p4), .val (.int (2 : Int32)), .val (.int v30), .unset, .unset, .unset, .unset, .unset] [(.int v31)])) _
      refine XS.istore X0.here hx rfl (hb hby at_20) rfl (l' := #[.val (.int p0), .val (.int p1), .val (.int p2), .val (.int p3), .val (.int p4), .val (.int (2 : Int32)), .val (.int v30), .val (.int v31), .unset, .unset, .unset, .unset]) rfl ?_
      show Steps p.tables e below (s₁.setTop (mkF m 22 #[.val (.int p0), .val (.int p1), .val (.int p2), .val (.int p3), .val (.int p4), .val (.int (2 : Int32)), .val (.int v30), .val (.int v31), .unset, .unset, .unset, .unset] [])) _
      refine XS.iloadN X0.here hx rfl (hb hby at_22) rfl ?_
      show Steps p.tables e below (s₁.setTop (mkF m 23 #[.val (.int p0), .val (.int p1), .val (.int p2), .val (.int p3), .val (.int p4), .val (.int (2 : Int32)), .val (.int v30), .val (.int v31), .unset, .unset, .unset, .unset] [(.int p3)])) _
      refine XS.sipush X0.here hx rfl (hb hby at_23) ?_
      show Steps p.tables e below (s₁.setTop (mkF m 26 #[.val (.int p0), .val (.int p1), .val (.int p2), .val (.int p3), .val (.int p4), .val (.int (2 : Int32)), .val (.int v30), .val (.int v31), .unset, .unset, .unset, .unset] [(.int (255 : Int32)), (.int p3)])) _
      refine XS.iand X0.here hx rfl (hb hby at_26) rfl ?_
      show Steps p.tables e below (s₁.setTop (mkF m 27 #[.val (.int p0), .val (.int p1), .val (.int p2), .val (.int p3), .val (.int p4), .val (.int (2 : Int32)), .val (.int v30), .val (.int v31), .unset, .unset, .unset, .unset] [(.int (p3 &&& (255 : Int32)))])) _
      rw [← ev32]
      show Steps p.tables e below (s₁.setTop (mkF m 27 #[.val (.int p0), .val (.int p1), .val (.int p2), .val (.int p3), .val (.int p4), .val (.int (2 : Int32)), .val (.int v30), .val (.int v31), .unset, .unset, .unset, .unset] [(.int v32)])) _
      refine XS.istore X0.here hx rfl (hb hby at_27) rfl (l' := #[.val (.int p0), .val (.int p1), .val (.int p2), .val (.int p3), .val (.int p4), .val (.int (2 : Int32)), .val (.int v30), .val (.int v31), .val (.int v32), .unset, .unset, .unset]) rfl ?_
      show Steps p.tables e below (s₁.setTop (mkF m 29 #[.val (.int p0), .val (.int p1), .val (.int p2), .val (.int p3), .val (.int p4), .val (.int (2 : Int32)), .val (.int v30), .val (.int v31), .val (.int v32), .unset, .unset, .unset] [])) _
      refine XS.iload X0.here hx rfl (hb hby at_29) rfl ?_
      show Steps p.tables e below (s₁.setTop (mkF m 31 #[.val (.int p0), .val (.int p1), .val (.int p2), .val (.int p3), .val (.int p4), .val (.int (2 : Int32)), .val (.int v30), .val (.int v31), .val (.int v32), .unset, .unset, .unset] [(.int p4)])) _
      refine XS.sipush X0.here hx rfl (hb hby at_31) ?_
      show Steps p.tables e below (s₁.setTop (mkF m 34 #[.val (.int p0), .val (.int p1), .val (.int p2), .val (.int p3), .val (.int p4), .val (.int (2 : Int32)), .val (.int v30), .val (.int v31), .val (.int v32), .unset, .unset, .unset] [(.int (255 : Int32)), (.int p4)])) _
      refine XS.iand X0.here hx rfl (hb hby at_34) rfl ?_
      show Steps p.tables e below (s₁.setTop (mkF m 35 #[.val (.int p0), .val (.int p1), .val (.int p2), .val (.int p3), .val (.int p4), .val (.int (2 : Int32)), .val (.int v30), .val (.int v31), .val (.int v32), .unset, .unset, .unset] [(.int (p4 &&& (255 : Int32)))])) _
      rw [← ev33]
      show Steps p.tables e below (s₁.setTop (mkF m 35 #[.val (.int p0), .val (.int p1), .val (.int p2), .val (.int p3), .val (.int p4), .val (.int (2 : Int32)), .val (.int v30), .val (.int v31), .val (.int v32), .unset, .unset, .unset] [(.int v33)])) _
      refine XS.istore X0.here hx rfl (hb hby at_35) rfl (l' := #[.val (.int p0), .val (.int p1), .val (.int p2), .val (.int p3), .val (.int p4), .val (.int (2 : Int32)), .val (.int v30), .val (.int v31), .val (.int v32), .val (.int v33), .unset, .unset]) rfl ?_
      show Steps p.tables e below (s₁.setTop (mkF m 37 #[.val (.int p0), .val (.int p1), .val (.int p2), .val (.int p3), .val (.int p4), .val (.int (2 : Int32)), .val (.int v30), .val (.int v31), .val (.int v32), .val (.int v33), .unset, .unset] [])) _
      refine XS.iload X0.here hx rfl (hb hby at_37) rfl ?_
      show Steps p.tables e below (s₁.setTop (mkF m 39 #[.val (.int p0), .val (.int p1), .val (.int p2), .val (.int p3), .val (.int p4), .val (.int (2 : Int32)), .val (.int v30), .val (.int v31), .val (.int v32), .val (.int v33), .unset, .unset] [(.int (2 : Int32))])) _
      refine st34 _ ?_
      show Steps p.tables e below (T34.setTop (mkF m 41 #[.val (.int p0), .val (.int p1), .val (.int p2), .val (.int p3), .val (.int p4), .val (.int (2 : Int32)), .val (.int v30), .val (.int v31), .val (.int v32), .val (.int v33), .unset, .unset] [(.ref b34)])) _
      refine XS.astore X34.here hx rfl (hb hby at_41) rfl rfl (l' := #[.val (.int p0), .val (.int p1), .val (.int p2), .val (.int p3), .val (.int p4), .val (.int (2 : Int32)), .val (.int v30), .val (.int v31), .val (.int v32), .val (.int v33), .val (.ref b34), .unset]) rfl ?_
      show Steps p.tables e below (T34.setTop (mkF m 43 #[.val (.int p0), .val (.int p1), .val (.int p2), .val (.int p3), .val (.int p4), .val (.int (2 : Int32)), .val (.int v30), .val (.int v31), .val (.int v32), .val (.int v33), .val (.ref b34), .unset] [])) _
      refine XS.iload X34.here hx rfl (hb hby at_43) rfl ?_
      show Steps p.tables e below (T34.setTop (mkF m 45 #[.val (.int p0), .val (.int p1), .val (.int p2), .val (.int p3), .val (.int p4), .val (.int (2 : Int32)), .val (.int v30), .val (.int v31), .val (.int v32), .val (.int v33), .val (.ref b34), .unset] [(.int (2 : Int32))])) _
      refine XS.ifNo X34.here hx rfl (hb hby at_45) rfl ((if0 _ _).trans (tlt (by decide)).2.2.2) ?_
      show Steps p.tables e below (T34.setTop (mkF m 48 #[.val (.int p0), .val (.int p1), .val (.int p2), .val (.int p3), .val (.int p4), .val (.int (2 : Int32)), .val (.int v30), .val (.int v31), .val (.int v32), .val (.int v33), .val (.ref b34), .unset] [])) _
      refine XS.aload X34.here hx rfl (hb hby at_48) rfl rfl ?_
      show Steps p.tables e below (T34.setTop (mkF m 50 #[.val (.int p0), .val (.int p1), .val (.int p2), .val (.int p3), .val (.int p4), .val (.int (2 : Int32)), .val (.int v30), .val (.int v31), .val (.int v32), .val (.int v33), .val (.ref b34), .unset] [(.ref b34)])) _
      refine XS.iconst X34.here hx rfl (hb hby at_50) ?_
      show Steps p.tables e below (T34.setTop (mkF m 51 #[.val (.int p0), .val (.int p1), .val (.int p2), .val (.int p3), .val (.int p4), .val (.int (2 : Int32)), .val (.int v30), .val (.int v31), .val (.int v32), .val (.int v33), .val (.ref b34), .unset] [(.int (0 : Int32)), (.ref b34)])) _
      refine XS.iload X34.here hx rfl (hb hby at_51) rfl ?_
      show Steps p.tables e below (T34.setTop (mkF m 53 #[.val (.int p0), .val (.int p1), .val (.int p2), .val (.int p3), .val (.int p4), .val (.int (2 : Int32)), .val (.int v30), .val (.int v31), .val (.int v32), .val (.int v33), .val (.ref b34), .unset] [(.int v30), (.int (0 : Int32)), (.ref b34)])) _
      refine XS.i2b X34.here hx rfl (hb hby at_53) rfl ?_
      show Steps p.tables e below (T34.setTop (mkF m 54 #[.val (.int p0), .val (.int p1), .val (.int p2), .val (.int p3), .val (.int p4), .val (.int (2 : Int32)), .val (.int v30), .val (.int v31), .val (.int v32), .val (.int v33), .val (.ref b34), .unset] [(.int (v30.toInt8.toInt32)), (.int (0 : Int32)), (.ref b34)])) _
      refine st36 _ ?_
      show Steps p.tables e below (T36.setTop (mkF m 55 #[.val (.int p0), .val (.int p1), .val (.int p2), .val (.int p3), .val (.int p4), .val (.int (2 : Int32)), .val (.int v30), .val (.int v31), .val (.int v32), .val (.int v33), .val (.ref b34), .unset] [])) _
      refine XS.iload X36.here hx rfl (hb hby at_55) rfl ?_
      show Steps p.tables e below (T36.setTop (mkF m 57 #[.val (.int p0), .val (.int p1), .val (.int p2), .val (.int p3), .val (.int p4), .val (.int (2 : Int32)), .val (.int v30), .val (.int v31), .val (.int v32), .val (.int v33), .val (.ref b34), .unset] [(.int (2 : Int32))])) _
      refine XS.iconst X36.here hx rfl (hb hby at_57) ?_
      show Steps p.tables e below (T36.setTop (mkF m 58 #[.val (.int p0), .val (.int p1), .val (.int p2), .val (.int p3), .val (.int p4), .val (.int (2 : Int32)), .val (.int v30), .val (.int v31), .val (.int v32), .val (.int v33), .val (.ref b34), .unset] [(.int (1 : Int32)), (.int (2 : Int32))])) _
      refine XS.icmpNo X36.here hx rfl (hb hby at_58) rfl (tlt (by decide)).2.2.2 ?_
      show Steps p.tables e below (T36.setTop (mkF m 61 #[.val (.int p0), .val (.int p1), .val (.int p2), .val (.int p3), .val (.int p4), .val (.int (2 : Int32)), .val (.int v30), .val (.int v31), .val (.int v32), .val (.int v33), .val (.ref b34), .unset] [])) _
      refine XS.aload X36.here hx rfl (hb hby at_61) rfl rfl ?_
      show Steps p.tables e below (T36.setTop (mkF m 63 #[.val (.int p0), .val (.int p1), .val (.int p2), .val (.int p3), .val (.int p4), .val (.int (2 : Int32)), .val (.int v30), .val (.int v31), .val (.int v32), .val (.int v33), .val (.ref b34), .unset] [(.ref b34)])) _
      refine XS.iconst X36.here hx rfl (hb hby at_63) ?_
      show Steps p.tables e below (T36.setTop (mkF m 64 #[.val (.int p0), .val (.int p1), .val (.int p2), .val (.int p3), .val (.int p4), .val (.int (2 : Int32)), .val (.int v30), .val (.int v31), .val (.int v32), .val (.int v33), .val (.ref b34), .unset] [(.int (1 : Int32)), (.ref b34)])) _
      refine XS.iload X36.here hx rfl (hb hby at_64) rfl ?_
      show Steps p.tables e below (T36.setTop (mkF m 66 #[.val (.int p0), .val (.int p1), .val (.int p2), .val (.int p3), .val (.int p4), .val (.int (2 : Int32)), .val (.int v30), .val (.int v31), .val (.int v32), .val (.int v33), .val (.ref b34), .unset] [(.int v31), (.int (1 : Int32)), (.ref b34)])) _
      refine XS.i2b X36.here hx rfl (hb hby at_66) rfl ?_
      show Steps p.tables e below (T36.setTop (mkF m 67 #[.val (.int p0), .val (.int p1), .val (.int p2), .val (.int p3), .val (.int p4), .val (.int (2 : Int32)), .val (.int v30), .val (.int v31), .val (.int v32), .val (.int v33), .val (.ref b34), .unset] [(.int (v31.toInt8.toInt32)), (.int (1 : Int32)), (.ref b34)])) _
      refine st38 _ ?_
      show Steps p.tables e below (T38.setTop (mkF m 68 #[.val (.int p0), .val (.int p1), .val (.int p2), .val (.int p3), .val (.int p4), .val (.int (2 : Int32)), .val (.int v30), .val (.int v31), .val (.int v32), .val (.int v33), .val (.ref b34), .unset] [])) _
      refine XS.iload X38.here hx rfl (hb hby at_68) rfl ?_
      show Steps p.tables e below (T38.setTop (mkF m 70 #[.val (.int p0), .val (.int p1), .val (.int p2), .val (.int p3), .val (.int p4), .val (.int (2 : Int32)), .val (.int v30), .val (.int v31), .val (.int v32), .val (.int v33), .val (.ref b34), .unset] [(.int (2 : Int32))])) _
      refine XS.iconst X38.here hx rfl (hb hby at_70) ?_
      show Steps p.tables e below (T38.setTop (mkF m 71 #[.val (.int p0), .val (.int p1), .val (.int p2), .val (.int p3), .val (.int p4), .val (.int (2 : Int32)), .val (.int v30), .val (.int v31), .val (.int v32), .val (.int v33), .val (.ref b34), .unset] [(.int (2 : Int32)), (.int (2 : Int32))])) _
      refine XS.icmpYes X38.here hx rfl (pc0 := 71) (pc' := 81) rfl (hb hby at_71) rfl (flt (by decide)).2.2.2 (by decide) (by decide) ?_
      show Steps p.tables e below (T38.setTop (mkF m 81 #[.val (.int p0), .val (.int p1), .val (.int p2), .val (.int p3), .val (.int p4), .val (.int (2 : Int32)), .val (.int v30), .val (.int v31), .val (.int v32), .val (.int v33), .val (.ref b34), .unset] [])) _
      refine XS.iload X38.here hx rfl (hb hby at_81) rfl ?_
      show Steps p.tables e below (T38.setTop (mkF m 83 #[.val (.int p0), .val (.int p1), .val (.int p2), .val (.int p3), .val (.int p4), .val (.int (2 : Int32)), .val (.int v30), .val (.int v31), .val (.int v32), .val (.int v33), .val (.ref b34), .unset] [(.int (2 : Int32))])) _
      refine XS.iconst X38.here hx rfl (hb hby at_83) ?_
      show Steps p.tables e below (T38.setTop (mkF m 84 #[.val (.int p0), .val (.int p1), .val (.int p2), .val (.int p3), .val (.int p4), .val (.int (2 : Int32)), .val (.int v30), .val (.int v31), .val (.int v32), .val (.int v33), .val (.ref b34), .unset] [(.int (3 : Int32)), (.int (2 : Int32))])) _
      refine XS.icmpYes X38.here hx rfl (pc0 := 84) (pc' := 94) rfl (hb hby at_84) rfl (flt (by decide)).2.2.2 (by decide) (by decide) ?_
      show Steps p.tables e below (T38.setTop (mkF m 94 #[.val (.int p0), .val (.int p1), .val (.int p2), .val (.int p3), .val (.int p4), .val (.int (2 : Int32)), .val (.int v30), .val (.int v31), .val (.int v32), .val (.int v33), .val (.ref b34), .unset] [])) _
      refine XS.iload X38.here hx rfl (hb hby at_94) rfl ?_
      show Steps p.tables e below (T38.setTop (mkF m 96 #[.val (.int p0), .val (.int p1), .val (.int p2), .val (.int p3), .val (.int p4), .val (.int (2 : Int32)), .val (.int v30), .val (.int v31), .val (.int v32), .val (.int v33), .val (.ref b34), .unset] [(.int (2 : Int32))])) _
      refine XS.iconst X38.here hx rfl (hb hby at_96) ?_
      show Steps p.tables e below (T38.setTop (mkF m 97 #[.val (.int p0), .val (.int p1), .val (.int p2), .val (.int p3), .val (.int p4), .val (.int (2 : Int32)), .val (.int v30), .val (.int v31), .val (.int v32), .val (.int v33), .val (.ref b34), .unset] [(.int (1 : Int32)), (.int (2 : Int32))])) _
      refine XS.icmpNo X38.here hx rfl (hb hby at_97) rfl (flt (by decide)).1 ?_
      show Steps p.tables e below (T38.setTop (mkF m 100 #[.val (.int p0), .val (.int p1), .val (.int p2), .val (.int p3), .val (.int p4), .val (.int (2 : Int32)), .val (.int v30), .val (.int v31), .val (.int v32), .val (.int v33), .val (.ref b34), .unset] [])) _
      refine XS.iload X38.here hx rfl (hb hby at_100) rfl ?_
      exact kk)
    have Zz41 := (Nat.le_trans (Nat.le_trans (Nat.le_trans Z0 E34.1) (Keep.of_wr W36).1) (Keep.of_wr W38).1)
    obtain ⟨_, _, ⟨T40, L40, k40, n40⟩, -, X40, ⟨Lc40, hQ40, l40, y40, z40⟩, st40⟩ := Jvm.LawKit.callS X38 hx (y := (⟨"com/example/onesnap/onesnap/node/SqlLexerSplitsAlikeUnderAnySettingsPinLaw", "good", "(I)Z"⟩ : MethodName)) hown (mvT hZ (hw _ (List.mem_of_getElem? (i := 6) rfl))) (mvT hZ (hw _ (List.mem_of_getElem? (i := 7) rfl))) (mvT hZ (hw _ (List.mem_of_getElem? (i := 8) rfl))) (mvT hZ (hw _ (List.mem_of_getElem? (i := 9) rfl))) (by decide) (backOf (W := 0) (rm2 l Z a0 hw [] v30 h38 n0 Zz41) hZ (hw _ (List.mem_of_getElem? (i := 9) rfl)) (hw _ (List.mem_of_getElem? (i := 8) rfl)) (by decide) (by decide)) (g := (mkF m 102 #[.val (.int p0), .val (.int p1), .val (.int p2), .val (.int p3), .val (.int p4), .val (.int (2 : Int32)), .val (.int v30), .val (.int v31), .val (.int v32), .val (.int v33), .val (.ref b34), .unset] [(.int v30)])) rfl (by rw [hml]; rfl) (argsL := [(.int v30)]) (rest := []) (lenOf pd__28I_29Z rfl) rfl (by show 2 * 0 + _ ≤ _; exact Nat.le_of_eq rfl) (hb hby at_102) (fun _ _ => ⟨rfl, e38, (by decide : 1 + 0 ≤ _), (by decide : 2 + 0 ≤ _)⟩)
    dsimp only [Pt.U, Pt.locs, Pt.cells, Pt.slots] at X40 l40 y40 z40 st40 hQ40
    subst l40 y40 z40
    obtain ⟨rfl, N40q, e40⟩ := hQ40
    have N40 := Fr.app N38 N40q
    have pre42 : ∀ t, Steps p.tables e below (T40.setTop (mkF m 105 #[.val (.int p0), .val (.int p1), .val (.int p2), .val (.int p3), .val (.int p4), .val (.int (2 : Int32)), .val (.int v30), .val (.int v31), .val (.int v32), .val (.int v33), .val (.ref b34), .unset] [(.int (goodF v30))])) t → Steps p.tables e below (s₁.setTop (entryFrame m #[(.int p0), (.int p1), (.int p2), (.int p3), (.int p4)] maxLocals)) t := fun t kk => pre39 t (by
      show Steps p.tables e below (T38.setTop (mkF m 102 #[.val (.int p0), .val (.int p1), .val (.int p2), .val (.int p3), .val (.int p4), .val (.int (2 : Int32)), .val (.int v30), .val (.int v31), .val (.int v32), .val (.int v33), .val (.ref b34), .unset] [(.int v30)])) _
      refine st40 _ ?_
      exact kk)
    by_cases hc43 : (goodF v30) = (0 : Int32)
    · obtain ⟨_, _, ⟨T44, L44, k44, n44⟩, -, X44, ⟨Lc44, hQ44, l44, y44, z44⟩, st44⟩ := Jvm.LawKit.callS X40 hx (y := (⟨"com/example/onesnap/onesnap/node/SqlLexer", "splitsAlikeUnderAnySettings", "([B)Z"⟩ : MethodName)) hown (mvT hZ (hw _ (List.mem_of_getElem? (i := 2) rfl))) (mvT hZ (hw _ (List.mem_of_getElem? (i := 3) rfl))) (mvT hZ (hw _ (List.mem_of_getElem? (i := 4) rfl))) (mvT hZ (hw _ (List.mem_of_getElem? (i := 5) rfl))) (by decide) (backOf (W := 0) (rm1_2 l Z a0 hw [] b34 k34 (nar .byte (v30.toInt8.toInt32)) (nar .byte (v31.toInt8.toInt32)) h38 n0 Zz41 V38) hZ (hw _ (List.mem_of_getElem? (i := 5) rfl)) (hw _ (List.mem_of_getElem? (i := 4) rfl)) (by decide) (by decide)) (g := (mkF m 159 #[.val (.int p0), .val (.int p1), .val (.int p2), .val (.int p3), .val (.int p4), .val (.int (2 : Int32)), .val (.int v30), .val (.int v31), .val (.int v32), .val (.int v33), .val (.ref b34), .val (.int (0 : Int32))] [(.ref b34)])) rfl (by rw [hml]; rfl) (argsL := [(.ref b34)]) (rest := []) (lenOf pd__28_5bB_29Z rfl) rfl (by show 2 * 0 + _ ≤ _; exact Nat.le_of_eq rfl) (hb hby at_159) (fun _ _ => ⟨rfl, e40, (by decide : 1 + 0 ≤ _), (by decide : 2 + 0 ≤ _)⟩)
      dsimp only [Pt.U, Pt.locs, Pt.cells, Pt.slots] at X44 l44 y44 z44 st44 hQ44
      subst l44 y44 z44
      obtain ⟨rfl, N44q, e44⟩ := hQ44
      have N44 := Fr.app N40 N44q
      have pre45 : ∀ t, Steps p.tables e below (T44.setTop (mkF m 164 #[.val (.int p0), .val (.int p1), .val (.int p2), .val (.int p3), .val (.int p4), .val (.int (2 : Int32)), .val (.int v30), .val (.int v31), .val (.int v32), .val (.int v33), .val (.ref b34), .val (.int (0 : Int32))] [(.int (0 : Int32)), (.int (spl2 (nar .byte (v30.toInt8.toInt32)) (nar .byte (v31.toInt8.toInt32))))])) t → Steps p.tables e below (s₁.setTop (entryFrame m #[(.int p0), (.int p1), (.int p2), (.int p3), (.int p4)] maxLocals)) t := fun t kk => pre42 t (by
        show Steps p.tables e below (T40.setTop (mkF m 105 #[.val (.int p0), .val (.int p1), .val (.int p2), .val (.int p3), .val (.int p4), .val (.int (2 : Int32)), .val (.int v30), .val (.int v31), .val (.int v32), .val (.int v33), .val (.ref b34), .unset] [(.int (goodF v30))])) _
        refine XS.ifYes X40.here hx rfl (pc0 := 105) (pc' := 154) rfl (hb hby at_105) rfl ((if0 _ _).trans (teq hc43).1) (by decide) (by decide) ?_
        show Steps p.tables e below (T40.setTop (mkF m 154 #[.val (.int p0), .val (.int p1), .val (.int p2), .val (.int p3), .val (.int p4), .val (.int (2 : Int32)), .val (.int v30), .val (.int v31), .val (.int v32), .val (.int v33), .val (.ref b34), .unset] [])) _
        refine XS.iconst X40.here hx rfl (hb hby at_154) ?_
        show Steps p.tables e below (T40.setTop (mkF m 155 #[.val (.int p0), .val (.int p1), .val (.int p2), .val (.int p3), .val (.int p4), .val (.int (2 : Int32)), .val (.int v30), .val (.int v31), .val (.int v32), .val (.int v33), .val (.ref b34), .unset] [(.int (0 : Int32))])) _
        refine XS.istore X40.here hx rfl (hb hby at_155) rfl (l' := #[.val (.int p0), .val (.int p1), .val (.int p2), .val (.int p3), .val (.int p4), .val (.int (2 : Int32)), .val (.int v30), .val (.int v31), .val (.int v32), .val (.int v33), .val (.ref b34), .val (.int (0 : Int32))]) rfl ?_
        show Steps p.tables e below (T40.setTop (mkF m 157 #[.val (.int p0), .val (.int p1), .val (.int p2), .val (.int p3), .val (.int p4), .val (.int (2 : Int32)), .val (.int v30), .val (.int v31), .val (.int v32), .val (.int v33), .val (.ref b34), .val (.int (0 : Int32))] [])) _
        refine XS.aload X40.here hx rfl (hb hby at_157) rfl rfl ?_
        show Steps p.tables e below (T40.setTop (mkF m 159 #[.val (.int p0), .val (.int p1), .val (.int p2), .val (.int p3), .val (.int p4), .val (.int (2 : Int32)), .val (.int v30), .val (.int v31), .val (.int v32), .val (.int v33), .val (.ref b34), .val (.int (0 : Int32))] [(.ref b34)])) _
        refine st44 _ ?_
        show Steps p.tables e below (T44.setTop (mkF m 162 #[.val (.int p0), .val (.int p1), .val (.int p2), .val (.int p3), .val (.int p4), .val (.int (2 : Int32)), .val (.int v30), .val (.int v31), .val (.int v32), .val (.int v33), .val (.ref b34), .val (.int (0 : Int32))] [(.int (spl2 (nar .byte (v30.toInt8.toInt32)) (nar .byte (v31.toInt8.toInt32))))])) _
        refine XS.iload X44.here hx rfl (hb hby at_162) rfl ?_
        exact kk)
      by_cases hc46 : (spl2 (nar .byte (v30.toInt8.toInt32)) (nar .byte (v31.toInt8.toInt32))) = (0 : Int32)
      · obtain ⟨fs, hr, hrun, hended, hW, hsame⟩ := X44.leave (v := some (.int (1 : Int32))) (fun h => by rw [Bd.returns] at h; cases h)
        refine ⟨_, _, pre45 _ ?_, hrun, hended, _, _, rfl, ?_, ⟨_, rfl⟩, hW, hsame.mono (by decide) (by decide)⟩
        · show Steps p.tables e below (T44.setTop (mkF m 164 #[.val (.int p0), .val (.int p1), .val (.int p2), .val (.int p3), .val (.int p4), .val (.int (2 : Int32)), .val (.int v30), .val (.int v31), .val (.int v32), .val (.int v33), .val (.ref b34), .val (.int (0 : Int32))] [(.int (0 : Int32)), (.int (spl2 (nar .byte (v30.toInt8.toInt32)) (nar .byte (v31.toInt8.toInt32))))])) _
          refine XS.icmpNo X44.here hx rfl (hb hby at_164) rfl (teq hc46).2 ?_
          show Steps p.tables e below (T44.setTop (mkF m 167 #[.val (.int p0), .val (.int p1), .val (.int p2), .val (.int p3), .val (.int p4), .val (.int (2 : Int32)), .val (.int v30), .val (.int v31), .val (.int v32), .val (.int v33), .val (.ref b34), .val (.int (0 : Int32))] [])) _
          refine XS.iconst X44.here hx rfl (hb hby at_167) ?_
          show Steps p.tables e below (T44.setTop (mkF m 168 #[.val (.int p0), .val (.int p1), .val (.int p2), .val (.int p3), .val (.int p4), .val (.int (2 : Int32)), .val (.int v30), .val (.int v31), .val (.int v32), .val (.int v33), .val (.ref b34), .val (.int (0 : Int32))] [(.int (1 : Int32))])) _
          refine XS.goto X44.here hx rfl (pc0 := 168) (pc' := 172) rfl (hb hby at_168) (by decide) (by decide) ?_
          show Steps p.tables e below (T44.setTop (mkF m 172 #[.val (.int p0), .val (.int p1), .val (.int p2), .val (.int p3), .val (.int p4), .val (.int (2 : Int32)), .val (.int v30), .val (.int v31), .val (.int v32), .val (.int v33), .val (.ref b34), .val (.int (0 : Int32))] [(.int (1 : Int32))])) _
          exact retN X44 hx (t := .boolean) Bd.returns (by simp) (hb hby at_172) hr
        · show Q0 h0 n0 _ T44.heap _
          rw [e44]
          exact ⟨rfl, N44⟩
      · obtain ⟨fs, hr, hrun, hended, hW, hsame⟩ := X44.leave (v := some (.int (0 : Int32))) (fun h => by rw [Bd.returns] at h; cases h)
        refine ⟨_, _, pre45 _ ?_, hrun, hended, _, _, rfl, ?_, ⟨_, rfl⟩, hW, hsame.mono (by decide) (by decide)⟩
        · show Steps p.tables e below (T44.setTop (mkF m 164 #[.val (.int p0), .val (.int p1), .val (.int p2), .val (.int p3), .val (.int p4), .val (.int (2 : Int32)), .val (.int v30), .val (.int v31), .val (.int v32), .val (.int v33), .val (.ref b34), .val (.int (0 : Int32))] [(.int (0 : Int32)), (.int (spl2 (nar .byte (v30.toInt8.toInt32)) (nar .byte (v31.toInt8.toInt32))))])) _
          refine XS.icmpYes X44.here hx rfl (pc0 := 164) (pc' := 171) rfl (hb hby at_164) rfl (feq hc46).2 (by decide) (by decide) ?_
          show Steps p.tables e below (T44.setTop (mkF m 171 #[.val (.int p0), .val (.int p1), .val (.int p2), .val (.int p3), .val (.int p4), .val (.int (2 : Int32)), .val (.int v30), .val (.int v31), .val (.int v32), .val (.int v33), .val (.ref b34), .val (.int (0 : Int32))] [])) _
          refine XS.iconst X44.here hx rfl (hb hby at_171) ?_
          show Steps p.tables e below (T44.setTop (mkF m 172 #[.val (.int p0), .val (.int p1), .val (.int p2), .val (.int p3), .val (.int p4), .val (.int (2 : Int32)), .val (.int v30), .val (.int v31), .val (.int v32), .val (.int v33), .val (.ref b34), .val (.int (0 : Int32))] [(.int (0 : Int32))])) _
          exact retN X44 hx (t := .boolean) Bd.returns (by simp) (hb hby at_172) hr
        · show Q0 h0 n0 _ T44.heap _
          rw [e44]
          exfalso
          have o0 := own_b p1; rw [← ev30] at o0
          have o1 := own_b p2; rw [← ev31] at o1
          simp only [spl2] at hc46
          grind
    · obtain ⟨_, _, ⟨T47, L47, k47, n47⟩, -, X47, ⟨Lc47, hQ47, l47, y47, z47⟩, st47⟩ := Jvm.LawKit.callS X40 hx (y := (⟨"com/example/onesnap/onesnap/node/SqlLexerSplitsAlikeUnderAnySettingsPinLaw", "good", "(I)Z"⟩ : MethodName)) hown (mvT hZ (hw _ (List.mem_of_getElem? (i := 6) rfl))) (mvT hZ (hw _ (List.mem_of_getElem? (i := 7) rfl))) (mvT hZ (hw _ (List.mem_of_getElem? (i := 8) rfl))) (mvT hZ (hw _ (List.mem_of_getElem? (i := 9) rfl))) (by decide) (backOf (W := 0) (rm2 l Z a0 hw [] v31 h38 n0 Zz41) hZ (hw _ (List.mem_of_getElem? (i := 9) rfl)) (hw _ (List.mem_of_getElem? (i := 8) rfl)) (by decide) (by decide)) (g := (mkF m 116 #[.val (.int p0), .val (.int p1), .val (.int p2), .val (.int p3), .val (.int p4), .val (.int (2 : Int32)), .val (.int v30), .val (.int v31), .val (.int v32), .val (.int v33), .val (.ref b34), .unset] [(.int v31)])) rfl (by rw [hml]; rfl) (argsL := [(.int v31)]) (rest := []) (lenOf pd__28I_29Z rfl) rfl (by show 2 * 0 + _ ≤ _; exact Nat.le_of_eq rfl) (hb hby at_116) (fun _ _ => ⟨rfl, e40, (by decide : 1 + 0 ≤ _), (by decide : 2 + 0 ≤ _)⟩)
      dsimp only [Pt.U, Pt.locs, Pt.cells, Pt.slots] at X47 l47 y47 z47 st47 hQ47
      subst l47 y47 z47
      obtain ⟨rfl, N47q, e47⟩ := hQ47
      have N47 := Fr.app N40 N47q
      have pre48 : ∀ t, Steps p.tables e below (T47.setTop (mkF m 119 #[.val (.int p0), .val (.int p1), .val (.int p2), .val (.int p3), .val (.int p4), .val (.int (2 : Int32)), .val (.int v30), .val (.int v31), .val (.int v32), .val (.int v33), .val (.ref b34), .unset] [(.int (goodF v31))])) t → Steps p.tables e below (s₁.setTop (entryFrame m #[(.int p0), (.int p1), (.int p2), (.int p3), (.int p4)] maxLocals)) t := fun t kk => pre42 t (by
        show Steps p.tables e below (T40.setTop (mkF m 105 #[.val (.int p0), .val (.int p1), .val (.int p2), .val (.int p3), .val (.int p4), .val (.int (2 : Int32)), .val (.int v30), .val (.int v31), .val (.int v32), .val (.int v33), .val (.ref b34), .unset] [(.int (goodF v30))])) _
        refine XS.ifNo X40.here hx rfl (hb hby at_105) rfl ((if0 _ _).trans (feq hc43).1) ?_
        show Steps p.tables e below (T40.setTop (mkF m 108 #[.val (.int p0), .val (.int p1), .val (.int p2), .val (.int p3), .val (.int p4), .val (.int (2 : Int32)), .val (.int v30), .val (.int v31), .val (.int v32), .val (.int v33), .val (.ref b34), .unset] [])) _
        refine XS.iload X40.here hx rfl (hb hby at_108) rfl ?_
        show Steps p.tables e below (T40.setTop (mkF m 110 #[.val (.int p0), .val (.int p1), .val (.int p2), .val (.int p3), .val (.int p4), .val (.int (2 : Int32)), .val (.int v30), .val (.int v31), .val (.int v32), .val (.int v33), .val (.ref b34), .unset] [(.int (2 : Int32))])) _
        refine XS.iconst X40.here hx rfl (hb hby at_110) ?_
        show Steps p.tables e below (T40.setTop (mkF m 111 #[.val (.int p0), .val (.int p1), .val (.int p2), .val (.int p3), .val (.int p4), .val (.int (2 : Int32)), .val (.int v30), .val (.int v31), .val (.int v32), .val (.int v33), .val (.ref b34), .unset] [(.int (2 : Int32)), (.int (2 : Int32))])) _
        refine XS.icmpNo X40.here hx rfl (hb hby at_111) rfl (flt (by decide)).1 ?_
        show Steps p.tables e below (T40.setTop (mkF m 114 #[.val (.int p0), .val (.int p1), .val (.int p2), .val (.int p3), .val (.int p4), .val (.int (2 : Int32)), .val (.int v30), .val (.int v31), .val (.int v32), .val (.int v33), .val (.ref b34), .unset] [])) _
        refine XS.iload X40.here hx rfl (hb hby at_114) rfl ?_
        show Steps p.tables e below (T40.setTop (mkF m 116 #[.val (.int p0), .val (.int p1), .val (.int p2), .val (.int p3), .val (.int p4), .val (.int (2 : Int32)), .val (.int v30), .val (.int v31), .val (.int v32), .val (.int v33), .val (.ref b34), .unset] [(.int v31)])) _
        refine st47 _ ?_
        exact kk)
      by_cases hc49 : (goodF v31) = (0 : Int32)
      · obtain ⟨_, _, ⟨T50, L50, k50, n50⟩, -, X50, ⟨Lc50, hQ50, l50, y50, z50⟩, st50⟩ := Jvm.LawKit.callS X47 hx (y := (⟨"com/example/onesnap/onesnap/node/SqlLexer", "splitsAlikeUnderAnySettings", "([B)Z"⟩ : MethodName)) hown (mvT hZ (hw _ (List.mem_of_getElem? (i := 2) rfl))) (mvT hZ (hw _ (List.mem_of_getElem? (i := 3) rfl))) (mvT hZ (hw _ (List.mem_of_getElem? (i := 4) rfl))) (mvT hZ (hw _ (List.mem_of_getElem? (i := 5) rfl))) (by decide) (backOf (W := 0) (rm1_2 l Z a0 hw [] b34 k34 (nar .byte (v30.toInt8.toInt32)) (nar .byte (v31.toInt8.toInt32)) h38 n0 Zz41 V38) hZ (hw _ (List.mem_of_getElem? (i := 5) rfl)) (hw _ (List.mem_of_getElem? (i := 4) rfl)) (by decide) (by decide)) (g := (mkF m 159 #[.val (.int p0), .val (.int p1), .val (.int p2), .val (.int p3), .val (.int p4), .val (.int (2 : Int32)), .val (.int v30), .val (.int v31), .val (.int v32), .val (.int v33), .val (.ref b34), .val (.int (0 : Int32))] [(.ref b34)])) rfl (by rw [hml]; rfl) (argsL := [(.ref b34)]) (rest := []) (lenOf pd__28_5bB_29Z rfl) rfl (by show 2 * 0 + _ ≤ _; exact Nat.le_of_eq rfl) (hb hby at_159) (fun _ _ => ⟨rfl, e47, (by decide : 1 + 0 ≤ _), (by decide : 2 + 0 ≤ _)⟩)
        dsimp only [Pt.U, Pt.locs, Pt.cells, Pt.slots] at X50 l50 y50 z50 st50 hQ50
        subst l50 y50 z50
        obtain ⟨rfl, N50q, e50⟩ := hQ50
        have N50 := Fr.app N47 N50q
        have pre51 : ∀ t, Steps p.tables e below (T50.setTop (mkF m 164 #[.val (.int p0), .val (.int p1), .val (.int p2), .val (.int p3), .val (.int p4), .val (.int (2 : Int32)), .val (.int v30), .val (.int v31), .val (.int v32), .val (.int v33), .val (.ref b34), .val (.int (0 : Int32))] [(.int (0 : Int32)), (.int (spl2 (nar .byte (v30.toInt8.toInt32)) (nar .byte (v31.toInt8.toInt32))))])) t → Steps p.tables e below (s₁.setTop (entryFrame m #[(.int p0), (.int p1), (.int p2), (.int p3), (.int p4)] maxLocals)) t := fun t kk => pre48 t (by
          show Steps p.tables e below (T47.setTop (mkF m 119 #[.val (.int p0), .val (.int p1), .val (.int p2), .val (.int p3), .val (.int p4), .val (.int (2 : Int32)), .val (.int v30), .val (.int v31), .val (.int v32), .val (.int v33), .val (.ref b34), .unset] [(.int (goodF v31))])) _
          refine XS.ifYes X47.here hx rfl (pc0 := 119) (pc' := 154) rfl (hb hby at_119) rfl ((if0 _ _).trans (teq hc49).1) (by decide) (by decide) ?_
          show Steps p.tables e below (T47.setTop (mkF m 154 #[.val (.int p0), .val (.int p1), .val (.int p2), .val (.int p3), .val (.int p4), .val (.int (2 : Int32)), .val (.int v30), .val (.int v31), .val (.int v32), .val (.int v33), .val (.ref b34), .unset] [])) _
          refine XS.iconst X47.here hx rfl (hb hby at_154) ?_
          show Steps p.tables e below (T47.setTop (mkF m 155 #[.val (.int p0), .val (.int p1), .val (.int p2), .val (.int p3), .val (.int p4), .val (.int (2 : Int32)), .val (.int v30), .val (.int v31), .val (.int v32), .val (.int v33), .val (.ref b34), .unset] [(.int (0 : Int32))])) _
          refine XS.istore X47.here hx rfl (hb hby at_155) rfl (l' := #[.val (.int p0), .val (.int p1), .val (.int p2), .val (.int p3), .val (.int p4), .val (.int (2 : Int32)), .val (.int v30), .val (.int v31), .val (.int v32), .val (.int v33), .val (.ref b34), .val (.int (0 : Int32))]) rfl ?_
          show Steps p.tables e below (T47.setTop (mkF m 157 #[.val (.int p0), .val (.int p1), .val (.int p2), .val (.int p3), .val (.int p4), .val (.int (2 : Int32)), .val (.int v30), .val (.int v31), .val (.int v32), .val (.int v33), .val (.ref b34), .val (.int (0 : Int32))] [])) _
          refine XS.aload X47.here hx rfl (hb hby at_157) rfl rfl ?_
          show Steps p.tables e below (T47.setTop (mkF m 159 #[.val (.int p0), .val (.int p1), .val (.int p2), .val (.int p3), .val (.int p4), .val (.int (2 : Int32)), .val (.int v30), .val (.int v31), .val (.int v32), .val (.int v33), .val (.ref b34), .val (.int (0 : Int32))] [(.ref b34)])) _
          refine st50 _ ?_
          show Steps p.tables e below (T50.setTop (mkF m 162 #[.val (.int p0), .val (.int p1), .val (.int p2), .val (.int p3), .val (.int p4), .val (.int (2 : Int32)), .val (.int v30), .val (.int v31), .val (.int v32), .val (.int v33), .val (.ref b34), .val (.int (0 : Int32))] [(.int (spl2 (nar .byte (v30.toInt8.toInt32)) (nar .byte (v31.toInt8.toInt32))))])) _
          refine XS.iload X50.here hx rfl (hb hby at_162) rfl ?_
          exact kk)
        by_cases hc52 : (spl2 (nar .byte (v30.toInt8.toInt32)) (nar .byte (v31.toInt8.toInt32))) = (0 : Int32)
        · obtain ⟨fs, hr, hrun, hended, hW, hsame⟩ := X50.leave (v := some (.int (1 : Int32))) (fun h => by rw [Bd.returns] at h; cases h)
          refine ⟨_, _, pre51 _ ?_, hrun, hended, _, _, rfl, ?_, ⟨_, rfl⟩, hW, hsame.mono (by decide) (by decide)⟩
          · show Steps p.tables e below (T50.setTop (mkF m 164 #[.val (.int p0), .val (.int p1), .val (.int p2), .val (.int p3), .val (.int p4), .val (.int (2 : Int32)), .val (.int v30), .val (.int v31), .val (.int v32), .val (.int v33), .val (.ref b34), .val (.int (0 : Int32))] [(.int (0 : Int32)), (.int (spl2 (nar .byte (v30.toInt8.toInt32)) (nar .byte (v31.toInt8.toInt32))))])) _
            refine XS.icmpNo X50.here hx rfl (hb hby at_164) rfl (teq hc52).2 ?_
            show Steps p.tables e below (T50.setTop (mkF m 167 #[.val (.int p0), .val (.int p1), .val (.int p2), .val (.int p3), .val (.int p4), .val (.int (2 : Int32)), .val (.int v30), .val (.int v31), .val (.int v32), .val (.int v33), .val (.ref b34), .val (.int (0 : Int32))] [])) _
            refine XS.iconst X50.here hx rfl (hb hby at_167) ?_
            show Steps p.tables e below (T50.setTop (mkF m 168 #[.val (.int p0), .val (.int p1), .val (.int p2), .val (.int p3), .val (.int p4), .val (.int (2 : Int32)), .val (.int v30), .val (.int v31), .val (.int v32), .val (.int v33), .val (.ref b34), .val (.int (0 : Int32))] [(.int (1 : Int32))])) _
            refine XS.goto X50.here hx rfl (pc0 := 168) (pc' := 172) rfl (hb hby at_168) (by decide) (by decide) ?_
            show Steps p.tables e below (T50.setTop (mkF m 172 #[.val (.int p0), .val (.int p1), .val (.int p2), .val (.int p3), .val (.int p4), .val (.int (2 : Int32)), .val (.int v30), .val (.int v31), .val (.int v32), .val (.int v33), .val (.ref b34), .val (.int (0 : Int32))] [(.int (1 : Int32))])) _
            exact retN X50 hx (t := .boolean) Bd.returns (by simp) (hb hby at_172) hr
          · show Q0 h0 n0 _ T50.heap _
            rw [e50]
            exact ⟨rfl, N50⟩
        · obtain ⟨fs, hr, hrun, hended, hW, hsame⟩ := X50.leave (v := some (.int (0 : Int32))) (fun h => by rw [Bd.returns] at h; cases h)
          refine ⟨_, _, pre51 _ ?_, hrun, hended, _, _, rfl, ?_, ⟨_, rfl⟩, hW, hsame.mono (by decide) (by decide)⟩
          · show Steps p.tables e below (T50.setTop (mkF m 164 #[.val (.int p0), .val (.int p1), .val (.int p2), .val (.int p3), .val (.int p4), .val (.int (2 : Int32)), .val (.int v30), .val (.int v31), .val (.int v32), .val (.int v33), .val (.ref b34), .val (.int (0 : Int32))] [(.int (0 : Int32)), (.int (spl2 (nar .byte (v30.toInt8.toInt32)) (nar .byte (v31.toInt8.toInt32))))])) _
            refine XS.icmpYes X50.here hx rfl (pc0 := 164) (pc' := 171) rfl (hb hby at_164) rfl (feq hc52).2 (by decide) (by decide) ?_
            show Steps p.tables e below (T50.setTop (mkF m 171 #[.val (.int p0), .val (.int p1), .val (.int p2), .val (.int p3), .val (.int p4), .val (.int (2 : Int32)), .val (.int v30), .val (.int v31), .val (.int v32), .val (.int v33), .val (.ref b34), .val (.int (0 : Int32))] [])) _
            refine XS.iconst X50.here hx rfl (hb hby at_171) ?_
            show Steps p.tables e below (T50.setTop (mkF m 172 #[.val (.int p0), .val (.int p1), .val (.int p2), .val (.int p3), .val (.int p4), .val (.int (2 : Int32)), .val (.int v30), .val (.int v31), .val (.int v32), .val (.int v33), .val (.ref b34), .val (.int (0 : Int32))] [(.int (0 : Int32))])) _
            exact retN X50 hx (t := .boolean) Bd.returns (by simp) (hb hby at_172) hr
          · show Q0 h0 n0 _ T50.heap _
            rw [e50]
            exfalso
            have o0 := own_b p1; rw [← ev30] at o0
            have o1 := own_b p2; rw [← ev31] at o1
            simp only [spl2] at hc52
            grind
      · obtain ⟨_, _, ⟨T53, L53, k53, n53⟩, -, X53, ⟨Lc53, hQ53, l53, y53, z53⟩, st53⟩ := Jvm.LawKit.callS X47 hx (y := (⟨"com/example/onesnap/onesnap/node/SqlLexer", "splitsAlikeUnderAnySettings", "([B)Z"⟩ : MethodName)) hown (mvT hZ (hw _ (List.mem_of_getElem? (i := 2) rfl))) (mvT hZ (hw _ (List.mem_of_getElem? (i := 3) rfl))) (mvT hZ (hw _ (List.mem_of_getElem? (i := 4) rfl))) (mvT hZ (hw _ (List.mem_of_getElem? (i := 5) rfl))) (by decide) (backOf (W := 0) (rm1_2 l Z a0 hw [] b34 k34 (nar .byte (v30.toInt8.toInt32)) (nar .byte (v31.toInt8.toInt32)) h38 n0 Zz41 V38) hZ (hw _ (List.mem_of_getElem? (i := 5) rfl)) (hw _ (List.mem_of_getElem? (i := 4) rfl)) (by decide) (by decide)) (g := (mkF m 159 #[.val (.int p0), .val (.int p1), .val (.int p2), .val (.int p3), .val (.int p4), .val (.int (2 : Int32)), .val (.int v30), .val (.int v31), .val (.int v32), .val (.int v33), .val (.ref b34), .val (.int (1 : Int32))] [(.ref b34)])) rfl (by rw [hml]; rfl) (argsL := [(.ref b34)]) (rest := []) (lenOf pd__28_5bB_29Z rfl) rfl (by show 2 * 0 + _ ≤ _; exact Nat.le_of_eq rfl) (hb hby at_159) (fun _ _ => ⟨rfl, e47, (by decide : 1 + 0 ≤ _), (by decide : 2 + 0 ≤ _)⟩)
        dsimp only [Pt.U, Pt.locs, Pt.cells, Pt.slots] at X53 l53 y53 z53 st53 hQ53
        subst l53 y53 z53
        obtain ⟨rfl, N53q, e53⟩ := hQ53
        have N53 := Fr.app N47 N53q
        have pre54 : ∀ t, Steps p.tables e below (T53.setTop (mkF m 164 #[.val (.int p0), .val (.int p1), .val (.int p2), .val (.int p3), .val (.int p4), .val (.int (2 : Int32)), .val (.int v30), .val (.int v31), .val (.int v32), .val (.int v33), .val (.ref b34), .val (.int (1 : Int32))] [(.int (1 : Int32)), (.int (spl2 (nar .byte (v30.toInt8.toInt32)) (nar .byte (v31.toInt8.toInt32))))])) t → Steps p.tables e below (s₁.setTop (entryFrame m #[(.int p0), (.int p1), (.int p2), (.int p3), (.int p4)] maxLocals)) t := fun t kk => pre48 t (by
          show Steps p.tables e below (T47.setTop (mkF m 119 #[.val (.int p0), .val (.int p1), .val (.int p2), .val (.int p3), .val (.int p4), .val (.int (2 : Int32)), .val (.int v30), .val (.int v31), .val (.int v32), .val (.int v33), .val (.ref b34), .unset] [(.int (goodF v31))])) _
          refine XS.ifNo X47.here hx rfl (hb hby at_119) rfl ((if0 _ _).trans (feq hc49).1) ?_
          show Steps p.tables e below (T47.setTop (mkF m 122 #[.val (.int p0), .val (.int p1), .val (.int p2), .val (.int p3), .val (.int p4), .val (.int (2 : Int32)), .val (.int v30), .val (.int v31), .val (.int v32), .val (.int v33), .val (.ref b34), .unset] [])) _
          refine XS.iload X47.here hx rfl (hb hby at_122) rfl ?_
          show Steps p.tables e below (T47.setTop (mkF m 124 #[.val (.int p0), .val (.int p1), .val (.int p2), .val (.int p3), .val (.int p4), .val (.int (2 : Int32)), .val (.int v30), .val (.int v31), .val (.int v32), .val (.int v33), .val (.ref b34), .unset] [(.int (2 : Int32))])) _
          refine XS.iconst X47.here hx rfl (hb hby at_124) ?_
          show Steps p.tables e below (T47.setTop (mkF m 125 #[.val (.int p0), .val (.int p1), .val (.int p2), .val (.int p3), .val (.int p4), .val (.int (2 : Int32)), .val (.int v30), .val (.int v31), .val (.int v32), .val (.int v33), .val (.ref b34), .unset] [(.int (3 : Int32)), (.int (2 : Int32))])) _
          refine XS.icmpYes X47.here hx rfl (pc0 := 125) (pc' := 136) rfl (hb hby at_125) rfl (tlt (by decide)).1 (by decide) (by decide) ?_
          show Steps p.tables e below (T47.setTop (mkF m 136 #[.val (.int p0), .val (.int p1), .val (.int p2), .val (.int p3), .val (.int p4), .val (.int (2 : Int32)), .val (.int v30), .val (.int v31), .val (.int v32), .val (.int v33), .val (.ref b34), .unset] [])) _
          refine XS.iload X47.here hx rfl (hb hby at_136) rfl ?_
          show Steps p.tables e below (T47.setTop (mkF m 138 #[.val (.int p0), .val (.int p1), .val (.int p2), .val (.int p3), .val (.int p4), .val (.int (2 : Int32)), .val (.int v30), .val (.int v31), .val (.int v32), .val (.int v33), .val (.ref b34), .unset] [(.int (2 : Int32))])) _
          refine XS.iconst X47.here hx rfl (hb hby at_138) ?_
          show Steps p.tables e below (T47.setTop (mkF m 139 #[.val (.int p0), .val (.int p1), .val (.int p2), .val (.int p3), .val (.int p4), .val (.int (2 : Int32)), .val (.int v30), .val (.int v31), .val (.int v32), .val (.int v33), .val (.ref b34), .unset] [(.int (4 : Int32)), (.int (2 : Int32))])) _
          refine XS.icmpYes X47.here hx rfl (pc0 := 139) (pc' := 150) rfl (hb hby at_139) rfl (tlt (by decide)).1 (by decide) (by decide) ?_
          show Steps p.tables e below (T47.setTop (mkF m 150 #[.val (.int p0), .val (.int p1), .val (.int p2), .val (.int p3), .val (.int p4), .val (.int (2 : Int32)), .val (.int v30), .val (.int v31), .val (.int v32), .val (.int v33), .val (.ref b34), .unset] [])) _
          refine XS.iconst X47.here hx rfl (hb hby at_150) ?_
          show Steps p.tables e below (T47.setTop (mkF m 151 #[.val (.int p0), .val (.int p1), .val (.int p2), .val (.int p3), .val (.int p4), .val (.int (2 : Int32)), .val (.int v30), .val (.int v31), .val (.int v32), .val (.int v33), .val (.ref b34), .unset] [(.int (1 : Int32))])) _
          refine XS.goto X47.here hx rfl (pc0 := 151) (pc' := 155) rfl (hb hby at_151) (by decide) (by decide) ?_
          show Steps p.tables e below (T47.setTop (mkF m 155 #[.val (.int p0), .val (.int p1), .val (.int p2), .val (.int p3), .val (.int p4), .val (.int (2 : Int32)), .val (.int v30), .val (.int v31), .val (.int v32), .val (.int v33), .val (.ref b34), .unset] [(.int (1 : Int32))])) _
          refine XS.istore X47.here hx rfl (hb hby at_155) rfl (l' := #[.val (.int p0), .val (.int p1), .val (.int p2), .val (.int p3), .val (.int p4), .val (.int (2 : Int32)), .val (.int v30), .val (.int v31), .val (.int v32), .val (.int v33), .val (.ref b34), .val (.int (1 : Int32))]) rfl ?_
          show Steps p.tables e below (T47.setTop (mkF m 157 #[.val (.int p0), .val (.int p1), .val (.int p2), .val (.int p3), .val (.int p4), .val (.int (2 : Int32)), .val (.int v30), .val (.int v31), .val (.int v32), .val (.int v33), .val (.ref b34), .val (.int (1 : Int32))] [])) _
          refine XS.aload X47.here hx rfl (hb hby at_157) rfl rfl ?_
          show Steps p.tables e below (T47.setTop (mkF m 159 #[.val (.int p0), .val (.int p1), .val (.int p2), .val (.int p3), .val (.int p4), .val (.int (2 : Int32)), .val (.int v30), .val (.int v31), .val (.int v32), .val (.int v33), .val (.ref b34), .val (.int (1 : Int32))] [(.ref b34)])) _
          refine st53 _ ?_
          show Steps p.tables e below (T53.setTop (mkF m 162 #[.val (.int p0), .val (.int p1), .val (.int p2), .val (.int p3), .val (.int p4), .val (.int (2 : Int32)), .val (.int v30), .val (.int v31), .val (.int v32), .val (.int v33), .val (.ref b34), .val (.int (1 : Int32))] [(.int (spl2 (nar .byte (v30.toInt8.toInt32)) (nar .byte (v31.toInt8.toInt32))))])) _
          refine XS.iload X53.here hx rfl (hb hby at_162) rfl ?_
          exact kk)
        by_cases hc55 : (spl2 (nar .byte (v30.toInt8.toInt32)) (nar .byte (v31.toInt8.toInt32))) = (1 : Int32)
        · obtain ⟨fs, hr, hrun, hended, hW, hsame⟩ := X53.leave (v := some (.int (1 : Int32))) (fun h => by rw [Bd.returns] at h; cases h)
          refine ⟨_, _, pre54 _ ?_, hrun, hended, _, _, rfl, ?_, ⟨_, rfl⟩, hW, hsame.mono (by decide) (by decide)⟩
          · show Steps p.tables e below (T53.setTop (mkF m 164 #[.val (.int p0), .val (.int p1), .val (.int p2), .val (.int p3), .val (.int p4), .val (.int (2 : Int32)), .val (.int v30), .val (.int v31), .val (.int v32), .val (.int v33), .val (.ref b34), .val (.int (1 : Int32))] [(.int (1 : Int32)), (.int (spl2 (nar .byte (v30.toInt8.toInt32)) (nar .byte (v31.toInt8.toInt32))))])) _
            refine XS.icmpNo X53.here hx rfl (hb hby at_164) rfl (teq hc55).2 ?_
            show Steps p.tables e below (T53.setTop (mkF m 167 #[.val (.int p0), .val (.int p1), .val (.int p2), .val (.int p3), .val (.int p4), .val (.int (2 : Int32)), .val (.int v30), .val (.int v31), .val (.int v32), .val (.int v33), .val (.ref b34), .val (.int (1 : Int32))] [])) _
            refine XS.iconst X53.here hx rfl (hb hby at_167) ?_
            show Steps p.tables e below (T53.setTop (mkF m 168 #[.val (.int p0), .val (.int p1), .val (.int p2), .val (.int p3), .val (.int p4), .val (.int (2 : Int32)), .val (.int v30), .val (.int v31), .val (.int v32), .val (.int v33), .val (.ref b34), .val (.int (1 : Int32))] [(.int (1 : Int32))])) _
            refine XS.goto X53.here hx rfl (pc0 := 168) (pc' := 172) rfl (hb hby at_168) (by decide) (by decide) ?_
            show Steps p.tables e below (T53.setTop (mkF m 172 #[.val (.int p0), .val (.int p1), .val (.int p2), .val (.int p3), .val (.int p4), .val (.int (2 : Int32)), .val (.int v30), .val (.int v31), .val (.int v32), .val (.int v33), .val (.ref b34), .val (.int (1 : Int32))] [(.int (1 : Int32))])) _
            exact retN X53 hx (t := .boolean) Bd.returns (by simp) (hb hby at_172) hr
          · show Q0 h0 n0 _ T53.heap _
            rw [e53]
            exact ⟨rfl, N53⟩
        · obtain ⟨fs, hr, hrun, hended, hW, hsame⟩ := X53.leave (v := some (.int (0 : Int32))) (fun h => by rw [Bd.returns] at h; cases h)
          refine ⟨_, _, pre54 _ ?_, hrun, hended, _, _, rfl, ?_, ⟨_, rfl⟩, hW, hsame.mono (by decide) (by decide)⟩
          · show Steps p.tables e below (T53.setTop (mkF m 164 #[.val (.int p0), .val (.int p1), .val (.int p2), .val (.int p3), .val (.int p4), .val (.int (2 : Int32)), .val (.int v30), .val (.int v31), .val (.int v32), .val (.int v33), .val (.ref b34), .val (.int (1 : Int32))] [(.int (1 : Int32)), (.int (spl2 (nar .byte (v30.toInt8.toInt32)) (nar .byte (v31.toInt8.toInt32))))])) _
            refine XS.icmpYes X53.here hx rfl (pc0 := 164) (pc' := 171) rfl (hb hby at_164) rfl (feq hc55).2 (by decide) (by decide) ?_
            show Steps p.tables e below (T53.setTop (mkF m 171 #[.val (.int p0), .val (.int p1), .val (.int p2), .val (.int p3), .val (.int p4), .val (.int (2 : Int32)), .val (.int v30), .val (.int v31), .val (.int v32), .val (.int v33), .val (.ref b34), .val (.int (1 : Int32))] [])) _
            refine XS.iconst X53.here hx rfl (hb hby at_171) ?_
            show Steps p.tables e below (T53.setTop (mkF m 172 #[.val (.int p0), .val (.int p1), .val (.int p2), .val (.int p3), .val (.int p4), .val (.int (2 : Int32)), .val (.int v30), .val (.int v31), .val (.int v32), .val (.int v33), .val (.ref b34), .val (.int (1 : Int32))] [(.int (0 : Int32))])) _
            exact retN X53 hx (t := .boolean) Bd.returns (by simp) (hb hby at_172) hr
          · show Q0 h0 n0 _ T53.heap _
            rw [e53]
            exfalso
            have o0 := own_b p1; rw [← ev30] at o0
            have o1 := own_b p2; rw [← ev31] at o1
            simp only [spl2] at hc55
            grind
  · skip
    obtain ⟨v56, ev56⟩ : ∃ z : Int32, z = (p1 &&& (255 : Int32)) := ⟨_, rfl⟩
    obtain ⟨v57, ev57⟩ : ∃ z : Int32, z = (p2 &&& (255 : Int32)) := ⟨_, rfl⟩
    obtain ⟨v58, ev58⟩ : ∃ z : Int32, z = (p3 &&& (255 : Int32)) := ⟨_, rfl⟩
    obtain ⟨v59, ev59⟩ : ∃ z : Int32, z = (p4 &&& (255 : Int32)) := ⟨_, rfl⟩
    obtain ⟨T60, h60, k60, X60, e60, E60, A60, st60⟩ := newP X0 hx hZ (hw _ (List.mem_of_getElem? (i := 1) rfl)) e0 (g := (mkF m 39 #[.val (.int p0), .val (.int p1), .val (.int p2), .val (.int p3), .val (.int p4), .val (.int (3 : Int32)), .val (.int v56), .val (.int v57), .val (.int v58), .val (.int v59), .unset, .unset] [(.int (3 : Int32))])) rfl (hb hby at_39) rfl (by decide) (cap := 3) (by decide) (by decide) (by decide) (by decide)
    obtain ⟨b60, g60⟩ : ∃ z, z = h0.size := ⟨_, rfl⟩
    rw [← g60] at A60 st60
    have g_b60 : n0 ≤ b60 := Nat.le_trans Z0 (Nat.le_of_eq g60.symm)
    have V_b60 : Arv Z h60 b60 k60 .byte (3 : Int32) [(.int (0 : Int32)), (.int (0 : Int32)), (.int (0 : Int32))] (.int (0 : Int32)) := (Arv.new A60 (by decide)).pad (pad_rep [] (.int (0 : Int32)) 3)
    obtain ⟨cl61, Ar61, q61, S61, Nn61, H61, G61⟩ := id V_b60
    have hin61 : ¬ ((0 : Int32) < 0 ∨ cl61.slots.size ≤ ((0 : Int32)).toNatClampNeg) := inb_of S61 ⟨by decide, by decide⟩
    obtain ⟨T62, h62, X62, e62, W62, st62⟩ := stB X60 hx hZ e60 Ar61 (j := (0 : Int32)) hin61 (g := (mkF m 54 #[.val (.int p0), .val (.int p1), .val (.int p2), .val (.int p3), .val (.int p4), .val (.int (3 : Int32)), .val (.int v56), .val (.int v57), .val (.int v58), .val (.int v59), .val (.ref b60), .unset] [(.int (v56.toInt8.toInt32)), (.int (0 : Int32)), (.ref b60)])) rfl rfl (hb hby at_54)
    have N62 := Fr.snoc X62 N0 g_b60
    have V62 : Arv Z h62 b60 k60 .byte (3 : Int32) [(.int (nar .byte (v56.toInt8.toInt32))), (.int (0 : Int32)), (.int (0 : Int32))] (.int (0 : Int32)) := Arv.set Ar61 q61 S61 Nn61 H61 G61 (fits_nar_byte _) W62 0 rfl (Nat.le_of_ble_eq_true rfl)
    obtain ⟨cl63, Ar63, q63, S63, Nn63, H63, G63⟩ := id V62
    have hin63 : ¬ ((1 : Int32) < 0 ∨ cl63.slots.size ≤ ((1 : Int32)).toNatClampNeg) := inb_of S63 ⟨by decide, by decide⟩
    obtain ⟨T64, h64, X64, e64, W64, st64⟩ := stB X62 hx hZ e62 Ar63 (j := (1 : Int32)) hin63 (g := (mkF m 67 #[.val (.int p0), .val (.int p1), .val (.int p2), .val (.int p3), .val (.int p4), .val (.int (3 : Int32)), .val (.int v56), .val (.int v57), .val (.int v58), .val (.int v59), .val (.ref b60), .unset] [(.int (v57.toInt8.toInt32)), (.int (1 : Int32)), (.ref b60)])) rfl rfl (hb hby at_67)
    have N64 := Fr.snoc X64 N62 g_b60
    have V64 : Arv Z h64 b60 k60 .byte (3 : Int32) [(.int (nar .byte (v56.toInt8.toInt32))), (.int (nar .byte (v57.toInt8.toInt32))), (.int (0 : Int32))] (.int (0 : Int32)) := Arv.set Ar63 q63 S63 Nn63 H63 G63 (fits_nar_byte _) W64 1 rfl (Nat.le_of_ble_eq_true rfl)
    obtain ⟨cl65, Ar65, q65, S65, Nn65, H65, G65⟩ := id V64
    have hin65 : ¬ ((2 : Int32) < 0 ∨ cl65.slots.size ≤ ((2 : Int32)).toNatClampNeg) := inb_of S65 ⟨by decide, by decide⟩
    obtain ⟨T66, h66, X66, e66, W66, st66⟩ := stB X64 hx hZ e64 Ar65 (j := (2 : Int32)) hin65 (g := (mkF m 80 #[.val (.int p0), .val (.int p1), .val (.int p2), .val (.int p3), .val (.int p4), .val (.int (3 : Int32)), .val (.int v56), .val (.int v57), .val (.int v58), .val (.int v59), .val (.ref b60), .unset] [(.int (v58.toInt8.toInt32)), (.int (2 : Int32)), (.ref b60)])) rfl rfl (hb hby at_80)
    have N66 := Fr.snoc X66 N64 g_b60
    have V66 : Arv Z h66 b60 k60 .byte (3 : Int32) [(.int (nar .byte (v56.toInt8.toInt32))), (.int (nar .byte (v57.toInt8.toInt32))), (.int (nar .byte (v58.toInt8.toInt32)))] (.int (0 : Int32)) := Arv.set Ar65 q65 S65 Nn65 H65 G65 (fits_nar_byte _) W66 2 rfl (Nat.le_of_ble_eq_true rfl)
    have pre67 : ∀ t, Steps p.tables e below (T66.setTop (mkF m 102 #[.val (.int p0), .val (.int p1), .val (.int p2), .val (.int p3), .val (.int p4), .val (.int (3 : Int32)), .val (.int v56), .val (.int v57), .val (.int v58), .val (.int v59), .val (.ref b60), .unset] [(.int v56)])) t → Steps p.tables e below (s₁.setTop (entryFrame m #[(.int p0), (.int p1), (.int p2), (.int p3), (.int p4)] maxLocals)) t := fun t kk => pre1 t (by
      show Steps p.tables e below (s₁.setTop (mkF m 6 #[.val (.int p0), .val (.int p1), .val (.int p2), .val (.int p3), .val (.int p4), .unset, .unset, .unset, .unset, .unset, .unset, .unset] [(.int ((p0 &&& (2147483647 : Int32)) % (5 : Int32)))])) _
      rw [h5]
      show Steps p.tables e below (s₁.setTop (mkF m 6 #[.val (.int p0), .val (.int p1), .val (.int p2), .val (.int p3), .val (.int p4), .unset, .unset, .unset, .unset, .unset, .unset, .unset] [(.int (3 : Int32))])) _
      refine XS.istore X0.here hx rfl (hb hby at_6) rfl (l' := #[.val (.int p0), .val (.int p1), .val (.int p2), .val (.int p3), .val (.int p4), .val (.int (3 : Int32)), .unset, .unset, .unset, .unset, .unset, .unset]) rfl ?_
      show Steps p.tables e below (s₁.setTop (mkF m 8 #[.val (.int p0), .val (.int p1), .val (.int p2), .val (.int p3), .val (.int p4), .val (.int (3 : Int32)), .unset, .unset, .unset, .unset, .unset, .unset] [])) _
      refine XS.iloadN X0.here hx rfl (hb hby at_8) rfl ?_
      show Steps p.tables e below (s₁.setTop (mkF m 9 #[.val (.int p0), .val (.int p1), .val (.int p2), .val (.int p3), .val (.int p4), .val (.int (3 : Int32)), .unset, .unset, .unset, .unset, .unset, .unset] [(.int p1)])) _
      refine XS.sipush X0.here hx rfl (hb hby at_9) ?_
      show Steps p.tables e below (s₁.setTop (mkF m 12 #[.val (.int p0), .val (.int p1), .val (.int p2), .val (.int p3), .val (.int p4), .val (.int (3 : Int32)), .unset, .unset, .unset, .unset, .unset, .unset] [(.int (255 : Int32)), (.int p1)])) _
      refine XS.iand X0.here hx rfl (hb hby at_12) rfl ?_
      show Steps p.tables e below (s₁.setTop (mkF m 13 #[.val (.int p0), .val (.int p1), .val (.int p2), .val (.int p3), .val (.int p4), .val (.int (3 : Int32)), .unset, .unset, .unset, .unset, .unset, .unset] [(.int (p1 &&& (255 : Int32)))])) _
      rw [← ev56]
      show Steps p.tables e below (s₁.setTop (mkF m 13 #[.val (.int p0), .val (.int p1), .val (.int p2), .val (.int p3), .val (.int p4), .val (.int (3 : Int32)), .unset, .unset, .unset, .unset, .unset, .unset] [(.int v56)])) _
      refine XS.istore X0.here hx rfl (hb hby at_13) rfl (l' := #[.val (.int p0), .val (.int p1), .val (.int p2), .val (.int p3), .val (.int p4), .val (.int (3 : Int32)), .val (.int v56), .unset, .unset, .unset, .unset, .unset]) rfl ?_
      show Steps p.tables e below (s₁.setTop (mkF m 15 #[.val (.int p0), .val (.int p1), .val (.int p2), .val (.int p3), .val (.int p4), .val (.int (3 : Int32)), .val (.int v56), .unset, .unset, .unset, .unset, .unset] [])) _
      refine XS.iloadN X0.here hx rfl (hb hby at_15) rfl ?_
      show Steps p.tables e below (s₁.setTop (mkF m 16 #[.val (.int p0), .val (.int p1), .val (.int p2), .val (.int p3), .val (.int p4), .val (.int (3 : Int32)), .val (.int v56), .unset, .unset, .unset, .unset, .unset] [(.int p2)])) _
      refine XS.sipush X0.here hx rfl (hb hby at_16) ?_
      show Steps p.tables e below (s₁.setTop (mkF m 19 #[.val (.int p0), .val (.int p1), .val (.int p2), .val (.int p3), .val (.int p4), .val (.int (3 : Int32)), .val (.int v56), .unset, .unset, .unset, .unset, .unset] [(.int (255 : Int32)), (.int p2)])) _
      refine XS.iand X0.here hx rfl (hb hby at_19) rfl ?_
      show Steps p.tables e below (s₁.setTop (mkF m 20 #[.val (.int p0), .val (.int p1), .val (.int p2), .val (.int p3), .val (.int p4), .val (.int (3 : Int32)), .val (.int v56), .unset, .unset, .unset, .unset, .unset] [(.int (p2 &&& (255 : Int32)))])) _
      rw [← ev57]
      show Steps p.tables e below (s₁.setTop (mkF m 20 #[.val (.int p0), .val (.int p1), .val (.int p2), .val (.int p3), .val (.int p4), .val (.int (3 : Int32)), .val (.int v56), .unset, .unset, .unset, .unset, .unset] [(.int v57)])) _
      refine XS.istore X0.here hx rfl (hb hby at_20) rfl (l' := #[.val (.int p0), .val (.int p1), .val (.int p2), .val (.int p3), .val (.int p4), .val (.int (3 : Int32)), .val (.int v56), .val (.int v57), .unset, .unset, .unset, .unset]) rfl ?_
      show Steps p.tables e below (s₁.setTop (mkF m 22 #[.val (.int p0), .val (.int p1), .val (.int p2), .val (.int p3), .val (.int p4), .val (.int (3 : Int32)), .val (.int v56), .val (.int v57), .unset, .unset, .unset, .unset] [])) _
      refine XS.iloadN X0.here hx rfl (hb hby at_22) rfl ?_
      show Steps p.tables e below (s₁.setTop (mkF m 23 #[.val (.int p0), .val (.int p1), .val (.int p2), .val (.int p3), .val (.int p4), .val (.int (3 : Int32)), .val (.int v56), .val (.int v57), .unset, .unset, .unset, .unset] [(.int p3)])) _
      refine XS.sipush X0.here hx rfl (hb hby at_23) ?_
      show Steps p.tables e below (s₁.setTop (mkF m 26 #[.val (.int p0), .val (.int p1), .val (.int p2), .val (.int p3), .val (.int p4), .val (.int (3 : Int32)), .val (.int v56), .val (.int v57), .unset, .unset, .unset, .unset] [(.int (255 : Int32)), (.int p3)])) _
      refine XS.iand X0.here hx rfl (hb hby at_26) rfl ?_
      show Steps p.tables e below (s₁.setTop (mkF m 27 #[.val (.int p0), .val (.int p1), .val (.int p2), .val (.int p3), .val (.int p4), .val (.int (3 : Int32)), .val (.int v56), .val (.int v57), .unset, .unset, .unset, .unset] [(.int (p3 &&& (255 : Int32)))])) _
      rw [← ev58]
      show Steps p.tables e below (s₁.setTop (mkF m 27 #[.val (.int p0), .val (.int p1), .val (.int p2), .val (.int p3), .val (.int p4), .val (.int (3 : Int32)), .val (.int v56), .val (.int v57), .unset, .unset, .unset, .unset] [(.int v58)])) _
      refine XS.istore X0.here hx rfl (hb hby at_27) rfl (l' := #[.val (.int p0), .val (.int p1), .val (.int p2), .val (.int p3), .val (.int p4), .val (.int (3 : Int32)), .val (.int v56), .val (.int v57), .val (.int v58), .unset, .unset, .unset]) rfl ?_
      show Steps p.tables e below (s₁.setTop (mkF m 29 #[.val (.int p0), .val (.int p1), .val (.int p2), .val (.int p3), .val (.int p4), .val (.int (3 : Int32)), .val (.int v56), .val (.int v57), .val (.int v58), .unset, .unset, .unset] [])) _
      refine XS.iload X0.here hx rfl (hb hby at_29) rfl ?_
      show Steps p.tables e below (s₁.setTop (mkF m 31 #[.val (.int p0), .val (.int p1), .val (.int p2), .val (.int p3), .val (.int p4), .val (.int (3 : Int32)), .val (.int v56), .val (.int v57), .val (.int v58), .unset, .unset, .unset] [(.int p4)])) _
      refine XS.sipush X0.here hx rfl (hb hby at_31) ?_
      show Steps p.tables e below (s₁.setTop (mkF m 34 #[.val (.int p0), .val (.int p1), .val (.int p2), .val (.int p3), .val (.int p4), .val (.int (3 : Int32)), .val (.int v56), .val (.int v57), .val (.int v58), .unset, .unset, .unset] [(.int (255 : Int32)), (.int p4)])) _
      refine XS.iand X0.here hx rfl (hb hby at_34) rfl ?_
      show Steps p.tables e below (s₁.setTop (mkF m 35 #[.val (.int p0), .val (.int p1), .val (.int p2), .val (.int p3), .val (.int p4), .val (.int (3 : Int32)), .val (.int v56), .val (.int v57), .val (.int v58), .unset, .unset, .unset] [(.int (p4 &&& (255 : Int32)))])) _
      rw [← ev59]
      show Steps p.tables e below (s₁.setTop (mkF m 35 #[.val (.int p0), .val (.int p1), .val (.int p2), .val (.int p3), .val (.int p4), .val (.int (3 : Int32)), .val (.int v56), .val (.int v57), .val (.int v58), .unset, .unset, .unset] [(.int v59)])) _
      refine XS.istore X0.here hx rfl (hb hby at_35) rfl (l' := #[.val (.int p0), .val (.int p1), .val (.int p2), .val (.int p3), .val (.int p4), .val (.int (3 : Int32)), .val (.int v56), .val (.int v57), .val (.int v58), .val (.int v59), .unset, .unset]) rfl ?_
      show Steps p.tables e below (s₁.setTop (mkF m 37 #[.val (.int p0), .val (.int p1), .val (.int p2), .val (.int p3), .val (.int p4), .val (.int (3 : Int32)), .val (.int v56), .val (.int v57), .val (.int v58), .val (.int v59), .unset, .unset] [])) _
      refine XS.iload X0.here hx rfl (hb hby at_37) rfl ?_
      show Steps p.tables e below (s₁.setTop (mkF m 39 #[.val (.int p0), .val (.int p1), .val (.int p2), .val (.int p3), .val (.int p4), .val (.int (3 : Int32)), .val (.int v56), .val (.int v57), .val (.int v58), .val (.int v59), .unset, .unset] [(.int (3 : Int32))])) _
      refine st60 _ ?_
      show Steps p.tables e below (T60.setTop (mkF m 41 #[.val (.int p0), .val (.int p1), .val (.int p2), .val (.int p3), .val (.int p4), .val (.int (3 : Int32)), .val (.int v56), .val (.int v57), .val (.int v58), .val (.int v59), .unset, .unset] [(.ref b60)])) _
      refine XS.astore X60.here hx rfl (hb hby at_41) rfl rfl (l' := #[.val (.int p0), .val (.int p1), .val (.int p2), .val (.int p3), .val (.int p4), .val (.int (3 : Int32)), .val (.int v56), .val (.int v57), .val (.int v58), .val (.int v59), .val (.ref b60), .unset]) rfl ?_
      show Steps p.tables e below (T60.setTop (mkF m 43 #[.val (.int p0), .val (.int p1), .val (.int p2), .val (.int p3), .val (.int p4), .val (.int (3 : Int32)), .val (.int v56), .val (.int v57), .val (.int v58), .val (.int v59), .val (.ref b60), .unset] [])) _
      refine XS.iload X60.here hx rfl (hb hby at_43) rfl ?_
      show Steps p.tables e below (T60.setTop (mkF m 45 #[.val (.int p0), .val (.int p1), .val (.int p2), .val (.int p3), .val (.int p4), .val (.int (3 : Int32)), .val (.int v56), .val (.int v57), .val (.int v58), .val (.int v59), .val (.ref b60), .unset] [(.int (3 : Int32))])) _
      refine XS.ifNo X60.here hx rfl (hb hby at_45) rfl ((if0 _ _).trans (tlt (by decide)).2.2.2) ?_
      show Steps p.tables e below (T60.setTop (mkF m 48 #[.val (.int p0), .val (.int p1), .val (.int p2), .val (.int p3), .val (.int p4), .val (.int (3 : Int32)), .val (.int v56), .val (.int v57), .val (.int v58), .val (.int v59), .val (.ref b60), .unset] [])) _
      refine XS.aload X60.here hx rfl (hb hby at_48) rfl rfl ?_
      show Steps p.tables e below (T60.setTop (mkF m 50 #[.val (.int p0), .val (.int p1), .val (.int p2), .val (.int p3), .val (.int p4), .val (.int (3 : Int32)), .val (.int v56), .val (.int v57), .val (.int v58), .val (.int v59), .val (.ref b60), .unset] [(.ref b60)])) _
      refine XS.iconst X60.here hx rfl (hb hby at_50) ?_
      show Steps p.tables e below (T60.setTop (mkF m 51 #[.val (.int p0), .val (.int p1), .val (.int p2), .val (.int p3), .val (.int p4), .val (.int (3 : Int32)), .val (.int v56), .val (.int v57), .val (.int v58), .val (.int v59), .val (.ref b60), .unset] [(.int (0 : Int32)), (.ref b60)])) _
      refine XS.iload X60.here hx rfl (hb hby at_51) rfl ?_
      show Steps p.tables e below (T60.setTop (mkF m 53 #[.val (.int p0), .val (.int p1), .val (.int p2), .val (.int p3), .val (.int p4), .val (.int (3 : Int32)), .val (.int v56), .val (.int v57), .val (.int v58), .val (.int v59), .val (.ref b60), .unset] [(.int v56), (.int (0 : Int32)), (.ref b60)])) _
      refine XS.i2b X60.here hx rfl (hb hby at_53) rfl ?_
      show Steps p.tables e below (T60.setTop (mkF m 54 #[.val (.int p0), .val (.int p1), .val (.int p2), .val (.int p3), .val (.int p4), .val (.int (3 : Int32)), .val (.int v56), .val (.int v57), .val (.int v58), .val (.int v59), .val (.ref b60), .unset] [(.int (v56.toInt8.toInt32)), (.int (0 : Int32)), (.ref b60)])) _
      refine st62 _ ?_
      show Steps p.tables e below (T62.setTop (mkF m 55 #[.val (.int p0), .val (.int p1), .val (.int p2), .val (.int p3), .val (.int p4), .val (.int (3 : Int32)), .val (.int v56), .val (.int v57), .val (.int v58), .val (.int v59), .val (.ref b60), .unset] [])) _
      refine XS.iload X62.here hx rfl (hb hby at_55) rfl ?_
      show Steps p.tables e below (T62.setTop (mkF m 57 #[.val (.int p0), .val (.int p1), .val (.int p2), .val (.int p3), .val (.int p4), .val (.int (3 : Int32)), .val (.int v56), .val (.int v57), .val (.int v58), .val (.int v59), .val (.ref b60), .unset] [(.int (3 : Int32))])) _
      refine XS.iconst X62.here hx rfl (hb hby at_57) ?_
      show Steps p.tables e below (T62.setTop (mkF m 58 #[.val (.int p0), .val (.int p1), .val (.int p2), .val (.int p3), .val (.int p4), .val (.int (3 : Int32)), .val (.int v56), .val (.int v57), .val (.int v58), .val (.int v59), .val (.ref b60), .unset] [(.int (1 : Int32)), (.int (3 : Int32))])) _
      refine XS.icmpNo X62.here hx rfl (hb hby at_58) rfl (tlt (by decide)).2.2.2 ?_
      show Steps p.tables e below (T62.setTop (mkF m 61 #[.val (.int p0), .val (.int p1), .val (.int p2), .val (.int p3), .val (.int p4), .val (.int (3 : Int32)), .val (.int v56), .val (.int v57), .val (.int v58), .val (.int v59), .val (.ref b60), .unset] [])) _
      refine XS.aload X62.here hx rfl (hb hby at_61) rfl rfl ?_
      show Steps p.tables e below (T62.setTop (mkF m 63 #[.val (.int p0), .val (.int p1), .val (.int p2), .val (.int p3), .val (.int p4), .val (.int (3 : Int32)), .val (.int v56), .val (.int v57), .val (.int v58), .val (.int v59), .val (.ref b60), .unset] [(.ref b60)])) _
      refine XS.iconst X62.here hx rfl (hb hby at_63) ?_
      show Steps p.tables e below (T62.setTop (mkF m 64 #[.val (.int p0), .val (.int p1), .val (.int p2), .val (.int p3), .val (.int p4), .val (.int (3 : Int32)), .val (.int v56), .val (.int v57), .val (.int v58), .val (.int v59), .val (.ref b60), .unset] [(.int (1 : Int32)), (.ref b60)])) _
      refine XS.iload X62.here hx rfl (hb hby at_64) rfl ?_
      show Steps p.tables e below (T62.setTop (mkF m 66 #[.val (.int p0), .val (.int p1), .val (.int p2), .val (.int p3), .val (.int p4), .val (.int (3 : Int32)), .val (.int v56), .val (.int v57), .val (.int v58), .val (.int v59), .val (.ref b60), .unset] [(.int v57), (.int (1 : Int32)), (.ref b60)])) _
      refine XS.i2b X62.here hx rfl (hb hby at_66) rfl ?_
      show Steps p.tables e below (T62.setTop (mkF m 67 #[.val (.int p0), .val (.int p1), .val (.int p2), .val (.int p3), .val (.int p4), .val (.int (3 : Int32)), .val (.int v56), .val (.int v57), .val (.int v58), .val (.int v59), .val (.ref b60), .unset] [(.int (v57.toInt8.toInt32)), (.int (1 : Int32)), (.ref b60)])) _
      refine st64 _ ?_
      show Steps p.tables e below (T64.setTop (mkF m 68 #[.val (.int p0), .val (.int p1), .val (.int p2), .val (.int p3), .val (.int p4), .val (.int (3 : Int32)), .val (.int v56), .val (.int v57), .val (.int v58), .val (.int v59), .val (.ref b60), .unset] [])) _
      refine XS.iload X64.here hx rfl (hb hby at_68) rfl ?_
      show Steps p.tables e below (T64.setTop (mkF m 70 #[.val (.int p0), .val (.int p1), .val (.int p2), .val (.int p3), .val (.int p4), .val (.int (3 : Int32)), .val (.int v56), .val (.int v57), .val (.int v58), .val (.int v59), .val (.ref b60), .unset] [(.int (3 : Int32))])) _
      refine XS.iconst X64.here hx rfl (hb hby at_70) ?_
      show Steps p.tables e below (T64.setTop (mkF m 71 #[.val (.int p0), .val (.int p1), .val (.int p2), .val (.int p3), .val (.int p4), .val (.int (3 : Int32)), .val (.int v56), .val (.int v57), .val (.int v58), .val (.int v59), .val (.ref b60), .unset] [(.int (2 : Int32)), (.int (3 : Int32))])) _
      refine XS.icmpNo X64.here hx rfl (hb hby at_71) rfl (tlt (by decide)).2.2.2 ?_
      show Steps p.tables e below (T64.setTop (mkF m 74 #[.val (.int p0), .val (.int p1), .val (.int p2), .val (.int p3), .val (.int p4), .val (.int (3 : Int32)), .val (.int v56), .val (.int v57), .val (.int v58), .val (.int v59), .val (.ref b60), .unset] [])) _
      refine XS.aload X64.here hx rfl (hb hby at_74) rfl rfl ?_
      show Steps p.tables e below (T64.setTop (mkF m 76 #[.val (.int p0), .val (.int p1), .val (.int p2), .val (.int p3), .val (.int p4), .val (.int (3 : Int32)), .val (.int v56), .val (.int v57), .val (.int v58), .val (.int v59), .val (.ref b60), .unset] [(.ref b60)])) _
      refine XS.iconst X64.here hx rfl (hb hby at_76) ?_
      show Steps p.tables e below (T64.setTop (mkF m 77 #[.val (.int p0), .val (.int p1), .val (.int p2), .val (.int p3), .val (.int p4), .val (.int (3 : Int32)), .val (.int v56), .val (.int v57), .val (.int v58), .val (.int v59), .val (.ref b60), .unset] [(.int (2 : Int32)), (.ref b60)])) _
      refine XS.iload X64.here hx rfl (hb hby at_77) rfl ?_
      show Steps p.tables e below (T64.setTop (mkF m 79 #[.val (.int p0), .val (.int p1), .val (.int p2), .val (.int p3), .val (.int p4), .val (.int (3 : Int32)), .val (.int v56), .val (.int v57), .val (.int v58), .val (.int v59), .val (.ref b60), .unset] [(.int v58), (.int (2 : Int32)), (.ref b60)])) _
      refine XS.i2b X64.here hx rfl (hb hby at_79) rfl ?_
      show Steps p.tables e below (T64.setTop (mkF m 80 #[.val (.int p0), .val (.int p1), .val (.int p2), .val (.int p3), .val (.int p4), .val (.int (3 : Int32)), .val (.int v56), .val (.int v57), .val (.int v58), .val (.int v59), .val (.ref b60), .unset] [(.int (v58.toInt8.toInt32)), (.int (2 : Int32)), (.ref b60)])) _
      refine st66 _ ?_
      show Steps p.tables e below (T66.setTop (mkF m 81 #[.val (.int p0), .val (.int p1), .val (.int p2), .val (.int p3), .val (.int p4), .val (.int (3 : Int32)), .val (.int v56), .val (.int v57), .val (.int v58), .val (.int v59), .val (.ref b60), .unset] [])) _
      refine XS.iload X66.here hx rfl (hb hby at_81) rfl ?_
      show Steps p.tables e below (T66.setTop (mkF m 83 #[.val (.int p0), .val (.int p1), .val (.int p2), .val (.int p3), .val (.int p4), .val (.int (3 : Int32)), .val (.int v56), .val (.int v57), .val (.int v58), .val (.int v59), .val (.ref b60), .unset] [(.int (3 : Int32))])) _
      refine XS.iconst X66.here hx rfl (hb hby at_83) ?_
      show Steps p.tables e below (T66.setTop (mkF m 84 #[.val (.int p0), .val (.int p1), .val (.int p2), .val (.int p3), .val (.int p4), .val (.int (3 : Int32)), .val (.int v56), .val (.int v57), .val (.int v58), .val (.int v59), .val (.ref b60), .unset] [(.int (3 : Int32)), (.int (3 : Int32))])) _
      refine XS.icmpYes X66.here hx rfl (pc0 := 84) (pc' := 94) rfl (hb hby at_84) rfl (flt (by decide)).2.2.2 (by decide) (by decide) ?_
      show Steps p.tables e below (T66.setTop (mkF m 94 #[.val (.int p0), .val (.int p1), .val (.int p2), .val (.int p3), .val (.int p4), .val (.int (3 : Int32)), .val (.int v56), .val (.int v57), .val (.int v58), .val (.int v59), .val (.ref b60), .unset] [])) _
      refine XS.iload X66.here hx rfl (hb hby at_94) rfl ?_
      show Steps p.tables e below (T66.setTop (mkF m 96 #[.val (.int p0), .val (.int p1), .val (.int p2), .val (.int p3), .val (.int p4), .val (.int (3 : Int32)), .val (.int v56), .val (.int v57), .val (.int v58), .val (.int v59), .val (.ref b60), .unset] [(.int (3 : Int32))])) _
      refine XS.iconst X66.here hx rfl (hb hby at_96) ?_
      show Steps p.tables e below (T66.setTop (mkF m 97 #[.val (.int p0), .val (.int p1), .val (.int p2), .val (.int p3), .val (.int p4), .val (.int (3 : Int32)), .val (.int v56), .val (.int v57), .val (.int v58), .val (.int v59), .val (.ref b60), .unset] [(.int (1 : Int32)), (.int (3 : Int32))])) _
      refine XS.icmpNo X66.here hx rfl (hb hby at_97) rfl (flt (by decide)).1 ?_
      show Steps p.tables e below (T66.setTop (mkF m 100 #[.val (.int p0), .val (.int p1), .val (.int p2), .val (.int p3), .val (.int p4), .val (.int (3 : Int32)), .val (.int v56), .val (.int v57), .val (.int v58), .val (.int v59), .val (.ref b60), .unset] [])) _
      refine XS.iload X66.here hx rfl (hb hby at_100) rfl ?_
      exact kk)
    have Zz69 := (Nat.le_trans (Nat.le_trans (Nat.le_trans (Nat.le_trans Z0 E60.1) (Keep.of_wr W62).1) (Keep.of_wr W64).1) (Keep.of_wr W66).1)
    obtain ⟨_, _, ⟨T68, L68, k68, n68⟩, -, X68, ⟨Lc68, hQ68, l68, y68, z68⟩, st68⟩ := Jvm.LawKit.callS X66 hx (y := (⟨"com/example/onesnap/onesnap/node/SqlLexerSplitsAlikeUnderAnySettingsPinLaw", "good", "(I)Z"⟩ : MethodName)) hown (mvT hZ (hw _ (List.mem_of_getElem? (i := 6) rfl))) (mvT hZ (hw _ (List.mem_of_getElem? (i := 7) rfl))) (mvT hZ (hw _ (List.mem_of_getElem? (i := 8) rfl))) (mvT hZ (hw _ (List.mem_of_getElem? (i := 9) rfl))) (by decide) (backOf (W := 0) (rm2 l Z a0 hw [] v56 h66 n0 Zz69) hZ (hw _ (List.mem_of_getElem? (i := 9) rfl)) (hw _ (List.mem_of_getElem? (i := 8) rfl)) (by decide) (by decide)) (g := (mkF m 102 #[.val (.int p0), .val (.int p1), .val (.int p2), .val (.int p3), .val (.int p4), .val (.int (3 : Int32)), .val (.int v56), .val (.int v57), .val (.int v58), .val (.int v59), .val (.ref b60), .unset] [(.int v56)])) rfl (by rw [hml]; rfl) (argsL := [(.int v56)]) (rest := []) (lenOf pd__28I_29Z rfl) rfl (by show 2 * 0 + _ ≤ _; exact Nat.le_of_eq rfl) (hb hby at_102) (fun _ _ => ⟨rfl, e66, (by decide : 1 + 0 ≤ _), (by decide : 3 + 0 ≤ _)⟩)
    dsimp only [Pt.U, Pt.locs, Pt.cells, Pt.slots] at X68 l68 y68 z68 st68 hQ68
    subst l68 y68 z68
    obtain ⟨rfl, N68q, e68⟩ := hQ68
    have N68 := Fr.app N66 N68q
    have pre70 : ∀ t, Steps p.tables e below (T68.setTop (mkF m 105 #[.val (.int p0), .val (.int p1), .val (.int p2), .val (.int p3), .val (.int p4), .val (.int (3 : Int32)), .val (.int v56), .val (.int v57), .val (.int v58), .val (.int v59), .val (.ref b60), .unset] [(.int (goodF v56))])) t → Steps p.tables e below (s₁.setTop (entryFrame m #[(.int p0), (.int p1), (.int p2), (.int p3), (.int p4)] maxLocals)) t := fun t kk => pre67 t (by
      show Steps p.tables e below (T66.setTop (mkF m 102 #[.val (.int p0), .val (.int p1), .val (.int p2), .val (.int p3), .val (.int p4), .val (.int (3 : Int32)), .val (.int v56), .val (.int v57), .val (.int v58), .val (.int v59), .val (.ref b60), .unset] [(.int v56)])) _
      refine st68 _ ?_
      exact kk)
    by_cases hc71 : (goodF v56) = (0 : Int32)
    · obtain ⟨_, _, ⟨T72, L72, k72, n72⟩, -, X72, ⟨Lc72, hQ72, l72, y72, z72⟩, st72⟩ := Jvm.LawKit.callS X68 hx (y := (⟨"com/example/onesnap/onesnap/node/SqlLexer", "splitsAlikeUnderAnySettings", "([B)Z"⟩ : MethodName)) hown (mvT hZ (hw _ (List.mem_of_getElem? (i := 2) rfl))) (mvT hZ (hw _ (List.mem_of_getElem? (i := 3) rfl))) (mvT hZ (hw _ (List.mem_of_getElem? (i := 4) rfl))) (mvT hZ (hw _ (List.mem_of_getElem? (i := 5) rfl))) (by decide) (backOf (W := 0) (rm1_3 l Z a0 hw [] b60 k60 (nar .byte (v56.toInt8.toInt32)) (nar .byte (v57.toInt8.toInt32)) (nar .byte (v58.toInt8.toInt32)) h66 n0 Zz69 V66) hZ (hw _ (List.mem_of_getElem? (i := 5) rfl)) (hw _ (List.mem_of_getElem? (i := 4) rfl)) (by decide) (by decide)) (g := (mkF m 159 #[.val (.int p0), .val (.int p1), .val (.int p2), .val (.int p3), .val (.int p4), .val (.int (3 : Int32)), .val (.int v56), .val (.int v57), .val (.int v58), .val (.int v59), .val (.ref b60), .val (.int (0 : Int32))] [(.ref b60)])) rfl (by rw [hml]; rfl) (argsL := [(.ref b60)]) (rest := []) (lenOf pd__28_5bB_29Z rfl) rfl (by show 2 * 0 + _ ≤ _; exact Nat.le_of_eq rfl) (hb hby at_159) (fun _ _ => ⟨rfl, e68, (by decide : 1 + 0 ≤ _), (by decide : 3 + 0 ≤ _)⟩)
      dsimp only [Pt.U, Pt.locs, Pt.cells, Pt.slots] at X72 l72 y72 z72 st72 hQ72
      subst l72 y72 z72
      obtain ⟨rfl, N72q, e72⟩ := hQ72
      have N72 := Fr.app N68 N72q
      have pre73 : ∀ t, Steps p.tables e below (T72.setTop (mkF m 164 #[.val (.int p0), .val (.int p1), .val (.int p2), .val (.int p3), .val (.int p4), .val (.int (3 : Int32)), .val (.int v56), .val (.int v57), .val (.int v58), .val (.int v59), .val (.ref b60), .val (.int (0 : Int32))] [(.int (0 : Int32)), (.int (spl3 (nar .byte (v56.toInt8.toInt32)) (nar .byte (v57.toInt8.toInt32)) (nar .byte (v58.toInt8.toInt32))))])) t → Steps p.tables e below (s₁.setTop (entryFrame m #[(.int p0), (.int p1), (.int p2), (.int p3), (.int p4)] maxLocals)) t := fun t kk => pre70 t (by
        show Steps p.tables e below (T68.setTop (mkF m 105 #[.val (.int p0), .val (.int p1), .val (.int p2), .val (.int p3), .val (.int p4), .val (.int (3 : Int32)), .val (.int v56), .val (.int v57), .val (.int v58), .val (.int v59), .val (.ref b60), .unset] [(.int (goodF v56))])) _
        refine XS.ifYes X68.here hx rfl (pc0 := 105) (pc' := 154) rfl (hb hby at_105) rfl ((if0 _ _).trans (teq hc71).1) (by decide) (by decide) ?_
        show Steps p.tables e below (T68.setTop (mkF m 154 #[.val (.int p0), .val (.int p1), .val (.int p2), .val (.int p3), .val (.int p4), .val (.int (3 : Int32)), .val (.int v56), .val (.int v57), .val (.int v58), .val (.int v59), .val (.ref b60), .unset] [])) _
        refine XS.iconst X68.here hx rfl (hb hby at_154) ?_
        show Steps p.tables e below (T68.setTop (mkF m 155 #[.val (.int p0), .val (.int p1), .val (.int p2), .val (.int p3), .val (.int p4), .val (.int (3 : Int32)), .val (.int v56), .val (.int v57), .val (.int v58), .val (.int v59), .val (.ref b60), .unset] [(.int (0 : Int32))])) _
        refine XS.istore X68.here hx rfl (hb hby at_155) rfl (l' := #[.val (.int p0), .val (.int p1), .val (.int p2), .val (.int p3), .val (.int p4), .val (.int (3 : Int32)), .val (.int v56), .val (.int v57), .val (.int v58), .val (.int v59), .val (.ref b60), .val (.int (0 : Int32))]) rfl ?_
        show Steps p.tables e below (T68.setTop (mkF m 157 #[.val (.int p0), .val (.int p1), .val (.int p2), .val (.int p3), .val (.int p4), .val (.int (3 : Int32)), .val (.int v56), .val (.int v57), .val (.int v58), .val (.int v59), .val (.ref b60), .val (.int (0 : Int32))] [])) _
        refine XS.aload X68.here hx rfl (hb hby at_157) rfl rfl ?_
        show Steps p.tables e below (T68.setTop (mkF m 159 #[.val (.int p0), .val (.int p1), .val (.int p2), .val (.int p3), .val (.int p4), .val (.int (3 : Int32)), .val (.int v56), .val (.int v57), .val (.int v58), .val (.int v59), .val (.ref b60), .val (.int (0 : Int32))] [(.ref b60)])) _
        refine st72 _ ?_
        show Steps p.tables e below (T72.setTop (mkF m 162 #[.val (.int p0), .val (.int p1), .val (.int p2), .val (.int p3), .val (.int p4), .val (.int (3 : Int32)), .val (.int v56), .val (.int v57), .val (.int v58), .val (.int v59), .val (.ref b60), .val (.int (0 : Int32))] [(.int (spl3 (nar .byte (v56.toInt8.toInt32)) (nar .byte (v57.toInt8.toInt32)) (nar .byte (v58.toInt8.toInt32))))])) _
        refine XS.iload X72.here hx rfl (hb hby at_162) rfl ?_
        exact kk)
      by_cases hc74 : (spl3 (nar .byte (v56.toInt8.toInt32)) (nar .byte (v57.toInt8.toInt32)) (nar .byte (v58.toInt8.toInt32))) = (0 : Int32)
      · obtain ⟨fs, hr, hrun, hended, hW, hsame⟩ := X72.leave (v := some (.int (1 : Int32))) (fun h => by rw [Bd.returns] at h; cases h)
        refine ⟨_, _, pre73 _ ?_, hrun, hended, _, _, rfl, ?_, ⟨_, rfl⟩, hW, hsame.mono (by decide) (by decide)⟩
        · show Steps p.tables e below (T72.setTop (mkF m 164 #[.val (.int p0), .val (.int p1), .val (.int p2), .val (.int p3), .val (.int p4), .val (.int (3 : Int32)), .val (.int v56), .val (.int v57), .val (.int v58), .val (.int v59), .val (.ref b60), .val (.int (0 : Int32))] [(.int (0 : Int32)), (.int (spl3 (nar .byte (v56.toInt8.toInt32)) (nar .byte (v57.toInt8.toInt32)) (nar .byte (v58.toInt8.toInt32))))])) _
          refine XS.icmpNo X72.here hx rfl (hb hby at_164) rfl (teq hc74).2 ?_
          show Steps p.tables e below (T72.setTop (mkF m 167 #[.val (.int p0), .val (.int p1), .val (.int p2), .val (.int p3), .val (.int p4), .val (.int (3 : Int32)), .val (.int v56), .val (.int v57), .val (.int v58), .val (.int v59), .val (.ref b60), .val (.int (0 : Int32))] [])) _
          refine XS.iconst X72.here hx rfl (hb hby at_167) ?_
          show Steps p.tables e below (T72.setTop (mkF m 168 #[.val (.int p0), .val (.int p1), .val (.int p2), .val (.int p3), .val (.int p4), .val (.int (3 : Int32)), .val (.int v56), .val (.int v57), .val (.int v58), .val (.int v59), .val (.ref b60), .val (.int (0 : Int32))] [(.int (1 : Int32))])) _
          refine XS.goto X72.here hx rfl (pc0 := 168) (pc' := 172) rfl (hb hby at_168) (by decide) (by decide) ?_
          show Steps p.tables e below (T72.setTop (mkF m 172 #[.val (.int p0), .val (.int p1), .val (.int p2), .val (.int p3), .val (.int p4), .val (.int (3 : Int32)), .val (.int v56), .val (.int v57), .val (.int v58), .val (.int v59), .val (.ref b60), .val (.int (0 : Int32))] [(.int (1 : Int32))])) _
          exact retN X72 hx (t := .boolean) Bd.returns (by simp) (hb hby at_172) hr
        · show Q0 h0 n0 _ T72.heap _
          rw [e72]
          exact ⟨rfl, N72⟩
      · obtain ⟨fs, hr, hrun, hended, hW, hsame⟩ := X72.leave (v := some (.int (0 : Int32))) (fun h => by rw [Bd.returns] at h; cases h)
        refine ⟨_, _, pre73 _ ?_, hrun, hended, _, _, rfl, ?_, ⟨_, rfl⟩, hW, hsame.mono (by decide) (by decide)⟩
        · show Steps p.tables e below (T72.setTop (mkF m 164 #[.val (.int p0), .val (.int p1), .val (.int p2), .val (.int p3), .val (.int p4), .val (.int (3 : Int32)), .val (.int v56), .val (.int v57), .val (.int v58), .val (.int v59), .val (.ref b60), .val (.int (0 : Int32))] [(.int (0 : Int32)), (.int (spl3 (nar .byte (v56.toInt8.toInt32)) (nar .byte (v57.toInt8.toInt32)) (nar .byte (v58.toInt8.toInt32))))])) _
          refine XS.icmpYes X72.here hx rfl (pc0 := 164) (pc' := 171) rfl (hb hby at_164) rfl (feq hc74).2 (by decide) (by decide) ?_
          show Steps p.tables e below (T72.setTop (mkF m 171 #[.val (.int p0), .val (.int p1), .val (.int p2), .val (.int p3), .val (.int p4), .val (.int (3 : Int32)), .val (.int v56), .val (.int v57), .val (.int v58), .val (.int v59), .val (.ref b60), .val (.int (0 : Int32))] [])) _
          refine XS.iconst X72.here hx rfl (hb hby at_171) ?_
          show Steps p.tables e below (T72.setTop (mkF m 172 #[.val (.int p0), .val (.int p1), .val (.int p2), .val (.int p3), .val (.int p4), .val (.int (3 : Int32)), .val (.int v56), .val (.int v57), .val (.int v58), .val (.int v59), .val (.ref b60), .val (.int (0 : Int32))] [(.int (0 : Int32))])) _
          exact retN X72 hx (t := .boolean) Bd.returns (by simp) (hb hby at_172) hr
        · show Q0 h0 n0 _ T72.heap _
          rw [e72]
          exfalso
          have o0 := own_b p1; rw [← ev56] at o0
          have o1 := own_b p2; rw [← ev57] at o1
          have o2 := own_b p3; rw [← ev58] at o2
          simp only [spl3] at hc74
          grind
    · obtain ⟨_, _, ⟨T75, L75, k75, n75⟩, -, X75, ⟨Lc75, hQ75, l75, y75, z75⟩, st75⟩ := Jvm.LawKit.callS X68 hx (y := (⟨"com/example/onesnap/onesnap/node/SqlLexerSplitsAlikeUnderAnySettingsPinLaw", "good", "(I)Z"⟩ : MethodName)) hown (mvT hZ (hw _ (List.mem_of_getElem? (i := 6) rfl))) (mvT hZ (hw _ (List.mem_of_getElem? (i := 7) rfl))) (mvT hZ (hw _ (List.mem_of_getElem? (i := 8) rfl))) (mvT hZ (hw _ (List.mem_of_getElem? (i := 9) rfl))) (by decide) (backOf (W := 0) (rm2 l Z a0 hw [] v57 h66 n0 Zz69) hZ (hw _ (List.mem_of_getElem? (i := 9) rfl)) (hw _ (List.mem_of_getElem? (i := 8) rfl)) (by decide) (by decide)) (g := (mkF m 116 #[.val (.int p0), .val (.int p1), .val (.int p2), .val (.int p3), .val (.int p4), .val (.int (3 : Int32)), .val (.int v56), .val (.int v57), .val (.int v58), .val (.int v59), .val (.ref b60), .unset] [(.int v57)])) rfl (by rw [hml]; rfl) (argsL := [(.int v57)]) (rest := []) (lenOf pd__28I_29Z rfl) rfl (by show 2 * 0 + _ ≤ _; exact Nat.le_of_eq rfl) (hb hby at_116) (fun _ _ => ⟨rfl, e68, (by decide : 1 + 0 ≤ _), (by decide : 3 + 0 ≤ _)⟩)
      dsimp only [Pt.U, Pt.locs, Pt.cells, Pt.slots] at X75 l75 y75 z75 st75 hQ75
      subst l75 y75 z75
      obtain ⟨rfl, N75q, e75⟩ := hQ75
      have N75 := Fr.app N68 N75q
      have pre76 : ∀ t, Steps p.tables e below (T75.setTop (mkF m 119 #[.val (.int p0), .val (.int p1), .val (.int p2), .val (.int p3), .val (.int p4), .val (.int (3 : Int32)), .val (.int v56), .val (.int v57), .val (.int v58), .val (.int v59), .val (.ref b60), .unset] [(.int (goodF v57))])) t → Steps p.tables e below (s₁.setTop (entryFrame m #[(.int p0), (.int p1), (.int p2), (.int p3), (.int p4)] maxLocals)) t := fun t kk => pre70 t (by
        show Steps p.tables e below (T68.setTop (mkF m 105 #[.val (.int p0), .val (.int p1), .val (.int p2), .val (.int p3), .val (.int p4), .val (.int (3 : Int32)), .val (.int v56), .val (.int v57), .val (.int v58), .val (.int v59), .val (.ref b60), .unset] [(.int (goodF v56))])) _
        refine XS.ifNo X68.here hx rfl (hb hby at_105) rfl ((if0 _ _).trans (feq hc71).1) ?_
        show Steps p.tables e below (T68.setTop (mkF m 108 #[.val (.int p0), .val (.int p1), .val (.int p2), .val (.int p3), .val (.int p4), .val (.int (3 : Int32)), .val (.int v56), .val (.int v57), .val (.int v58), .val (.int v59), .val (.ref b60), .unset] [])) _
        refine XS.iload X68.here hx rfl (hb hby at_108) rfl ?_
        show Steps p.tables e below (T68.setTop (mkF m 110 #[.val (.int p0), .val (.int p1), .val (.int p2), .val (.int p3), .val (.int p4), .val (.int (3 : Int32)), .val (.int v56), .val (.int v57), .val (.int v58), .val (.int v59), .val (.ref b60), .unset] [(.int (3 : Int32))])) _
        refine XS.iconst X68.here hx rfl (hb hby at_110) ?_
        show Steps p.tables e below (T68.setTop (mkF m 111 #[.val (.int p0), .val (.int p1), .val (.int p2), .val (.int p3), .val (.int p4), .val (.int (3 : Int32)), .val (.int v56), .val (.int v57), .val (.int v58), .val (.int v59), .val (.ref b60), .unset] [(.int (2 : Int32)), (.int (3 : Int32))])) _
        refine XS.icmpNo X68.here hx rfl (hb hby at_111) rfl (flt (by decide)).1 ?_
        show Steps p.tables e below (T68.setTop (mkF m 114 #[.val (.int p0), .val (.int p1), .val (.int p2), .val (.int p3), .val (.int p4), .val (.int (3 : Int32)), .val (.int v56), .val (.int v57), .val (.int v58), .val (.int v59), .val (.ref b60), .unset] [])) _
        refine XS.iload X68.here hx rfl (hb hby at_114) rfl ?_
        show Steps p.tables e below (T68.setTop (mkF m 116 #[.val (.int p0), .val (.int p1), .val (.int p2), .val (.int p3), .val (.int p4), .val (.int (3 : Int32)), .val (.int v56), .val (.int v57), .val (.int v58), .val (.int v59), .val (.ref b60), .unset] [(.int v57)])) _
        refine st75 _ ?_
        exact kk)
      by_cases hc77 : (goodF v57) = (0 : Int32)
      · obtain ⟨_, _, ⟨T78, L78, k78, n78⟩, -, X78, ⟨Lc78, hQ78, l78, y78, z78⟩, st78⟩ := Jvm.LawKit.callS X75 hx (y := (⟨"com/example/onesnap/onesnap/node/SqlLexer", "splitsAlikeUnderAnySettings", "([B)Z"⟩ : MethodName)) hown (mvT hZ (hw _ (List.mem_of_getElem? (i := 2) rfl))) (mvT hZ (hw _ (List.mem_of_getElem? (i := 3) rfl))) (mvT hZ (hw _ (List.mem_of_getElem? (i := 4) rfl))) (mvT hZ (hw _ (List.mem_of_getElem? (i := 5) rfl))) (by decide) (backOf (W := 0) (rm1_3 l Z a0 hw [] b60 k60 (nar .byte (v56.toInt8.toInt32)) (nar .byte (v57.toInt8.toInt32)) (nar .byte (v58.toInt8.toInt32)) h66 n0 Zz69 V66) hZ (hw _ (List.mem_of_getElem? (i := 5) rfl)) (hw _ (List.mem_of_getElem? (i := 4) rfl)) (by decide) (by decide)) (g := (mkF m 159 #[.val (.int p0), .val (.int p1), .val (.int p2), .val (.int p3), .val (.int p4), .val (.int (3 : Int32)), .val (.int v56), .val (.int v57), .val (.int v58), .val (.int v59), .val (.ref b60), .val (.int (0 : Int32))] [(.ref b60)])) rfl (by rw [hml]; rfl) (argsL := [(.ref b60)]) (rest := []) (lenOf pd__28_5bB_29Z rfl) rfl (by show 2 * 0 + _ ≤ _; exact Nat.le_of_eq rfl) (hb hby at_159) (fun _ _ => ⟨rfl, e75, (by decide : 1 + 0 ≤ _), (by decide : 3 + 0 ≤ _)⟩)
        dsimp only [Pt.U, Pt.locs, Pt.cells, Pt.slots] at X78 l78 y78 z78 st78 hQ78
        subst l78 y78 z78
        obtain ⟨rfl, N78q, e78⟩ := hQ78
        have N78 := Fr.app N75 N78q
        have pre79 : ∀ t, Steps p.tables e below (T78.setTop (mkF m 164 #[.val (.int p0), .val (.int p1), .val (.int p2), .val (.int p3), .val (.int p4), .val (.int (3 : Int32)), .val (.int v56), .val (.int v57), .val (.int v58), .val (.int v59), .val (.ref b60), .val (.int (0 : Int32))] [(.int (0 : Int32)), (.int (spl3 (nar .byte (v56.toInt8.toInt32)) (nar .byte (v57.toInt8.toInt32)) (nar .byte (v58.toInt8.toInt32))))])) t → Steps p.tables e below (s₁.setTop (entryFrame m #[(.int p0), (.int p1), (.int p2), (.int p3), (.int p4)] maxLocals)) t := fun t kk => pre76 t (by
          show Steps p.tables e below (T75.setTop (mkF m 119 #[.val (.int p0), .val (.int p1), .val (.int p2), .val (.int p3), .val (.int p4), .val (.int (3 : Int32)), .val (.int v56), .val (.int v57), .val (.int v58), .val (.int v59), .val (.ref b60), .unset] [(.int (goodF v57))])) _
          refine XS.ifYes X75.here hx rfl (pc0 := 119) (pc' := 154) rfl (hb hby at_119) rfl ((if0 _ _).trans (teq hc77).1) (by decide) (by decide) ?_
          show Steps p.tables e below (T75.setTop (mkF m 154 #[.val (.int p0), .val (.int p1), .val (.int p2), .val (.int p3), .val (.int p4), .val (.int (3 : Int32)), .val (.int v56), .val (.int v57), .val (.int v58), .val (.int v59), .val (.ref b60), .unset] [])) _
          refine XS.iconst X75.here hx rfl (hb hby at_154) ?_
          show Steps p.tables e below (T75.setTop (mkF m 155 #[.val (.int p0), .val (.int p1), .val (.int p2), .val (.int p3), .val (.int p4), .val (.int (3 : Int32)), .val (.int v56), .val (.int v57), .val (.int v58), .val (.int v59), .val (.ref b60), .unset] [(.int (0 : Int32))])) _
          refine XS.istore X75.here hx rfl (hb hby at_155) rfl (l' := #[.val (.int p0), .val (.int p1), .val (.int p2), .val (.int p3), .val (.int p4), .val (.int (3 : Int32)), .val (.int v56), .val (.int v57), .val (.int v58), .val (.int v59), .val (.ref b60), .val (.int (0 : Int32))]) rfl ?_
          show Steps p.tables e below (T75.setTop (mkF m 157 #[.val (.int p0), .val (.int p1), .val (.int p2), .val (.int p3), .val (.int p4), .val (.int (3 : Int32)), .val (.int v56), .val (.int v57), .val (.int v58), .val (.int v59), .val (.ref b60), .val (.int (0 : Int32))] [])) _
          refine XS.aload X75.here hx rfl (hb hby at_157) rfl rfl ?_
          show Steps p.tables e below (T75.setTop (mkF m 159 #[.val (.int p0), .val (.int p1), .val (.int p2), .val (.int p3), .val (.int p4), .val (.int (3 : Int32)), .val (.int v56), .val (.int v57), .val (.int v58), .val (.int v59), .val (.ref b60), .val (.int (0 : Int32))] [(.ref b60)])) _
          refine st78 _ ?_
          show Steps p.tables e below (T78.setTop (mkF m 162 #[.val (.int p0), .val (.int p1), .val (.int p2), .val (.int p3), .val (.int p4), .val (.int (3 : Int32)), .val (.int v56), .val (.int v57), .val (.int v58), .val (.int v59), .val (.ref b60), .val (.int (0 : Int32))] [(.int (spl3 (nar .byte (v56.toInt8.toInt32)) (nar .byte (v57.toInt8.toInt32)) (nar .byte (v58.toInt8.toInt32))))])) _
          refine XS.iload X78.here hx rfl (hb hby at_162) rfl ?_
          exact kk)
        by_cases hc80 : (spl3 (nar .byte (v56.toInt8.toInt32)) (nar .byte (v57.toInt8.toInt32)) (nar .byte (v58.toInt8.toInt32))) = (0 : Int32)
        · obtain ⟨fs, hr, hrun, hended, hW, hsame⟩ := X78.leave (v := some (.int (1 : Int32))) (fun h => by rw [Bd.returns] at h; cases h)
          refine ⟨_, _, pre79 _ ?_, hrun, hended, _, _, rfl, ?_, ⟨_, rfl⟩, hW, hsame.mono (by decide) (by decide)⟩
          · show Steps p.tables e below (T78.setTop (mkF m 164 #[.val (.int p0), .val (.int p1), .val (.int p2), .val (.int p3), .val (.int p4), .val (.int (3 : Int32)), .val (.int v56), .val (.int v57), .val (.int v58), .val (.int v59), .val (.ref b60), .val (.int (0 : Int32))] [(.int (0 : Int32)), (.int (spl3 (nar .byte (v56.toInt8.toInt32)) (nar .byte (v57.toInt8.toInt32)) (nar .byte (v58.toInt8.toInt32))))])) _
            refine XS.icmpNo X78.here hx rfl (hb hby at_164) rfl (teq hc80).2 ?_
            show Steps p.tables e below (T78.setTop (mkF m 167 #[.val (.int p0), .val (.int p1), .val (.int p2), .val (.int p3), .val (.int p4), .val (.int (3 : Int32)), .val (.int v56), .val (.int v57), .val (.int v58), .val (.int v59), .val (.ref b60), .val (.int (0 : Int32))] [])) _
            refine XS.iconst X78.here hx rfl (hb hby at_167) ?_
            show Steps p.tables e below (T78.setTop (mkF m 168 #[.val (.int p0), .val (.int p1), .val (.int p2), .val (.int p3), .val (.int p4), .val (.int (3 : Int32)), .val (.int v56), .val (.int v57), .val (.int v58), .val (.int v59), .val (.ref b60), .val (.int (0 : Int32))] [(.int (1 : Int32))])) _
            refine XS.goto X78.here hx rfl (pc0 := 168) (pc' := 172) rfl (hb hby at_168) (by decide) (by decide) ?_
            show Steps p.tables e below (T78.setTop (mkF m 172 #[.val (.int p0), .val (.int p1), .val (.int p2), .val (.int p3), .val (.int p4), .val (.int (3 : Int32)), .val (.int v56), .val (.int v57), .val (.int v58), .val (.int v59), .val (.ref b60), .val (.int (0 : Int32))] [(.int (1 : Int32))])) _
            exact retN X78 hx (t := .boolean) Bd.returns (by simp) (hb hby at_172) hr
          · show Q0 h0 n0 _ T78.heap _
            rw [e78]
            exact ⟨rfl, N78⟩
        · obtain ⟨fs, hr, hrun, hended, hW, hsame⟩ := X78.leave (v := some (.int (0 : Int32))) (fun h => by rw [Bd.returns] at h; cases h)
          refine ⟨_, _, pre79 _ ?_, hrun, hended, _, _, rfl, ?_, ⟨_, rfl⟩, hW, hsame.mono (by decide) (by decide)⟩
          · show Steps p.tables e below (T78.setTop (mkF m 164 #[.val (.int p0), .val (.int p1), .val (.int p2), .val (.int p3), .val (.int p4), .val (.int (3 : Int32)), .val (.int v56), .val (.int v57), .val (.int v58), .val (.int v59), .val (.ref b60), .val (.int (0 : Int32))] [(.int (0 : Int32)), (.int (spl3 (nar .byte (v56.toInt8.toInt32)) (nar .byte (v57.toInt8.toInt32)) (nar .byte (v58.toInt8.toInt32))))])) _
            refine XS.icmpYes X78.here hx rfl (pc0 := 164) (pc' := 171) rfl (hb hby at_164) rfl (feq hc80).2 (by decide) (by decide) ?_
            show Steps p.tables e below (T78.setTop (mkF m 171 #[.val (.int p0), .val (.int p1), .val (.int p2), .val (.int p3), .val (.int p4), .val (.int (3 : Int32)), .val (.int v56), .val (.int v57), .val (.int v58), .val (.int v59), .val (.ref b60), .val (.int (0 : Int32))] [])) _
            refine XS.iconst X78.here hx rfl (hb hby at_171) ?_
            show Steps p.tables e below (T78.setTop (mkF m 172 #[.val (.int p0), .val (.int p1), .val (.int p2), .val (.int p3), .val (.int p4), .val (.int (3 : Int32)), .val (.int v56), .val (.int v57), .val (.int v58), .val (.int v59), .val (.ref b60), .val (.int (0 : Int32))] [(.int (0 : Int32))])) _
            exact retN X78 hx (t := .boolean) Bd.returns (by simp) (hb hby at_172) hr
          · show Q0 h0 n0 _ T78.heap _
            rw [e78]
            exfalso
            have o0 := own_b p1; rw [← ev56] at o0
            have o1 := own_b p2; rw [← ev57] at o1
            have o2 := own_b p3; rw [← ev58] at o2
            simp only [spl3] at hc80
            grind
      · obtain ⟨_, _, ⟨T81, L81, k81, n81⟩, -, X81, ⟨Lc81, hQ81, l81, y81, z81⟩, st81⟩ := Jvm.LawKit.callS X75 hx (y := (⟨"com/example/onesnap/onesnap/node/SqlLexerSplitsAlikeUnderAnySettingsPinLaw", "good", "(I)Z"⟩ : MethodName)) hown (mvT hZ (hw _ (List.mem_of_getElem? (i := 6) rfl))) (mvT hZ (hw _ (List.mem_of_getElem? (i := 7) rfl))) (mvT hZ (hw _ (List.mem_of_getElem? (i := 8) rfl))) (mvT hZ (hw _ (List.mem_of_getElem? (i := 9) rfl))) (by decide) (backOf (W := 0) (rm2 l Z a0 hw [] v58 h66 n0 Zz69) hZ (hw _ (List.mem_of_getElem? (i := 9) rfl)) (hw _ (List.mem_of_getElem? (i := 8) rfl)) (by decide) (by decide)) (g := (mkF m 130 #[.val (.int p0), .val (.int p1), .val (.int p2), .val (.int p3), .val (.int p4), .val (.int (3 : Int32)), .val (.int v56), .val (.int v57), .val (.int v58), .val (.int v59), .val (.ref b60), .unset] [(.int v58)])) rfl (by rw [hml]; rfl) (argsL := [(.int v58)]) (rest := []) (lenOf pd__28I_29Z rfl) rfl (by show 2 * 0 + _ ≤ _; exact Nat.le_of_eq rfl) (hb hby at_130) (fun _ _ => ⟨rfl, e75, (by decide : 1 + 0 ≤ _), (by decide : 3 + 0 ≤ _)⟩)
        dsimp only [Pt.U, Pt.locs, Pt.cells, Pt.slots] at X81 l81 y81 z81 st81 hQ81
        subst l81 y81 z81
        obtain ⟨rfl, N81q, e81⟩ := hQ81
        have N81 := Fr.app N75 N81q
        have pre82 : ∀ t, Steps p.tables e below (T81.setTop (mkF m 133 #[.val (.int p0), .val (.int p1), .val (.int p2), .val (.int p3), .val (.int p4), .val (.int (3 : Int32)), .val (.int v56), .val (.int v57), .val (.int v58), .val (.int v59), .val (.ref b60), .unset] [(.int (goodF v58))])) t → Steps p.tables e below (s₁.setTop (entryFrame m #[(.int p0), (.int p1), (.int p2), (.int p3), (.int p4)] maxLocals)) t := fun t kk => pre76 t (by
          show Steps p.tables e below (T75.setTop (mkF m 119 #[.val (.int p0), .val (.int p1), .val (.int p2), .val (.int p3), .val (.int p4), .val (.int (3 : Int32)), .val (.int v56), .val (.int v57), .val (.int v58), .val (.int v59), .val (.ref b60), .unset] [(.int (goodF v57))])) _
          refine XS.ifNo X75.here hx rfl (hb hby at_119) rfl ((if0 _ _).trans (feq hc77).1) ?_
          show Steps p.tables e below (T75.setTop (mkF m 122 #[.val (.int p0), .val (.int p1), .val (.int p2), .val (.int p3), .val (.int p4), .val (.int (3 : Int32)), .val (.int v56), .val (.int v57), .val (.int v58), .val (.int v59), .val (.ref b60), .unset] [])) _
          refine XS.iload X75.here hx rfl (hb hby at_122) rfl ?_
          show Steps p.tables e below (T75.setTop (mkF m 124 #[.val (.int p0), .val (.int p1), .val (.int p2), .val (.int p3), .val (.int p4), .val (.int (3 : Int32)), .val (.int v56), .val (.int v57), .val (.int v58), .val (.int v59), .val (.ref b60), .unset] [(.int (3 : Int32))])) _
          refine XS.iconst X75.here hx rfl (hb hby at_124) ?_
          show Steps p.tables e below (T75.setTop (mkF m 125 #[.val (.int p0), .val (.int p1), .val (.int p2), .val (.int p3), .val (.int p4), .val (.int (3 : Int32)), .val (.int v56), .val (.int v57), .val (.int v58), .val (.int v59), .val (.ref b60), .unset] [(.int (3 : Int32)), (.int (3 : Int32))])) _
          refine XS.icmpNo X75.here hx rfl (hb hby at_125) rfl (flt (by decide)).1 ?_
          show Steps p.tables e below (T75.setTop (mkF m 128 #[.val (.int p0), .val (.int p1), .val (.int p2), .val (.int p3), .val (.int p4), .val (.int (3 : Int32)), .val (.int v56), .val (.int v57), .val (.int v58), .val (.int v59), .val (.ref b60), .unset] [])) _
          refine XS.iload X75.here hx rfl (hb hby at_128) rfl ?_
          show Steps p.tables e below (T75.setTop (mkF m 130 #[.val (.int p0), .val (.int p1), .val (.int p2), .val (.int p3), .val (.int p4), .val (.int (3 : Int32)), .val (.int v56), .val (.int v57), .val (.int v58), .val (.int v59), .val (.ref b60), .unset] [(.int v58)])) _
          refine st81 _ ?_
          exact kk)
        by_cases hc83 : (goodF v58) = (0 : Int32)
        · obtain ⟨_, _, ⟨T84, L84, k84, n84⟩, -, X84, ⟨Lc84, hQ84, l84, y84, z84⟩, st84⟩ := Jvm.LawKit.callS X81 hx (y := (⟨"com/example/onesnap/onesnap/node/SqlLexer", "splitsAlikeUnderAnySettings", "([B)Z"⟩ : MethodName)) hown (mvT hZ (hw _ (List.mem_of_getElem? (i := 2) rfl))) (mvT hZ (hw _ (List.mem_of_getElem? (i := 3) rfl))) (mvT hZ (hw _ (List.mem_of_getElem? (i := 4) rfl))) (mvT hZ (hw _ (List.mem_of_getElem? (i := 5) rfl))) (by decide) (backOf (W := 0) (rm1_3 l Z a0 hw [] b60 k60 (nar .byte (v56.toInt8.toInt32)) (nar .byte (v57.toInt8.toInt32)) (nar .byte (v58.toInt8.toInt32)) h66 n0 Zz69 V66) hZ (hw _ (List.mem_of_getElem? (i := 5) rfl)) (hw _ (List.mem_of_getElem? (i := 4) rfl)) (by decide) (by decide)) (g := (mkF m 159 #[.val (.int p0), .val (.int p1), .val (.int p2), .val (.int p3), .val (.int p4), .val (.int (3 : Int32)), .val (.int v56), .val (.int v57), .val (.int v58), .val (.int v59), .val (.ref b60), .val (.int (0 : Int32))] [(.ref b60)])) rfl (by rw [hml]; rfl) (argsL := [(.ref b60)]) (rest := []) (lenOf pd__28_5bB_29Z rfl) rfl (by show 2 * 0 + _ ≤ _; exact Nat.le_of_eq rfl) (hb hby at_159) (fun _ _ => ⟨rfl, e81, (by decide : 1 + 0 ≤ _), (by decide : 3 + 0 ≤ _)⟩)
          dsimp only [Pt.U, Pt.locs, Pt.cells, Pt.slots] at X84 l84 y84 z84 st84 hQ84
          subst l84 y84 z84
          obtain ⟨rfl, N84q, e84⟩ := hQ84
          have N84 := Fr.app N81 N84q
          have pre85 : ∀ t, Steps p.tables e below (T84.setTop (mkF m 164 #[.val (.int p0), .val (.int p1), .val (.int p2), .val (.int p3), .val (.int p4), .val (.int (3 : Int32)), .val (.int v56), .val (.int v57), .val (.int v58), .val (.int v59), .val (.ref b60), .val (.int (0 : Int32))] [(.int (0 : Int32)), (.int (spl3 (nar .byte (v56.toInt8.toInt32)) (nar .byte (v57.toInt8.toInt32)) (nar .byte (v58.toInt8.toInt32))))])) t → Steps p.tables e below (s₁.setTop (entryFrame m #[(.int p0), (.int p1), (.int p2), (.int p3), (.int p4)] maxLocals)) t := fun t kk => pre82 t (by
            show Steps p.tables e below (T81.setTop (mkF m 133 #[.val (.int p0), .val (.int p1), .val (.int p2), .val (.int p3), .val (.int p4), .val (.int (3 : Int32)), .val (.int v56), .val (.int v57), .val (.int v58), .val (.int v59), .val (.ref b60), .unset] [(.int (goodF v58))])) _
            refine XS.ifYes X81.here hx rfl (pc0 := 133) (pc' := 154) rfl (hb hby at_133) rfl ((if0 _ _).trans (teq hc83).1) (by decide) (by decide) ?_
            show Steps p.tables e below (T81.setTop (mkF m 154 #[.val (.int p0), .val (.int p1), .val (.int p2), .val (.int p3), .val (.int p4), .val (.int (3 : Int32)), .val (.int v56), .val (.int v57), .val (.int v58), .val (.int v59), .val (.ref b60), .unset] [])) _
            refine XS.iconst X81.here hx rfl (hb hby at_154) ?_
            show Steps p.tables e below (T81.setTop (mkF m 155 #[.val (.int p0), .val (.int p1), .val (.int p2), .val (.int p3), .val (.int p4), .val (.int (3 : Int32)), .val (.int v56), .val (.int v57), .val (.int v58), .val (.int v59), .val (.ref b60), .unset] [(.int (0 : Int32))])) _
            refine XS.istore X81.here hx rfl (hb hby at_155) rfl (l' := #[.val (.int p0), .val (.int p1), .val (.int p2), .val (.int p3), .val (.int p4), .val (.int (3 : Int32)), .val (.int v56), .val (.int v57), .val (.int v58), .val (.int v59), .val (.ref b60), .val (.int (0 : Int32))]) rfl ?_
            show Steps p.tables e below (T81.setTop (mkF m 157 #[.val (.int p0), .val (.int p1), .val (.int p2), .val (.int p3), .val (.int p4), .val (.int (3 : Int32)), .val (.int v56), .val (.int v57), .val (.int v58), .val (.int v59), .val (.ref b60), .val (.int (0 : Int32))] [])) _
            refine XS.aload X81.here hx rfl (hb hby at_157) rfl rfl ?_
            show Steps p.tables e below (T81.setTop (mkF m 159 #[.val (.int p0), .val (.int p1), .val (.int p2), .val (.int p3), .val (.int p4), .val (.int (3 : Int32)), .val (.int v56), .val (.int v57), .val (.int v58), .val (.int v59), .val (.ref b60), .val (.int (0 : Int32))] [(.ref b60)])) _
            refine st84 _ ?_
            show Steps p.tables e below (T84.setTop (mkF m 162 #[.val (.int p0), .val (.int p1), .val (.int p2), .val (.int p3), .val (.int p4), .val (.int (3 : Int32)), .val (.int v56), .val (.int v57), .val (.int v58), .val (.int v59), .val (.ref b60), .val (.int (0 : Int32))] [(.int (spl3 (nar .byte (v56.toInt8.toInt32)) (nar .byte (v57.toInt8.toInt32)) (nar .byte (v58.toInt8.toInt32))))])) _
            refine XS.iload X84.here hx rfl (hb hby at_162) rfl ?_
            exact kk)
          by_cases hc86 : (spl3 (nar .byte (v56.toInt8.toInt32)) (nar .byte (v57.toInt8.toInt32)) (nar .byte (v58.toInt8.toInt32))) = (0 : Int32)
          · obtain ⟨fs, hr, hrun, hended, hW, hsame⟩ := X84.leave (v := some (.int (1 : Int32))) (fun h => by rw [Bd.returns] at h; cases h)
            refine ⟨_, _, pre85 _ ?_, hrun, hended, _, _, rfl, ?_, ⟨_, rfl⟩, hW, hsame.mono (by decide) (by decide)⟩
            · show Steps p.tables e below (T84.setTop (mkF m 164 #[.val (.int p0), .val (.int p1), .val (.int p2), .val (.int p3), .val (.int p4), .val (.int (3 : Int32)), .val (.int v56), .val (.int v57), .val (.int v58), .val (.int v59), .val (.ref b60), .val (.int (0 : Int32))] [(.int (0 : Int32)), (.int (spl3 (nar .byte (v56.toInt8.toInt32)) (nar .byte (v57.toInt8.toInt32)) (nar .byte (v58.toInt8.toInt32))))])) _
              refine XS.icmpNo X84.here hx rfl (hb hby at_164) rfl (teq hc86).2 ?_
              show Steps p.tables e below (T84.setTop (mkF m 167 #[.val (.int p0), .val (.int p1), .val (.int p2), .val (.int p3), .val (.int p4), .val (.int (3 : Int32)), .val (.int v56), .val (.int v57), .val (.int v58), .val (.int v59), .val (.ref b60), .val (.int (0 : Int32))] [])) _
              refine XS.iconst X84.here hx rfl (hb hby at_167) ?_
              show Steps p.tables e below (T84.setTop (mkF m 168 #[.val (.int p0), .val (.int p1), .val (.int p2), .val (.int p3), .val (.int p4), .val (.int (3 : Int32)), .val (.int v56), .val (.int v57), .val (.int v58), .val (.int v59), .val (.ref b60), .val (.int (0 : Int32))] [(.int (1 : Int32))])) _
              refine XS.goto X84.here hx rfl (pc0 := 168) (pc' := 172) rfl (hb hby at_168) (by decide) (by decide) ?_
              show Steps p.tables e below (T84.setTop (mkF m 172 #[.val (.int p0), .val (.int p1), .val (.int p2), .val (.int p3), .val (.int p4), .val (.int (3 : Int32)), .val (.int v56), .val (.int v57), .val (.int v58), .val (.int v59), .val (.ref b60), .val (.int (0 : Int32))] [(.int (1 : Int32))])) _
              exact retN X84 hx (t := .boolean) Bd.returns (by simp) (hb hby at_172) hr
            · show Q0 h0 n0 _ T84.heap _
              rw [e84]
              exact ⟨rfl, N84⟩
          · obtain ⟨fs, hr, hrun, hended, hW, hsame⟩ := X84.leave (v := some (.int (0 : Int32))) (fun h => by rw [Bd.returns] at h; cases h)
            refine ⟨_, _, pre85 _ ?_, hrun, hended, _, _, rfl, ?_, ⟨_, rfl⟩, hW, hsame.mono (by decide) (by decide)⟩
            · show Steps p.tables e below (T84.setTop (mkF m 164 #[.val (.int p0), .val (.int p1), .val (.int p2), .val (.int p3), .val (.int p4), .val (.int (3 : Int32)), .val (.int v56), .val (.int v57), .val (.int v58), .val (.int v59), .val (.ref b60), .val (.int (0 : Int32))] [(.int (0 : Int32)), (.int (spl3 (nar .byte (v56.toInt8.toInt32)) (nar .byte (v57.toInt8.toInt32)) (nar .byte (v58.toInt8.toInt32))))])) _
              refine XS.icmpYes X84.here hx rfl (pc0 := 164) (pc' := 171) rfl (hb hby at_164) rfl (feq hc86).2 (by decide) (by decide) ?_
              show Steps p.tables e below (T84.setTop (mkF m 171 #[.val (.int p0), .val (.int p1), .val (.int p2), .val (.int p3), .val (.int p4), .val (.int (3 : Int32)), .val (.int v56), .val (.int v57), .val (.int v58), .val (.int v59), .val (.ref b60), .val (.int (0 : Int32))] [])) _
              refine XS.iconst X84.here hx rfl (hb hby at_171) ?_
              show Steps p.tables e below (T84.setTop (mkF m 172 #[.val (.int p0), .val (.int p1), .val (.int p2), .val (.int p3), .val (.int p4), .val (.int (3 : Int32)), .val (.int v56), .val (.int v57), .val (.int v58), .val (.int v59), .val (.ref b60), .val (.int (0 : Int32))] [(.int (0 : Int32))])) _
              exact retN X84 hx (t := .boolean) Bd.returns (by simp) (hb hby at_172) hr
            · show Q0 h0 n0 _ T84.heap _
              rw [e84]
              exfalso
              have o0 := own_b p1; rw [← ev56] at o0
              have o1 := own_b p2; rw [← ev57] at o1
              have o2 := own_b p3; rw [← ev58] at o2
              simp only [spl3] at hc86
              grind
        · obtain ⟨_, _, ⟨T87, L87, k87, n87⟩, -, X87, ⟨Lc87, hQ87, l87, y87, z87⟩, st87⟩ := Jvm.LawKit.callS X81 hx (y := (⟨"com/example/onesnap/onesnap/node/SqlLexer", "splitsAlikeUnderAnySettings", "([B)Z"⟩ : MethodName)) hown (mvT hZ (hw _ (List.mem_of_getElem? (i := 2) rfl))) (mvT hZ (hw _ (List.mem_of_getElem? (i := 3) rfl))) (mvT hZ (hw _ (List.mem_of_getElem? (i := 4) rfl))) (mvT hZ (hw _ (List.mem_of_getElem? (i := 5) rfl))) (by decide) (backOf (W := 0) (rm1_3 l Z a0 hw [] b60 k60 (nar .byte (v56.toInt8.toInt32)) (nar .byte (v57.toInt8.toInt32)) (nar .byte (v58.toInt8.toInt32)) h66 n0 Zz69 V66) hZ (hw _ (List.mem_of_getElem? (i := 5) rfl)) (hw _ (List.mem_of_getElem? (i := 4) rfl)) (by decide) (by decide)) (g := (mkF m 159 #[.val (.int p0), .val (.int p1), .val (.int p2), .val (.int p3), .val (.int p4), .val (.int (3 : Int32)), .val (.int v56), .val (.int v57), .val (.int v58), .val (.int v59), .val (.ref b60), .val (.int (1 : Int32))] [(.ref b60)])) rfl (by rw [hml]; rfl) (argsL := [(.ref b60)]) (rest := []) (lenOf pd__28_5bB_29Z rfl) rfl (by show 2 * 0 + _ ≤ _; exact Nat.le_of_eq rfl) (hb hby at_159) (fun _ _ => ⟨rfl, e81, (by decide : 1 + 0 ≤ _), (by decide : 3 + 0 ≤ _)⟩)
          dsimp only [Pt.U, Pt.locs, Pt.cells, Pt.slots] at X87 l87 y87 z87 st87 hQ87
          subst l87 y87 z87
          obtain ⟨rfl, N87q, e87⟩ := hQ87
          have N87 := Fr.app N81 N87q
          have pre88 : ∀ t, Steps p.tables e below (T87.setTop (mkF m 164 #[.val (.int p0), .val (.int p1), .val (.int p2), .val (.int p3), .val (.int p4), .val (.int (3 : Int32)), .val (.int v56), .val (.int v57), .val (.int v58), .val (.int v59), .val (.ref b60), .val (.int (1 : Int32))] [(.int (1 : Int32)), (.int (spl3 (nar .byte (v56.toInt8.toInt32)) (nar .byte (v57.toInt8.toInt32)) (nar .byte (v58.toInt8.toInt32))))])) t → Steps p.tables e below (s₁.setTop (entryFrame m #[(.int p0), (.int p1), (.int p2), (.int p3), (.int p4)] maxLocals)) t := fun t kk => pre82 t (by
            show Steps p.tables e below (T81.setTop (mkF m 133 #[.val (.int p0), .val (.int p1), .val (.int p2), .val (.int p3), .val (.int p4), .val (.int (3 : Int32)), .val (.int v56), .val (.int v57), .val (.int v58), .val (.int v59), .val (.ref b60), .unset] [(.int (goodF v58))])) _
            refine XS.ifNo X81.here hx rfl (hb hby at_133) rfl ((if0 _ _).trans (feq hc83).1) ?_
            show Steps p.tables e below (T81.setTop (mkF m 136 #[.val (.int p0), .val (.int p1), .val (.int p2), .val (.int p3), .val (.int p4), .val (.int (3 : Int32)), .val (.int v56), .val (.int v57), .val (.int v58), .val (.int v59), .val (.ref b60), .unset] [])) _
            refine XS.iload X81.here hx rfl (hb hby at_136) rfl ?_
            show Steps p.tables e below (T81.setTop (mkF m 138 #[.val (.int p0), .val (.int p1), .val (.int p2), .val (.int p3), .val (.int p4), .val (.int (3 : Int32)), .val (.int v56), .val (.int v57), .val (.int v58), .val (.int v59), .val (.ref b60), .unset] [(.int (3 : Int32))])) _
            refine XS.iconst X81.here hx rfl (hb hby at_138) ?_
            show Steps p.tables e below (T81.setTop (mkF m 139 #[.val (.int p0), .val (.int p1), .val (.int p2), .val (.int p3), .val (.int p4), .val (.int (3 : Int32)), .val (.int v56), .val (.int v57), .val (.int v58), .val (.int v59), .val (.ref b60), .unset] [(.int (4 : Int32)), (.int (3 : Int32))])) _
            refine XS.icmpYes X81.here hx rfl (pc0 := 139) (pc' := 150) rfl (hb hby at_139) rfl (tlt (by decide)).1 (by decide) (by decide) ?_
            show Steps p.tables e below (T81.setTop (mkF m 150 #[.val (.int p0), .val (.int p1), .val (.int p2), .val (.int p3), .val (.int p4), .val (.int (3 : Int32)), .val (.int v56), .val (.int v57), .val (.int v58), .val (.int v59), .val (.ref b60), .unset] [])) _
            refine XS.iconst X81.here hx rfl (hb hby at_150) ?_
            show Steps p.tables e below (T81.setTop (mkF m 151 #[.val (.int p0), .val (.int p1), .val (.int p2), .val (.int p3), .val (.int p4), .val (.int (3 : Int32)), .val (.int v56), .val (.int v57), .val (.int v58), .val (.int v59), .val (.ref b60), .unset] [(.int (1 : Int32))])) _
            refine XS.goto X81.here hx rfl (pc0 := 151) (pc' := 155) rfl (hb hby at_151) (by decide) (by decide) ?_
            show Steps p.tables e below (T81.setTop (mkF m 155 #[.val (.int p0), .val (.int p1), .val (.int p2), .val (.int p3), .val (.int p4), .val (.int (3 : Int32)), .val (.int v56), .val (.int v57), .val (.int v58), .val (.int v59), .val (.ref b60), .unset] [(.int (1 : Int32))])) _
            refine XS.istore X81.here hx rfl (hb hby at_155) rfl (l' := #[.val (.int p0), .val (.int p1), .val (.int p2), .val (.int p3), .val (.int p4), .val (.int (3 : Int32)), .val (.int v56), .val (.int v57), .val (.int v58), .val (.int v59), .val (.ref b60), .val (.int (1 : Int32))]) rfl ?_
            show Steps p.tables e below (T81.setTop (mkF m 157 #[.val (.int p0), .val (.int p1), .val (.int p2), .val (.int p3), .val (.int p4), .val (.int (3 : Int32)), .val (.int v56), .val (.int v57), .val (.int v58), .val (.int v59), .val (.ref b60), .val (.int (1 : Int32))] [])) _
            refine XS.aload X81.here hx rfl (hb hby at_157) rfl rfl ?_
            show Steps p.tables e below (T81.setTop (mkF m 159 #[.val (.int p0), .val (.int p1), .val (.int p2), .val (.int p3), .val (.int p4), .val (.int (3 : Int32)), .val (.int v56), .val (.int v57), .val (.int v58), .val (.int v59), .val (.ref b60), .val (.int (1 : Int32))] [(.ref b60)])) _
            refine st87 _ ?_
            show Steps p.tables e below (T87.setTop (mkF m 162 #[.val (.int p0), .val (.int p1), .val (.int p2), .val (.int p3), .val (.int p4), .val (.int (3 : Int32)), .val (.int v56), .val (.int v57), .val (.int v58), .val (.int v59), .val (.ref b60), .val (.int (1 : Int32))] [(.int (spl3 (nar .byte (v56.toInt8.toInt32)) (nar .byte (v57.toInt8.toInt32)) (nar .byte (v58.toInt8.toInt32))))])) _
            refine XS.iload X87.here hx rfl (hb hby at_162) rfl ?_
            exact kk)
          by_cases hc89 : (spl3 (nar .byte (v56.toInt8.toInt32)) (nar .byte (v57.toInt8.toInt32)) (nar .byte (v58.toInt8.toInt32))) = (1 : Int32)
          · obtain ⟨fs, hr, hrun, hended, hW, hsame⟩ := X87.leave (v := some (.int (1 : Int32))) (fun h => by rw [Bd.returns] at h; cases h)
            refine ⟨_, _, pre88 _ ?_, hrun, hended, _, _, rfl, ?_, ⟨_, rfl⟩, hW, hsame.mono (by decide) (by decide)⟩
            · show Steps p.tables e below (T87.setTop (mkF m 164 #[.val (.int p0), .val (.int p1), .val (.int p2), .val (.int p3), .val (.int p4), .val (.int (3 : Int32)), .val (.int v56), .val (.int v57), .val (.int v58), .val (.int v59), .val (.ref b60), .val (.int (1 : Int32))] [(.int (1 : Int32)), (.int (spl3 (nar .byte (v56.toInt8.toInt32)) (nar .byte (v57.toInt8.toInt32)) (nar .byte (v58.toInt8.toInt32))))])) _
              refine XS.icmpNo X87.here hx rfl (hb hby at_164) rfl (teq hc89).2 ?_
              show Steps p.tables e below (T87.setTop (mkF m 167 #[.val (.int p0), .val (.int p1), .val (.int p2), .val (.int p3), .val (.int p4), .val (.int (3 : Int32)), .val (.int v56), .val (.int v57), .val (.int v58), .val (.int v59), .val (.ref b60), .val (.int (1 : Int32))] [])) _
              refine XS.iconst X87.here hx rfl (hb hby at_167) ?_
              show Steps p.tables e below (T87.setTop (mkF m 168 #[.val (.int p0), .val (.int p1), .val (.int p2), .val (.int p3), .val (.int p4), .val (.int (3 : Int32)), .val (.int v56), .val (.int v57), .val (.int v58), .val (.int v59), .val (.ref b60), .val (.int (1 : Int32))] [(.int (1 : Int32))])) _
              refine XS.goto X87.here hx rfl (pc0 := 168) (pc' := 172) rfl (hb hby at_168) (by decide) (by decide) ?_
              show Steps p.tables e below (T87.setTop (mkF m 172 #[.val (.int p0), .val (.int p1), .val (.int p2), .val (.int p3), .val (.int p4), .val (.int (3 : Int32)), .val (.int v56), .val (.int v57), .val (.int v58), .val (.int v59), .val (.ref b60), .val (.int (1 : Int32))] [(.int (1 : Int32))])) _
              exact retN X87 hx (t := .boolean) Bd.returns (by simp) (hb hby at_172) hr
            · show Q0 h0 n0 _ T87.heap _
              rw [e87]
              exact ⟨rfl, N87⟩
          · obtain ⟨fs, hr, hrun, hended, hW, hsame⟩ := X87.leave (v := some (.int (0 : Int32))) (fun h => by rw [Bd.returns] at h; cases h)
            refine ⟨_, _, pre88 _ ?_, hrun, hended, _, _, rfl, ?_, ⟨_, rfl⟩, hW, hsame.mono (by decide) (by decide)⟩
            · show Steps p.tables e below (T87.setTop (mkF m 164 #[.val (.int p0), .val (.int p1), .val (.int p2), .val (.int p3), .val (.int p4), .val (.int (3 : Int32)), .val (.int v56), .val (.int v57), .val (.int v58), .val (.int v59), .val (.ref b60), .val (.int (1 : Int32))] [(.int (1 : Int32)), (.int (spl3 (nar .byte (v56.toInt8.toInt32)) (nar .byte (v57.toInt8.toInt32)) (nar .byte (v58.toInt8.toInt32))))])) _
              refine XS.icmpYes X87.here hx rfl (pc0 := 164) (pc' := 171) rfl (hb hby at_164) rfl (feq hc89).2 (by decide) (by decide) ?_
              show Steps p.tables e below (T87.setTop (mkF m 171 #[.val (.int p0), .val (.int p1), .val (.int p2), .val (.int p3), .val (.int p4), .val (.int (3 : Int32)), .val (.int v56), .val (.int v57), .val (.int v58), .val (.int v59), .val (.ref b60), .val (.int (1 : Int32))] [])) _
              refine XS.iconst X87.here hx rfl (hb hby at_171) ?_
              show Steps p.tables e below (T87.setTop (mkF m 172 #[.val (.int p0), .val (.int p1), .val (.int p2), .val (.int p3), .val (.int p4), .val (.int (3 : Int32)), .val (.int v56), .val (.int v57), .val (.int v58), .val (.int v59), .val (.ref b60), .val (.int (1 : Int32))] [(.int (0 : Int32))])) _
              exact retN X87 hx (t := .boolean) Bd.returns (by simp) (hb hby at_172) hr
            · show Q0 h0 n0 _ T87.heap _
              rw [e87]
              exfalso
              have o0 := own_b p1; rw [← ev56] at o0
              have o1 := own_b p2; rw [← ev57] at o1
              have o2 := own_b p3; rw [← ev58] at o2
              simp only [spl3] at hc89
              grind
  · skip
    obtain ⟨v90, ev90⟩ : ∃ z : Int32, z = (p1 &&& (255 : Int32)) := ⟨_, rfl⟩
    obtain ⟨v91, ev91⟩ : ∃ z : Int32, z = (p2 &&& (255 : Int32)) := ⟨_, rfl⟩
    obtain ⟨v92, ev92⟩ : ∃ z : Int32, z = (p3 &&& (255 : Int32)) := ⟨_, rfl⟩
    obtain ⟨v93, ev93⟩ : ∃ z : Int32, z = (p4 &&& (255 : Int32)) := ⟨_, rfl⟩
    obtain ⟨T94, h94, k94, X94, e94, E94, A94, st94⟩ := newP X0 hx hZ (hw _ (List.mem_of_getElem? (i := 1) rfl)) e0 (g := (mkF m 39 #[.val (.int p0), .val (.int p1), .val (.int p2), .val (.int p3), .val (.int p4), .val (.int (4 : Int32)), .val (.int v90), .val (.int v91), .val (.int v92), .val (.int v93), .unset, .unset] [(.int (4 : Int32))])) rfl (hb hby at_39) rfl (by decide) (cap := 4) (by decide) (by decide) (by decide) (by decide)
    obtain ⟨b94, g94⟩ : ∃ z, z = h0.size := ⟨_, rfl⟩
    rw [← g94] at A94 st94
    have g_b94 : n0 ≤ b94 := Nat.le_trans Z0 (Nat.le_of_eq g94.symm)
    have V_b94 : Arv Z h94 b94 k94 .byte (4 : Int32) [(.int (0 : Int32)), (.int (0 : Int32)), (.int (0 : Int32)), (.int (0 : Int32))] (.int (0 : Int32)) := (Arv.new A94 (by decide)).pad (pad_rep [] (.int (0 : Int32)) 4)
    obtain ⟨cl95, Ar95, q95, S95, Nn95, H95, G95⟩ := id V_b94
    have hin95 : ¬ ((0 : Int32) < 0 ∨ cl95.slots.size ≤ ((0 : Int32)).toNatClampNeg) := inb_of S95 ⟨by decide, by decide⟩
    obtain ⟨T96, h96, X96, e96, W96, st96⟩ := stB X94 hx hZ e94 Ar95 (j := (0 : Int32)) hin95 (g := (mkF m 54 #[.val (.int p0), .val (.int p1), .val (.int p2), .val (.int p3), .val (.int p4), .val (.int (4 : Int32)), .val (.int v90), .val (.int v91), .val (.int v92), .val (.int v93), .val (.ref b94), .unset] [(.int (v90.toInt8.toInt32)), (.int (0 : Int32)), (.ref b94)])) rfl rfl (hb hby at_54)
    have N96 := Fr.snoc X96 N0 g_b94
    have V96 : Arv Z h96 b94 k94 .byte (4 : Int32) [(.int (nar .byte (v90.toInt8.toInt32))), (.int (0 : Int32)), (.int (0 : Int32)), (.int (0 : Int32))] (.int (0 : Int32)) := Arv.set Ar95 q95 S95 Nn95 H95 G95 (fits_nar_byte _) W96 0 rfl (Nat.le_of_ble_eq_true rfl)
    obtain ⟨cl97, Ar97, q97, S97, Nn97, H97, G97⟩ := id V96
    have hin97 : ¬ ((1 : Int32) < 0 ∨ cl97.slots.size ≤ ((1 : Int32)).toNatClampNeg) := inb_of S97 ⟨by decide, by decide⟩
    obtain ⟨T98, h98, X98, e98, W98, st98⟩ := stB X96 hx hZ e96 Ar97 (j := (1 : Int32)) hin97 (g := (mkF m 67 #[.val (.int p0), .val (.int p1), .val (.int p2), .val (.int p3), .val (.int p4), .val (.int (4 : Int32)), .val (.int v90), .val (.int v91), .val (.int v92), .val (.int v93), .val (.ref b94), .unset] [(.int (v91.toInt8.toInt32)), (.int (1 : Int32)), (.ref b94)])) rfl rfl (hb hby at_67)
    have N98 := Fr.snoc X98 N96 g_b94
    have V98 : Arv Z h98 b94 k94 .byte (4 : Int32) [(.int (nar .byte (v90.toInt8.toInt32))), (.int (nar .byte (v91.toInt8.toInt32))), (.int (0 : Int32)), (.int (0 : Int32))] (.int (0 : Int32)) := Arv.set Ar97 q97 S97 Nn97 H97 G97 (fits_nar_byte _) W98 1 rfl (Nat.le_of_ble_eq_true rfl)
    obtain ⟨cl99, Ar99, q99, S99, Nn99, H99, G99⟩ := id V98
    have hin99 : ¬ ((2 : Int32) < 0 ∨ cl99.slots.size ≤ ((2 : Int32)).toNatClampNeg) := inb_of S99 ⟨by decide, by decide⟩
    obtain ⟨T100, h100, X100, e100, W100, st100⟩ := stB X98 hx hZ e98 Ar99 (j := (2 : Int32)) hin99 (g := (mkF m 80 #[.val (.int p0), .val (.int p1), .val (.int p2), .val (.int p3), .val (.int p4), .val (.int (4 : Int32)), .val (.int v90), .val (.int v91), .val (.int v92), .val (.int v93), .val (.ref b94), .unset] [(.int (v92.toInt8.toInt32)), (.int (2 : Int32)), (.ref b94)])) rfl rfl (hb hby at_80)
    have N100 := Fr.snoc X100 N98 g_b94
    have V100 : Arv Z h100 b94 k94 .byte (4 : Int32) [(.int (nar .byte (v90.toInt8.toInt32))), (.int (nar .byte (v91.toInt8.toInt32))), (.int (nar .byte (v92.toInt8.toInt32))), (.int (0 : Int32))] (.int (0 : Int32)) := Arv.set Ar99 q99 S99 Nn99 H99 G99 (fits_nar_byte _) W100 2 rfl (Nat.le_of_ble_eq_true rfl)
    obtain ⟨cl101, Ar101, q101, S101, Nn101, H101, G101⟩ := id V100
    have hin101 : ¬ ((3 : Int32) < 0 ∨ cl101.slots.size ≤ ((3 : Int32)).toNatClampNeg) := inb_of S101 ⟨by decide, by decide⟩
    obtain ⟨T102, h102, X102, e102, W102, st102⟩ := stB X100 hx hZ e100 Ar101 (j := (3 : Int32)) hin101 (g := (mkF m 93 #[.val (.int p0), .val (.int p1), .val (.int p2), .val (.int p3), .val (.int p4), .val (.int (4 : Int32)), .val (.int v90), .val (.int v91), .val (.int v92), .val (.int v93), .val (.ref b94), .unset] [(.int (v93.toInt8.toInt32)), (.int (3 : Int32)), (.ref b94)])) rfl rfl (hb hby at_93)
    have N102 := Fr.snoc X102 N100 g_b94
    have V102 : Arv Z h102 b94 k94 .byte (4 : Int32) [(.int (nar .byte (v90.toInt8.toInt32))), (.int (nar .byte (v91.toInt8.toInt32))), (.int (nar .byte (v92.toInt8.toInt32))), (.int (nar .byte (v93.toInt8.toInt32)))] (.int (0 : Int32)) := Arv.set Ar101 q101 S101 Nn101 H101 G101 (fits_nar_byte _) W102 3 rfl (Nat.le_of_ble_eq_true rfl)
    have pre103 : ∀ t, Steps p.tables e below (T102.setTop (mkF m 102 #[.val (.int p0), .val (.int p1), .val (.int p2), .val (.int p3), .val (.int p4), .val (.int (4 : Int32)), .val (.int v90), .val (.int v91), .val (.int v92), .val (.int v93), .val (.ref b94), .unset] [(.int v90)])) t → Steps p.tables e below (s₁.setTop (entryFrame m #[(.int p0), (.int p1), (.int p2), (.int p3), (.int p4)] maxLocals)) t := fun t kk => pre1 t (by
      show Steps p.tables e below (s₁.setTop (mkF m 6 #[.val (.int p0), .val (.int p1), .val (.int p2), .val (.int p3), .val (.int p4), .unset, .unset, .unset, .unset, .unset, .unset, .unset] [(.int ((p0 &&& (2147483647 : Int32)) % (5 : Int32)))])) _
      rw [h5]
      show Steps p.tables e below (s₁.setTop (mkF m 6 #[.val (.int p0), .val (.int p1), .val (.int p2), .val (.int p3), .val (.int p4), .unset, .unset, .unset, .unset, .unset, .unset, .unset] [(.int (4 : Int32))])) _
      refine XS.istore X0.here hx rfl (hb hby at_6) rfl (l' := #[.val (.int p0), .val (.int p1), .val (.int p2), .val (.int p3), .val (.int p4), .val (.int (4 : Int32)), .unset, .unset, .unset, .unset, .unset, .unset]) rfl ?_
      show Steps p.tables e below (s₁.setTop (mkF m 8 #[.val (.int p0), .val (.int p1), .val (.int p2), .val (.int p3), .val (.int p4), .val (.int (4 : Int32)), .unset, .unset, .unset, .unset, .unset, .unset] [])) _
      refine XS.iloadN X0.here hx rfl (hb hby at_8) rfl ?_
      show Steps p.tables e below (s₁.setTop (mkF m 9 #[.val (.int p0), .val (.int p1), .val (.int p2), .val (.int p3), .val (.int p4), .val (.int (4 : Int32)), .unset, .unset, .unset, .unset, .unset, .unset] [(.int p1)])) _
      refine XS.sipush X0.here hx rfl (hb hby at_9) ?_
      show Steps p.tables e below (s₁.setTop (mkF m 12 #[.val (.int p0), .val (.int p1), .val (.int p2), .val (.int p3), .val (.int p4), .val (.int (4 : Int32)), .unset, .unset, .unset, .unset, .unset, .unset] [(.int (255 : Int32)), (.int p1)])) _
      refine XS.iand X0.here hx rfl (hb hby at_12) rfl ?_
      show Steps p.tables e below (s₁.setTop (mkF m 13 #[.val (.int p0), .val (.int p1), .val (.int p2), .val (.int p3), .val (.int p4), .val (.int (4 : Int32)), .unset, .unset, .unset, .unset, .unset, .unset] [(.int (p1 &&& (255 : Int32)))])) _
      rw [← ev90]
      show Steps p.tables e below (s₁.setTop (mkF m 13 #[.val (.int p0), .val (.int p1), .val (.int p2), .val (.int p3), .val (.int p4), .val (.int (4 : Int32)), .unset, .unset, .unset, .unset, .unset, .unset] [(.int v90)])) _
      refine XS.istore X0.here hx rfl (hb hby at_13) rfl (l' := #[.val (.int p0), .val (.int p1), .val (.int p2), .val (.int p3), .val (.int p4), .val (.int (4 : Int32)), .val (.int v90), .unset, .unset, .unset, .unset, .unset]) rfl ?_
      show Steps p.tables e below (s₁.setTop (mkF m 15 #[.val (.int p0), .val (.int p1), .val (.int p2), .val (.int p3), .val (.int p4), .val (.int (4 : Int32)), .val (.int v90), .unset, .unset, .unset, .unset, .unset] [])) _
      refine XS.iloadN X0.here hx rfl (hb hby at_15) rfl ?_
      show Steps p.tables e below (s₁.setTop (mkF m 16 #[.val (.int p0), .val (.int p1), .val (.int p2), .val (.int p3), .val (.int p4), .val (.int (4 : Int32)), .val (.int v90), .unset, .unset, .unset, .unset, .unset] [(.int p2)])) _
      refine XS.sipush X0.here hx rfl (hb hby at_16) ?_
      show Steps p.tables e below (s₁.setTop (mkF m 19 #[.val (.int p0), .val (.int p1), .val (.int p2), .val (.int p3), .val (.int p4), .val (.int (4 : Int32)), .val (.int v90), .unset, .unset, .unset, .unset, .unset] [(.int (255 : Int32)), (.int p2)])) _
      refine XS.iand X0.here hx rfl (hb hby at_19) rfl ?_
      show Steps p.tables e below (s₁.setTop (mkF m 20 #[.val (.int p0), .val (.int p1), .val (.int p2), .val (.int p3), .val (.int p4), .val (.int (4 : Int32)), .val (.int v90), .unset, .unset, .unset, .unset, .unset] [(.int (p2 &&& (255 : Int32)))])) _
      rw [← ev91]
      show Steps p.tables e below (s₁.setTop (mkF m 20 #[.val (.int p0), .val (.int p1), .val (.int p2), .val (.int p3), .val (.int p4), .val (.int (4 : Int32)), .val (.int v90), .unset, .unset, .unset, .unset, .unset] [(.int v91)])) _
      refine XS.istore X0.here hx rfl (hb hby at_20) rfl (l' := #[.val (.int p0), .val (.int p1), .val (.int p2), .val (.int p3), .val (.int p4), .val (.int (4 : Int32)), .val (.int v90), .val (.int v91), .unset, .unset, .unset, .unset]) rfl ?_
      show Steps p.tables e below (s₁.setTop (mkF m 22 #[.val (.int p0), .val (.int p1), .val (.int p2), .val (.int p3), .val (.int p4), .val (.int (4 : Int32)), .val (.int v90), .val (.int v91), .unset, .unset, .unset, .unset] [])) _
      refine XS.iloadN X0.here hx rfl (hb hby at_22) rfl ?_
      show Steps p.tables e below (s₁.setTop (mkF m 23 #[.val (.int p0), .val (.int p1), .val (.int p2), .val (.int p3), .val (.int p4), .val (.int (4 : Int32)), .val (.int v90), .val (.int v91), .unset, .unset, .unset, .unset] [(.int p3)])) _
      refine XS.sipush X0.here hx rfl (hb hby at_23) ?_
      show Steps p.tables e below (s₁.setTop (mkF m 26 #[.val (.int p0), .val (.int p1), .val (.int p2), .val (.int p3), .val (.int p4), .val (.int (4 : Int32)), .val (.int v90), .val (.int v91), .unset, .unset, .unset, .unset] [(.int (255 : Int32)), (.int p3)])) _
      refine XS.iand X0.here hx rfl (hb hby at_26) rfl ?_
      show Steps p.tables e below (s₁.setTop (mkF m 27 #[.val (.int p0), .val (.int p1), .val (.int p2), .val (.int p3), .val (.int p4), .val (.int (4 : Int32)), .val (.int v90), .val (.int v91), .unset, .unset, .unset, .unset] [(.int (p3 &&& (255 : Int32)))])) _
      rw [← ev92]
      show Steps p.tables e below (s₁.setTop (mkF m 27 #[.val (.int p0), .val (.int p1), .val (.int p2), .val (.int p3), .val (.int p4), .val (.int (4 : Int32)), .val (.int v90), .val (.int v91), .unset, .unset, .unset, .unset] [(.int v92)])) _
      refine XS.istore X0.here hx rfl (hb hby at_27) rfl (l' := #[.val (.int p0), .val (.int p1), .val (.int p2), .val (.int p3), .val (.int p4), .val (.int (4 : Int32)), .val (.int v90), .val (.int v91), .val (.int v92), .unset, .unset, .unset]) rfl ?_
      show Steps p.tables e below (s₁.setTop (mkF m 29 #[.val (.int p0), .val (.int p1), .val (.int p2), .val (.int p3), .val (.int p4), .val (.int (4 : Int32)), .val (.int v90), .val (.int v91), .val (.int v92), .unset, .unset, .unset] [])) _
      refine XS.iload X0.here hx rfl (hb hby at_29) rfl ?_
      show Steps p.tables e below (s₁.setTop (mkF m 31 #[.val (.int p0), .val (.int p1), .val (.int p2), .val (.int p3), .val (.int p4), .val (.int (4 : Int32)), .val (.int v90), .val (.int v91), .val (.int v92), .unset, .unset, .unset] [(.int p4)])) _
      refine XS.sipush X0.here hx rfl (hb hby at_31) ?_
      show Steps p.tables e below (s₁.setTop (mkF m 34 #[.val (.int p0), .val (.int p1), .val (.int p2), .val (.int p3), .val (.int p4), .val (.int (4 : Int32)), .val (.int v90), .val (.int v91), .val (.int v92), .unset, .unset, .unset] [(.int (255 : Int32)), (.int p4)])) _
      refine XS.iand X0.here hx rfl (hb hby at_34) rfl ?_
      show Steps p.tables e below (s₁.setTop (mkF m 35 #[.val (.int p0), .val (.int p1), .val (.int p2), .val (.int p3), .val (.int p4), .val (.int (4 : Int32)), .val (.int v90), .val (.int v91), .val (.int v92), .unset, .unset, .unset] [(.int (p4 &&& (255 : Int32)))])) _
      rw [← ev93]
      show Steps p.tables e below (s₁.setTop (mkF m 35 #[.val (.int p0), .val (.int p1), .val (.int p2), .val (.int p3), .val (.int p4), .val (.int (4 : Int32)), .val (.int v90), .val (.int v91), .val (.int v92), .unset, .unset, .unset] [(.int v93)])) _
      refine XS.istore X0.here hx rfl (hb hby at_35) rfl (l' := #[.val (.int p0), .val (.int p1), .val (.int p2), .val (.int p3), .val (.int p4), .val (.int (4 : Int32)), .val (.int v90), .val (.int v91), .val (.int v92), .val (.int v93), .unset, .unset]) rfl ?_
      show Steps p.tables e below (s₁.setTop (mkF m 37 #[.val (.int p0), .val (.int p1), .val (.int p2), .val (.int p3), .val (.int p4), .val (.int (4 : Int32)), .val (.int v90), .val (.int v91), .val (.int v92), .val (.int v93), .unset, .unset] [])) _
      refine XS.iload X0.here hx rfl (hb hby at_37) rfl ?_
      show Steps p.tables e below (s₁.setTop (mkF m 39 #[.val (.int p0), .val (.int p1), .val (.int p2), .val (.int p3), .val (.int p4), .val (.int (4 : Int32)), .val (.int v90), .val (.int v91), .val (.int v92), .val (.int v93), .unset, .unset] [(.int (4 : Int32))])) _
      refine st94 _ ?_
      show Steps p.tables e below (T94.setTop (mkF m 41 #[.val (.int p0), .val (.int p1), .val (.int p2), .val (.int p3), .val (.int p4), .val (.int (4 : Int32)), .val (.int v90), .val (.int v91), .val (.int v92), .val (.int v93), .unset, .unset] [(.ref b94)])) _
      refine XS.astore X94.here hx rfl (hb hby at_41) rfl rfl (l' := #[.val (.int p0), .val (.int p1), .val (.int p2), .val (.int p3), .val (.int p4), .val (.int (4 : Int32)), .val (.int v90), .val (.int v91), .val (.int v92), .val (.int v93), .val (.ref b94), .unset]) rfl ?_
      show Steps p.tables e below (T94.setTop (mkF m 43 #[.val (.int p0), .val (.int p1), .val (.int p2), .val (.int p3), .val (.int p4), .val (.int (4 : Int32)), .val (.int v90), .val (.int v91), .val (.int v92), .val (.int v93), .val (.ref b94), .unset] [])) _
      refine XS.iload X94.here hx rfl (hb hby at_43) rfl ?_
      show Steps p.tables e below (T94.setTop (mkF m 45 #[.val (.int p0), .val (.int p1), .val (.int p2), .val (.int p3), .val (.int p4), .val (.int (4 : Int32)), .val (.int v90), .val (.int v91), .val (.int v92), .val (.int v93), .val (.ref b94), .unset] [(.int (4 : Int32))])) _
      refine XS.ifNo X94.here hx rfl (hb hby at_45) rfl ((if0 _ _).trans (tlt (by decide)).2.2.2) ?_
      show Steps p.tables e below (T94.setTop (mkF m 48 #[.val (.int p0), .val (.int p1), .val (.int p2), .val (.int p3), .val (.int p4), .val (.int (4 : Int32)), .val (.int v90), .val (.int v91), .val (.int v92), .val (.int v93), .val (.ref b94), .unset] [])) _
      refine XS.aload X94.here hx rfl (hb hby at_48) rfl rfl ?_
      show Steps p.tables e below (T94.setTop (mkF m 50 #[.val (.int p0), .val (.int p1), .val (.int p2), .val (.int p3), .val (.int p4), .val (.int (4 : Int32)), .val (.int v90), .val (.int v91), .val (.int v92), .val (.int v93), .val (.ref b94), .unset] [(.ref b94)])) _
      refine XS.iconst X94.here hx rfl (hb hby at_50) ?_
      show Steps p.tables e below (T94.setTop (mkF m 51 #[.val (.int p0), .val (.int p1), .val (.int p2), .val (.int p3), .val (.int p4), .val (.int (4 : Int32)), .val (.int v90), .val (.int v91), .val (.int v92), .val (.int v93), .val (.ref b94), .unset] [(.int (0 : Int32)), (.ref b94)])) _
      refine XS.iload X94.here hx rfl (hb hby at_51) rfl ?_
      show Steps p.tables e below (T94.setTop (mkF m 53 #[.val (.int p0), .val (.int p1), .val (.int p2), .val (.int p3), .val (.int p4), .val (.int (4 : Int32)), .val (.int v90), .val (.int v91), .val (.int v92), .val (.int v93), .val (.ref b94), .unset] [(.int v90), (.int (0 : Int32)), (.ref b94)])) _
      refine XS.i2b X94.here hx rfl (hb hby at_53) rfl ?_
      show Steps p.tables e below (T94.setTop (mkF m 54 #[.val (.int p0), .val (.int p1), .val (.int p2), .val (.int p3), .val (.int p4), .val (.int (4 : Int32)), .val (.int v90), .val (.int v91), .val (.int v92), .val (.int v93), .val (.ref b94), .unset] [(.int (v90.toInt8.toInt32)), (.int (0 : Int32)), (.ref b94)])) _
      refine st96 _ ?_
      show Steps p.tables e below (T96.setTop (mkF m 55 #[.val (.int p0), .val (.int p1), .val (.int p2), .val (.int p3), .val (.int p4), .val (.int (4 : Int32)), .val (.int v90), .val (.int v91), .val (.int v92), .val (.int v93), .val (.ref b94), .unset] [])) _
      refine XS.iload X96.here hx rfl (hb hby at_55) rfl ?_
      show Steps p.tables e below (T96.setTop (mkF m 57 #[.val (.int p0), .val (.int p1), .val (.int p2), .val (.int p3), .val (.int p4), .val (.int (4 : Int32)), .val (.int v90), .val (.int v91), .val (.int v92), .val (.int v93), .val (.ref b94), .unset] [(.int (4 : Int32))])) _
      refine XS.iconst X96.here hx rfl (hb hby at_57) ?_
      show Steps p.tables e below (T96.setTop (mkF m 58 #[.val (.int p0), .val (.int p1), .val (.int p2), .val (.int p3), .val (.int p4), .val (.int (4 : Int32)), .val (.int v90), .val (.int v91), .val (.int v92), .val (.int v93), .val (.ref b94), .unset] [(.int (1 : Int32)), (.int (4 : Int32))])) _
      refine XS.icmpNo X96.here hx rfl (hb hby at_58) rfl (tlt (by decide)).2.2.2 ?_
      show Steps p.tables e below (T96.setTop (mkF m 61 #[.val (.int p0), .val (.int p1), .val (.int p2), .val (.int p3), .val (.int p4), .val (.int (4 : Int32)), .val (.int v90), .val (.int v91), .val (.int v92), .val (.int v93), .val (.ref b94), .unset] [])) _
      refine XS.aload X96.here hx rfl (hb hby at_61) rfl rfl ?_
      show Steps p.tables e below (T96.setTop (mkF m 63 #[.val (.int p0), .val (.int p1), .val (.int p2), .val (.int p3), .val (.int p4), .val (.int (4 : Int32)), .val (.int v90), .val (.int v91), .val (.int v92), .val (.int v93), .val (.ref b94), .unset] [(.ref b94)])) _
      refine XS.iconst X96.here hx rfl (hb hby at_63) ?_
      show Steps p.tables e below (T96.setTop (mkF m 64 #[.val (.int p0), .val (.int p1), .val (.int p2), .val (.int p3), .val (.int p4), .val (.int (4 : Int32)), .val (.int v90), .val (.int v91), .val (.int v92), .val (.int v93), .val (.ref b94), .unset] [(.int (1 : Int32)), (.ref b94)])) _
      refine XS.iload X96.here hx rfl (hb hby at_64) rfl ?_
      show Steps p.tables e below (T96.setTop (mkF m 66 #[.val (.int p0), .val (.int p1), .val (.int p2), .val (.int p3), .val (.int p4), .val (.int (4 : Int32)), .val (.int v90), .val (.int v91), .val (.int v92), .val (.int v93), .val (.ref b94), .unset] [(.int v91), (.int (1 : Int32)), (.ref b94)])) _
      refine XS.i2b X96.here hx rfl (hb hby at_66) rfl ?_
      show Steps p.tables e below (T96.setTop (mkF m 67 #[.val (.int p0), .val (.int p1), .val (.int p2), .val (.int p3), .val (.int p4), .val (.int (4 : Int32)), .val (.int v90), .val (.int v91), .val (.int v92), .val (.int v93), .val (.ref b94), .unset] [(.int (v91.toInt8.toInt32)), (.int (1 : Int32)), (.ref b94)])) _
      refine st98 _ ?_
      show Steps p.tables e below (T98.setTop (mkF m 68 #[.val (.int p0), .val (.int p1), .val (.int p2), .val (.int p3), .val (.int p4), .val (.int (4 : Int32)), .val (.int v90), .val (.int v91), .val (.int v92), .val (.int v93), .val (.ref b94), .unset] [])) _
      refine XS.iload X98.here hx rfl (hb hby at_68) rfl ?_
      show Steps p.tables e below (T98.setTop (mkF m 70 #[.val (.int p0), .val (.int p1), .val (.int p2), .val (.int p3), .val (.int p4), .val (.int (4 : Int32)), .val (.int v90), .val (.int v91), .val (.int v92), .val (.int v93), .val (.ref b94), .unset] [(.int (4 : Int32))])) _
      refine XS.iconst X98.here hx rfl (hb hby at_70) ?_
      show Steps p.tables e below (T98.setTop (mkF m 71 #[.val (.int p0), .val (.int p1), .val (.int p2), .val (.int p3), .val (.int p4), .val (.int (4 : Int32)), .val (.int v90), .val (.int v91), .val (.int v92), .val (.int v93), .val (.ref b94), .unset] [(.int (2 : Int32)), (.int (4 : Int32))])) _
      refine XS.icmpNo X98.here hx rfl (hb hby at_71) rfl (tlt (by decide)).2.2.2 ?_
      show Steps p.tables e below (T98.setTop (mkF m 74 #[.val (.int p0), .val (.int p1), .val (.int p2), .val (.int p3), .val (.int p4), .val (.int (4 : Int32)), .val (.int v90), .val (.int v91), .val (.int v92), .val (.int v93), .val (.ref b94), .unset] [])) _
      refine XS.aload X98.here hx rfl (hb hby at_74) rfl rfl ?_
      show Steps p.tables e below (T98.setTop (mkF m 76 #[.val (.int p0), .val (.int p1), .val (.int p2), .val (.int p3), .val (.int p4), .val (.int (4 : Int32)), .val (.int v90), .val (.int v91), .val (.int v92), .val (.int v93), .val (.ref b94), .unset] [(.ref b94)])) _
      refine XS.iconst X98.here hx rfl (hb hby at_76) ?_
      show Steps p.tables e below (T98.setTop (mkF m 77 #[.val (.int p0), .val (.int p1), .val (.int p2), .val (.int p3), .val (.int p4), .val (.int (4 : Int32)), .val (.int v90), .val (.int v91), .val (.int v92), .val (.int v93), .val (.ref b94), .unset] [(.int (2 : Int32)), (.ref b94)])) _
      refine XS.iload X98.here hx rfl (hb hby at_77) rfl ?_
      show Steps p.tables e below (T98.setTop (mkF m 79 #[.val (.int p0), .val (.int p1), .val (.int p2), .val (.int p3), .val (.int p4), .val (.int (4 : Int32)), .val (.int v90), .val (.int v91), .val (.int v92), .val (.int v93), .val (.ref b94), .unset] [(.int v92), (.int (2 : Int32)), (.ref b94)])) _
      refine XS.i2b X98.here hx rfl (hb hby at_79) rfl ?_
      show Steps p.tables e below (T98.setTop (mkF m 80 #[.val (.int p0), .val (.int p1), .val (.int p2), .val (.int p3), .val (.int p4), .val (.int (4 : Int32)), .val (.int v90), .val (.int v91), .val (.int v92), .val (.int v93), .val (.ref b94), .unset] [(.int (v92.toInt8.toInt32)), (.int (2 : Int32)), (.ref b94)])) _
      refine st100 _ ?_
      show Steps p.tables e below (T100.setTop (mkF m 81 #[.val (.int p0), .val (.int p1), .val (.int p2), .val (.int p3), .val (.int p4), .val (.int (4 : Int32)), .val (.int v90), .val (.int v91), .val (.int v92), .val (.int v93), .val (.ref b94), .unset] [])) _
      refine XS.iload X100.here hx rfl (hb hby at_81) rfl ?_
      show Steps p.tables e below (T100.setTop (mkF m 83 #[.val (.int p0), .val (.int p1), .val (.int p2), .val (.int p3), .val (.int p4), .val (.int (4 : Int32)), .val (.int v90), .val (.int v91), .val (.int v92), .val (.int v93), .val (.ref b94), .unset] [(.int (4 : Int32))])) _
      refine XS.iconst X100.here hx rfl (hb hby at_83) ?_
      show Steps p.tables e below (T100.setTop (mkF m 84 #[.val (.int p0), .val (.int p1), .val (.int p2), .val (.int p3), .val (.int p4), .val (.int (4 : Int32)), .val (.int v90), .val (.int v91), .val (.int v92), .val (.int v93), .val (.ref b94), .unset] [(.int (3 : Int32)), (.int (4 : Int32))])) _
      refine XS.icmpNo X100.here hx rfl (hb hby at_84) rfl (tlt (by decide)).2.2.2 ?_
      show Steps p.tables e below (T100.setTop (mkF m 87 #[.val (.int p0), .val (.int p1), .val (.int p2), .val (.int p3), .val (.int p4), .val (.int (4 : Int32)), .val (.int v90), .val (.int v91), .val (.int v92), .val (.int v93), .val (.ref b94), .unset] [])) _
      refine XS.aload X100.here hx rfl (hb hby at_87) rfl rfl ?_
      show Steps p.tables e below (T100.setTop (mkF m 89 #[.val (.int p0), .val (.int p1), .val (.int p2), .val (.int p3), .val (.int p4), .val (.int (4 : Int32)), .val (.int v90), .val (.int v91), .val (.int v92), .val (.int v93), .val (.ref b94), .unset] [(.ref b94)])) _
      refine XS.iconst X100.here hx rfl (hb hby at_89) ?_
      show Steps p.tables e below (T100.setTop (mkF m 90 #[.val (.int p0), .val (.int p1), .val (.int p2), .val (.int p3), .val (.int p4), .val (.int (4 : Int32)), .val (.int v90), .val (.int v91), .val (.int v92), .val (.int v93), .val (.ref b94), .unset] [(.int (3 : Int32)), (.ref b94)])) _
      refine XS.iload X100.here hx rfl (hb hby at_90) rfl ?_
      show Steps p.tables e below (T100.setTop (mkF m 92 #[.val (.int p0), .val (.int p1), .val (.int p2), .val (.int p3), .val (.int p4), .val (.int (4 : Int32)), .val (.int v90), .val (.int v91), .val (.int v92), .val (.int v93), .val (.ref b94), .unset] [(.int v93), (.int (3 : Int32)), (.ref b94)])) _
      refine XS.i2b X100.here hx rfl (hb hby at_92) rfl ?_
      show Steps p.tables e below (T100.setTop (mkF m 93 #[.val (.int p0), .val (.int p1), .val (.int p2), .val (.int p3), .val (.int p4), .val (.int (4 : Int32)), .val (.int v90), .val (.int v91), .val (.int v92), .val (.int v93), .val (.ref b94), .unset] [(.int (v93.toInt8.toInt32)), (.int (3 : Int32)), (.ref b94)])) _
      refine st102 _ ?_
      show Steps p.tables e below (T102.setTop (mkF m 94 #[.val (.int p0), .val (.int p1), .val (.int p2), .val (.int p3), .val (.int p4), .val (.int (4 : Int32)), .val (.int v90), .val (.int v91), .val (.int v92), .val (.int v93), .val (.ref b94), .unset] [])) _
      refine XS.iload X102.here hx rfl (hb hby at_94) rfl ?_
      show Steps p.tables e below (T102.setTop (mkF m 96 #[.val (.int p0), .val (.int p1), .val (.int p2), .val (.int p3), .val (.int p4), .val (.int (4 : Int32)), .val (.int v90), .val (.int v91), .val (.int v92), .val (.int v93), .val (.ref b94), .unset] [(.int (4 : Int32))])) _
      refine XS.iconst X102.here hx rfl (hb hby at_96) ?_
      show Steps p.tables e below (T102.setTop (mkF m 97 #[.val (.int p0), .val (.int p1), .val (.int p2), .val (.int p3), .val (.int p4), .val (.int (4 : Int32)), .val (.int v90), .val (.int v91), .val (.int v92), .val (.int v93), .val (.ref b94), .unset] [(.int (1 : Int32)), (.int (4 : Int32))])) _
      refine XS.icmpNo X102.here hx rfl (hb hby at_97) rfl (flt (by decide)).1 ?_
      show Steps p.tables e below (T102.setTop (mkF m 100 #[.val (.int p0), .val (.int p1), .val (.int p2), .val (.int p3), .val (.int p4), .val (.int (4 : Int32)), .val (.int v90), .val (.int v91), .val (.int v92), .val (.int v93), .val (.ref b94), .unset] [])) _
      refine XS.iload X102.here hx rfl (hb hby at_100) rfl ?_
      exact kk)
    have Zz105 := (Nat.le_trans (Nat.le_trans (Nat.le_trans (Nat.le_trans (Nat.le_trans Z0 E94.1) (Keep.of_wr W96).1) (Keep.of_wr W98).1) (Keep.of_wr W100).1) (Keep.of_wr W102).1)
    obtain ⟨_, _, ⟨T104, L104, k104, n104⟩, -, X104, ⟨Lc104, hQ104, l104, y104, z104⟩, st104⟩ := Jvm.LawKit.callS X102 hx (y := (⟨"com/example/onesnap/onesnap/node/SqlLexerSplitsAlikeUnderAnySettingsPinLaw", "good", "(I)Z"⟩ : MethodName)) hown (mvT hZ (hw _ (List.mem_of_getElem? (i := 6) rfl))) (mvT hZ (hw _ (List.mem_of_getElem? (i := 7) rfl))) (mvT hZ (hw _ (List.mem_of_getElem? (i := 8) rfl))) (mvT hZ (hw _ (List.mem_of_getElem? (i := 9) rfl))) (by decide) (backOf (W := 0) (rm2 l Z a0 hw [] v90 h102 n0 Zz105) hZ (hw _ (List.mem_of_getElem? (i := 9) rfl)) (hw _ (List.mem_of_getElem? (i := 8) rfl)) (by decide) (by decide)) (g := (mkF m 102 #[.val (.int p0), .val (.int p1), .val (.int p2), .val (.int p3), .val (.int p4), .val (.int (4 : Int32)), .val (.int v90), .val (.int v91), .val (.int v92), .val (.int v93), .val (.ref b94), .unset] [(.int v90)])) rfl (by rw [hml]; rfl) (argsL := [(.int v90)]) (rest := []) (lenOf pd__28I_29Z rfl) rfl (by show 2 * 0 + _ ≤ _; exact Nat.le_of_eq rfl) (hb hby at_102) (fun _ _ => ⟨rfl, e102, (by decide : 1 + 0 ≤ _), (by decide : 4 + 0 ≤ _)⟩)
    dsimp only [Pt.U, Pt.locs, Pt.cells, Pt.slots] at X104 l104 y104 z104 st104 hQ104
    subst l104 y104 z104
    obtain ⟨rfl, N104q, e104⟩ := hQ104
    have N104 := Fr.app N102 N104q
    have pre106 : ∀ t, Steps p.tables e below (T104.setTop (mkF m 105 #[.val (.int p0), .val (.int p1), .val (.int p2), .val (.int p3), .val (.int p4), .val (.int (4 : Int32)), .val (.int v90), .val (.int v91), .val (.int v92), .val (.int v93), .val (.ref b94), .unset] [(.int (goodF v90))])) t → Steps p.tables e below (s₁.setTop (entryFrame m #[(.int p0), (.int p1), (.int p2), (.int p3), (.int p4)] maxLocals)) t := fun t kk => pre103 t (by
      show Steps p.tables e below (T102.setTop (mkF m 102 #[.val (.int p0), .val (.int p1), .val (.int p2), .val (.int p3), .val (.int p4), .val (.int (4 : Int32)), .val (.int v90), .val (.int v91), .val (.int v92), .val (.int v93), .val (.ref b94), .unset] [(.int v90)])) _
      refine st104 _ ?_
      exact kk)
    by_cases hc107 : (goodF v90) = (0 : Int32)
    · obtain ⟨_, _, ⟨T108, L108, k108, n108⟩, -, X108, ⟨Lc108, hQ108, l108, y108, z108⟩, st108⟩ := Jvm.LawKit.callS X104 hx (y := (⟨"com/example/onesnap/onesnap/node/SqlLexer", "splitsAlikeUnderAnySettings", "([B)Z"⟩ : MethodName)) hown (mvT hZ (hw _ (List.mem_of_getElem? (i := 2) rfl))) (mvT hZ (hw _ (List.mem_of_getElem? (i := 3) rfl))) (mvT hZ (hw _ (List.mem_of_getElem? (i := 4) rfl))) (mvT hZ (hw _ (List.mem_of_getElem? (i := 5) rfl))) (by decide) (backOf (W := 0) (rm1_4 l Z a0 hw [] b94 k94 (nar .byte (v90.toInt8.toInt32)) (nar .byte (v91.toInt8.toInt32)) (nar .byte (v92.toInt8.toInt32)) (nar .byte (v93.toInt8.toInt32)) h102 n0 Zz105 V102) hZ (hw _ (List.mem_of_getElem? (i := 5) rfl)) (hw _ (List.mem_of_getElem? (i := 4) rfl)) (by decide) (by decide)) (g := (mkF m 159 #[.val (.int p0), .val (.int p1), .val (.int p2), .val (.int p3), .val (.int p4), .val (.int (4 : Int32)), .val (.int v90), .val (.int v91), .val (.int v92), .val (.int v93), .val (.ref b94), .val (.int (0 : Int32))] [(.ref b94)])) rfl (by rw [hml]; rfl) (argsL := [(.ref b94)]) (rest := []) (lenOf pd__28_5bB_29Z rfl) rfl (by show 2 * 0 + _ ≤ _; exact Nat.le_of_eq rfl) (hb hby at_159) (fun _ _ => ⟨rfl, e104, (by decide : 1 + 0 ≤ _), (by decide : 4 + 0 ≤ _)⟩)
      dsimp only [Pt.U, Pt.locs, Pt.cells, Pt.slots] at X108 l108 y108 z108 st108 hQ108
      subst l108 y108 z108
      obtain ⟨rfl, N108q, e108⟩ := hQ108
      have N108 := Fr.app N104 N108q
      have pre109 : ∀ t, Steps p.tables e below (T108.setTop (mkF m 164 #[.val (.int p0), .val (.int p1), .val (.int p2), .val (.int p3), .val (.int p4), .val (.int (4 : Int32)), .val (.int v90), .val (.int v91), .val (.int v92), .val (.int v93), .val (.ref b94), .val (.int (0 : Int32))] [(.int (0 : Int32)), (.int (spl4 (nar .byte (v90.toInt8.toInt32)) (nar .byte (v91.toInt8.toInt32)) (nar .byte (v92.toInt8.toInt32)) (nar .byte (v93.toInt8.toInt32))))])) t → Steps p.tables e below (s₁.setTop (entryFrame m #[(.int p0), (.int p1), (.int p2), (.int p3), (.int p4)] maxLocals)) t := fun t kk => pre106 t (by
        show Steps p.tables e below (T104.setTop (mkF m 105 #[.val (.int p0), .val (.int p1), .val (.int p2), .val (.int p3), .val (.int p4), .val (.int (4 : Int32)), .val (.int v90), .val (.int v91), .val (.int v92), .val (.int v93), .val (.ref b94), .unset] [(.int (goodF v90))])) _
        refine XS.ifYes X104.here hx rfl (pc0 := 105) (pc' := 154) rfl (hb hby at_105) rfl ((if0 _ _).trans (teq hc107).1) (by decide) (by decide) ?_
        show Steps p.tables e below (T104.setTop (mkF m 154 #[.val (.int p0), .val (.int p1), .val (.int p2), .val (.int p3), .val (.int p4), .val (.int (4 : Int32)), .val (.int v90), .val (.int v91), .val (.int v92), .val (.int v93), .val (.ref b94), .unset] [])) _
        refine XS.iconst X104.here hx rfl (hb hby at_154) ?_
        show Steps p.tables e below (T104.setTop (mkF m 155 #[.val (.int p0), .val (.int p1), .val (.int p2), .val (.int p3), .val (.int p4), .val (.int (4 : Int32)), .val (.int v90), .val (.int v91), .val (.int v92), .val (.int v93), .val (.ref b94), .unset] [(.int (0 : Int32))])) _
        refine XS.istore X104.here hx rfl (hb hby at_155) rfl (l' := #[.val (.int p0), .val (.int p1), .val (.int p2), .val (.int p3), .val (.int p4), .val (.int (4 : Int32)), .val (.int v90), .val (.int v91), .val (.int v92), .val (.int v93), .val (.ref b94), .val (.int (0 : Int32))]) rfl ?_
        show Steps p.tables e below (T104.setTop (mkF m 157 #[.val (.int p0), .val (.int p1), .val (.int p2), .val (.int p3), .val (.int p4), .val (.int (4 : Int32)), .val (.int v90), .val (.int v91), .val (.int v92), .val (.int v93), .val (.ref b94), .val (.int (0 : Int32))] [])) _
        refine XS.aload X104.here hx rfl (hb hby at_157) rfl rfl ?_
        show Steps p.tables e below (T104.setTop (mkF m 159 #[.val (.int p0), .val (.int p1), .val (.int p2), .val (.int p3), .val (.int p4), .val (.int (4 : Int32)), .val (.int v90), .val (.int v91), .val (.int v92), .val (.int v93), .val (.ref b94), .val (.int (0 : Int32))] [(.ref b94)])) _
        refine st108 _ ?_
        show Steps p.tables e below (T108.setTop (mkF m 162 #[.val (.int p0), .val (.int p1), .val (.int p2), .val (.int p3), .val (.int p4), .val (.int (4 : Int32)), .val (.int v90), .val (.int v91), .val (.int v92), .val (.int v93), .val (.ref b94), .val (.int (0 : Int32))] [(.int (spl4 (nar .byte (v90.toInt8.toInt32)) (nar .byte (v91.toInt8.toInt32)) (nar .byte (v92.toInt8.toInt32)) (nar .byte (v93.toInt8.toInt32))))])) _
        refine XS.iload X108.here hx rfl (hb hby at_162) rfl ?_
        exact kk)
      by_cases hc110 : (spl4 (nar .byte (v90.toInt8.toInt32)) (nar .byte (v91.toInt8.toInt32)) (nar .byte (v92.toInt8.toInt32)) (nar .byte (v93.toInt8.toInt32))) = (0 : Int32)
      · obtain ⟨fs, hr, hrun, hended, hW, hsame⟩ := X108.leave (v := some (.int (1 : Int32))) (fun h => by rw [Bd.returns] at h; cases h)
        refine ⟨_, _, pre109 _ ?_, hrun, hended, _, _, rfl, ?_, ⟨_, rfl⟩, hW, hsame.mono (by decide) (by decide)⟩
        · show Steps p.tables e below (T108.setTop (mkF m 164 #[.val (.int p0), .val (.int p1), .val (.int p2), .val (.int p3), .val (.int p4), .val (.int (4 : Int32)), .val (.int v90), .val (.int v91), .val (.int v92), .val (.int v93), .val (.ref b94), .val (.int (0 : Int32))] [(.int (0 : Int32)), (.int (spl4 (nar .byte (v90.toInt8.toInt32)) (nar .byte (v91.toInt8.toInt32)) (nar .byte (v92.toInt8.toInt32)) (nar .byte (v93.toInt8.toInt32))))])) _
          refine XS.icmpNo X108.here hx rfl (hb hby at_164) rfl (teq hc110).2 ?_
          show Steps p.tables e below (T108.setTop (mkF m 167 #[.val (.int p0), .val (.int p1), .val (.int p2), .val (.int p3), .val (.int p4), .val (.int (4 : Int32)), .val (.int v90), .val (.int v91), .val (.int v92), .val (.int v93), .val (.ref b94), .val (.int (0 : Int32))] [])) _
          refine XS.iconst X108.here hx rfl (hb hby at_167) ?_
          show Steps p.tables e below (T108.setTop (mkF m 168 #[.val (.int p0), .val (.int p1), .val (.int p2), .val (.int p3), .val (.int p4), .val (.int (4 : Int32)), .val (.int v90), .val (.int v91), .val (.int v92), .val (.int v93), .val (.ref b94), .val (.int (0 : Int32))] [(.int (1 : Int32))])) _
          refine XS.goto X108.here hx rfl (pc0 := 168) (pc' := 172) rfl (hb hby at_168) (by decide) (by decide) ?_
          show Steps p.tables e below (T108.setTop (mkF m 172 #[.val (.int p0), .val (.int p1), .val (.int p2), .val (.int p3), .val (.int p4), .val (.int (4 : Int32)), .val (.int v90), .val (.int v91), .val (.int v92), .val (.int v93), .val (.ref b94), .val (.int (0 : Int32))] [(.int (1 : Int32))])) _
          exact retN X108 hx (t := .boolean) Bd.returns (by simp) (hb hby at_172) hr
        · show Q0 h0 n0 _ T108.heap _
          rw [e108]
          exact ⟨rfl, N108⟩
      · obtain ⟨fs, hr, hrun, hended, hW, hsame⟩ := X108.leave (v := some (.int (0 : Int32))) (fun h => by rw [Bd.returns] at h; cases h)
        refine ⟨_, _, pre109 _ ?_, hrun, hended, _, _, rfl, ?_, ⟨_, rfl⟩, hW, hsame.mono (by decide) (by decide)⟩
        · show Steps p.tables e below (T108.setTop (mkF m 164 #[.val (.int p0), .val (.int p1), .val (.int p2), .val (.int p3), .val (.int p4), .val (.int (4 : Int32)), .val (.int v90), .val (.int v91), .val (.int v92), .val (.int v93), .val (.ref b94), .val (.int (0 : Int32))] [(.int (0 : Int32)), (.int (spl4 (nar .byte (v90.toInt8.toInt32)) (nar .byte (v91.toInt8.toInt32)) (nar .byte (v92.toInt8.toInt32)) (nar .byte (v93.toInt8.toInt32))))])) _
          refine XS.icmpYes X108.here hx rfl (pc0 := 164) (pc' := 171) rfl (hb hby at_164) rfl (feq hc110).2 (by decide) (by decide) ?_
          show Steps p.tables e below (T108.setTop (mkF m 171 #[.val (.int p0), .val (.int p1), .val (.int p2), .val (.int p3), .val (.int p4), .val (.int (4 : Int32)), .val (.int v90), .val (.int v91), .val (.int v92), .val (.int v93), .val (.ref b94), .val (.int (0 : Int32))] [])) _
          refine XS.iconst X108.here hx rfl (hb hby at_171) ?_
          show Steps p.tables e below (T108.setTop (mkF m 172 #[.val (.int p0), .val (.int p1), .val (.int p2), .val (.int p3), .val (.int p4), .val (.int (4 : Int32)), .val (.int v90), .val (.int v91), .val (.int v92), .val (.int v93), .val (.ref b94), .val (.int (0 : Int32))] [(.int (0 : Int32))])) _
          exact retN X108 hx (t := .boolean) Bd.returns (by simp) (hb hby at_172) hr
        · show Q0 h0 n0 _ T108.heap _
          rw [e108]
          exfalso
          have o0 := own_b p1; rw [← ev90] at o0
          have o1 := own_b p2; rw [← ev91] at o1
          have o2 := own_b p3; rw [← ev92] at o2
          have o3 := own_b p4; rw [← ev93] at o3
          simp only [spl4] at hc110
          grind
    · obtain ⟨_, _, ⟨T111, L111, k111, n111⟩, -, X111, ⟨Lc111, hQ111, l111, y111, z111⟩, st111⟩ := Jvm.LawKit.callS X104 hx (y := (⟨"com/example/onesnap/onesnap/node/SqlLexerSplitsAlikeUnderAnySettingsPinLaw", "good", "(I)Z"⟩ : MethodName)) hown (mvT hZ (hw _ (List.mem_of_getElem? (i := 6) rfl))) (mvT hZ (hw _ (List.mem_of_getElem? (i := 7) rfl))) (mvT hZ (hw _ (List.mem_of_getElem? (i := 8) rfl))) (mvT hZ (hw _ (List.mem_of_getElem? (i := 9) rfl))) (by decide) (backOf (W := 0) (rm2 l Z a0 hw [] v91 h102 n0 Zz105) hZ (hw _ (List.mem_of_getElem? (i := 9) rfl)) (hw _ (List.mem_of_getElem? (i := 8) rfl)) (by decide) (by decide)) (g := (mkF m 116 #[.val (.int p0), .val (.int p1), .val (.int p2), .val (.int p3), .val (.int p4), .val (.int (4 : Int32)), .val (.int v90), .val (.int v91), .val (.int v92), .val (.int v93), .val (.ref b94), .unset] [(.int v91)])) rfl (by rw [hml]; rfl) (argsL := [(.int v91)]) (rest := []) (lenOf pd__28I_29Z rfl) rfl (by show 2 * 0 + _ ≤ _; exact Nat.le_of_eq rfl) (hb hby at_116) (fun _ _ => ⟨rfl, e104, (by decide : 1 + 0 ≤ _), (by decide : 4 + 0 ≤ _)⟩)
      dsimp only [Pt.U, Pt.locs, Pt.cells, Pt.slots] at X111 l111 y111 z111 st111 hQ111
      subst l111 y111 z111
      obtain ⟨rfl, N111q, e111⟩ := hQ111
      have N111 := Fr.app N104 N111q
      have pre112 : ∀ t, Steps p.tables e below (T111.setTop (mkF m 119 #[.val (.int p0), .val (.int p1), .val (.int p2), .val (.int p3), .val (.int p4), .val (.int (4 : Int32)), .val (.int v90), .val (.int v91), .val (.int v92), .val (.int v93), .val (.ref b94), .unset] [(.int (goodF v91))])) t → Steps p.tables e below (s₁.setTop (entryFrame m #[(.int p0), (.int p1), (.int p2), (.int p3), (.int p4)] maxLocals)) t := fun t kk => pre106 t (by
        show Steps p.tables e below (T104.setTop (mkF m 105 #[.val (.int p0), .val (.int p1), .val (.int p2), .val (.int p3), .val (.int p4), .val (.int (4 : Int32)), .val (.int v90), .val (.int v91), .val (.int v92), .val (.int v93), .val (.ref b94), .unset] [(.int (goodF v90))])) _
        refine XS.ifNo X104.here hx rfl (hb hby at_105) rfl ((if0 _ _).trans (feq hc107).1) ?_
        show Steps p.tables e below (T104.setTop (mkF m 108 #[.val (.int p0), .val (.int p1), .val (.int p2), .val (.int p3), .val (.int p4), .val (.int (4 : Int32)), .val (.int v90), .val (.int v91), .val (.int v92), .val (.int v93), .val (.ref b94), .unset] [])) _
        refine XS.iload X104.here hx rfl (hb hby at_108) rfl ?_
        show Steps p.tables e below (T104.setTop (mkF m 110 #[.val (.int p0), .val (.int p1), .val (.int p2), .val (.int p3), .val (.int p4), .val (.int (4 : Int32)), .val (.int v90), .val (.int v91), .val (.int v92), .val (.int v93), .val (.ref b94), .unset] [(.int (4 : Int32))])) _
        refine XS.iconst X104.here hx rfl (hb hby at_110) ?_
        show Steps p.tables e below (T104.setTop (mkF m 111 #[.val (.int p0), .val (.int p1), .val (.int p2), .val (.int p3), .val (.int p4), .val (.int (4 : Int32)), .val (.int v90), .val (.int v91), .val (.int v92), .val (.int v93), .val (.ref b94), .unset] [(.int (2 : Int32)), (.int (4 : Int32))])) _
        refine XS.icmpNo X104.here hx rfl (hb hby at_111) rfl (flt (by decide)).1 ?_
        show Steps p.tables e below (T104.setTop (mkF m 114 #[.val (.int p0), .val (.int p1), .val (.int p2), .val (.int p3), .val (.int p4), .val (.int (4 : Int32)), .val (.int v90), .val (.int v91), .val (.int v92), .val (.int v93), .val (.ref b94), .unset] [])) _
        refine XS.iload X104.here hx rfl (hb hby at_114) rfl ?_
        show Steps p.tables e below (T104.setTop (mkF m 116 #[.val (.int p0), .val (.int p1), .val (.int p2), .val (.int p3), .val (.int p4), .val (.int (4 : Int32)), .val (.int v90), .val (.int v91), .val (.int v92), .val (.int v93), .val (.ref b94), .unset] [(.int v91)])) _
        refine st111 _ ?_
        exact kk)
      by_cases hc113 : (goodF v91) = (0 : Int32)
      · obtain ⟨_, _, ⟨T114, L114, k114, n114⟩, -, X114, ⟨Lc114, hQ114, l114, y114, z114⟩, st114⟩ := Jvm.LawKit.callS X111 hx (y := (⟨"com/example/onesnap/onesnap/node/SqlLexer", "splitsAlikeUnderAnySettings", "([B)Z"⟩ : MethodName)) hown (mvT hZ (hw _ (List.mem_of_getElem? (i := 2) rfl))) (mvT hZ (hw _ (List.mem_of_getElem? (i := 3) rfl))) (mvT hZ (hw _ (List.mem_of_getElem? (i := 4) rfl))) (mvT hZ (hw _ (List.mem_of_getElem? (i := 5) rfl))) (by decide) (backOf (W := 0) (rm1_4 l Z a0 hw [] b94 k94 (nar .byte (v90.toInt8.toInt32)) (nar .byte (v91.toInt8.toInt32)) (nar .byte (v92.toInt8.toInt32)) (nar .byte (v93.toInt8.toInt32)) h102 n0 Zz105 V102) hZ (hw _ (List.mem_of_getElem? (i := 5) rfl)) (hw _ (List.mem_of_getElem? (i := 4) rfl)) (by decide) (by decide)) (g := (mkF m 159 #[.val (.int p0), .val (.int p1), .val (.int p2), .val (.int p3), .val (.int p4), .val (.int (4 : Int32)), .val (.int v90), .val (.int v91), .val (.int v92), .val (.int v93), .val (.ref b94), .val (.int (0 : Int32))] [(.ref b94)])) rfl (by rw [hml]; rfl) (argsL := [(.ref b94)]) (rest := []) (lenOf pd__28_5bB_29Z rfl) rfl (by show 2 * 0 + _ ≤ _; exact Nat.le_of_eq rfl) (hb hby at_159) (fun _ _ => ⟨rfl, e111, (by decide : 1 + 0 ≤ _), (by decide : 4 + 0 ≤ _)⟩)
        dsimp only [Pt.U, Pt.locs, Pt.cells, Pt.slots] at X114 l114 y114 z114 st114 hQ114
        subst l114 y114 z114
        obtain ⟨rfl, N114q, e114⟩ := hQ114
        have N114 := Fr.app N111 N114q
        have pre115 : ∀ t, Steps p.tables e below (T114.setTop (mkF m 164 #[.val (.int p0), .val (.int p1), .val (.int p2), .val (.int p3), .val (.int p4), .val (.int (4 : Int32)), .val (.int v90), .val (.int v91), .val (.int v92), .val (.int v93), .val (.ref b94), .val (.int (0 : Int32))] [(.int (0 : Int32)), (.int (spl4 (nar .byte (v90.toInt8.toInt32)) (nar .byte (v91.toInt8.toInt32)) (nar .byte (v92.toInt8.toInt32)) (nar .byte (v93.toInt8.toInt32))))])) t → Steps p.tables e below (s₁.setTop (entryFrame m #[(.int p0), (.int p1), (.int p2), (.int p3), (.int p4)] maxLocals)) t := fun t kk => pre112 t (by
          show Steps p.tables e below (T111.setTop (mkF m 119 #[.val (.int p0), .val (.int p1), .val (.int p2), .val (.int p3), .val (.int p4), .val (.int (4 : Int32)), .val (.int v90), .val (.int v91), .val (.int v92), .val (.int v93), .val (.ref b94), .unset] [(.int (goodF v91))])) _
          refine XS.ifYes X111.here hx rfl (pc0 := 119) (pc' := 154) rfl (hb hby at_119) rfl ((if0 _ _).trans (teq hc113).1) (by decide) (by decide) ?_
          show Steps p.tables e below (T111.setTop (mkF m 154 #[.val (.int p0), .val (.int p1), .val (.int p2), .val (.int p3), .val (.int p4), .val (.int (4 : Int32)), .val (.int v90), .val (.int v91), .val (.int v92), .val (.int v93), .val (.ref b94), .unset] [])) _
          refine XS.iconst X111.here hx rfl (hb hby at_154) ?_
          show Steps p.tables e below (T111.setTop (mkF m 155 #[.val (.int p0), .val (.int p1), .val (.int p2), .val (.int p3), .val (.int p4), .val (.int (4 : Int32)), .val (.int v90), .val (.int v91), .val (.int v92), .val (.int v93), .val (.ref b94), .unset] [(.int (0 : Int32))])) _
          refine XS.istore X111.here hx rfl (hb hby at_155) rfl (l' := #[.val (.int p0), .val (.int p1), .val (.int p2), .val (.int p3), .val (.int p4), .val (.int (4 : Int32)), .val (.int v90), .val (.int v91), .val (.int v92), .val (.int v93), .val (.ref b94), .val (.int (0 : Int32))]) rfl ?_
          show Steps p.tables e below (T111.setTop (mkF m 157 #[.val (.int p0), .val (.int p1), .val (.int p2), .val (.int p3), .val (.int p4), .val (.int (4 : Int32)), .val (.int v90), .val (.int v91), .val (.int v92), .val (.int v93), .val (.ref b94), .val (.int (0 : Int32))] [])) _
          refine XS.aload X111.here hx rfl (hb hby at_157) rfl rfl ?_
          show Steps p.tables e below (T111.setTop (mkF m 159 #[.val (.int p0), .val (.int p1), .val (.int p2), .val (.int p3), .val (.int p4), .val (.int (4 : Int32)), .val (.int v90), .val (.int v91), .val (.int v92), .val (.int v93), .val (.ref b94), .val (.int (0 : Int32))] [(.ref b94)])) _
          refine st114 _ ?_
          show Steps p.tables e below (T114.setTop (mkF m 162 #[.val (.int p0), .val (.int p1), .val (.int p2), .val (.int p3), .val (.int p4), .val (.int (4 : Int32)), .val (.int v90), .val (.int v91), .val (.int v92), .val (.int v93), .val (.ref b94), .val (.int (0 : Int32))] [(.int (spl4 (nar .byte (v90.toInt8.toInt32)) (nar .byte (v91.toInt8.toInt32)) (nar .byte (v92.toInt8.toInt32)) (nar .byte (v93.toInt8.toInt32))))])) _
          refine XS.iload X114.here hx rfl (hb hby at_162) rfl ?_
          exact kk)
        by_cases hc116 : (spl4 (nar .byte (v90.toInt8.toInt32)) (nar .byte (v91.toInt8.toInt32)) (nar .byte (v92.toInt8.toInt32)) (nar .byte (v93.toInt8.toInt32))) = (0 : Int32)
        · obtain ⟨fs, hr, hrun, hended, hW, hsame⟩ := X114.leave (v := some (.int (1 : Int32))) (fun h => by rw [Bd.returns] at h; cases h)
          refine ⟨_, _, pre115 _ ?_, hrun, hended, _, _, rfl, ?_, ⟨_, rfl⟩, hW, hsame.mono (by decide) (by decide)⟩
          · show Steps p.tables e below (T114.setTop (mkF m 164 #[.val (.int p0), .val (.int p1), .val (.int p2), .val (.int p3), .val (.int p4), .val (.int (4 : Int32)), .val (.int v90), .val (.int v91), .val (.int v92), .val (.int v93), .val (.ref b94), .val (.int (0 : Int32))] [(.int (0 : Int32)), (.int (spl4 (nar .byte (v90.toInt8.toInt32)) (nar .byte (v91.toInt8.toInt32)) (nar .byte (v92.toInt8.toInt32)) (nar .byte (v93.toInt8.toInt32))))])) _
            refine XS.icmpNo X114.here hx rfl (hb hby at_164) rfl (teq hc116).2 ?_
            show Steps p.tables e below (T114.setTop (mkF m 167 #[.val (.int p0), .val (.int p1), .val (.int p2), .val (.int p3), .val (.int p4), .val (.int (4 : Int32)), .val (.int v90), .val (.int v91), .val (.int v92), .val (.int v93), .val (.ref b94), .val (.int (0 : Int32))] [])) _
            refine XS.iconst X114.here hx rfl (hb hby at_167) ?_
            show Steps p.tables e below (T114.setTop (mkF m 168 #[.val (.int p0), .val (.int p1), .val (.int p2), .val (.int p3), .val (.int p4), .val (.int (4 : Int32)), .val (.int v90), .val (.int v91), .val (.int v92), .val (.int v93), .val (.ref b94), .val (.int (0 : Int32))] [(.int (1 : Int32))])) _
            refine XS.goto X114.here hx rfl (pc0 := 168) (pc' := 172) rfl (hb hby at_168) (by decide) (by decide) ?_
            show Steps p.tables e below (T114.setTop (mkF m 172 #[.val (.int p0), .val (.int p1), .val (.int p2), .val (.int p3), .val (.int p4), .val (.int (4 : Int32)), .val (.int v90), .val (.int v91), .val (.int v92), .val (.int v93), .val (.ref b94), .val (.int (0 : Int32))] [(.int (1 : Int32))])) _
            exact retN X114 hx (t := .boolean) Bd.returns (by simp) (hb hby at_172) hr
          · show Q0 h0 n0 _ T114.heap _
            rw [e114]
            exact ⟨rfl, N114⟩
        · obtain ⟨fs, hr, hrun, hended, hW, hsame⟩ := X114.leave (v := some (.int (0 : Int32))) (fun h => by rw [Bd.returns] at h; cases h)
          refine ⟨_, _, pre115 _ ?_, hrun, hended, _, _, rfl, ?_, ⟨_, rfl⟩, hW, hsame.mono (by decide) (by decide)⟩
          · show Steps p.tables e below (T114.setTop (mkF m 164 #[.val (.int p0), .val (.int p1), .val (.int p2), .val (.int p3), .val (.int p4), .val (.int (4 : Int32)), .val (.int v90), .val (.int v91), .val (.int v92), .val (.int v93), .val (.ref b94), .val (.int (0 : Int32))] [(.int (0 : Int32)), (.int (spl4 (nar .byte (v90.toInt8.toInt32)) (nar .byte (v91.toInt8.toInt32)) (nar .byte (v92.toInt8.toInt32)) (nar .byte (v93.toInt8.toInt32))))])) _
            refine XS.icmpYes X114.here hx rfl (pc0 := 164) (pc' := 171) rfl (hb hby at_164) rfl (feq hc116).2 (by decide) (by decide) ?_
            show Steps p.tables e below (T114.setTop (mkF m 171 #[.val (.int p0), .val (.int p1), .val (.int p2), .val (.int p3), .val (.int p4), .val (.int (4 : Int32)), .val (.int v90), .val (.int v91), .val (.int v92), .val (.int v93), .val (.ref b94), .val (.int (0 : Int32))] [])) _
            refine XS.iconst X114.here hx rfl (hb hby at_171) ?_
            show Steps p.tables e below (T114.setTop (mkF m 172 #[.val (.int p0), .val (.int p1), .val (.int p2), .val (.int p3), .val (.int p4), .val (.int (4 : Int32)), .val (.int v90), .val (.int v91), .val (.int v92), .val (.int v93), .val (.ref b94), .val (.int (0 : Int32))] [(.int (0 : Int32))])) _
            exact retN X114 hx (t := .boolean) Bd.returns (by simp) (hb hby at_172) hr
          · show Q0 h0 n0 _ T114.heap _
            rw [e114]
            exfalso
            have o0 := own_b p1; rw [← ev90] at o0
            have o1 := own_b p2; rw [← ev91] at o1
            have o2 := own_b p3; rw [← ev92] at o2
            have o3 := own_b p4; rw [← ev93] at o3
            simp only [spl4] at hc116
            grind
      · obtain ⟨_, _, ⟨T117, L117, k117, n117⟩, -, X117, ⟨Lc117, hQ117, l117, y117, z117⟩, st117⟩ := Jvm.LawKit.callS X111 hx (y := (⟨"com/example/onesnap/onesnap/node/SqlLexerSplitsAlikeUnderAnySettingsPinLaw", "good", "(I)Z"⟩ : MethodName)) hown (mvT hZ (hw _ (List.mem_of_getElem? (i := 6) rfl))) (mvT hZ (hw _ (List.mem_of_getElem? (i := 7) rfl))) (mvT hZ (hw _ (List.mem_of_getElem? (i := 8) rfl))) (mvT hZ (hw _ (List.mem_of_getElem? (i := 9) rfl))) (by decide) (backOf (W := 0) (rm2 l Z a0 hw [] v92 h102 n0 Zz105) hZ (hw _ (List.mem_of_getElem? (i := 9) rfl)) (hw _ (List.mem_of_getElem? (i := 8) rfl)) (by decide) (by decide)) (g := (mkF m 130 #[.val (.int p0), .val (.int p1), .val (.int p2), .val (.int p3), .val (.int p4), .val (.int (4 : Int32)), .val (.int v90), .val (.int v91), .val (.int v92), .val (.int v93), .val (.ref b94), .unset] [(.int v92)])) rfl (by rw [hml]; rfl) (argsL := [(.int v92)]) (rest := []) (lenOf pd__28I_29Z rfl) rfl (by show 2 * 0 + _ ≤ _; exact Nat.le_of_eq rfl) (hb hby at_130) (fun _ _ => ⟨rfl, e111, (by decide : 1 + 0 ≤ _), (by decide : 4 + 0 ≤ _)⟩)
        dsimp only [Pt.U, Pt.locs, Pt.cells, Pt.slots] at X117 l117 y117 z117 st117 hQ117
        subst l117 y117 z117
        obtain ⟨rfl, N117q, e117⟩ := hQ117
        have N117 := Fr.app N111 N117q
        have pre118 : ∀ t, Steps p.tables e below (T117.setTop (mkF m 133 #[.val (.int p0), .val (.int p1), .val (.int p2), .val (.int p3), .val (.int p4), .val (.int (4 : Int32)), .val (.int v90), .val (.int v91), .val (.int v92), .val (.int v93), .val (.ref b94), .unset] [(.int (goodF v92))])) t → Steps p.tables e below (s₁.setTop (entryFrame m #[(.int p0), (.int p1), (.int p2), (.int p3), (.int p4)] maxLocals)) t := fun t kk => pre112 t (by
          show Steps p.tables e below (T111.setTop (mkF m 119 #[.val (.int p0), .val (.int p1), .val (.int p2), .val (.int p3), .val (.int p4), .val (.int (4 : Int32)), .val (.int v90), .val (.int v91), .val (.int v92), .val (.int v93), .val (.ref b94), .unset] [(.int (goodF v91))])) _
          refine XS.ifNo X111.here hx rfl (hb hby at_119) rfl ((if0 _ _).trans (feq hc113).1) ?_
          show Steps p.tables e below (T111.setTop (mkF m 122 #[.val (.int p0), .val (.int p1), .val (.int p2), .val (.int p3), .val (.int p4), .val (.int (4 : Int32)), .val (.int v90), .val (.int v91), .val (.int v92), .val (.int v93), .val (.ref b94), .unset] [])) _
          refine XS.iload X111.here hx rfl (hb hby at_122) rfl ?_
          show Steps p.tables e below (T111.setTop (mkF m 124 #[.val (.int p0), .val (.int p1), .val (.int p2), .val (.int p3), .val (.int p4), .val (.int (4 : Int32)), .val (.int v90), .val (.int v91), .val (.int v92), .val (.int v93), .val (.ref b94), .unset] [(.int (4 : Int32))])) _
          refine XS.iconst X111.here hx rfl (hb hby at_124) ?_
          show Steps p.tables e below (T111.setTop (mkF m 125 #[.val (.int p0), .val (.int p1), .val (.int p2), .val (.int p3), .val (.int p4), .val (.int (4 : Int32)), .val (.int v90), .val (.int v91), .val (.int v92), .val (.int v93), .val (.ref b94), .unset] [(.int (3 : Int32)), (.int (4 : Int32))])) _
          refine XS.icmpNo X111.here hx rfl (hb hby at_125) rfl (flt (by decide)).1 ?_
          show Steps p.tables e below (T111.setTop (mkF m 128 #[.val (.int p0), .val (.int p1), .val (.int p2), .val (.int p3), .val (.int p4), .val (.int (4 : Int32)), .val (.int v90), .val (.int v91), .val (.int v92), .val (.int v93), .val (.ref b94), .unset] [])) _
          refine XS.iload X111.here hx rfl (hb hby at_128) rfl ?_
          show Steps p.tables e below (T111.setTop (mkF m 130 #[.val (.int p0), .val (.int p1), .val (.int p2), .val (.int p3), .val (.int p4), .val (.int (4 : Int32)), .val (.int v90), .val (.int v91), .val (.int v92), .val (.int v93), .val (.ref b94), .unset] [(.int v92)])) _
          refine st117 _ ?_
          exact kk)
        by_cases hc119 : (goodF v92) = (0 : Int32)
        · obtain ⟨_, _, ⟨T120, L120, k120, n120⟩, -, X120, ⟨Lc120, hQ120, l120, y120, z120⟩, st120⟩ := Jvm.LawKit.callS X117 hx (y := (⟨"com/example/onesnap/onesnap/node/SqlLexer", "splitsAlikeUnderAnySettings", "([B)Z"⟩ : MethodName)) hown (mvT hZ (hw _ (List.mem_of_getElem? (i := 2) rfl))) (mvT hZ (hw _ (List.mem_of_getElem? (i := 3) rfl))) (mvT hZ (hw _ (List.mem_of_getElem? (i := 4) rfl))) (mvT hZ (hw _ (List.mem_of_getElem? (i := 5) rfl))) (by decide) (backOf (W := 0) (rm1_4 l Z a0 hw [] b94 k94 (nar .byte (v90.toInt8.toInt32)) (nar .byte (v91.toInt8.toInt32)) (nar .byte (v92.toInt8.toInt32)) (nar .byte (v93.toInt8.toInt32)) h102 n0 Zz105 V102) hZ (hw _ (List.mem_of_getElem? (i := 5) rfl)) (hw _ (List.mem_of_getElem? (i := 4) rfl)) (by decide) (by decide)) (g := (mkF m 159 #[.val (.int p0), .val (.int p1), .val (.int p2), .val (.int p3), .val (.int p4), .val (.int (4 : Int32)), .val (.int v90), .val (.int v91), .val (.int v92), .val (.int v93), .val (.ref b94), .val (.int (0 : Int32))] [(.ref b94)])) rfl (by rw [hml]; rfl) (argsL := [(.ref b94)]) (rest := []) (lenOf pd__28_5bB_29Z rfl) rfl (by show 2 * 0 + _ ≤ _; exact Nat.le_of_eq rfl) (hb hby at_159) (fun _ _ => ⟨rfl, e117, (by decide : 1 + 0 ≤ _), (by decide : 4 + 0 ≤ _)⟩)
          dsimp only [Pt.U, Pt.locs, Pt.cells, Pt.slots] at X120 l120 y120 z120 st120 hQ120
          subst l120 y120 z120
          obtain ⟨rfl, N120q, e120⟩ := hQ120
          have N120 := Fr.app N117 N120q
          have pre121 : ∀ t, Steps p.tables e below (T120.setTop (mkF m 164 #[.val (.int p0), .val (.int p1), .val (.int p2), .val (.int p3), .val (.int p4), .val (.int (4 : Int32)), .val (.int v90), .val (.int v91), .val (.int v92), .val (.int v93), .val (.ref b94), .val (.int (0 : Int32))] [(.int (0 : Int32)), (.int (spl4 (nar .byte (v90.toInt8.toInt32)) (nar .byte (v91.toInt8.toInt32)) (nar .byte (v92.toInt8.toInt32)) (nar .byte (v93.toInt8.toInt32))))])) t → Steps p.tables e below (s₁.setTop (entryFrame m #[(.int p0), (.int p1), (.int p2), (.int p3), (.int p4)] maxLocals)) t := fun t kk => pre118 t (by
            show Steps p.tables e below (T117.setTop (mkF m 133 #[.val (.int p0), .val (.int p1), .val (.int p2), .val (.int p3), .val (.int p4), .val (.int (4 : Int32)), .val (.int v90), .val (.int v91), .val (.int v92), .val (.int v93), .val (.ref b94), .unset] [(.int (goodF v92))])) _
            refine XS.ifYes X117.here hx rfl (pc0 := 133) (pc' := 154) rfl (hb hby at_133) rfl ((if0 _ _).trans (teq hc119).1) (by decide) (by decide) ?_
            show Steps p.tables e below (T117.setTop (mkF m 154 #[.val (.int p0), .val (.int p1), .val (.int p2), .val (.int p3), .val (.int p4), .val (.int (4 : Int32)), .val (.int v90), .val (.int v91), .val (.int v92), .val (.int v93), .val (.ref b94), .unset] [])) _
            refine XS.iconst X117.here hx rfl (hb hby at_154) ?_
            show Steps p.tables e below (T117.setTop (mkF m 155 #[.val (.int p0), .val (.int p1), .val (.int p2), .val (.int p3), .val (.int p4), .val (.int (4 : Int32)), .val (.int v90), .val (.int v91), .val (.int v92), .val (.int v93), .val (.ref b94), .unset] [(.int (0 : Int32))])) _
            refine XS.istore X117.here hx rfl (hb hby at_155) rfl (l' := #[.val (.int p0), .val (.int p1), .val (.int p2), .val (.int p3), .val (.int p4), .val (.int (4 : Int32)), .val (.int v90), .val (.int v91), .val (.int v92), .val (.int v93), .val (.ref b94), .val (.int (0 : Int32))]) rfl ?_
            show Steps p.tables e below (T117.setTop (mkF m 157 #[.val (.int p0), .val (.int p1), .val (.int p2), .val (.int p3), .val (.int p4), .val (.int (4 : Int32)), .val (.int v90), .val (.int v91), .val (.int v92), .val (.int v93), .val (.ref b94), .val (.int (0 : Int32))] [])) _
            refine XS.aload X117.here hx rfl (hb hby at_157) rfl rfl ?_
            show Steps p.tables e below (T117.setTop (mkF m 159 #[.val (.int p0), .val (.int p1), .val (.int p2), .val (.int p3), .val (.int p4), .val (.int (4 : Int32)), .val (.int v90), .val (.int v91), .val (.int v92), .val (.int v93), .val (.ref b94), .val (.int (0 : Int32))] [(.ref b94)])) _
            refine st120 _ ?_
            show Steps p.tables e below (T120.setTop (mkF m 162 #[.val (.int p0), .val (.int p1), .val (.int p2), .val (.int p3), .val (.int p4), .val (.int (4 : Int32)), .val (.int v90), .val (.int v91), .val (.int v92), .val (.int v93), .val (.ref b94), .val (.int (0 : Int32))] [(.int (spl4 (nar .byte (v90.toInt8.toInt32)) (nar .byte (v91.toInt8.toInt32)) (nar .byte (v92.toInt8.toInt32)) (nar .byte (v93.toInt8.toInt32))))])) _
            refine XS.iload X120.here hx rfl (hb hby at_162) rfl ?_
            exact kk)
          by_cases hc122 : (spl4 (nar .byte (v90.toInt8.toInt32)) (nar .byte (v91.toInt8.toInt32)) (nar .byte (v92.toInt8.toInt32)) (nar .byte (v93.toInt8.toInt32))) = (0 : Int32)
          · obtain ⟨fs, hr, hrun, hended, hW, hsame⟩ := X120.leave (v := some (.int (1 : Int32))) (fun h => by rw [Bd.returns] at h; cases h)
            refine ⟨_, _, pre121 _ ?_, hrun, hended, _, _, rfl, ?_, ⟨_, rfl⟩, hW, hsame.mono (by decide) (by decide)⟩
            · show Steps p.tables e below (T120.setTop (mkF m 164 #[.val (.int p0), .val (.int p1), .val (.int p2), .val (.int p3), .val (.int p4), .val (.int (4 : Int32)), .val (.int v90), .val (.int v91), .val (.int v92), .val (.int v93), .val (.ref b94), .val (.int (0 : Int32))] [(.int (0 : Int32)), (.int (spl4 (nar .byte (v90.toInt8.toInt32)) (nar .byte (v91.toInt8.toInt32)) (nar .byte (v92.toInt8.toInt32)) (nar .byte (v93.toInt8.toInt32))))])) _
              refine XS.icmpNo X120.here hx rfl (hb hby at_164) rfl (teq hc122).2 ?_
              show Steps p.tables e below (T120.setTop (mkF m 167 #[.val (.int p0), .val (.int p1), .val (.int p2), .val (.int p3), .val (.int p4), .val (.int (4 : Int32)), .val (.int v90), .val (.int v91), .val (.int v92), .val (.int v93), .val (.ref b94), .val (.int (0 : Int32))] [])) _
              refine XS.iconst X120.here hx rfl (hb hby at_167) ?_
              show Steps p.tables e below (T120.setTop (mkF m 168 #[.val (.int p0), .val (.int p1), .val (.int p2), .val (.int p3), .val (.int p4), .val (.int (4 : Int32)), .val (.int v90), .val (.int v91), .val (.int v92), .val (.int v93), .val (.ref b94), .val (.int (0 : Int32))] [(.int (1 : Int32))])) _
              refine XS.goto X120.here hx rfl (pc0 := 168) (pc' := 172) rfl (hb hby at_168) (by decide) (by decide) ?_
              show Steps p.tables e below (T120.setTop (mkF m 172 #[.val (.int p0), .val (.int p1), .val (.int p2), .val (.int p3), .val (.int p4), .val (.int (4 : Int32)), .val (.int v90), .val (.int v91), .val (.int v92), .val (.int v93), .val (.ref b94), .val (.int (0 : Int32))] [(.int (1 : Int32))])) _
              exact retN X120 hx (t := .boolean) Bd.returns (by simp) (hb hby at_172) hr
            · show Q0 h0 n0 _ T120.heap _
              rw [e120]
              exact ⟨rfl, N120⟩
          · obtain ⟨fs, hr, hrun, hended, hW, hsame⟩ := X120.leave (v := some (.int (0 : Int32))) (fun h => by rw [Bd.returns] at h; cases h)
            refine ⟨_, _, pre121 _ ?_, hrun, hended, _, _, rfl, ?_, ⟨_, rfl⟩, hW, hsame.mono (by decide) (by decide)⟩
            · show Steps p.tables e below (T120.setTop (mkF m 164 #[.val (.int p0), .val (.int p1), .val (.int p2), .val (.int p3), .val (.int p4), .val (.int (4 : Int32)), .val (.int v90), .val (.int v91), .val (.int v92), .val (.int v93), .val (.ref b94), .val (.int (0 : Int32))] [(.int (0 : Int32)), (.int (spl4 (nar .byte (v90.toInt8.toInt32)) (nar .byte (v91.toInt8.toInt32)) (nar .byte (v92.toInt8.toInt32)) (nar .byte (v93.toInt8.toInt32))))])) _
              refine XS.icmpYes X120.here hx rfl (pc0 := 164) (pc' := 171) rfl (hb hby at_164) rfl (feq hc122).2 (by decide) (by decide) ?_
              show Steps p.tables e below (T120.setTop (mkF m 171 #[.val (.int p0), .val (.int p1), .val (.int p2), .val (.int p3), .val (.int p4), .val (.int (4 : Int32)), .val (.int v90), .val (.int v91), .val (.int v92), .val (.int v93), .val (.ref b94), .val (.int (0 : Int32))] [])) _
              refine XS.iconst X120.here hx rfl (hb hby at_171) ?_
              show Steps p.tables e below (T120.setTop (mkF m 172 #[.val (.int p0), .val (.int p1), .val (.int p2), .val (.int p3), .val (.int p4), .val (.int (4 : Int32)), .val (.int v90), .val (.int v91), .val (.int v92), .val (.int v93), .val (.ref b94), .val (.int (0 : Int32))] [(.int (0 : Int32))])) _
              exact retN X120 hx (t := .boolean) Bd.returns (by simp) (hb hby at_172) hr
            · show Q0 h0 n0 _ T120.heap _
              rw [e120]
              exfalso
              have o0 := own_b p1; rw [← ev90] at o0
              have o1 := own_b p2; rw [← ev91] at o1
              have o2 := own_b p3; rw [← ev92] at o2
              have o3 := own_b p4; rw [← ev93] at o3
              simp only [spl4] at hc122
              grind
        · obtain ⟨_, _, ⟨T123, L123, k123, n123⟩, -, X123, ⟨Lc123, hQ123, l123, y123, z123⟩, st123⟩ := Jvm.LawKit.callS X117 hx (y := (⟨"com/example/onesnap/onesnap/node/SqlLexerSplitsAlikeUnderAnySettingsPinLaw", "good", "(I)Z"⟩ : MethodName)) hown (mvT hZ (hw _ (List.mem_of_getElem? (i := 6) rfl))) (mvT hZ (hw _ (List.mem_of_getElem? (i := 7) rfl))) (mvT hZ (hw _ (List.mem_of_getElem? (i := 8) rfl))) (mvT hZ (hw _ (List.mem_of_getElem? (i := 9) rfl))) (by decide) (backOf (W := 0) (rm2 l Z a0 hw [] v93 h102 n0 Zz105) hZ (hw _ (List.mem_of_getElem? (i := 9) rfl)) (hw _ (List.mem_of_getElem? (i := 8) rfl)) (by decide) (by decide)) (g := (mkF m 144 #[.val (.int p0), .val (.int p1), .val (.int p2), .val (.int p3), .val (.int p4), .val (.int (4 : Int32)), .val (.int v90), .val (.int v91), .val (.int v92), .val (.int v93), .val (.ref b94), .unset] [(.int v93)])) rfl (by rw [hml]; rfl) (argsL := [(.int v93)]) (rest := []) (lenOf pd__28I_29Z rfl) rfl (by show 2 * 0 + _ ≤ _; exact Nat.le_of_eq rfl) (hb hby at_144) (fun _ _ => ⟨rfl, e117, (by decide : 1 + 0 ≤ _), (by decide : 4 + 0 ≤ _)⟩)
          dsimp only [Pt.U, Pt.locs, Pt.cells, Pt.slots] at X123 l123 y123 z123 st123 hQ123
          subst l123 y123 z123
          obtain ⟨rfl, N123q, e123⟩ := hQ123
          have N123 := Fr.app N117 N123q
          have pre124 : ∀ t, Steps p.tables e below (T123.setTop (mkF m 147 #[.val (.int p0), .val (.int p1), .val (.int p2), .val (.int p3), .val (.int p4), .val (.int (4 : Int32)), .val (.int v90), .val (.int v91), .val (.int v92), .val (.int v93), .val (.ref b94), .unset] [(.int (goodF v93))])) t → Steps p.tables e below (s₁.setTop (entryFrame m #[(.int p0), (.int p1), (.int p2), (.int p3), (.int p4)] maxLocals)) t := fun t kk => pre118 t (by
            show Steps p.tables e below (T117.setTop (mkF m 133 #[.val (.int p0), .val (.int p1), .val (.int p2), .val (.int p3), .val (.int p4), .val (.int (4 : Int32)), .val (.int v90), .val (.int v91), .val (.int v92), .val (.int v93), .val (.ref b94), .unset] [(.int (goodF v92))])) _
            refine XS.ifNo X117.here hx rfl (hb hby at_133) rfl ((if0 _ _).trans (feq hc119).1) ?_
            show Steps p.tables e below (T117.setTop (mkF m 136 #[.val (.int p0), .val (.int p1), .val (.int p2), .val (.int p3), .val (.int p4), .val (.int (4 : Int32)), .val (.int v90), .val (.int v91), .val (.int v92), .val (.int v93), .val (.ref b94), .unset] [])) _
            refine XS.iload X117.here hx rfl (hb hby at_136) rfl ?_
            show Steps p.tables e below (T117.setTop (mkF m 138 #[.val (.int p0), .val (.int p1), .val (.int p2), .val (.int p3), .val (.int p4), .val (.int (4 : Int32)), .val (.int v90), .val (.int v91), .val (.int v92), .val (.int v93), .val (.ref b94), .unset] [(.int (4 : Int32))])) _
            refine XS.iconst X117.here hx rfl (hb hby at_138) ?_
            show Steps p.tables e below (T117.setTop (mkF m 139 #[.val (.int p0), .val (.int p1), .val (.int p2), .val (.int p3), .val (.int p4), .val (.int (4 : Int32)), .val (.int v90), .val (.int v91), .val (.int v92), .val (.int v93), .val (.ref b94), .unset] [(.int (4 : Int32)), (.int (4 : Int32))])) _
            refine XS.icmpNo X117.here hx rfl (hb hby at_139) rfl (flt (by decide)).1 ?_
            show Steps p.tables e below (T117.setTop (mkF m 142 #[.val (.int p0), .val (.int p1), .val (.int p2), .val (.int p3), .val (.int p4), .val (.int (4 : Int32)), .val (.int v90), .val (.int v91), .val (.int v92), .val (.int v93), .val (.ref b94), .unset] [])) _
            refine XS.iload X117.here hx rfl (hb hby at_142) rfl ?_
            show Steps p.tables e below (T117.setTop (mkF m 144 #[.val (.int p0), .val (.int p1), .val (.int p2), .val (.int p3), .val (.int p4), .val (.int (4 : Int32)), .val (.int v90), .val (.int v91), .val (.int v92), .val (.int v93), .val (.ref b94), .unset] [(.int v93)])) _
            refine st123 _ ?_
            exact kk)
          by_cases hc125 : (goodF v93) = (0 : Int32)
          · obtain ⟨_, _, ⟨T126, L126, k126, n126⟩, -, X126, ⟨Lc126, hQ126, l126, y126, z126⟩, st126⟩ := Jvm.LawKit.callS X123 hx (y := (⟨"com/example/onesnap/onesnap/node/SqlLexer", "splitsAlikeUnderAnySettings", "([B)Z"⟩ : MethodName)) hown (mvT hZ (hw _ (List.mem_of_getElem? (i := 2) rfl))) (mvT hZ (hw _ (List.mem_of_getElem? (i := 3) rfl))) (mvT hZ (hw _ (List.mem_of_getElem? (i := 4) rfl))) (mvT hZ (hw _ (List.mem_of_getElem? (i := 5) rfl))) (by decide) (backOf (W := 0) (rm1_4 l Z a0 hw [] b94 k94 (nar .byte (v90.toInt8.toInt32)) (nar .byte (v91.toInt8.toInt32)) (nar .byte (v92.toInt8.toInt32)) (nar .byte (v93.toInt8.toInt32)) h102 n0 Zz105 V102) hZ (hw _ (List.mem_of_getElem? (i := 5) rfl)) (hw _ (List.mem_of_getElem? (i := 4) rfl)) (by decide) (by decide)) (g := (mkF m 159 #[.val (.int p0), .val (.int p1), .val (.int p2), .val (.int p3), .val (.int p4), .val (.int (4 : Int32)), .val (.int v90), .val (.int v91), .val (.int v92), .val (.int v93), .val (.ref b94), .val (.int (0 : Int32))] [(.ref b94)])) rfl (by rw [hml]; rfl) (argsL := [(.ref b94)]) (rest := []) (lenOf pd__28_5bB_29Z rfl) rfl (by show 2 * 0 + _ ≤ _; exact Nat.le_of_eq rfl) (hb hby at_159) (fun _ _ => ⟨rfl, e123, (by decide : 1 + 0 ≤ _), (by decide : 4 + 0 ≤ _)⟩)
            dsimp only [Pt.U, Pt.locs, Pt.cells, Pt.slots] at X126 l126 y126 z126 st126 hQ126
            subst l126 y126 z126
            obtain ⟨rfl, N126q, e126⟩ := hQ126
            have N126 := Fr.app N123 N126q
            have pre127 : ∀ t, Steps p.tables e below (T126.setTop (mkF m 164 #[.val (.int p0), .val (.int p1), .val (.int p2), .val (.int p3), .val (.int p4), .val (.int (4 : Int32)), .val (.int v90), .val (.int v91), .val (.int v92), .val (.int v93), .val (.ref b94), .val (.int (0 : Int32))] [(.int (0 : Int32)), (.int (spl4 (nar .byte (v90.toInt8.toInt32)) (nar .byte (v91.toInt8.toInt32)) (nar .byte (v92.toInt8.toInt32)) (nar .byte (v93.toInt8.toInt32))))])) t → Steps p.tables e below (s₁.setTop (entryFrame m #[(.int p0), (.int p1), (.int p2), (.int p3), (.int p4)] maxLocals)) t := fun t kk => pre124 t (by
              show Steps p.tables e below (T123.setTop (mkF m 147 #[.val (.int p0), .val (.int p1), .val (.int p2), .val (.int p3), .val (.int p4), .val (.int (4 : Int32)), .val (.int v90), .val (.int v91), .val (.int v92), .val (.int v93), .val (.ref b94), .unset] [(.int (goodF v93))])) _
              refine XS.ifYes X123.here hx rfl (pc0 := 147) (pc' := 154) rfl (hb hby at_147) rfl ((if0 _ _).trans (teq hc125).1) (by decide) (by decide) ?_
              show Steps p.tables e below (T123.setTop (mkF m 154 #[.val (.int p0), .val (.int p1), .val (.int p2), .val (.int p3), .val (.int p4), .val (.int (4 : Int32)), .val (.int v90), .val (.int v91), .val (.int v92), .val (.int v93), .val (.ref b94), .unset] [])) _
              refine XS.iconst X123.here hx rfl (hb hby at_154) ?_
              show Steps p.tables e below (T123.setTop (mkF m 155 #[.val (.int p0), .val (.int p1), .val (.int p2), .val (.int p3), .val (.int p4), .val (.int (4 : Int32)), .val (.int v90), .val (.int v91), .val (.int v92), .val (.int v93), .val (.ref b94), .unset] [(.int (0 : Int32))])) _
              refine XS.istore X123.here hx rfl (hb hby at_155) rfl (l' := #[.val (.int p0), .val (.int p1), .val (.int p2), .val (.int p3), .val (.int p4), .val (.int (4 : Int32)), .val (.int v90), .val (.int v91), .val (.int v92), .val (.int v93), .val (.ref b94), .val (.int (0 : Int32))]) rfl ?_
              show Steps p.tables e below (T123.setTop (mkF m 157 #[.val (.int p0), .val (.int p1), .val (.int p2), .val (.int p3), .val (.int p4), .val (.int (4 : Int32)), .val (.int v90), .val (.int v91), .val (.int v92), .val (.int v93), .val (.ref b94), .val (.int (0 : Int32))] [])) _
              refine XS.aload X123.here hx rfl (hb hby at_157) rfl rfl ?_
              show Steps p.tables e below (T123.setTop (mkF m 159 #[.val (.int p0), .val (.int p1), .val (.int p2), .val (.int p3), .val (.int p4), .val (.int (4 : Int32)), .val (.int v90), .val (.int v91), .val (.int v92), .val (.int v93), .val (.ref b94), .val (.int (0 : Int32))] [(.ref b94)])) _
              refine st126 _ ?_
              show Steps p.tables e below (T126.setTop (mkF m 162 #[.val (.int p0), .val (.int p1), .val (.int p2), .val (.int p3), .val (.int p4), .val (.int (4 : Int32)), .val (.int v90), .val (.int v91), .val (.int v92), .val (.int v93), .val (.ref b94), .val (.int (0 : Int32))] [(.int (spl4 (nar .byte (v90.toInt8.toInt32)) (nar .byte (v91.toInt8.toInt32)) (nar .byte (v92.toInt8.toInt32)) (nar .byte (v93.toInt8.toInt32))))])) _
              refine XS.iload X126.here hx rfl (hb hby at_162) rfl ?_
              exact kk)
            by_cases hc128 : (spl4 (nar .byte (v90.toInt8.toInt32)) (nar .byte (v91.toInt8.toInt32)) (nar .byte (v92.toInt8.toInt32)) (nar .byte (v93.toInt8.toInt32))) = (0 : Int32)
            · obtain ⟨fs, hr, hrun, hended, hW, hsame⟩ := X126.leave (v := some (.int (1 : Int32))) (fun h => by rw [Bd.returns] at h; cases h)
              refine ⟨_, _, pre127 _ ?_, hrun, hended, _, _, rfl, ?_, ⟨_, rfl⟩, hW, hsame.mono (by decide) (by decide)⟩
              · show Steps p.tables e below (T126.setTop (mkF m 164 #[.val (.int p0), .val (.int p1), .val (.int p2), .val (.int p3), .val (.int p4), .val (.int (4 : Int32)), .val (.int v90), .val (.int v91), .val (.int v92), .val (.int v93), .val (.ref b94), .val (.int (0 : Int32))] [(.int (0 : Int32)), (.int (spl4 (nar .byte (v90.toInt8.toInt32)) (nar .byte (v91.toInt8.toInt32)) (nar .byte (v92.toInt8.toInt32)) (nar .byte (v93.toInt8.toInt32))))])) _
                refine XS.icmpNo X126.here hx rfl (hb hby at_164) rfl (teq hc128).2 ?_
                show Steps p.tables e below (T126.setTop (mkF m 167 #[.val (.int p0), .val (.int p1), .val (.int p2), .val (.int p3), .val (.int p4), .val (.int (4 : Int32)), .val (.int v90), .val (.int v91), .val (.int v92), .val (.int v93), .val (.ref b94), .val (.int (0 : Int32))] [])) _
                refine XS.iconst X126.here hx rfl (hb hby at_167) ?_
                show Steps p.tables e below (T126.setTop (mkF m 168 #[.val (.int p0), .val (.int p1), .val (.int p2), .val (.int p3), .val (.int p4), .val (.int (4 : Int32)), .val (.int v90), .val (.int v91), .val (.int v92), .val (.int v93), .val (.ref b94), .val (.int (0 : Int32))] [(.int (1 : Int32))])) _
                refine XS.goto X126.here hx rfl (pc0 := 168) (pc' := 172) rfl (hb hby at_168) (by decide) (by decide) ?_
                show Steps p.tables e below (T126.setTop (mkF m 172 #[.val (.int p0), .val (.int p1), .val (.int p2), .val (.int p3), .val (.int p4), .val (.int (4 : Int32)), .val (.int v90), .val (.int v91), .val (.int v92), .val (.int v93), .val (.ref b94), .val (.int (0 : Int32))] [(.int (1 : Int32))])) _
                exact retN X126 hx (t := .boolean) Bd.returns (by simp) (hb hby at_172) hr
              · show Q0 h0 n0 _ T126.heap _
                rw [e126]
                exact ⟨rfl, N126⟩
            · obtain ⟨fs, hr, hrun, hended, hW, hsame⟩ := X126.leave (v := some (.int (0 : Int32))) (fun h => by rw [Bd.returns] at h; cases h)
              refine ⟨_, _, pre127 _ ?_, hrun, hended, _, _, rfl, ?_, ⟨_, rfl⟩, hW, hsame.mono (by decide) (by decide)⟩
              · show Steps p.tables e below (T126.setTop (mkF m 164 #[.val (.int p0), .val (.int p1), .val (.int p2), .val (.int p3), .val (.int p4), .val (.int (4 : Int32)), .val (.int v90), .val (.int v91), .val (.int v92), .val (.int v93), .val (.ref b94), .val (.int (0 : Int32))] [(.int (0 : Int32)), (.int (spl4 (nar .byte (v90.toInt8.toInt32)) (nar .byte (v91.toInt8.toInt32)) (nar .byte (v92.toInt8.toInt32)) (nar .byte (v93.toInt8.toInt32))))])) _
                refine XS.icmpYes X126.here hx rfl (pc0 := 164) (pc' := 171) rfl (hb hby at_164) rfl (feq hc128).2 (by decide) (by decide) ?_
                show Steps p.tables e below (T126.setTop (mkF m 171 #[.val (.int p0), .val (.int p1), .val (.int p2), .val (.int p3), .val (.int p4), .val (.int (4 : Int32)), .val (.int v90), .val (.int v91), .val (.int v92), .val (.int v93), .val (.ref b94), .val (.int (0 : Int32))] [])) _
                refine XS.iconst X126.here hx rfl (hb hby at_171) ?_
                show Steps p.tables e below (T126.setTop (mkF m 172 #[.val (.int p0), .val (.int p1), .val (.int p2), .val (.int p3), .val (.int p4), .val (.int (4 : Int32)), .val (.int v90), .val (.int v91), .val (.int v92), .val (.int v93), .val (.ref b94), .val (.int (0 : Int32))] [(.int (0 : Int32))])) _
                exact retN X126 hx (t := .boolean) Bd.returns (by simp) (hb hby at_172) hr
              · show Q0 h0 n0 _ T126.heap _
                rw [e126]
                exfalso
                have o0 := own_b p1; rw [← ev90] at o0
                have o1 := own_b p2; rw [← ev91] at o1
                have o2 := own_b p3; rw [← ev92] at o2
                have o3 := own_b p4; rw [← ev93] at o3
                simp only [spl4] at hc128
                grind
          · obtain ⟨_, _, ⟨T129, L129, k129, n129⟩, -, X129, ⟨Lc129, hQ129, l129, y129, z129⟩, st129⟩ := Jvm.LawKit.callS X123 hx (y := (⟨"com/example/onesnap/onesnap/node/SqlLexer", "splitsAlikeUnderAnySettings", "([B)Z"⟩ : MethodName)) hown (mvT hZ (hw _ (List.mem_of_getElem? (i := 2) rfl))) (mvT hZ (hw _ (List.mem_of_getElem? (i := 3) rfl))) (mvT hZ (hw _ (List.mem_of_getElem? (i := 4) rfl))) (mvT hZ (hw _ (List.mem_of_getElem? (i := 5) rfl))) (by decide) (backOf (W := 0) (rm1_4 l Z a0 hw [] b94 k94 (nar .byte (v90.toInt8.toInt32)) (nar .byte (v91.toInt8.toInt32)) (nar .byte (v92.toInt8.toInt32)) (nar .byte (v93.toInt8.toInt32)) h102 n0 Zz105 V102) hZ (hw _ (List.mem_of_getElem? (i := 5) rfl)) (hw _ (List.mem_of_getElem? (i := 4) rfl)) (by decide) (by decide)) (g := (mkF m 159 #[.val (.int p0), .val (.int p1), .val (.int p2), .val (.int p3), .val (.int p4), .val (.int (4 : Int32)), .val (.int v90), .val (.int v91), .val (.int v92), .val (.int v93), .val (.ref b94), .val (.int (1 : Int32))] [(.ref b94)])) rfl (by rw [hml]; rfl) (argsL := [(.ref b94)]) (rest := []) (lenOf pd__28_5bB_29Z rfl) rfl (by show 2 * 0 + _ ≤ _; exact Nat.le_of_eq rfl) (hb hby at_159) (fun _ _ => ⟨rfl, e123, (by decide : 1 + 0 ≤ _), (by decide : 4 + 0 ≤ _)⟩)
            dsimp only [Pt.U, Pt.locs, Pt.cells, Pt.slots] at X129 l129 y129 z129 st129 hQ129
            subst l129 y129 z129
            obtain ⟨rfl, N129q, e129⟩ := hQ129
            have N129 := Fr.app N123 N129q
            have pre130 : ∀ t, Steps p.tables e below (T129.setTop (mkF m 164 #[.val (.int p0), .val (.int p1), .val (.int p2), .val (.int p3), .val (.int p4), .val (.int (4 : Int32)), .val (.int v90), .val (.int v91), .val (.int v92), .val (.int v93), .val (.ref b94), .val (.int (1 : Int32))] [(.int (1 : Int32)), (.int (spl4 (nar .byte (v90.toInt8.toInt32)) (nar .byte (v91.toInt8.toInt32)) (nar .byte (v92.toInt8.toInt32)) (nar .byte (v93.toInt8.toInt32))))])) t → Steps p.tables e below (s₁.setTop (entryFrame m #[(.int p0), (.int p1), (.int p2), (.int p3), (.int p4)] maxLocals)) t := fun t kk => pre124 t (by
              show Steps p.tables e below (T123.setTop (mkF m 147 #[.val (.int p0), .val (.int p1), .val (.int p2), .val (.int p3), .val (.int p4), .val (.int (4 : Int32)), .val (.int v90), .val (.int v91), .val (.int v92), .val (.int v93), .val (.ref b94), .unset] [(.int (goodF v93))])) _
              refine XS.ifNo X123.here hx rfl (hb hby at_147) rfl ((if0 _ _).trans (feq hc125).1) ?_
              show Steps p.tables e below (T123.setTop (mkF m 150 #[.val (.int p0), .val (.int p1), .val (.int p2), .val (.int p3), .val (.int p4), .val (.int (4 : Int32)), .val (.int v90), .val (.int v91), .val (.int v92), .val (.int v93), .val (.ref b94), .unset] [])) _
              refine XS.iconst X123.here hx rfl (hb hby at_150) ?_
              show Steps p.tables e below (T123.setTop (mkF m 151 #[.val (.int p0), .val (.int p1), .val (.int p2), .val (.int p3), .val (.int p4), .val (.int (4 : Int32)), .val (.int v90), .val (.int v91), .val (.int v92), .val (.int v93), .val (.ref b94), .unset] [(.int (1 : Int32))])) _
              refine XS.goto X123.here hx rfl (pc0 := 151) (pc' := 155) rfl (hb hby at_151) (by decide) (by decide) ?_
              show Steps p.tables e below (T123.setTop (mkF m 155 #[.val (.int p0), .val (.int p1), .val (.int p2), .val (.int p3), .val (.int p4), .val (.int (4 : Int32)), .val (.int v90), .val (.int v91), .val (.int v92), .val (.int v93), .val (.ref b94), .unset] [(.int (1 : Int32))])) _
              refine XS.istore X123.here hx rfl (hb hby at_155) rfl (l' := #[.val (.int p0), .val (.int p1), .val (.int p2), .val (.int p3), .val (.int p4), .val (.int (4 : Int32)), .val (.int v90), .val (.int v91), .val (.int v92), .val (.int v93), .val (.ref b94), .val (.int (1 : Int32))]) rfl ?_
              show Steps p.tables e below (T123.setTop (mkF m 157 #[.val (.int p0), .val (.int p1), .val (.int p2), .val (.int p3), .val (.int p4), .val (.int (4 : Int32)), .val (.int v90), .val (.int v91), .val (.int v92), .val (.int v93), .val (.ref b94), .val (.int (1 : Int32))] [])) _
              refine XS.aload X123.here hx rfl (hb hby at_157) rfl rfl ?_
              show Steps p.tables e below (T123.setTop (mkF m 159 #[.val (.int p0), .val (.int p1), .val (.int p2), .val (.int p3), .val (.int p4), .val (.int (4 : Int32)), .val (.int v90), .val (.int v91), .val (.int v92), .val (.int v93), .val (.ref b94), .val (.int (1 : Int32))] [(.ref b94)])) _
              refine st129 _ ?_
              show Steps p.tables e below (T129.setTop (mkF m 162 #[.val (.int p0), .val (.int p1), .val (.int p2), .val (.int p3), .val (.int p4), .val (.int (4 : Int32)), .val (.int v90), .val (.int v91), .val (.int v92), .val (.int v93), .val (.ref b94), .val (.int (1 : Int32))] [(.int (spl4 (nar .byte (v90.toInt8.toInt32)) (nar .byte (v91.toInt8.toInt32)) (nar .byte (v92.toInt8.toInt32)) (nar .byte (v93.toInt8.toInt32))))])) _
              refine XS.iload X129.here hx rfl (hb hby at_162) rfl ?_
              exact kk)
            by_cases hc131 : (spl4 (nar .byte (v90.toInt8.toInt32)) (nar .byte (v91.toInt8.toInt32)) (nar .byte (v92.toInt8.toInt32)) (nar .byte (v93.toInt8.toInt32))) = (1 : Int32)
            · obtain ⟨fs, hr, hrun, hended, hW, hsame⟩ := X129.leave (v := some (.int (1 : Int32))) (fun h => by rw [Bd.returns] at h; cases h)
              refine ⟨_, _, pre130 _ ?_, hrun, hended, _, _, rfl, ?_, ⟨_, rfl⟩, hW, hsame.mono (by decide) (by decide)⟩
              · show Steps p.tables e below (T129.setTop (mkF m 164 #[.val (.int p0), .val (.int p1), .val (.int p2), .val (.int p3), .val (.int p4), .val (.int (4 : Int32)), .val (.int v90), .val (.int v91), .val (.int v92), .val (.int v93), .val (.ref b94), .val (.int (1 : Int32))] [(.int (1 : Int32)), (.int (spl4 (nar .byte (v90.toInt8.toInt32)) (nar .byte (v91.toInt8.toInt32)) (nar .byte (v92.toInt8.toInt32)) (nar .byte (v93.toInt8.toInt32))))])) _
                refine XS.icmpNo X129.here hx rfl (hb hby at_164) rfl (teq hc131).2 ?_
                show Steps p.tables e below (T129.setTop (mkF m 167 #[.val (.int p0), .val (.int p1), .val (.int p2), .val (.int p3), .val (.int p4), .val (.int (4 : Int32)), .val (.int v90), .val (.int v91), .val (.int v92), .val (.int v93), .val (.ref b94), .val (.int (1 : Int32))] [])) _
                refine XS.iconst X129.here hx rfl (hb hby at_167) ?_
                show Steps p.tables e below (T129.setTop (mkF m 168 #[.val (.int p0), .val (.int p1), .val (.int p2), .val (.int p3), .val (.int p4), .val (.int (4 : Int32)), .val (.int v90), .val (.int v91), .val (.int v92), .val (.int v93), .val (.ref b94), .val (.int (1 : Int32))] [(.int (1 : Int32))])) _
                refine XS.goto X129.here hx rfl (pc0 := 168) (pc' := 172) rfl (hb hby at_168) (by decide) (by decide) ?_
                show Steps p.tables e below (T129.setTop (mkF m 172 #[.val (.int p0), .val (.int p1), .val (.int p2), .val (.int p3), .val (.int p4), .val (.int (4 : Int32)), .val (.int v90), .val (.int v91), .val (.int v92), .val (.int v93), .val (.ref b94), .val (.int (1 : Int32))] [(.int (1 : Int32))])) _
                exact retN X129 hx (t := .boolean) Bd.returns (by simp) (hb hby at_172) hr
              · show Q0 h0 n0 _ T129.heap _
                rw [e129]
                exact ⟨rfl, N129⟩
            · obtain ⟨fs, hr, hrun, hended, hW, hsame⟩ := X129.leave (v := some (.int (0 : Int32))) (fun h => by rw [Bd.returns] at h; cases h)
              refine ⟨_, _, pre130 _ ?_, hrun, hended, _, _, rfl, ?_, ⟨_, rfl⟩, hW, hsame.mono (by decide) (by decide)⟩
              · show Steps p.tables e below (T129.setTop (mkF m 164 #[.val (.int p0), .val (.int p1), .val (.int p2), .val (.int p3), .val (.int p4), .val (.int (4 : Int32)), .val (.int v90), .val (.int v91), .val (.int v92), .val (.int v93), .val (.ref b94), .val (.int (1 : Int32))] [(.int (1 : Int32)), (.int (spl4 (nar .byte (v90.toInt8.toInt32)) (nar .byte (v91.toInt8.toInt32)) (nar .byte (v92.toInt8.toInt32)) (nar .byte (v93.toInt8.toInt32))))])) _
                refine XS.icmpYes X129.here hx rfl (pc0 := 164) (pc' := 171) rfl (hb hby at_164) rfl (feq hc131).2 (by decide) (by decide) ?_
                show Steps p.tables e below (T129.setTop (mkF m 171 #[.val (.int p0), .val (.int p1), .val (.int p2), .val (.int p3), .val (.int p4), .val (.int (4 : Int32)), .val (.int v90), .val (.int v91), .val (.int v92), .val (.int v93), .val (.ref b94), .val (.int (1 : Int32))] [])) _
                refine XS.iconst X129.here hx rfl (hb hby at_171) ?_
                show Steps p.tables e below (T129.setTop (mkF m 172 #[.val (.int p0), .val (.int p1), .val (.int p2), .val (.int p3), .val (.int p4), .val (.int (4 : Int32)), .val (.int v90), .val (.int v91), .val (.int v92), .val (.int v93), .val (.ref b94), .val (.int (1 : Int32))] [(.int (0 : Int32))])) _
                exact retN X129 hx (t := .boolean) Bd.returns (by simp) (hb hby at_172) hr
              · show Q0 h0 n0 _ T129.heap _
                rw [e129]
                exfalso
                have o0 := own_b p1; rw [← ev90] at o0
                have o1 := own_b p2; rw [← ev91] at o1
                have o2 := own_b p3; rw [← ev92] at o2
                have o3 := own_b p4; rw [← ev93] at o3
                simp only [spl4] at hc131
                grind
set_option maxRecDepth 65536 in
set_option maxHeartbeats 40000000 in
theorem comes_1 {Post : Tables → Env → Array Value → State → Outcome → State → Prop} (hpost : ∀ tb e args s v u, (limb_1_1.after args s (.returned v) u = true ∧ limb_1_2.after args s (.returned v) u = true ∧ True) → FrameEnd s (.returned v) u (Jvm.fieldLocs frame_1_writes args s ++ Jvm.arrayLocs frame_1_arrays args s ++ Jvm.staticLocs frame_1_statics s) 16 128 → Post tb e args s (.returned v) u) :
    ArmFor flags0 classFile x code maxLocals ret World_1 tables_1 room_1 Calls_1 rest_1 Pre_1 Post := by
  intro l hfl _ _ p e ha hc hk s m args below hf hA hF happ hP
  obtain ⟨hcalls, hrest, hpre⟩ := hP
  obtain ⟨-, -, -, hnamed, -, -, -, hat⟩ := (Spec.applies_iff hf).mp happ
  obtain ⟨hg, hn⟩ := and_e (Cond.before_iff.mp (show (Jvm.Cond.and given_1 narrow_1).before args s = true from hpre))
  obtain ⟨gg1, gg2⟩ := and_e hg
  obtain ⟨gg3, gg4⟩ := and_e gg2
  obtain ⟨gg5, gg6⟩ := and_e gg4
  obtain ⟨gg7, gg8⟩ := and_e gg6
  obtain ⟨gg9, gg10⟩ := and_e gg8
  obtain ⟨w0, w1, w2, w3, w4, rfl⟩ : ∃ w0 w1 w2 w3 w4 : Value, args = #[w0, w1, w2, w3, w4] := by
    have hs : args.size = 5 := by simpa [Cond.value, given_1] using gg1
    obtain ⟨L⟩ := args
    match L, hs with
    | [w0, w1, w2, w3, w4], _ => exact ⟨w0, w1, w2, w3, w4, rfl⟩
  have hw := fun d (hd : d ∈ tables_1) => atoms_spec (ws := Jvm.Cond.code x code maxLocals ret :: tables_1) hat d (List.mem_cons_of_mem _ hd)
  have hfit : Fit s := fun {y c} hc i hi => by
    obtain ⟨ha, rfl⟩ := Array.getElem?_eq_some_iff.mp hc
    have q := List.all_eq_true.mp ((Array.all_eq_true_iff_forall_mem.mp hF) _ (Array.getElem_mem ha)) i (List.mem_range.mpr hi)
    simpa [Array.getElem?_eq_getElem hi] using q
  obtain ⟨i0, ei0⟩ := is_v gg3
  obtain rfl : w0 = (.int i0) := Option.some.inj ei0
  obtain ⟨i1, ei1⟩ := is_v gg5
  obtain rfl : w1 = (.int i1) := Option.some.inj ei1
  obtain ⟨i2, ei2⟩ := is_v gg7
  obtain rfl : w2 = (.int i2) := Option.some.inj ei2
  obtain ⟨i3, ei3⟩ := is_v gg9
  obtain rfl : w3 = (.int i3) := Option.some.inj ei3
  obtain ⟨i4, ei4⟩ := is_v gg10
  obtain rfl : w4 = (.int i4) := Option.some.inj ei4
  obtain ⟨n, o, h1, h2, h3, _, L, rfl, ⟨rfl, N⟩, hq⟩ := rm0 l s _ hw tables_1 i0 i1 i2 i3 i4  s.heap s.heap.size (Nat.le_refl _)  p e ha hc hk s m _ below hf ((Spec.applies_iff_loose hf).mp happ).1 ⟨rfl, State.Warmed39.refl s, rfl⟩ trivial
  refine ⟨n, _, h1, h2, h3, hpost _ _ _ _ _ _ ⟨Cond.after_iff.mpr rfl, Cond.after_iff.mpr (eq_i res_at (Term.int_eval (1)) rfl), trivial⟩ ⟨hq.1, hq.2.1, (hq.2.2.sift fun y hy => Or.inr (N y hy)).mono (by decide) (by decide)⟩⟩
theorem main_1_1 : Claimed_1_1 := comes_1 fun _ _ _ _ _ _ h hF => ⟨h.1, hF⟩
theorem main_1_2 : Claimed_1_2 := comes_1 fun _ _ _ _ _ _ h hF => ⟨h.2.1, hF⟩
end Jvm.Pilot.@@N@@
namespace Jvm.Pilot.@@N@@
open Jvm Jvm.ClassFile Sem Op Lib Jvm.Free Jvm.Stand Jvm.Pilot.@@N@@.Jvm.D
/-! MADE BY PROGRAM (witnessworld.py) out of the Statement's table words and the real class files: 9 classes; the members and pool entries that the words name. The judged class is class 1, her method 2. -/
namespace start1
open Jvm.ClassFile
def u (s : String) : CpInfo := .utf8 (stringToUtf16 s)
/-- a pool by its gaps: so many unusable entries, then the entry; so many at the end -/
def gap : Nat → List CpInfo → List CpInfo
  | 0, r => r
  | n + 1, r => .unusable :: gap n r
def poolList (es : List (Nat × CpInfo)) (last : Nat) : List CpInfo := es.foldr (fun e r => gap e.1 (e.2 :: r)) (gap last [])
def pool (es : List (Nat × CpInfo)) (last : Nat) : Array CpInfo := ⟨poolList es last⟩
def fileOf (pool : Array CpInfo) (this : Nat) (attrs : Array Attribute := #[]) (ms : Array MethodInfo := #[]) (fl : Nat := 33) (sup : Nat := 0) (ifs : Array Nat := #[]) (fds : Array FieldInfo := #[]) : ClassFile where
  minorVersion := 0
  majorVersion := 65
  constantPool := pool
  accessFlags := fl
  thisClass := this
  superClass := sup
  interfaces := ifs
  fields := fds
  methods := ms
  attributes := attrs
def plain (name : String) (sup : Option ClassId) : Class where
  name := name
  kind := .ordinary
  loader := none
  accessFlags := 33
  super := sup
  interfaces := #[]
  cf := none
  fields := #[]
  methods := #[]
  instanceTypes := #[]
  staticTypes := #[]
  resolved := #[]
  callSites := []
  init := .initialized
  statics := none
  mirror := none

def pool0 : Array CpInfo := pool [(5, u "<init>"), (0, u "()V"), (1, .class_ 10), (1, u "java/lang/Object")] 113

def k0m0 : Method := { name := "<init>", desc := "()V", sig := { parameters := [], returnType := none }, accessFlags := 1, code := none }
/-- java/lang/Object -/
def k0 : Class := { plain "java/lang/Object" none with
  accessFlags := 33
  interfaces := #[]
  cf := some (fileOf pool0 8 #[] #[{ accessFlags := 1, nameIndex := 5, descriptorIndex := 6, attributes := #[] }] 33 0 #[] #[])
  fields := #[]
  methods := #[k0m0]
  instanceTypes := #[]
  staticTypes := #[]
  resolved := Array.replicate 124 none
  statics := none }

def pool1 : Array CpInfo := pool [(2, .class_ 4), (1, u "java/lang/Object"), (0, u "<init>"), (0, u "()V"), (0, .integer 2147483647), (0, .methodref 9 10), (0, .class_ 11), (0, .nameAndType 12 13), (0, u "com/example/onesnap/onesnap/node/SqlLexerSplitsAlikeUnderAnySettingsPinLaw"), (0, u "good"), (0, u "(I)Z"), (0, .methodref 15 16), (0, .class_ 17), (0, .nameAndType 18 19), (0, u "com/example/onesnap/onesnap/node/SqlLexer"), (0, u "splitsAlikeUnderAnySettings"), (0, u "([B)Z"), (3, u "law"), (0, u "(IIIII)Z")] 4

def k1m0 : Method := { name := "<init>", desc := "()V", sig := { parameters := [], returnType := none }, accessFlags := 1, code := none }
def k1c1 : Code := { maxStack := 2, maxLocals := 1, code := method_2_code, exceptionTable := #[], attributes := #[] }
def k1m1 : Method := { name := "good", desc := "(I)Z", sig := { parameters := [.int], returnType := some .boolean }, accessFlags := 10, code := some k1c1 }
def k1c2 : Code := { maxStack := 3, maxLocals := 12, code := code, exceptionTable := #[], attributes := #[] }
def k1m2 : Method := { name := "law", desc := "(IIIII)Z", sig := { parameters := [.int, .int, .int, .int, .int], returnType := some .boolean }, accessFlags := 9, code := some k1c2 }
/-- com/example/onesnap/onesnap/node/SqlLexerSplitsAlikeUnderAnySettingsPinLaw -/
def k1 : Class := { plain "com/example/onesnap/onesnap/node/SqlLexerSplitsAlikeUnderAnySettingsPinLaw" (some 0) with
  accessFlags := 49
  interfaces := #[]
  cf := some (fileOf pool1 9 #[] #[{ accessFlags := 1, nameIndex := 5, descriptorIndex := 6, attributes := #[] }, { accessFlags := 10, nameIndex := 12, descriptorIndex := 13, attributes := #[] }, { accessFlags := 9, nameIndex := 23, descriptorIndex := 24, attributes := #[] }] 49 2 #[] #[])
  fields := #[]
  methods := #[k1m0, k1m1, k1m2]
  instanceTypes := #[]
  staticTypes := #[]
  resolved := Array.replicate 29 none
  statics := none }

def pool2 : Array CpInfo := pool [(2, .class_ 4), (1, u "java/lang/Object"), (3, .class_ 10), (1, u "com/example/onesnap/onesnap/node/SqlLexer"), (0, u "text"), (0, u "[B"), (2, u "standardConformingStrings"), (0, u "Z"), (2, u "TWO_BYTE_ENCODINGS"), (0, u "Ljava/util/Set;"), (8, u "twoByte"), (2, u "SHIFT_JIS_ENCODINGS"), (2, u "shiftJis"), (16, u "pos"), (0, u "I"), (271, u "ENCODING_KINDS"), (0, u "Ljava/util/List;"), (8, u "splitsAlikeUnderAnySettings"), (0, u "([B)Z")] 10

def k2c0 : Code := { maxStack := 2, maxLocals := 3, code := prog_40_method_3_code, exceptionTable := #[], attributes := #[] }
def k2m0 : Method := { name := "splitsAlikeUnderAnySettings", desc := "([B)Z", sig := { parameters := [(.array .byte)], returnType := some .boolean }, accessFlags := 8, code := some k2c0 }
/-- com/example/onesnap/onesnap/node/SqlLexer -/
def k2 : Class := { plain "com/example/onesnap/onesnap/node/SqlLexer" (some 0) with
  accessFlags := 48
  interfaces := #[]
  cf := some (fileOf pool2 8 #[] #[{ accessFlags := 8, nameIndex := 335, descriptorIndex := 336, attributes := #[] }] 48 2 #[] #[{ accessFlags := 26, nameIndex := 19, descriptorIndex := 20, attributes := #[] }, { accessFlags := 26, nameIndex := 32, descriptorIndex := 20, attributes := #[] }, { accessFlags := 24, nameIndex := 325, descriptorIndex := 326, attributes := #[] }, { accessFlags := 18, nameIndex := 11, descriptorIndex := 12, attributes := #[] }, { accessFlags := 18, nameIndex := 15, descriptorIndex := 16, attributes := #[] }, { accessFlags := 18, nameIndex := 29, descriptorIndex := 16, attributes := #[] }, { accessFlags := 18, nameIndex := 35, descriptorIndex := 16, attributes := #[] }, { accessFlags := 2, nameIndex := 52, descriptorIndex := 53, attributes := #[] }])
  fields := #[{ name := "TWO_BYTE_ENCODINGS", type := (.object "java/util/Set"), accessFlags := 26, slot := 0, constantValue := 0 }, { name := "SHIFT_JIS_ENCODINGS", type := (.object "java/util/Set"), accessFlags := 26, slot := 1, constantValue := 0 }, { name := "ENCODING_KINDS", type := (.object "java/util/List"), accessFlags := 24, slot := 2, constantValue := 0 }, { name := "text", type := (.array .byte), accessFlags := 18, slot := 0, constantValue := 0 }, { name := "standardConformingStrings", type := .boolean, accessFlags := 18, slot := 1, constantValue := 0 }, { name := "twoByte", type := .boolean, accessFlags := 18, slot := 2, constantValue := 0 }, { name := "shiftJis", type := .boolean, accessFlags := 18, slot := 3, constantValue := 0 }, { name := "pos", type := .int, accessFlags := 2, slot := 4, constantValue := 0 }]
  methods := #[k2m0]
  instanceTypes := #[(.array .byte), .boolean, .boolean, .boolean, .int]
  staticTypes := #[(.object "java/util/Set"), (.object "java/util/Set"), (.object "java/util/List")]
  resolved := Array.replicate 347 none
  statics := none }

def pool3 : Array CpInfo := pool [(1, u "java/lang/Cloneable"), (0, .class_ 1), (0, u "java/lang/Object"), (0, .class_ 3)] 3

/-- java/lang/Cloneable -/
def k3 : Class := { plain "java/lang/Cloneable" (some 0) with
  accessFlags := 1537
  interfaces := #[]
  cf := some (fileOf pool3 2 #[] #[] 1537 4 #[] #[])
  fields := #[]
  methods := #[]
  instanceTypes := #[]
  staticTypes := #[]
  resolved := Array.replicate 8 none
  statics := none }

def pool4 : Array CpInfo := pool [(1, u "java/io/Serializable"), (0, .class_ 1), (0, u "java/lang/Object"), (0, .class_ 3)] 3

/-- java/io/Serializable -/
def k4 : Class := { plain "java/io/Serializable" (some 0) with
  accessFlags := 1537
  interfaces := #[]
  cf := some (fileOf pool4 2 #[] #[] 1537 4 #[] #[])
  fields := #[]
  methods := #[]
  instanceTypes := #[]
  staticTypes := #[]
  resolved := Array.replicate 8 none
  statics := none }

/-- the primitive byte -/
def k5 : Class := { plain "byte" none with kind := .primitive 'B', accessFlags := 0x411 }
/-- [B -/
def k6 : Class := { plain "[B" (some 0) with kind := .array 5 .byte, interfaces := #[3, 4], accessFlags := 1041 }

/-- the primitive int -/
def k7 : Class := { plain "int" none with kind := .primitive 'I', accessFlags := 0x411 }
/-- [I -/
def k8 : Class := { plain "[I" (some 0) with kind := .array 7 .int, interfaces := #[3, 4], accessFlags := 1041 }

def heap : Heap := #[]
def classes : Array Class := #[k0, k1, k2, k3, k4, k5, k6, k7, k8]
def interned : List (Array UInt16 × Addr) := []
def slotsUsed : Nat := 0
def theMethod : MethodId := ⟨1, 2⟩
def args0 : Array Value := #[.int 3, .int 65, .int 66, .int 67, .int 68]
def aboutOver (below : List Frame) : State where
  vm := { classes := classes, interned := interned.toArray }
  heap := heap
  slotsUsed := slotsUsed
  threads := #[{ frames := .invoking theMethod args0 :: below }]
def below0 : List Frame := [.native { method := ⟨0, 0⟩, args := #[] }]
def about1 : State := aboutOver below0
def p0 : Program := .bare "" "" ""
def e0 : Env := launch0.env 0 0 0
theorem w_frames : about1.frames = Frame.invoking theMethod args0 :: below0 := rfl
set_option maxRecDepth 65536 in
theorem w_args : argsFit about1.vm theMethod args0 = true := by decide +kernel
set_option maxRecDepth 65536 in
theorem w_heap : heapFits about1 = true := by decide +kernel
set_option maxRecDepth 65536 in
theorem w_runnable : about1.curStatus? = some .runnable := by decide +kernel
set_option maxRecDepth 65536 in
theorem w_alone : about1.alone = true := by decide +kernel
set_option maxRecDepth 65536 in
theorem w_named : about1.methodNamed? x = some theMethod := by decide +kernel
set_option maxRecDepth 65536 in
theorem w_hears : about1.hears theMethod below0 = true := by decide +kernel
set_option maxRecDepth 65536 in
theorem w_ripe : about1.ripe theMethod args0 below0 = true := by decide +kernel
theorem w_running : about1.status = .running := rfl
set_option maxRecDepth 65536 in
theorem w_room : about1.hasRoom e0.platform room_1 = true :=
  launch0.hasRoom_least _ room_1 (by decide +kernel) (by decide +kernel) (by decide +kernel) (by decide +kernel) (by decide +kernel) (by decide +kernel)
theorem allAtoms_all (ts : List Jvm.Cond) (a : Array Jvm.Value) (st : Jvm.State) : (allAtoms ts).before a st = ts.all (fun c => c.before a st) := by
  induction ts with
  | nil => rfl
  | cons c t ih =>
    show (Jvm.Cond.and c (allAtoms t)).before a st = _
    rw [Jvm.Cond.before_and, ih, List.all_cons]
def words1 : List Jvm.Cond := Jvm.Cond.code x code maxLocals ret :: tables_1
/-- a 'code' word, met by the world's own term for the bytes: nothing is compared byte by byte -/
theorem code_word {y : MethodName} {bytes : ByteArray} {mx : Nat} {rt : Option FieldType} {a : Array Value} {s : State} {m : MethodId} {meth : Method} {c : Code} (h1 : s.methodNamed? y = some m) (h2 : s.vm.method? m = some meth) (h3 : meth.code = some c) (h4 : c.code = bytes)
    (h5 : (c.maxLocals == mx && c.exceptionTable.isEmpty && decide (c.maxStack ≤ mostOperands) && decide (meth.sig.returnType = rt) && !meth.locks && decide (parseMethodDescriptor y.desc = some meth.sig)) = true) : (Jvm.Cond.code y bytes mx rt).before a s = true := by
  simp only [Bool.and_eq_true, beq_iff_eq, Bool.not_eq_true', decide_eq_true_eq] at h5
  obtain ⟨⟨⟨⟨⟨g1, g2⟩, g3⟩, g4⟩, g5⟩, g6⟩ := h5
  simp [Cond.before, Cond.holds, Cond.value, h1, h2, h3, h4, g1, g2, g3, g4, g5, g6]
def isCode : Jvm.Cond → Bool
  | .code _ _ _ _ => true
  | _ => false
theorem all_split {L : List Jvm.Cond} {P : Jvm.Cond → Bool} (h1 : L.all (fun c => isCode c || P c) = true) (h2 : ∀ c ∈ L.filter isCode, P c = true) : L.all P = true := by
  refine List.all_eq_true.mpr fun c hc => ?_
  have h := List.all_eq_true.mp h1 c hc
  rcases Bool.eq_false_or_eq_true (isCode c) with hi | hi
  · exact h2 c (List.mem_filter.mpr ⟨hc, hi⟩)
  · simpa [hi] using h
set_option maxRecDepth 65536 in
theorem w_c0 : (Jvm.Cond.code x code maxLocals ret).before args0 about1 = true := code_word (m := ⟨1, 2⟩) (meth := k1m2) (c := k1c2) (by decide +kernel) rfl rfl rfl (by decide +kernel)
set_option maxRecDepth 65536 in
theorem w_c1 : (Jvm.Cond.code ({ cls := "com/example/onesnap/onesnap/node/SqlLexer", name := "splitsAlikeUnderAnySettings", desc := "([B)Z" } : Jvm.MethodName) prog_40_method_3_code (3 : Nat) (Option.some Jvm.ClassFile.FieldType.boolean)).before args0 about1 = true := code_word (m := ⟨2, 0⟩) (meth := k2m0) (c := k2c0) (by decide +kernel) rfl rfl rfl (by decide +kernel)
set_option maxRecDepth 65536 in
theorem w_c2 : (Jvm.Cond.code ({ cls := "com/example/onesnap/onesnap/node/SqlLexerSplitsAlikeUnderAnySettingsPinLaw", name := "good", desc := "(I)Z" } : Jvm.MethodName) method_2_code (1 : Nat) (Option.some Jvm.ClassFile.FieldType.boolean)).before args0 about1 = true := code_word (m := ⟨1, 1⟩) (meth := k1m1) (c := k1c1) (by decide +kernel) rfl rfl rfl (by decide +kernel)
def codes1 : List Jvm.Cond := [Jvm.Cond.code x code maxLocals ret, Jvm.Cond.code ({ cls := "com/example/onesnap/onesnap/node/SqlLexer", name := "splitsAlikeUnderAnySettings", desc := "([B)Z" } : Jvm.MethodName) prog_40_method_3_code (3 : Nat) (Option.some Jvm.ClassFile.FieldType.boolean), Jvm.Cond.code ({ cls := "com/example/onesnap/onesnap/node/SqlLexerSplitsAlikeUnderAnySettingsPinLaw", name := "good", desc := "(I)Z" } : Jvm.MethodName) method_2_code (1 : Nat) (Option.some Jvm.ClassFile.FieldType.boolean)]
set_option maxRecDepth 65536 in
theorem codes_eq : words1.filter isCode = codes1 := rfl
theorem w_codes : ∀ c ∈ words1.filter isCode, c.before args0 about1 = true := by
  rw [codes_eq]
  intro c hc
  simp only [codes1, List.mem_cons, List.not_mem_nil, or_false] at hc
  rcases hc with rfl | rfl | rfl
  · exact w_c0
  · exact w_c1
  · exact w_c2
set_option maxRecDepth 65536 in
theorem w_t1 : words1.all (fun c => isCode c || c.before args0 about1) = true := by decide +kernel
theorem w_tables : (allAtoms (Jvm.Cond.code x code maxLocals ret :: tables_1)).before args0 about1 = true := by
  rw [allAtoms_all]
  show words1.all (fun c => c.before args0 about1) = true
  refine all_split ?_ w_codes
  rw [w_t1]
set_option maxRecDepth 65536 in
theorem w_case : (Jvm.Cond.and given_1 narrow_1).before args0 about1 = true := by decide +kernel
theorem w_applies : (headSpec (Jvm.Cond.code x code maxLocals ret :: tables_1) room_1).applies x e0.platform about1 = true :=
  (Spec.applies_iff w_frames).mpr ⟨w_running, w_runnable, w_alone, w_named, w_hears, w_ripe, w_room, w_tables⟩
theorem atStart : AtStart classFile x code maxLocals ret World_1 tables_1 room_1 Calls_1 rest_1 Pre_1 launch0 p0 e0 about1 theMethod args0 below0 :=
  ⟨lists_1, trivial, launch0.admits_env _ _ _, launch0.least_env, fairChoices_fair.cas, fairChoices_fair.clock, w_frames, w_args, w_heap, w_applies, trivial, trivial, w_case⟩
end start1
theorem witness_1 : WitnessClaimed_1 := ⟨start1.p0, start1.e0, start1.about1, start1.theMethod, start1.args0, start1.below0, start1.atStart⟩
end Jvm.Pilot.@@N@@
