import JvmDerived
import JvmDerived.Pilot.@@N@@Statement
import JvmDerived.Pilot.@@N@@Code
set_option linter.unusedVariables false
set_option linter.unusedSimpArgs false
namespace Jvm.RoadKit
open Sem ClassFile Op Lib Jvm.Stand Jvm.Free Jvm.LawKit
section New
variable {p : Program} {l : Launch} {e : Env} {R : Room} {s : State} {m : MethodId} {args : Array Value} {below : List Frame} {meth : Method} {c : Code} {T : State} {locs : List Loc} {cells slots : Nat}
theorem retI (X : Stand p l e R s m args below meth c T locs cells slots) (hx : p.tables.exec = Jvm.exec) {pc : Nat} {Ls : Array Slot} {z : Int32} {rest : List Value} (hret : meth.sig.returnType = some .int) (hd : decode c.code pc = .ok (.ireturn, 1)) {fs : List Frame}
    (hl : ∀ (f : JFrame) (acts : List Action), f.method = m → f.locked = none → f.entered = [] → (doReturn e (T.setTop f) acts (some (.int z))).1 = T.setFrames fs) : Steps p.tables e below (T.setTop (mkF m pc Ls (.int z :: rest))) (T.setFrames fs) := by
  have hm' : T.vm.method? m = some meth := X.method'
  have hn : narrow .int (.int z) = .int z := rfl
  show Steps _ _ _ (T.setTop { method := m, pc := pc, locals := Ls, stack := _ :: rest, locked := none }) _
  jvm_step X.here [X.here.top, hx, hd, hm', hret, hn]
  first | (intro acts; rw [hl _ acts rfl rfl rfl]) | rw [hl _ _ rfl rfl rfl]
  exact Steps.refl _
theorem retJ (X : Stand p l e R s m args below meth c T locs cells slots) (hx : p.tables.exec = Jvm.exec) {pc : Nat} {Ls : Array Slot} {z : Int64} {rest : List Value} (hret : meth.sig.returnType = some .long) (hd : decode c.code pc = .ok (.lreturn, 1)) {fs : List Frame}
    (hl : ∀ (f : JFrame) (acts : List Action), f.method = m → f.locked = none → f.entered = [] → (doReturn e (T.setTop f) acts (some (.long z))).1 = T.setFrames fs) : Steps p.tables e below (T.setTop (mkF m pc Ls (.long z :: rest))) (T.setFrames fs) := by
  have hm' : T.vm.method? m = some meth := X.method'
  have hn : narrow .long (.long z) = .long z := rfl
  show Steps _ _ _ (T.setTop { method := m, pc := pc, locals := Ls, stack := _ :: rest, locked := none }) _
  jvm_step X.here [X.here.top, hx, hd, hm', hret, hn]
  first | (intro acts; rw [hl _ acts rfl rfl rfl]) | rw [hl _ _ rfl rfl rfl]
  exact Steps.refl _
end New
end Jvm.RoadKit
namespace Jvm.Pilot.@@N@@
open Jvm Jvm.ClassFile Sem Op Lib Jvm.Free Jvm.Stand Jvm.LawKit Jvm.RoadKit Bundle Jvm.Pilot.@@N@@.Jvm.D
abbrev l_0 (x0 : Int32) : Array Slot := #[.val (.int x0), .unset]
abbrev l_1 (x0 : Int32) (x1 : Int32) : Array Slot := #[.val (.int x0), .val (.int x1)]
abbrev l_2 (x0 : Addr) (x1 : Int32) : Array Slot := #[.val (.ref x0), .val (.int x1), .unset, .unset]
abbrev l_3 (x0 : Addr) (x1 : Int32) (x2 : Int32) : Array Slot := #[.val (.ref x0), .val (.int x1), .val (.int x2), .unset]
abbrev l_4 (x0 : Addr) (x1 : Addr) (x2 : Addr) (x3 : Int32) : Array Slot := #[.val (.ref x0), .val (.ref x1), .val (.ref x2), .val (.int x3)]
abbrev l_5 (x0 : Addr) (x1 : Addr) : Array Slot := #[.val (.ref x0), .val (.ref x1)]
abbrev l_6 (x0 : Int32) (x1 : Int32) : Array Slot := #[.val (.int x0), .val (.int x1), .val .null]
abbrev l_7 (x0 : Addr) (x1 : Int32) : Array Slot := #[.val (.ref x0), .val (.int x1)]
abbrev l_8 (x0 : Addr) (x1 : Int32) (x2 : Int32) : Array Slot := #[.val (.ref x0), .val (.int x1), .val (.int x2)]
abbrev l_9 (x0 : Addr) (x1 : Addr) (x2 : Addr) (x3 : Int32) (x4 : Int32) : Array Slot := #[.val (.ref x0), .val (.ref x1), .val (.ref x2), .val (.int x3), .val (.int x4), .unset, .unset, .unset, .unset, .unset, .unset]
abbrev l_10 (x0 : Addr) (x1 : Addr) (x2 : Addr) : Array Slot := #[.val (.ref x0), .val (.ref x1), .val (.ref x2)]
abbrev l_11 (x0 : Addr) : Array Slot := #[.val (.ref x0), .unset]
abbrev l_12 (x0 : Addr) (x1 : Int32) (x2 : Addr) (x3 : Addr) : Array Slot := #[.val (.ref x0), .val (.int x1), .val (.ref x2), .val (.ref x3), .val .null]
abbrev l_13 (x0 : Addr) : Array Slot := #[.val (.ref x0), .unset, .unset, .unset, .unset, .unset, .unset, .unset, .unset, .unset, .unset, .unset, .unset, .unset]
abbrev l_14 (x0 : Addr) (x2 : Int32) : Array Slot := #[.val (.ref x0), .val .null, .val (.int x2), .unset, .unset, .unset, .unset, .unset, .unset, .unset, .unset, .unset, .unset, .unset]
abbrev l_15 (x0 : Addr) (x2 : Int32) (x3 : Int32) (x4 : Int32) (x5 : Int32) : Array Slot := #[.val (.ref x0), .val .null, .val (.int x2), .val (.int x3), .val (.int x4), .val (.int x5), .unset, .unset, .unset, .unset, .unset, .unset, .unset, .unset]
abbrev l_16 (x0 : Addr) (x2 : Int32) (x3 : Int32) (x4 : Int32) (x5 : Int32) (x6 : Addr) : Array Slot := #[.val (.ref x0), .val .null, .val (.int x2), .val (.int x3), .val (.int x4), .val (.int x5), .val (.ref x6), .unset, .unset, .unset, .unset, .unset, .unset, .unset]
abbrev l_17 (x0 : Addr) : Array Slot := #[.val (.ref x0), .val .null, .unset, .unset, .unset, .unset, .unset, .unset, .unset, .unset, .unset, .unset, .unset, .unset]
abbrev l_18 (x0 : Addr) (x2 : Int32) (x3 : Int32) (x5 : Int32) : Array Slot := #[.val (.ref x0), .val .null, .val (.int x2), .val (.int x3), .unset, .val (.int x5), .unset, .unset, .unset, .unset, .unset, .unset, .unset, .unset]
abbrev l_19 (x0 : Addr) (x1 : Int32) (x2 : Addr) (x3 : Addr) (x4 : Int32) (x5 : Int32) : Array Slot := #[.val (.ref x0), .val (.int x1), .val (.ref x2), .val (.ref x3), .val (.int x4), .val (.int x5), .unset, .unset, .unset, .unset, .unset, .unset, .unset]
abbrev l_20 (x0 : Addr) (x1 : Int32) (x2 : Addr) (x3 : Addr) (x4 : Int32) (x5 : Int32) : Array Slot := #[.val (.ref x0), .val (.int x1), .val (.ref x2), .val (.ref x3), .val (.int x4), .val (.int x5), .val .null, .unset, .unset, .unset, .unset, .unset, .unset]
abbrev l_21 (x0 : Addr) (x1 : Int32) (x2 : Addr) (x3 : Addr) (x4 : Int32) (x5 : Int32) (x6 : Addr) (x8 : Int32) (x9 : Int32) : Array Slot := #[.val (.ref x0), .val (.int x1), .val (.ref x2), .val (.ref x3), .val (.int x4), .val (.int x5), .val (.ref x6), .val .null, .val (.int x8), .val (.int x9), .unset, .unset, .unset]
abbrev l_22 (x0 : Addr) (x1 : Int32) (x2 : Addr) (x3 : Addr) (x4 : Int32) (x5 : Int32) (x6 : Addr) : Array Slot := #[.val (.ref x0), .val (.int x1), .val (.ref x2), .val (.ref x3), .val (.int x4), .val (.int x5), .val (.ref x6), .unset, .unset, .unset, .unset, .unset, .unset]
abbrev l_23 (x0 : Addr) (x1 : Int32) (x2 : Addr) (x3 : Addr) (x4 : Int32) (x5 : Int32) (x6 : Addr) (x8 : Int32) : Array Slot := #[.val (.ref x0), .val (.int x1), .val (.ref x2), .val (.ref x3), .val (.int x4), .val (.int x5), .val (.ref x6), .unset, .val (.int x8), .unset, .unset, .unset, .unset]
abbrev l_24 (x0 : Addr) (x1 : Int32) (x2 : Addr) (x3 : Addr) (x4 : Int32) (x5 : Int32) (x6 : Addr) (x8 : Int32) (x9 : Int32) : Array Slot := #[.val (.ref x0), .val (.int x1), .val (.ref x2), .val (.ref x3), .val (.int x4), .val (.int x5), .val (.ref x6), .unset, .val (.int x8), .val (.int x9), .unset, .unset, .unset]
abbrev l_25 (x0 : Addr) (x1 : Addr) : Array Slot := #[.val (.ref x0), .val (.ref x1), .unset]
abbrev l_26 (x0 : Addr) (x1 : Addr) (x2 : Int32) : Array Slot := #[.val (.ref x0), .val (.ref x1), .val (.int x2)]
abbrev l_27 (x0 : Addr) (x1 : Addr) : Array Slot := #[.val (.ref x0), .val (.ref x1), .unset, .unset, .unset, .unset, .unset, .unset]
abbrev l_28 (x0 : Addr) (x1 : Addr) (x2 : Addr) (x5 : Int32) : Array Slot := #[.val (.ref x0), .val (.ref x1), .val (.ref x2), .unset, .unset, .val (.int x5), .unset, .unset]
abbrev l_29 (x0 : Addr) (x1 : Addr) (x2 : Addr) (x3 : Addr) (x5 : Int32) (x6 : Int32) : Array Slot := #[.val (.ref x0), .val (.ref x1), .val (.ref x2), .val (.ref x3), .unset, .val (.int x5), .val (.int x6), .unset]
abbrev l_30 (x0 : Addr) (x1 : Addr) (x2 : Addr) (x3 : Addr) (x5 : Int32) (x6 : Int32) (x7 : Addr) : Array Slot := #[.val (.ref x0), .val (.ref x1), .val (.ref x2), .val (.ref x3), .unset, .val (.int x5), .val (.int x6), .val (.ref x7)]
abbrev l_31 (x0 : Addr) (x1 : Addr) (x2 : Addr) : Array Slot := #[.val (.ref x0), .val (.ref x1), .val (.ref x2), .unset, .unset, .unset, .unset, .unset]
abbrev l_32 (x0 : Addr) (x1 : Addr) (x2 : Addr) (x5 : Int32) (x6 : Int32) : Array Slot := #[.val (.ref x0), .val (.ref x1), .val (.ref x2), .unset, .unset, .val (.int x5), .val (.int x6), .unset]
abbrev l_33 (x0 : Addr) (x1 : Addr) (x2 : Addr) : Array Slot := #[.val (.ref x0), .val (.ref x1), .val (.ref x2), .unset]
abbrev l_34 (x0 : Addr) (x1 : Addr) (x2 : Addr) (x3 : Addr) : Array Slot := #[.val (.ref x0), .val (.ref x1), .val (.ref x2), .val (.ref x3)]
abbrev l_35 (x0 : Int32) (x1 : Addr) : Array Slot := #[.val (.int x0), .val (.ref x1)]
abbrev l_36 (x0 : Int32) (x1 : Int32) (x2 : Int32) (x3 : Int32) (x4 : Int32) : Array Slot := #[.val (.int x0), .val (.int x1), .val (.int x2), .val (.int x3), .val (.int x4), .unset, .unset, .unset, .unset, .unset, .unset, .unset, .unset, .unset, .unset, .unset, .unset, .unset, .unset, .unset]
abbrev l_37 (x0 : Int32) (x1 : Int32) (x2 : Int32) (x3 : Int32) (x4 : Int32) (x5 : Int32) : Array Slot := #[.val (.int x0), .val (.int x1), .val (.int x2), .val (.int x3), .val (.int x4), .val (.int x5), .unset, .unset, .unset, .unset, .unset, .unset, .unset, .unset, .unset, .unset, .unset, .unset, .unset, .unset]
abbrev l_38 (x0 : Int32) (x1 : Int32) (x2 : Int32) (x3 : Int32) (x4 : Int32) (x5 : Int32) (x6 : Addr) : Array Slot := #[.val (.int x0), .val (.int x1), .val (.int x2), .val (.int x3), .val (.int x4), .val (.int x5), .val (.ref x6), .unset, .unset, .unset, .unset, .unset, .unset, .unset, .unset, .unset, .unset, .unset, .unset, .unset]
abbrev l_39 (x0 : Int32) (x1 : Int32) (x2 : Int32) (x3 : Int32) (x4 : Int32) (x5 : Int32) (x6 : Addr) (x7 : Addr) : Array Slot := #[.val (.int x0), .val (.int x1), .val (.int x2), .val (.int x3), .val (.int x4), .val (.int x5), .val (.ref x6), .val (.ref x7), .unset, .unset, .unset, .unset, .unset, .unset, .unset, .unset, .unset, .unset, .unset, .unset]
abbrev l_40 (x0 : Int32) (x1 : Int32) (x2 : Int32) (x3 : Int32) (x4 : Int32) (x5 : Int32) (x6 : Addr) (x7 : Addr) (x8 : Int32) : Array Slot := #[.val (.int x0), .val (.int x1), .val (.int x2), .val (.int x3), .val (.int x4), .val (.int x5), .val (.ref x6), .val (.ref x7), .val (.int x8), .unset, .unset, .unset, .unset, .unset, .unset, .unset, .unset, .unset, .unset, .unset]
abbrev l_41 (x0 : Int32) (x1 : Int32) (x2 : Int32) (x3 : Int32) (x4 : Int32) (x5 : Int32) (x6 : Addr) (x7 : Addr) (x8 : Int32) (x9 : Int32) : Array Slot := #[.val (.int x0), .val (.int x1), .val (.int x2), .val (.int x3), .val (.int x4), .val (.int x5), .val (.ref x6), .val (.ref x7), .val (.int x8), .val (.int x9), .unset, .unset, .unset, .unset, .unset, .unset, .unset, .unset, .unset, .unset]
abbrev l_42 (x0 : Int32) (x1 : Int32) (x2 : Int32) (x3 : Int32) (x4 : Int32) (x5 : Int32) (x6 : Addr) (x7 : Addr) (x8 : Int32) (x9 : Int32) (x10 : Addr) : Array Slot := #[.val (.int x0), .val (.int x1), .val (.int x2), .val (.int x3), .val (.int x4), .val (.int x5), .val (.ref x6), .val (.ref x7), .val (.int x8), .val (.int x9), .val (.ref x10), .unset, .unset, .unset, .unset, .unset, .unset, .unset, .unset, .unset]
abbrev l_43 (x0 : Int32) (x1 : Int32) (x2 : Int32) (x3 : Int32) (x4 : Int32) (x5 : Int32) (x6 : Addr) (x7 : Addr) (x8 : Int32) (x9 : Int32) (x10 : Addr) (x11 : Addr) : Array Slot := #[.val (.int x0), .val (.int x1), .val (.int x2), .val (.int x3), .val (.int x4), .val (.int x5), .val (.ref x6), .val (.ref x7), .val (.int x8), .val (.int x9), .val (.ref x10), .val (.ref x11), .unset, .unset, .unset, .unset, .unset, .unset, .unset, .unset]
abbrev l_44 (x0 : Int32) (x1 : Int32) (x2 : Int32) (x3 : Int32) (x4 : Int32) (x5 : Int32) (x6 : Addr) (x7 : Addr) (x8 : Int32) (x9 : Int32) (x10 : Addr) (x11 : Addr) (x12 : Addr) : Array Slot := #[.val (.int x0), .val (.int x1), .val (.int x2), .val (.int x3), .val (.int x4), .val (.int x5), .val (.ref x6), .val (.ref x7), .val (.int x8), .val (.int x9), .val (.ref x10), .val (.ref x11), .val (.ref x12), .unset, .unset, .unset, .unset, .unset, .unset, .unset]
abbrev l_45 (x0 : Int32) (x1 : Int32) (x2 : Int32) (x3 : Int32) (x4 : Int32) (x5 : Int32) (x6 : Addr) (x7 : Addr) (x8 : Int32) (x9 : Int32) (x10 : Addr) (x11 : Addr) (x12 : Addr) (x13 : Addr) : Array Slot := #[.val (.int x0), .val (.int x1), .val (.int x2), .val (.int x3), .val (.int x4), .val (.int x5), .val (.ref x6), .val (.ref x7), .val (.int x8), .val (.int x9), .val (.ref x10), .val (.ref x11), .val (.ref x12), .val (.ref x13), .unset, .unset, .unset, .unset, .unset, .unset]
abbrev l_46 (x0 : Int32) (x1 : Int32) (x2 : Int32) (x3 : Int32) (x4 : Int32) (x5 : Int32) (x6 : Addr) (x7 : Addr) (x8 : Int32) (x9 : Int32) (x10 : Addr) (x11 : Addr) (x12 : Addr) (x13 : Addr) (x14 : Addr) : Array Slot := #[.val (.int x0), .val (.int x1), .val (.int x2), .val (.int x3), .val (.int x4), .val (.int x5), .val (.ref x6), .val (.ref x7), .val (.int x8), .val (.int x9), .val (.ref x10), .val (.ref x11), .val (.ref x12), .val (.ref x13), .val (.ref x14), .unset, .unset, .unset, .unset, .unset]
abbrev l_47 (x0 : Int32) (x1 : Int32) (x2 : Int32) (x3 : Int32) (x4 : Int32) (x5 : Int32) (x6 : Addr) (x7 : Addr) (x8 : Int32) (x9 : Int32) (x10 : Addr) (x11 : Addr) (x12 : Addr) (x13 : Addr) (x14 : Addr) (x15 : Addr) : Array Slot := #[.val (.int x0), .val (.int x1), .val (.int x2), .val (.int x3), .val (.int x4), .val (.int x5), .val (.ref x6), .val (.ref x7), .val (.int x8), .val (.int x9), .val (.ref x10), .val (.ref x11), .val (.ref x12), .val (.ref x13), .val (.ref x14), .val (.ref x15), .unset, .unset, .unset, .unset]
abbrev l_48 (x0 : Int32) (x1 : Int32) (x2 : Int32) (x3 : Int32) (x4 : Int32) (x5 : Int32) (x6 : Addr) (x7 : Addr) (x8 : Int32) (x9 : Int32) (x10 : Addr) (x11 : Addr) (x12 : Addr) (x13 : Addr) (x14 : Addr) (x15 : Addr) (x16 : Addr) : Array Slot := #[.val (.int x0), .val (.int x1), .val (.int x2), .val (.int x3), .val (.int x4), .val (.int x5), .val (.ref x6), .val (.ref x7), .val (.int x8), .val (.int x9), .val (.ref x10), .val (.ref x11), .val (.ref x12), .val (.ref x13), .val (.ref x14), .val (.ref x15), .val (.ref x16), .unset, .unset, .unset]
abbrev l_49 (x0 : Int32) (x1 : Int32) (x2 : Int32) (x3 : Int32) (x4 : Int32) (x5 : Int32) (x6 : Addr) (x7 : Addr) (x8 : Int32) (x9 : Int32) (x10 : Addr) (x11 : Addr) (x12 : Addr) (x13 : Addr) (x14 : Addr) (x15 : Addr) (x16 : Addr) (x17 : Int32) : Array Slot := #[.val (.int x0), .val (.int x1), .val (.int x2), .val (.int x3), .val (.int x4), .val (.int x5), .val (.ref x6), .val (.ref x7), .val (.int x8), .val (.int x9), .val (.ref x10), .val (.ref x11), .val (.ref x12), .val (.ref x13), .val (.ref x14), .val (.ref x15), .val (.ref x16), .val (.int x17), .unset, .unset]
abbrev l_50 (x0 : Int32) (x1 : Int32) (x2 : Int32) (x3 : Int32) (x4 : Int32) (x5 : Int32) (x6 : Addr) (x7 : Addr) (x8 : Int32) (x9 : Int32) (x10 : Addr) (x11 : Addr) (x12 : Addr) (x13 : Addr) (x14 : Addr) (x15 : Addr) (x16 : Addr) (x17 : Int32) (x19 : Int32) : Array Slot := #[.val (.int x0), .val (.int x1), .val (.int x2), .val (.int x3), .val (.int x4), .val (.int x5), .val (.ref x6), .val (.ref x7), .val (.int x8), .val (.int x9), .val (.ref x10), .val (.ref x11), .val (.ref x12), .val (.ref x13), .val (.ref x14), .val (.ref x15), .val (.ref x16), .val (.int x17), .unset, .val (.int x19)]
abbrev l_51 (x0 : Int32) (x1 : Int32) (x2 : Int32) (x3 : Int32) (x4 : Int32) (x5 : Int32) (x6 : Addr) (x7 : Addr) (x8 : Int32) (x9 : Int32) (x10 : Addr) (x11 : Addr) (x12 : Addr) (x13 : Addr) (x14 : Addr) (x15 : Addr) (x16 : Addr) (x17 : Int32) (x18 : Int32) (x19 : Int32) : Array Slot := #[.val (.int x0), .val (.int x1), .val (.int x2), .val (.int x3), .val (.int x4), .val (.int x5), .val (.ref x6), .val (.ref x7), .val (.int x8), .val (.int x9), .val (.ref x10), .val (.ref x11), .val (.ref x12), .val (.ref x13), .val (.ref x14), .val (.ref x15), .val (.ref x16), .val (.int x17), .val (.int x18), .val (.int x19)]
abbrev l_52 (x0 : Int32) (x1 : Int32) (x2 : Int32) (x3 : Int32) (x4 : Int32) (x5 : Int32) (x6 : Addr) (x7 : Addr) (x8 : Int32) (x9 : Int32) (x10 : Addr) (x11 : Addr) (x12 : Addr) (x13 : Addr) (x14 : Addr) (x15 : Addr) (x16 : Addr) (x17 : Int32) (x18 : Int32) : Array Slot := #[.val (.int x0), .val (.int x1), .val (.int x2), .val (.int x3), .val (.int x4), .val (.int x5), .val (.ref x6), .val (.ref x7), .val (.int x8), .val (.int x9), .val (.ref x10), .val (.ref x11), .val (.ref x12), .val (.ref x13), .val (.ref x14), .val (.ref x15), .val (.ref x16), .val (.int x17), .val (.int x18), .unset]
theorem tm {α : Type} {l : List α} {d : α} (k : Nat) (e : l[k]? = some d) : d ∈ l := List.mem_of_getElem? e
theorem own_nf {s : State} {args : Array Value} {C n d n' d' : String} {x : MethodName} (h : (Cond.selects C x ⟨"java/lang/Object", n', d'⟩).before args s = true) : NotFace s ⟨"java/lang/Object", n, d⟩ := fun r0 hr => by
  obtain ⟨c, r, m, h1, h2, h3, h4, mk, h5, h6⟩ := Cond.selects_spec h
  have e1 := findClass_of_methodNamed h3
  have e2 := findClass_of_methodNamed hr
  have e3 : r0.cls = m.cls := Option.some.inj (e2.symm.trans e1)
  exact ⟨mk, by rw [e3]; exact h5, h6⟩
theorem d1_0 : decode method_3_code 0 = .ok (.iload_n 0, 1) := by decide +kernel
theorem d1_1 : decode method_3_code 1 = .ok (.iconst 3, 1) := by decide +kernel
theorem d1_2 : decode method_3_code 2 = .ok (.iand, 1) := by decide +kernel
theorem d1_3 : decode method_3_code 3 = .ok (.istore_n 1, 1) := by decide +kernel
theorem d1_4 : decode method_3_code 4 = .ok (.iload_n 1, 1) := by decide +kernel
theorem d1_5 : decode method_3_code 5 = .ok (.ifCond .ne 6, 3) := by decide +kernel
theorem d1_8 : decode method_3_code 8 = .ok (.bipush 73, 2) := by decide +kernel
theorem d1_10 : decode method_3_code 10 = .ok (.ireturn, 1) := by decide +kernel
theorem d1_11 : decode method_3_code 11 = .ok (.iload_n 1, 1) := by decide +kernel
theorem d1_12 : decode method_3_code 12 = .ok (.iconst 1, 1) := by decide +kernel
theorem d1_13 : decode method_3_code 13 = .ok (.if_icmp .ne 6, 3) := by decide +kernel
theorem d1_16 : decode method_3_code 16 = .ok (.bipush 84, 2) := by decide +kernel
theorem d1_18 : decode method_3_code 18 = .ok (.ireturn, 1) := by decide +kernel
theorem d1_19 : decode method_3_code 19 = .ok (.iload_n 1, 1) := by decide +kernel
theorem d1_20 : decode method_3_code 20 = .ok (.iconst 2, 1) := by decide +kernel
theorem d1_21 : decode method_3_code 21 = .ok (.if_icmp .ne 6, 3) := by decide +kernel
theorem d1_24 : decode method_3_code 24 = .ok (.bipush 69, 2) := by decide +kernel
theorem d1_26 : decode method_3_code 26 = .ok (.ireturn, 1) := by decide +kernel
theorem d1_27 : decode method_3_code 27 = .ok (.iload_n 0, 1) := by decide +kernel
theorem d1_28 : decode method_3_code 28 = .ok (.iconst 2, 1) := by decide +kernel
theorem d1_29 : decode method_3_code 29 = .ok (.iushr, 1) := by decide +kernel
theorem d1_30 : decode method_3_code 30 = .ok (.ldc 32, 2) := by decide +kernel
theorem d1_32 : decode method_3_code 32 = .ok (.iand, 1) := by decide +kernel
theorem d1_33 : decode method_3_code 33 = .ok (.i2c, 1) := by decide +kernel
theorem d1_34 : decode method_3_code 34 = .ok (.ireturn, 1) := by decide +kernel
def stF (p0 : Int32) : Int32 := (if (p0 &&& (3 : Int32)) = (0 : Int32) then (73 : Int32) else (if (p0 &&& (3 : Int32)) = (1 : Int32) then (84 : Int32) else (if (p0 &&& (3 : Int32)) = (2 : Int32) then (69 : Int32) else (nar .char ((((p0.toUInt32 >>> ((2 : Int32) &&& 31).toUInt32).toInt32) &&& (65535 : Int32)).toUInt32.toUInt16.toUInt32.toInt32)))))
def Q1 (Z : State) (p0 : Int32) (h0 : Heap) (n0 : Nat) (v : Option Value) (h : Heap) (L : List Loc) : Prop := v = some (.int (stF p0)) ∧ Fr n0 L ∧ h = h0
theorem pn_com_example_onesnap_onesnap_node_TransactionTrackerCommitsAtSyncPinLaw : plainName "com/example/onesnap/onesnap/node/TransactionTrackerCommitsAtSyncPinLaw" = true := by first | (simp [plainName, overriddenIn]; done) | decide +kernel
theorem ef_1 (m : MethodId) (p0 : Int32) : entryFrame m #[(.int p0)] 2 = mkF m 0 #[.val (.int p0), .unset] [] := by first | (simp [entryFrame, mkF, argsToLocals, Value.category]; done) | rfl
set_option maxRecDepth 65536 in
set_option maxHeartbeats 40000000 in
theorem rm1 (l : Launch) (Z : State) (a0 : Array Value) (hw : ∀ d ∈ tables_1, d.before a0 Z = true) (ws : List Jvm.Cond) (p0 : Int32)  (h0 : Heap) (n0 : Nat) (Z0 : n0 ≤ h0.size)  :
    MetFree l (⟨"com/example/onesnap/onesnap/node/TransactionTrackerCommitsAtSyncPinLaw", "status", "(I)C"⟩ : MethodName) (head1 (Jvm.Cond.code (⟨"com/example/onesnap/onesnap/node/TransactionTrackerCommitsAtSyncPinLaw", "status", "(I)C"⟩ : MethodName) method_3_code 2 (some .char) :: ws) ({ frames := 0, cells := 0, slots := 0, locals := 0 } : Room)) (fun a U => a = #[(.int p0)] ∧ Z.Warmed39 U.vm ∧ U.heap = h0) (fun _ _ _ _ _ => True) (fun _ U o U' => ∃ v L, o = .returned v ∧ Q1 Z p0 h0 n0 v U'.heap L ∧ FrameEnd U o U' L ({ frames := 0, cells := 0, slots := 0, locals := 0 } : Room).cells ({ frames := 0, cells := 0, slots := 0, locals := 0 } : Room).slots) := by
  refine MetFree.of_bodySF (plainFor_of_name pn_com_example_onesnap_onesnap_node_TransactionTrackerCommitsAtSyncPinLaw) hisR ?_
  intro p e s m args below meth c s₁ Bd hml0 hP hK
  obtain ⟨rfl, hZ, hh⟩ := hP
  have hx := Bd.exec
  have hby := Bd.bytes
  have hml : c.maxLocals = 2 := hml0
  have hown : s.vm.findClass "com/example/onesnap/onesnap/node/TransactionTrackerCommitsAtSyncPinLaw" = some m.cls := findClass_of_methodNamed Bd.named
  have hnm := (name_of_methodNamed Bd.named Bd.method).1
  have X0 : Stand p l e ({ frames := 0, cells := 0, slots := 0, locals := 0 } : Room) s m #[(.int p0)] below meth c s₁ [] 0 0 := Stand.of_body Bd
  have e0 : s₁.heap = h0 := by rw [← hh, Bd.state]; rfl
  have N0 := Fr.nil n0
  have pre0 : ∀ t, Steps p.tables e below (s₁.setTop (mkF m 0 (l_0 p0) [])) t → Steps p.tables e below (s₁.setTop (entryFrame m #[(.int p0)] 2)) t := fun t k => castTop (ef_1 m p0) k
  have pre1 : ∀ tz, Steps p.tables e below (s₁.setTop (mkF m 5 (l_1 p0 (p0 &&& (3 : Int32))) [(.int (p0 &&& (3 : Int32)))])) tz → Steps p.tables e below (s₁.setTop (entryFrame m #[(.int p0)] 2)) tz := fun tz kk => pre0 tz (by
    show Steps _ _ _ (s₁.setTop (mkF m 0 (l_0 p0) [])) _
    refine XS.iloadN X0.here hx rfl (hb hby d1_0) rfl ?_
    show Steps _ _ _ (s₁.setTop (mkF m 1 (l_0 p0) [(.int p0)])) _
    refine XS.iconst X0.here hx rfl (hb hby d1_1) ?_
    show Steps _ _ _ (s₁.setTop (mkF m 2 (l_0 p0) [(.int (3 : Int32)), (.int p0)])) _
    refine XS.iand X0.here hx rfl (hb hby d1_2) rfl ?_
    show Steps _ _ _ (s₁.setTop (mkF m 3 (l_0 p0) [(.int (p0 &&& (3 : Int32)))])) _
    refine XS.istoreN X0.here hx rfl (hb hby d1_3) rfl (l' := (l_1 p0 (p0 &&& (3 : Int32)))) rfl ?_
    show Steps _ _ _ (s₁.setTop (mkF m 4 (l_1 p0 (p0 &&& (3 : Int32))) [])) _
    refine XS.iloadN X0.here hx rfl (hb hby d1_4) rfl ?_
    exact kk)
  by_cases hc2 : (p0 &&& (3 : Int32)) = (0 : Int32)
  · obtain ⟨fs, hr, hrun, hended, hW, hsame⟩ := X0.leave (v := some (.int (73 : Int32))) (fun h => by rw [Bd.returns] at h; cases h)
    refine ⟨_, _, pre1 _ ?_, hrun, hended, _, _, rfl, ?_, ⟨_, rfl⟩, hW, hsame.mono (by decide) (by decide)⟩
    · show Steps _ _ _ (s₁.setTop (mkF m 5 (l_1 p0 (p0 &&& (3 : Int32))) [(.int (p0 &&& (3 : Int32)))])) _
      refine XS.ifNo X0.here hx rfl (hb hby d1_5) rfl ((if0 _ _).trans (teq hc2).2) ?_
      show Steps _ _ _ (s₁.setTop (mkF m 8 (l_1 p0 (p0 &&& (3 : Int32))) [])) _
      refine XS.bipush X0.here hx rfl (hb hby d1_8) ?_
      show Steps _ _ _ (s₁.setTop (mkF m 10 (l_1 p0 (p0 &&& (3 : Int32))) [(.int (73 : Int32))])) _
      exact retN X0 hx (t := .char) Bd.returns (by simp) (hb hby d1_10) hr
    · show Q1 Z p0 h0 n0 _ s₁.heap _
      rw [e0]
      exact ⟨congrArg (fun z => some (Value.int z)) (by unfold stF; rw [if_pos hc2]), N0, rfl⟩
  · have pre3 : ∀ tz, Steps p.tables e below (s₁.setTop (mkF m 13 (l_1 p0 (p0 &&& (3 : Int32))) [(.int (1 : Int32)), (.int (p0 &&& (3 : Int32)))])) tz → Steps p.tables e below (s₁.setTop (entryFrame m #[(.int p0)] 2)) tz := fun tz kk => pre1 tz (by
      show Steps _ _ _ (s₁.setTop (mkF m 5 (l_1 p0 (p0 &&& (3 : Int32))) [(.int (p0 &&& (3 : Int32)))])) _
      refine XS.ifYes X0.here hx rfl (pc0 := 5) (pc' := 11) rfl (hb hby d1_5) rfl ((if0 _ _).trans (feq hc2).2) (by decide) (by decide) ?_
      show Steps _ _ _ (s₁.setTop (mkF m 11 (l_1 p0 (p0 &&& (3 : Int32))) [])) _
      refine XS.iloadN X0.here hx rfl (hb hby d1_11) rfl ?_
      show Steps _ _ _ (s₁.setTop (mkF m 12 (l_1 p0 (p0 &&& (3 : Int32))) [(.int (p0 &&& (3 : Int32)))])) _
      refine XS.iconst X0.here hx rfl (hb hby d1_12) ?_
      exact kk)
    by_cases hc4 : (p0 &&& (3 : Int32)) = (1 : Int32)
    · obtain ⟨fs, hr, hrun, hended, hW, hsame⟩ := X0.leave (v := some (.int (84 : Int32))) (fun h => by rw [Bd.returns] at h; cases h)
      refine ⟨_, _, pre3 _ ?_, hrun, hended, _, _, rfl, ?_, ⟨_, rfl⟩, hW, hsame.mono (by decide) (by decide)⟩
      · show Steps _ _ _ (s₁.setTop (mkF m 13 (l_1 p0 (p0 &&& (3 : Int32))) [(.int (1 : Int32)), (.int (p0 &&& (3 : Int32)))])) _
        refine XS.icmpNo X0.here hx rfl (hb hby d1_13) rfl (teq hc4).2 ?_
        show Steps _ _ _ (s₁.setTop (mkF m 16 (l_1 p0 (p0 &&& (3 : Int32))) [])) _
        refine XS.bipush X0.here hx rfl (hb hby d1_16) ?_
        show Steps _ _ _ (s₁.setTop (mkF m 18 (l_1 p0 (p0 &&& (3 : Int32))) [(.int (84 : Int32))])) _
        exact retN X0 hx (t := .char) Bd.returns (by simp) (hb hby d1_18) hr
      · show Q1 Z p0 h0 n0 _ s₁.heap _
        rw [e0]
        exact ⟨congrArg (fun z => some (Value.int z)) (by unfold stF; rw [if_neg hc2, if_pos hc4]), N0, rfl⟩
    · have pre5 : ∀ tz, Steps p.tables e below (s₁.setTop (mkF m 21 (l_1 p0 (p0 &&& (3 : Int32))) [(.int (2 : Int32)), (.int (p0 &&& (3 : Int32)))])) tz → Steps p.tables e below (s₁.setTop (entryFrame m #[(.int p0)] 2)) tz := fun tz kk => pre3 tz (by
        show Steps _ _ _ (s₁.setTop (mkF m 13 (l_1 p0 (p0 &&& (3 : Int32))) [(.int (1 : Int32)), (.int (p0 &&& (3 : Int32)))])) _
        refine XS.icmpYes X0.here hx rfl (pc0 := 13) (pc' := 19) rfl (hb hby d1_13) rfl (feq hc4).2 (by decide) (by decide) ?_
        show Steps _ _ _ (s₁.setTop (mkF m 19 (l_1 p0 (p0 &&& (3 : Int32))) [])) _
        refine XS.iloadN X0.here hx rfl (hb hby d1_19) rfl ?_
        show Steps _ _ _ (s₁.setTop (mkF m 20 (l_1 p0 (p0 &&& (3 : Int32))) [(.int (p0 &&& (3 : Int32)))])) _
        refine XS.iconst X0.here hx rfl (hb hby d1_20) ?_
        exact kk)
      by_cases hc6 : (p0 &&& (3 : Int32)) = (2 : Int32)
      · obtain ⟨fs, hr, hrun, hended, hW, hsame⟩ := X0.leave (v := some (.int (69 : Int32))) (fun h => by rw [Bd.returns] at h; cases h)
        refine ⟨_, _, pre5 _ ?_, hrun, hended, _, _, rfl, ?_, ⟨_, rfl⟩, hW, hsame.mono (by decide) (by decide)⟩
        · show Steps _ _ _ (s₁.setTop (mkF m 21 (l_1 p0 (p0 &&& (3 : Int32))) [(.int (2 : Int32)), (.int (p0 &&& (3 : Int32)))])) _
          refine XS.icmpNo X0.here hx rfl (hb hby d1_21) rfl (teq hc6).2 ?_
          show Steps _ _ _ (s₁.setTop (mkF m 24 (l_1 p0 (p0 &&& (3 : Int32))) [])) _
          refine XS.bipush X0.here hx rfl (hb hby d1_24) ?_
          show Steps _ _ _ (s₁.setTop (mkF m 26 (l_1 p0 (p0 &&& (3 : Int32))) [(.int (69 : Int32))])) _
          exact retN X0 hx (t := .char) Bd.returns (by simp) (hb hby d1_26) hr
        · show Q1 Z p0 h0 n0 _ s₁.heap _
          rw [e0]
          exact ⟨congrArg (fun z => some (Value.int z)) (by unfold stF; rw [if_neg hc2, if_neg hc4, if_pos hc6]), N0, rfl⟩
      · obtain ⟨fs, hr, hrun, hended, hW, hsame⟩ := X0.leave (v := some (.int (nar .char ((((p0.toUInt32 >>> ((2 : Int32) &&& 31).toUInt32).toInt32) &&& (65535 : Int32)).toUInt32.toUInt16.toUInt32.toInt32)))) (fun h => by rw [Bd.returns] at h; cases h)
        refine ⟨_, _, pre5 _ ?_, hrun, hended, _, _, rfl, ?_, ⟨_, rfl⟩, hW, hsame.mono (by decide) (by decide)⟩
        · show Steps _ _ _ (s₁.setTop (mkF m 21 (l_1 p0 (p0 &&& (3 : Int32))) [(.int (2 : Int32)), (.int (p0 &&& (3 : Int32)))])) _
          refine XS.icmpYes X0.here hx rfl (pc0 := 21) (pc' := 27) rfl (hb hby d1_21) rfl (feq hc6).2 (by decide) (by decide) ?_
          show Steps _ _ _ (s₁.setTop (mkF m 27 (l_1 p0 (p0 &&& (3 : Int32))) [])) _
          refine XS.iloadN X0.here hx rfl (hb hby d1_27) rfl ?_
          show Steps _ _ _ (s₁.setTop (mkF m 28 (l_1 p0 (p0 &&& (3 : Int32))) [(.int p0)])) _
          refine XS.iconst X0.here hx rfl (hb hby d1_28) ?_
          show Steps _ _ _ (s₁.setTop (mkF m 29 (l_1 p0 (p0 &&& (3 : Int32))) [(.int (2 : Int32)), (.int p0)])) _
          refine XS.iushr X0.here hx rfl (hb hby d1_29) rfl ?_
          show Steps _ _ _ (s₁.setTop (mkF m 30 (l_1 p0 (p0 &&& (3 : Int32))) [(.int ((p0.toUInt32 >>> ((2 : Int32) &&& 31).toUInt32).toInt32))])) _
          refine X0.ldcInt hx hown (mvT hZ (hw _ (tm 324 rfl))) (g := (mkF m 30 (l_1 p0 (p0 &&& (3 : Int32))) [(.int ((p0.toUInt32 >>> ((2 : Int32) &&& 31).toUInt32).toInt32))])) rfl (hb hby d1_30) _ ?_
          show Steps _ _ _ (s₁.setTop (mkF m 32 (l_1 p0 (p0 &&& (3 : Int32))) [(.int (65535 : Int32)), (.int ((p0.toUInt32 >>> ((2 : Int32) &&& 31).toUInt32).toInt32))])) _
          refine XS.iand X0.here hx rfl (hb hby d1_32) rfl ?_
          show Steps _ _ _ (s₁.setTop (mkF m 33 (l_1 p0 (p0 &&& (3 : Int32))) [(.int (((p0.toUInt32 >>> ((2 : Int32) &&& 31).toUInt32).toInt32) &&& (65535 : Int32)))])) _
          refine XS.i2c X0.here hx rfl (hb hby d1_33) rfl ?_
          show Steps _ _ _ (s₁.setTop (mkF m 34 (l_1 p0 (p0 &&& (3 : Int32))) [(.int ((((p0.toUInt32 >>> ((2 : Int32) &&& 31).toUInt32).toInt32) &&& (65535 : Int32)).toUInt32.toUInt16.toUInt32.toInt32))])) _
          exact retN X0 hx (t := .char) Bd.returns (by simp) (hb hby d1_34) hr
        · show Q1 Z p0 h0 n0 _ s₁.heap _
          rw [e0]
          exact ⟨congrArg (fun z => some (Value.int z)) (by unfold stF; rw [if_neg hc2, if_neg hc4, if_neg hc6]), N0, rfl⟩
def Q2 (Z : State) (h0 : Heap) (n0 : Nat) (v : Option Value) (h : Heap) (L : List Loc) : Prop := ∃ x : Addr, v = some (.ref x) ∧ Fr n0 L ∧ h = h0 ∧ Exa Z h0 x "com/example/onesnap/onesnap/node/StatementKind"
theorem d2_0 : decode method_2_code 0 = .ok (.iload_n 0, 1) := by decide +kernel
theorem d2_1 : decode method_2_code 1 = .ok (.ldc 7, 2) := by decide +kernel
theorem d2_3 : decode method_2_code 3 = .ok (.iand, 1) := by decide +kernel
theorem d2_4 : decode method_2_code 4 = .ok (.bipush 7, 2) := by decide +kernel
theorem d2_6 : decode method_2_code 6 = .ok (.irem, 1) := by decide +kernel
theorem d2_7 : decode method_2_code 7 = .ok (.istore_n 1, 1) := by decide +kernel
theorem d2_8 : decode method_2_code 8 = .ok (.iload_n 1, 1) := by decide +kernel
theorem d2_9 : decode method_2_code 9 = .ok (.ifCond .ne 7, 3) := by decide +kernel
theorem d2_12 : decode method_2_code 12 = .ok (.getstatic 8, 3) := by decide +kernel
theorem d2_15 : decode method_2_code 15 = .ok (.areturn, 1) := by decide +kernel
theorem d2_16 : decode method_2_code 16 = .ok (.iload_n 1, 1) := by decide +kernel
theorem d2_17 : decode method_2_code 17 = .ok (.iconst 1, 1) := by decide +kernel
theorem d2_18 : decode method_2_code 18 = .ok (.if_icmp .ne 7, 3) := by decide +kernel
theorem d2_21 : decode method_2_code 21 = .ok (.getstatic 14, 3) := by decide +kernel
theorem d2_24 : decode method_2_code 24 = .ok (.areturn, 1) := by decide +kernel
theorem d2_25 : decode method_2_code 25 = .ok (.iload_n 1, 1) := by decide +kernel
theorem d2_26 : decode method_2_code 26 = .ok (.iconst 2, 1) := by decide +kernel
theorem d2_27 : decode method_2_code 27 = .ok (.if_icmp .ne 7, 3) := by decide +kernel
theorem d2_30 : decode method_2_code 30 = .ok (.getstatic 17, 3) := by decide +kernel
theorem d2_33 : decode method_2_code 33 = .ok (.areturn, 1) := by decide +kernel
theorem d2_34 : decode method_2_code 34 = .ok (.iload_n 1, 1) := by decide +kernel
theorem d2_35 : decode method_2_code 35 = .ok (.iconst 3, 1) := by decide +kernel
theorem d2_36 : decode method_2_code 36 = .ok (.if_icmp .ne 7, 3) := by decide +kernel
theorem d2_39 : decode method_2_code 39 = .ok (.getstatic 20, 3) := by decide +kernel
theorem d2_42 : decode method_2_code 42 = .ok (.areturn, 1) := by decide +kernel
theorem d2_43 : decode method_2_code 43 = .ok (.iload_n 1, 1) := by decide +kernel
theorem d2_44 : decode method_2_code 44 = .ok (.iconst 4, 1) := by decide +kernel
theorem d2_45 : decode method_2_code 45 = .ok (.if_icmp .ne 7, 3) := by decide +kernel
theorem d2_48 : decode method_2_code 48 = .ok (.getstatic 23, 3) := by decide +kernel
theorem d2_51 : decode method_2_code 51 = .ok (.areturn, 1) := by decide +kernel
theorem d2_52 : decode method_2_code 52 = .ok (.iload_n 1, 1) := by decide +kernel
theorem d2_53 : decode method_2_code 53 = .ok (.iconst 5, 1) := by decide +kernel
theorem d2_54 : decode method_2_code 54 = .ok (.if_icmp .ne 7, 3) := by decide +kernel
theorem d2_57 : decode method_2_code 57 = .ok (.getstatic 26, 3) := by decide +kernel
theorem d2_60 : decode method_2_code 60 = .ok (.areturn, 1) := by decide +kernel
theorem d2_61 : decode method_2_code 61 = .ok (.getstatic 29, 3) := by decide +kernel
theorem d2_64 : decode method_2_code 64 = .ok (.areturn, 1) := by decide +kernel
theorem ef_2 (m : MethodId) (p0 : Int32) : entryFrame m #[(.int p0)] 2 = mkF m 0 #[.val (.int p0), .unset] [] := by first | (simp [entryFrame, mkF, argsToLocals, Value.category]; done) | rfl
set_option maxRecDepth 65536 in
set_option maxHeartbeats 40000000 in
theorem rm2 (l : Launch) (Z : State) (a0 : Array Value) (hw : ∀ d ∈ tables_1, d.before a0 Z = true) (ws : List Jvm.Cond) (p0 : Int32) (s0 s1 s2 s3 s4 s5 s6 : Addr) (h0 : Heap) (n0 : Nat) (Z0 : n0 ≤ h0.size) (O0 : Old Z n0 h0) (S0 : Sta Z Z.heap "com/example/onesnap/onesnap/node/StatementKind" "BEGIN" "Lcom/example/onesnap/onesnap/node/StatementKind;" (.ref s0)) (E0 : Exa Z Z.heap s0 "com/example/onesnap/onesnap/node/StatementKind") (S1 : Sta Z Z.heap "com/example/onesnap/onesnap/node/StatementKind" "COMMIT" "Lcom/example/onesnap/onesnap/node/StatementKind;" (.ref s1)) (E1 : Exa Z Z.heap s1 "com/example/onesnap/onesnap/node/StatementKind") (S2 : Sta Z Z.heap "com/example/onesnap/onesnap/node/StatementKind" "COMMIT_AND_CHAIN" "Lcom/example/onesnap/onesnap/node/StatementKind;" (.ref s2)) (E2 : Exa Z Z.heap s2 "com/example/onesnap/onesnap/node/StatementKind") (S3 : Sta Z Z.heap "com/example/onesnap/onesnap/node/StatementKind" "ROLLBACK" "Lcom/example/onesnap/onesnap/node/StatementKind;" (.ref s3)) (E3 : Exa Z Z.heap s3 "com/example/onesnap/onesnap/node/StatementKind") (S4 : Sta Z Z.heap "com/example/onesnap/onesnap/node/StatementKind" "CONTROL" "Lcom/example/onesnap/onesnap/node/StatementKind;" (.ref s4)) (E4 : Exa Z Z.heap s4 "com/example/onesnap/onesnap/node/StatementKind") (S5 : Sta Z Z.heap "com/example/onesnap/onesnap/node/StatementKind" "WRITE" "Lcom/example/onesnap/onesnap/node/StatementKind;" (.ref s5)) (E5 : Exa Z Z.heap s5 "com/example/onesnap/onesnap/node/StatementKind") (S6 : Sta Z Z.heap "com/example/onesnap/onesnap/node/StatementKind" "OTHER" "Lcom/example/onesnap/onesnap/node/StatementKind;" (.ref s6)) (E6 : Exa Z Z.heap s6 "com/example/onesnap/onesnap/node/StatementKind") :
    MetFree l (⟨"com/example/onesnap/onesnap/node/TransactionTrackerCommitsAtSyncPinLaw", "kind", "(I)Lcom/example/onesnap/onesnap/node/StatementKind;"⟩ : MethodName) (head1 (Jvm.Cond.code (⟨"com/example/onesnap/onesnap/node/TransactionTrackerCommitsAtSyncPinLaw", "kind", "(I)Lcom/example/onesnap/onesnap/node/StatementKind;"⟩ : MethodName) method_2_code 2 (some (.object "com/example/onesnap/onesnap/node/StatementKind")) :: ws) ({ frames := 0, cells := 0, slots := 0, locals := 0 } : Room)) (fun a U => a = #[(.int p0)] ∧ Z.Warmed39 U.vm ∧ U.heap = h0) (fun _ _ _ _ _ => True) (fun _ U o U' => ∃ v L, o = .returned v ∧ Q2 Z h0 n0 v U'.heap L ∧ FrameEnd U o U' L ({ frames := 0, cells := 0, slots := 0, locals := 0 } : Room).cells ({ frames := 0, cells := 0, slots := 0, locals := 0 } : Room).slots) := by
  refine MetFree.of_bodySF (plainFor_of_name pn_com_example_onesnap_onesnap_node_TransactionTrackerCommitsAtSyncPinLaw) hisR ?_
  intro p e s m args below meth c s₁ Bd hml0 hP hK
  obtain ⟨rfl, hZ, hh⟩ := hP
  have hx := Bd.exec
  have hby := Bd.bytes
  have hml : c.maxLocals = 2 := hml0
  have hown : s.vm.findClass "com/example/onesnap/onesnap/node/TransactionTrackerCommitsAtSyncPinLaw" = some m.cls := findClass_of_methodNamed Bd.named
  have hnm := (name_of_methodNamed Bd.named Bd.method).1
  have X0 : Stand p l e ({ frames := 0, cells := 0, slots := 0, locals := 0 } : Room) s m #[(.int p0)] below meth c s₁ [] 0 0 := Stand.of_body Bd
  have e0 : s₁.heap = h0 := by rw [← hh, Bd.state]; rfl
  have N0 := Fr.nil n0
  have pre0 : ∀ t, Steps p.tables e below (s₁.setTop (mkF m 0 (l_0 p0) [])) t → Steps p.tables e below (s₁.setTop (entryFrame m #[(.int p0)] 2)) t := fun t k => castTop (ef_2 m p0) k
  obtain ⟨v1, ev1⟩ : ∃ z : Int32, z = ((p0 &&& (2147483647 : Int32)) % (7 : Int32)) := ⟨_, rfl⟩
  have pre2 : ∀ tz, Steps p.tables e below (s₁.setTop (mkF m 9 (l_1 p0 v1) [(.int v1)])) tz → Steps p.tables e below (s₁.setTop (entryFrame m #[(.int p0)] 2)) tz := fun tz kk => pre0 tz (by
    show Steps _ _ _ (s₁.setTop (mkF m 0 (l_0 p0) [])) _
    refine XS.iloadN X0.here hx rfl (hb hby d2_0) rfl ?_
    show Steps _ _ _ (s₁.setTop (mkF m 1 (l_0 p0) [(.int p0)])) _
    refine X0.ldcInt hx hown (mvT hZ (hw _ (tm 7 rfl))) (g := (mkF m 1 (l_0 p0) [(.int p0)])) rfl (hb hby d2_1) _ ?_
    show Steps _ _ _ (s₁.setTop (mkF m 3 (l_0 p0) [(.int (2147483647 : Int32)), (.int p0)])) _
    refine XS.iand X0.here hx rfl (hb hby d2_3) rfl ?_
    show Steps _ _ _ (s₁.setTop (mkF m 4 (l_0 p0) [(.int (p0 &&& (2147483647 : Int32)))])) _
    refine XS.bipush X0.here hx rfl (hb hby d2_4) ?_
    show Steps _ _ _ (s₁.setTop (mkF m 6 (l_0 p0) [(.int (7 : Int32)), (.int (p0 &&& (2147483647 : Int32)))])) _
    refine iremM (g := (mkF m 6 (l_0 p0) [(.int (7 : Int32)), (.int (p0 &&& (2147483647 : Int32)))])) X0 hx rfl (hb hby d2_6) rfl (by decide) ?_
    show Steps _ _ _ (s₁.setTop (mkF m 7 (l_0 p0) [(.int ((p0 &&& (2147483647 : Int32)) % (7 : Int32)))])) _
    rw [← ev1]
    show Steps _ _ _ (s₁.setTop (mkF m 7 (l_0 p0) [(.int v1)])) _
    refine XS.istoreN X0.here hx rfl (hb hby d2_7) rfl (l' := (l_1 p0 v1)) rfl ?_
    show Steps _ _ _ (s₁.setTop (mkF m 8 (l_1 p0 v1) [])) _
    refine XS.iloadN X0.here hx rfl (hb hby d2_8) rfl ?_
    exact kk)
  by_cases hc3 : v1 = (0 : Int32)
  · obtain ⟨T4, X4, e4, st4⟩ := getS2 X0 hx hZ hown (host := "") (Or.inl (hw _ (tm 327 rfl))) Via.refl e0 (S0.ext O0.2) (g := (mkF m 12 (l_1 p0 v1) [])) rfl (hb hby d2_12)
    obtain ⟨fs, hr, hrun, hended, hW, hsame⟩ := X4.leave (v := some (.ref s0)) (fun h => by rw [Bd.returns] at h; cases h)
    refine ⟨_, _, pre2 _ ?_, hrun, hended, _, _, rfl, ?_, ⟨_, rfl⟩, hW, hsame.mono (by decide) (by decide)⟩
    · show Steps _ _ _ (s₁.setTop (mkF m 9 (l_1 p0 v1) [(.int v1)])) _
      refine XS.ifNo X0.here hx rfl (hb hby d2_9) rfl ((if0 _ _).trans (teq hc3).2) ?_
      show Steps _ _ _ (s₁.setTop (mkF m 12 (l_1 p0 v1) [])) _
      refine st4 _ ?_
      show Steps _ _ _ (T4.setTop (mkF m 15 (l_1 p0 v1) [(.ref s0)])) _
      exact X4.areturnOut hx rfl Bd.returns rfl (hb hby d2_15) hr
    · show Q2 Z h0 n0 _ T4.heap _
      rw [e4]
      exact ⟨s0, rfl, N0, rfl, E0.ext O0.2⟩
  · have pre5 : ∀ tz, Steps p.tables e below (s₁.setTop (mkF m 18 (l_1 p0 v1) [(.int (1 : Int32)), (.int v1)])) tz → Steps p.tables e below (s₁.setTop (entryFrame m #[(.int p0)] 2)) tz := fun tz kk => pre2 tz (by
      show Steps _ _ _ (s₁.setTop (mkF m 9 (l_1 p0 v1) [(.int v1)])) _
      refine XS.ifYes X0.here hx rfl (pc0 := 9) (pc' := 16) rfl (hb hby d2_9) rfl ((if0 _ _).trans (feq hc3).2) (by decide) (by decide) ?_
      show Steps _ _ _ (s₁.setTop (mkF m 16 (l_1 p0 v1) [])) _
      refine XS.iloadN X0.here hx rfl (hb hby d2_16) rfl ?_
      show Steps _ _ _ (s₁.setTop (mkF m 17 (l_1 p0 v1) [(.int v1)])) _
      refine XS.iconst X0.here hx rfl (hb hby d2_17) ?_
      exact kk)
    by_cases hc6 : v1 = (1 : Int32)
    · obtain ⟨T7, X7, e7, st7⟩ := getS2 X0 hx hZ hown (host := "") (Or.inl (hw _ (tm 332 rfl))) Via.refl e0 (S1.ext O0.2) (g := (mkF m 21 (l_1 p0 v1) [])) rfl (hb hby d2_21)
      obtain ⟨fs, hr, hrun, hended, hW, hsame⟩ := X7.leave (v := some (.ref s1)) (fun h => by rw [Bd.returns] at h; cases h)
      refine ⟨_, _, pre5 _ ?_, hrun, hended, _, _, rfl, ?_, ⟨_, rfl⟩, hW, hsame.mono (by decide) (by decide)⟩
      · show Steps _ _ _ (s₁.setTop (mkF m 18 (l_1 p0 v1) [(.int (1 : Int32)), (.int v1)])) _
        refine XS.icmpNo X0.here hx rfl (hb hby d2_18) rfl (teq hc6).2 ?_
        show Steps _ _ _ (s₁.setTop (mkF m 21 (l_1 p0 v1) [])) _
        refine st7 _ ?_
        show Steps _ _ _ (T7.setTop (mkF m 24 (l_1 p0 v1) [(.ref s1)])) _
        exact X7.areturnOut hx rfl Bd.returns rfl (hb hby d2_24) hr
      · show Q2 Z h0 n0 _ T7.heap _
        rw [e7]
        exact ⟨s1, rfl, N0, rfl, E1.ext O0.2⟩
    · have pre8 : ∀ tz, Steps p.tables e below (s₁.setTop (mkF m 27 (l_1 p0 v1) [(.int (2 : Int32)), (.int v1)])) tz → Steps p.tables e below (s₁.setTop (entryFrame m #[(.int p0)] 2)) tz := fun tz kk => pre5 tz (by
        show Steps _ _ _ (s₁.setTop (mkF m 18 (l_1 p0 v1) [(.int (1 : Int32)), (.int v1)])) _
        refine XS.icmpYes X0.here hx rfl (pc0 := 18) (pc' := 25) rfl (hb hby d2_18) rfl (feq hc6).2 (by decide) (by decide) ?_
        show Steps _ _ _ (s₁.setTop (mkF m 25 (l_1 p0 v1) [])) _
        refine XS.iloadN X0.here hx rfl (hb hby d2_25) rfl ?_
        show Steps _ _ _ (s₁.setTop (mkF m 26 (l_1 p0 v1) [(.int v1)])) _
        refine XS.iconst X0.here hx rfl (hb hby d2_26) ?_
        exact kk)
      by_cases hc9 : v1 = (2 : Int32)
      · obtain ⟨T10, X10, e10, st10⟩ := getS2 X0 hx hZ hown (host := "") (Or.inl (hw _ (tm 11 rfl))) Via.refl e0 (S2.ext O0.2) (g := (mkF m 30 (l_1 p0 v1) [])) rfl (hb hby d2_30)
        obtain ⟨fs, hr, hrun, hended, hW, hsame⟩ := X10.leave (v := some (.ref s2)) (fun h => by rw [Bd.returns] at h; cases h)
        refine ⟨_, _, pre8 _ ?_, hrun, hended, _, _, rfl, ?_, ⟨_, rfl⟩, hW, hsame.mono (by decide) (by decide)⟩
        · show Steps _ _ _ (s₁.setTop (mkF m 27 (l_1 p0 v1) [(.int (2 : Int32)), (.int v1)])) _
          refine XS.icmpNo X0.here hx rfl (hb hby d2_27) rfl (teq hc9).2 ?_
          show Steps _ _ _ (s₁.setTop (mkF m 30 (l_1 p0 v1) [])) _
          refine st10 _ ?_
          show Steps _ _ _ (T10.setTop (mkF m 33 (l_1 p0 v1) [(.ref s2)])) _
          exact X10.areturnOut hx rfl Bd.returns rfl (hb hby d2_33) hr
        · show Q2 Z h0 n0 _ T10.heap _
          rw [e10]
          exact ⟨s2, rfl, N0, rfl, E2.ext O0.2⟩
      · have pre11 : ∀ tz, Steps p.tables e below (s₁.setTop (mkF m 36 (l_1 p0 v1) [(.int (3 : Int32)), (.int v1)])) tz → Steps p.tables e below (s₁.setTop (entryFrame m #[(.int p0)] 2)) tz := fun tz kk => pre8 tz (by
          show Steps _ _ _ (s₁.setTop (mkF m 27 (l_1 p0 v1) [(.int (2 : Int32)), (.int v1)])) _
          refine XS.icmpYes X0.here hx rfl (pc0 := 27) (pc' := 34) rfl (hb hby d2_27) rfl (feq hc9).2 (by decide) (by decide) ?_
          show Steps _ _ _ (s₁.setTop (mkF m 34 (l_1 p0 v1) [])) _
          refine XS.iloadN X0.here hx rfl (hb hby d2_34) rfl ?_
          show Steps _ _ _ (s₁.setTop (mkF m 35 (l_1 p0 v1) [(.int v1)])) _
          refine XS.iconst X0.here hx rfl (hb hby d2_35) ?_
          exact kk)
        by_cases hc12 : v1 = (3 : Int32)
        · obtain ⟨T13, X13, e13, st13⟩ := getS2 X0 hx hZ hown (host := "") (Or.inl (hw _ (tm 8 rfl))) Via.refl e0 (S3.ext O0.2) (g := (mkF m 39 (l_1 p0 v1) [])) rfl (hb hby d2_39)
          obtain ⟨fs, hr, hrun, hended, hW, hsame⟩ := X13.leave (v := some (.ref s3)) (fun h => by rw [Bd.returns] at h; cases h)
          refine ⟨_, _, pre11 _ ?_, hrun, hended, _, _, rfl, ?_, ⟨_, rfl⟩, hW, hsame.mono (by decide) (by decide)⟩
          · show Steps _ _ _ (s₁.setTop (mkF m 36 (l_1 p0 v1) [(.int (3 : Int32)), (.int v1)])) _
            refine XS.icmpNo X0.here hx rfl (hb hby d2_36) rfl (teq hc12).2 ?_
            show Steps _ _ _ (s₁.setTop (mkF m 39 (l_1 p0 v1) [])) _
            refine st13 _ ?_
            show Steps _ _ _ (T13.setTop (mkF m 42 (l_1 p0 v1) [(.ref s3)])) _
            exact X13.areturnOut hx rfl Bd.returns rfl (hb hby d2_42) hr
          · show Q2 Z h0 n0 _ T13.heap _
            rw [e13]
            exact ⟨s3, rfl, N0, rfl, E3.ext O0.2⟩
        · have pre14 : ∀ tz, Steps p.tables e below (s₁.setTop (mkF m 45 (l_1 p0 v1) [(.int (4 : Int32)), (.int v1)])) tz → Steps p.tables e below (s₁.setTop (entryFrame m #[(.int p0)] 2)) tz := fun tz kk => pre11 tz (by
            show Steps _ _ _ (s₁.setTop (mkF m 36 (l_1 p0 v1) [(.int (3 : Int32)), (.int v1)])) _
            refine XS.icmpYes X0.here hx rfl (pc0 := 36) (pc' := 43) rfl (hb hby d2_36) rfl (feq hc12).2 (by decide) (by decide) ?_
            show Steps _ _ _ (s₁.setTop (mkF m 43 (l_1 p0 v1) [])) _
            refine XS.iloadN X0.here hx rfl (hb hby d2_43) rfl ?_
            show Steps _ _ _ (s₁.setTop (mkF m 44 (l_1 p0 v1) [(.int v1)])) _
            refine XS.iconst X0.here hx rfl (hb hby d2_44) ?_
            exact kk)
          by_cases hc15 : v1 = (4 : Int32)
          · obtain ⟨T16, X16, e16, st16⟩ := getS2 X0 hx hZ hown (host := "") (Or.inl (hw _ (tm 325 rfl))) Via.refl e0 (S4.ext O0.2) (g := (mkF m 48 (l_1 p0 v1) [])) rfl (hb hby d2_48)
            obtain ⟨fs, hr, hrun, hended, hW, hsame⟩ := X16.leave (v := some (.ref s4)) (fun h => by rw [Bd.returns] at h; cases h)
            refine ⟨_, _, pre14 _ ?_, hrun, hended, _, _, rfl, ?_, ⟨_, rfl⟩, hW, hsame.mono (by decide) (by decide)⟩
            · show Steps _ _ _ (s₁.setTop (mkF m 45 (l_1 p0 v1) [(.int (4 : Int32)), (.int v1)])) _
              refine XS.icmpNo X0.here hx rfl (hb hby d2_45) rfl (teq hc15).2 ?_
              show Steps _ _ _ (s₁.setTop (mkF m 48 (l_1 p0 v1) [])) _
              refine st16 _ ?_
              show Steps _ _ _ (T16.setTop (mkF m 51 (l_1 p0 v1) [(.ref s4)])) _
              exact X16.areturnOut hx rfl Bd.returns rfl (hb hby d2_51) hr
            · show Q2 Z h0 n0 _ T16.heap _
              rw [e16]
              exact ⟨s4, rfl, N0, rfl, E4.ext O0.2⟩
          · have pre17 : ∀ tz, Steps p.tables e below (s₁.setTop (mkF m 54 (l_1 p0 v1) [(.int (5 : Int32)), (.int v1)])) tz → Steps p.tables e below (s₁.setTop (entryFrame m #[(.int p0)] 2)) tz := fun tz kk => pre14 tz (by
              show Steps _ _ _ (s₁.setTop (mkF m 45 (l_1 p0 v1) [(.int (4 : Int32)), (.int v1)])) _
              refine XS.icmpYes X0.here hx rfl (pc0 := 45) (pc' := 52) rfl (hb hby d2_45) rfl (feq hc15).2 (by decide) (by decide) ?_
              show Steps _ _ _ (s₁.setTop (mkF m 52 (l_1 p0 v1) [])) _
              refine XS.iloadN X0.here hx rfl (hb hby d2_52) rfl ?_
              show Steps _ _ _ (s₁.setTop (mkF m 53 (l_1 p0 v1) [(.int v1)])) _
              refine XS.iconst X0.here hx rfl (hb hby d2_53) ?_
              exact kk)
            by_cases hc18 : v1 = (5 : Int32)
            · obtain ⟨T19, X19, e19, st19⟩ := getS2 X0 hx hZ hown (host := "") (Or.inl (hw _ (tm 328 rfl))) Via.refl e0 (S5.ext O0.2) (g := (mkF m 57 (l_1 p0 v1) [])) rfl (hb hby d2_57)
              obtain ⟨fs, hr, hrun, hended, hW, hsame⟩ := X19.leave (v := some (.ref s5)) (fun h => by rw [Bd.returns] at h; cases h)
              refine ⟨_, _, pre17 _ ?_, hrun, hended, _, _, rfl, ?_, ⟨_, rfl⟩, hW, hsame.mono (by decide) (by decide)⟩
              · show Steps _ _ _ (s₁.setTop (mkF m 54 (l_1 p0 v1) [(.int (5 : Int32)), (.int v1)])) _
                refine XS.icmpNo X0.here hx rfl (hb hby d2_54) rfl (teq hc18).2 ?_
                show Steps _ _ _ (s₁.setTop (mkF m 57 (l_1 p0 v1) [])) _
                refine st19 _ ?_
                show Steps _ _ _ (T19.setTop (mkF m 60 (l_1 p0 v1) [(.ref s5)])) _
                exact X19.areturnOut hx rfl Bd.returns rfl (hb hby d2_60) hr
              · show Q2 Z h0 n0 _ T19.heap _
                rw [e19]
                exact ⟨s5, rfl, N0, rfl, E5.ext O0.2⟩
            · obtain ⟨T20, X20, e20, st20⟩ := getS2 X0 hx hZ hown (host := "") (Or.inl (hw _ (tm 333 rfl))) Via.refl e0 (S6.ext O0.2) (g := (mkF m 61 (l_1 p0 v1) [])) rfl (hb hby d2_61)
              obtain ⟨fs, hr, hrun, hended, hW, hsame⟩ := X20.leave (v := some (.ref s6)) (fun h => by rw [Bd.returns] at h; cases h)
              refine ⟨_, _, pre17 _ ?_, hrun, hended, _, _, rfl, ?_, ⟨_, rfl⟩, hW, hsame.mono (by decide) (by decide)⟩
              · show Steps _ _ _ (s₁.setTop (mkF m 54 (l_1 p0 v1) [(.int (5 : Int32)), (.int v1)])) _
                refine XS.icmpYes X0.here hx rfl (pc0 := 54) (pc' := 61) rfl (hb hby d2_54) rfl (feq hc18).2 (by decide) (by decide) ?_
                show Steps _ _ _ (s₁.setTop (mkF m 61 (l_1 p0 v1) [])) _
                refine st20 _ ?_
                show Steps _ _ _ (T20.setTop (mkF m 64 (l_1 p0 v1) [(.ref s6)])) _
                exact X20.areturnOut hx rfl Bd.returns rfl (hb hby d2_64) hr
              · show Q2 Z h0 n0 _ T20.heap _
                rw [e20]
                exact ⟨s6, rfl, N0, rfl, E6.ext O0.2⟩
theorem d5_0 : decode jdk_22_method_1_code 0 = .ok (.aload_n 0, 1) := by decide +kernel
theorem d5_1 : decode jdk_22_method_1_code 1 = .ok (.invokespecial 1, 3) := by decide +kernel
theorem d5_4 : decode jdk_22_method_1_code 4 = .ok (.return_, 1) := by decide +kernel
def Q5 (h0 : Heap) (n0 : Nat) (v : Option Value) (h : Heap) (L : List Loc) : Prop := v = none ∧ Fr n0 L ∧ h = h0
theorem pn_java_util_AbstractCollection : plainName "java/util/AbstractCollection" = true := by first | (simp [plainName, overriddenIn]; done) | decide +kernel
theorem ef_5 (m : MethodId) (r0 : Addr) : entryFrame m #[(.ref r0)] 1 = mkF m 0 #[.val (.ref r0)] [] := by first | (simp [entryFrame, mkF, argsToLocals, Value.category]; done) | rfl
set_option maxRecDepth 65536 in
set_option maxHeartbeats 40000000 in
theorem rm5 (l : Launch) (Z : State) (a0 : Array Value) (hw : ∀ d ∈ tables_1, d.before a0 Z = true) (ws : List Jvm.Cond) (r0 : Addr)  (h0 : Heap) (n0 : Nat) (Z0 : n0 ≤ h0.size)  :
    MetFree l (⟨"java/util/AbstractCollection", "<init>", "()V"⟩ : MethodName) (head1 (Jvm.Cond.code (⟨"java/util/AbstractCollection", "<init>", "()V"⟩ : MethodName) jdk_22_method_1_code 1 none :: ws) ({ frames := 1, cells := 0, slots := 0, locals := 12 } : Room)) (fun a U => a = #[(.ref r0)] ∧ Z.Warmed39 U.vm ∧ U.heap = h0) (fun _ _ _ _ _ => True) (fun _ U o U' => ∃ v L, o = .returned v ∧ Q5 h0 n0 v U'.heap L ∧ FrameEnd U o U' L ({ frames := 1, cells := 0, slots := 0, locals := 12 } : Room).cells ({ frames := 1, cells := 0, slots := 0, locals := 12 } : Room).slots) := by
  refine MetFree.of_bodySF (plainFor_of_name pn_java_util_AbstractCollection) hisR ?_
  intro p e s m args below meth c s₁ Bd hml0 hP hK
  obtain ⟨rfl, hZ, hh⟩ := hP
  have hx := Bd.exec
  have hby := Bd.bytes
  have hml : c.maxLocals = 1 := hml0
  have hown : s.vm.findClass "java/util/AbstractCollection" = some m.cls := findClass_of_methodNamed Bd.named
  have hnm := (name_of_methodNamed Bd.named Bd.method).1
  have X0 : Stand p l e ({ frames := 1, cells := 0, slots := 0, locals := 12 } : Room) s m #[(.ref r0)] below meth c s₁ [] 0 0 := Stand.of_body Bd
  have e0 : s₁.heap = h0 := by rw [← hh, Bd.state]; rfl
  have N0 := Fr.nil n0
  have pre0 : ∀ t, Steps p.tables e below (s₁.setTop (mkF m 0 #[.val (.ref r0)] [])) t → Steps p.tables e below (s₁.setTop (entryFrame m #[(.ref r0)] 1)) t := fun t k => castTop (ef_5 m r0) k
  obtain ⟨T1, X1, e1, st1⟩ := initO X0 hx hZ hown (hw _ (tm 31 rfl)) (hw _ (tm 32 rfl)) (hw _ (tm 33 rfl)) e0 (g := (mkF m 1 #[.val (.ref r0)] [(.ref r0)])) rfl (by rw [hml]; rfl) rfl (hb hby d5_1) (by decide) (W := 0) (by show 2 * 0 + _ ≤ _; exact Nat.le_of_eq rfl) (by decide)
  obtain ⟨fs, hr, hrun, hended, hW, hsame⟩ := X1.leave (v := none) (fun _ => rfl)
  refine ⟨_, _, pre0 _ ?_, hrun, hended, _, _, rfl, ?_, ⟨_, rfl⟩, hW, hsame.mono (by decide) (by decide)⟩
  · show Steps _ _ _ (s₁.setTop (mkF m 0 #[.val (.ref r0)] [])) _
    refine XS.aloadN X0.here hx rfl (hb hby d5_0) rfl rfl ?_
    show Steps _ _ _ (s₁.setTop (mkF m 1 #[.val (.ref r0)] [(.ref r0)])) _
    refine st1 _ ?_
    show Steps _ _ _ (T1.setTop (mkF m 4 #[.val (.ref r0)] [])) _
    exact X1.returnOut hx Bd.returns (hb hby d5_4) hr
  · show Q5 h0 n0 _ T1.heap _
    rw [e1]
    exact ⟨rfl, N0, rfl⟩
def Q4 (Z : State) (r0 : Addr) (h0 : Heap) (n0 : Nat) (v : Option Value) (h : Heap) (L : List Loc) : Prop := v = none ∧ Fr n0 L ∧ Keep h0 h [r0] ∧ Exa Z h r0 "java/util/ArrayList" ∧ Fld Z h r0 "java/util/AbstractList" "modCount" "I" (.int (0 : Int32)) ∧ Fld Z h r0 "java/util/ArrayList" "elementData" "[Ljava/lang/Object;" .null ∧ Fld Z h r0 "java/util/ArrayList" "size" "I" (.int (0 : Int32))
theorem d4_0 : decode jdk_39_method_1_code 0 = .ok (.aload_n 0, 1) := by decide +kernel
theorem d4_1 : decode jdk_39_method_1_code 1 = .ok (.invokespecial 1, 3) := by decide +kernel
theorem pd__28_29V : parseMethodDescriptor "()V" = some ⟨[], none⟩ := by decide +kernel
theorem d4_4 : decode jdk_39_method_1_code 4 = .ok (.aload_n 0, 1) := by decide +kernel
theorem d4_5 : decode jdk_39_method_1_code 5 = .ok (.iconst 0, 1) := by decide +kernel
theorem d4_6 : decode jdk_39_method_1_code 6 = .ok (.putfield 7, 3) := by decide +kernel
theorem d4_9 : decode jdk_39_method_1_code 9 = .ok (.return_, 1) := by decide +kernel
theorem pn_java_util_AbstractList : plainName "java/util/AbstractList" = true := by first | (simp [plainName, overriddenIn]; done) | decide +kernel
theorem ef_4 (m : MethodId) (r0 : Addr) : entryFrame m #[(.ref r0)] 1 = mkF m 0 #[.val (.ref r0)] [] := by first | (simp [entryFrame, mkF, argsToLocals, Value.category]; done) | rfl
set_option maxRecDepth 65536 in
set_option maxHeartbeats 40000000 in
theorem rm4 (l : Launch) (Z : State) (a0 : Array Value) (hw : ∀ d ∈ tables_1, d.before a0 Z = true) (ws : List Jvm.Cond) (r0 : Addr)  (h0 : Heap) (n0 : Nat) (Z0 : n0 ≤ h0.size) (Hp0 : Exa Z h0 r0 "java/util/ArrayList") (Hp1 : Fld Z h0 r0 "java/util/AbstractList" "modCount" "I" (.int (0 : Int32))) (Hp2 : Fld Z h0 r0 "java/util/ArrayList" "elementData" "[Ljava/lang/Object;" .null) (Hp3 : Fld Z h0 r0 "java/util/ArrayList" "size" "I" (.int (0 : Int32))) (Hp4 : n0 ≤ r0) :
    MetFree l (⟨"java/util/AbstractList", "<init>", "()V"⟩ : MethodName) (head1 (Jvm.Cond.code (⟨"java/util/AbstractList", "<init>", "()V"⟩ : MethodName) jdk_39_method_1_code 1 none :: ws) ({ frames := 2, cells := 0, slots := 0, locals := 24 } : Room)) (fun a U => a = #[(.ref r0)] ∧ Z.Warmed39 U.vm ∧ U.heap = h0) (fun _ _ _ _ _ => True) (fun _ U o U' => ∃ v L, o = .returned v ∧ Q4 Z r0 h0 n0 v U'.heap L ∧ FrameEnd U o U' L ({ frames := 2, cells := 0, slots := 0, locals := 24 } : Room).cells ({ frames := 2, cells := 0, slots := 0, locals := 24 } : Room).slots) := by
  refine MetFree.of_bodySF (plainFor_of_name pn_java_util_AbstractList) hisR ?_
  intro p e s m args below meth c s₁ Bd hml0 hP hK
  obtain ⟨rfl, hZ, hh⟩ := hP
  have hx := Bd.exec
  have hby := Bd.bytes
  have hml : c.maxLocals = 1 := hml0
  have hown : s.vm.findClass "java/util/AbstractList" = some m.cls := findClass_of_methodNamed Bd.named
  have hnm := (name_of_methodNamed Bd.named Bd.method).1
  have X0 : Stand p l e ({ frames := 2, cells := 0, slots := 0, locals := 24 } : Room) s m #[(.ref r0)] below meth c s₁ [] 0 0 := Stand.of_body Bd
  have e0 : s₁.heap = h0 := by rw [← hh, Bd.state]; rfl
  have N0 := Fr.nil n0
  have pre0 : ∀ t, Steps p.tables e below (s₁.setTop (mkF m 0 #[.val (.ref r0)] [])) t → Steps p.tables e below (s₁.setTop (entryFrame m #[(.ref r0)] 1)) t := fun t k => castTop (ef_4 m r0) k
  obtain ⟨_, _, ⟨T1, L1, k1, n1⟩, -, X1, ⟨Lc1, hQ1, l1, y1, z1⟩, st1⟩ := X0.specialBack hx (y := (⟨"java/util/AbstractCollection", "<init>", "()V"⟩ : MethodName)) rfl hown (mvT hZ (hw _ (tm 25 rfl))) (mvT hZ (hw _ (tm 26 rfl))) (mvT hZ (hw _ (tm 30 rfl))) (by decide) (backOf (W := 0) (rm5 l Z a0 hw [] r0  h0 n0 Z0 ) hZ (hw _ (tm 30 rfl)) (hw _ (tm 29 rfl)) (by decide) (by decide)) (g := (mkF m 1 #[.val (.ref r0)] [(.ref r0)])) rfl (by rw [hml]; rfl) (Steps.refl _) (a := r0) (argsL := []) (rest := []) (lenOf pd__28_29V rfl) rfl (by show 2 * 0 + _ ≤ _; exact Nat.le_of_eq rfl) (hb hby d4_1) (fun _ _ => ⟨rfl, e0, (by decide : 0 + 0 ≤ _), (by decide : 0 + 0 ≤ _)⟩)
  dsimp only [Pt.U, Pt.locs, Pt.cells, Pt.slots] at X1 l1 y1 z1 st1 hQ1
  subst l1 y1 z1
  obtain ⟨rfl, N1q, e1⟩ := hQ1
  have N1 := Fr.app N0 N1q
  obtain ⟨T2, h2, X2, e2, W2, st2⟩ := putF X1 hx hZ hown (host := "") (Or.inl (hw _ (tm 34 rfl))) Via.refl e1 Hp1 Hp0 (Or.inl (hw _ (tm 35 rfl))) (hw _ (tm 14 rfl)) (ty := .int) (by decide) rfl rfl (g := (mkF m 6 #[.val (.ref r0)] [(.int (0 : Int32)), (.ref r0)])) rfl rfl (hb hby d4_6)
  have N2 := Fr.snoc X2 N1 Hp4
  have Fw2 := Hp1.same W2
  have Ex3 := (Hp0.wr W2)
  have Fd4 := (Hp2.other W2 (Or.inr (slot_ne (Or.inl (hw _ (tm 38 rfl))) (Or.inl (hw _ (tm 35 rfl))) (by decide) (t := (.array (.object "java/lang/Object"))) (t' := .int) (by decide) (by decide))))
  have Fd5 := (Hp3.other W2 (Or.inr (slot_ne (Or.inl (hw _ (tm 47 rfl))) (Or.inl (hw _ (tm 35 rfl))) (by decide) (t := .int) (t' := .int) (by decide) (by decide))))
  have Kp6 := ((Keep.refl h0 [r0]).wr W2 (Or.inl (tm 0 rfl)))
  obtain ⟨fs, hr, hrun, hended, hW, hsame⟩ := X2.leave (v := none) (fun _ => rfl)
  refine ⟨_, _, pre0 _ ?_, hrun, hended, _, _, rfl, ?_, ⟨_, rfl⟩, hW, hsame.mono (by decide) (by decide)⟩
  · show Steps _ _ _ (s₁.setTop (mkF m 0 #[.val (.ref r0)] [])) _
    refine XS.aloadN X0.here hx rfl (hb hby d4_0) rfl rfl ?_
    show Steps _ _ _ (s₁.setTop (mkF m 1 #[.val (.ref r0)] [(.ref r0)])) _
    refine st1.trans ?_
    show Steps _ _ _ (T1.setTop (mkF m 4 #[.val (.ref r0)] [])) _
    refine XS.aloadN X1.here hx rfl (hb hby d4_4) rfl rfl ?_
    show Steps _ _ _ (T1.setTop (mkF m 5 #[.val (.ref r0)] [(.ref r0)])) _
    refine XS.iconst X1.here hx rfl (hb hby d4_5) ?_
    show Steps _ _ _ (T1.setTop (mkF m 6 #[.val (.ref r0)] [(.int (0 : Int32)), (.ref r0)])) _
    refine st2 _ ?_
    show Steps _ _ _ (T2.setTop (mkF m 9 #[.val (.ref r0)] [])) _
    exact X2.returnOut hx Bd.returns (hb hby d4_9) hr
  · show Q4 Z r0 h0 n0 _ T2.heap _
    rw [e2]
    exact ⟨rfl, N2, Kp6, Ex3, Fw2, Fd4, Fd5⟩
def Q3 (Z : State) (r0 : Addr) (de : Addr) (h0 : Heap) (n0 : Nat) (v : Option Value) (h : Heap) (L : List Loc) : Prop := v = none ∧ Fr n0 L ∧ Keep h0 h [r0] ∧ Exa Z h r0 "java/util/ArrayList" ∧ Fld Z h r0 "java/util/AbstractList" "modCount" "I" (.int (0 : Int32)) ∧ Fld Z h r0 "java/util/ArrayList" "elementData" "[Ljava/lang/Object;" (.ref de) ∧ Fld Z h r0 "java/util/ArrayList" "size" "I" (.int (0 : Int32))
theorem d3_0 : decode jdk_38_method_2_code 0 = .ok (.aload_n 0, 1) := by decide +kernel
theorem d3_1 : decode jdk_38_method_2_code 1 = .ok (.invokespecial 1, 3) := by decide +kernel
theorem d3_4 : decode jdk_38_method_2_code 4 = .ok (.aload_n 0, 1) := by decide +kernel
theorem d3_5 : decode jdk_38_method_2_code 5 = .ok (.getstatic 39, 3) := by decide +kernel
theorem d3_8 : decode jdk_38_method_2_code 8 = .ok (.putfield 9, 3) := by decide +kernel
theorem d3_11 : decode jdk_38_method_2_code 11 = .ok (.return_, 1) := by decide +kernel
theorem pn_java_util_ArrayList : plainName "java/util/ArrayList" = true := by first | (simp [plainName, overriddenIn]; done) | decide +kernel
theorem ef_3 (m : MethodId) (r0 : Addr) : entryFrame m #[(.ref r0)] 1 = mkF m 0 #[.val (.ref r0)] [] := by first | (simp [entryFrame, mkF, argsToLocals, Value.category]; done) | rfl
set_option maxRecDepth 65536 in
set_option maxHeartbeats 40000000 in
theorem rm3 (l : Launch) (Z : State) (a0 : Array Value) (hw : ∀ d ∈ tables_1, d.before a0 Z = true) (ws : List Jvm.Cond) (r0 : Addr) (de : Addr) (h0 : Heap) (n0 : Nat) (Z0 : n0 ≤ h0.size) (Hp0 : Exa Z h0 r0 "java/util/ArrayList") (Hp1 : Fld Z h0 r0 "java/util/AbstractList" "modCount" "I" (.int (0 : Int32))) (Hp2 : Fld Z h0 r0 "java/util/ArrayList" "elementData" "[Ljava/lang/Object;" .null) (Hp3 : Fld Z h0 r0 "java/util/ArrayList" "size" "I" (.int (0 : Int32))) (Hp4 : Old Z n0 h0) (Hp5 : Sta Z Z.heap "java/util/ArrayList" "DEFAULTCAPACITY_EMPTY_ELEMENTDATA" "[Ljava/lang/Object;" (.ref de)) (Hp6 : n0 ≤ r0) :
    MetFree l (⟨"java/util/ArrayList", "<init>", "()V"⟩ : MethodName) (head1 (Jvm.Cond.code (⟨"java/util/ArrayList", "<init>", "()V"⟩ : MethodName) jdk_38_method_2_code 1 none :: ws) ({ frames := 3, cells := 0, slots := 0, locals := 36 } : Room)) (fun a U => a = #[(.ref r0)] ∧ Z.Warmed39 U.vm ∧ U.heap = h0) (fun _ _ _ _ _ => True) (fun _ U o U' => ∃ v L, o = .returned v ∧ Q3 Z r0 de h0 n0 v U'.heap L ∧ FrameEnd U o U' L ({ frames := 3, cells := 0, slots := 0, locals := 36 } : Room).cells ({ frames := 3, cells := 0, slots := 0, locals := 36 } : Room).slots) := by
  refine MetFree.of_bodySF (plainFor_of_name pn_java_util_ArrayList) hisR ?_
  intro p e s m args below meth c s₁ Bd hml0 hP hK
  obtain ⟨rfl, hZ, hh⟩ := hP
  have hx := Bd.exec
  have hby := Bd.bytes
  have hml : c.maxLocals = 1 := hml0
  have hown : s.vm.findClass "java/util/ArrayList" = some m.cls := findClass_of_methodNamed Bd.named
  have hnm := (name_of_methodNamed Bd.named Bd.method).1
  have X0 : Stand p l e ({ frames := 3, cells := 0, slots := 0, locals := 36 } : Room) s m #[(.ref r0)] below meth c s₁ [] 0 0 := Stand.of_body Bd
  have e0 : s₁.heap = h0 := by rw [← hh, Bd.state]; rfl
  have N0 := Fr.nil n0
  have pre0 : ∀ t, Steps p.tables e below (s₁.setTop (mkF m 0 #[.val (.ref r0)] [])) t → Steps p.tables e below (s₁.setTop (entryFrame m #[(.ref r0)] 1)) t := fun t k => castTop (ef_3 m r0) k
  obtain ⟨_, _, ⟨T1, L1, k1, n1⟩, -, X1, ⟨Lc1, hQ1, l1, y1, z1⟩, st1⟩ := X0.specialBack hx (y := (⟨"java/util/AbstractList", "<init>", "()V"⟩ : MethodName)) rfl hown (mvT hZ (hw _ (tm 19 rfl))) (mvT hZ (hw _ (tm 20 rfl))) (mvT hZ (hw _ (tm 24 rfl))) (by decide) (backOf (W := 0) (rm4 l Z a0 hw [] r0  h0 n0 Z0 Hp0 Hp1 Hp2 Hp3 Hp6) hZ (hw _ (tm 24 rfl)) (hw _ (tm 23 rfl)) (by decide) (by decide)) (g := (mkF m 1 #[.val (.ref r0)] [(.ref r0)])) rfl (by rw [hml]; rfl) (Steps.refl _) (a := r0) (argsL := []) (rest := []) (lenOf pd__28_29V rfl) rfl (by show 2 * 0 + _ ≤ _; exact Nat.le_of_eq rfl) (hb hby d3_1) (fun _ _ => ⟨rfl, e0, (by decide : 0 + 0 ≤ _), (by decide : 0 + 0 ≤ _)⟩)
  dsimp only [Pt.U, Pt.locs, Pt.cells, Pt.slots] at X1 l1 y1 z1 st1 hQ1
  subst l1 y1 z1
  obtain ⟨rfl, N1q, K1, Pc1_0, Pc1_1, Pc1_2, Pc1_3⟩ := hQ1
  have N1 := Fr.app N0 N1q
  have Od2 := (Hp4.keep K1 (allS Hp6 all0))
  obtain ⟨T3, X3, e3, st3⟩ := getS2 X1 hx hZ hown (host := "") (Or.inl (hw _ (tm 36 rfl))) Via.refl rfl (Hp5.ext Od2.2) (g := (mkF m 5 #[.val (.ref r0)] [(.ref r0)])) rfl (hb hby d3_5)
  obtain ⟨T4, h4, X4, e4, W4, st4⟩ := putF X3 hx hZ hown (host := "") (Or.inl (hw _ (tm 37 rfl))) Via.refl e3 Pc1_2 Pc1_0 (Or.inl (hw _ (tm 38 rfl))) (hw _ (tm 14 rfl)) (ty := (.array (.object "java/lang/Object"))) (by decide) rfl rfl (g := (mkF m 8 #[.val (.ref r0)] [(.ref de), (.ref r0)])) rfl rfl (hb hby d3_8)
  have N4 := Fr.snoc X4 N1 Hp6
  have Fw4 := Pc1_2.same W4
  have Ex5 := (Pc1_0.wr W4)
  have Fd6 := (Pc1_1.other W4 (Or.inr (slot_ne (Or.inl (hw _ (tm 35 rfl))) (Or.inl (hw _ (tm 38 rfl))) (by decide) (t := .int) (t' := (.array (.object "java/lang/Object"))) (by decide) (by decide))))
  have Fd7 := (Pc1_3.other W4 (Or.inr (slot_ne (Or.inl (hw _ (tm 47 rfl))) (Or.inl (hw _ (tm 38 rfl))) (by decide) (t := .int) (t' := (.array (.object "java/lang/Object"))) (by decide) (by decide))))
  have Kp8 := (((Keep.refl h0 [r0]).trans K1 (allS (Or.inl (tm 0 rfl)) all0)).wr W4 (Or.inl (tm 0 rfl)))
  obtain ⟨fs, hr, hrun, hended, hW, hsame⟩ := X4.leave (v := none) (fun _ => rfl)
  refine ⟨_, _, pre0 _ ?_, hrun, hended, _, _, rfl, ?_, ⟨_, rfl⟩, hW, hsame.mono (by decide) (by decide)⟩
  · show Steps _ _ _ (s₁.setTop (mkF m 0 #[.val (.ref r0)] [])) _
    refine XS.aloadN X0.here hx rfl (hb hby d3_0) rfl rfl ?_
    show Steps _ _ _ (s₁.setTop (mkF m 1 #[.val (.ref r0)] [(.ref r0)])) _
    refine st1.trans ?_
    show Steps _ _ _ (T1.setTop (mkF m 4 #[.val (.ref r0)] [])) _
    refine XS.aloadN X1.here hx rfl (hb hby d3_4) rfl rfl ?_
    show Steps _ _ _ (T1.setTop (mkF m 5 #[.val (.ref r0)] [(.ref r0)])) _
    refine st3 _ ?_
    show Steps _ _ _ (T3.setTop (mkF m 8 #[.val (.ref r0)] [(.ref de), (.ref r0)])) _
    refine st4 _ ?_
    show Steps _ _ _ (T4.setTop (mkF m 11 #[.val (.ref r0)] [])) _
    exact X4.returnOut hx Bd.returns (hb hby d3_11) hr
  · show Q3 Z r0 de h0 n0 _ T4.heap _
    rw [e4]
    exact ⟨rfl, N4, Kp8, Ex5, Fd6, Fw4, Fd7⟩
theorem d11_0 : decode jdk_29_method_65_code 0 = .ok (.iload_n 0, 1) := by decide +kernel
theorem d11_1 : decode jdk_29_method_65_code 1 = .ok (.iload_n 1, 1) := by decide +kernel
theorem d11_2 : decode jdk_29_method_65_code 2 = .ok (.if_icmp .lt 7, 3) := by decide +kernel
theorem d11_9 : decode jdk_29_method_65_code 9 = .ok (.iload_n 1, 1) := by decide +kernel
theorem d11_10 : decode jdk_29_method_65_code 10 = .ok (.ireturn, 1) := by decide +kernel
theorem d11_5 : decode jdk_29_method_65_code 5 = .ok (.iload_n 0, 1) := by decide +kernel
theorem d11_6 : decode jdk_29_method_65_code 6 = .ok (.goto 4, 3) := by decide +kernel
def maxF (p0 : Int32) (p1 : Int32) : Int32 := (if p0 < p1 then p1 else p0)
def Q11 (Z : State) (p0 : Int32) (p1 : Int32) (h0 : Heap) (n0 : Nat) (v : Option Value) (h : Heap) (L : List Loc) : Prop := v = some (.int (maxF p0 p1)) ∧ Fr n0 L ∧ h = h0
theorem ef_11 (m : MethodId) (p0 : Int32) (p1 : Int32) : entryFrame m #[(.int p0), (.int p1)] 2 = mkF m 0 #[.val (.int p0), .val (.int p1)] [] := by first | (simp [entryFrame, mkF, argsToLocals, Value.category]; done) | rfl
set_option maxRecDepth 65536 in
set_option maxHeartbeats 40000000 in
theorem rm11 (l : Launch) (Z : State) (a0 : Array Value) (hw : ∀ d ∈ tables_1, d.before a0 Z = true) (ws : List Jvm.Cond) (p0 : Int32) (p1 : Int32)  (h0 : Heap) (n0 : Nat) (Z0 : n0 ≤ h0.size)  :
    MetFree l (⟨"java/lang/Math", "max", "(II)I"⟩ : MethodName) (head1 (Jvm.Cond.code (⟨"java/lang/Math", "max", "(II)I"⟩ : MethodName) jdk_29_method_65_code 2 (some .int) :: ws) ({ frames := 0, cells := 0, slots := 0, locals := 0 } : Room)) (fun a U => a = #[(.int p0), (.int p1)] ∧ Z.Warmed39 U.vm ∧ U.heap = h0) (fun _ _ _ _ _ => True) (fun _ U o U' => ∃ v L, o = .returned v ∧ Q11 Z p0 p1 h0 n0 v U'.heap L ∧ FrameEnd U o U' L ({ frames := 0, cells := 0, slots := 0, locals := 0 } : Room).cells ({ frames := 0, cells := 0, slots := 0, locals := 0 } : Room).slots) := by
  refine MetFree.of_bodySF (Jvm.Free.JP.mathPlain rfl (by decide +kernel)) hisR ?_
  intro p e s m args below meth c s₁ Bd hml0 hP hK
  obtain ⟨rfl, hZ, hh⟩ := hP
  have hx := Bd.exec
  have hby := Bd.bytes
  have hml : c.maxLocals = 2 := hml0
  have hown : s.vm.findClass "java/lang/Math" = some m.cls := findClass_of_methodNamed Bd.named
  have hnm := (name_of_methodNamed Bd.named Bd.method).1
  have X0 : Stand p l e ({ frames := 0, cells := 0, slots := 0, locals := 0 } : Room) s m #[(.int p0), (.int p1)] below meth c s₁ [] 0 0 := Stand.of_body Bd
  have e0 : s₁.heap = h0 := by rw [← hh, Bd.state]; rfl
  have N0 := Fr.nil n0
  have pre0 : ∀ t, Steps p.tables e below (s₁.setTop (mkF m 0 (l_1 p0 p1) [])) t → Steps p.tables e below (s₁.setTop (entryFrame m #[(.int p0), (.int p1)] 2)) t := fun t k => castTop (ef_11 m p0 p1) k
  have pre1 : ∀ tz, Steps p.tables e below (s₁.setTop (mkF m 2 (l_1 p0 p1) [(.int p1), (.int p0)])) tz → Steps p.tables e below (s₁.setTop (entryFrame m #[(.int p0), (.int p1)] 2)) tz := fun tz kk => pre0 tz (by
    show Steps _ _ _ (s₁.setTop (mkF m 0 (l_1 p0 p1) [])) _
    refine XS.iloadN X0.here hx rfl (hb hby d11_0) rfl ?_
    show Steps _ _ _ (s₁.setTop (mkF m 1 (l_1 p0 p1) [(.int p0)])) _
    refine XS.iloadN X0.here hx rfl (hb hby d11_1) rfl ?_
    exact kk)
  by_cases hc2 : p0 < p1
  · obtain ⟨fs, hr, hrun, hended, hW, hsame⟩ := X0.leave (v := some (.int p1)) (fun h => by rw [Bd.returns] at h; cases h)
    refine ⟨_, _, pre1 _ ?_, hrun, hended, _, _, rfl, ?_, ⟨_, rfl⟩, hW, hsame.mono (by decide) (by decide)⟩
    · show Steps _ _ _ (s₁.setTop (mkF m 2 (l_1 p0 p1) [(.int p1), (.int p0)])) _
      refine XS.icmpYes X0.here hx rfl (pc0 := 2) (pc' := 9) rfl (hb hby d11_2) rfl (tlt hc2).1 (by decide) (by decide) ?_
      show Steps _ _ _ (s₁.setTop (mkF m 9 (l_1 p0 p1) [])) _
      refine XS.iloadN X0.here hx rfl (hb hby d11_9) rfl ?_
      show Steps _ _ _ (s₁.setTop (mkF m 10 (l_1 p0 p1) [(.int p1)])) _
      exact retI X0 hx Bd.returns (hb hby d11_10) hr
    · show Q11 Z p0 p1 h0 n0 _ s₁.heap _
      rw [e0]
      exact ⟨congrArg (fun z => some (Value.int z)) (by unfold maxF; rw [if_pos hc2]), N0, rfl⟩
  · obtain ⟨fs, hr, hrun, hended, hW, hsame⟩ := X0.leave (v := some (.int p0)) (fun h => by rw [Bd.returns] at h; cases h)
    refine ⟨_, _, pre1 _ ?_, hrun, hended, _, _, rfl, ?_, ⟨_, rfl⟩, hW, hsame.mono (by decide) (by decide)⟩
    · show Steps _ _ _ (s₁.setTop (mkF m 2 (l_1 p0 p1) [(.int p1), (.int p0)])) _
      refine XS.icmpNo X0.here hx rfl (hb hby d11_2) rfl (flt hc2).1 ?_
      show Steps _ _ _ (s₁.setTop (mkF m 5 (l_1 p0 p1) [])) _
      refine XS.iloadN X0.here hx rfl (hb hby d11_5) rfl ?_
      show Steps _ _ _ (s₁.setTop (mkF m 6 (l_1 p0 p1) [(.int p0)])) _
      refine XS.goto X0.here hx rfl (pc0 := 6) (pc' := 10) rfl (hb hby d11_6) (by decide) (by decide) ?_
      show Steps _ _ _ (s₁.setTop (mkF m 10 (l_1 p0 p1) [(.int p0)])) _
      exact retI X0 hx Bd.returns (hb hby d11_10) hr
    · show Q11 Z p0 p1 h0 n0 _ s₁.heap _
      rw [e0]
      exact ⟨congrArg (fun z => some (Value.int z)) (by unfold maxF; rw [if_neg hc2]), N0, rfl⟩
def Q10 (Z : State) (r0 : Addr) (p1 : Int32) (de : Addr) (kd : ClassId) (h0 : Heap) (n0 : Nat) (v : Option Value) (h : Heap) (L : List Loc) : Prop := ∃ da : Addr, ∃ ka : ClassId, v = some (.ref da) ∧ Fr n0 L ∧ Keep h0 h [r0] ∧ h0.size ≤ da ∧ Exa Z h r0 "java/util/ArrayList" ∧ Fld Z h r0 "java/util/AbstractList" "modCount" "I" (.int (1 : Int32)) ∧ Fld Z h r0 "java/util/ArrayList" "elementData" "[Ljava/lang/Object;" (.ref da) ∧ Fld Z h r0 "java/util/ArrayList" "size" "I" (.int (0 : Int32)) ∧ Arv Z h da ka (.object "java/lang/Object") (10 : Int32) (List.replicate 10 Value.null) .null ∧ Ovr Z ka "java/lang/Object"
theorem d10_0 : decode jdk_38_method_6_code 0 = .ok (.aload_n 0, 1) := by decide +kernel
theorem d10_1 : decode jdk_38_method_6_code 1 = .ok (.getfield 9, 3) := by decide +kernel
theorem d10_4 : decode jdk_38_method_6_code 4 = .ok (.arraylength, 1) := by decide +kernel
theorem d10_5 : decode jdk_38_method_6_code 5 = .ok (.istore_n 2, 1) := by decide +kernel
theorem d10_6 : decode jdk_38_method_6_code 6 = .ok (.iload_n 2, 1) := by decide +kernel
theorem d10_7 : decode jdk_38_method_6_code 7 = .ok (.ifCond .gt 13, 3) := by decide +kernel
theorem d10_10 : decode jdk_38_method_6_code 10 = .ok (.aload_n 0, 1) := by decide +kernel
theorem d10_11 : decode jdk_38_method_6_code 11 = .ok (.getfield 9, 3) := by decide +kernel
theorem d10_14 : decode jdk_38_method_6_code 14 = .ok (.getstatic 39, 3) := by decide +kernel
theorem d10_17 : decode jdk_38_method_6_code 17 = .ok (.if_acmp .eq 28, 3) := by decide +kernel
theorem d10_45 : decode jdk_38_method_6_code 45 = .ok (.aload_n 0, 1) := by decide +kernel
theorem d10_46 : decode jdk_38_method_6_code 46 = .ok (.bipush 10, 2) := by decide +kernel
theorem d10_48 : decode jdk_38_method_6_code 48 = .ok (.iload_n 1, 1) := by decide +kernel
theorem d10_49 : decode jdk_38_method_6_code 49 = .ok (.invokestatic 79, 3) := by decide +kernel
theorem pd__28II_29I : parseMethodDescriptor "(II)I" = some ⟨[.int, .int], some .int⟩ := by decide +kernel
theorem d10_52 : decode jdk_38_method_6_code 52 = .ok (.anewarray 7, 3) := by decide +kernel
theorem d10_55 : decode jdk_38_method_6_code 55 = .ok (.dup_x1, 1) := by decide +kernel
theorem d10_56 : decode jdk_38_method_6_code 56 = .ok (.putfield 9, 3) := by decide +kernel
theorem d10_59 : decode jdk_38_method_6_code 59 = .ok (.areturn, 1) := by decide +kernel
theorem ef_10 (m : MethodId) (r0 : Addr) (p1 : Int32) : entryFrame m #[(.ref r0), (.int p1)] 4 = mkF m 0 #[.val (.ref r0), .val (.int p1), .unset, .unset] [] := by first | (simp [entryFrame, mkF, argsToLocals, Value.category]; done) | rfl
set_option maxRecDepth 65536 in
set_option maxHeartbeats 40000000 in
theorem rm10 (l : Launch) (Z : State) (a0 : Array Value) (hw : ∀ d ∈ tables_1, d.before a0 Z = true) (ws : List Jvm.Cond) (r0 : Addr) (p1 : Int32) (de : Addr) (kd : ClassId) (h0 : Heap) (n0 : Nat) (Z0 : n0 ≤ h0.size) (Hp0 : Exa Z h0 r0 "java/util/ArrayList") (Hp1 : Fld Z h0 r0 "java/util/AbstractList" "modCount" "I" (.int (1 : Int32))) (Hp2 : Fld Z h0 r0 "java/util/ArrayList" "elementData" "[Ljava/lang/Object;" (.ref de)) (Hp3 : Fld Z h0 r0 "java/util/ArrayList" "size" "I" (.int (0 : Int32))) (Hp4 : Old Z n0 h0) (Hp5 : Sta Z Z.heap "java/util/ArrayList" "DEFAULTCAPACITY_EMPTY_ELEMENTDATA" "[Ljava/lang/Object;" (.ref de)) (Hp6 : Arv Z h0 de kd (.object "java/lang/Object") (0 : Int32) [] .null) (hp1 : p1 = (1 : Int32)) (Hp8 : n0 ≤ r0) (Hp9 : de ≠ r0) :
    MetFree l (⟨"java/util/ArrayList", "grow", "(I)[Ljava/lang/Object;"⟩ : MethodName) (head1 (Jvm.Cond.code (⟨"java/util/ArrayList", "grow", "(I)[Ljava/lang/Object;"⟩ : MethodName) jdk_38_method_6_code 4 (some (.array (.object "java/lang/Object"))) :: ws) ({ frames := 1, cells := 1, slots := 10, locals := 14 } : Room)) (fun a U => a = #[(.ref r0), (.int p1)] ∧ Z.Warmed39 U.vm ∧ U.heap = h0) (fun _ _ _ _ _ => True) (fun _ U o U' => ∃ v L, o = .returned v ∧ Q10 Z r0 p1 de kd h0 n0 v U'.heap L ∧ FrameEnd U o U' L ({ frames := 1, cells := 1, slots := 10, locals := 14 } : Room).cells ({ frames := 1, cells := 1, slots := 10, locals := 14 } : Room).slots) := by
  refine MetFree.of_bodySF (plainFor_of_name pn_java_util_ArrayList) hisR ?_
  intro p e s m args below meth c s₁ Bd hml0 hP hK
  obtain ⟨rfl, hZ, hh⟩ := hP
  have hx := Bd.exec
  have hby := Bd.bytes
  have hml : c.maxLocals = 4 := hml0
  have hown : s.vm.findClass "java/util/ArrayList" = some m.cls := findClass_of_methodNamed Bd.named
  have hnm := (name_of_methodNamed Bd.named Bd.method).1
  have X0 : Stand p l e ({ frames := 1, cells := 1, slots := 10, locals := 14 } : Room) s m #[(.ref r0), (.int p1)] below meth c s₁ [] 0 0 := Stand.of_body Bd
  have e0 : s₁.heap = h0 := by rw [← hh, Bd.state]; rfl
  have N0 := Fr.nil n0
  have pre0 : ∀ t, Steps p.tables e below (s₁.setTop (mkF m 0 (l_2 r0 p1) [])) t → Steps p.tables e below (s₁.setTop (entryFrame m #[(.ref r0), (.int p1)] 4)) t := fun t k => castTop (ef_10 m r0 p1) k
  obtain ⟨T1, X1, e1, st1⟩ := getF X0 hx hZ hown (host := "") (Or.inl (hw _ (tm 37 rfl))) Via.refl e0 Hp2 (g := (mkF m 1 (l_2 r0 p1) [(.ref r0)])) rfl rfl (hb hby d10_1)
  obtain ⟨cl2, Ar2, -, S2, Nn2, -, -⟩ := id Hp6
  obtain ⟨T3, X3, e3, st3⟩ := getF X1 hx hZ hown (host := "") (Or.inl (hw _ (tm 37 rfl))) Via.refl e1 Hp2 (g := (mkF m 11 (l_3 r0 p1 (0 : Int32)) [(.ref r0)])) rfl rfl (hb hby d10_11)
  obtain ⟨T4, X4, e4, st4⟩ := getS2 X3 hx hZ hown (host := "") (Or.inl (hw _ (tm 36 rfl))) Via.refl e3 (Hp5.ext Hp4.2) (g := (mkF m 14 (l_3 r0 p1 (0 : Int32)) [(.ref de)])) rfl (hb hby d10_14)
  obtain ⟨_, _, ⟨T5, L5, k5, n5⟩, -, X5, ⟨Lc5, hQ5, l5, y5, z5⟩, st5⟩ := Jvm.LawKit.callS X4 hx (y := (⟨"java/lang/Math", "max", "(II)I"⟩ : MethodName)) hown (mvT hZ (hw _ (tm 63 rfl))) (mvT hZ (hw _ (tm 64 rfl))) (mvT hZ (hw _ (tm 65 rfl))) (mvT hZ (hw _ (tm 66 rfl))) (by decide) (backOf (W := 1) (rm11 l Z a0 hw [] (10 : Int32) p1 h0 n0 Z0) hZ (hw _ (tm 66 rfl)) (hw _ (tm 65 rfl)) (by decide) (by decide)) (g := (mkF m 49 (l_3 r0 p1 (0 : Int32)) [(.int p1), (.int (10 : Int32)), (.ref r0)])) rfl (by rw [hml]; rfl) (argsL := [(.int (10 : Int32)), (.int p1)]) (rest := [(.ref r0)]) (lenOf pd__28II_29I rfl) rfl (by show 2 * 0 + _ ≤ _; exact Nat.le_of_eq rfl) (hb hby d10_49) (fun _ _ => ⟨rfl, e4, (by decide : 0 + 0 ≤ _), (by decide : 0 + 0 ≤ _)⟩)
  dsimp only [Pt.U, Pt.locs, Pt.cells, Pt.slots] at X5 l5 y5 z5 st5 hQ5
  subst l5 y5 z5
  obtain ⟨rfl, N5q, e5⟩ := hQ5
  have N5 := Fr.app N0 N5q
  obtain ⟨T6, h6, k6, X6, e6, E6, A6, Ov6, st6⟩ := newR X5 hx hZ hown (hw _ (tm 67 rfl)) (hw _ (tm 68 rfl)) e5 (g := (mkF m 52 (l_3 r0 p1 (0 : Int32)) [(.int (10 : Int32)), (.ref r0)])) rfl (hb hby d10_52) rfl (by decide) (cap := 10) (by decide) (by decide) (by decide) (by decide)
  obtain ⟨b6, g6⟩ : ∃ z, z = h0.size := ⟨_, rfl⟩
  rw [← g6] at A6 st6
  have g_b6 : n0 ≤ b6 := Nat.le_trans Z0 (Nat.le_of_eq g6.symm)
  have sz_b6 : h0.size ≤ b6 := Nat.le_trans (Keep.refl h0 [r0]).1 (Nat.le_of_eq g6.symm)
  have ne_de_b6 : de ≠ b6 := Nat.ne_of_lt (Nat.lt_of_lt_of_le Hp6.lt (Nat.le_of_eq g6.symm))
  have ne_r0_b6 : r0 ≠ b6 := Nat.ne_of_lt (Nat.lt_of_lt_of_le Hp0.lt (Nat.le_of_eq g6.symm))
  have V_b6 : Arv Z h6 b6 k6 (.object "java/lang/Object") (10 : Int32) (List.replicate 10 Value.null) .null := (Arv.new A6 (by decide)).pad (pad_rep [] .null 10)
  have Ex7 := (Hp0.ext E6)
  have Fd8 := (Hp2.ext E6)
  obtain ⟨T9, h9, X9, e9, W9, st9⟩ := putF X6 hx hZ hown (host := "") (Or.inl (hw _ (tm 37 rfl))) Via.refl e6 Fd8 Ex7 (Or.inl (hw _ (tm 38 rfl))) (hw _ (tm 14 rfl)) (ty := (.array (.object "java/lang/Object"))) (by decide) rfl rfl (g := (mkF m 56 (l_3 r0 p1 (0 : Int32)) [(.ref b6), (.ref r0), (.ref b6)])) rfl rfl (hb hby d10_56)
  have N9 := Fr.snoc X9 N5 Hp8
  have Fw9 := Fd8.same W9
  have Ex10 := (Ex7.wr W9)
  have Fd11 := ((Hp1.ext E6).other W9 (Or.inr (slot_ne (Or.inl (hw _ (tm 35 rfl))) (Or.inl (hw _ (tm 38 rfl))) (by decide) (t := .int) (t' := (.array (.object "java/lang/Object"))) (by decide) (by decide))))
  have Fd12 := ((Hp3.ext E6).other W9 (Or.inr (slot_ne (Or.inl (hw _ (tm 47 rfl))) (Or.inl (hw _ (tm 38 rfl))) (by decide) (t := .int) (t' := (.array (.object "java/lang/Object"))) (by decide) (by decide))))
  have Av13 := (V_b6.other W9 (Ne.symm ne_r0_b6))
  have Kp14 := (((Keep.refl h0 [r0]).ext E6).wr W9 (Or.inl (tm 0 rfl)))
  obtain ⟨fs, hr, hrun, hended, hW, hsame⟩ := X9.leave (v := some (.ref b6)) (fun h => by rw [Bd.returns] at h; cases h)
  refine ⟨_, _, pre0 _ ?_, hrun, hended, _, _, rfl, ?_, ⟨_, rfl⟩, hW, hsame.mono (by decide) (by decide)⟩
  · show Steps _ _ _ (s₁.setTop (mkF m 0 (l_2 r0 p1) [])) _
    refine XS.aloadN X0.here hx rfl (hb hby d10_0) rfl rfl ?_
    show Steps _ _ _ (s₁.setTop (mkF m 1 (l_2 r0 p1) [(.ref r0)])) _
    refine st1 _ ?_
    show Steps _ _ _ (T1.setTop (mkF m 4 (l_2 r0 p1) [(.ref de)])) _
    refine X1.arraylength hx (by rw [e1]; exact Ar2.1) (State.isArrayOf_alike hZ.alike Ar2.2.1) (g := (mkF m 4 (l_2 r0 p1) [(.ref de)])) rfl rfl (hb hby d10_4) _ ?_
    rw [len_of S2 Nn2]
    show Steps _ _ _ (T1.setTop (mkF m 5 (l_2 r0 p1) [(.int (0 : Int32))])) _
    refine XS.istoreN X1.here hx rfl (hb hby d10_5) rfl (l' := (l_3 r0 p1 (0 : Int32))) rfl ?_
    show Steps _ _ _ (T1.setTop (mkF m 6 (l_3 r0 p1 (0 : Int32)) [])) _
    refine XS.iloadN X1.here hx rfl (hb hby d10_6) rfl ?_
    show Steps _ _ _ (T1.setTop (mkF m 7 (l_3 r0 p1 (0 : Int32)) [(.int (0 : Int32))])) _
    refine XS.ifNo X1.here hx rfl (hb hby d10_7) rfl ((if0 _ _).trans (flt (by decide)).2.2.1) ?_
    show Steps _ _ _ (T1.setTop (mkF m 10 (l_3 r0 p1 (0 : Int32)) [])) _
    refine XS.aloadN X1.here hx rfl (hb hby d10_10) rfl rfl ?_
    show Steps _ _ _ (T1.setTop (mkF m 11 (l_3 r0 p1 (0 : Int32)) [(.ref r0)])) _
    refine st3 _ ?_
    show Steps _ _ _ (T3.setTop (mkF m 14 (l_3 r0 p1 (0 : Int32)) [(.ref de)])) _
    refine st4 _ ?_
    show Steps _ _ _ (T4.setTop (mkF m 17 (l_3 r0 p1 (0 : Int32)) [(.ref de), (.ref de)])) _
    refine Jvm.RoadKit.acmp (g := (mkF m 17 (l_3 r0 p1 (0 : Int32)) [(.ref de), (.ref de)])) X4 hx rfl rfl rfl (pc0 := 17) (pc' := 45) (same := true) rfl (hb hby d10_17) rfl (decide_eq_true rfl) (by decide) (by decide) ?_
    show Steps _ _ _ (T4.setTop (mkF m 45 (l_3 r0 p1 (0 : Int32)) [])) _
    refine XS.aloadN X4.here hx rfl (hb hby d10_45) rfl rfl ?_
    show Steps _ _ _ (T4.setTop (mkF m 46 (l_3 r0 p1 (0 : Int32)) [(.ref r0)])) _
    refine XS.bipush X4.here hx rfl (hb hby d10_46) ?_
    show Steps _ _ _ (T4.setTop (mkF m 48 (l_3 r0 p1 (0 : Int32)) [(.int (10 : Int32)), (.ref r0)])) _
    refine XS.iloadN X4.here hx rfl (hb hby d10_48) rfl ?_
    show Steps _ _ _ (T4.setTop (mkF m 49 (l_3 r0 p1 (0 : Int32)) [(.int p1), (.int (10 : Int32)), (.ref r0)])) _
    refine st5 _ ?_
    show Steps _ _ _ (T5.setTop (mkF m 52 (l_3 r0 p1 (0 : Int32)) [(.int (maxF (10 : Int32) p1)), (.ref r0)])) _
    rw [show (maxF (10 : Int32) p1) = (10 : Int32) from (by rw [hp1]; decide)]
    show Steps _ _ _ (T5.setTop (mkF m 52 (l_3 r0 p1 (0 : Int32)) [(.int (10 : Int32)), (.ref r0)])) _
    refine st6 _ ?_
    show Steps _ _ _ (T6.setTop (mkF m 55 (l_3 r0 p1 (0 : Int32)) [(.ref b6), (.ref r0)])) _
    refine XS.dupX1 X6.here hx rfl (hb hby d10_55) rfl rfl rfl ?_
    show Steps _ _ _ (T6.setTop (mkF m 56 (l_3 r0 p1 (0 : Int32)) [(.ref b6), (.ref r0), (.ref b6)])) _
    refine st9 _ ?_
    show Steps _ _ _ (T9.setTop (mkF m 59 (l_3 r0 p1 (0 : Int32)) [(.ref b6)])) _
    exact X9.areturnOut hx rfl Bd.returns rfl (hb hby d10_59) hr
  · show Q10 Z r0 p1 de kd h0 n0 _ T9.heap _
    rw [e9]
    exact ⟨b6, k6, rfl, N9, Kp14, sz_b6, Ex10, Fd11, Fw9, Fd12, Av13, Ov6⟩
def Q9 (Z : State) (r0 : Addr) (de : Addr) (kd : ClassId) (h0 : Heap) (n0 : Nat) (v : Option Value) (h : Heap) (L : List Loc) : Prop := ∃ da : Addr, ∃ ka : ClassId, v = some (.ref da) ∧ Fr n0 L ∧ Keep h0 h [r0] ∧ h0.size ≤ da ∧ Exa Z h r0 "java/util/ArrayList" ∧ Fld Z h r0 "java/util/AbstractList" "modCount" "I" (.int (1 : Int32)) ∧ Fld Z h r0 "java/util/ArrayList" "elementData" "[Ljava/lang/Object;" (.ref da) ∧ Fld Z h r0 "java/util/ArrayList" "size" "I" (.int (0 : Int32)) ∧ Arv Z h da ka (.object "java/lang/Object") (10 : Int32) (List.replicate 10 Value.null) .null ∧ Ovr Z ka "java/lang/Object"
theorem d9_0 : decode jdk_38_method_7_code 0 = .ok (.aload_n 0, 1) := by decide +kernel
theorem d9_1 : decode jdk_38_method_7_code 1 = .ok (.aload_n 0, 1) := by decide +kernel
theorem d9_2 : decode jdk_38_method_7_code 2 = .ok (.getfield 48, 3) := by decide +kernel
theorem d9_5 : decode jdk_38_method_7_code 5 = .ok (.iconst 1, 1) := by decide +kernel
theorem d9_6 : decode jdk_38_method_7_code 6 = .ok (.iadd, 1) := by decide +kernel
theorem d9_7 : decode jdk_38_method_7_code 7 = .ok (.invokevirtual 69, 3) := by decide +kernel
theorem pd__28I_29_5bLjava_2flang_2fObject_3b : parseMethodDescriptor "(I)[Ljava/lang/Object;" = some ⟨[.int], some (.array (.object "java/lang/Object"))⟩ := by decide +kernel
theorem d9_10 : decode jdk_38_method_7_code 10 = .ok (.areturn, 1) := by decide +kernel
theorem ef_9 (m : MethodId) (r0 : Addr) : entryFrame m #[(.ref r0)] 1 = mkF m 0 #[.val (.ref r0)] [] := by first | (simp [entryFrame, mkF, argsToLocals, Value.category]; done) | rfl
set_option maxRecDepth 65536 in
set_option maxHeartbeats 40000000 in
theorem rm9 (l : Launch) (Z : State) (a0 : Array Value) (hw : ∀ d ∈ tables_1, d.before a0 Z = true) (ws : List Jvm.Cond) (r0 : Addr) (de : Addr) (kd : ClassId) (h0 : Heap) (n0 : Nat) (Z0 : n0 ≤ h0.size) (Hp0 : Exa Z h0 r0 "java/util/ArrayList") (Hp1 : Fld Z h0 r0 "java/util/AbstractList" "modCount" "I" (.int (1 : Int32))) (Hp2 : Fld Z h0 r0 "java/util/ArrayList" "elementData" "[Ljava/lang/Object;" (.ref de)) (Hp3 : Fld Z h0 r0 "java/util/ArrayList" "size" "I" (.int (0 : Int32))) (Hp4 : Old Z n0 h0) (Hp5 : Sta Z Z.heap "java/util/ArrayList" "DEFAULTCAPACITY_EMPTY_ELEMENTDATA" "[Ljava/lang/Object;" (.ref de)) (Hp6 : Arv Z h0 de kd (.object "java/lang/Object") (0 : Int32) [] .null) (Hp7 : n0 ≤ r0) (Hp8 : de ≠ r0) :
    MetFree l (⟨"java/util/ArrayList", "grow", "()[Ljava/lang/Object;"⟩ : MethodName) (head1 (Jvm.Cond.code (⟨"java/util/ArrayList", "grow", "()[Ljava/lang/Object;"⟩ : MethodName) jdk_38_method_7_code 1 (some (.array (.object "java/lang/Object"))) :: ws) ({ frames := 2, cells := 1, slots := 10, locals := 29 } : Room)) (fun a U => a = #[(.ref r0)] ∧ Z.Warmed39 U.vm ∧ U.heap = h0) (fun _ _ _ _ _ => True) (fun _ U o U' => ∃ v L, o = .returned v ∧ Q9 Z r0 de kd h0 n0 v U'.heap L ∧ FrameEnd U o U' L ({ frames := 2, cells := 1, slots := 10, locals := 29 } : Room).cells ({ frames := 2, cells := 1, slots := 10, locals := 29 } : Room).slots) := by
  refine MetFree.of_bodySF (plainFor_of_name pn_java_util_ArrayList) hisR ?_
  intro p e s m args below meth c s₁ Bd hml0 hP hK
  obtain ⟨rfl, hZ, hh⟩ := hP
  have hx := Bd.exec
  have hby := Bd.bytes
  have hml : c.maxLocals = 1 := hml0
  have hown : s.vm.findClass "java/util/ArrayList" = some m.cls := findClass_of_methodNamed Bd.named
  have hnm := (name_of_methodNamed Bd.named Bd.method).1
  have X0 : Stand p l e ({ frames := 2, cells := 1, slots := 10, locals := 29 } : Room) s m #[(.ref r0)] below meth c s₁ [] 0 0 := Stand.of_body Bd
  have e0 : s₁.heap = h0 := by rw [← hh, Bd.state]; rfl
  have N0 := Fr.nil n0
  have pre0 : ∀ t, Steps p.tables e below (s₁.setTop (mkF m 0 #[.val (.ref r0)] [])) t → Steps p.tables e below (s₁.setTop (entryFrame m #[(.ref r0)] 1)) t := fun t k => castTop (ef_9 m r0) k
  obtain ⟨T1, X1, e1, st1⟩ := getF X0 hx hZ hown (host := "") (Or.inl (hw _ (tm 46 rfl))) Via.refl e0 Hp3 (g := (mkF m 2 #[.val (.ref r0)] [(.ref r0), (.ref r0)])) rfl rfl (hb hby d9_2)
  obtain ⟨cq2, q2, q2'⟩ := Hp0.cell
  obtain ⟨_, _, ⟨T2, L2, k2, n2⟩, -, X2, ⟨Lc2, hQ2, l2, y2, z2⟩, st2⟩ := X1.privateBack hx (y := (⟨"java/util/ArrayList", "grow", "(I)[Ljava/lang/Object;"⟩ : MethodName)) hown (mvT hZ (hw _ (tm 58 rfl))) (mvT hZ (hw _ (tm 59 rfl))) (mvT hZ (hw _ (tm 61 rfl))) (Cond.privateMethod_at (mvP hZ (hw _ (tm 60 rfl)) (args := #[]))) (mvT hZ (hw _ (tm 62 rfl))) (by decide) (backOf (W := 0) (rm10 l Z a0 hw [] r0 (1 : Int32) (de) (kd) h0 n0 Z0 Hp0 Hp1 Hp2 Hp3 Hp4 Hp5 Hp6 (by decide) Hp7 Hp8) hZ (hw _ (tm 62 rfl)) (hw _ (tm 15 rfl)) (by decide) (by decide)) (g := (mkF m 7 #[.val (.ref r0)] [(.int (1 : Int32)), (.ref r0)])) rfl (by rw [hml]; rfl) (Steps.refl _) (a := r0) (by rw [e1]; exact q2) q2' (argsL := [(.int (1 : Int32))]) (rest := []) (lenOf pd__28I_29_5bLjava_2flang_2fObject_3b rfl) rfl (by show 2 * 0 + _ ≤ _; exact Nat.le_of_eq rfl) (hb hby d9_7) (fun _ _ => ⟨rfl, e1, (by decide : 0 + 1 ≤ _), (by decide : 0 + 10 ≤ _)⟩)
  dsimp only [Pt.U, Pt.locs, Pt.cells, Pt.slots] at X2 l2 y2 z2 st2 hQ2
  subst l2 y2 z2
  obtain ⟨b2_da, b2_ka, rfl, N2q, K2, Sz2_da, Pc2_0, Pc2_1, Pc2_2, Pc2_3, Pc2_4, Pc2_5⟩ := hQ2
  have N2 := Fr.app N0 N2q
  have g_b2_da : n0 ≤ b2_da := Nat.le_trans Z0 Sz2_da
  have sz_b2_da : h0.size ≤ b2_da := Nat.le_trans (Keep.refl h0 [r0]).1 Sz2_da
  have ne_de_b2_da : de ≠ b2_da := Nat.ne_of_lt (Nat.lt_of_lt_of_le Hp6.lt Sz2_da)
  have ne_r0_b2_da : r0 ≠ b2_da := Nat.ne_of_lt (Nat.lt_of_lt_of_le Hp0.lt Sz2_da)
  have Kp3 := ((Keep.refl h0 [r0]).trans K2 (allS (Or.inl (tm 0 rfl)) all0))
  obtain ⟨fs, hr, hrun, hended, hW, hsame⟩ := X2.leave (v := some (.ref b2_da)) (fun h => by rw [Bd.returns] at h; cases h)
  refine ⟨_, _, pre0 _ ?_, hrun, hended, _, _, rfl, ?_, ⟨_, rfl⟩, hW, hsame.mono (by decide) (by decide)⟩
  · show Steps _ _ _ (s₁.setTop (mkF m 0 #[.val (.ref r0)] [])) _
    refine XS.aloadN X0.here hx rfl (hb hby d9_0) rfl rfl ?_
    show Steps _ _ _ (s₁.setTop (mkF m 1 #[.val (.ref r0)] [(.ref r0)])) _
    refine XS.aloadN X0.here hx rfl (hb hby d9_1) rfl rfl ?_
    show Steps _ _ _ (s₁.setTop (mkF m 2 #[.val (.ref r0)] [(.ref r0), (.ref r0)])) _
    refine st1 _ ?_
    show Steps _ _ _ (T1.setTop (mkF m 5 #[.val (.ref r0)] [(.int (0 : Int32)), (.ref r0)])) _
    refine XS.iconst X1.here hx rfl (hb hby d9_5) ?_
    show Steps _ _ _ (T1.setTop (mkF m 6 #[.val (.ref r0)] [(.int (1 : Int32)), (.int (0 : Int32)), (.ref r0)])) _
    refine XS.iadd X1.here hx rfl (hb hby d9_6) rfl ?_
    show Steps _ _ _ (T1.setTop (mkF m 7 #[.val (.ref r0)] [(.int ((0 : Int32) + (1 : Int32))), (.ref r0)])) _
    rw [show ((0 : Int32) + (1 : Int32)) = (1 : Int32) from (by decide)]
    show Steps _ _ _ (T1.setTop (mkF m 7 #[.val (.ref r0)] [(.int (1 : Int32)), (.ref r0)])) _
    refine st2.trans ?_
    show Steps _ _ _ (T2.setTop (mkF m 10 #[.val (.ref r0)] [(.ref b2_da)])) _
    exact X2.areturnOut hx rfl Bd.returns rfl (hb hby d9_10) hr
  · show Q9 Z r0 de kd h0 n0 _ T2.heap _
    exact ⟨b2_da, b2_ka, rfl, N2, Kp3, sz_b2_da, Pc2_0, Pc2_1, Pc2_2, Pc2_3, Pc2_4, Pc2_5⟩
def Q8 (Z : State) (r0 : Addr) (r1 : Addr) (r2 : Addr) (p3 : Int32) (kd : ClassId) (h0 : Heap) (n0 : Nat) (v : Option Value) (h : Heap) (L : List Loc) : Prop := ∃ da : Addr, ∃ ka : ClassId, v = none ∧ Fr n0 L ∧ Keep h0 h [r0] ∧ h0.size ≤ da ∧ Exa Z h r0 "java/util/ArrayList" ∧ Fld Z h r0 "java/util/AbstractList" "modCount" "I" (.int (1 : Int32)) ∧ Fld Z h r0 "java/util/ArrayList" "elementData" "[Ljava/lang/Object;" (.ref da) ∧ Fld Z h r0 "java/util/ArrayList" "size" "I" (.int (1 : Int32)) ∧ Arv Z h da ka (.object "java/lang/Object") (10 : Int32) ((List.replicate 10 Value.null).set 0 (.ref r1)) .null
theorem d8_0 : decode jdk_38_method_24_code 0 = .ok (.iload_n 3, 1) := by decide +kernel
theorem d8_1 : decode jdk_38_method_24_code 1 = .ok (.aload_n 2, 1) := by decide +kernel
theorem d8_2 : decode jdk_38_method_24_code 2 = .ok (.arraylength, 1) := by decide +kernel
theorem d8_3 : decode jdk_38_method_24_code 3 = .ok (.if_icmp .ne 8, 3) := by decide +kernel
theorem d8_6 : decode jdk_38_method_24_code 6 = .ok (.aload_n 0, 1) := by decide +kernel
theorem d8_7 : decode jdk_38_method_24_code 7 = .ok (.invokevirtual 129, 3) := by decide +kernel
theorem pd__28_29_5bLjava_2flang_2fObject_3b : parseMethodDescriptor "()[Ljava/lang/Object;" = some ⟨[], some (.array (.object "java/lang/Object"))⟩ := by decide +kernel
theorem d8_10 : decode jdk_38_method_24_code 10 = .ok (.astore_n 2, 1) := by decide +kernel
theorem d8_11 : decode jdk_38_method_24_code 11 = .ok (.aload_n 2, 1) := by decide +kernel
theorem d8_12 : decode jdk_38_method_24_code 12 = .ok (.iload_n 3, 1) := by decide +kernel
theorem d8_13 : decode jdk_38_method_24_code 13 = .ok (.aload_n 1, 1) := by decide +kernel
theorem d8_14 : decode jdk_38_method_24_code 14 = .ok (.aastore, 1) := by decide +kernel
theorem d8_15 : decode jdk_38_method_24_code 15 = .ok (.aload_n 0, 1) := by decide +kernel
theorem d8_16 : decode jdk_38_method_24_code 16 = .ok (.iload_n 3, 1) := by decide +kernel
theorem d8_17 : decode jdk_38_method_24_code 17 = .ok (.iconst 1, 1) := by decide +kernel
theorem d8_18 : decode jdk_38_method_24_code 18 = .ok (.iadd, 1) := by decide +kernel
theorem d8_19 : decode jdk_38_method_24_code 19 = .ok (.putfield 48, 3) := by decide +kernel
theorem d8_22 : decode jdk_38_method_24_code 22 = .ok (.return_, 1) := by decide +kernel
theorem ef_8 (m : MethodId) (r0 : Addr) (r1 : Addr) (r2 : Addr) (p3 : Int32) : entryFrame m #[(.ref r0), (.ref r1), (.ref r2), (.int p3)] 4 = mkF m 0 #[.val (.ref r0), .val (.ref r1), .val (.ref r2), .val (.int p3)] [] := by first | (simp [entryFrame, mkF, argsToLocals, Value.category]; done) | rfl
set_option maxRecDepth 65536 in
set_option maxHeartbeats 40000000 in
theorem rm8 (l : Launch) (Z : State) (a0 : Array Value) (hw : ∀ d ∈ tables_1, d.before a0 Z = true) (ws : List Jvm.Cond) (r0 : Addr) (r1 : Addr) (r2 : Addr) (p3 : Int32) (kd : ClassId) (h0 : Heap) (n0 : Nat) (Z0 : n0 ≤ h0.size) (Hp0 : Exa Z h0 r0 "java/util/ArrayList") (Hp1 : Fld Z h0 r0 "java/util/AbstractList" "modCount" "I" (.int (1 : Int32))) (Hp2 : Fld Z h0 r0 "java/util/ArrayList" "elementData" "[Ljava/lang/Object;" (.ref r2)) (Hp3 : Fld Z h0 r0 "java/util/ArrayList" "size" "I" (.int (0 : Int32))) (Hp4 : Old Z n0 h0) (Hp5 : Sta Z Z.heap "java/util/ArrayList" "DEFAULTCAPACITY_EMPTY_ELEMENTDATA" "[Ljava/lang/Object;" (.ref r2)) (Hp6 : Arv Z h0 r2 kd (.object "java/lang/Object") (0 : Int32) [] .null) (Hp7 : Exa Z h0 r1 "com/example/onesnap/onesnap/node/StatementKind") (hp3 : p3 = (0 : Int32)) (Hp9 : n0 ≤ r0) (Hp10 : r2 ≠ r0) :
    MetFree l (⟨"java/util/ArrayList", "add", "(Ljava/lang/Object;[Ljava/lang/Object;I)V"⟩ : MethodName) (head1 (Jvm.Cond.code (⟨"java/util/ArrayList", "add", "(Ljava/lang/Object;[Ljava/lang/Object;I)V"⟩ : MethodName) jdk_38_method_24_code 4 none :: ws) ({ frames := 3, cells := 1, slots := 10, locals := 41 } : Room)) (fun a U => a = #[(.ref r0), (.ref r1), (.ref r2), (.int p3)] ∧ Z.Warmed39 U.vm ∧ U.heap = h0) (fun _ _ _ _ _ => True) (fun _ U o U' => ∃ v L, o = .returned v ∧ Q8 Z r0 r1 r2 p3 kd h0 n0 v U'.heap L ∧ FrameEnd U o U' L ({ frames := 3, cells := 1, slots := 10, locals := 41 } : Room).cells ({ frames := 3, cells := 1, slots := 10, locals := 41 } : Room).slots) := by
  refine MetFree.of_bodySF (plainFor_of_name pn_java_util_ArrayList) hisR ?_
  intro p e s m args below meth c s₁ Bd hml0 hP hK
  obtain ⟨rfl, hZ, hh⟩ := hP
  have hx := Bd.exec
  have hby := Bd.bytes
  have hml : c.maxLocals = 4 := hml0
  have hown : s.vm.findClass "java/util/ArrayList" = some m.cls := findClass_of_methodNamed Bd.named
  have hnm := (name_of_methodNamed Bd.named Bd.method).1
  have X0 : Stand p l e ({ frames := 3, cells := 1, slots := 10, locals := 41 } : Room) s m #[(.ref r0), (.ref r1), (.ref r2), (.int p3)] below meth c s₁ [] 0 0 := Stand.of_body Bd
  have e0 : s₁.heap = h0 := by rw [← hh, Bd.state]; rfl
  have N0 := Fr.nil n0
  have pre0 : ∀ t, Steps p.tables e below (s₁.setTop (mkF m 0 (l_4 r0 r1 r2 p3) [])) t → Steps p.tables e below (s₁.setTop (entryFrame m #[(.ref r0), (.ref r1), (.ref r2), (.int p3)] 4)) t := fun t k => castTop (ef_8 m r0 r1 r2 p3) k
  obtain ⟨cl1, Ar1, -, S1, Nn1, -, -⟩ := id Hp6
  obtain ⟨cq2, q2, q2'⟩ := Hp0.cell
  obtain ⟨_, _, ⟨T2, L2, k2, n2⟩, -, X2, ⟨Lc2, hQ2, l2, y2, z2⟩, st2⟩ := X0.privateBack hx (y := (⟨"java/util/ArrayList", "grow", "()[Ljava/lang/Object;"⟩ : MethodName)) hown (mvT hZ (hw _ (tm 53 rfl))) (mvT hZ (hw _ (tm 54 rfl))) (mvT hZ (hw _ (tm 56 rfl))) (Cond.privateMethod_at (mvP hZ (hw _ (tm 55 rfl)) (args := #[]))) (mvT hZ (hw _ (tm 57 rfl))) (by decide) (backOf (W := 0) (rm9 l Z a0 hw [] r0 (r2) (kd) h0 n0 Z0 Hp0 Hp1 Hp2 Hp3 Hp4 Hp5 Hp6 Hp9 Hp10) hZ (hw _ (tm 57 rfl)) (hw _ (tm 15 rfl)) (by decide) (by decide)) (g := (mkF m 7 (l_4 r0 r1 r2 p3) [(.ref r0)])) rfl (by rw [hml]; rfl) (Steps.refl _) (a := r0) (by rw [e0]; exact q2) q2' (argsL := []) (rest := []) (lenOf pd__28_29_5bLjava_2flang_2fObject_3b rfl) rfl (by show 2 * 0 + _ ≤ _; exact Nat.le_of_eq rfl) (hb hby d8_7) (fun _ _ => ⟨rfl, e0, (by decide : 0 + 1 ≤ _), (by decide : 0 + 10 ≤ _)⟩)
  dsimp only [Pt.U, Pt.locs, Pt.cells, Pt.slots] at X2 l2 y2 z2 st2 hQ2
  subst l2 y2 z2
  obtain ⟨b2_da, b2_ka, rfl, N2q, K2, Sz2_da, Pc2_0, Pc2_1, Pc2_2, Pc2_3, Pc2_4, Pc2_5⟩ := hQ2
  have N2 := Fr.app N0 N2q
  have g_b2_da : n0 ≤ b2_da := Nat.le_trans Z0 Sz2_da
  have sz_b2_da : h0.size ≤ b2_da := Nat.le_trans (Keep.refl h0 [r0]).1 Sz2_da
  have ne_r0_b2_da : r0 ≠ b2_da := Nat.ne_of_lt (Nat.lt_of_lt_of_le Hp0.lt Sz2_da)
  have ne_r1_b2_da : r1 ≠ b2_da := Nat.ne_of_lt (Nat.lt_of_lt_of_le Hp7.lt Sz2_da)
  have ne_r2_b2_da : r2 ≠ b2_da := Nat.ne_of_lt (Nat.lt_of_lt_of_le Hp6.lt Sz2_da)
  obtain ⟨cl3, Ar3, q3, S3, Nn3, H3, G3⟩ := id Pc2_4
  have hin3 : ¬ (p3 < 0 ∨ cl3.slots.size ≤ (p3).toNatClampNeg) := inb_of S3 ⟨by rw [hp3]; decide, by rw [hp3]; decide⟩
  have Ex4 := (Hp7.keep K2)
  obtain ⟨T5, h5, X5, e5, W5, st5⟩ := stR X2 hx hZ rfl Ar3 (j := p3) hin3 rfl (Sto.ofV Ar3 q3 Pc2_5 (Ins.of_exa Ex4 (hw _ (tm 69 rfl)))) (g := (mkF m 14 (l_4 r0 r1 b2_da p3) [(.ref r1), (.int p3), (.ref b2_da)])) rfl rfl (hb hby d8_14)
  have N5 := Fr.snoc X5 N2 g_b2_da
  have V5 : Arv Z h5 b2_da b2_ka (.object "java/lang/Object") (10 : Int32) ((List.replicate 10 Value.null).set 0 (.ref r1)) .null := Arv.set Ar3 q3 S3 Nn3 H3 G3 rfl W5 0 (by rw [hp3]; rfl) (by simp)
  have Ex6 := (Pc2_0.wr W5)
  have Fd7 := (Pc2_3.other W5 (Or.inl ne_r0_b2_da))
  obtain ⟨T8, h8, X8, e8, W8, st8⟩ := putF X5 hx hZ hown (host := "") (Or.inl (hw _ (tm 46 rfl))) Via.refl e5 Fd7 Ex6 (Or.inl (hw _ (tm 47 rfl))) (hw _ (tm 14 rfl)) (ty := .int) (by decide) rfl rfl (g := (mkF m 19 (l_4 r0 r1 b2_da p3) [(.int (1 : Int32)), (.ref r0)])) rfl rfl (hb hby d8_19)
  have N8 := Fr.snoc X8 N5 Hp9
  have Fw8 := Fd7.same W8
  have Ex9 := (Ex6.wr W8)
  have Fd10 := ((Pc2_1.other W5 (Or.inl ne_r0_b2_da)).other W8 (Or.inr (slot_ne (Or.inl (hw _ (tm 35 rfl))) (Or.inl (hw _ (tm 47 rfl))) (by decide) (t := .int) (t' := .int) (by decide) (by decide))))
  have Fd11 := ((Pc2_2.other W5 (Or.inl ne_r0_b2_da)).other W8 (Or.inr (slot_ne (Or.inl (hw _ (tm 38 rfl))) (Or.inl (hw _ (tm 47 rfl))) (by decide) (t := (.array (.object "java/lang/Object"))) (t' := .int) (by decide) (by decide))))
  have Av12 := (V5.other W8 (Ne.symm ne_r0_b2_da))
  have Kp13 := ((((Keep.refl h0 [r0]).trans K2 (allS (Or.inl (tm 0 rfl)) all0)).wr W5 (Or.inr sz_b2_da)).wr W8 (Or.inl (tm 0 rfl)))
  obtain ⟨fs, hr, hrun, hended, hW, hsame⟩ := X8.leave (v := none) (fun _ => rfl)
  refine ⟨_, _, pre0 _ ?_, hrun, hended, _, _, rfl, ?_, ⟨_, rfl⟩, hW, hsame.mono (by decide) (by decide)⟩
  · show Steps _ _ _ (s₁.setTop (mkF m 0 (l_4 r0 r1 r2 p3) [])) _
    refine XS.iloadN X0.here hx rfl (hb hby d8_0) rfl ?_
    show Steps _ _ _ (s₁.setTop (mkF m 1 (l_4 r0 r1 r2 p3) [(.int p3)])) _
    refine XS.aloadN X0.here hx rfl (hb hby d8_1) rfl rfl ?_
    show Steps _ _ _ (s₁.setTop (mkF m 2 (l_4 r0 r1 r2 p3) [(.ref r2), (.int p3)])) _
    refine X0.arraylength hx (by rw [e0]; exact Ar1.1) (State.isArrayOf_alike hZ.alike Ar1.2.1) (g := (mkF m 2 (l_4 r0 r1 r2 p3) [(.ref r2), (.int p3)])) rfl rfl (hb hby d8_2) _ ?_
    rw [len_of S1 Nn1]
    show Steps _ _ _ (s₁.setTop (mkF m 3 (l_4 r0 r1 r2 p3) [(.int (0 : Int32)), (.int p3)])) _
    refine XS.icmpNo X0.here hx rfl (hb hby d8_3) rfl (teq hp3).2 ?_
    show Steps _ _ _ (s₁.setTop (mkF m 6 (l_4 r0 r1 r2 p3) [])) _
    refine XS.aloadN X0.here hx rfl (hb hby d8_6) rfl rfl ?_
    show Steps _ _ _ (s₁.setTop (mkF m 7 (l_4 r0 r1 r2 p3) [(.ref r0)])) _
    refine st2.trans ?_
    show Steps _ _ _ (T2.setTop (mkF m 10 (l_4 r0 r1 r2 p3) [(.ref b2_da)])) _
    refine XS.astoreN X2.here hx rfl (hb hby d8_10) rfl rfl (l' := (l_4 r0 r1 b2_da p3)) rfl ?_
    show Steps _ _ _ (T2.setTop (mkF m 11 (l_4 r0 r1 b2_da p3) [])) _
    refine XS.aloadN X2.here hx rfl (hb hby d8_11) rfl rfl ?_
    show Steps _ _ _ (T2.setTop (mkF m 12 (l_4 r0 r1 b2_da p3) [(.ref b2_da)])) _
    refine XS.iloadN X2.here hx rfl (hb hby d8_12) rfl ?_
    show Steps _ _ _ (T2.setTop (mkF m 13 (l_4 r0 r1 b2_da p3) [(.int p3), (.ref b2_da)])) _
    refine XS.aloadN X2.here hx rfl (hb hby d8_13) rfl rfl ?_
    show Steps _ _ _ (T2.setTop (mkF m 14 (l_4 r0 r1 b2_da p3) [(.ref r1), (.int p3), (.ref b2_da)])) _
    refine st5 _ ?_
    show Steps _ _ _ (T5.setTop (mkF m 15 (l_4 r0 r1 b2_da p3) [])) _
    refine XS.aloadN X5.here hx rfl (hb hby d8_15) rfl rfl ?_
    show Steps _ _ _ (T5.setTop (mkF m 16 (l_4 r0 r1 b2_da p3) [(.ref r0)])) _
    refine XS.iloadN X5.here hx rfl (hb hby d8_16) rfl ?_
    show Steps _ _ _ (T5.setTop (mkF m 17 (l_4 r0 r1 b2_da p3) [(.int p3), (.ref r0)])) _
    refine XS.iconst X5.here hx rfl (hb hby d8_17) ?_
    show Steps _ _ _ (T5.setTop (mkF m 18 (l_4 r0 r1 b2_da p3) [(.int (1 : Int32)), (.int p3), (.ref r0)])) _
    refine XS.iadd X5.here hx rfl (hb hby d8_18) rfl ?_
    show Steps _ _ _ (T5.setTop (mkF m 19 (l_4 r0 r1 b2_da p3) [(.int (p3 + (1 : Int32))), (.ref r0)])) _
    rw [show (p3 + (1 : Int32)) = (1 : Int32) from (by rw [hp3]; decide)]
    show Steps _ _ _ (T5.setTop (mkF m 19 (l_4 r0 r1 b2_da p3) [(.int (1 : Int32)), (.ref r0)])) _
    refine st8 _ ?_
    show Steps _ _ _ (T8.setTop (mkF m 22 (l_4 r0 r1 b2_da p3) [])) _
    exact X8.returnOut hx Bd.returns (hb hby d8_22) hr
  · show Q8 Z r0 r1 r2 p3 kd h0 n0 _ T8.heap _
    rw [e8]
    exact ⟨b2_da, b2_ka, rfl, N8, Kp13, sz_b2_da, Ex9, Fd10, Fd11, Fw8, Av12⟩
def Q7 (Z : State) (r0 : Addr) (r1 : Addr) (de : Addr) (kd : ClassId) (h0 : Heap) (n0 : Nat) (v : Option Value) (h : Heap) (L : List Loc) : Prop := ∃ da : Addr, ∃ ka : ClassId, v = some (.int (1 : Int32)) ∧ Fr n0 L ∧ Keep h0 h [r0] ∧ h0.size ≤ da ∧ Exa Z h r0 "java/util/ArrayList" ∧ Fld Z h r0 "java/util/AbstractList" "modCount" "I" (.int (1 : Int32)) ∧ Fld Z h r0 "java/util/ArrayList" "elementData" "[Ljava/lang/Object;" (.ref da) ∧ Fld Z h r0 "java/util/ArrayList" "size" "I" (.int (1 : Int32)) ∧ Arv Z h da ka (.object "java/lang/Object") (10 : Int32) ((List.replicate 10 Value.null).set 0 (.ref r1)) .null
theorem d7_0 : decode jdk_38_method_25_code 0 = .ok (.aload_n 0, 1) := by decide +kernel
theorem d7_1 : decode jdk_38_method_25_code 1 = .ok (.dup, 1) := by decide +kernel
theorem d7_2 : decode jdk_38_method_25_code 2 = .ok (.getfield 63, 3) := by decide +kernel
theorem d7_5 : decode jdk_38_method_25_code 5 = .ok (.iconst 1, 1) := by decide +kernel
theorem d7_6 : decode jdk_38_method_25_code 6 = .ok (.iadd, 1) := by decide +kernel
theorem d7_7 : decode jdk_38_method_25_code 7 = .ok (.putfield 63, 3) := by decide +kernel
theorem d7_10 : decode jdk_38_method_25_code 10 = .ok (.aload_n 0, 1) := by decide +kernel
theorem d7_11 : decode jdk_38_method_25_code 11 = .ok (.aload_n 1, 1) := by decide +kernel
theorem d7_12 : decode jdk_38_method_25_code 12 = .ok (.aload_n 0, 1) := by decide +kernel
theorem d7_13 : decode jdk_38_method_25_code 13 = .ok (.getfield 9, 3) := by decide +kernel
theorem d7_16 : decode jdk_38_method_25_code 16 = .ok (.aload_n 0, 1) := by decide +kernel
theorem d7_17 : decode jdk_38_method_25_code 17 = .ok (.getfield 48, 3) := by decide +kernel
theorem d7_20 : decode jdk_38_method_25_code 20 = .ok (.invokevirtual 131, 3) := by decide +kernel
theorem pd__28Ljava_2flang_2fObject_3b_5bLjava_2flang_2fObject_3bI_29V : parseMethodDescriptor "(Ljava/lang/Object;[Ljava/lang/Object;I)V" = some ⟨[(.object "java/lang/Object"), (.array (.object "java/lang/Object")), .int], none⟩ := by decide +kernel
theorem d7_23 : decode jdk_38_method_25_code 23 = .ok (.iconst 1, 1) := by decide +kernel
theorem d7_24 : decode jdk_38_method_25_code 24 = .ok (.ireturn, 1) := by decide +kernel
theorem ef_7 (m : MethodId) (r0 : Addr) (r1 : Addr) : entryFrame m #[(.ref r0), (.ref r1)] 2 = mkF m 0 #[.val (.ref r0), .val (.ref r1)] [] := by first | (simp [entryFrame, mkF, argsToLocals, Value.category]; done) | rfl
set_option maxRecDepth 65536 in
set_option maxHeartbeats 40000000 in
theorem rm7 (l : Launch) (Z : State) (a0 : Array Value) (hw : ∀ d ∈ tables_1, d.before a0 Z = true) (ws : List Jvm.Cond) (r0 : Addr) (r1 : Addr) (de : Addr) (kd : ClassId) (h0 : Heap) (n0 : Nat) (Z0 : n0 ≤ h0.size) (Hp0 : Exa Z h0 r0 "java/util/ArrayList") (Hp1 : Fld Z h0 r0 "java/util/AbstractList" "modCount" "I" (.int (0 : Int32))) (Hp2 : Fld Z h0 r0 "java/util/ArrayList" "elementData" "[Ljava/lang/Object;" (.ref de)) (Hp3 : Fld Z h0 r0 "java/util/ArrayList" "size" "I" (.int (0 : Int32))) (Hp4 : Old Z n0 h0) (Hp5 : Sta Z Z.heap "java/util/ArrayList" "DEFAULTCAPACITY_EMPTY_ELEMENTDATA" "[Ljava/lang/Object;" (.ref de)) (Hp6 : Arv Z h0 de kd (.object "java/lang/Object") (0 : Int32) [] .null) (Hp7 : Exa Z h0 r1 "com/example/onesnap/onesnap/node/StatementKind") (Hp8 : n0 ≤ r0) (Hp9 : de ≠ r0) :
    MetFree l (⟨"java/util/ArrayList", "add", "(Ljava/lang/Object;)Z"⟩ : MethodName) (head1 (Jvm.Cond.code (⟨"java/util/ArrayList", "add", "(Ljava/lang/Object;)Z"⟩ : MethodName) jdk_38_method_25_code 2 (some .boolean) :: ws) ({ frames := 4, cells := 1, slots := 10, locals := 56 } : Room)) (fun a U => a = #[(.ref r0), (.ref r1)] ∧ Z.Warmed39 U.vm ∧ U.heap = h0) (fun _ _ _ _ _ => True) (fun _ U o U' => ∃ v L, o = .returned v ∧ Q7 Z r0 r1 de kd h0 n0 v U'.heap L ∧ FrameEnd U o U' L ({ frames := 4, cells := 1, slots := 10, locals := 56 } : Room).cells ({ frames := 4, cells := 1, slots := 10, locals := 56 } : Room).slots) := by
  refine MetFree.of_bodySF (plainFor_of_name pn_java_util_ArrayList) hisR ?_
  intro p e s m args below meth c s₁ Bd hml0 hP hK
  obtain ⟨rfl, hZ, hh⟩ := hP
  have hx := Bd.exec
  have hby := Bd.bytes
  have hml : c.maxLocals = 2 := hml0
  have hown : s.vm.findClass "java/util/ArrayList" = some m.cls := findClass_of_methodNamed Bd.named
  have hnm := (name_of_methodNamed Bd.named Bd.method).1
  have X0 : Stand p l e ({ frames := 4, cells := 1, slots := 10, locals := 56 } : Room) s m #[(.ref r0), (.ref r1)] below meth c s₁ [] 0 0 := Stand.of_body Bd
  have e0 : s₁.heap = h0 := by rw [← hh, Bd.state]; rfl
  have N0 := Fr.nil n0
  have pre0 : ∀ t, Steps p.tables e below (s₁.setTop (mkF m 0 (l_5 r0 r1) [])) t → Steps p.tables e below (s₁.setTop (entryFrame m #[(.ref r0), (.ref r1)] 2)) t := fun t k => castTop (ef_7 m r0 r1) k
  obtain ⟨T1, X1, e1, st1⟩ := getF X0 hx hZ hown (host := "") (Or.inl (hw _ (tm 44 rfl))) (Via.of (hw _ (tm 45 rfl))) e0 Hp1 (g := (mkF m 2 (l_5 r0 r1) [(.ref r0), (.ref r0)])) rfl rfl (hb hby d7_2)
  obtain ⟨T2, h2, X2, e2, W2, st2⟩ := putF X1 hx hZ hown (host := "") (Or.inl (hw _ (tm 44 rfl))) (Via.of (hw _ (tm 45 rfl))) e1 Hp1 Hp0 (Or.inl (hw _ (tm 35 rfl))) (hw _ (tm 14 rfl)) (ty := .int) (by decide) rfl rfl (g := (mkF m 7 (l_5 r0 r1) [(.int (1 : Int32)), (.ref r0)])) rfl rfl (hb hby d7_7)
  have N2 := Fr.snoc X2 N0 Hp8
  have Fw2 := Hp1.same W2
  have Fd3 := (Hp2.other W2 (Or.inr (slot_ne (Or.inl (hw _ (tm 38 rfl))) (Or.inl (hw _ (tm 35 rfl))) (by decide) (t := (.array (.object "java/lang/Object"))) (t' := .int) (by decide) (by decide))))
  obtain ⟨T4, X4, e4, st4⟩ := getF X2 hx hZ hown (host := "") (Or.inl (hw _ (tm 37 rfl))) Via.refl e2 Fd3 (g := (mkF m 13 (l_5 r0 r1) [(.ref r0), (.ref r1), (.ref r0)])) rfl rfl (hb hby d7_13)
  have Fd5 := (Hp3.other W2 (Or.inr (slot_ne (Or.inl (hw _ (tm 47 rfl))) (Or.inl (hw _ (tm 35 rfl))) (by decide) (t := .int) (t' := .int) (by decide) (by decide))))
  obtain ⟨T6, X6, e6, st6⟩ := getF X4 hx hZ hown (host := "") (Or.inl (hw _ (tm 46 rfl))) Via.refl e4 Fd5 (g := (mkF m 17 (l_5 r0 r1) [(.ref r0), (.ref de), (.ref r1), (.ref r0)])) rfl rfl (hb hby d7_17)
  have Av8 := (Hp6.other W2 Hp9)
  have Ex9 := (Hp0.wr W2)
  have Ex10 := (Hp7.wr W2)
  have Zz11 := (Nat.le_trans Z0 (Keep.of_wr W2).1)
  have Kp12 := ((Keep.refl h0 [r0]).wr W2 (Or.inl (tm 0 rfl)))
  have Od13 := (Hp4.wr W2 Hp8)
  obtain ⟨cq7, q7, q7'⟩ := Ex9.cell
  obtain ⟨_, _, ⟨T7, L7, k7, n7⟩, -, X7, ⟨Lc7, hQ7, l7, y7, z7⟩, st7⟩ := X6.privateBack hx (y := (⟨"java/util/ArrayList", "add", "(Ljava/lang/Object;[Ljava/lang/Object;I)V"⟩ : MethodName)) hown (mvT hZ (hw _ (tm 48 rfl))) (mvT hZ (hw _ (tm 49 rfl))) (mvT hZ (hw _ (tm 51 rfl))) (Cond.privateMethod_at (mvP hZ (hw _ (tm 50 rfl)) (args := #[]))) (mvT hZ (hw _ (tm 52 rfl))) (by decide) (backOf (W := 0) (rm8 l Z a0 hw [] r0 r1 de (0 : Int32) (kd) h2 n0 Zz11 Ex9 Fw2 Fd3 Fd5 Od13 Hp5 Av8 Ex10 (by decide) Hp8 Hp9) hZ (hw _ (tm 52 rfl)) (hw _ (tm 15 rfl)) (by decide) (by decide)) (g := (mkF m 20 (l_5 r0 r1) [(.int (0 : Int32)), (.ref de), (.ref r1), (.ref r0)])) rfl (by rw [hml]; rfl) (Steps.refl _) (a := r0) (by rw [e6]; exact q7) q7' (argsL := [(.ref r1), (.ref de), (.int (0 : Int32))]) (rest := []) (lenOf pd__28Ljava_2flang_2fObject_3b_5bLjava_2flang_2fObject_3bI_29V rfl) rfl (by show 2 * 0 + _ ≤ _; exact Nat.le_of_eq rfl) (hb hby d7_20) (fun _ _ => ⟨rfl, e6, (by decide : 0 + 1 ≤ _), (by decide : 0 + 10 ≤ _)⟩)
  dsimp only [Pt.U, Pt.locs, Pt.cells, Pt.slots] at X7 l7 y7 z7 st7 hQ7
  subst l7 y7 z7
  obtain ⟨b7_da, b7_ka, rfl, N7q, K7, Sz7_da, Pc7_0, Pc7_1, Pc7_2, Pc7_3, Pc7_4⟩ := hQ7
  have N7 := Fr.app N2 N7q
  have g_b7_da : n0 ≤ b7_da := Nat.le_trans Zz11 Sz7_da
  have sz_b7_da : h0.size ≤ b7_da := Nat.le_trans Kp12.1 Sz7_da
  have ne_de_b7_da : de ≠ b7_da := Nat.ne_of_lt (Nat.lt_of_lt_of_le Av8.lt Sz7_da)
  have ne_r0_b7_da : r0 ≠ b7_da := Nat.ne_of_lt (Nat.lt_of_lt_of_le Ex9.lt Sz7_da)
  have ne_r1_b7_da : r1 ≠ b7_da := Nat.ne_of_lt (Nat.lt_of_lt_of_le Ex10.lt Sz7_da)
  have Kp14 := (Kp12.trans K7 (allS (Or.inl (tm 0 rfl)) all0))
  obtain ⟨fs, hr, hrun, hended, hW, hsame⟩ := X7.leave (v := some (.int (1 : Int32))) (fun h => by rw [Bd.returns] at h; cases h)
  refine ⟨_, _, pre0 _ ?_, hrun, hended, _, _, rfl, ?_, ⟨_, rfl⟩, hW, hsame.mono (by decide) (by decide)⟩
  · show Steps _ _ _ (s₁.setTop (mkF m 0 (l_5 r0 r1) [])) _
    refine XS.aloadN X0.here hx rfl (hb hby d7_0) rfl rfl ?_
    show Steps _ _ _ (s₁.setTop (mkF m 1 (l_5 r0 r1) [(.ref r0)])) _
    refine XS.dup X0.here hx rfl (hb hby d7_1) rfl rfl ?_
    show Steps _ _ _ (s₁.setTop (mkF m 2 (l_5 r0 r1) [(.ref r0), (.ref r0)])) _
    refine st1 _ ?_
    show Steps _ _ _ (T1.setTop (mkF m 5 (l_5 r0 r1) [(.int (0 : Int32)), (.ref r0)])) _
    refine XS.iconst X1.here hx rfl (hb hby d7_5) ?_
    show Steps _ _ _ (T1.setTop (mkF m 6 (l_5 r0 r1) [(.int (1 : Int32)), (.int (0 : Int32)), (.ref r0)])) _
    refine XS.iadd X1.here hx rfl (hb hby d7_6) rfl ?_
    show Steps _ _ _ (T1.setTop (mkF m 7 (l_5 r0 r1) [(.int ((0 : Int32) + (1 : Int32))), (.ref r0)])) _
    rw [show ((0 : Int32) + (1 : Int32)) = (1 : Int32) from (by decide)]
    show Steps _ _ _ (T1.setTop (mkF m 7 (l_5 r0 r1) [(.int (1 : Int32)), (.ref r0)])) _
    refine st2 _ ?_
    show Steps _ _ _ (T2.setTop (mkF m 10 (l_5 r0 r1) [])) _
    refine XS.aloadN X2.here hx rfl (hb hby d7_10) rfl rfl ?_
    show Steps _ _ _ (T2.setTop (mkF m 11 (l_5 r0 r1) [(.ref r0)])) _
    refine XS.aloadN X2.here hx rfl (hb hby d7_11) rfl rfl ?_
    show Steps _ _ _ (T2.setTop (mkF m 12 (l_5 r0 r1) [(.ref r1), (.ref r0)])) _
    refine XS.aloadN X2.here hx rfl (hb hby d7_12) rfl rfl ?_
    show Steps _ _ _ (T2.setTop (mkF m 13 (l_5 r0 r1) [(.ref r0), (.ref r1), (.ref r0)])) _
    refine st4 _ ?_
    show Steps _ _ _ (T4.setTop (mkF m 16 (l_5 r0 r1) [(.ref de), (.ref r1), (.ref r0)])) _
    refine XS.aloadN X4.here hx rfl (hb hby d7_16) rfl rfl ?_
    show Steps _ _ _ (T4.setTop (mkF m 17 (l_5 r0 r1) [(.ref r0), (.ref de), (.ref r1), (.ref r0)])) _
    refine st6 _ ?_
    show Steps _ _ _ (T6.setTop (mkF m 20 (l_5 r0 r1) [(.int (0 : Int32)), (.ref de), (.ref r1), (.ref r0)])) _
    refine st7.trans ?_
    show Steps _ _ _ (T7.setTop (mkF m 23 (l_5 r0 r1) [])) _
    refine XS.iconst X7.here hx rfl (hb hby d7_23) ?_
    show Steps _ _ _ (T7.setTop (mkF m 24 (l_5 r0 r1) [(.int (1 : Int32))])) _
    exact retN X7 hx (t := .boolean) Bd.returns (by simp) (hb hby d7_24) hr
  · show Q7 Z r0 r1 de kd h0 n0 _ T7.heap _
    exact ⟨b7_da, b7_ka, rfl, N7, Kp14, sz_b7_da, Pc7_0, Pc7_1, Pc7_2, Pc7_3, Pc7_4⟩
def Q23 (Z : State) (r0 : Addr) (h0 : Heap) (n0 : Nat) (v : Option Value) (h : Heap) (L : List Loc) : Prop := v = some (.int (1 : Int32)) ∧ Fr n0 L ∧ h = h0
theorem d23_0 : decode jdk_38_method_8_code 0 = .ok (.aload_n 0, 1) := by decide +kernel
theorem d23_1 : decode jdk_38_method_8_code 1 = .ok (.getfield 48, 3) := by decide +kernel
theorem d23_4 : decode jdk_38_method_8_code 4 = .ok (.ireturn, 1) := by decide +kernel
theorem ef_23 (m : MethodId) (r0 : Addr) : entryFrame m #[(.ref r0)] 1 = mkF m 0 #[.val (.ref r0)] [] := by first | (simp [entryFrame, mkF, argsToLocals, Value.category]; done) | rfl
set_option maxRecDepth 65536 in
set_option maxHeartbeats 40000000 in
theorem rm23 (l : Launch) (Z : State) (a0 : Array Value) (hw : ∀ d ∈ tables_1, d.before a0 Z = true) (ws : List Jvm.Cond) (r0 : Addr)  (h0 : Heap) (n0 : Nat) (Z0 : n0 ≤ h0.size) (Hp0 : Fld Z h0 r0 "java/util/ArrayList" "size" "I" (.int (1 : Int32))) :
    MetFree l (⟨"java/util/ArrayList", "size", "()I"⟩ : MethodName) (head1 (Jvm.Cond.code (⟨"java/util/ArrayList", "size", "()I"⟩ : MethodName) jdk_38_method_8_code 1 (some .int) :: ws) ({ frames := 0, cells := 0, slots := 0, locals := 0 } : Room)) (fun a U => a = #[(.ref r0)] ∧ Z.Warmed39 U.vm ∧ U.heap = h0) (fun _ _ _ _ _ => True) (fun _ U o U' => ∃ v L, o = .returned v ∧ Q23 Z r0 h0 n0 v U'.heap L ∧ FrameEnd U o U' L ({ frames := 0, cells := 0, slots := 0, locals := 0 } : Room).cells ({ frames := 0, cells := 0, slots := 0, locals := 0 } : Room).slots) := by
  refine MetFree.of_bodySF (plainFor_of_name pn_java_util_ArrayList) hisR ?_
  intro p e s m args below meth c s₁ Bd hml0 hP hK
  obtain ⟨rfl, hZ, hh⟩ := hP
  have hx := Bd.exec
  have hby := Bd.bytes
  have hml : c.maxLocals = 1 := hml0
  have hown : s.vm.findClass "java/util/ArrayList" = some m.cls := findClass_of_methodNamed Bd.named
  have hnm := (name_of_methodNamed Bd.named Bd.method).1
  have X0 : Stand p l e ({ frames := 0, cells := 0, slots := 0, locals := 0 } : Room) s m #[(.ref r0)] below meth c s₁ [] 0 0 := Stand.of_body Bd
  have e0 : s₁.heap = h0 := by rw [← hh, Bd.state]; rfl
  have N0 := Fr.nil n0
  have pre0 : ∀ t, Steps p.tables e below (s₁.setTop (mkF m 0 #[.val (.ref r0)] [])) t → Steps p.tables e below (s₁.setTop (entryFrame m #[(.ref r0)] 1)) t := fun t k => castTop (ef_23 m r0) k
  obtain ⟨T1, X1, e1, st1⟩ := getF X0 hx hZ hown (host := "") (Or.inl (hw _ (tm 46 rfl))) Via.refl e0 Hp0 (g := (mkF m 1 #[.val (.ref r0)] [(.ref r0)])) rfl rfl (hb hby d23_1)
  obtain ⟨fs, hr, hrun, hended, hW, hsame⟩ := X1.leave (v := some (.int (1 : Int32))) (fun h => by rw [Bd.returns] at h; cases h)
  refine ⟨_, _, pre0 _ ?_, hrun, hended, _, _, rfl, ?_, ⟨_, rfl⟩, hW, hsame.mono (by decide) (by decide)⟩
  · show Steps _ _ _ (s₁.setTop (mkF m 0 #[.val (.ref r0)] [])) _
    refine XS.aloadN X0.here hx rfl (hb hby d23_0) rfl rfl ?_
    show Steps _ _ _ (s₁.setTop (mkF m 1 #[.val (.ref r0)] [(.ref r0)])) _
    refine st1 _ ?_
    show Steps _ _ _ (T1.setTop (mkF m 4 #[.val (.ref r0)] [(.int (1 : Int32))])) _
    exact retI X1 hx Bd.returns (hb hby d23_4) hr
  · show Q23 Z r0 h0 n0 _ T1.heap _
    rw [e1]
    exact ⟨rfl, N0, rfl⟩
def Q26 (Z : State) (p0 : Int32) (p1 : Int32) (h0 : Heap) (n0 : Nat) (v : Option Value) (h : Heap) (L : List Loc) : Prop := v = some (.int p0) ∧ Fr n0 L ∧ h = h0
theorem d26_0 : decode jdk_41_method_11_code 0 = .ok (.iload_n 0, 1) := by decide +kernel
theorem d26_1 : decode jdk_41_method_11_code 1 = .ok (.ifCond .lt 8, 3) := by decide +kernel
theorem d26_4 : decode jdk_41_method_11_code 4 = .ok (.iload_n 0, 1) := by decide +kernel
theorem d26_5 : decode jdk_41_method_11_code 5 = .ok (.iload_n 1, 1) := by decide +kernel
theorem d26_6 : decode jdk_41_method_11_code 6 = .ok (.if_icmp .lt 10, 3) := by decide +kernel
theorem d26_16 : decode jdk_41_method_11_code 16 = .ok (.iload_n 0, 1) := by decide +kernel
theorem d26_17 : decode jdk_41_method_11_code 17 = .ok (.ireturn, 1) := by decide +kernel
theorem pn_jdk_internal_util_Preconditions : plainName "jdk/internal/util/Preconditions" = true := by first | (simp [plainName, overriddenIn]; done) | decide +kernel
theorem ef_26 (m : MethodId) (p0 : Int32) (p1 : Int32) : entryFrame m #[(.int p0), (.int p1), .null] 3 = mkF m 0 #[.val (.int p0), .val (.int p1), .val .null] [] := by first | (simp [entryFrame, mkF, argsToLocals, Value.category]; done) | rfl
set_option maxRecDepth 65536 in
set_option maxHeartbeats 40000000 in
theorem rm26 (l : Launch) (Z : State) (a0 : Array Value) (hw : ∀ d ∈ tables_1, d.before a0 Z = true) (ws : List Jvm.Cond) (p0 : Int32) (p1 : Int32)  (h0 : Heap) (n0 : Nat) (Z0 : n0 ≤ h0.size) (hp0 : p0 = (0 : Int32)) (hp1 : p1 = (1 : Int32)) :
    MetFree l (⟨"jdk/internal/util/Preconditions", "checkIndex", "(IILjava/util/function/BiFunction;)I"⟩ : MethodName) (head1 (Jvm.Cond.code (⟨"jdk/internal/util/Preconditions", "checkIndex", "(IILjava/util/function/BiFunction;)I"⟩ : MethodName) jdk_41_method_11_code 3 (some .int) :: ws) ({ frames := 0, cells := 0, slots := 0, locals := 0 } : Room)) (fun a U => a = #[(.int p0), (.int p1), .null] ∧ Z.Warmed39 U.vm ∧ U.heap = h0) (fun _ _ _ _ _ => True) (fun _ U o U' => ∃ v L, o = .returned v ∧ Q26 Z p0 p1 h0 n0 v U'.heap L ∧ FrameEnd U o U' L ({ frames := 0, cells := 0, slots := 0, locals := 0 } : Room).cells ({ frames := 0, cells := 0, slots := 0, locals := 0 } : Room).slots) := by
  refine MetFree.of_bodySF (plainFor_of_name pn_jdk_internal_util_Preconditions) hisR ?_
  intro p e s m args below meth c s₁ Bd hml0 hP hK
  obtain ⟨rfl, hZ, hh⟩ := hP
  have hx := Bd.exec
  have hby := Bd.bytes
  have hml : c.maxLocals = 3 := hml0
  have hown : s.vm.findClass "jdk/internal/util/Preconditions" = some m.cls := findClass_of_methodNamed Bd.named
  have hnm := (name_of_methodNamed Bd.named Bd.method).1
  have X0 : Stand p l e ({ frames := 0, cells := 0, slots := 0, locals := 0 } : Room) s m #[(.int p0), (.int p1), .null] below meth c s₁ [] 0 0 := Stand.of_body Bd
  have e0 : s₁.heap = h0 := by rw [← hh, Bd.state]; rfl
  have N0 := Fr.nil n0
  have pre0 : ∀ t, Steps p.tables e below (s₁.setTop (mkF m 0 (l_6 p0 p1) [])) t → Steps p.tables e below (s₁.setTop (entryFrame m #[(.int p0), (.int p1), .null] 3)) t := fun t k => castTop (ef_26 m p0 p1) k
  obtain ⟨fs, hr, hrun, hended, hW, hsame⟩ := X0.leave (v := some (.int p0)) (fun h => by rw [Bd.returns] at h; cases h)
  refine ⟨_, _, pre0 _ ?_, hrun, hended, _, _, rfl, ?_, ⟨_, rfl⟩, hW, hsame.mono (by decide) (by decide)⟩
  · show Steps _ _ _ (s₁.setTop (mkF m 0 (l_6 p0 p1) [])) _
    refine XS.iloadN X0.here hx rfl (hb hby d26_0) rfl ?_
    show Steps _ _ _ (s₁.setTop (mkF m 1 (l_6 p0 p1) [(.int p0)])) _
    refine XS.ifNo X0.here hx rfl (hb hby d26_1) rfl ((if0 _ _).trans (flt (by rw [hp0]; decide)).1) ?_
    show Steps _ _ _ (s₁.setTop (mkF m 4 (l_6 p0 p1) [])) _
    refine XS.iloadN X0.here hx rfl (hb hby d26_4) rfl ?_
    show Steps _ _ _ (s₁.setTop (mkF m 5 (l_6 p0 p1) [(.int p0)])) _
    refine XS.iloadN X0.here hx rfl (hb hby d26_5) rfl ?_
    show Steps _ _ _ (s₁.setTop (mkF m 6 (l_6 p0 p1) [(.int p1), (.int p0)])) _
    refine XS.icmpYes X0.here hx rfl (pc0 := 6) (pc' := 16) rfl (hb hby d26_6) rfl (tlt (by rw [hp0, hp1]; decide)).1 (by decide) (by decide) ?_
    show Steps _ _ _ (s₁.setTop (mkF m 16 (l_6 p0 p1) [])) _
    refine XS.iloadN X0.here hx rfl (hb hby d26_16) rfl ?_
    show Steps _ _ _ (s₁.setTop (mkF m 17 (l_6 p0 p1) [(.int p0)])) _
    exact retI X0 hx Bd.returns (hb hby d26_17) hr
  · show Q26 Z p0 p1 h0 n0 _ s₁.heap _
    rw [e0]
    exact ⟨rfl, N0, rfl⟩
def Q25 (Z : State) (p0 : Int32) (p1 : Int32) (h0 : Heap) (n0 : Nat) (v : Option Value) (h : Heap) (L : List Loc) : Prop := v = some (.int p0) ∧ Fr n0 L ∧ h = h0
theorem d25_0 : decode jdk_31_method_17_code 0 = .ok (.iload_n 0, 1) := by decide +kernel
theorem d25_1 : decode jdk_31_method_17_code 1 = .ok (.iload_n 1, 1) := by decide +kernel
theorem d25_2 : decode jdk_31_method_17_code 2 = .ok (.aconst_null, 1) := by decide +kernel
theorem d25_3 : decode jdk_31_method_17_code 3 = .ok (.invokestatic 105, 3) := by decide +kernel
theorem pd__28IILjava_2futil_2ffunction_2fBiFunction_3b_29I : parseMethodDescriptor "(IILjava/util/function/BiFunction;)I" = some ⟨[.int, .int, (.object "java/util/function/BiFunction")], some .int⟩ := by decide +kernel
theorem d25_6 : decode jdk_31_method_17_code 6 = .ok (.ireturn, 1) := by decide +kernel
theorem pn_java_util_Objects : plainName "java/util/Objects" = true := by first | (simp [plainName, overriddenIn]; done) | decide +kernel
theorem ef_25 (m : MethodId) (p0 : Int32) (p1 : Int32) : entryFrame m #[(.int p0), (.int p1)] 2 = mkF m 0 #[.val (.int p0), .val (.int p1)] [] := by first | (simp [entryFrame, mkF, argsToLocals, Value.category]; done) | rfl
set_option maxRecDepth 65536 in
set_option maxHeartbeats 40000000 in
theorem rm25 (l : Launch) (Z : State) (a0 : Array Value) (hw : ∀ d ∈ tables_1, d.before a0 Z = true) (ws : List Jvm.Cond) (p0 : Int32) (p1 : Int32)  (h0 : Heap) (n0 : Nat) (Z0 : n0 ≤ h0.size) (hp0 : p0 = (0 : Int32)) (hp1 : p1 = (1 : Int32)) :
    MetFree l (⟨"java/util/Objects", "checkIndex", "(II)I"⟩ : MethodName) (head1 (Jvm.Cond.code (⟨"java/util/Objects", "checkIndex", "(II)I"⟩ : MethodName) jdk_31_method_17_code 2 (some .int) :: ws) ({ frames := 1, cells := 0, slots := 0, locals := 14 } : Room)) (fun a U => a = #[(.int p0), (.int p1)] ∧ Z.Warmed39 U.vm ∧ U.heap = h0) (fun _ _ _ _ _ => True) (fun _ U o U' => ∃ v L, o = .returned v ∧ Q25 Z p0 p1 h0 n0 v U'.heap L ∧ FrameEnd U o U' L ({ frames := 1, cells := 0, slots := 0, locals := 14 } : Room).cells ({ frames := 1, cells := 0, slots := 0, locals := 14 } : Room).slots) := by
  refine MetFree.of_bodySF (plainFor_of_name pn_java_util_Objects) hisR ?_
  intro p e s m args below meth c s₁ Bd hml0 hP hK
  obtain ⟨rfl, hZ, hh⟩ := hP
  have hx := Bd.exec
  have hby := Bd.bytes
  have hml : c.maxLocals = 2 := hml0
  have hown : s.vm.findClass "java/util/Objects" = some m.cls := findClass_of_methodNamed Bd.named
  have hnm := (name_of_methodNamed Bd.named Bd.method).1
  have X0 : Stand p l e ({ frames := 1, cells := 0, slots := 0, locals := 14 } : Room) s m #[(.int p0), (.int p1)] below meth c s₁ [] 0 0 := Stand.of_body Bd
  have e0 : s₁.heap = h0 := by rw [← hh, Bd.state]; rfl
  have N0 := Fr.nil n0
  have pre0 : ∀ t, Steps p.tables e below (s₁.setTop (mkF m 0 (l_1 p0 p1) [])) t → Steps p.tables e below (s₁.setTop (entryFrame m #[(.int p0), (.int p1)] 2)) t := fun t k => castTop (ef_25 m p0 p1) k
  obtain ⟨_, _, ⟨T1, L1, k1, n1⟩, -, X1, ⟨Lc1, hQ1, l1, y1, z1⟩, st1⟩ := Jvm.LawKit.callS X0 hx (y := (⟨"jdk/internal/util/Preconditions", "checkIndex", "(IILjava/util/function/BiFunction;)I"⟩ : MethodName)) hown (mvT hZ (hw _ (tm 179 rfl))) (mvT hZ (hw _ (tm 180 rfl))) (mvT hZ (hw _ (tm 181 rfl))) (mvT hZ (hw _ (tm 182 rfl))) (by decide) (backOf (W := 0) (rm26 l Z a0 hw [] p0 p1  h0 n0 Z0 (by assumption) (by assumption)) hZ (hw _ (tm 182 rfl)) (hw _ (tm 181 rfl)) (by decide) (by decide)) (g := (mkF m 3 (l_1 p0 p1) [.null, (.int p1), (.int p0)])) rfl (by rw [hml]; rfl) (argsL := [(.int p0), (.int p1), .null]) (rest := []) (lenOf pd__28IILjava_2futil_2ffunction_2fBiFunction_3b_29I rfl) rfl (by show 2 * 0 + _ ≤ _; exact Nat.le_of_eq rfl) (hb hby d25_3) (fun _ _ => ⟨rfl, e0, (by decide : 0 + 0 ≤ _), (by decide : 0 + 0 ≤ _)⟩)
  dsimp only [Pt.U, Pt.locs, Pt.cells, Pt.slots] at X1 l1 y1 z1 st1 hQ1
  subst l1 y1 z1
  obtain ⟨rfl, N1q, e1⟩ := hQ1
  have N1 := Fr.app N0 N1q
  obtain ⟨fs, hr, hrun, hended, hW, hsame⟩ := X1.leave (v := some (.int p0)) (fun h => by rw [Bd.returns] at h; cases h)
  refine ⟨_, _, pre0 _ ?_, hrun, hended, _, _, rfl, ?_, ⟨_, rfl⟩, hW, hsame.mono (by decide) (by decide)⟩
  · show Steps _ _ _ (s₁.setTop (mkF m 0 (l_1 p0 p1) [])) _
    refine XS.iloadN X0.here hx rfl (hb hby d25_0) rfl ?_
    show Steps _ _ _ (s₁.setTop (mkF m 1 (l_1 p0 p1) [(.int p0)])) _
    refine XS.iloadN X0.here hx rfl (hb hby d25_1) rfl ?_
    show Steps _ _ _ (s₁.setTop (mkF m 2 (l_1 p0 p1) [(.int p1), (.int p0)])) _
    refine XS.aconstNull X0.here hx rfl (hb hby d25_2) ?_
    show Steps _ _ _ (s₁.setTop (mkF m 3 (l_1 p0 p1) [.null, (.int p1), (.int p0)])) _
    refine st1 _ ?_
    show Steps _ _ _ (T1.setTop (mkF m 6 (l_1 p0 p1) [(.int p0)])) _
    exact retI X1 hx Bd.returns (hb hby d25_6) hr
  · show Q25 Z p0 p1 h0 n0 _ T1.heap _
    rw [e1]
    exact ⟨rfl, N1, rfl⟩
def Q27 (Z : State) (r0 : Addr) (p1 : Int32) (da : Addr) (ka : ClassId) (x : Addr) (h0 : Heap) (n0 : Nat) (v : Option Value) (h : Heap) (L : List Loc) : Prop := v = some (.ref x) ∧ Fr n0 L ∧ h = h0
theorem d27_0 : decode jdk_38_method_18_code 0 = .ok (.aload_n 0, 1) := by decide +kernel
theorem d27_1 : decode jdk_38_method_18_code 1 = .ok (.getfield 9, 3) := by decide +kernel
theorem d27_4 : decode jdk_38_method_18_code 4 = .ok (.iload_n 1, 1) := by decide +kernel
theorem d27_5 : decode jdk_38_method_18_code 5 = .ok (.aaload, 1) := by decide +kernel
theorem d27_6 : decode jdk_38_method_18_code 6 = .ok (.areturn, 1) := by decide +kernel
theorem ef_27 (m : MethodId) (r0 : Addr) (p1 : Int32) : entryFrame m #[(.ref r0), (.int p1)] 2 = mkF m 0 #[.val (.ref r0), .val (.int p1)] [] := by first | (simp [entryFrame, mkF, argsToLocals, Value.category]; done) | rfl
set_option maxRecDepth 65536 in
set_option maxHeartbeats 40000000 in
theorem rm27 (l : Launch) (Z : State) (a0 : Array Value) (hw : ∀ d ∈ tables_1, d.before a0 Z = true) (ws : List Jvm.Cond) (r0 : Addr) (p1 : Int32) (da : Addr) (ka : ClassId) (x : Addr) (h0 : Heap) (n0 : Nat) (Z0 : n0 ≤ h0.size) (Hp0 : Fld Z h0 r0 "java/util/ArrayList" "elementData" "[Ljava/lang/Object;" (.ref da)) (Hp1 : Arv Z h0 da ka (.object "java/lang/Object") (10 : Int32) ((List.replicate 10 Value.null).set 0 (.ref x)) .null) (hp1 : p1 = (0 : Int32)) :
    MetFree l (⟨"java/util/ArrayList", "elementData", "(I)Ljava/lang/Object;"⟩ : MethodName) (head1 (Jvm.Cond.code (⟨"java/util/ArrayList", "elementData", "(I)Ljava/lang/Object;"⟩ : MethodName) jdk_38_method_18_code 2 (some (.object "java/lang/Object")) :: ws) ({ frames := 0, cells := 0, slots := 0, locals := 0 } : Room)) (fun a U => a = #[(.ref r0), (.int p1)] ∧ Z.Warmed39 U.vm ∧ U.heap = h0) (fun _ _ _ _ _ => True) (fun _ U o U' => ∃ v L, o = .returned v ∧ Q27 Z r0 p1 da ka x h0 n0 v U'.heap L ∧ FrameEnd U o U' L ({ frames := 0, cells := 0, slots := 0, locals := 0 } : Room).cells ({ frames := 0, cells := 0, slots := 0, locals := 0 } : Room).slots) := by
  refine MetFree.of_bodySF (plainFor_of_name pn_java_util_ArrayList) hisR ?_
  intro p e s m args below meth c s₁ Bd hml0 hP hK
  obtain ⟨rfl, hZ, hh⟩ := hP
  have hx := Bd.exec
  have hby := Bd.bytes
  have hml : c.maxLocals = 2 := hml0
  have hown : s.vm.findClass "java/util/ArrayList" = some m.cls := findClass_of_methodNamed Bd.named
  have hnm := (name_of_methodNamed Bd.named Bd.method).1
  have X0 : Stand p l e ({ frames := 0, cells := 0, slots := 0, locals := 0 } : Room) s m #[(.ref r0), (.int p1)] below meth c s₁ [] 0 0 := Stand.of_body Bd
  have e0 : s₁.heap = h0 := by rw [← hh, Bd.state]; rfl
  have N0 := Fr.nil n0
  have pre0 : ∀ t, Steps p.tables e below (s₁.setTop (mkF m 0 (l_7 r0 p1) [])) t → Steps p.tables e below (s₁.setTop (entryFrame m #[(.ref r0), (.int p1)] 2)) t := fun t k => castTop (ef_27 m r0 p1) k
  obtain ⟨T1, X1, e1, st1⟩ := getF X0 hx hZ hown (host := "") (Or.inl (hw _ (tm 37 rfl))) Via.refl e0 Hp0 (g := (mkF m 1 (l_7 r0 p1) [(.ref r0)])) rfl rfl (hb hby d27_1)
  obtain ⟨cl2, Ar2, -, S2, -, H2, -⟩ := id Hp1
  have hin2 : ¬ (p1 < 0 ∨ cl2.slots.size ≤ (p1).toNatClampNeg) := inb_of S2 ⟨by rw [hp1]; decide, by rw [hp1]; decide⟩
  have hat2 : cl2.slots[(p1).toNatClampNeg]? = some (.ref x) := Has.at H2 hin2 (by rw [hp1]; rfl)
  obtain ⟨fs, hr, hrun, hended, hW, hsame⟩ := X1.leave (v := some (.ref x)) (fun h => by rw [Bd.returns] at h; cases h)
  refine ⟨_, _, pre0 _ ?_, hrun, hended, _, _, rfl, ?_, ⟨_, rfl⟩, hW, hsame.mono (by decide) (by decide)⟩
  · show Steps _ _ _ (s₁.setTop (mkF m 0 (l_7 r0 p1) [])) _
    refine XS.aloadN X0.here hx rfl (hb hby d27_0) rfl rfl ?_
    show Steps _ _ _ (s₁.setTop (mkF m 1 (l_7 r0 p1) [(.ref r0)])) _
    refine st1 _ ?_
    show Steps _ _ _ (T1.setTop (mkF m 4 (l_7 r0 p1) [(.ref da)])) _
    refine XS.iloadN X1.here hx rfl (hb hby d27_4) rfl ?_
    show Steps _ _ _ (T1.setTop (mkF m 5 (l_7 r0 p1) [(.int p1), (.ref da)])) _
    refine X1.aaload hx (j := p1) (v := (.ref x)) (by rw [e1]; exact Ar2.1) (State.isArrayOf_alike hZ.alike Ar2.2.1) rfl Ar2.2.2 hin2 hat2 (g := (mkF m 5 (l_7 r0 p1) [(.int p1), (.ref da)])) rfl rfl (hb hby d27_5) _ ?_
    show Steps _ _ _ (T1.setTop (mkF m 6 (l_7 r0 p1) [(.ref x)])) _
    exact X1.areturnOut hx rfl Bd.returns rfl (hb hby d27_6) hr
  · show Q27 Z r0 p1 da ka x h0 n0 _ T1.heap _
    rw [e1]
    exact ⟨rfl, N0, rfl⟩
def Q24 (Z : State) (r0 : Addr) (p1 : Int32) (da : Addr) (ka : ClassId) (x : Addr) (h0 : Heap) (n0 : Nat) (v : Option Value) (h : Heap) (L : List Loc) : Prop := v = some (.ref x) ∧ Fr n0 L ∧ h = h0
theorem d24_0 : decode jdk_38_method_20_code 0 = .ok (.iload_n 1, 1) := by decide +kernel
theorem d24_1 : decode jdk_38_method_20_code 1 = .ok (.aload_n 0, 1) := by decide +kernel
theorem d24_2 : decode jdk_38_method_20_code 2 = .ok (.getfield 48, 3) := by decide +kernel
theorem d24_5 : decode jdk_38_method_20_code 5 = .ok (.invokestatic 118, 3) := by decide +kernel
theorem d24_8 : decode jdk_38_method_20_code 8 = .ok (.pop, 1) := by decide +kernel
theorem d24_9 : decode jdk_38_method_20_code 9 = .ok (.aload_n 0, 1) := by decide +kernel
theorem d24_10 : decode jdk_38_method_20_code 10 = .ok (.iload_n 1, 1) := by decide +kernel
theorem d24_11 : decode jdk_38_method_20_code 11 = .ok (.invokevirtual 123, 3) := by decide +kernel
theorem pd__28I_29Ljava_2flang_2fObject_3b : parseMethodDescriptor "(I)Ljava/lang/Object;" = some ⟨[.int], some (.object "java/lang/Object")⟩ := by decide +kernel
theorem d24_14 : decode jdk_38_method_20_code 14 = .ok (.areturn, 1) := by decide +kernel
theorem ef_24 (m : MethodId) (r0 : Addr) (p1 : Int32) : entryFrame m #[(.ref r0), (.int p1)] 2 = mkF m 0 #[.val (.ref r0), .val (.int p1)] [] := by first | (simp [entryFrame, mkF, argsToLocals, Value.category]; done) | rfl
set_option maxRecDepth 65536 in
set_option maxHeartbeats 40000000 in
theorem rm24 (l : Launch) (Z : State) (a0 : Array Value) (hw : ∀ d ∈ tables_1, d.before a0 Z = true) (ws : List Jvm.Cond) (r0 : Addr) (p1 : Int32) (da : Addr) (ka : ClassId) (x : Addr) (h0 : Heap) (n0 : Nat) (Z0 : n0 ≤ h0.size) (Hp0 : Exa Z h0 r0 "java/util/ArrayList") (Hp1 : Fld Z h0 r0 "java/util/ArrayList" "size" "I" (.int (1 : Int32))) (Hp2 : Fld Z h0 r0 "java/util/ArrayList" "elementData" "[Ljava/lang/Object;" (.ref da)) (Hp3 : Arv Z h0 da ka (.object "java/lang/Object") (10 : Int32) ((List.replicate 10 Value.null).set 0 (.ref x)) .null) (hp1 : p1 = (0 : Int32)) :
    MetFree l (⟨"java/util/ArrayList", "get", "(I)Ljava/lang/Object;"⟩ : MethodName) (head1 (Jvm.Cond.code (⟨"java/util/ArrayList", "get", "(I)Ljava/lang/Object;"⟩ : MethodName) jdk_38_method_20_code 2 (some (.object "java/lang/Object")) :: ws) ({ frames := 2, cells := 0, slots := 0, locals := 27 } : Room)) (fun a U => a = #[(.ref r0), (.int p1)] ∧ Z.Warmed39 U.vm ∧ U.heap = h0) (fun _ _ _ _ _ => True) (fun _ U o U' => ∃ v L, o = .returned v ∧ Q24 Z r0 p1 da ka x h0 n0 v U'.heap L ∧ FrameEnd U o U' L ({ frames := 2, cells := 0, slots := 0, locals := 27 } : Room).cells ({ frames := 2, cells := 0, slots := 0, locals := 27 } : Room).slots) := by
  refine MetFree.of_bodySF (plainFor_of_name pn_java_util_ArrayList) hisR ?_
  intro p e s m args below meth c s₁ Bd hml0 hP hK
  obtain ⟨rfl, hZ, hh⟩ := hP
  have hx := Bd.exec
  have hby := Bd.bytes
  have hml : c.maxLocals = 2 := hml0
  have hown : s.vm.findClass "java/util/ArrayList" = some m.cls := findClass_of_methodNamed Bd.named
  have hnm := (name_of_methodNamed Bd.named Bd.method).1
  have X0 : Stand p l e ({ frames := 2, cells := 0, slots := 0, locals := 27 } : Room) s m #[(.ref r0), (.int p1)] below meth c s₁ [] 0 0 := Stand.of_body Bd
  have e0 : s₁.heap = h0 := by rw [← hh, Bd.state]; rfl
  have N0 := Fr.nil n0
  have pre0 : ∀ t, Steps p.tables e below (s₁.setTop (mkF m 0 (l_7 r0 p1) [])) t → Steps p.tables e below (s₁.setTop (entryFrame m #[(.ref r0), (.int p1)] 2)) t := fun t k => castTop (ef_24 m r0 p1) k
  obtain ⟨T1, X1, e1, st1⟩ := getF X0 hx hZ hown (host := "") (Or.inl (hw _ (tm 46 rfl))) Via.refl e0 Hp1 (g := (mkF m 2 (l_7 r0 p1) [(.ref r0), (.int p1)])) rfl rfl (hb hby d24_2)
  obtain ⟨_, _, ⟨T2, L2, k2, n2⟩, -, X2, ⟨Lc2, hQ2, l2, y2, z2⟩, st2⟩ := Jvm.LawKit.callS X1 hx (y := (⟨"java/util/Objects", "checkIndex", "(II)I"⟩ : MethodName)) hown (mvT hZ (hw _ (tm 176 rfl))) (mvT hZ (hw _ (tm 177 rfl))) (mvT hZ (hw _ (tm 125 rfl))) (mvT hZ (hw _ (tm 178 rfl))) (by decide) (backOf (W := 0) (rm25 l Z a0 hw [] p1 (1 : Int32)  h0 n0 Z0 (by assumption) (by decide)) hZ (hw _ (tm 178 rfl)) (hw _ (tm 125 rfl)) (by decide) (by decide)) (g := (mkF m 5 (l_7 r0 p1) [(.int (1 : Int32)), (.int p1)])) rfl (by rw [hml]; rfl) (argsL := [(.int p1), (.int (1 : Int32))]) (rest := []) (lenOf pd__28II_29I rfl) rfl (by show 2 * 0 + _ ≤ _; exact Nat.le_of_eq rfl) (hb hby d24_5) (fun _ _ => ⟨rfl, e1, (by decide : 0 + 0 ≤ _), (by decide : 0 + 0 ≤ _)⟩)
  dsimp only [Pt.U, Pt.locs, Pt.cells, Pt.slots] at X2 l2 y2 z2 st2 hQ2
  subst l2 y2 z2
  obtain ⟨rfl, N2q, e2⟩ := hQ2
  have N2 := Fr.app N0 N2q
  obtain ⟨cq3, kq3, q3a, q3b, q3c⟩ := isOf hZ e2 Hp0
  obtain ⟨_, _, ⟨T3, L3, k3, n3⟩, -, X3, ⟨Lc3, hQ3, l3, y3, z3⟩, st3⟩ := X2.virtualBack hx (y := (⟨"java/util/ArrayList", "elementData", "(I)Ljava/lang/Object;"⟩ : MethodName)) (z := (⟨"java/util/ArrayList", "elementData", "(I)Ljava/lang/Object;"⟩ : MethodName)) hown (mvT hZ (hw _ (tm 183 rfl))) (mvT hZ (hw _ (tm 184 rfl))) (notFace_of_selects (args := #[]) (mvT hZ (hw _ (tm 186 rfl)))) (mvT hZ (hw _ (tm 186 rfl))) (mvT hZ (hw _ (tm 185 rfl))) (by decide) (backOf (W := 0) (rm27 l Z a0 hw [] r0 p1 (da) (ka) (x) h0 n0 Z0 Hp2 Hp3 (by assumption)) hZ (hw _ (tm 187 rfl)) (hw _ (tm 15 rfl)) (by decide) (by decide)) q3a q3c (g := (mkF m 11 (l_7 r0 p1) [(.int p1), (.ref r0)])) rfl (by rw [hml]; rfl) (Steps.refl _) (argsL := [(.int p1)]) (rest := []) (lenOf pd__28I_29Ljava_2flang_2fObject_3b rfl) rfl (by show 2 * 0 + _ ≤ _; exact Nat.le_of_eq rfl) (hb hby d24_11) (fun _ _ => ⟨rfl, e2, (by decide : 0 + 0 ≤ _), (by decide : 0 + 0 ≤ _)⟩)
  dsimp only [Pt.U, Pt.locs, Pt.cells, Pt.slots] at X3 l3 y3 z3 st3 hQ3
  subst l3 y3 z3
  obtain ⟨rfl, N3q, e3⟩ := hQ3
  have N3 := Fr.app N2 N3q
  obtain ⟨fs, hr, hrun, hended, hW, hsame⟩ := X3.leave (v := some (.ref x)) (fun h => by rw [Bd.returns] at h; cases h)
  refine ⟨_, _, pre0 _ ?_, hrun, hended, _, _, rfl, ?_, ⟨_, rfl⟩, hW, hsame.mono (by decide) (by decide)⟩
  · show Steps _ _ _ (s₁.setTop (mkF m 0 (l_7 r0 p1) [])) _
    refine XS.iloadN X0.here hx rfl (hb hby d24_0) rfl ?_
    show Steps _ _ _ (s₁.setTop (mkF m 1 (l_7 r0 p1) [(.int p1)])) _
    refine XS.aloadN X0.here hx rfl (hb hby d24_1) rfl rfl ?_
    show Steps _ _ _ (s₁.setTop (mkF m 2 (l_7 r0 p1) [(.ref r0), (.int p1)])) _
    refine st1 _ ?_
    show Steps _ _ _ (T1.setTop (mkF m 5 (l_7 r0 p1) [(.int (1 : Int32)), (.int p1)])) _
    refine st2 _ ?_
    show Steps _ _ _ (T2.setTop (mkF m 8 (l_7 r0 p1) [(.int p1)])) _
    refine XS.pop X2.here hx rfl (hb hby d24_8) rfl rfl ?_
    show Steps _ _ _ (T2.setTop (mkF m 9 (l_7 r0 p1) [])) _
    refine XS.aloadN X2.here hx rfl (hb hby d24_9) rfl rfl ?_
    show Steps _ _ _ (T2.setTop (mkF m 10 (l_7 r0 p1) [(.ref r0)])) _
    refine XS.iloadN X2.here hx rfl (hb hby d24_10) rfl ?_
    show Steps _ _ _ (T2.setTop (mkF m 11 (l_7 r0 p1) [(.int p1), (.ref r0)])) _
    refine st3.trans ?_
    show Steps _ _ _ (T3.setTop (mkF m 14 (l_7 r0 p1) [(.ref x)])) _
    exact X3.areturnOut hx rfl Bd.returns rfl (hb hby d24_14) hr
  · show Q24 Z r0 p1 da ka x h0 n0 _ T3.heap _
    rw [e3]
    exact ⟨rfl, N3, rfl⟩
def Q22 (Z : State) (r0 : Addr) (da : Addr) (ka : ClassId) (x : Addr) (h0 : Heap) (n0 : Nat) (v : Option Value) (h : Heap) (L : List Loc) : Prop := v = some (.ref x) ∧ Fr n0 L ∧ h = h0
theorem d22_0 : decode prog_49_method_6_code 0 = .ok (.aload_n 0, 1) := by decide +kernel
theorem d22_1 : decode prog_49_method_6_code 1 = .ok (.invokeinterface 27 1, 5) := by decide +kernel
theorem pd__28_29I : parseMethodDescriptor "()I" = some ⟨[], some .int⟩ := by decide +kernel
theorem d22_6 : decode prog_49_method_6_code 6 = .ok (.iconst 1, 1) := by decide +kernel
theorem d22_7 : decode prog_49_method_6_code 7 = .ok (.if_icmp .ne 16, 3) := by decide +kernel
theorem d22_10 : decode prog_49_method_6_code 10 = .ok (.aload_n 0, 1) := by decide +kernel
theorem d22_11 : decode prog_49_method_6_code 11 = .ok (.iconst 0, 1) := by decide +kernel
theorem d22_12 : decode prog_49_method_6_code 12 = .ok (.invokeinterface 33 2, 5) := by decide +kernel
theorem d22_17 : decode prog_49_method_6_code 17 = .ok (.checkcast 37, 3) := by decide +kernel
theorem d22_20 : decode prog_49_method_6_code 20 = .ok (.goto 6, 3) := by decide +kernel
theorem d22_26 : decode prog_49_method_6_code 26 = .ok (.areturn, 1) := by decide +kernel
theorem pn_com_example_onesnap_onesnap_node_TransactionTracker : plainName "com/example/onesnap/onesnap/node/TransactionTracker" = true := by first | (simp [plainName, overriddenIn]; done) | decide +kernel
theorem ef_22 (m : MethodId) (r0 : Addr) : entryFrame m #[(.ref r0)] 1 = mkF m 0 #[.val (.ref r0)] [] := by first | (simp [entryFrame, mkF, argsToLocals, Value.category]; done) | rfl
set_option maxRecDepth 65536 in
set_option maxHeartbeats 40000000 in
theorem rm22 (l : Launch) (Z : State) (a0 : Array Value) (hw : ∀ d ∈ tables_1, d.before a0 Z = true) (ws : List Jvm.Cond) (r0 : Addr) (da : Addr) (ka : ClassId) (x : Addr) (h0 : Heap) (n0 : Nat) (Z0 : n0 ≤ h0.size) (Hp0 : Exa Z h0 r0 "java/util/ArrayList") (Hp1 : Fld Z h0 r0 "java/util/ArrayList" "size" "I" (.int (1 : Int32))) (Hp2 : Fld Z h0 r0 "java/util/ArrayList" "elementData" "[Ljava/lang/Object;" (.ref da)) (Hp3 : Arv Z h0 da ka (.object "java/lang/Object") (10 : Int32) ((List.replicate 10 Value.null).set 0 (.ref x)) .null) (Hp4 : Exa Z h0 x "com/example/onesnap/onesnap/node/StatementKind") :
    MetFree l (⟨"com/example/onesnap/onesnap/node/TransactionTracker", "parsedKind", "(Ljava/util/List;)Lcom/example/onesnap/onesnap/node/StatementKind;"⟩ : MethodName) (head1 (Jvm.Cond.code (⟨"com/example/onesnap/onesnap/node/TransactionTracker", "parsedKind", "(Ljava/util/List;)Lcom/example/onesnap/onesnap/node/StatementKind;"⟩ : MethodName) prog_49_method_6_code 1 (some (.object "com/example/onesnap/onesnap/node/StatementKind")) :: ws) ({ frames := 3, cells := 0, slots := 0, locals := 40 } : Room)) (fun a U => a = #[(.ref r0)] ∧ Z.Warmed39 U.vm ∧ U.heap = h0) (fun _ _ _ _ _ => True) (fun _ U o U' => ∃ v L, o = .returned v ∧ Q22 Z r0 da ka x h0 n0 v U'.heap L ∧ FrameEnd U o U' L ({ frames := 3, cells := 0, slots := 0, locals := 40 } : Room).cells ({ frames := 3, cells := 0, slots := 0, locals := 40 } : Room).slots) := by
  refine MetFree.of_bodySF (plainFor_of_name pn_com_example_onesnap_onesnap_node_TransactionTracker) hisR ?_
  intro p e s m args below meth c s₁ Bd hml0 hP hK
  obtain ⟨rfl, hZ, hh⟩ := hP
  have hx := Bd.exec
  have hby := Bd.bytes
  have hml : c.maxLocals = 1 := hml0
  have hown : s.vm.findClass "com/example/onesnap/onesnap/node/TransactionTracker" = some m.cls := findClass_of_methodNamed Bd.named
  have hnm := (name_of_methodNamed Bd.named Bd.method).1
  have X0 : Stand p l e ({ frames := 3, cells := 0, slots := 0, locals := 40 } : Room) s m #[(.ref r0)] below meth c s₁ [] 0 0 := Stand.of_body Bd
  have e0 : s₁.heap = h0 := by rw [← hh, Bd.state]; rfl
  have N0 := Fr.nil n0
  have pre0 : ∀ t, Steps p.tables e below (s₁.setTop (mkF m 0 #[.val (.ref r0)] [])) t → Steps p.tables e below (s₁.setTop (entryFrame m #[(.ref r0)] 1)) t := fun t k => castTop (ef_22 m r0) k
  obtain ⟨cq1, kq1, q1a, q1b, q1c⟩ := isOf hZ e0 Hp0
  obtain ⟨_, _, ⟨T1, L1, k1, n1⟩, -, X1, ⟨Lc1, hQ1, l1, y1, z1⟩, st1⟩ := X0.interfaceBack hx (xi := (⟨"java/util/List", "size", "()I"⟩ : MethodName)) (y := (⟨"java/util/ArrayList", "size", "()I"⟩ : MethodName)) hown (mvT hZ (hw _ (tm 159 rfl))) (mvT hZ (hw _ (tm 160 rfl))) (mvT hZ (hw _ (tm 161 rfl))) (mvT hZ (hw _ (tm 162 rfl))) (mvT hZ (hw _ (tm 163 rfl))) (mvT hZ (hw _ (tm 164 rfl))) (mvT hZ (hw _ (tm 165 rfl))) (mvT hZ (hw _ (tm 166 rfl))) (by decide) (backOf (W := 0) (rm23 l Z a0 hw [] r0  h0 n0 Z0 Hp1) hZ (hw _ (tm 167 rfl)) (hw _ (tm 15 rfl)) (by decide) (by decide)) q1a q1b q1c (g := (mkF m 1 #[.val (.ref r0)] [(.ref r0)])) rfl (by rw [hml]; rfl) (Steps.refl _) (argsL := []) (rest := []) (lenOf pd__28_29I rfl) rfl (by show 2 * 0 + _ ≤ _; exact Nat.le_of_eq rfl) (hb hby d22_1) (fun _ _ => ⟨rfl, e0, (by decide : 0 + 0 ≤ _), (by decide : 0 + 0 ≤ _)⟩)
  dsimp only [Pt.U, Pt.locs, Pt.cells, Pt.slots] at X1 l1 y1 z1 st1 hQ1
  subst l1 y1 z1
  obtain ⟨rfl, N1q, e1⟩ := hQ1
  have N1 := Fr.app N0 N1q
  obtain ⟨cq2, kq2, q2a, q2b, q2c⟩ := isOf hZ e1 Hp0
  obtain ⟨_, _, ⟨T2, L2, k2, n2⟩, -, X2, ⟨Lc2, hQ2, l2, y2, z2⟩, st2⟩ := X1.interfaceBack hx (xi := (⟨"java/util/List", "get", "(I)Ljava/lang/Object;"⟩ : MethodName)) (y := (⟨"java/util/ArrayList", "get", "(I)Ljava/lang/Object;"⟩ : MethodName)) hown (mvT hZ (hw _ (tm 168 rfl))) (mvT hZ (hw _ (tm 169 rfl))) (mvT hZ (hw _ (tm 170 rfl))) (mvT hZ (hw _ (tm 171 rfl))) (mvT hZ (hw _ (tm 172 rfl))) (mvT hZ (hw _ (tm 173 rfl))) (mvT hZ (hw _ (tm 174 rfl))) (mvT hZ (hw _ (tm 166 rfl))) (by decide) (backOf (W := 0) (rm24 l Z a0 hw [] r0 (0 : Int32) (da) (ka) (x) h0 n0 Z0 Hp0 Hp1 Hp2 Hp3 (by decide)) hZ (hw _ (tm 175 rfl)) (hw _ (tm 15 rfl)) (by decide) (by decide)) q2a q2b q2c (g := (mkF m 12 #[.val (.ref r0)] [(.int (0 : Int32)), (.ref r0)])) rfl (by rw [hml]; rfl) (Steps.refl _) (argsL := [(.int (0 : Int32))]) (rest := []) (lenOf pd__28I_29Ljava_2flang_2fObject_3b rfl) rfl (by show 2 * 0 + _ ≤ _; exact Nat.le_of_eq rfl) (hb hby d22_12) (fun _ _ => ⟨rfl, e1, (by decide : 0 + 0 ≤ _), (by decide : 0 + 0 ≤ _)⟩)
  dsimp only [Pt.U, Pt.locs, Pt.cells, Pt.slots] at X2 l2 y2 z2 st2 hQ2
  subst l2 y2 z2
  obtain ⟨rfl, N2q, e2⟩ := hQ2
  have N2 := Fr.app N1 N2q
  obtain ⟨T3, X3, e3, st3⟩ := castY X2 hx hZ hown (hw _ (tm 188 rfl)) e2 (Ins.self Hp4) (g := (mkF m 17 #[.val (.ref r0)] [(.ref x)])) rfl rfl (hb hby d22_17)
  obtain ⟨fs, hr, hrun, hended, hW, hsame⟩ := X3.leave (v := some (.ref x)) (fun h => by rw [Bd.returns] at h; cases h)
  refine ⟨_, _, pre0 _ ?_, hrun, hended, _, _, rfl, ?_, ⟨_, rfl⟩, hW, hsame.mono (by decide) (by decide)⟩
  · show Steps _ _ _ (s₁.setTop (mkF m 0 #[.val (.ref r0)] [])) _
    refine XS.aloadN X0.here hx rfl (hb hby d22_0) rfl rfl ?_
    show Steps _ _ _ (s₁.setTop (mkF m 1 #[.val (.ref r0)] [(.ref r0)])) _
    refine st1.trans ?_
    show Steps _ _ _ (T1.setTop (mkF m 6 #[.val (.ref r0)] [(.int (1 : Int32))])) _
    refine XS.iconst X1.here hx rfl (hb hby d22_6) ?_
    show Steps _ _ _ (T1.setTop (mkF m 7 #[.val (.ref r0)] [(.int (1 : Int32)), (.int (1 : Int32))])) _
    refine XS.icmpNo X1.here hx rfl (hb hby d22_7) rfl (teq (rfl : (1 : Int32) = (1 : Int32))).2 ?_
    show Steps _ _ _ (T1.setTop (mkF m 10 #[.val (.ref r0)] [])) _
    refine XS.aloadN X1.here hx rfl (hb hby d22_10) rfl rfl ?_
    show Steps _ _ _ (T1.setTop (mkF m 11 #[.val (.ref r0)] [(.ref r0)])) _
    refine XS.iconst X1.here hx rfl (hb hby d22_11) ?_
    show Steps _ _ _ (T1.setTop (mkF m 12 #[.val (.ref r0)] [(.int (0 : Int32)), (.ref r0)])) _
    refine st2.trans ?_
    show Steps _ _ _ (T2.setTop (mkF m 17 #[.val (.ref r0)] [(.ref x)])) _
    refine st3 _ ?_
    show Steps _ _ _ (T3.setTop (mkF m 20 #[.val (.ref r0)] [(.ref x)])) _
    refine XS.goto X3.here hx rfl (pc0 := 20) (pc' := 26) rfl (hb hby d22_20) (by decide) (by decide) ?_
    show Steps _ _ _ (T3.setTop (mkF m 26 #[.val (.ref r0)] [(.ref x)])) _
    exact X3.areturnOut hx rfl Bd.returns rfl (hb hby d22_26) hr
  · show Q22 Z r0 da ka x h0 n0 _ T3.heap _
    rw [e3]
    exact ⟨rfl, N2, rfl⟩
def Q19 (Z : State) (r0 : Addr) (h0 : Heap) (n0 : Nat) (v : Option Value) (h : Heap) (L : List Loc) : Prop := v = some (.ref r0) ∧ Fr n0 L ∧ h = h0
theorem d19_0 : decode jdk_31_method_10_code 0 = .ok (.aload_n 0, 1) := by decide +kernel
theorem d19_1 : decode jdk_31_method_10_code 1 = .ok (.ifnonnull 11, 3) := by decide +kernel
theorem d19_12 : decode jdk_31_method_10_code 12 = .ok (.aload_n 0, 1) := by decide +kernel
theorem d19_13 : decode jdk_31_method_10_code 13 = .ok (.areturn, 1) := by decide +kernel
theorem ef_19 (m : MethodId) (r0 : Addr) : entryFrame m #[(.ref r0)] 1 = mkF m 0 #[.val (.ref r0)] [] := by first | (simp [entryFrame, mkF, argsToLocals, Value.category]; done) | rfl
set_option maxRecDepth 65536 in
set_option maxHeartbeats 40000000 in
theorem rm19 (l : Launch) (Z : State) (a0 : Array Value) (hw : ∀ d ∈ tables_1, d.before a0 Z = true) (ws : List Jvm.Cond) (r0 : Addr)  (h0 : Heap) (n0 : Nat) (Z0 : n0 ≤ h0.size)  :
    MetFree l (⟨"java/util/Objects", "requireNonNull", "(Ljava/lang/Object;)Ljava/lang/Object;"⟩ : MethodName) (head1 (Jvm.Cond.code (⟨"java/util/Objects", "requireNonNull", "(Ljava/lang/Object;)Ljava/lang/Object;"⟩ : MethodName) jdk_31_method_10_code 1 (some (.object "java/lang/Object")) :: ws) ({ frames := 0, cells := 0, slots := 0, locals := 0 } : Room)) (fun a U => a = #[(.ref r0)] ∧ Z.Warmed39 U.vm ∧ U.heap = h0) (fun _ _ _ _ _ => True) (fun _ U o U' => ∃ v L, o = .returned v ∧ Q19 Z r0 h0 n0 v U'.heap L ∧ FrameEnd U o U' L ({ frames := 0, cells := 0, slots := 0, locals := 0 } : Room).cells ({ frames := 0, cells := 0, slots := 0, locals := 0 } : Room).slots) := by
  refine MetFree.of_bodySF (plainFor_of_name pn_java_util_Objects) hisR ?_
  intro p e s m args below meth c s₁ Bd hml0 hP hK
  obtain ⟨rfl, hZ, hh⟩ := hP
  have hx := Bd.exec
  have hby := Bd.bytes
  have hml : c.maxLocals = 1 := hml0
  have hown : s.vm.findClass "java/util/Objects" = some m.cls := findClass_of_methodNamed Bd.named
  have hnm := (name_of_methodNamed Bd.named Bd.method).1
  have X0 : Stand p l e ({ frames := 0, cells := 0, slots := 0, locals := 0 } : Room) s m #[(.ref r0)] below meth c s₁ [] 0 0 := Stand.of_body Bd
  have e0 : s₁.heap = h0 := by rw [← hh, Bd.state]; rfl
  have N0 := Fr.nil n0
  have pre0 : ∀ t, Steps p.tables e below (s₁.setTop (mkF m 0 #[.val (.ref r0)] [])) t → Steps p.tables e below (s₁.setTop (entryFrame m #[(.ref r0)] 1)) t := fun t k => castTop (ef_19 m r0) k
  obtain ⟨fs, hr, hrun, hended, hW, hsame⟩ := X0.leave (v := some (.ref r0)) (fun h => by rw [Bd.returns] at h; cases h)
  refine ⟨_, _, pre0 _ ?_, hrun, hended, _, _, rfl, ?_, ⟨_, rfl⟩, hW, hsame.mono (by decide) (by decide)⟩
  · show Steps _ _ _ (s₁.setTop (mkF m 0 #[.val (.ref r0)] [])) _
    refine XS.aloadN X0.here hx rfl (hb hby d19_0) rfl rfl ?_
    show Steps _ _ _ (s₁.setTop (mkF m 1 #[.val (.ref r0)] [(.ref r0)])) _
    refine XS.ifnonnullYes X0.here hx rfl (pc0 := 1) (pc' := 12) rfl (hb hby d19_1) rfl (by decide) (by decide) ?_
    show Steps _ _ _ (s₁.setTop (mkF m 12 #[.val (.ref r0)] [])) _
    refine XS.aloadN X0.here hx rfl (hb hby d19_12) rfl rfl ?_
    show Steps _ _ _ (s₁.setTop (mkF m 13 #[.val (.ref r0)] [(.ref r0)])) _
    exact X0.areturnOut hx rfl Bd.returns rfl (hb hby d19_13) hr
  · show Q19 Z r0 h0 n0 _ s₁.heap _
    rw [e0]
    exact ⟨rfl, N0, rfl⟩
def Q21 (Z : State) (r0 : Addr) (p1 : Int32) (p2 : Int32) (kb : ClassId) (b : Int32) (h0 : Heap) (n0 : Nat) (v : Option Value) (h : Heap) (L : List Loc) : Prop := ∃ v1 : Addr, v = some (.ref v1) ∧ Fr n0 L ∧ Keep h0 h [] ∧ h0.size ≤ v1 ∧ Arv Z h v1 kb .byte (1 : Int32) [(.int b)] (.int (0 : Int32))
theorem d21_0 : decode jdk_65_method_132_code 0 = .ok (.iload_n 1, 1) := by decide +kernel
theorem d21_1 : decode jdk_65_method_132_code 1 = .ok (.ifCond .ne 9, 3) := by decide +kernel
theorem d21_4 : decode jdk_65_method_132_code 4 = .ok (.iload_n 2, 1) := by decide +kernel
theorem d21_5 : decode jdk_65_method_132_code 5 = .ok (.aload_n 0, 1) := by decide +kernel
theorem d21_6 : decode jdk_65_method_132_code 6 = .ok (.arraylength, 1) := by decide +kernel
theorem d21_7 : decode jdk_65_method_132_code 7 = .ok (.if_icmp .eq 10, 3) := by decide +kernel
theorem d21_17 : decode jdk_65_method_132_code 17 = .ok (.aload_n 0, 1) := by decide +kernel
theorem d21_18 : decode jdk_65_method_132_code 18 = .ok (.invokevirtual 310, 3) := by decide +kernel
theorem d21_21 : decode jdk_65_method_132_code 21 = .ok (.checkcast 311, 3) := by decide +kernel
theorem d21_24 : decode jdk_65_method_132_code 24 = .ok (.areturn, 1) := by decide +kernel
theorem pn_java_util_Arrays : plainName "java/util/Arrays" = true := by first | (simp [plainName, overriddenIn]; done) | decide +kernel
theorem ef_21 (m : MethodId) (r0 : Addr) (p1 : Int32) (p2 : Int32) : entryFrame m #[(.ref r0), (.int p1), (.int p2)] 3 = mkF m 0 #[.val (.ref r0), .val (.int p1), .val (.int p2)] [] := by first | (simp [entryFrame, mkF, argsToLocals, Value.category]; done) | rfl
set_option maxRecDepth 65536 in
set_option maxHeartbeats 40000000 in
theorem rm21 (l : Launch) (Z : State) (a0 : Array Value) (hw : ∀ d ∈ tables_1, d.before a0 Z = true) (ws : List Jvm.Cond) (r0 : Addr) (p1 : Int32) (p2 : Int32) (kb : ClassId) (b : Int32) (h0 : Heap) (n0 : Nat) (Z0 : n0 ≤ h0.size) (Hp0 : Arv Z h0 r0 kb .byte (1 : Int32) [(.int b)] (.int (0 : Int32))) (Hp1 : Exa Z h0 r0 "[B") (hp1 : p1 = (0 : Int32)) (hp2 : p2 = (1 : Int32)) :
    MetFree l (⟨"java/util/Arrays", "copyOfRange", "([BII)[B"⟩ : MethodName) (head1 (Jvm.Cond.code (⟨"java/util/Arrays", "copyOfRange", "([BII)[B"⟩ : MethodName) jdk_65_method_132_code 3 (some (.array .byte)) :: ws) ({ frames := 1, cells := 1, slots := 1, locals := 14 } : Room)) (fun a U => a = #[(.ref r0), (.int p1), (.int p2)] ∧ Z.Warmed39 U.vm ∧ U.heap = h0) (fun _ _ _ _ _ => True) (fun _ U o U' => ∃ v L, o = .returned v ∧ Q21 Z r0 p1 p2 kb b h0 n0 v U'.heap L ∧ FrameEnd U o U' L ({ frames := 1, cells := 1, slots := 1, locals := 14 } : Room).cells ({ frames := 1, cells := 1, slots := 1, locals := 14 } : Room).slots) := by
  refine MetFree.of_bodySF (plainFor_of_name pn_java_util_Arrays) hisR ?_
  intro p e s m args below meth c s₁ Bd hml0 hP hK
  obtain ⟨rfl, hZ, hh⟩ := hP
  have hx := Bd.exec
  have hby := Bd.bytes
  have hml : c.maxLocals = 3 := hml0
  have hown : s.vm.findClass "java/util/Arrays" = some m.cls := findClass_of_methodNamed Bd.named
  have hnm := (name_of_methodNamed Bd.named Bd.method).1
  have X0 : Stand p l e ({ frames := 1, cells := 1, slots := 1, locals := 14 } : Room) s m #[(.ref r0), (.int p1), (.int p2)] below meth c s₁ [] 0 0 := Stand.of_body Bd
  have e0 : s₁.heap = h0 := by rw [← hh, Bd.state]; rfl
  have N0 := Fr.nil n0
  have pre0 : ∀ t, Steps p.tables e below (s₁.setTop (mkF m 0 (l_8 r0 p1 p2) [])) t → Steps p.tables e below (s₁.setTop (entryFrame m #[(.ref r0), (.int p1), (.int p2)] 3)) t := fun t k => castTop (ef_21 m r0 p1 p2) k
  obtain ⟨cl1, Ar1, -, S1, Nn1, -, -⟩ := id Hp0
  obtain ⟨cl2, Ar2, q2, S2, Nn2, H2, G2⟩ := id Hp0
  obtain ⟨T3, h3, X3, e3, E3, A3, Exb3, st3⟩ := cloneA X0 hx hZ hown (hw _ (tm 143 rfl)) (hw _ (tm 144 rfl)) (hw _ (tm 148 rfl)) (hw _ (tm 146 rfl)) (hw _ (tm 147 rfl)) (hw _ (tm 149 rfl)) e0 Ar2 Hp1 (fitC_of Ar2 fun i hi v hv => by rw [H2 i hi] at hv; cases hv; exact G2 i hi) (g := (mkF m 18 (l_8 r0 p1 p2) [(.ref r0)])) rfl (by rw [hml]; rfl) rfl (hb hby d21_18) (by decide) (W := 0) (cap := 1) (by show 2 * 0 + _ ≤ _; exact Nat.le_of_eq rfl) (by decide) (by rw [S2]; decide) (by decide) (by decide)
  obtain ⟨b3, g3⟩ : ∃ z, z = h0.size := ⟨_, rfl⟩
  rw [← g3] at A3 st3 Exb3
  have g_b3 : n0 ≤ b3 := Nat.le_trans Z0 (Nat.le_of_eq g3.symm)
  have sz_b3 : h0.size ≤ b3 := Nat.le_trans (Keep.refl h0 []).1 (Nat.le_of_eq g3.symm)
  have ne_r0_b3 : r0 ≠ b3 := Nat.ne_of_lt (Nat.lt_of_lt_of_le Hp0.lt (Nat.le_of_eq g3.symm))
  have V_b3 : Arv Z h3 b3 kb .byte (1 : Int32) [(.int b)] (.int (0 : Int32)) := ⟨cloneOf cl2, A3, q2, S2, Nn2, H2, G2⟩
  obtain ⟨T4, X4, e4, st4⟩ := castY X3 hx hZ hown (hw _ (tm 150 rfl)) e3 (Ins.self Exb3) (g := (mkF m 21 (l_8 r0 p1 p2) [(.ref b3)])) rfl rfl (hb hby d21_21)
  have Kp5 := ((Keep.refl h0 []).ext E3)
  obtain ⟨fs, hr, hrun, hended, hW, hsame⟩ := X4.leave (v := some (.ref b3)) (fun h => by rw [Bd.returns] at h; cases h)
  refine ⟨_, _, pre0 _ ?_, hrun, hended, _, _, rfl, ?_, ⟨_, rfl⟩, hW, hsame.mono (by decide) (by decide)⟩
  · show Steps _ _ _ (s₁.setTop (mkF m 0 (l_8 r0 p1 p2) [])) _
    refine XS.iloadN X0.here hx rfl (hb hby d21_0) rfl ?_
    show Steps _ _ _ (s₁.setTop (mkF m 1 (l_8 r0 p1 p2) [(.int p1)])) _
    refine XS.ifNo X0.here hx rfl (hb hby d21_1) rfl ((if0 _ _).trans (teq hp1).2) ?_
    show Steps _ _ _ (s₁.setTop (mkF m 4 (l_8 r0 p1 p2) [])) _
    refine XS.iloadN X0.here hx rfl (hb hby d21_4) rfl ?_
    show Steps _ _ _ (s₁.setTop (mkF m 5 (l_8 r0 p1 p2) [(.int p2)])) _
    refine XS.aloadN X0.here hx rfl (hb hby d21_5) rfl rfl ?_
    show Steps _ _ _ (s₁.setTop (mkF m 6 (l_8 r0 p1 p2) [(.ref r0), (.int p2)])) _
    refine X0.arraylength hx (by rw [e0]; exact Ar1.1) (State.isArrayOf_alike hZ.alike Ar1.2.1) (g := (mkF m 6 (l_8 r0 p1 p2) [(.ref r0), (.int p2)])) rfl rfl (hb hby d21_6) _ ?_
    rw [len_of S1 Nn1]
    show Steps _ _ _ (s₁.setTop (mkF m 7 (l_8 r0 p1 p2) [(.int (1 : Int32)), (.int p2)])) _
    refine XS.icmpYes X0.here hx rfl (pc0 := 7) (pc' := 17) rfl (hb hby d21_7) rfl (teq hp2).1 (by decide) (by decide) ?_
    show Steps _ _ _ (s₁.setTop (mkF m 17 (l_8 r0 p1 p2) [])) _
    refine XS.aloadN X0.here hx rfl (hb hby d21_17) rfl rfl ?_
    show Steps _ _ _ (s₁.setTop (mkF m 18 (l_8 r0 p1 p2) [(.ref r0)])) _
    refine st3 _ ?_
    show Steps _ _ _ (T3.setTop (mkF m 21 (l_8 r0 p1 p2) [(.ref b3)])) _
    refine st4 _ ?_
    show Steps _ _ _ (T4.setTop (mkF m 24 (l_8 r0 p1 p2) [(.ref b3)])) _
    exact X4.areturnOut hx rfl Bd.returns rfl (hb hby d21_24) hr
  · show Q21 Z r0 p1 p2 kb b h0 n0 _ T4.heap _
    rw [e4]
    exact ⟨b3, rfl, N0, Kp5, sz_b3, V_b3⟩
def Q20 (Z : State) (r0 : Addr) (r1 : Addr) (r2 : Addr) (p3 : Int32) (p4 : Int32) (kb : ClassId) (b : Int32) (utf : Addr) (cs : Int32) (h0 : Heap) (n0 : Nat) (v : Option Value) (h : Heap) (L : List Loc) : Prop := ∃ v1 : Addr, v = none ∧ Fr n0 L ∧ Keep h0 h [r0] ∧ h0.size ≤ v1 ∧ Exa Z h r0 "java/lang/String" ∧ Fld Z h r0 "java/lang/String" "value" "[B" (.ref v1) ∧ Fld Z h r0 "java/lang/String" "coder" "B" (.int (0 : Int32)) ∧ Fld Z h r0 "java/lang/String" "hash" "I" (.int (0 : Int32)) ∧ Fld Z h r0 "java/lang/String" "hashIsZero" "Z" (.int (0 : Int32)) ∧ Arv Z h v1 kb .byte (1 : Int32) [(.int b)] (.int (0 : Int32))
theorem d20_0 : decode jdk_42_method_11_code 0 = .ok (.aload_n 0, 1) := by decide +kernel
theorem d20_1 : decode jdk_42_method_11_code 1 = .ok (.invokespecial 1, 3) := by decide +kernel
theorem d20_4 : decode jdk_42_method_11_code 4 = .ok (.iload 4, 2) := by decide +kernel
theorem d20_6 : decode jdk_42_method_11_code 6 = .ok (.ifCond .ne 24, 3) := by decide +kernel
theorem d20_30 : decode jdk_42_method_11_code 30 = .ok (.aload_n 1, 1) := by decide +kernel
theorem d20_31 : decode jdk_42_method_11_code 31 = .ok (.getstatic 86, 3) := by decide +kernel
theorem d20_34 : decode jdk_42_method_11_code 34 = .ok (.if_acmp .ne 312, 3) := by decide +kernel
theorem d20_346 : decode jdk_42_method_11_code 346 = .ok (.aload_n 1, 1) := by decide +kernel
theorem d20_347 : decode jdk_42_method_11_code 347 = .ok (.getstatic 116, 3) := by decide +kernel
theorem d20_350 : decode jdk_42_method_11_code 350 = .ok (.if_acmp .ne 49, 3) := by decide +kernel
theorem d20_353 : decode jdk_42_method_11_code 353 = .ok (.getstatic 38, 3) := by decide +kernel
theorem d20_356 : decode jdk_42_method_11_code 356 = .ok (.ifCond .eq 24, 3) := by decide +kernel
theorem d20_359 : decode jdk_42_method_11_code 359 = .ok (.aload_n 0, 1) := by decide +kernel
theorem d20_360 : decode jdk_42_method_11_code 360 = .ok (.aload_n 2, 1) := by decide +kernel
theorem d20_361 : decode jdk_42_method_11_code 361 = .ok (.iload_n 3, 1) := by decide +kernel
theorem d20_362 : decode jdk_42_method_11_code 362 = .ok (.iload_n 3, 1) := by decide +kernel
theorem d20_363 : decode jdk_42_method_11_code 363 = .ok (.iload 4, 2) := by decide +kernel
theorem d20_365 : decode jdk_42_method_11_code 365 = .ok (.iadd, 1) := by decide +kernel
theorem d20_366 : decode jdk_42_method_11_code 366 = .ok (.invokestatic 54, 3) := by decide +kernel
theorem pd__28_5bBII_29_5bB : parseMethodDescriptor "([BII)[B" = some ⟨[(.array .byte), .int, .int], some (.array .byte)⟩ := by decide +kernel
theorem d20_369 : decode jdk_42_method_11_code 369 = .ok (.putfield 9, 3) := by decide +kernel
theorem d20_372 : decode jdk_42_method_11_code 372 = .ok (.aload_n 0, 1) := by decide +kernel
theorem d20_373 : decode jdk_42_method_11_code 373 = .ok (.iconst 0, 1) := by decide +kernel
theorem d20_374 : decode jdk_42_method_11_code 374 = .ok (.putfield 15, 3) := by decide +kernel
theorem d20_377 : decode jdk_42_method_11_code 377 = .ok (.goto 502, 3) := by decide +kernel
theorem d20_879 : decode jdk_42_method_11_code 879 = .ok (.return_, 1) := by decide +kernel
theorem pn_java_lang_String : plainName "java/lang/String" = true := by first | (simp [plainName, overriddenIn]; done) | decide +kernel
theorem ef_20 (m : MethodId) (r0 : Addr) (r1 : Addr) (r2 : Addr) (p3 : Int32) (p4 : Int32) : entryFrame m #[(.ref r0), (.ref r1), (.ref r2), (.int p3), (.int p4)] 11 = mkF m 0 #[.val (.ref r0), .val (.ref r1), .val (.ref r2), .val (.int p3), .val (.int p4), .unset, .unset, .unset, .unset, .unset, .unset] [] := by first | (simp [entryFrame, mkF, argsToLocals, Value.category]; done) | rfl
set_option maxRecDepth 65536 in
set_option maxHeartbeats 40000000 in
theorem rm20 (l : Launch) (Z : State) (a0 : Array Value) (hw : ∀ d ∈ tables_1, d.before a0 Z = true) (ws : List Jvm.Cond) (r0 : Addr) (r1 : Addr) (r2 : Addr) (p3 : Int32) (p4 : Int32) (kb : ClassId) (b : Int32) (utf : Addr) (cs : Int32) (h0 : Heap) (n0 : Nat) (Z0 : n0 ≤ h0.size) (Hp0 : Exa Z h0 r0 "java/lang/String") (Hp1 : Fld Z h0 r0 "java/lang/String" "value" "[B" .null) (Hp2 : Fld Z h0 r0 "java/lang/String" "coder" "B" (.int (0 : Int32))) (Hp3 : Fld Z h0 r0 "java/lang/String" "hash" "I" (.int (0 : Int32))) (Hp4 : Fld Z h0 r0 "java/lang/String" "hashIsZero" "Z" (.int (0 : Int32))) (Hp5 : Arv Z h0 r2 kb .byte (1 : Int32) [(.int b)] (.int (0 : Int32))) (Hp6 : Exa Z h0 r2 "[B") (Hp7 : Old Z n0 h0) (Hp8 : Sta Z Z.heap "sun/nio/cs/UTF_8" "INSTANCE" "Lsun/nio/cs/UTF_8;" (.ref utf)) (Hp9 : Sta Z Z.heap "sun/nio/cs/ISO_8859_1" "INSTANCE" "Lsun/nio/cs/ISO_8859_1;" (.ref r1)) (Hp10 : Sta Z Z.heap "java/lang/String" "COMPACT_STRINGS" "Z" (.int cs)) (hcs : ¬ cs = (0 : Int32)) (hne : ¬ r1 = utf) (hp3 : p3 = (0 : Int32)) (hp4 : p4 = (1 : Int32)) (Hp15 : n0 ≤ r0) (Hp16 : r2 ≠ r0) :
    MetFree l (⟨"java/lang/String", "<init>", "(Ljava/nio/charset/Charset;[BII)V"⟩ : MethodName) (head1 (Jvm.Cond.codeWith (⟨"java/lang/String", "<init>", "(Ljava/nio/charset/Charset;[BII)V"⟩ : MethodName) jdk_42_method_11_code 11 none [(800, 813, 816, 202)] :: ws) ({ frames := 2, cells := 1, slots := 1, locals := 29 } : Room)) (fun a U => a = #[(.ref r0), (.ref r1), (.ref r2), (.int p3), (.int p4)] ∧ Z.Warmed39 U.vm ∧ U.heap = h0) (fun _ _ _ _ _ => True) (fun _ U o U' => ∃ v L, o = .returned v ∧ Q20 Z r0 r1 r2 p3 p4 kb b utf cs h0 n0 v U'.heap L ∧ FrameEnd U o U' L ({ frames := 2, cells := 1, slots := 1, locals := 29 } : Room).cells ({ frames := 2, cells := 1, slots := 1, locals := 29 } : Room).slots) := by
  refine MetFree.of_bodySF (plainFor_of_name pn_java_lang_String) hisWith ?_
  intro p e s m args below meth c s₁ Bd hml0 hP hK
  obtain ⟨rfl, hZ, hh⟩ := hP
  have hx := Bd.exec
  have hby := Bd.bytes
  have hml : c.maxLocals = 11 := hml0
  have hown : s.vm.findClass "java/lang/String" = some m.cls := findClass_of_methodNamed Bd.named
  have hnm := (name_of_methodNamed Bd.named Bd.method).1
  have X0 : Stand p l e ({ frames := 2, cells := 1, slots := 1, locals := 29 } : Room) s m #[(.ref r0), (.ref r1), (.ref r2), (.int p3), (.int p4)] below meth c s₁ [] 0 0 := Stand.of_body Bd
  have e0 : s₁.heap = h0 := by rw [← hh, Bd.state]; rfl
  have N0 := Fr.nil n0
  have pre0 : ∀ t, Steps p.tables e below (s₁.setTop (mkF m 0 (l_9 r0 r1 r2 p3 p4) [])) t → Steps p.tables e below (s₁.setTop (entryFrame m #[(.ref r0), (.ref r1), (.ref r2), (.int p3), (.int p4)] 11)) t := fun t k => castTop (ef_20 m r0 r1 r2 p3 p4) k
  obtain ⟨T1, X1, e1, st1⟩ := initO X0 hx hZ hown (hw _ (tm 133 rfl)) (hw _ (tm 32 rfl)) (hw _ (tm 33 rfl)) e0 (g := (mkF m 1 (l_9 r0 r1 r2 p3 p4) [(.ref r0)])) rfl (by rw [hml]; rfl) rfl (hb hby d20_1) (by decide) (W := 0) (by show 2 * 0 + _ ≤ _; exact Nat.le_of_eq rfl) (by decide)
  obtain ⟨T2, X2, e2, st2⟩ := getS2 X1 hx hZ hown (host := "") (Or.inl (hw _ (tm 134 rfl))) Via.refl e1 (Hp8.ext Hp7.2) (g := (mkF m 31 (l_9 r0 r1 r2 p3 p4) [(.ref r1)])) rfl (hb hby d20_31)
  obtain ⟨T3, X3, e3, st3⟩ := getS2 X2 hx hZ hown (host := "") (Or.inl (hw _ (tm 136 rfl))) Via.refl e2 (Hp9.ext Hp7.2) (g := (mkF m 347 (l_9 r0 r1 r2 p3 p4) [(.ref r1)])) rfl (hb hby d20_347)
  obtain ⟨T4, X4, e4, st4⟩ := getS2 X3 hx hZ hown (host := "") (Or.inl (hw _ (tm 138 rfl))) Via.refl e3 (Hp10.ext Hp7.2) (g := (mkF m 353 (l_9 r0 r1 r2 p3 p4) [])) rfl (hb hby d20_353)
  obtain ⟨_, _, ⟨T5, L5, k5, n5⟩, -, X5, ⟨Lc5, hQ5, l5, y5, z5⟩, st5⟩ := Jvm.LawKit.callS X4 hx (y := (⟨"java/util/Arrays", "copyOfRange", "([BII)[B"⟩ : MethodName)) hown (mvT hZ (hw _ (tm 139 rfl))) (mvT hZ (hw _ (tm 140 rfl))) (mvT hZ (hw _ (tm 141 rfl))) (mvT hZ (hw _ (tm 142 rfl))) (by decide) (backOf (W := 1) (rm21 l Z a0 hw [] r2 p3 (1 : Int32) (kb) (b) h0 n0 Z0 Hp5 Hp6 (by assumption) (by decide)) hZ (hw _ (tm 142 rfl)) (hw _ (tm 141 rfl)) (by decide) (by decide)) (g := (mkF m 366 (l_9 r0 r1 r2 p3 p4) [(.int (1 : Int32)), (.int p3), (.ref r2), (.ref r0)])) rfl (by rw [hml]; rfl) (argsL := [(.ref r2), (.int p3), (.int (1 : Int32))]) (rest := [(.ref r0)]) (lenOf pd__28_5bBII_29_5bB rfl) rfl (by show 2 * 0 + _ ≤ _; exact Nat.le_of_eq rfl) (hb hby d20_366) (fun _ _ => ⟨rfl, e4, (by decide : 0 + 1 ≤ _), (by decide : 0 + 1 ≤ _)⟩)
  dsimp only [Pt.U, Pt.locs, Pt.cells, Pt.slots] at X5 l5 y5 z5 st5 hQ5
  subst l5 y5 z5
  obtain ⟨b5_v1, rfl, N5q, K5, Sz5_v1, Pc5_0⟩ := hQ5
  have N5 := Fr.app N0 N5q
  have g_b5_v1 : n0 ≤ b5_v1 := Nat.le_trans Z0 Sz5_v1
  have sz_b5_v1 : h0.size ≤ b5_v1 := Nat.le_trans (Keep.refl h0 [r0]).1 Sz5_v1
  have ne_r0_b5_v1 : r0 ≠ b5_v1 := Nat.ne_of_lt (Nat.lt_of_lt_of_le Hp0.lt Sz5_v1)
  have ne_r2_b5_v1 : r2 ≠ b5_v1 := Nat.ne_of_lt (Nat.lt_of_lt_of_le Hp5.lt Sz5_v1)
  have Ex6 := (Hp0.keep K5)
  have Fd7 := (Hp1.keep K5 nin0)
  obtain ⟨T8, h8, X8, e8, W8, st8⟩ := putF X5 hx hZ hown (host := "") (Or.inl (hw _ (tm 152 rfl))) Via.refl rfl Fd7 Ex6 (Or.inr ⟨(hw _ (tm 153 rfl)), rfl, hnm⟩) (hw _ (tm 116 rfl)) (ty := (.array .byte)) (by decide) rfl rfl (g := (mkF m 369 (l_9 r0 r1 r2 p3 p4) [(.ref b5_v1), (.ref r0)])) rfl rfl (hb hby d20_369)
  have N8 := Fr.snoc X8 N5 Hp15
  have Fw8 := Fd7.same W8
  have Ex9 := (Ex6.wr W8)
  have Fd10 := ((Hp2.keep K5 nin0).other W8 (Or.inr (slot_ne (Or.inr (hw _ (tm 155 rfl))) (Or.inr (hw _ (tm 153 rfl))) (by decide) (t := .byte) (t' := (.array .byte)) (by decide) (by decide))))
  obtain ⟨T11, h11, X11, e11, W11, st11⟩ := putFN X8 hx hZ hown (hw _ (tm 154 rfl)) Via.refl e8 Fd10 Ex9 (Or.inr ⟨(hw _ (tm 155 rfl)), rfl, hnm⟩) (hw _ (tm 116 rfl)) (ty := .byte) (v' := (.int (0 : Int32))) (by decide) rfl (by decide) (g := (mkF m 374 (l_9 r0 r1 r2 p3 p4) [(.int (0 : Int32)), (.ref r0)])) rfl rfl (hb hby d20_374)
  have N11 := Fr.snoc X11 N8 Hp15
  have Fw11 := Fd10.same W11
  have Ex12 := (Ex9.wr W11)
  have Fd13 := (Fw8.other W11 (Or.inr (slot_ne (Or.inr (hw _ (tm 153 rfl))) (Or.inr (hw _ (tm 155 rfl))) (by decide) (t := (.array .byte)) (t' := .byte) (by decide) (by decide))))
  have Fd14 := (((Hp3.keep K5 nin0).other W8 (Or.inr (slot_ne (Or.inl (hw _ (tm 209 rfl))) (Or.inr (hw _ (tm 153 rfl))) (by decide) (t := .int) (t' := (.array .byte)) (by decide) (by decide)))).other W11 (Or.inr (slot_ne (Or.inl (hw _ (tm 209 rfl))) (Or.inr (hw _ (tm 155 rfl))) (by decide) (t := .int) (t' := .byte) (by decide) (by decide))))
  have Fd15 := (((Hp4.keep K5 nin0).other W8 (Or.inr (slot_ne (Or.inl (hw _ (tm 211 rfl))) (Or.inr (hw _ (tm 153 rfl))) (by decide) (t := .boolean) (t' := (.array .byte)) (by decide) (by decide)))).other W11 (Or.inr (slot_ne (Or.inl (hw _ (tm 211 rfl))) (Or.inr (hw _ (tm 155 rfl))) (by decide) (t := .boolean) (t' := .byte) (by decide) (by decide))))
  have Av16 := ((Pc5_0.other W8 (Ne.symm ne_r0_b5_v1)).other W11 (Ne.symm ne_r0_b5_v1))
  have Kp17 := ((((Keep.refl h0 [r0]).trans K5 all0).wr W8 (Or.inl (tm 0 rfl))).wr W11 (Or.inl (tm 0 rfl)))
  obtain ⟨fs, hr, hrun, hended, hW, hsame⟩ := X11.leave (v := none) (fun _ => rfl)
  refine ⟨_, _, pre0 _ ?_, hrun, hended, _, _, rfl, ?_, ⟨_, rfl⟩, hW, hsame.mono (by decide) (by decide)⟩
  · show Steps _ _ _ (s₁.setTop (mkF m 0 (l_9 r0 r1 r2 p3 p4) [])) _
    refine XS.aloadN X0.here hx rfl (hb hby d20_0) rfl rfl ?_
    show Steps _ _ _ (s₁.setTop (mkF m 1 (l_9 r0 r1 r2 p3 p4) [(.ref r0)])) _
    refine st1 _ ?_
    show Steps _ _ _ (T1.setTop (mkF m 4 (l_9 r0 r1 r2 p3 p4) [])) _
    refine XS.iload X1.here hx rfl (hb hby d20_4) rfl ?_
    show Steps _ _ _ (T1.setTop (mkF m 6 (l_9 r0 r1 r2 p3 p4) [(.int p4)])) _
    refine XS.ifYes X1.here hx rfl (pc0 := 6) (pc' := 30) rfl (hb hby d20_6) rfl ((if0 _ _).trans (feq (by rw [hp4]; decide)).2) (by decide) (by decide) ?_
    show Steps _ _ _ (T1.setTop (mkF m 30 (l_9 r0 r1 r2 p3 p4) [])) _
    refine XS.aloadN X1.here hx rfl (hb hby d20_30) rfl rfl ?_
    show Steps _ _ _ (T1.setTop (mkF m 31 (l_9 r0 r1 r2 p3 p4) [(.ref r1)])) _
    refine st2 _ ?_
    show Steps _ _ _ (T2.setTop (mkF m 34 (l_9 r0 r1 r2 p3 p4) [(.ref utf), (.ref r1)])) _
    refine Jvm.RoadKit.acmp (g := (mkF m 34 (l_9 r0 r1 r2 p3 p4) [(.ref utf), (.ref r1)])) X2 hx rfl rfl rfl (pc0 := 34) (pc' := 346) (same := false) rfl (hb hby d20_34) rfl (decide_eq_false fun q => hne (Value.ref.inj q)) (by decide) (by decide) ?_
    show Steps _ _ _ (T2.setTop (mkF m 346 (l_9 r0 r1 r2 p3 p4) [])) _
    refine XS.aloadN X2.here hx rfl (hb hby d20_346) rfl rfl ?_
    show Steps _ _ _ (T2.setTop (mkF m 347 (l_9 r0 r1 r2 p3 p4) [(.ref r1)])) _
    refine st3 _ ?_
    show Steps _ _ _ (T3.setTop (mkF m 350 (l_9 r0 r1 r2 p3 p4) [(.ref r1), (.ref r1)])) _
    refine Jvm.RoadKit.acmp (g := (mkF m 350 (l_9 r0 r1 r2 p3 p4) [(.ref r1), (.ref r1)])) X3 hx rfl rfl rfl (pc0 := 350) (pc' := 353) (same := true) rfl (hb hby d20_350) rfl (decide_eq_true rfl) (by decide) (by decide) ?_
    show Steps _ _ _ (T3.setTop (mkF m 353 (l_9 r0 r1 r2 p3 p4) [])) _
    refine st4 _ ?_
    show Steps _ _ _ (T4.setTop (mkF m 356 (l_9 r0 r1 r2 p3 p4) [(.int cs)])) _
    refine XS.ifNo X4.here hx rfl (hb hby d20_356) rfl ((if0 _ _).trans (feq hcs).1) ?_
    show Steps _ _ _ (T4.setTop (mkF m 359 (l_9 r0 r1 r2 p3 p4) [])) _
    refine XS.aloadN X4.here hx rfl (hb hby d20_359) rfl rfl ?_
    show Steps _ _ _ (T4.setTop (mkF m 360 (l_9 r0 r1 r2 p3 p4) [(.ref r0)])) _
    refine XS.aloadN X4.here hx rfl (hb hby d20_360) rfl rfl ?_
    show Steps _ _ _ (T4.setTop (mkF m 361 (l_9 r0 r1 r2 p3 p4) [(.ref r2), (.ref r0)])) _
    refine XS.iloadN X4.here hx rfl (hb hby d20_361) rfl ?_
    show Steps _ _ _ (T4.setTop (mkF m 362 (l_9 r0 r1 r2 p3 p4) [(.int p3), (.ref r2), (.ref r0)])) _
    refine XS.iloadN X4.here hx rfl (hb hby d20_362) rfl ?_
    show Steps _ _ _ (T4.setTop (mkF m 363 (l_9 r0 r1 r2 p3 p4) [(.int p3), (.int p3), (.ref r2), (.ref r0)])) _
    refine XS.iload X4.here hx rfl (hb hby d20_363) rfl ?_
    show Steps _ _ _ (T4.setTop (mkF m 365 (l_9 r0 r1 r2 p3 p4) [(.int p4), (.int p3), (.int p3), (.ref r2), (.ref r0)])) _
    refine XS.iadd X4.here hx rfl (hb hby d20_365) rfl ?_
    show Steps _ _ _ (T4.setTop (mkF m 366 (l_9 r0 r1 r2 p3 p4) [(.int (p3 + p4)), (.int p3), (.ref r2), (.ref r0)])) _
    rw [show (p3 + p4) = (1 : Int32) from (by rw [hp3, hp4]; decide)]
    show Steps _ _ _ (T4.setTop (mkF m 366 (l_9 r0 r1 r2 p3 p4) [(.int (1 : Int32)), (.int p3), (.ref r2), (.ref r0)])) _
    refine st5 _ ?_
    show Steps _ _ _ (T5.setTop (mkF m 369 (l_9 r0 r1 r2 p3 p4) [(.ref b5_v1), (.ref r0)])) _
    refine st8 _ ?_
    show Steps _ _ _ (T8.setTop (mkF m 372 (l_9 r0 r1 r2 p3 p4) [])) _
    refine XS.aloadN X8.here hx rfl (hb hby d20_372) rfl rfl ?_
    show Steps _ _ _ (T8.setTop (mkF m 373 (l_9 r0 r1 r2 p3 p4) [(.ref r0)])) _
    refine XS.iconst X8.here hx rfl (hb hby d20_373) ?_
    show Steps _ _ _ (T8.setTop (mkF m 374 (l_9 r0 r1 r2 p3 p4) [(.int (0 : Int32)), (.ref r0)])) _
    refine st11 _ ?_
    show Steps _ _ _ (T11.setTop (mkF m 377 (l_9 r0 r1 r2 p3 p4) [])) _
    refine XS.goto X11.here hx rfl (pc0 := 377) (pc' := 879) rfl (hb hby d20_377) (by decide) (by decide) ?_
    show Steps _ _ _ (T11.setTop (mkF m 879 (l_9 r0 r1 r2 p3 p4) [])) _
    exact X11.returnOut hx Bd.returns (hb hby d20_879) hr
  · show Q20 Z r0 r1 r2 p3 p4 kb b utf cs h0 n0 _ T11.heap _
    rw [e11]
    exact ⟨b5_v1, rfl, N11, Kp17, sz_b5_v1, Ex12, Fd13, Fw11, Fd14, Fd15, Av16⟩
def Q18 (Z : State) (r0 : Addr) (r1 : Addr) (r2 : Addr) (kb : ClassId) (b : Int32) (utf : Addr) (cs : Int32) (h0 : Heap) (n0 : Nat) (v : Option Value) (h : Heap) (L : List Loc) : Prop := ∃ v1 : Addr, v = none ∧ Fr n0 L ∧ Keep h0 h [r0] ∧ h0.size ≤ v1 ∧ Exa Z h r0 "java/lang/String" ∧ Fld Z h r0 "java/lang/String" "value" "[B" (.ref v1) ∧ Fld Z h r0 "java/lang/String" "coder" "B" (.int (0 : Int32)) ∧ Fld Z h r0 "java/lang/String" "hash" "I" (.int (0 : Int32)) ∧ Fld Z h r0 "java/lang/String" "hashIsZero" "Z" (.int (0 : Int32)) ∧ Arv Z h v1 kb .byte (1 : Int32) [(.int b)] (.int (0 : Int32))
theorem d18_0 : decode jdk_42_method_49_code 0 = .ok (.aload_n 0, 1) := by decide +kernel
theorem d18_1 : decode jdk_42_method_49_code 1 = .ok (.aload_n 2, 1) := by decide +kernel
theorem d18_2 : decode jdk_42_method_49_code 2 = .ok (.invokestatic 78, 3) := by decide +kernel
theorem pd__28Ljava_2flang_2fObject_3b_29Ljava_2flang_2fObject_3b : parseMethodDescriptor "(Ljava/lang/Object;)Ljava/lang/Object;" = some ⟨[(.object "java/lang/Object")], some (.object "java/lang/Object")⟩ := by decide +kernel
theorem d18_5 : decode jdk_42_method_49_code 5 = .ok (.checkcast 84, 3) := by decide +kernel
theorem d18_8 : decode jdk_42_method_49_code 8 = .ok (.aload_n 1, 1) := by decide +kernel
theorem d18_9 : decode jdk_42_method_49_code 9 = .ok (.iconst 0, 1) := by decide +kernel
theorem d18_10 : decode jdk_42_method_49_code 10 = .ok (.aload_n 1, 1) := by decide +kernel
theorem d18_11 : decode jdk_42_method_49_code 11 = .ok (.arraylength, 1) := by decide +kernel
theorem d18_12 : decode jdk_42_method_49_code 12 = .ok (.invokespecial 75, 3) := by decide +kernel
theorem pd__28Ljava_2fnio_2fcharset_2fCharset_3b_5bBII_29V : parseMethodDescriptor "(Ljava/nio/charset/Charset;[BII)V" = some ⟨[(.object "java/nio/charset/Charset"), (.array .byte), .int, .int], none⟩ := by decide +kernel
theorem d18_15 : decode jdk_42_method_49_code 15 = .ok (.return_, 1) := by decide +kernel
theorem ef_18 (m : MethodId) (r0 : Addr) (r1 : Addr) (r2 : Addr) : entryFrame m #[(.ref r0), (.ref r1), (.ref r2)] 3 = mkF m 0 #[.val (.ref r0), .val (.ref r1), .val (.ref r2)] [] := by first | (simp [entryFrame, mkF, argsToLocals, Value.category]; done) | rfl
set_option maxRecDepth 65536 in
set_option maxHeartbeats 40000000 in
theorem rm18 (l : Launch) (Z : State) (a0 : Array Value) (hw : ∀ d ∈ tables_1, d.before a0 Z = true) (ws : List Jvm.Cond) (r0 : Addr) (r1 : Addr) (r2 : Addr) (kb : ClassId) (b : Int32) (utf : Addr) (cs : Int32) (h0 : Heap) (n0 : Nat) (Z0 : n0 ≤ h0.size) (Hp0 : Exa Z h0 r0 "java/lang/String") (Hp1 : Fld Z h0 r0 "java/lang/String" "value" "[B" .null) (Hp2 : Fld Z h0 r0 "java/lang/String" "coder" "B" (.int (0 : Int32))) (Hp3 : Fld Z h0 r0 "java/lang/String" "hash" "I" (.int (0 : Int32))) (Hp4 : Fld Z h0 r0 "java/lang/String" "hashIsZero" "Z" (.int (0 : Int32))) (Hp5 : Arv Z h0 r1 kb .byte (1 : Int32) [(.int b)] (.int (0 : Int32))) (Hp6 : Exa Z h0 r1 "[B") (Hp7 : Old Z n0 h0) (Hp8 : Sta Z Z.heap "sun/nio/cs/UTF_8" "INSTANCE" "Lsun/nio/cs/UTF_8;" (.ref utf)) (Hp9 : Sta Z Z.heap "sun/nio/cs/ISO_8859_1" "INSTANCE" "Lsun/nio/cs/ISO_8859_1;" (.ref r2)) (Hp10 : Sta Z Z.heap "java/lang/String" "COMPACT_STRINGS" "Z" (.int cs)) (hcs : ¬ cs = (0 : Int32)) (hne : ¬ r2 = utf) (Hp13 : Exa Z h0 r2 "sun/nio/cs/ISO_8859_1") (Hp14 : n0 ≤ r0) (Hp15 : r1 ≠ r0) :
    MetFree l (⟨"java/lang/String", "<init>", "([BLjava/nio/charset/Charset;)V"⟩ : MethodName) (head1 (Jvm.Cond.code (⟨"java/lang/String", "<init>", "([BLjava/nio/charset/Charset;)V"⟩ : MethodName) jdk_42_method_49_code 3 none :: ws) ({ frames := 3, cells := 1, slots := 1, locals := 51 } : Room)) (fun a U => a = #[(.ref r0), (.ref r1), (.ref r2)] ∧ Z.Warmed39 U.vm ∧ U.heap = h0) (fun _ _ _ _ _ => True) (fun _ U o U' => ∃ v L, o = .returned v ∧ Q18 Z r0 r1 r2 kb b utf cs h0 n0 v U'.heap L ∧ FrameEnd U o U' L ({ frames := 3, cells := 1, slots := 1, locals := 51 } : Room).cells ({ frames := 3, cells := 1, slots := 1, locals := 51 } : Room).slots) := by
  refine MetFree.of_bodySF (plainFor_of_name pn_java_lang_String) hisR ?_
  intro p e s m args below meth c s₁ Bd hml0 hP hK
  obtain ⟨rfl, hZ, hh⟩ := hP
  have hx := Bd.exec
  have hby := Bd.bytes
  have hml : c.maxLocals = 3 := hml0
  have hown : s.vm.findClass "java/lang/String" = some m.cls := findClass_of_methodNamed Bd.named
  have hnm := (name_of_methodNamed Bd.named Bd.method).1
  have X0 : Stand p l e ({ frames := 3, cells := 1, slots := 1, locals := 51 } : Room) s m #[(.ref r0), (.ref r1), (.ref r2)] below meth c s₁ [] 0 0 := Stand.of_body Bd
  have e0 : s₁.heap = h0 := by rw [← hh, Bd.state]; rfl
  have N0 := Fr.nil n0
  have pre0 : ∀ t, Steps p.tables e below (s₁.setTop (mkF m 0 (l_10 r0 r1 r2) [])) t → Steps p.tables e below (s₁.setTop (entryFrame m #[(.ref r0), (.ref r1), (.ref r2)] 3)) t := fun t k => castTop (ef_18 m r0 r1 r2) k
  obtain ⟨_, _, ⟨T1, L1, k1, n1⟩, -, X1, ⟨Lc1, hQ1, l1, y1, z1⟩, st1⟩ := Jvm.LawKit.callS X0 hx (y := (⟨"java/util/Objects", "requireNonNull", "(Ljava/lang/Object;)Ljava/lang/Object;"⟩ : MethodName)) hown (mvT hZ (hw _ (tm 123 rfl))) (mvT hZ (hw _ (tm 124 rfl))) (mvT hZ (hw _ (tm 125 rfl))) (mvT hZ (hw _ (tm 126 rfl))) (by decide) (backOf (W := 1) (rm19 l Z a0 hw [] r2  h0 n0 Z0 ) hZ (hw _ (tm 126 rfl)) (hw _ (tm 125 rfl)) (by decide) (by decide)) (g := (mkF m 2 (l_10 r0 r1 r2) [(.ref r2), (.ref r0)])) rfl (by rw [hml]; rfl) (argsL := [(.ref r2)]) (rest := [(.ref r0)]) (lenOf pd__28Ljava_2flang_2fObject_3b_29Ljava_2flang_2fObject_3b rfl) rfl (by show 2 * 0 + _ ≤ _; exact Nat.le_of_eq rfl) (hb hby d18_2) (fun _ _ => ⟨rfl, e0, (by decide : 0 + 0 ≤ _), (by decide : 0 + 0 ≤ _)⟩)
  dsimp only [Pt.U, Pt.locs, Pt.cells, Pt.slots] at X1 l1 y1 z1 st1 hQ1
  subst l1 y1 z1
  obtain ⟨rfl, N1q, e1⟩ := hQ1
  have N1 := Fr.app N0 N1q
  obtain ⟨T2, X2, e2, st2⟩ := castY X1 hx hZ hown (hw _ (tm 127 rfl)) e1 (Ins.of_exa Hp13 (hw _ (tm 128 rfl))) (g := (mkF m 5 (l_10 r0 r1 r2) [(.ref r2), (.ref r0)])) rfl rfl (hb hby d18_5)
  obtain ⟨cl3, Ar3, -, S3, Nn3, -, -⟩ := id Hp5
  obtain ⟨_, _, ⟨T4, L4, k4, n4⟩, -, X4, ⟨Lc4, hQ4, l4, y4, z4⟩, st4⟩ := X2.specialBackH hx (y := (⟨"java/lang/String", "<init>", "(Ljava/nio/charset/Charset;[BII)V"⟩ : MethodName)) rfl hown (mvT hZ (hw _ (tm 129 rfl))) (mvT hZ (hw _ (tm 130 rfl))) (mvT hZ (hw _ (tm 132 rfl))) (by decide) (backOfWith (W := 0) (rm20 l Z a0 hw [] r0 r2 r1 (0 : Int32) (1 : Int32) (kb) (b) (utf) (cs) h0 n0 Z0 Hp0 Hp1 Hp2 Hp3 Hp4 Hp5 Hp6 Hp7 Hp8 Hp9 Hp10 hcs hne (by decide) (by decide) Hp14 Hp15) hZ (hw _ (tm 132 rfl)) (hw _ (tm 117 rfl)) (by decide) (by decide)) (g := (mkF m 12 (l_10 r0 r1 r2) [(.int (1 : Int32)), (.int (0 : Int32)), (.ref r1), (.ref r2), (.ref r0)])) rfl (by rw [hml]; rfl) (Steps.refl _) (a := r0) (argsL := [(.ref r2), (.ref r1), (.int (0 : Int32)), (.int (1 : Int32))]) (rest := []) (lenOf pd__28Ljava_2fnio_2fcharset_2fCharset_3b_5bBII_29V rfl) rfl (by show 2 * 0 + _ ≤ _; exact Nat.le_of_eq rfl) (hb hby d18_12) (fun _ _ => ⟨rfl, e2, (by decide : 0 + 1 ≤ _), (by decide : 0 + 1 ≤ _)⟩)
  dsimp only [Pt.U, Pt.locs, Pt.cells, Pt.slots] at X4 l4 y4 z4 st4 hQ4
  subst l4 y4 z4
  obtain ⟨b4_v1, rfl, N4q, K4, Sz4_v1, Pc4_0, Pc4_1, Pc4_2, Pc4_3, Pc4_4, Pc4_5⟩ := hQ4
  have N4 := Fr.app N1 N4q
  have g_b4_v1 : n0 ≤ b4_v1 := Nat.le_trans Z0 Sz4_v1
  have sz_b4_v1 : h0.size ≤ b4_v1 := Nat.le_trans (Keep.refl h0 [r0]).1 Sz4_v1
  have ne_r0_b4_v1 : r0 ≠ b4_v1 := Nat.ne_of_lt (Nat.lt_of_lt_of_le Hp0.lt Sz4_v1)
  have ne_r1_b4_v1 : r1 ≠ b4_v1 := Nat.ne_of_lt (Nat.lt_of_lt_of_le Hp5.lt Sz4_v1)
  have ne_r2_b4_v1 : r2 ≠ b4_v1 := Nat.ne_of_lt (Nat.lt_of_lt_of_le Hp13.lt Sz4_v1)
  have Kp5 := ((Keep.refl h0 [r0]).trans K4 (allS (Or.inl (tm 0 rfl)) all0))
  obtain ⟨fs, hr, hrun, hended, hW, hsame⟩ := X4.leave (v := none) (fun _ => rfl)
  refine ⟨_, _, pre0 _ ?_, hrun, hended, _, _, rfl, ?_, ⟨_, rfl⟩, hW, hsame.mono (by decide) (by decide)⟩
  · show Steps _ _ _ (s₁.setTop (mkF m 0 (l_10 r0 r1 r2) [])) _
    refine XS.aloadN X0.here hx rfl (hb hby d18_0) rfl rfl ?_
    show Steps _ _ _ (s₁.setTop (mkF m 1 (l_10 r0 r1 r2) [(.ref r0)])) _
    refine XS.aloadN X0.here hx rfl (hb hby d18_1) rfl rfl ?_
    show Steps _ _ _ (s₁.setTop (mkF m 2 (l_10 r0 r1 r2) [(.ref r2), (.ref r0)])) _
    refine st1 _ ?_
    show Steps _ _ _ (T1.setTop (mkF m 5 (l_10 r0 r1 r2) [(.ref r2), (.ref r0)])) _
    refine st2 _ ?_
    show Steps _ _ _ (T2.setTop (mkF m 8 (l_10 r0 r1 r2) [(.ref r2), (.ref r0)])) _
    refine XS.aloadN X2.here hx rfl (hb hby d18_8) rfl rfl ?_
    show Steps _ _ _ (T2.setTop (mkF m 9 (l_10 r0 r1 r2) [(.ref r1), (.ref r2), (.ref r0)])) _
    refine XS.iconst X2.here hx rfl (hb hby d18_9) ?_
    show Steps _ _ _ (T2.setTop (mkF m 10 (l_10 r0 r1 r2) [(.int (0 : Int32)), (.ref r1), (.ref r2), (.ref r0)])) _
    refine XS.aloadN X2.here hx rfl (hb hby d18_10) rfl rfl ?_
    show Steps _ _ _ (T2.setTop (mkF m 11 (l_10 r0 r1 r2) [(.ref r1), (.int (0 : Int32)), (.ref r1), (.ref r2), (.ref r0)])) _
    refine X2.arraylength hx (by rw [e2]; exact Ar3.1) (State.isArrayOf_alike hZ.alike Ar3.2.1) (g := (mkF m 11 (l_10 r0 r1 r2) [(.ref r1), (.int (0 : Int32)), (.ref r1), (.ref r2), (.ref r0)])) rfl rfl (hb hby d18_11) _ ?_
    rw [len_of S3 Nn3]
    show Steps _ _ _ (T2.setTop (mkF m 12 (l_10 r0 r1 r2) [(.int (1 : Int32)), (.int (0 : Int32)), (.ref r1), (.ref r2), (.ref r0)])) _
    refine st4.trans ?_
    show Steps _ _ _ (T4.setTop (mkF m 15 (l_10 r0 r1 r2) [])) _
    exact X4.returnOut hx Bd.returns (hb hby d18_15) hr
  · show Q18 Z r0 r1 r2 kb b utf cs h0 n0 _ T4.heap _
    exact ⟨b4_v1, rfl, N4, Kp5, sz_b4_v1, Pc4_0, Pc4_1, Pc4_2, Pc4_3, Pc4_4, Pc4_5⟩
def Q17 (Z : State) (r0 : Addr) (kb : ClassId) (b : Int32) (iso : Addr) (utf : Addr) (cs : Int32) (h0 : Heap) (n0 : Nat) (v : Option Value) (h : Heap) (L : List Loc) : Prop := ∃ y : Addr, ∃ v1 : Addr, v = some (.ref y) ∧ Fr n0 L ∧ Keep h0 h [] ∧ h0.size ≤ y ∧ h0.size ≤ v1 ∧ Exa Z h y "java/lang/String" ∧ Fld Z h y "java/lang/String" "value" "[B" (.ref v1) ∧ Fld Z h y "java/lang/String" "coder" "B" (.int (0 : Int32)) ∧ Fld Z h y "java/lang/String" "hash" "I" (.int (0 : Int32)) ∧ Fld Z h y "java/lang/String" "hashIsZero" "Z" (.int (0 : Int32)) ∧ Arv Z h v1 kb .byte (1 : Int32) [(.int b)] (.int (0 : Int32)) ∧ y ≠ v1
theorem d17_0 : decode prog_49_method_15_code 0 = .ok (.new 108, 3) := by decide +kernel
theorem d17_3 : decode prog_49_method_15_code 3 = .ok (.dup, 1) := by decide +kernel
theorem d17_4 : decode prog_49_method_15_code 4 = .ok (.aload_n 0, 1) := by decide +kernel
theorem d17_5 : decode prog_49_method_15_code 5 = .ok (.getstatic 110, 3) := by decide +kernel
theorem d17_8 : decode prog_49_method_15_code 8 = .ok (.invokespecial 116, 3) := by decide +kernel
theorem pd__28_5bBLjava_2fnio_2fcharset_2fCharset_3b_29V : parseMethodDescriptor "([BLjava/nio/charset/Charset;)V" = some ⟨[(.array .byte), (.object "java/nio/charset/Charset")], none⟩ := by decide +kernel
theorem d17_11 : decode prog_49_method_15_code 11 = .ok (.areturn, 1) := by decide +kernel
theorem ef_17 (m : MethodId) (r0 : Addr) : entryFrame m #[(.ref r0)] 1 = mkF m 0 #[.val (.ref r0)] [] := by first | (simp [entryFrame, mkF, argsToLocals, Value.category]; done) | rfl
set_option maxRecDepth 65536 in
set_option maxHeartbeats 40000000 in
theorem rm17 (l : Launch) (Z : State) (a0 : Array Value) (hw : ∀ d ∈ tables_1, d.before a0 Z = true) (ws : List Jvm.Cond) (r0 : Addr) (kb : ClassId) (b : Int32) (iso : Addr) (utf : Addr) (cs : Int32) (h0 : Heap) (n0 : Nat) (Z0 : n0 ≤ h0.size) (Hp0 : Arv Z h0 r0 kb .byte (1 : Int32) [(.int b)] (.int (0 : Int32))) (Hp1 : Exa Z h0 r0 "[B") (Hp2 : Old Z n0 h0) (Hp3 : Sta Z Z.heap "sun/nio/cs/UTF_8" "INSTANCE" "Lsun/nio/cs/UTF_8;" (.ref utf)) (Hp4 : Sta Z Z.heap "sun/nio/cs/ISO_8859_1" "INSTANCE" "Lsun/nio/cs/ISO_8859_1;" (.ref iso)) (Hp5 : Sta Z Z.heap "java/lang/String" "COMPACT_STRINGS" "Z" (.int cs)) (hcs : ¬ cs = (0 : Int32)) (hne : ¬ iso = utf) (Hp8 : Sta Z Z.heap "java/nio/charset/StandardCharsets" "ISO_8859_1" "Ljava/nio/charset/Charset;" (.ref iso)) (Eiso : Exa Z Z.heap iso "sun/nio/cs/ISO_8859_1") :
    MetFree l (⟨"com/example/onesnap/onesnap/node/TransactionTracker", "name", "([B)Ljava/lang/String;"⟩ : MethodName) (head1 (Jvm.Cond.code (⟨"com/example/onesnap/onesnap/node/TransactionTracker", "name", "([B)Ljava/lang/String;"⟩ : MethodName) prog_49_method_15_code 1 (some (.object "java/lang/String")) :: ws) ({ frames := 4, cells := 2, slots := 5, locals := 66 } : Room)) (fun a U => a = #[(.ref r0)] ∧ Z.Warmed39 U.vm ∧ U.heap = h0) (fun _ _ _ _ _ => True) (fun _ U o U' => ∃ v L, o = .returned v ∧ Q17 Z r0 kb b iso utf cs h0 n0 v U'.heap L ∧ FrameEnd U o U' L ({ frames := 4, cells := 2, slots := 5, locals := 66 } : Room).cells ({ frames := 4, cells := 2, slots := 5, locals := 66 } : Room).slots) := by
  refine MetFree.of_bodySF (plainFor_of_name pn_com_example_onesnap_onesnap_node_TransactionTracker) hisR ?_
  intro p e s m args below meth c s₁ Bd hml0 hP hK
  obtain ⟨rfl, hZ, hh⟩ := hP
  have hx := Bd.exec
  have hby := Bd.bytes
  have hml : c.maxLocals = 1 := hml0
  have hown : s.vm.findClass "com/example/onesnap/onesnap/node/TransactionTracker" = some m.cls := findClass_of_methodNamed Bd.named
  have hnm := (name_of_methodNamed Bd.named Bd.method).1
  have X0 : Stand p l e ({ frames := 4, cells := 2, slots := 5, locals := 66 } : Room) s m #[(.ref r0)] below meth c s₁ [] 0 0 := Stand.of_body Bd
  have e0 : s₁.heap = h0 := by rw [← hh, Bd.state]; rfl
  have N0 := Fr.nil n0
  have pre0 : ∀ t, Steps p.tables e below (s₁.setTop (mkF m 0 #[.val (.ref r0)] [])) t → Steps p.tables e below (s₁.setTop (entryFrame m #[(.ref r0)] 1)) t := fun t k => castTop (ef_17 m r0) k
  obtain ⟨T1, h1, X1, e1, E1, A1, D1, -, st1⟩ := newO X0 hx hZ hown (hw _ (tm 115 rfl)) (hw _ (tm 116 rfl)) (hw _ (tm 117 rfl)) e0 (g := (mkF m 0 #[.val (.ref r0)] [])) rfl (hb hby d17_0) (by decide) (by decide)
  obtain ⟨b1, g1⟩ : ∃ z, z = h0.size := ⟨_, rfl⟩
  rw [← g1] at A1 D1 st1
  have g_b1 : n0 ≤ b1 := Nat.le_trans Z0 (Nat.le_of_eq g1.symm)
  have sz_b1 : h0.size ≤ b1 := Nat.le_trans (Keep.refl h0 []).1 (Nat.le_of_eq g1.symm)
  have ne_iso_b1 : iso ≠ b1 := Nat.ne_of_lt (Nat.lt_of_lt_of_le (Eiso.ext Hp2.2).lt (Nat.le_of_eq g1.symm))
  have ne_r0_b1 : r0 ≠ b1 := Nat.ne_of_lt (Nat.lt_of_lt_of_le Hp0.lt (Nat.le_of_eq g1.symm))
  have F_value_b1 : Fld Z h1 b1 "java/lang/String" "value" "[B" .null := D1 (Or.inr (hw _ (tm 153 rfl))) (ty := (.array .byte)) (by decide)
  have F_coder_b1 : Fld Z h1 b1 "java/lang/String" "coder" "B" (.int (0 : Int32)) := D1 (Or.inr (hw _ (tm 155 rfl))) (ty := .byte) (by decide)
  have F_hash_b1 : Fld Z h1 b1 "java/lang/String" "hash" "I" (.int (0 : Int32)) := D1 (Or.inl (hw _ (tm 209 rfl))) (ty := .int) (by decide)
  have F_hashIsZero_b1 : Fld Z h1 b1 "java/lang/String" "hashIsZero" "Z" (.int (0 : Int32)) := D1 (Or.inl (hw _ (tm 211 rfl))) (ty := .boolean) (by decide)
  have Od2 := (Hp2.ext E1)
  obtain ⟨T3, X3, e3, st3⟩ := getS2 X1 hx hZ hown (host := "") (Or.inl (hw _ (tm 118 rfl))) Via.refl e1 (Hp8.ext Od2.2) (g := (mkF m 5 #[.val (.ref r0)] [(.ref r0), (.ref b1), (.ref b1)])) rfl (hb hby d17_5)
  have Ex5 := ((Eiso.ext Hp2.2).ext E1)
  have Av6 := (Hp0.ext E1)
  have Zz7 := (Nat.le_trans Z0 E1.1)
  have Kp8 := ((Keep.refl h0 []).ext E1)
  have Ex9 := (Hp1.ext E1)
  obtain ⟨_, _, ⟨T4, L4, k4, n4⟩, -, X4, ⟨Lc4, hQ4, l4, y4, z4⟩, st4⟩ := X3.specialBack hx (y := (⟨"java/lang/String", "<init>", "([BLjava/nio/charset/Charset;)V"⟩ : MethodName)) rfl hown (mvT hZ (hw _ (tm 120 rfl))) (mvT hZ (hw _ (tm 121 rfl))) (mvT hZ (hw _ (tm 122 rfl))) (by decide) (backOf (W := 1) (rm18 l Z a0 hw [] b1 r0 iso (kb) (b) (utf) (cs) h1 n0 Zz7 A1 F_value_b1 F_coder_b1 F_hash_b1 F_hashIsZero_b1 Av6 Ex9 Od2 Hp3 Hp4 Hp5 hcs hne Ex5 g_b1 ne_r0_b1) hZ (hw _ (tm 122 rfl)) (hw _ (tm 117 rfl)) (by decide) (by decide)) (g := (mkF m 8 #[.val (.ref r0)] [(.ref iso), (.ref r0), (.ref b1), (.ref b1)])) rfl (by rw [hml]; rfl) (Steps.refl _) (a := b1) (argsL := [(.ref r0), (.ref iso)]) (rest := [(.ref b1)]) (lenOf pd__28_5bBLjava_2fnio_2fcharset_2fCharset_3b_29V rfl) rfl (by show 2 * 0 + _ ≤ _; exact Nat.le_of_eq rfl) (hb hby d17_8) (fun _ _ => ⟨rfl, e3, (by decide : 1 + 1 ≤ _), (by decide : 4 + 1 ≤ _)⟩)
  dsimp only [Pt.U, Pt.locs, Pt.cells, Pt.slots] at X4 l4 y4 z4 st4 hQ4
  subst l4 y4 z4
  obtain ⟨b4_v1, rfl, N4q, K4, Sz4_v1, Pc4_0, Pc4_1, Pc4_2, Pc4_3, Pc4_4, Pc4_5⟩ := hQ4
  have N4 := Fr.app N0 N4q
  have g_b4_v1 : n0 ≤ b4_v1 := Nat.le_trans Zz7 Sz4_v1
  have sz_b4_v1 : h0.size ≤ b4_v1 := Nat.le_trans Kp8.1 Sz4_v1
  have ne_b1_b4_v1 : b1 ≠ b4_v1 := Nat.ne_of_lt (Nat.lt_of_lt_of_le A1.lt Sz4_v1)
  have ne_iso_b4_v1 : iso ≠ b4_v1 := Nat.ne_of_lt (Nat.lt_of_lt_of_le Ex5.lt Sz4_v1)
  have ne_r0_b4_v1 : r0 ≠ b4_v1 := Nat.ne_of_lt (Nat.lt_of_lt_of_le Av6.lt Sz4_v1)
  have Kp10 := (Kp8.trans K4 (allS (Or.inr sz_b1) all0))
  obtain ⟨fs, hr, hrun, hended, hW, hsame⟩ := X4.leave (v := some (.ref b1)) (fun h => by rw [Bd.returns] at h; cases h)
  refine ⟨_, _, pre0 _ ?_, hrun, hended, _, _, rfl, ?_, ⟨_, rfl⟩, hW, hsame.mono (by decide) (by decide)⟩
  · show Steps _ _ _ (s₁.setTop (mkF m 0 #[.val (.ref r0)] [])) _
    refine st1 _ ?_
    show Steps _ _ _ (T1.setTop (mkF m 3 #[.val (.ref r0)] [(.ref b1)])) _
    refine XS.dup X1.here hx rfl (hb hby d17_3) rfl rfl ?_
    show Steps _ _ _ (T1.setTop (mkF m 4 #[.val (.ref r0)] [(.ref b1), (.ref b1)])) _
    refine XS.aloadN X1.here hx rfl (hb hby d17_4) rfl rfl ?_
    show Steps _ _ _ (T1.setTop (mkF m 5 #[.val (.ref r0)] [(.ref r0), (.ref b1), (.ref b1)])) _
    refine st3 _ ?_
    show Steps _ _ _ (T3.setTop (mkF m 8 #[.val (.ref r0)] [(.ref iso), (.ref r0), (.ref b1), (.ref b1)])) _
    refine st4.trans ?_
    show Steps _ _ _ (T4.setTop (mkF m 11 #[.val (.ref r0)] [(.ref b1)])) _
    exact X4.areturnOut hx rfl Bd.returns rfl (hb hby d17_11) hr
  · show Q17 Z r0 kb b iso utf cs h0 n0 _ T4.heap _
    exact ⟨b1, b4_v1, rfl, N4, Kp10, sz_b1, sz_b4_v1, Pc4_0, Pc4_1, Pc4_2, Pc4_3, Pc4_4, Pc4_5, ne_b1_b4_v1⟩
def Gd (b : Int32) : Prop := (¬ b = (0 : Int32)) ∧ (b &&& (255 : Int32)) = b ∧ (b ^^^ ((b.toUInt32 >>> ((16 : Int32) &&& 31).toUInt32).toInt32)) = b
theorem d32_2 : decode jdk_43_method_21_code 2 = .ok (.lookupswitch 40 #[(0, 26), (1, 30)], 26) := by decide +kernel
def Q32 (Z : State) (r0 : Addr) (kb : ClassId) (b : Int32) (h0 : Heap) (n0 : Nat) (v : Option Value) (h : Heap) (L : List Loc) : Prop := v = some (.int b) ∧ Fr n0 L ∧ h = h0
theorem d32_0 : decode jdk_43_method_21_code 0 = .ok (.aload_n 0, 1) := by decide +kernel
theorem d32_1 : decode jdk_43_method_21_code 1 = .ok (.arraylength, 1) := by decide +kernel
theorem d32_32 : decode jdk_43_method_21_code 32 = .ok (.aload_n 0, 1) := by decide +kernel
theorem d32_33 : decode jdk_43_method_21_code 33 = .ok (.iconst 0, 1) := by decide +kernel
theorem d32_34 : decode jdk_43_method_21_code 34 = .ok (.baload, 1) := by decide +kernel
theorem d32_35 : decode jdk_43_method_21_code 35 = .ok (.sipush 255, 3) := by decide +kernel
theorem d32_38 : decode jdk_43_method_21_code 38 = .ok (.iand, 1) := by decide +kernel
theorem d32_39 : decode jdk_43_method_21_code 39 = .ok (.goto 12, 3) := by decide +kernel
theorem d32_51 : decode jdk_43_method_21_code 51 = .ok (.ireturn, 1) := by decide +kernel
theorem pn_java_lang_StringLatin1 : plainName "java/lang/StringLatin1" = true := by first | (simp [plainName, overriddenIn]; done) | decide +kernel
theorem ef_32 (m : MethodId) (r0 : Addr) : entryFrame m #[(.ref r0)] 1 = mkF m 0 #[.val (.ref r0)] [] := by first | (simp [entryFrame, mkF, argsToLocals, Value.category]; done) | rfl
set_option maxRecDepth 65536 in
set_option maxHeartbeats 40000000 in
theorem rm32 (l : Launch) (Z : State) (a0 : Array Value) (hw : ∀ d ∈ tables_1, d.before a0 Z = true) (ws : List Jvm.Cond) (r0 : Addr) (kb : ClassId) (b : Int32) (h0 : Heap) (n0 : Nat) (Z0 : n0 ≤ h0.size) (Hp0 : Arv Z h0 r0 kb .byte (1 : Int32) [(.int b)] (.int (0 : Int32))) (hgd : Gd b) :
    MetFree l (⟨"java/lang/StringLatin1", "hashCode", "([B)I"⟩ : MethodName) (head1 (Jvm.Cond.code (⟨"java/lang/StringLatin1", "hashCode", "([B)I"⟩ : MethodName) jdk_43_method_21_code 1 (some .int) :: ws) ({ frames := 0, cells := 0, slots := 0, locals := 0 } : Room)) (fun a U => a = #[(.ref r0)] ∧ Z.Warmed39 U.vm ∧ U.heap = h0) (fun _ _ _ _ _ => True) (fun _ U o U' => ∃ v L, o = .returned v ∧ Q32 Z r0 kb b h0 n0 v U'.heap L ∧ FrameEnd U o U' L ({ frames := 0, cells := 0, slots := 0, locals := 0 } : Room).cells ({ frames := 0, cells := 0, slots := 0, locals := 0 } : Room).slots) := by
  refine MetFree.of_bodySF (plainFor_of_name pn_java_lang_StringLatin1) hisR ?_
  intro p e s m args below meth c s₁ Bd hml0 hP hK
  obtain ⟨rfl, hZ, hh⟩ := hP
  have hx := Bd.exec
  have hby := Bd.bytes
  have hml : c.maxLocals = 1 := hml0
  have hown : s.vm.findClass "java/lang/StringLatin1" = some m.cls := findClass_of_methodNamed Bd.named
  have hnm := (name_of_methodNamed Bd.named Bd.method).1
  have X0 : Stand p l e ({ frames := 0, cells := 0, slots := 0, locals := 0 } : Room) s m #[(.ref r0)] below meth c s₁ [] 0 0 := Stand.of_body Bd
  have e0 : s₁.heap = h0 := by rw [← hh, Bd.state]; rfl
  have N0 := Fr.nil n0
  have pre0 : ∀ t, Steps p.tables e below (s₁.setTop (mkF m 0 #[.val (.ref r0)] [])) t → Steps p.tables e below (s₁.setTop (entryFrame m #[(.ref r0)] 1)) t := fun t k => castTop (ef_32 m r0) k
  obtain ⟨cl1, Ar1, -, S1, Nn1, -, -⟩ := id Hp0
  obtain ⟨cl2, Ar2, -, S2, -, H2, -⟩ := id Hp0
  have hin2 : ¬ ((0 : Int32) < 0 ∨ cl2.slots.size ≤ ((0 : Int32)).toNatClampNeg) := inb_of S2 ⟨by decide, by decide⟩
  have hat2 : cl2.slots[((0 : Int32)).toNatClampNeg]? = some (.int b) := Has.at H2 hin2 rfl
  obtain ⟨fs, hr, hrun, hended, hW, hsame⟩ := X0.leave (v := some (.int b)) (fun h => by rw [Bd.returns] at h; cases h)
  refine ⟨_, _, pre0 _ ?_, hrun, hended, _, _, rfl, ?_, ⟨_, rfl⟩, hW, hsame.mono (by decide) (by decide)⟩
  · show Steps _ _ _ (s₁.setTop (mkF m 0 #[.val (.ref r0)] [])) _
    refine XS.aloadN X0.here hx rfl (hb hby d32_0) rfl rfl ?_
    show Steps _ _ _ (s₁.setTop (mkF m 1 #[.val (.ref r0)] [(.ref r0)])) _
    refine X0.arraylength hx (by rw [e0]; exact Ar1.1) (State.isArrayOf_alike hZ.alike Ar1.2.1) (g := (mkF m 1 #[.val (.ref r0)] [(.ref r0)])) rfl rfl (hb hby d32_1) _ ?_
    rw [len_of S1 Nn1]
    show Steps _ _ _ (s₁.setTop (mkF m 2 #[.val (.ref r0)] [(.int (1 : Int32))])) _
    refine X0.lookupswitchHit hx (g := (mkF m 2 #[.val (.ref r0)] [(.int (1 : Int32))])) rfl (k := (1 : Int32)) rfl (hb hby d32_2) (by decide) (a := 1) (off := 30) (by decide) (by show (0 : Int) ≤ ((2 : Nat) : Int) + 30; decide) _ ?_
    show Steps _ _ _ (s₁.setTop (mkF m 32 #[.val (.ref r0)] [])) _
    refine XS.aloadN X0.here hx rfl (hb hby d32_32) rfl rfl ?_
    show Steps _ _ _ (s₁.setTop (mkF m 33 #[.val (.ref r0)] [(.ref r0)])) _
    refine XS.iconst X0.here hx rfl (hb hby d32_33) ?_
    show Steps _ _ _ (s₁.setTop (mkF m 34 #[.val (.ref r0)] [(.int (0 : Int32)), (.ref r0)])) _
    refine X0.baloadBytes hx (j := (0 : Int32)) (v := (.int b)) (by rw [e0]; exact Ar2.1) (State.isArrayOf_alike hZ.alike Ar2.2.1) Ar2.2.2 hin2 hat2 (g := (mkF m 34 #[.val (.ref r0)] [(.int (0 : Int32)), (.ref r0)])) rfl rfl (hb hby d32_34) _ ?_
    show Steps _ _ _ (s₁.setTop (mkF m 35 #[.val (.ref r0)] [(.int b)])) _
    refine XS.sipush X0.here hx rfl (hb hby d32_35) ?_
    show Steps _ _ _ (s₁.setTop (mkF m 38 #[.val (.ref r0)] [(.int (255 : Int32)), (.int b)])) _
    refine XS.iand X0.here hx rfl (hb hby d32_38) rfl ?_
    show Steps _ _ _ (s₁.setTop (mkF m 39 #[.val (.ref r0)] [(.int (b &&& (255 : Int32)))])) _
    rw [show (b &&& (255 : Int32)) = b from hgd.2.1]
    show Steps _ _ _ (s₁.setTop (mkF m 39 #[.val (.ref r0)] [(.int b)])) _
    refine XS.goto X0.here hx rfl (pc0 := 39) (pc' := 51) rfl (hb hby d32_39) (by decide) (by decide) ?_
    show Steps _ _ _ (s₁.setTop (mkF m 51 #[.val (.ref r0)] [(.int b)])) _
    exact retI X0 hx Bd.returns (hb hby d32_51) hr
  · show Q32 Z r0 kb b h0 n0 _ s₁.heap _
    rw [e0]
    exact ⟨rfl, N0, rfl⟩
def Q31 (Z : State) (r0 : Addr) (cs : Int32) (h0 : Heap) (n0 : Nat) (v : Option Value) (h : Heap) (L : List Loc) : Prop := v = some (.int (1 : Int32)) ∧ Fr n0 L ∧ h = h0
theorem d31_0 : decode jdk_42_method_154_code 0 = .ok (.getstatic 38, 3) := by decide +kernel
theorem d31_3 : decode jdk_42_method_154_code 3 = .ok (.ifCond .eq 14, 3) := by decide +kernel
theorem d31_6 : decode jdk_42_method_154_code 6 = .ok (.aload_n 0, 1) := by decide +kernel
theorem d31_7 : decode jdk_42_method_154_code 7 = .ok (.getfield 15, 3) := by decide +kernel
theorem d31_10 : decode jdk_42_method_154_code 10 = .ok (.ifCond .ne 7, 3) := by decide +kernel
theorem d31_13 : decode jdk_42_method_154_code 13 = .ok (.iconst 1, 1) := by decide +kernel
theorem d31_14 : decode jdk_42_method_154_code 14 = .ok (.goto 4, 3) := by decide +kernel
theorem d31_18 : decode jdk_42_method_154_code 18 = .ok (.ireturn, 1) := by decide +kernel
theorem ef_31 (m : MethodId) (r0 : Addr) : entryFrame m #[(.ref r0)] 1 = mkF m 0 #[.val (.ref r0)] [] := by first | (simp [entryFrame, mkF, argsToLocals, Value.category]; done) | rfl
set_option maxRecDepth 65536 in
set_option maxHeartbeats 40000000 in
theorem rm31 (l : Launch) (Z : State) (a0 : Array Value) (hw : ∀ d ∈ tables_1, d.before a0 Z = true) (ws : List Jvm.Cond) (r0 : Addr) (cs : Int32) (h0 : Heap) (n0 : Nat) (Z0 : n0 ≤ h0.size) (Hp0 : Old Z n0 h0) (Hp1 : Sta Z Z.heap "java/lang/String" "COMPACT_STRINGS" "Z" (.int cs)) (hcs : ¬ cs = (0 : Int32)) (Hp3 : Fld Z h0 r0 "java/lang/String" "coder" "B" (.int (0 : Int32))) :
    MetFree l (⟨"java/lang/String", "isLatin1", "()Z"⟩ : MethodName) (head1 (Jvm.Cond.code (⟨"java/lang/String", "isLatin1", "()Z"⟩ : MethodName) jdk_42_method_154_code 1 (some .boolean) :: ws) ({ frames := 0, cells := 0, slots := 0, locals := 0 } : Room)) (fun a U => a = #[(.ref r0)] ∧ Z.Warmed39 U.vm ∧ U.heap = h0) (fun _ _ _ _ _ => True) (fun _ U o U' => ∃ v L, o = .returned v ∧ Q31 Z r0 cs h0 n0 v U'.heap L ∧ FrameEnd U o U' L ({ frames := 0, cells := 0, slots := 0, locals := 0 } : Room).cells ({ frames := 0, cells := 0, slots := 0, locals := 0 } : Room).slots) := by
  refine MetFree.of_bodySF (plainFor_of_name pn_java_lang_String) hisR ?_
  intro p e s m args below meth c s₁ Bd hml0 hP hK
  obtain ⟨rfl, hZ, hh⟩ := hP
  have hx := Bd.exec
  have hby := Bd.bytes
  have hml : c.maxLocals = 1 := hml0
  have hown : s.vm.findClass "java/lang/String" = some m.cls := findClass_of_methodNamed Bd.named
  have hnm := (name_of_methodNamed Bd.named Bd.method).1
  have X0 : Stand p l e ({ frames := 0, cells := 0, slots := 0, locals := 0 } : Room) s m #[(.ref r0)] below meth c s₁ [] 0 0 := Stand.of_body Bd
  have e0 : s₁.heap = h0 := by rw [← hh, Bd.state]; rfl
  have N0 := Fr.nil n0
  have pre0 : ∀ t, Steps p.tables e below (s₁.setTop (mkF m 0 #[.val (.ref r0)] [])) t → Steps p.tables e below (s₁.setTop (entryFrame m #[(.ref r0)] 1)) t := fun t k => castTop (ef_31 m r0) k
  obtain ⟨T1, X1, e1, st1⟩ := getS2 X0 hx hZ hown (host := "") (Or.inl (hw _ (tm 138 rfl))) Via.refl e0 (Hp1.ext Hp0.2) (g := (mkF m 0 #[.val (.ref r0)] [])) rfl (hb hby d31_0)
  obtain ⟨T2, X2, e2, st2⟩ := getF X1 hx hZ hown (host := "") (Or.inl (hw _ (tm 154 rfl))) Via.refl e1 Hp3 (g := (mkF m 7 #[.val (.ref r0)] [(.ref r0)])) rfl rfl (hb hby d31_7)
  obtain ⟨fs, hr, hrun, hended, hW, hsame⟩ := X2.leave (v := some (.int (1 : Int32))) (fun h => by rw [Bd.returns] at h; cases h)
  refine ⟨_, _, pre0 _ ?_, hrun, hended, _, _, rfl, ?_, ⟨_, rfl⟩, hW, hsame.mono (by decide) (by decide)⟩
  · show Steps _ _ _ (s₁.setTop (mkF m 0 #[.val (.ref r0)] [])) _
    refine st1 _ ?_
    show Steps _ _ _ (T1.setTop (mkF m 3 #[.val (.ref r0)] [(.int cs)])) _
    refine XS.ifNo X1.here hx rfl (hb hby d31_3) rfl ((if0 _ _).trans (feq hcs).1) ?_
    show Steps _ _ _ (T1.setTop (mkF m 6 #[.val (.ref r0)] [])) _
    refine XS.aloadN X1.here hx rfl (hb hby d31_6) rfl rfl ?_
    show Steps _ _ _ (T1.setTop (mkF m 7 #[.val (.ref r0)] [(.ref r0)])) _
    refine st2 _ ?_
    show Steps _ _ _ (T2.setTop (mkF m 10 #[.val (.ref r0)] [(.int (0 : Int32))])) _
    refine XS.ifNo X2.here hx rfl (hb hby d31_10) rfl ((if0 _ _).trans (teq (rfl : (0 : Int32) = (0 : Int32))).2) ?_
    show Steps _ _ _ (T2.setTop (mkF m 13 #[.val (.ref r0)] [])) _
    refine XS.iconst X2.here hx rfl (hb hby d31_13) ?_
    show Steps _ _ _ (T2.setTop (mkF m 14 #[.val (.ref r0)] [(.int (1 : Int32))])) _
    refine XS.goto X2.here hx rfl (pc0 := 14) (pc' := 18) rfl (hb hby d31_14) (by decide) (by decide) ?_
    show Steps _ _ _ (T2.setTop (mkF m 18 #[.val (.ref r0)] [(.int (1 : Int32))])) _
    exact retN X2 hx (t := .boolean) Bd.returns (by simp) (hb hby d31_18) hr
  · show Q31 Z r0 cs h0 n0 _ T2.heap _
    rw [e2]
    exact ⟨rfl, N0, rfl⟩
def Q30 (Z : State) (r0 : Addr) (v1 : Addr) (kb : ClassId) (b : Int32) (cs : Int32) (h0 : Heap) (n0 : Nat) (v : Option Value) (h : Heap) (L : List Loc) : Prop := v = some (.int b) ∧ Fr n0 L ∧ Keep h0 h [r0] ∧ Exa Z h r0 "java/lang/String" ∧ Fld Z h r0 "java/lang/String" "value" "[B" (.ref v1) ∧ Fld Z h r0 "java/lang/String" "coder" "B" (.int (0 : Int32)) ∧ Fld Z h r0 "java/lang/String" "hash" "I" (.int b) ∧ Fld Z h r0 "java/lang/String" "hashIsZero" "Z" (.int (0 : Int32))
theorem d30_0 : decode jdk_42_method_78_code 0 = .ok (.aload_n 0, 1) := by decide +kernel
theorem d30_1 : decode jdk_42_method_78_code 1 = .ok (.getfield 19, 3) := by decide +kernel
theorem d30_4 : decode jdk_42_method_78_code 4 = .ok (.istore_n 1, 1) := by decide +kernel
theorem d30_5 : decode jdk_42_method_78_code 5 = .ok (.iload_n 1, 1) := by decide +kernel
theorem d30_6 : decode jdk_42_method_78_code 6 = .ok (.ifCond .ne 52, 3) := by decide +kernel
theorem d30_9 : decode jdk_42_method_78_code 9 = .ok (.aload_n 0, 1) := by decide +kernel
theorem d30_10 : decode jdk_42_method_78_code 10 = .ok (.getfield 23, 3) := by decide +kernel
theorem d30_13 : decode jdk_42_method_78_code 13 = .ok (.ifCond .ne 45, 3) := by decide +kernel
theorem d30_16 : decode jdk_42_method_78_code 16 = .ok (.aload_n 0, 1) := by decide +kernel
theorem d30_17 : decode jdk_42_method_78_code 17 = .ok (.invokevirtual 492, 3) := by decide +kernel
theorem pd__28_29Z : parseMethodDescriptor "()Z" = some ⟨[], some .boolean⟩ := by decide +kernel
theorem d30_20 : decode jdk_42_method_78_code 20 = .ok (.ifCond .eq 13, 3) := by decide +kernel
theorem d30_23 : decode jdk_42_method_78_code 23 = .ok (.aload_n 0, 1) := by decide +kernel
theorem d30_24 : decode jdk_42_method_78_code 24 = .ok (.getfield 9, 3) := by decide +kernel
theorem d30_27 : decode jdk_42_method_78_code 27 = .ok (.invokestatic 628, 3) := by decide +kernel
theorem pd__28_5bB_29I : parseMethodDescriptor "([B)I" = some ⟨[(.array .byte)], some .int⟩ := by decide +kernel
theorem d30_30 : decode jdk_42_method_78_code 30 = .ok (.goto 10, 3) := by decide +kernel
theorem d30_40 : decode jdk_42_method_78_code 40 = .ok (.istore_n 1, 1) := by decide +kernel
theorem d30_41 : decode jdk_42_method_78_code 41 = .ok (.iload_n 1, 1) := by decide +kernel
theorem d30_42 : decode jdk_42_method_78_code 42 = .ok (.ifCond .ne 11, 3) := by decide +kernel
theorem d30_53 : decode jdk_42_method_78_code 53 = .ok (.aload_n 0, 1) := by decide +kernel
theorem d30_54 : decode jdk_42_method_78_code 54 = .ok (.iload_n 1, 1) := by decide +kernel
theorem d30_55 : decode jdk_42_method_78_code 55 = .ok (.putfield 19, 3) := by decide +kernel
theorem d30_58 : decode jdk_42_method_78_code 58 = .ok (.iload_n 1, 1) := by decide +kernel
theorem d30_59 : decode jdk_42_method_78_code 59 = .ok (.ireturn, 1) := by decide +kernel
theorem ef_30 (m : MethodId) (r0 : Addr) : entryFrame m #[(.ref r0)] 2 = mkF m 0 #[.val (.ref r0), .unset] [] := by first | (simp [entryFrame, mkF, argsToLocals, Value.category]; done) | rfl
set_option maxRecDepth 65536 in
set_option maxHeartbeats 40000000 in
theorem rm30 (l : Launch) (Z : State) (a0 : Array Value) (hw : ∀ d ∈ tables_1, d.before a0 Z = true) (ws : List Jvm.Cond) (r0 : Addr) (v1 : Addr) (kb : ClassId) (b : Int32) (cs : Int32) (h0 : Heap) (n0 : Nat) (Z0 : n0 ≤ h0.size) (Hp0 : Exa Z h0 r0 "java/lang/String") (Hp1 : Fld Z h0 r0 "java/lang/String" "value" "[B" (.ref v1)) (Hp2 : Fld Z h0 r0 "java/lang/String" "coder" "B" (.int (0 : Int32))) (Hp3 : Fld Z h0 r0 "java/lang/String" "hash" "I" (.int (0 : Int32))) (Hp4 : Fld Z h0 r0 "java/lang/String" "hashIsZero" "Z" (.int (0 : Int32))) (Hp5 : Arv Z h0 v1 kb .byte (1 : Int32) [(.int b)] (.int (0 : Int32))) (hgd : Gd b) (Hp7 : Old Z n0 h0) (Hp8 : Sta Z Z.heap "java/lang/String" "COMPACT_STRINGS" "Z" (.int cs)) (hcs : ¬ cs = (0 : Int32)) (Hp10 : n0 ≤ r0) (Hp11 : v1 ≠ r0) :
    MetFree l (⟨"java/lang/String", "hashCode", "()I"⟩ : MethodName) (head1 (Jvm.Cond.code (⟨"java/lang/String", "hashCode", "()I"⟩ : MethodName) jdk_42_method_78_code 2 (some .int) :: ws) ({ frames := 1, cells := 0, slots := 0, locals := 12 } : Room)) (fun a U => a = #[(.ref r0)] ∧ Z.Warmed39 U.vm ∧ U.heap = h0) (fun _ _ _ _ _ => True) (fun _ U o U' => ∃ v L, o = .returned v ∧ Q30 Z r0 v1 kb b cs h0 n0 v U'.heap L ∧ FrameEnd U o U' L ({ frames := 1, cells := 0, slots := 0, locals := 12 } : Room).cells ({ frames := 1, cells := 0, slots := 0, locals := 12 } : Room).slots) := by
  refine MetFree.of_bodySF (plainFor_of_name pn_java_lang_String) hisR ?_
  intro p e s m args below meth c s₁ Bd hml0 hP hK
  obtain ⟨rfl, hZ, hh⟩ := hP
  have hx := Bd.exec
  have hby := Bd.bytes
  have hml : c.maxLocals = 2 := hml0
  have hown : s.vm.findClass "java/lang/String" = some m.cls := findClass_of_methodNamed Bd.named
  have hnm := (name_of_methodNamed Bd.named Bd.method).1
  have X0 : Stand p l e ({ frames := 1, cells := 0, slots := 0, locals := 12 } : Room) s m #[(.ref r0)] below meth c s₁ [] 0 0 := Stand.of_body Bd
  have e0 : s₁.heap = h0 := by rw [← hh, Bd.state]; rfl
  have N0 := Fr.nil n0
  have pre0 : ∀ t, Steps p.tables e below (s₁.setTop (mkF m 0 (l_11 r0) [])) t → Steps p.tables e below (s₁.setTop (entryFrame m #[(.ref r0)] 2)) t := fun t k => castTop (ef_30 m r0) k
  obtain ⟨T1, X1, e1, st1⟩ := getF X0 hx hZ hown (host := "") (Or.inl (hw _ (tm 208 rfl))) Via.refl e0 Hp3 (g := (mkF m 1 (l_11 r0) [(.ref r0)])) rfl rfl (hb hby d30_1)
  obtain ⟨T2, X2, e2, st2⟩ := getF X1 hx hZ hown (host := "") (Or.inl (hw _ (tm 210 rfl))) Via.refl e1 Hp4 (g := (mkF m 10 (l_7 r0 (0 : Int32)) [(.ref r0)])) rfl rfl (hb hby d30_10)
  obtain ⟨cq3, kq3, q3a, q3b, q3c⟩ := isOf hZ e2 Hp0
  obtain ⟨_, _, ⟨T3, L3, k3, n3⟩, -, X3, ⟨Lc3, hQ3, l3, y3, z3⟩, st3⟩ := X2.virtualBack hx (y := (⟨"java/lang/String", "isLatin1", "()Z"⟩ : MethodName)) (z := (⟨"java/lang/String", "isLatin1", "()Z"⟩ : MethodName)) hown (mvT hZ (hw _ (tm 212 rfl))) (mvT hZ (hw _ (tm 213 rfl))) (notFace_of_selects (args := #[]) (mvT hZ (hw _ (tm 215 rfl)))) (mvT hZ (hw _ (tm 215 rfl))) (mvT hZ (hw _ (tm 214 rfl))) (by decide) (backOf (W := 0) (rm31 l Z a0 hw [] r0 (cs) h0 n0 Z0 Hp7 Hp8 hcs Hp2) hZ (hw _ (tm 216 rfl)) (hw _ (tm 117 rfl)) (by decide) (by decide)) q3a q3c (g := (mkF m 17 (l_7 r0 (0 : Int32)) [(.ref r0)])) rfl (by rw [hml]; rfl) (Steps.refl _) (argsL := []) (rest := []) (lenOf pd__28_29Z rfl) rfl (by show 2 * 0 + _ ≤ _; exact Nat.le_of_eq rfl) (hb hby d30_17) (fun _ _ => ⟨rfl, e2, (by decide : 0 + 0 ≤ _), (by decide : 0 + 0 ≤ _)⟩)
  dsimp only [Pt.U, Pt.locs, Pt.cells, Pt.slots] at X3 l3 y3 z3 st3 hQ3
  subst l3 y3 z3
  obtain ⟨rfl, N3q, e3⟩ := hQ3
  have N3 := Fr.app N0 N3q
  obtain ⟨T4, X4, e4, st4⟩ := getF X3 hx hZ hown (host := "") (Or.inl (hw _ (tm 152 rfl))) Via.refl e3 Hp1 (g := (mkF m 24 (l_7 r0 (0 : Int32)) [(.ref r0)])) rfl rfl (hb hby d30_24)
  obtain ⟨_, _, ⟨T5, L5, k5, n5⟩, -, X5, ⟨Lc5, hQ5, l5, y5, z5⟩, st5⟩ := Jvm.LawKit.callS X4 hx (y := (⟨"java/lang/StringLatin1", "hashCode", "([B)I"⟩ : MethodName)) hown (mvT hZ (hw _ (tm 217 rfl))) (mvT hZ (hw _ (tm 218 rfl))) (mvT hZ (hw _ (tm 219 rfl))) (mvT hZ (hw _ (tm 220 rfl))) (by decide) (backOf (W := 0) (rm32 l Z a0 hw [] v1 (kb) (b) h0 n0 Z0 Hp5 hgd) hZ (hw _ (tm 220 rfl)) (hw _ (tm 219 rfl)) (by decide) (by decide)) (g := (mkF m 27 (l_7 r0 (0 : Int32)) [(.ref v1)])) rfl (by rw [hml]; rfl) (argsL := [(.ref v1)]) (rest := []) (lenOf pd__28_5bB_29I rfl) rfl (by show 2 * 0 + _ ≤ _; exact Nat.le_of_eq rfl) (hb hby d30_27) (fun _ _ => ⟨rfl, e4, (by decide : 0 + 0 ≤ _), (by decide : 0 + 0 ≤ _)⟩)
  dsimp only [Pt.U, Pt.locs, Pt.cells, Pt.slots] at X5 l5 y5 z5 st5 hQ5
  subst l5 y5 z5
  obtain ⟨rfl, N5q, e5⟩ := hQ5
  have N5 := Fr.app N3 N5q
  obtain ⟨T6, h6, X6, e6, W6, st6⟩ := putF X5 hx hZ hown (host := "") (Or.inl (hw _ (tm 208 rfl))) Via.refl e5 Hp3 Hp0 (Or.inl (hw _ (tm 209 rfl))) (hw _ (tm 116 rfl)) (ty := .int) (by decide) rfl rfl (g := (mkF m 55 (l_7 r0 b) [(.int b), (.ref r0)])) rfl rfl (hb hby d30_55)
  have N6 := Fr.snoc X6 N5 Hp10
  have Fw6 := Hp3.same W6
  have Ex7 := (Hp0.wr W6)
  have Fd8 := (Hp1.other W6 (Or.inr (slot_ne (Or.inr (hw _ (tm 153 rfl))) (Or.inl (hw _ (tm 209 rfl))) (by decide) (t := (.array .byte)) (t' := .int) (by decide) (by decide))))
  have Fd9 := (Hp2.other W6 (Or.inr (slot_ne (Or.inr (hw _ (tm 155 rfl))) (Or.inl (hw _ (tm 209 rfl))) (by decide) (t := .byte) (t' := .int) (by decide) (by decide))))
  have Fd10 := (Hp4.other W6 (Or.inr (slot_ne (Or.inl (hw _ (tm 211 rfl))) (Or.inl (hw _ (tm 209 rfl))) (by decide) (t := .boolean) (t' := .int) (by decide) (by decide))))
  have Kp11 := ((Keep.refl h0 [r0]).wr W6 (Or.inl (tm 0 rfl)))
  obtain ⟨fs, hr, hrun, hended, hW, hsame⟩ := X6.leave (v := some (.int b)) (fun h => by rw [Bd.returns] at h; cases h)
  refine ⟨_, _, pre0 _ ?_, hrun, hended, _, _, rfl, ?_, ⟨_, rfl⟩, hW, hsame.mono (by decide) (by decide)⟩
  · show Steps _ _ _ (s₁.setTop (mkF m 0 (l_11 r0) [])) _
    refine XS.aloadN X0.here hx rfl (hb hby d30_0) rfl rfl ?_
    show Steps _ _ _ (s₁.setTop (mkF m 1 (l_11 r0) [(.ref r0)])) _
    refine st1 _ ?_
    show Steps _ _ _ (T1.setTop (mkF m 4 (l_11 r0) [(.int (0 : Int32))])) _
    refine XS.istoreN X1.here hx rfl (hb hby d30_4) rfl (l' := (l_7 r0 (0 : Int32))) rfl ?_
    show Steps _ _ _ (T1.setTop (mkF m 5 (l_7 r0 (0 : Int32)) [])) _
    refine XS.iloadN X1.here hx rfl (hb hby d30_5) rfl ?_
    show Steps _ _ _ (T1.setTop (mkF m 6 (l_7 r0 (0 : Int32)) [(.int (0 : Int32))])) _
    refine XS.ifNo X1.here hx rfl (hb hby d30_6) rfl ((if0 _ _).trans (teq (rfl : (0 : Int32) = (0 : Int32))).2) ?_
    show Steps _ _ _ (T1.setTop (mkF m 9 (l_7 r0 (0 : Int32)) [])) _
    refine XS.aloadN X1.here hx rfl (hb hby d30_9) rfl rfl ?_
    show Steps _ _ _ (T1.setTop (mkF m 10 (l_7 r0 (0 : Int32)) [(.ref r0)])) _
    refine st2 _ ?_
    show Steps _ _ _ (T2.setTop (mkF m 13 (l_7 r0 (0 : Int32)) [(.int (0 : Int32))])) _
    refine XS.ifNo X2.here hx rfl (hb hby d30_13) rfl ((if0 _ _).trans (teq (rfl : (0 : Int32) = (0 : Int32))).2) ?_
    show Steps _ _ _ (T2.setTop (mkF m 16 (l_7 r0 (0 : Int32)) [])) _
    refine XS.aloadN X2.here hx rfl (hb hby d30_16) rfl rfl ?_
    show Steps _ _ _ (T2.setTop (mkF m 17 (l_7 r0 (0 : Int32)) [(.ref r0)])) _
    refine st3.trans ?_
    show Steps _ _ _ (T3.setTop (mkF m 20 (l_7 r0 (0 : Int32)) [(.int (1 : Int32))])) _
    refine XS.ifNo X3.here hx rfl (hb hby d30_20) rfl ((if0 _ _).trans (feq (by decide)).1) ?_
    show Steps _ _ _ (T3.setTop (mkF m 23 (l_7 r0 (0 : Int32)) [])) _
    refine XS.aloadN X3.here hx rfl (hb hby d30_23) rfl rfl ?_
    show Steps _ _ _ (T3.setTop (mkF m 24 (l_7 r0 (0 : Int32)) [(.ref r0)])) _
    refine st4 _ ?_
    show Steps _ _ _ (T4.setTop (mkF m 27 (l_7 r0 (0 : Int32)) [(.ref v1)])) _
    refine st5 _ ?_
    show Steps _ _ _ (T5.setTop (mkF m 30 (l_7 r0 (0 : Int32)) [(.int b)])) _
    refine XS.goto X5.here hx rfl (pc0 := 30) (pc' := 40) rfl (hb hby d30_30) (by decide) (by decide) ?_
    show Steps _ _ _ (T5.setTop (mkF m 40 (l_7 r0 (0 : Int32)) [(.int b)])) _
    refine XS.istoreN X5.here hx rfl (hb hby d30_40) rfl (l' := (l_7 r0 b)) rfl ?_
    show Steps _ _ _ (T5.setTop (mkF m 41 (l_7 r0 b) [])) _
    refine XS.iloadN X5.here hx rfl (hb hby d30_41) rfl ?_
    show Steps _ _ _ (T5.setTop (mkF m 42 (l_7 r0 b) [(.int b)])) _
    refine XS.ifYes X5.here hx rfl (pc0 := 42) (pc' := 53) rfl (hb hby d30_42) rfl ((if0 _ _).trans (feq hgd.1).2) (by decide) (by decide) ?_
    show Steps _ _ _ (T5.setTop (mkF m 53 (l_7 r0 b) [])) _
    refine XS.aloadN X5.here hx rfl (hb hby d30_53) rfl rfl ?_
    show Steps _ _ _ (T5.setTop (mkF m 54 (l_7 r0 b) [(.ref r0)])) _
    refine XS.iloadN X5.here hx rfl (hb hby d30_54) rfl ?_
    show Steps _ _ _ (T5.setTop (mkF m 55 (l_7 r0 b) [(.int b), (.ref r0)])) _
    refine st6 _ ?_
    show Steps _ _ _ (T6.setTop (mkF m 58 (l_7 r0 b) [])) _
    refine XS.iloadN X6.here hx rfl (hb hby d30_58) rfl ?_
    show Steps _ _ _ (T6.setTop (mkF m 59 (l_7 r0 b) [(.int b)])) _
    exact retI X6 hx Bd.returns (hb hby d30_59) hr
  · show Q30 Z r0 v1 kb b cs h0 n0 _ T6.heap _
    rw [e6]
    exact ⟨rfl, N6, Kp11, Ex7, Fd8, Fd9, Fw6, Fd10⟩
def Q29 (Z : State) (r0 : Addr) (v1 : Addr) (kb : ClassId) (b : Int32) (cs : Int32) (h0 : Heap) (n0 : Nat) (v : Option Value) (h : Heap) (L : List Loc) : Prop := v = some (.int b) ∧ Fr n0 L ∧ Keep h0 h [r0] ∧ Exa Z h r0 "java/lang/String" ∧ Fld Z h r0 "java/lang/String" "value" "[B" (.ref v1) ∧ Fld Z h r0 "java/lang/String" "coder" "B" (.int (0 : Int32)) ∧ Fld Z h r0 "java/lang/String" "hash" "I" (.int b) ∧ Fld Z h r0 "java/lang/String" "hashIsZero" "Z" (.int (0 : Int32))
theorem d29_0 : decode jdk_69_method_1_code 0 = .ok (.aload_n 0, 1) := by decide +kernel
theorem d29_1 : decode jdk_69_method_1_code 1 = .ok (.ifnonnull 7, 3) := by decide +kernel
theorem d29_8 : decode jdk_69_method_1_code 8 = .ok (.aload_n 0, 1) := by decide +kernel
theorem d29_9 : decode jdk_69_method_1_code 9 = .ok (.invokevirtual 1, 3) := by decide +kernel
theorem d29_12 : decode jdk_69_method_1_code 12 = .ok (.dup, 1) := by decide +kernel
theorem d29_13 : decode jdk_69_method_1_code 13 = .ok (.istore_n 1, 1) := by decide +kernel
theorem d29_14 : decode jdk_69_method_1_code 14 = .ok (.iload_n 1, 1) := by decide +kernel
theorem d29_15 : decode jdk_69_method_1_code 15 = .ok (.bipush 16, 2) := by decide +kernel
theorem d29_17 : decode jdk_69_method_1_code 17 = .ok (.iushr, 1) := by decide +kernel
theorem d29_18 : decode jdk_69_method_1_code 18 = .ok (.ixor, 1) := by decide +kernel
theorem d29_19 : decode jdk_69_method_1_code 19 = .ok (.ireturn, 1) := by decide +kernel
theorem pn_java_util_HashMap : plainName "java/util/HashMap" = true := by first | (simp [plainName, overriddenIn]; done) | decide +kernel
theorem ef_29 (m : MethodId) (r0 : Addr) : entryFrame m #[(.ref r0)] 2 = mkF m 0 #[.val (.ref r0), .unset] [] := by first | (simp [entryFrame, mkF, argsToLocals, Value.category]; done) | rfl
set_option maxRecDepth 65536 in
set_option maxHeartbeats 40000000 in
theorem rm29 (l : Launch) (Z : State) (a0 : Array Value) (hw : ∀ d ∈ tables_1, d.before a0 Z = true) (ws : List Jvm.Cond) (r0 : Addr) (v1 : Addr) (kb : ClassId) (b : Int32) (cs : Int32) (h0 : Heap) (n0 : Nat) (Z0 : n0 ≤ h0.size) (Hp0 : Exa Z h0 r0 "java/lang/String") (Hp1 : Fld Z h0 r0 "java/lang/String" "value" "[B" (.ref v1)) (Hp2 : Fld Z h0 r0 "java/lang/String" "coder" "B" (.int (0 : Int32))) (Hp3 : Fld Z h0 r0 "java/lang/String" "hash" "I" (.int (0 : Int32))) (Hp4 : Fld Z h0 r0 "java/lang/String" "hashIsZero" "Z" (.int (0 : Int32))) (Hp5 : Arv Z h0 v1 kb .byte (1 : Int32) [(.int b)] (.int (0 : Int32))) (hgd : Gd b) (Hp7 : Old Z n0 h0) (Hp8 : Sta Z Z.heap "java/lang/String" "COMPACT_STRINGS" "Z" (.int cs)) (hcs : ¬ cs = (0 : Int32)) (Hp10 : n0 ≤ r0) (Hp11 : v1 ≠ r0) :
    MetFree l (⟨"java/util/HashMap", "hash", "(Ljava/lang/Object;)I"⟩ : MethodName) (head1 (Jvm.Cond.code (⟨"java/util/HashMap", "hash", "(Ljava/lang/Object;)I"⟩ : MethodName) jdk_69_method_1_code 2 (some .int) :: ws) ({ frames := 2, cells := 0, slots := 0, locals := 25 } : Room)) (fun a U => a = #[(.ref r0)] ∧ Z.Warmed39 U.vm ∧ U.heap = h0) (fun _ _ _ _ _ => True) (fun _ U o U' => ∃ v L, o = .returned v ∧ Q29 Z r0 v1 kb b cs h0 n0 v U'.heap L ∧ FrameEnd U o U' L ({ frames := 2, cells := 0, slots := 0, locals := 25 } : Room).cells ({ frames := 2, cells := 0, slots := 0, locals := 25 } : Room).slots) := by
  refine MetFree.of_bodySF (plainFor_of_name pn_java_util_HashMap) hisR ?_
  intro p e s m args below meth c s₁ Bd hml0 hP hK
  obtain ⟨rfl, hZ, hh⟩ := hP
  have hx := Bd.exec
  have hby := Bd.bytes
  have hml : c.maxLocals = 2 := hml0
  have hown : s.vm.findClass "java/util/HashMap" = some m.cls := findClass_of_methodNamed Bd.named
  have hnm := (name_of_methodNamed Bd.named Bd.method).1
  have X0 : Stand p l e ({ frames := 2, cells := 0, slots := 0, locals := 25 } : Room) s m #[(.ref r0)] below meth c s₁ [] 0 0 := Stand.of_body Bd
  have e0 : s₁.heap = h0 := by rw [← hh, Bd.state]; rfl
  have N0 := Fr.nil n0
  have pre0 : ∀ t, Steps p.tables e below (s₁.setTop (mkF m 0 (l_11 r0) [])) t → Steps p.tables e below (s₁.setTop (entryFrame m #[(.ref r0)] 2)) t := fun t k => castTop (ef_29 m r0) k
  obtain ⟨cq1, kq1, q1a, q1b, q1c⟩ := isOf hZ e0 Hp0
  obtain ⟨_, _, ⟨T1, L1, k1, n1⟩, -, X1, ⟨Lc1, hQ1, l1, y1, z1⟩, st1⟩ := X0.virtualBack hx (y := (⟨"java/lang/Object", "hashCode", "()I"⟩ : MethodName)) (z := (⟨"java/lang/String", "hashCode", "()I"⟩ : MethodName)) hown (mvT hZ (hw _ (tm 202 rfl))) (mvT hZ (hw _ (tm 203 rfl))) (own_nf (args := #[]) (mvT hZ (hw _ (tm 147 rfl)))) (mvT hZ (hw _ (tm 205 rfl))) (mvT hZ (hw _ (tm 206 rfl))) (by decide) (backOf (W := 0) (rm30 l Z a0 hw [] r0 (v1) (kb) (b) (cs) h0 n0 Z0 Hp0 Hp1 Hp2 Hp3 Hp4 Hp5 hgd Hp7 Hp8 hcs Hp10 Hp11) hZ (hw _ (tm 207 rfl)) (hw _ (tm 117 rfl)) (by decide) (by decide)) q1a q1c (g := (mkF m 9 (l_11 r0) [(.ref r0)])) rfl (by rw [hml]; rfl) (Steps.refl _) (argsL := []) (rest := []) (lenOf pd__28_29I rfl) rfl (by show 2 * 0 + _ ≤ _; exact Nat.le_of_eq rfl) (hb hby d29_9) (fun _ _ => ⟨rfl, e0, (by decide : 0 + 0 ≤ _), (by decide : 0 + 0 ≤ _)⟩)
  dsimp only [Pt.U, Pt.locs, Pt.cells, Pt.slots] at X1 l1 y1 z1 st1 hQ1
  subst l1 y1 z1
  obtain ⟨rfl, N1q, K1, Pc1_0, Pc1_1, Pc1_2, Pc1_3, Pc1_4⟩ := hQ1
  have N1 := Fr.app N0 N1q
  have Kp2 := ((Keep.refl h0 [r0]).trans K1 (allS (Or.inl (tm 0 rfl)) all0))
  obtain ⟨fs, hr, hrun, hended, hW, hsame⟩ := X1.leave (v := some (.int b)) (fun h => by rw [Bd.returns] at h; cases h)
  refine ⟨_, _, pre0 _ ?_, hrun, hended, _, _, rfl, ?_, ⟨_, rfl⟩, hW, hsame.mono (by decide) (by decide)⟩
  · show Steps _ _ _ (s₁.setTop (mkF m 0 (l_11 r0) [])) _
    refine XS.aloadN X0.here hx rfl (hb hby d29_0) rfl rfl ?_
    show Steps _ _ _ (s₁.setTop (mkF m 1 (l_11 r0) [(.ref r0)])) _
    refine XS.ifnonnullYes X0.here hx rfl (pc0 := 1) (pc' := 8) rfl (hb hby d29_1) rfl (by decide) (by decide) ?_
    show Steps _ _ _ (s₁.setTop (mkF m 8 (l_11 r0) [])) _
    refine XS.aloadN X0.here hx rfl (hb hby d29_8) rfl rfl ?_
    show Steps _ _ _ (s₁.setTop (mkF m 9 (l_11 r0) [(.ref r0)])) _
    refine st1.trans ?_
    show Steps _ _ _ (T1.setTop (mkF m 12 (l_11 r0) [(.int b)])) _
    refine XS.dup X1.here hx rfl (hb hby d29_12) rfl rfl ?_
    show Steps _ _ _ (T1.setTop (mkF m 13 (l_11 r0) [(.int b), (.int b)])) _
    refine XS.istoreN X1.here hx rfl (hb hby d29_13) rfl (l' := (l_7 r0 b)) rfl ?_
    show Steps _ _ _ (T1.setTop (mkF m 14 (l_7 r0 b) [(.int b)])) _
    refine XS.iloadN X1.here hx rfl (hb hby d29_14) rfl ?_
    show Steps _ _ _ (T1.setTop (mkF m 15 (l_7 r0 b) [(.int b), (.int b)])) _
    refine XS.bipush X1.here hx rfl (hb hby d29_15) ?_
    show Steps _ _ _ (T1.setTop (mkF m 17 (l_7 r0 b) [(.int (16 : Int32)), (.int b), (.int b)])) _
    refine XS.iushr X1.here hx rfl (hb hby d29_17) rfl ?_
    show Steps _ _ _ (T1.setTop (mkF m 18 (l_7 r0 b) [(.int ((b.toUInt32 >>> ((16 : Int32) &&& 31).toUInt32).toInt32)), (.int b)])) _
    refine XS.ixor X1.here hx rfl (hb hby d29_18) rfl ?_
    show Steps _ _ _ (T1.setTop (mkF m 19 (l_7 r0 b) [(.int (b ^^^ ((b.toUInt32 >>> ((16 : Int32) &&& 31).toUInt32).toInt32)))])) _
    rw [show (b ^^^ ((b.toUInt32 >>> ((16 : Int32) &&& 31).toUInt32).toInt32)) = b from hgd.2.2]
    show Steps _ _ _ (T1.setTop (mkF m 19 (l_7 r0 b) [(.int b)])) _
    exact retI X1 hx Bd.returns (hb hby d29_19) hr
  · show Q29 Z r0 v1 kb b cs h0 n0 _ T1.heap _
    exact ⟨rfl, N1, Kp2, Pc1_0, Pc1_1, Pc1_2, Pc1_3, Pc1_4⟩
def Q36 (Z : State) (r0 : Addr) (p1 : Int32) (r2 : Addr) (r3 : Addr) (h0 : Heap) (n0 : Nat) (v : Option Value) (h : Heap) (L : List Loc) : Prop := v = none ∧ Fr n0 L ∧ Keep h0 h [r0] ∧ Exa Z h r0 "java/util/HashMap$Node" ∧ Fld Z h r0 "java/util/HashMap$Node" "hash" "I" (.int p1) ∧ Fld Z h r0 "java/util/HashMap$Node" "key" "Ljava/lang/Object;" (.ref r2) ∧ Fld Z h r0 "java/util/HashMap$Node" "value" "Ljava/lang/Object;" (.ref r3) ∧ Fld Z h r0 "java/util/HashMap$Node" "next" "Ljava/util/HashMap$Node;" .null
theorem d36_0 : decode jdk_70_method_1_code 0 = .ok (.aload_n 0, 1) := by decide +kernel
theorem d36_1 : decode jdk_70_method_1_code 1 = .ok (.invokespecial 1, 3) := by decide +kernel
theorem d36_4 : decode jdk_70_method_1_code 4 = .ok (.aload_n 0, 1) := by decide +kernel
theorem d36_5 : decode jdk_70_method_1_code 5 = .ok (.iload_n 1, 1) := by decide +kernel
theorem d36_6 : decode jdk_70_method_1_code 6 = .ok (.putfield 7, 3) := by decide +kernel
theorem d36_9 : decode jdk_70_method_1_code 9 = .ok (.aload_n 0, 1) := by decide +kernel
theorem d36_10 : decode jdk_70_method_1_code 10 = .ok (.aload_n 2, 1) := by decide +kernel
theorem d36_11 : decode jdk_70_method_1_code 11 = .ok (.putfield 13, 3) := by decide +kernel
theorem d36_14 : decode jdk_70_method_1_code 14 = .ok (.aload_n 0, 1) := by decide +kernel
theorem d36_15 : decode jdk_70_method_1_code 15 = .ok (.aload_n 3, 1) := by decide +kernel
theorem d36_16 : decode jdk_70_method_1_code 16 = .ok (.putfield 17, 3) := by decide +kernel
theorem d36_19 : decode jdk_70_method_1_code 19 = .ok (.aload_n 0, 1) := by decide +kernel
theorem d36_20 : decode jdk_70_method_1_code 20 = .ok (.aload 4, 2) := by decide +kernel
theorem d36_22 : decode jdk_70_method_1_code 22 = .ok (.putfield 20, 3) := by decide +kernel
theorem d36_25 : decode jdk_70_method_1_code 25 = .ok (.return_, 1) := by decide +kernel
theorem pn_java_util_HashMap_Node : plainName "java/util/HashMap$Node" = true := by first | (simp [plainName, overriddenIn]; done) | decide +kernel
theorem ef_36 (m : MethodId) (r0 : Addr) (p1 : Int32) (r2 : Addr) (r3 : Addr) : entryFrame m #[(.ref r0), (.int p1), (.ref r2), (.ref r3), .null] 5 = mkF m 0 #[.val (.ref r0), .val (.int p1), .val (.ref r2), .val (.ref r3), .val .null] [] := by first | (simp [entryFrame, mkF, argsToLocals, Value.category]; done) | rfl
set_option maxRecDepth 65536 in
set_option maxHeartbeats 40000000 in
theorem rm36 (l : Launch) (Z : State) (a0 : Array Value) (hw : ∀ d ∈ tables_1, d.before a0 Z = true) (ws : List Jvm.Cond) (r0 : Addr) (p1 : Int32) (r2 : Addr) (r3 : Addr)  (h0 : Heap) (n0 : Nat) (Z0 : n0 ≤ h0.size) (Hp0 : Exa Z h0 r0 "java/util/HashMap$Node") (Hp1 : Fld Z h0 r0 "java/util/HashMap$Node" "hash" "I" (.int (0 : Int32))) (Hp2 : Fld Z h0 r0 "java/util/HashMap$Node" "key" "Ljava/lang/Object;" .null) (Hp3 : Fld Z h0 r0 "java/util/HashMap$Node" "value" "Ljava/lang/Object;" .null) (Hp4 : Fld Z h0 r0 "java/util/HashMap$Node" "next" "Ljava/util/HashMap$Node;" .null) (Hp5 : n0 ≤ r0) :
    MetFree l (⟨"java/util/HashMap$Node", "<init>", "(ILjava/lang/Object;Ljava/lang/Object;Ljava/util/HashMap$Node;)V"⟩ : MethodName) (head1 (Jvm.Cond.code (⟨"java/util/HashMap$Node", "<init>", "(ILjava/lang/Object;Ljava/lang/Object;Ljava/util/HashMap$Node;)V"⟩ : MethodName) jdk_70_method_1_code 5 none :: ws) ({ frames := 1, cells := 0, slots := 0, locals := 12 } : Room)) (fun a U => a = #[(.ref r0), (.int p1), (.ref r2), (.ref r3), .null] ∧ Z.Warmed39 U.vm ∧ U.heap = h0) (fun _ _ _ _ _ => True) (fun _ U o U' => ∃ v L, o = .returned v ∧ Q36 Z r0 p1 r2 r3 h0 n0 v U'.heap L ∧ FrameEnd U o U' L ({ frames := 1, cells := 0, slots := 0, locals := 12 } : Room).cells ({ frames := 1, cells := 0, slots := 0, locals := 12 } : Room).slots) := by
  refine MetFree.of_bodySF (plainFor_of_name pn_java_util_HashMap_Node) hisR ?_
  intro p e s m args below meth c s₁ Bd hml0 hP hK
  obtain ⟨rfl, hZ, hh⟩ := hP
  have hx := Bd.exec
  have hby := Bd.bytes
  have hml : c.maxLocals = 5 := hml0
  have hown : s.vm.findClass "java/util/HashMap$Node" = some m.cls := findClass_of_methodNamed Bd.named
  have hnm := (name_of_methodNamed Bd.named Bd.method).1
  have X0 : Stand p l e ({ frames := 1, cells := 0, slots := 0, locals := 12 } : Room) s m #[(.ref r0), (.int p1), (.ref r2), (.ref r3), .null] below meth c s₁ [] 0 0 := Stand.of_body Bd
  have e0 : s₁.heap = h0 := by rw [← hh, Bd.state]; rfl
  have N0 := Fr.nil n0
  have pre0 : ∀ t, Steps p.tables e below (s₁.setTop (mkF m 0 (l_12 r0 p1 r2 r3) [])) t → Steps p.tables e below (s₁.setTop (entryFrame m #[(.ref r0), (.int p1), (.ref r2), (.ref r3), .null] 5)) t := fun t k => castTop (ef_36 m r0 p1 r2 r3) k
  obtain ⟨T1, X1, e1, st1⟩ := initO X0 hx hZ hown (hw _ (tm 248 rfl)) (hw _ (tm 32 rfl)) (hw _ (tm 33 rfl)) e0 (g := (mkF m 1 (l_12 r0 p1 r2 r3) [(.ref r0)])) rfl (by rw [hml]; rfl) rfl (hb hby d36_1) (by decide) (W := 0) (by show 2 * 0 + _ ≤ _; exact Nat.le_of_eq rfl) (by decide)
  obtain ⟨T2, h2, X2, e2, W2, st2⟩ := putF X1 hx hZ hown (host := "") (Or.inl (hw _ (tm 249 rfl))) Via.refl e1 Hp1 Hp0 (Or.inr ⟨(hw _ (tm 250 rfl)), rfl, hnm⟩) (hw _ (tm 242 rfl)) (ty := .int) (by decide) rfl rfl (g := (mkF m 6 (l_12 r0 p1 r2 r3) [(.int p1), (.ref r0)])) rfl rfl (hb hby d36_6)
  have N2 := Fr.snoc X2 N0 Hp5
  have Fw2 := Hp1.same W2
  have Ex3 := (Hp0.wr W2)
  have Fd4 := (Hp2.other W2 (Or.inr (slot_ne (Or.inr (hw _ (tm 252 rfl))) (Or.inr (hw _ (tm 250 rfl))) (by decide) (t := (.object "java/lang/Object")) (t' := .int) (by decide) (by decide))))
  obtain ⟨T5, h5, X5, e5, W5, st5⟩ := putF X2 hx hZ hown (host := "") (Or.inl (hw _ (tm 251 rfl))) Via.refl e2 Fd4 Ex3 (Or.inr ⟨(hw _ (tm 252 rfl)), rfl, hnm⟩) (hw _ (tm 242 rfl)) (ty := (.object "java/lang/Object")) (by decide) rfl rfl (g := (mkF m 11 (l_12 r0 p1 r2 r3) [(.ref r2), (.ref r0)])) rfl rfl (hb hby d36_11)
  have N5 := Fr.snoc X5 N2 Hp5
  have Fw5 := Fd4.same W5
  have Ex6 := (Ex3.wr W5)
  have Fd7 := ((Hp3.other W2 (Or.inr (slot_ne (Or.inl (hw _ (tm 254 rfl))) (Or.inr (hw _ (tm 250 rfl))) (by decide) (t := (.object "java/lang/Object")) (t' := .int) (by decide) (by decide)))).other W5 (Or.inr (slot_ne (Or.inl (hw _ (tm 254 rfl))) (Or.inr (hw _ (tm 252 rfl))) (by decide) (t := (.object "java/lang/Object")) (t' := (.object "java/lang/Object")) (by decide) (by decide))))
  obtain ⟨T8, h8, X8, e8, W8, st8⟩ := putF X5 hx hZ hown (host := "") (Or.inl (hw _ (tm 253 rfl))) Via.refl e5 Fd7 Ex6 (Or.inl (hw _ (tm 254 rfl))) (hw _ (tm 242 rfl)) (ty := (.object "java/lang/Object")) (by decide) rfl rfl (g := (mkF m 16 (l_12 r0 p1 r2 r3) [(.ref r3), (.ref r0)])) rfl rfl (hb hby d36_16)
  have N8 := Fr.snoc X8 N5 Hp5
  have Fw8 := Fd7.same W8
  have Ex9 := (Ex6.wr W8)
  have Fd10 := (((Hp4.other W2 (Or.inr (slot_ne (Or.inl (hw _ (tm 256 rfl))) (Or.inr (hw _ (tm 250 rfl))) (by decide) (t := (.object "java/util/HashMap$Node")) (t' := .int) (by decide) (by decide)))).other W5 (Or.inr (slot_ne (Or.inl (hw _ (tm 256 rfl))) (Or.inr (hw _ (tm 252 rfl))) (by decide) (t := (.object "java/util/HashMap$Node")) (t' := (.object "java/lang/Object")) (by decide) (by decide)))).other W8 (Or.inr (slot_ne (Or.inl (hw _ (tm 256 rfl))) (Or.inl (hw _ (tm 254 rfl))) (by decide) (t := (.object "java/util/HashMap$Node")) (t' := (.object "java/lang/Object")) (by decide) (by decide))))
  obtain ⟨T11, h11, X11, e11, W11, st11⟩ := putF X8 hx hZ hown (host := "") (Or.inl (hw _ (tm 255 rfl))) Via.refl e8 Fd10 Ex9 (Or.inl (hw _ (tm 256 rfl))) (hw _ (tm 242 rfl)) (ty := (.object "java/util/HashMap$Node")) (by decide) rfl rfl (g := (mkF m 22 (l_12 r0 p1 r2 r3) [.null, (.ref r0)])) rfl rfl (hb hby d36_22)
  have N11 := Fr.snoc X11 N8 Hp5
  have Fw11 := Fd10.same W11
  have Ex12 := (Ex9.wr W11)
  have Fd13 := (((Fw2.other W5 (Or.inr (slot_ne (Or.inr (hw _ (tm 250 rfl))) (Or.inr (hw _ (tm 252 rfl))) (by decide) (t := .int) (t' := (.object "java/lang/Object")) (by decide) (by decide)))).other W8 (Or.inr (slot_ne (Or.inr (hw _ (tm 250 rfl))) (Or.inl (hw _ (tm 254 rfl))) (by decide) (t := .int) (t' := (.object "java/lang/Object")) (by decide) (by decide)))).other W11 (Or.inr (slot_ne (Or.inr (hw _ (tm 250 rfl))) (Or.inl (hw _ (tm 256 rfl))) (by decide) (t := .int) (t' := (.object "java/util/HashMap$Node")) (by decide) (by decide))))
  have Fd14 := ((Fw5.other W8 (Or.inr (slot_ne (Or.inr (hw _ (tm 252 rfl))) (Or.inl (hw _ (tm 254 rfl))) (by decide) (t := (.object "java/lang/Object")) (t' := (.object "java/lang/Object")) (by decide) (by decide)))).other W11 (Or.inr (slot_ne (Or.inr (hw _ (tm 252 rfl))) (Or.inl (hw _ (tm 256 rfl))) (by decide) (t := (.object "java/lang/Object")) (t' := (.object "java/util/HashMap$Node")) (by decide) (by decide))))
  have Fd15 := (Fw8.other W11 (Or.inr (slot_ne (Or.inl (hw _ (tm 254 rfl))) (Or.inl (hw _ (tm 256 rfl))) (by decide) (t := (.object "java/lang/Object")) (t' := (.object "java/util/HashMap$Node")) (by decide) (by decide))))
  have Kp16 := (((((Keep.refl h0 [r0]).wr W2 (Or.inl (tm 0 rfl))).wr W5 (Or.inl (tm 0 rfl))).wr W8 (Or.inl (tm 0 rfl))).wr W11 (Or.inl (tm 0 rfl)))
  obtain ⟨fs, hr, hrun, hended, hW, hsame⟩ := X11.leave (v := none) (fun _ => rfl)
  refine ⟨_, _, pre0 _ ?_, hrun, hended, _, _, rfl, ?_, ⟨_, rfl⟩, hW, hsame.mono (by decide) (by decide)⟩
  · show Steps _ _ _ (s₁.setTop (mkF m 0 (l_12 r0 p1 r2 r3) [])) _
    refine XS.aloadN X0.here hx rfl (hb hby d36_0) rfl rfl ?_
    show Steps _ _ _ (s₁.setTop (mkF m 1 (l_12 r0 p1 r2 r3) [(.ref r0)])) _
    refine st1 _ ?_
    show Steps _ _ _ (T1.setTop (mkF m 4 (l_12 r0 p1 r2 r3) [])) _
    refine XS.aloadN X1.here hx rfl (hb hby d36_4) rfl rfl ?_
    show Steps _ _ _ (T1.setTop (mkF m 5 (l_12 r0 p1 r2 r3) [(.ref r0)])) _
    refine XS.iloadN X1.here hx rfl (hb hby d36_5) rfl ?_
    show Steps _ _ _ (T1.setTop (mkF m 6 (l_12 r0 p1 r2 r3) [(.int p1), (.ref r0)])) _
    refine st2 _ ?_
    show Steps _ _ _ (T2.setTop (mkF m 9 (l_12 r0 p1 r2 r3) [])) _
    refine XS.aloadN X2.here hx rfl (hb hby d36_9) rfl rfl ?_
    show Steps _ _ _ (T2.setTop (mkF m 10 (l_12 r0 p1 r2 r3) [(.ref r0)])) _
    refine XS.aloadN X2.here hx rfl (hb hby d36_10) rfl rfl ?_
    show Steps _ _ _ (T2.setTop (mkF m 11 (l_12 r0 p1 r2 r3) [(.ref r2), (.ref r0)])) _
    refine st5 _ ?_
    show Steps _ _ _ (T5.setTop (mkF m 14 (l_12 r0 p1 r2 r3) [])) _
    refine XS.aloadN X5.here hx rfl (hb hby d36_14) rfl rfl ?_
    show Steps _ _ _ (T5.setTop (mkF m 15 (l_12 r0 p1 r2 r3) [(.ref r0)])) _
    refine XS.aloadN X5.here hx rfl (hb hby d36_15) rfl rfl ?_
    show Steps _ _ _ (T5.setTop (mkF m 16 (l_12 r0 p1 r2 r3) [(.ref r3), (.ref r0)])) _
    refine st8 _ ?_
    show Steps _ _ _ (T8.setTop (mkF m 19 (l_12 r0 p1 r2 r3) [])) _
    refine XS.aloadN X8.here hx rfl (hb hby d36_19) rfl rfl ?_
    show Steps _ _ _ (T8.setTop (mkF m 20 (l_12 r0 p1 r2 r3) [(.ref r0)])) _
    refine XS.aload X8.here hx rfl (hb hby d36_20) rfl rfl ?_
    show Steps _ _ _ (T8.setTop (mkF m 22 (l_12 r0 p1 r2 r3) [.null, (.ref r0)])) _
    refine st11 _ ?_
    show Steps _ _ _ (T11.setTop (mkF m 25 (l_12 r0 p1 r2 r3) [])) _
    exact X11.returnOut hx Bd.returns (hb hby d36_25) hr
  · show Q36 Z r0 p1 r2 r3 h0 n0 _ T11.heap _
    rw [e11]
    exact ⟨rfl, N11, Kp16, Ex12, Fd13, Fd14, Fd15, Fw11⟩
def Q35 (Z : State) (r0 : Addr) (p1 : Int32) (r2 : Addr) (r3 : Addr) (h0 : Heap) (n0 : Nat) (v : Option Value) (h : Heap) (L : List Loc) : Prop := ∃ n : Addr, v = some (.ref n) ∧ Fr n0 L ∧ Keep h0 h [] ∧ h0.size ≤ n ∧ Exa Z h n "java/util/HashMap$Node" ∧ Fld Z h n "java/util/HashMap$Node" "hash" "I" (.int p1) ∧ Fld Z h n "java/util/HashMap$Node" "key" "Ljava/lang/Object;" (.ref r2) ∧ Fld Z h n "java/util/HashMap$Node" "value" "Ljava/lang/Object;" (.ref r3)
theorem d35_0 : decode jdk_69_method_46_code 0 = .ok (.new 163, 3) := by decide +kernel
theorem d35_3 : decode jdk_69_method_46_code 3 = .ok (.dup, 1) := by decide +kernel
theorem d35_4 : decode jdk_69_method_46_code 4 = .ok (.iload_n 1, 1) := by decide +kernel
theorem d35_5 : decode jdk_69_method_46_code 5 = .ok (.aload_n 2, 1) := by decide +kernel
theorem d35_6 : decode jdk_69_method_46_code 6 = .ok (.aload_n 3, 1) := by decide +kernel
theorem d35_7 : decode jdk_69_method_46_code 7 = .ok (.aload 4, 2) := by decide +kernel
theorem d35_9 : decode jdk_69_method_46_code 9 = .ok (.invokespecial 375, 3) := by decide +kernel
theorem pd__28ILjava_2flang_2fObject_3bLjava_2flang_2fObject_3bLjava_2futil_2fHashMap_24Node_3b_29V : parseMethodDescriptor "(ILjava/lang/Object;Ljava/lang/Object;Ljava/util/HashMap$Node;)V" = some ⟨[.int, (.object "java/lang/Object"), (.object "java/lang/Object"), (.object "java/util/HashMap$Node")], none⟩ := by decide +kernel
theorem d35_12 : decode jdk_69_method_46_code 12 = .ok (.areturn, 1) := by decide +kernel
theorem ef_35 (m : MethodId) (r0 : Addr) (p1 : Int32) (r2 : Addr) (r3 : Addr) : entryFrame m #[(.ref r0), (.int p1), (.ref r2), (.ref r3), .null] 5 = mkF m 0 #[.val (.ref r0), .val (.int p1), .val (.ref r2), .val (.ref r3), .val .null] [] := by first | (simp [entryFrame, mkF, argsToLocals, Value.category]; done) | rfl
set_option maxRecDepth 65536 in
set_option maxHeartbeats 40000000 in
theorem rm35 (l : Launch) (Z : State) (a0 : Array Value) (hw : ∀ d ∈ tables_1, d.before a0 Z = true) (ws : List Jvm.Cond) (r0 : Addr) (p1 : Int32) (r2 : Addr) (r3 : Addr)  (h0 : Heap) (n0 : Nat) (Z0 : n0 ≤ h0.size)  :
    MetFree l (⟨"java/util/HashMap", "newNode", "(ILjava/lang/Object;Ljava/lang/Object;Ljava/util/HashMap$Node;)Ljava/util/HashMap$Node;"⟩ : MethodName) (head1 (Jvm.Cond.code (⟨"java/util/HashMap", "newNode", "(ILjava/lang/Object;Ljava/lang/Object;Ljava/util/HashMap$Node;)Ljava/util/HashMap$Node;"⟩ : MethodName) jdk_69_method_46_code 5 (some (.object "java/util/HashMap$Node")) :: ws) ({ frames := 2, cells := 1, slots := 4, locals := 29 } : Room)) (fun a U => a = #[(.ref r0), (.int p1), (.ref r2), (.ref r3), .null] ∧ Z.Warmed39 U.vm ∧ U.heap = h0) (fun _ _ _ _ _ => True) (fun _ U o U' => ∃ v L, o = .returned v ∧ Q35 Z r0 p1 r2 r3 h0 n0 v U'.heap L ∧ FrameEnd U o U' L ({ frames := 2, cells := 1, slots := 4, locals := 29 } : Room).cells ({ frames := 2, cells := 1, slots := 4, locals := 29 } : Room).slots) := by
  refine MetFree.of_bodySF (plainFor_of_name pn_java_util_HashMap) hisR ?_
  intro p e s m args below meth c s₁ Bd hml0 hP hK
  obtain ⟨rfl, hZ, hh⟩ := hP
  have hx := Bd.exec
  have hby := Bd.bytes
  have hml : c.maxLocals = 5 := hml0
  have hown : s.vm.findClass "java/util/HashMap" = some m.cls := findClass_of_methodNamed Bd.named
  have hnm := (name_of_methodNamed Bd.named Bd.method).1
  have X0 : Stand p l e ({ frames := 2, cells := 1, slots := 4, locals := 29 } : Room) s m #[(.ref r0), (.int p1), (.ref r2), (.ref r3), .null] below meth c s₁ [] 0 0 := Stand.of_body Bd
  have e0 : s₁.heap = h0 := by rw [← hh, Bd.state]; rfl
  have N0 := Fr.nil n0
  have pre0 : ∀ t, Steps p.tables e below (s₁.setTop (mkF m 0 (l_12 r0 p1 r2 r3) [])) t → Steps p.tables e below (s₁.setTop (entryFrame m #[(.ref r0), (.int p1), (.ref r2), (.ref r3), .null] 5)) t := fun t k => castTop (ef_35 m r0 p1 r2 r3) k
  obtain ⟨T1, h1, X1, e1, E1, A1, D1, -, st1⟩ := newO X0 hx hZ hown (hw _ (tm 235 rfl)) (hw _ (tm 242 rfl)) (hw _ (tm 243 rfl)) e0 (g := (mkF m 0 (l_12 r0 p1 r2 r3) [])) rfl (hb hby d35_0) (by decide) (by decide)
  obtain ⟨b1, g1⟩ : ∃ z, z = h0.size := ⟨_, rfl⟩
  rw [← g1] at A1 D1 st1
  have g_b1 : n0 ≤ b1 := Nat.le_trans Z0 (Nat.le_of_eq g1.symm)
  have sz_b1 : h0.size ≤ b1 := Nat.le_trans (Keep.refl h0 []).1 (Nat.le_of_eq g1.symm)
  have F_hash_b1 : Fld Z h1 b1 "java/util/HashMap$Node" "hash" "I" (.int (0 : Int32)) := D1 (Or.inr (hw _ (tm 250 rfl))) (ty := .int) (by decide)
  have F_key_b1 : Fld Z h1 b1 "java/util/HashMap$Node" "key" "Ljava/lang/Object;" .null := D1 (Or.inr (hw _ (tm 252 rfl))) (ty := (.object "java/lang/Object")) (by decide)
  have F_value_b1 : Fld Z h1 b1 "java/util/HashMap$Node" "value" "Ljava/lang/Object;" .null := D1 (Or.inl (hw _ (tm 254 rfl))) (ty := (.object "java/lang/Object")) (by decide)
  have F_next_b1 : Fld Z h1 b1 "java/util/HashMap$Node" "next" "Ljava/util/HashMap$Node;" .null := D1 (Or.inl (hw _ (tm 256 rfl))) (ty := (.object "java/util/HashMap$Node")) (by decide)
  have Zz3 := (Nat.le_trans Z0 E1.1)
  have Kp4 := ((Keep.refl h0 []).ext E1)
  obtain ⟨_, _, ⟨T2, L2, k2, n2⟩, -, X2, ⟨Lc2, hQ2, l2, y2, z2⟩, st2⟩ := X1.specialBack hx (y := (⟨"java/util/HashMap$Node", "<init>", "(ILjava/lang/Object;Ljava/lang/Object;Ljava/util/HashMap$Node;)V"⟩ : MethodName)) rfl hown (mvT hZ (hw _ (tm 244 rfl))) (mvT hZ (hw _ (tm 245 rfl))) (mvT hZ (hw _ (tm 247 rfl))) (by decide) (backOf (W := 1) (rm36 l Z a0 hw [] b1 p1 r2 r3  h1 n0 Zz3 A1 F_hash_b1 F_key_b1 F_value_b1 F_next_b1 g_b1) hZ (hw _ (tm 247 rfl)) (hw _ (tm 243 rfl)) (by decide) (by decide)) (g := (mkF m 9 (l_12 r0 p1 r2 r3) [.null, (.ref r3), (.ref r2), (.int p1), (.ref b1), (.ref b1)])) rfl (by rw [hml]; rfl) (Steps.refl _) (a := b1) (argsL := [(.int p1), (.ref r2), (.ref r3), .null]) (rest := [(.ref b1)]) (lenOf pd__28ILjava_2flang_2fObject_3bLjava_2flang_2fObject_3bLjava_2futil_2fHashMap_24Node_3b_29V rfl) rfl (by show 2 * 0 + _ ≤ _; exact Nat.le_of_eq rfl) (hb hby d35_9) (fun _ _ => ⟨rfl, e1, (by decide : 1 + 0 ≤ _), (by decide : 4 + 0 ≤ _)⟩)
  dsimp only [Pt.U, Pt.locs, Pt.cells, Pt.slots] at X2 l2 y2 z2 st2 hQ2
  subst l2 y2 z2
  obtain ⟨rfl, N2q, K2, Pc2_0, Pc2_1, Pc2_2, Pc2_3, Pc2_4⟩ := hQ2
  have N2 := Fr.app N0 N2q
  have Kp5 := (Kp4.trans K2 (allS (Or.inr sz_b1) all0))
  obtain ⟨fs, hr, hrun, hended, hW, hsame⟩ := X2.leave (v := some (.ref b1)) (fun h => by rw [Bd.returns] at h; cases h)
  refine ⟨_, _, pre0 _ ?_, hrun, hended, _, _, rfl, ?_, ⟨_, rfl⟩, hW, hsame.mono (by decide) (by decide)⟩
  · show Steps _ _ _ (s₁.setTop (mkF m 0 (l_12 r0 p1 r2 r3) [])) _
    refine st1 _ ?_
    show Steps _ _ _ (T1.setTop (mkF m 3 (l_12 r0 p1 r2 r3) [(.ref b1)])) _
    refine XS.dup X1.here hx rfl (hb hby d35_3) rfl rfl ?_
    show Steps _ _ _ (T1.setTop (mkF m 4 (l_12 r0 p1 r2 r3) [(.ref b1), (.ref b1)])) _
    refine XS.iloadN X1.here hx rfl (hb hby d35_4) rfl ?_
    show Steps _ _ _ (T1.setTop (mkF m 5 (l_12 r0 p1 r2 r3) [(.int p1), (.ref b1), (.ref b1)])) _
    refine XS.aloadN X1.here hx rfl (hb hby d35_5) rfl rfl ?_
    show Steps _ _ _ (T1.setTop (mkF m 6 (l_12 r0 p1 r2 r3) [(.ref r2), (.int p1), (.ref b1), (.ref b1)])) _
    refine XS.aloadN X1.here hx rfl (hb hby d35_6) rfl rfl ?_
    show Steps _ _ _ (T1.setTop (mkF m 7 (l_12 r0 p1 r2 r3) [(.ref r3), (.ref r2), (.int p1), (.ref b1), (.ref b1)])) _
    refine XS.aload X1.here hx rfl (hb hby d35_7) rfl rfl ?_
    show Steps _ _ _ (T1.setTop (mkF m 9 (l_12 r0 p1 r2 r3) [.null, (.ref r3), (.ref r2), (.int p1), (.ref b1), (.ref b1)])) _
    refine st2.trans ?_
    show Steps _ _ _ (T2.setTop (mkF m 12 (l_12 r0 p1 r2 r3) [(.ref b1)])) _
    exact X2.areturnOut hx rfl Bd.returns rfl (hb hby d35_12) hr
  · show Q35 Z r0 p1 r2 r3 h0 n0 _ T2.heap _
    exact ⟨b1, rfl, N2, Kp5, sz_b1, Pc2_0, Pc2_1, Pc2_2, Pc2_3⟩
def Q37 (Z : State) (r0 : Addr) (p1 : Int32) (h0 : Heap) (n0 : Nat) (v : Option Value) (h : Heap) (L : List Loc) : Prop := v = none ∧ Fr n0 L ∧ h = h0
theorem d37_0 : decode jdk_69_method_52_code 0 = .ok (.return_, 1) := by decide +kernel
theorem ef_37 (m : MethodId) (r0 : Addr) (p1 : Int32) : entryFrame m #[(.ref r0), (.int p1)] 2 = mkF m 0 #[.val (.ref r0), .val (.int p1)] [] := by first | (simp [entryFrame, mkF, argsToLocals, Value.category]; done) | rfl
set_option maxRecDepth 65536 in
set_option maxHeartbeats 40000000 in
theorem rm37 (l : Launch) (Z : State) (a0 : Array Value) (hw : ∀ d ∈ tables_1, d.before a0 Z = true) (ws : List Jvm.Cond) (r0 : Addr) (p1 : Int32)  (h0 : Heap) (n0 : Nat) (Z0 : n0 ≤ h0.size)  :
    MetFree l (⟨"java/util/HashMap", "afterNodeInsertion", "(Z)V"⟩ : MethodName) (head1 (Jvm.Cond.code (⟨"java/util/HashMap", "afterNodeInsertion", "(Z)V"⟩ : MethodName) jdk_69_method_52_code 2 none :: ws) ({ frames := 0, cells := 0, slots := 0, locals := 0 } : Room)) (fun a U => a = #[(.ref r0), (.int p1)] ∧ Z.Warmed39 U.vm ∧ U.heap = h0) (fun _ _ _ _ _ => True) (fun _ U o U' => ∃ v L, o = .returned v ∧ Q37 Z r0 p1 h0 n0 v U'.heap L ∧ FrameEnd U o U' L ({ frames := 0, cells := 0, slots := 0, locals := 0 } : Room).cells ({ frames := 0, cells := 0, slots := 0, locals := 0 } : Room).slots) := by
  refine MetFree.of_bodySF (plainFor_of_name pn_java_util_HashMap) hisR ?_
  intro p e s m args below meth c s₁ Bd hml0 hP hK
  obtain ⟨rfl, hZ, hh⟩ := hP
  have hx := Bd.exec
  have hby := Bd.bytes
  have hml : c.maxLocals = 2 := hml0
  have hown : s.vm.findClass "java/util/HashMap" = some m.cls := findClass_of_methodNamed Bd.named
  have hnm := (name_of_methodNamed Bd.named Bd.method).1
  have X0 : Stand p l e ({ frames := 0, cells := 0, slots := 0, locals := 0 } : Room) s m #[(.ref r0), (.int p1)] below meth c s₁ [] 0 0 := Stand.of_body Bd
  have e0 : s₁.heap = h0 := by rw [← hh, Bd.state]; rfl
  have N0 := Fr.nil n0
  have pre0 : ∀ t, Steps p.tables e below (s₁.setTop (mkF m 0 (l_7 r0 p1) [])) t → Steps p.tables e below (s₁.setTop (entryFrame m #[(.ref r0), (.int p1)] 2)) t := fun t k => castTop (ef_37 m r0 p1) k
  obtain ⟨fs, hr, hrun, hended, hW, hsame⟩ := X0.leave (v := none) (fun _ => rfl)
  refine ⟨_, _, pre0 _ ?_, hrun, hended, _, _, rfl, ?_, ⟨_, rfl⟩, hW, hsame.mono (by decide) (by decide)⟩
  · show Steps _ _ _ (s₁.setTop (mkF m 0 (l_7 r0 p1) [])) _
    exact X0.returnOut hx Bd.returns (hb hby d37_0) hr
  · show Q37 Z r0 p1 h0 n0 _ s₁.heap _
    rw [e0]
    exact ⟨rfl, N0, rfl⟩
def Q34 (Z : State) (r0 : Addr) (h0 : Heap) (n0 : Nat) (v : Option Value) (h : Heap) (L : List Loc) : Prop := ∃ t : Addr, ∃ kt : ClassId, v = some (.ref t) ∧ Fr n0 L ∧ Keep h0 h [r0] ∧ h0.size ≤ t ∧ Exa Z h r0 "java/util/HashMap" ∧ Fld Z h r0 "java/util/HashMap" "table" "[Ljava/util/HashMap$Node;" (.ref t) ∧ Fld Z h r0 "java/util/HashMap" "threshold" "I" (.int (12 : Int32)) ∧ Fld Z h r0 "java/util/HashMap" "size" "I" (.int (0 : Int32)) ∧ Fld Z h r0 "java/util/HashMap" "modCount" "I" (.int (0 : Int32)) ∧ Arv Z h t kt (.object "java/util/HashMap$Node") (16 : Int32) (List.replicate 16 Value.null) .null ∧ Ovr Z kt "java/util/HashMap$Node"
theorem d34_0 : decode jdk_69_method_17_code 0 = .ok (.aload_n 0, 1) := by decide +kernel
theorem d34_1 : decode jdk_69_method_17_code 1 = .ok (.getfield 105, 3) := by decide +kernel
theorem d34_4 : decode jdk_69_method_17_code 4 = .ok (.astore_n 1, 1) := by decide +kernel
theorem d34_5 : decode jdk_69_method_17_code 5 = .ok (.aload_n 1, 1) := by decide +kernel
theorem d34_6 : decode jdk_69_method_17_code 6 = .ok (.ifnonnull 7, 3) := by decide +kernel
theorem d34_9 : decode jdk_69_method_17_code 9 = .ok (.iconst 0, 1) := by decide +kernel
theorem d34_10 : decode jdk_69_method_17_code 10 = .ok (.goto 5, 3) := by decide +kernel
theorem d34_15 : decode jdk_69_method_17_code 15 = .ok (.istore_n 2, 1) := by decide +kernel
theorem d34_16 : decode jdk_69_method_17_code 16 = .ok (.aload_n 0, 1) := by decide +kernel
theorem d34_17 : decode jdk_69_method_17_code 17 = .ok (.getfield 88, 3) := by decide +kernel
theorem d34_20 : decode jdk_69_method_17_code 20 = .ok (.istore_n 3, 1) := by decide +kernel
theorem d34_21 : decode jdk_69_method_17_code 21 = .ok (.iconst 0, 1) := by decide +kernel
theorem d34_22 : decode jdk_69_method_17_code 22 = .ok (.istore 5, 2) := by decide +kernel
theorem d34_24 : decode jdk_69_method_17_code 24 = .ok (.iload_n 2, 1) := by decide +kernel
theorem d34_25 : decode jdk_69_method_17_code 25 = .ok (.ifCond .le 42, 3) := by decide +kernel
theorem d34_67 : decode jdk_69_method_17_code 67 = .ok (.iload_n 3, 1) := by decide +kernel
theorem d34_68 : decode jdk_69_method_17_code 68 = .ok (.ifCond .le 9, 3) := by decide +kernel
theorem d34_77 : decode jdk_69_method_17_code 77 = .ok (.bipush 16, 2) := by decide +kernel
theorem d34_79 : decode jdk_69_method_17_code 79 = .ok (.istore 4, 2) := by decide +kernel
theorem d34_81 : decode jdk_69_method_17_code 81 = .ok (.bipush 12, 2) := by decide +kernel
theorem d34_83 : decode jdk_69_method_17_code 83 = .ok (.istore 5, 2) := by decide +kernel
theorem d34_85 : decode jdk_69_method_17_code 85 = .ok (.iload 5, 2) := by decide +kernel
theorem d34_87 : decode jdk_69_method_17_code 87 = .ok (.ifCond .ne 38, 3) := by decide +kernel
theorem d34_125 : decode jdk_69_method_17_code 125 = .ok (.aload_n 0, 1) := by decide +kernel
theorem d34_126 : decode jdk_69_method_17_code 126 = .ok (.iload 5, 2) := by decide +kernel
theorem d34_128 : decode jdk_69_method_17_code 128 = .ok (.putfield 88, 3) := by decide +kernel
theorem d34_131 : decode jdk_69_method_17_code 131 = .ok (.iload 4, 2) := by decide +kernel
theorem d34_133 : decode jdk_69_method_17_code 133 = .ok (.anewarray 163, 3) := by decide +kernel
theorem d34_136 : decode jdk_69_method_17_code 136 = .ok (.astore 6, 2) := by decide +kernel
theorem d34_138 : decode jdk_69_method_17_code 138 = .ok (.aload_n 0, 1) := by decide +kernel
theorem d34_139 : decode jdk_69_method_17_code 139 = .ok (.aload 6, 2) := by decide +kernel
theorem d34_141 : decode jdk_69_method_17_code 141 = .ok (.putfield 105, 3) := by decide +kernel
theorem d34_144 : decode jdk_69_method_17_code 144 = .ok (.aload_n 1, 1) := by decide +kernel
theorem d34_145 : decode jdk_69_method_17_code 145 = .ok (.ifnull 208, 3) := by decide +kernel
theorem d34_353 : decode jdk_69_method_17_code 353 = .ok (.aload 6, 2) := by decide +kernel
theorem d34_355 : decode jdk_69_method_17_code 355 = .ok (.areturn, 1) := by decide +kernel
theorem ef_34 (m : MethodId) (r0 : Addr) : entryFrame m #[(.ref r0)] 14 = mkF m 0 #[.val (.ref r0), .unset, .unset, .unset, .unset, .unset, .unset, .unset, .unset, .unset, .unset, .unset, .unset, .unset] [] := by first | (simp [entryFrame, mkF, argsToLocals, Value.category]; done) | rfl
set_option maxRecDepth 65536 in
set_option maxHeartbeats 40000000 in
theorem rm34 (l : Launch) (Z : State) (a0 : Array Value) (hw : ∀ d ∈ tables_1, d.before a0 Z = true) (ws : List Jvm.Cond) (r0 : Addr)  (h0 : Heap) (n0 : Nat) (Z0 : n0 ≤ h0.size) (Hp0 : Exa Z h0 r0 "java/util/HashMap") (Hp1 : Fld Z h0 r0 "java/util/HashMap" "table" "[Ljava/util/HashMap$Node;" .null) (Hp2 : Fld Z h0 r0 "java/util/HashMap" "threshold" "I" (.int (0 : Int32))) (Hp3 : Fld Z h0 r0 "java/util/HashMap" "size" "I" (.int (0 : Int32))) (Hp4 : Fld Z h0 r0 "java/util/HashMap" "modCount" "I" (.int (0 : Int32))) (Hp5 : n0 ≤ r0) :
    MetFree l (⟨"java/util/HashMap", "resize", "()[Ljava/util/HashMap$Node;"⟩ : MethodName) (head1 (Jvm.Cond.code (⟨"java/util/HashMap", "resize", "()[Ljava/util/HashMap$Node;"⟩ : MethodName) jdk_69_method_17_code 14 (some (.array (.object "java/util/HashMap$Node"))) :: ws) ({ frames := 0, cells := 1, slots := 16, locals := 0 } : Room)) (fun a U => a = #[(.ref r0)] ∧ Z.Warmed39 U.vm ∧ U.heap = h0) (fun _ _ _ _ _ => True) (fun _ U o U' => ∃ v L, o = .returned v ∧ Q34 Z r0 h0 n0 v U'.heap L ∧ FrameEnd U o U' L ({ frames := 0, cells := 1, slots := 16, locals := 0 } : Room).cells ({ frames := 0, cells := 1, slots := 16, locals := 0 } : Room).slots) := by
  refine MetFree.of_bodySF (plainFor_of_name pn_java_util_HashMap) hisR ?_
  intro p e s m args below meth c s₁ Bd hml0 hP hK
  obtain ⟨rfl, hZ, hh⟩ := hP
  have hx := Bd.exec
  have hby := Bd.bytes
  have hml : c.maxLocals = 14 := hml0
  have hown : s.vm.findClass "java/util/HashMap" = some m.cls := findClass_of_methodNamed Bd.named
  have hnm := (name_of_methodNamed Bd.named Bd.method).1
  have X0 : Stand p l e ({ frames := 0, cells := 1, slots := 16, locals := 0 } : Room) s m #[(.ref r0)] below meth c s₁ [] 0 0 := Stand.of_body Bd
  have e0 : s₁.heap = h0 := by rw [← hh, Bd.state]; rfl
  have N0 := Fr.nil n0
  have pre0 : ∀ t, Steps p.tables e below (s₁.setTop (mkF m 0 (l_13 r0) [])) t → Steps p.tables e below (s₁.setTop (entryFrame m #[(.ref r0)] 14)) t := fun t k => castTop (ef_34 m r0) k
  obtain ⟨T1, X1, e1, st1⟩ := getF X0 hx hZ hown (host := "") (Or.inl (hw _ (tm 226 rfl))) Via.refl e0 Hp1 (g := (mkF m 1 (l_13 r0) [(.ref r0)])) rfl rfl (hb hby d34_1)
  obtain ⟨T2, X2, e2, st2⟩ := getF X1 hx hZ hown (host := "") (Or.inl (hw _ (tm 233 rfl))) Via.refl e1 Hp2 (g := (mkF m 17 (l_14 r0 (0 : Int32)) [(.ref r0)])) rfl rfl (hb hby d34_17)
  obtain ⟨T3, h3, X3, e3, W3, st3⟩ := putF X2 hx hZ hown (host := "") (Or.inl (hw _ (tm 233 rfl))) Via.refl e2 Hp2 Hp0 (Or.inl (hw _ (tm 234 rfl))) (hw _ (tm 81 rfl)) (ty := .int) (by decide) rfl rfl (g := (mkF m 128 (l_15 r0 (0 : Int32) (0 : Int32) (16 : Int32) (12 : Int32)) [(.int (12 : Int32)), (.ref r0)])) rfl rfl (hb hby d34_128)
  have N3 := Fr.snoc X3 N0 Hp5
  have Fw3 := Hp2.same W3
  obtain ⟨T4, h4, k4, X4, e4, E4, A4, Ov4, st4⟩ := newR X3 hx hZ hown (hw _ (tm 235 rfl)) (hw _ (tm 236 rfl)) e3 (g := (mkF m 133 (l_15 r0 (0 : Int32) (0 : Int32) (16 : Int32) (12 : Int32)) [(.int (16 : Int32))])) rfl (hb hby d34_133) rfl (by decide) (cap := 16) (by decide) (by decide) (by decide) (by decide)
  obtain ⟨b4, g4⟩ : ∃ z, z = h3.size := ⟨_, rfl⟩
  rw [← g4] at A4 st4
  have Zz5 := (Nat.le_trans Z0 (Keep.of_wr W3).1)
  have g_b4 : n0 ≤ b4 := Nat.le_trans Zz5 (Nat.le_of_eq g4.symm)
  have Kp6 := ((Keep.refl h0 [r0]).wr W3 (Or.inl (tm 0 rfl)))
  have sz_b4 : h0.size ≤ b4 := Nat.le_trans Kp6.1 (Nat.le_of_eq g4.symm)
  have Ex7 := (Hp0.wr W3)
  have ne_r0_b4 : r0 ≠ b4 := Nat.ne_of_lt (Nat.lt_of_lt_of_le Ex7.lt (Nat.le_of_eq g4.symm))
  have V_b4 : Arv Z h4 b4 k4 (.object "java/util/HashMap$Node") (16 : Int32) (List.replicate 16 Value.null) .null := (Arv.new A4 (by decide)).pad (pad_rep [] .null 16)
  have Ex8 := (Ex7.ext E4)
  have Fd9 := ((Hp1.other W3 (Or.inr (slot_ne (Or.inl (hw _ (tm 227 rfl))) (Or.inl (hw _ (tm 234 rfl))) (by decide) (t := (.array (.object "java/util/HashMap$Node"))) (t' := .int) (by decide) (by decide)))).ext E4)
  obtain ⟨T10, h10, X10, e10, W10, st10⟩ := putF X4 hx hZ hown (host := "") (Or.inl (hw _ (tm 226 rfl))) Via.refl e4 Fd9 Ex8 (Or.inl (hw _ (tm 227 rfl))) (hw _ (tm 81 rfl)) (ty := (.array (.object "java/util/HashMap$Node"))) (by decide) rfl rfl (g := (mkF m 141 (l_16 r0 (0 : Int32) (0 : Int32) (16 : Int32) (12 : Int32) b4) [(.ref b4), (.ref r0)])) rfl rfl (hb hby d34_141)
  have N10 := Fr.snoc X10 N3 Hp5
  have Fw10 := Fd9.same W10
  have Ex11 := (Ex8.wr W10)
  have Fd12 := ((Fw3.ext E4).other W10 (Or.inr (slot_ne (Or.inl (hw _ (tm 234 rfl))) (Or.inl (hw _ (tm 227 rfl))) (by decide) (t := .int) (t' := (.array (.object "java/util/HashMap$Node"))) (by decide) (by decide))))
  have Fd13 := (((Hp3.other W3 (Or.inr (slot_ne (Or.inl (hw _ (tm 260 rfl))) (Or.inl (hw _ (tm 234 rfl))) (by decide) (t := .int) (t' := .int) (by decide) (by decide)))).ext E4).other W10 (Or.inr (slot_ne (Or.inl (hw _ (tm 260 rfl))) (Or.inl (hw _ (tm 227 rfl))) (by decide) (t := .int) (t' := (.array (.object "java/util/HashMap$Node"))) (by decide) (by decide))))
  have Fd14 := (((Hp4.other W3 (Or.inr (slot_ne (Or.inl (hw _ (tm 258 rfl))) (Or.inl (hw _ (tm 234 rfl))) (by decide) (t := .int) (t' := .int) (by decide) (by decide)))).ext E4).other W10 (Or.inr (slot_ne (Or.inl (hw _ (tm 258 rfl))) (Or.inl (hw _ (tm 227 rfl))) (by decide) (t := .int) (t' := (.array (.object "java/util/HashMap$Node"))) (by decide) (by decide))))
  have Av15 := (V_b4.other W10 (Ne.symm ne_r0_b4))
  have Kp16 := ((Kp6.ext E4).wr W10 (Or.inl (tm 0 rfl)))
  obtain ⟨fs, hr, hrun, hended, hW, hsame⟩ := X10.leave (v := some (.ref b4)) (fun h => by rw [Bd.returns] at h; cases h)
  refine ⟨_, _, pre0 _ ?_, hrun, hended, _, _, rfl, ?_, ⟨_, rfl⟩, hW, hsame.mono (by decide) (by decide)⟩
  · show Steps _ _ _ (s₁.setTop (mkF m 0 (l_13 r0) [])) _
    refine XS.aloadN X0.here hx rfl (hb hby d34_0) rfl rfl ?_
    show Steps _ _ _ (s₁.setTop (mkF m 1 (l_13 r0) [(.ref r0)])) _
    refine st1 _ ?_
    show Steps _ _ _ (T1.setTop (mkF m 4 (l_13 r0) [.null])) _
    refine XS.astoreN X1.here hx rfl (hb hby d34_4) rfl rfl (l' := (l_17 r0)) rfl ?_
    show Steps _ _ _ (T1.setTop (mkF m 5 (l_17 r0) [])) _
    refine XS.aloadN X1.here hx rfl (hb hby d34_5) rfl rfl ?_
    show Steps _ _ _ (T1.setTop (mkF m 6 (l_17 r0) [.null])) _
    refine XS.ifnonnullNo X1.here hx rfl (hb hby d34_6) rfl ?_
    show Steps _ _ _ (T1.setTop (mkF m 9 (l_17 r0) [])) _
    refine XS.iconst X1.here hx rfl (hb hby d34_9) ?_
    show Steps _ _ _ (T1.setTop (mkF m 10 (l_17 r0) [(.int (0 : Int32))])) _
    refine XS.goto X1.here hx rfl (pc0 := 10) (pc' := 15) rfl (hb hby d34_10) (by decide) (by decide) ?_
    show Steps _ _ _ (T1.setTop (mkF m 15 (l_17 r0) [(.int (0 : Int32))])) _
    refine XS.istoreN X1.here hx rfl (hb hby d34_15) rfl (l' := (l_14 r0 (0 : Int32))) rfl ?_
    show Steps _ _ _ (T1.setTop (mkF m 16 (l_14 r0 (0 : Int32)) [])) _
    refine XS.aloadN X1.here hx rfl (hb hby d34_16) rfl rfl ?_
    show Steps _ _ _ (T1.setTop (mkF m 17 (l_14 r0 (0 : Int32)) [(.ref r0)])) _
    refine st2 _ ?_
    show Steps _ _ _ (T2.setTop (mkF m 20 (l_14 r0 (0 : Int32)) [(.int (0 : Int32))])) _
    refine XS.istoreN X2.here hx rfl (hb hby d34_20) rfl (l' := #[.val (.ref r0), .val .null, .val (.int (0 : Int32)), .val (.int (0 : Int32)), .unset, .unset, .unset, .unset, .unset, .unset, .unset, .unset, .unset, .unset]) rfl ?_
    show Steps _ _ _ (T2.setTop (mkF m 21 #[.val (.ref r0), .val .null, .val (.int (0 : Int32)), .val (.int (0 : Int32)), .unset, .unset, .unset, .unset, .unset, .unset, .unset, .unset, .unset, .unset] [])) _
    refine XS.iconst X2.here hx rfl (hb hby d34_21) ?_
    show Steps _ _ _ (T2.setTop (mkF m 22 #[.val (.ref r0), .val .null, .val (.int (0 : Int32)), .val (.int (0 : Int32)), .unset, .unset, .unset, .unset, .unset, .unset, .unset, .unset, .unset, .unset] [(.int (0 : Int32))])) _
    refine XS.istore X2.here hx rfl (hb hby d34_22) rfl (l' := (l_18 r0 (0 : Int32) (0 : Int32) (0 : Int32))) rfl ?_
    show Steps _ _ _ (T2.setTop (mkF m 24 (l_18 r0 (0 : Int32) (0 : Int32) (0 : Int32)) [])) _
    refine XS.iloadN X2.here hx rfl (hb hby d34_24) rfl ?_
    show Steps _ _ _ (T2.setTop (mkF m 25 (l_18 r0 (0 : Int32) (0 : Int32) (0 : Int32)) [(.int (0 : Int32))])) _
    refine XS.ifYes X2.here hx rfl (pc0 := 25) (pc' := 67) rfl (hb hby d34_25) rfl ((if0 _ _).trans (flt (by decide)).2.2.2) (by decide) (by decide) ?_
    show Steps _ _ _ (T2.setTop (mkF m 67 (l_18 r0 (0 : Int32) (0 : Int32) (0 : Int32)) [])) _
    refine XS.iloadN X2.here hx rfl (hb hby d34_67) rfl ?_
    show Steps _ _ _ (T2.setTop (mkF m 68 (l_18 r0 (0 : Int32) (0 : Int32) (0 : Int32)) [(.int (0 : Int32))])) _
    refine XS.ifYes X2.here hx rfl (pc0 := 68) (pc' := 77) rfl (hb hby d34_68) rfl ((if0 _ _).trans (flt (by decide)).2.2.2) (by decide) (by decide) ?_
    show Steps _ _ _ (T2.setTop (mkF m 77 (l_18 r0 (0 : Int32) (0 : Int32) (0 : Int32)) [])) _
    refine XS.bipush X2.here hx rfl (hb hby d34_77) ?_
    show Steps _ _ _ (T2.setTop (mkF m 79 (l_18 r0 (0 : Int32) (0 : Int32) (0 : Int32)) [(.int (16 : Int32))])) _
    refine XS.istore X2.here hx rfl (hb hby d34_79) rfl (l' := (l_15 r0 (0 : Int32) (0 : Int32) (16 : Int32) (0 : Int32))) rfl ?_
    show Steps _ _ _ (T2.setTop (mkF m 81 (l_15 r0 (0 : Int32) (0 : Int32) (16 : Int32) (0 : Int32)) [])) _
    refine XS.bipush X2.here hx rfl (hb hby d34_81) ?_
    show Steps _ _ _ (T2.setTop (mkF m 83 (l_15 r0 (0 : Int32) (0 : Int32) (16 : Int32) (0 : Int32)) [(.int (12 : Int32))])) _
    refine XS.istore X2.here hx rfl (hb hby d34_83) rfl (l' := (l_15 r0 (0 : Int32) (0 : Int32) (16 : Int32) (12 : Int32))) rfl ?_
    show Steps _ _ _ (T2.setTop (mkF m 85 (l_15 r0 (0 : Int32) (0 : Int32) (16 : Int32) (12 : Int32)) [])) _
    refine XS.iload X2.here hx rfl (hb hby d34_85) rfl ?_
    show Steps _ _ _ (T2.setTop (mkF m 87 (l_15 r0 (0 : Int32) (0 : Int32) (16 : Int32) (12 : Int32)) [(.int (12 : Int32))])) _
    refine XS.ifYes X2.here hx rfl (pc0 := 87) (pc' := 125) rfl (hb hby d34_87) rfl ((if0 _ _).trans (feq (by decide)).2) (by decide) (by decide) ?_
    show Steps _ _ _ (T2.setTop (mkF m 125 (l_15 r0 (0 : Int32) (0 : Int32) (16 : Int32) (12 : Int32)) [])) _
    refine XS.aloadN X2.here hx rfl (hb hby d34_125) rfl rfl ?_
    show Steps _ _ _ (T2.setTop (mkF m 126 (l_15 r0 (0 : Int32) (0 : Int32) (16 : Int32) (12 : Int32)) [(.ref r0)])) _
    refine XS.iload X2.here hx rfl (hb hby d34_126) rfl ?_
    show Steps _ _ _ (T2.setTop (mkF m 128 (l_15 r0 (0 : Int32) (0 : Int32) (16 : Int32) (12 : Int32)) [(.int (12 : Int32)), (.ref r0)])) _
    refine st3 _ ?_
    show Steps _ _ _ (T3.setTop (mkF m 131 (l_15 r0 (0 : Int32) (0 : Int32) (16 : Int32) (12 : Int32)) [])) _
    refine XS.iload X3.here hx rfl (hb hby d34_131) rfl ?_
    show Steps _ _ _ (T3.setTop (mkF m 133 (l_15 r0 (0 : Int32) (0 : Int32) (16 : Int32) (12 : Int32)) [(.int (16 : Int32))])) _
    refine st4 _ ?_
    show Steps _ _ _ (T4.setTop (mkF m 136 (l_15 r0 (0 : Int32) (0 : Int32) (16 : Int32) (12 : Int32)) [(.ref b4)])) _
    refine XS.astore X4.here hx rfl (hb hby d34_136) rfl rfl (l' := (l_16 r0 (0 : Int32) (0 : Int32) (16 : Int32) (12 : Int32) b4)) rfl ?_
    show Steps _ _ _ (T4.setTop (mkF m 138 (l_16 r0 (0 : Int32) (0 : Int32) (16 : Int32) (12 : Int32) b4) [])) _
    refine XS.aloadN X4.here hx rfl (hb hby d34_138) rfl rfl ?_
    show Steps _ _ _ (T4.setTop (mkF m 139 (l_16 r0 (0 : Int32) (0 : Int32) (16 : Int32) (12 : Int32) b4) [(.ref r0)])) _
    refine XS.aload X4.here hx rfl (hb hby d34_139) rfl rfl ?_
    show Steps _ _ _ (T4.setTop (mkF m 141 (l_16 r0 (0 : Int32) (0 : Int32) (16 : Int32) (12 : Int32) b4) [(.ref b4), (.ref r0)])) _
    refine st10 _ ?_
    show Steps _ _ _ (T10.setTop (mkF m 144 (l_16 r0 (0 : Int32) (0 : Int32) (16 : Int32) (12 : Int32) b4) [])) _
    refine XS.aloadN X10.here hx rfl (hb hby d34_144) rfl rfl ?_
    show Steps _ _ _ (T10.setTop (mkF m 145 (l_16 r0 (0 : Int32) (0 : Int32) (16 : Int32) (12 : Int32) b4) [.null])) _
    refine XS.ifnullYes X10.here hx rfl (pc0 := 145) (pc' := 353) rfl (hb hby d34_145) rfl (by decide) (by decide) ?_
    show Steps _ _ _ (T10.setTop (mkF m 353 (l_16 r0 (0 : Int32) (0 : Int32) (16 : Int32) (12 : Int32) b4) [])) _
    refine XS.aload X10.here hx rfl (hb hby d34_353) rfl rfl ?_
    show Steps _ _ _ (T10.setTop (mkF m 355 (l_16 r0 (0 : Int32) (0 : Int32) (16 : Int32) (12 : Int32) b4) [(.ref b4)])) _
    exact X10.areturnOut hx rfl Bd.returns rfl (hb hby d34_355) hr
  · show Q34 Z r0 h0 n0 _ T10.heap _
    rw [e10]
    exact ⟨b4, k4, rfl, N10, Kp16, sz_b4, Ex11, Fw10, Fd12, Fd13, Fd14, Av15, Ov4⟩
def Ix (b : Int32) (i : Nat) : Prop := (¬ ((15 : Int32) &&& b) < 0 ∧ ((15 : Int32) &&& b) < (16 : Int32)) ∧ ((15 : Int32) &&& b).toNatClampNeg = i ∧ i < 16
theorem own_rep (i : Nat) : (List.replicate 16 Value.null).getD i .null = .null := by
  simp only [List.getD_eq_getElem?_getD, List.getElem?_replicate]; split <;> rfl
def Q33_f (Z : State) (r0 : Addr) (p1 : Int32) (r2 : Addr) (r3 : Addr) (p4 : Int32) (p5 : Int32) (i : Nat) (h0 : Heap) (n0 : Nat) (v : Option Value) (h : Heap) (L : List Loc) : Prop := ∃ t : Addr, ∃ kt : ClassId, ∃ n : Addr, v = some .null ∧ Fr n0 L ∧ Keep h0 h [r0] ∧ h0.size ≤ t ∧ h0.size ≤ n ∧ Exa Z h r0 "java/util/HashMap" ∧ Fld Z h r0 "java/util/HashMap" "table" "[Ljava/util/HashMap$Node;" (.ref t) ∧ Fld Z h r0 "java/util/HashMap" "threshold" "I" (.int (12 : Int32)) ∧ Fld Z h r0 "java/util/HashMap" "size" "I" (.int (1 : Int32)) ∧ Fld Z h r0 "java/util/HashMap" "modCount" "I" (.int (1 : Int32)) ∧ Arv Z h t kt (.object "java/util/HashMap$Node") (16 : Int32) ((List.replicate 16 Value.null).set i (.ref n)) .null ∧ Ovr Z kt "java/util/HashMap$Node" ∧ Exa Z h n "java/util/HashMap$Node" ∧ Fld Z h n "java/util/HashMap$Node" "hash" "I" (.int p1) ∧ Fld Z h n "java/util/HashMap$Node" "key" "Ljava/lang/Object;" (.ref r2) ∧ Fld Z h n "java/util/HashMap$Node" "value" "Ljava/lang/Object;" (.ref r3) ∧ t ≠ n
theorem d33_0 : decode jdk_69_method_16_code 0 = .ok (.aload_n 0, 1) := by decide +kernel
theorem d33_1 : decode jdk_69_method_16_code 1 = .ok (.getfield 105, 3) := by decide +kernel
theorem d33_4 : decode jdk_69_method_16_code 4 = .ok (.dup, 1) := by decide +kernel
theorem d33_5 : decode jdk_69_method_16_code 5 = .ok (.astore 6, 2) := by decide +kernel
theorem d33_7 : decode jdk_69_method_16_code 7 = .ok (.ifnull 12, 3) := by decide +kernel
theorem d33_19 : decode jdk_69_method_16_code 19 = .ok (.aload_n 0, 1) := by decide +kernel
theorem d33_20 : decode jdk_69_method_16_code 20 = .ok (.invokevirtual 117, 3) := by decide +kernel
theorem pd__28_29_5bLjava_2futil_2fHashMap_24Node_3b : parseMethodDescriptor "()[Ljava/util/HashMap$Node;" = some ⟨[], some (.array (.object "java/util/HashMap$Node"))⟩ := by decide +kernel
theorem d33_23 : decode jdk_69_method_16_code 23 = .ok (.dup, 1) := by decide +kernel
theorem d33_24 : decode jdk_69_method_16_code 24 = .ok (.astore 6, 2) := by decide +kernel
theorem d33_26 : decode jdk_69_method_16_code 26 = .ok (.arraylength, 1) := by decide +kernel
theorem d33_27 : decode jdk_69_method_16_code 27 = .ok (.istore 8, 2) := by decide +kernel
theorem d33_29 : decode jdk_69_method_16_code 29 = .ok (.aload 6, 2) := by decide +kernel
theorem d33_31 : decode jdk_69_method_16_code 31 = .ok (.iload 8, 2) := by decide +kernel
theorem d33_33 : decode jdk_69_method_16_code 33 = .ok (.iconst 1, 1) := by decide +kernel
theorem d33_34 : decode jdk_69_method_16_code 34 = .ok (.isub, 1) := by decide +kernel
theorem d33_35 : decode jdk_69_method_16_code 35 = .ok (.iload_n 1, 1) := by decide +kernel
theorem d33_36 : decode jdk_69_method_16_code 36 = .ok (.iand, 1) := by decide +kernel
theorem d33_37 : decode jdk_69_method_16_code 37 = .ok (.dup, 1) := by decide +kernel
theorem d33_38 : decode jdk_69_method_16_code 38 = .ok (.istore 9, 2) := by decide +kernel
theorem d33_40 : decode jdk_69_method_16_code 40 = .ok (.aaload, 1) := by decide +kernel
theorem d33_41 : decode jdk_69_method_16_code 41 = .ok (.dup, 1) := by decide +kernel
theorem d33_42 : decode jdk_69_method_16_code 42 = .ok (.astore 7, 2) := by decide +kernel
theorem d33_44 : decode jdk_69_method_16_code 44 = .ok (.ifnonnull 19, 3) := by decide +kernel
theorem d33_47 : decode jdk_69_method_16_code 47 = .ok (.aload 6, 2) := by decide +kernel
theorem d33_49 : decode jdk_69_method_16_code 49 = .ok (.iload 9, 2) := by decide +kernel
theorem d33_51 : decode jdk_69_method_16_code 51 = .ok (.aload_n 0, 1) := by decide +kernel
theorem d33_52 : decode jdk_69_method_16_code 52 = .ok (.iload_n 1, 1) := by decide +kernel
theorem d33_53 : decode jdk_69_method_16_code 53 = .ok (.aload_n 2, 1) := by decide +kernel
theorem d33_54 : decode jdk_69_method_16_code 54 = .ok (.aload_n 3, 1) := by decide +kernel
theorem d33_55 : decode jdk_69_method_16_code 55 = .ok (.aconst_null, 1) := by decide +kernel
theorem d33_56 : decode jdk_69_method_16_code 56 = .ok (.invokevirtual 186, 3) := by decide +kernel
theorem pd__28ILjava_2flang_2fObject_3bLjava_2flang_2fObject_3bLjava_2futil_2fHashMap_24Node_3b_29Ljava_2futil_2fHashMap_24Node_3b : parseMethodDescriptor "(ILjava/lang/Object;Ljava/lang/Object;Ljava/util/HashMap$Node;)Ljava/util/HashMap$Node;" = some ⟨[.int, (.object "java/lang/Object"), (.object "java/lang/Object"), (.object "java/util/HashMap$Node")], some (.object "java/util/HashMap$Node")⟩ := by decide +kernel
theorem d33_59 : decode jdk_69_method_16_code 59 = .ok (.aastore, 1) := by decide +kernel
theorem d33_60 : decode jdk_69_method_16_code 60 = .ok (.goto 199, 3) := by decide +kernel
theorem d33_259 : decode jdk_69_method_16_code 259 = .ok (.aload_n 0, 1) := by decide +kernel
theorem d33_260 : decode jdk_69_method_16_code 260 = .ok (.dup, 1) := by decide +kernel
theorem d33_261 : decode jdk_69_method_16_code 261 = .ok (.getfield 202, 3) := by decide +kernel
theorem d33_264 : decode jdk_69_method_16_code 264 = .ok (.iconst 1, 1) := by decide +kernel
theorem d33_265 : decode jdk_69_method_16_code 265 = .ok (.iadd, 1) := by decide +kernel
theorem d33_266 : decode jdk_69_method_16_code 266 = .ok (.putfield 202, 3) := by decide +kernel
theorem d33_269 : decode jdk_69_method_16_code 269 = .ok (.aload_n 0, 1) := by decide +kernel
theorem d33_270 : decode jdk_69_method_16_code 270 = .ok (.dup, 1) := by decide +kernel
theorem d33_271 : decode jdk_69_method_16_code 271 = .ok (.getfield 156, 3) := by decide +kernel
theorem d33_274 : decode jdk_69_method_16_code 274 = .ok (.iconst 1, 1) := by decide +kernel
theorem d33_275 : decode jdk_69_method_16_code 275 = .ok (.iadd, 1) := by decide +kernel
theorem d33_276 : decode jdk_69_method_16_code 276 = .ok (.dup_x1, 1) := by decide +kernel
theorem d33_277 : decode jdk_69_method_16_code 277 = .ok (.putfield 156, 3) := by decide +kernel
theorem d33_280 : decode jdk_69_method_16_code 280 = .ok (.aload_n 0, 1) := by decide +kernel
theorem d33_281 : decode jdk_69_method_16_code 281 = .ok (.getfield 88, 3) := by decide +kernel
theorem d33_284 : decode jdk_69_method_16_code 284 = .ok (.if_icmp .le 8, 3) := by decide +kernel
theorem d33_292 : decode jdk_69_method_16_code 292 = .ok (.aload_n 0, 1) := by decide +kernel
theorem d33_293 : decode jdk_69_method_16_code 293 = .ok (.iload 5, 2) := by decide +kernel
theorem d33_295 : decode jdk_69_method_16_code 295 = .ok (.invokevirtual 205, 3) := by decide +kernel
theorem pd__28Z_29V : parseMethodDescriptor "(Z)V" = some ⟨[.boolean], none⟩ := by decide +kernel
theorem d33_298 : decode jdk_69_method_16_code 298 = .ok (.aconst_null, 1) := by decide +kernel
theorem d33_299 : decode jdk_69_method_16_code 299 = .ok (.areturn, 1) := by decide +kernel
theorem ef_33_f (m : MethodId) (r0 : Addr) (p1 : Int32) (r2 : Addr) (r3 : Addr) (p4 : Int32) (p5 : Int32) : entryFrame m #[(.ref r0), (.int p1), (.ref r2), (.ref r3), (.int p4), (.int p5)] 13 = mkF m 0 #[.val (.ref r0), .val (.int p1), .val (.ref r2), .val (.ref r3), .val (.int p4), .val (.int p5), .unset, .unset, .unset, .unset, .unset, .unset, .unset] [] := by first | (simp [entryFrame, mkF, argsToLocals, Value.category]; done) | rfl
set_option maxRecDepth 65536 in
set_option maxHeartbeats 40000000 in
theorem rm33_f (l : Launch) (Z : State) (a0 : Array Value) (hw : ∀ d ∈ tables_1, d.before a0 Z = true) (ws : List Jvm.Cond) (r0 : Addr) (p1 : Int32) (r2 : Addr) (r3 : Addr) (p4 : Int32) (p5 : Int32) (i : Nat) (h0 : Heap) (n0 : Nat) (Z0 : n0 ≤ h0.size) (Hp0 : Exa Z h0 r0 "java/util/HashMap") (Hp1 : Fld Z h0 r0 "java/util/HashMap" "table" "[Ljava/util/HashMap$Node;" .null) (Hp2 : Fld Z h0 r0 "java/util/HashMap" "threshold" "I" (.int (0 : Int32))) (Hp3 : Fld Z h0 r0 "java/util/HashMap" "size" "I" (.int (0 : Int32))) (Hp4 : Fld Z h0 r0 "java/util/HashMap" "modCount" "I" (.int (0 : Int32))) (hix : Ix p1 i) (Hp6 : n0 ≤ r0) :
    MetFree l (⟨"java/util/HashMap", "putVal", "(ILjava/lang/Object;Ljava/lang/Object;ZZ)Ljava/lang/Object;"⟩ : MethodName) (head1 (Jvm.Cond.code (⟨"java/util/HashMap", "putVal", "(ILjava/lang/Object;Ljava/lang/Object;ZZ)Ljava/lang/Object;"⟩ : MethodName) jdk_69_method_16_code 13 (some (.object "java/lang/Object")) :: ws) ({ frames := 3, cells := 2, slots := 20, locals := 47 } : Room)) (fun a U => a = #[(.ref r0), (.int p1), (.ref r2), (.ref r3), (.int p4), (.int p5)] ∧ Z.Warmed39 U.vm ∧ U.heap = h0) (fun _ _ _ _ _ => True) (fun _ U o U' => ∃ v L, o = .returned v ∧ Q33_f Z r0 p1 r2 r3 p4 p5 i h0 n0 v U'.heap L ∧ FrameEnd U o U' L ({ frames := 3, cells := 2, slots := 20, locals := 47 } : Room).cells ({ frames := 3, cells := 2, slots := 20, locals := 47 } : Room).slots) := by
  refine MetFree.of_bodySF (plainFor_of_name pn_java_util_HashMap) hisR ?_
  intro p e s m args below meth c s₁ Bd hml0 hP hK
  obtain ⟨rfl, hZ, hh⟩ := hP
  have hx := Bd.exec
  have hby := Bd.bytes
  have hml : c.maxLocals = 13 := hml0
  have hown : s.vm.findClass "java/util/HashMap" = some m.cls := findClass_of_methodNamed Bd.named
  have hnm := (name_of_methodNamed Bd.named Bd.method).1
  have X0 : Stand p l e ({ frames := 3, cells := 2, slots := 20, locals := 47 } : Room) s m #[(.ref r0), (.int p1), (.ref r2), (.ref r3), (.int p4), (.int p5)] below meth c s₁ [] 0 0 := Stand.of_body Bd
  have e0 : s₁.heap = h0 := by rw [← hh, Bd.state]; rfl
  have N0 := Fr.nil n0
  have pre0 : ∀ t, Steps p.tables e below (s₁.setTop (mkF m 0 (l_19 r0 p1 r2 r3 p4 p5) [])) t → Steps p.tables e below (s₁.setTop (entryFrame m #[(.ref r0), (.int p1), (.ref r2), (.ref r3), (.int p4), (.int p5)] 13)) t := fun t k => castTop (ef_33_f m r0 p1 r2 r3 p4 p5) k
  obtain ⟨T1, X1, e1, st1⟩ := getF X0 hx hZ hown (host := "") (Or.inl (hw _ (tm 226 rfl))) Via.refl e0 Hp1 (g := (mkF m 1 (l_19 r0 p1 r2 r3 p4 p5) [(.ref r0)])) rfl rfl (hb hby d33_1)
  obtain ⟨cq2, kq2, q2a, q2b, q2c⟩ := isOf hZ e1 Hp0
  obtain ⟨_, _, ⟨T2, L2, k2, n2⟩, -, X2, ⟨Lc2, hQ2, l2, y2, z2⟩, st2⟩ := X1.virtualBack hx (y := (⟨"java/util/HashMap", "resize", "()[Ljava/util/HashMap$Node;"⟩ : MethodName)) (z := (⟨"java/util/HashMap", "resize", "()[Ljava/util/HashMap$Node;"⟩ : MethodName)) hown (mvT hZ (hw _ (tm 228 rfl))) (mvT hZ (hw _ (tm 229 rfl))) (notFace_of_selects (args := #[]) (mvT hZ (hw _ (tm 231 rfl)))) (mvT hZ (hw _ (tm 231 rfl))) (mvT hZ (hw _ (tm 230 rfl))) (by decide) (backOf (W := 0) (rm34 l Z a0 hw [] r0  h0 n0 Z0 Hp0 Hp1 Hp2 Hp3 Hp4 Hp6) hZ (hw _ (tm 232 rfl)) (hw _ (tm 82 rfl)) (by decide) (by decide)) q2a q2c (g := (mkF m 20 (l_20 r0 p1 r2 r3 p4 p5) [(.ref r0)])) rfl (by rw [hml]; rfl) (Steps.refl _) (argsL := []) (rest := []) (lenOf pd__28_29_5bLjava_2futil_2fHashMap_24Node_3b rfl) rfl (by show 2 * 0 + _ ≤ _; exact Nat.le_of_eq rfl) (hb hby d33_20) (fun _ _ => ⟨rfl, e1, (by decide : 0 + 1 ≤ _), (by decide : 0 + 16 ≤ _)⟩)
  dsimp only [Pt.U, Pt.locs, Pt.cells, Pt.slots] at X2 l2 y2 z2 st2 hQ2
  subst l2 y2 z2
  obtain ⟨b2_t, b2_kt, rfl, N2q, K2, Sz2_t, Pc2_0, Pc2_1, Pc2_2, Pc2_3, Pc2_4, Pc2_5, Pc2_6⟩ := hQ2
  have N2 := Fr.app N0 N2q
  have g_b2_t : n0 ≤ b2_t := Nat.le_trans Z0 Sz2_t
  have sz_b2_t : h0.size ≤ b2_t := Nat.le_trans (Keep.refl h0 [r0]).1 Sz2_t
  have ne_r0_b2_t : r0 ≠ b2_t := Nat.ne_of_lt (Nat.lt_of_lt_of_le Hp0.lt Sz2_t)
  obtain ⟨cl3, Ar3, -, S3, Nn3, -, -⟩ := id Pc2_5
  obtain ⟨cl4, Ar4, -, S4, -, H4, -⟩ := id Pc2_5
  have hin4 : ¬ (((15 : Int32) &&& p1) < 0 ∨ cl4.slots.size ≤ (((15 : Int32) &&& p1)).toNatClampNeg) := inb_of S4 hix.1
  have hat4 : cl4.slots[(((15 : Int32) &&& p1)).toNatClampNeg]? = some .null := Has.at H4 hin4 (by rw [hix.2.1]; exact own_rep i)
  have Zz6 := (Nat.le_trans Z0 K2.1)
  have Kp7 := ((Keep.refl h0 [r0]).trans K2 (allS (Or.inl (tm 0 rfl)) all0))
  obtain ⟨cq5, kq5, q5a, q5b, q5c⟩ := isOf hZ rfl Pc2_0
  obtain ⟨_, _, ⟨T5, L5, k5, n5⟩, -, X5, ⟨Lc5, hQ5, l5, y5, z5⟩, st5⟩ := X2.virtualBack hx (y := (⟨"java/util/HashMap", "newNode", "(ILjava/lang/Object;Ljava/lang/Object;Ljava/util/HashMap$Node;)Ljava/util/HashMap$Node;"⟩ : MethodName)) (z := (⟨"java/util/HashMap", "newNode", "(ILjava/lang/Object;Ljava/lang/Object;Ljava/util/HashMap$Node;)Ljava/util/HashMap$Node;"⟩ : MethodName)) hown (mvT hZ (hw _ (tm 237 rfl))) (mvT hZ (hw _ (tm 238 rfl))) (notFace_of_selects (args := #[]) (mvT hZ (hw _ (tm 240 rfl)))) (mvT hZ (hw _ (tm 240 rfl))) (mvT hZ (hw _ (tm 239 rfl))) (by decide) (backOf (W := 2) (rm35 l Z a0 hw [] r0 p1 r2 r3  T2.heap n0 Zz6 ) hZ (hw _ (tm 241 rfl)) (hw _ (tm 82 rfl)) (by decide) (by decide)) q5a q5c (g := (mkF m 56 (l_21 r0 p1 r2 r3 p4 p5 b2_t (16 : Int32) ((15 : Int32) &&& p1)) [.null, (.ref r3), (.ref r2), (.int p1), (.ref r0), (.int ((15 : Int32) &&& p1)), (.ref b2_t)])) rfl (by rw [hml]; rfl) (Steps.refl _) (argsL := [(.int p1), (.ref r2), (.ref r3), .null]) (rest := [(.int ((15 : Int32) &&& p1)), (.ref b2_t)]) (lenOf pd__28ILjava_2flang_2fObject_3bLjava_2flang_2fObject_3bLjava_2futil_2fHashMap_24Node_3b_29Ljava_2futil_2fHashMap_24Node_3b rfl) rfl (by show 2 * 0 + _ ≤ _; exact Nat.le_of_eq rfl) (hb hby d33_56) (fun _ _ => ⟨rfl, rfl, (by decide : 1 + 1 ≤ _), (by decide : 16 + 4 ≤ _)⟩)
  dsimp only [Pt.U, Pt.locs, Pt.cells, Pt.slots] at X5 l5 y5 z5 st5 hQ5
  subst l5 y5 z5
  obtain ⟨b5_n, rfl, N5q, K5, Sz5_n, Pc5_0, Pc5_1, Pc5_2, Pc5_3⟩ := hQ5
  have N5 := Fr.app N2 N5q
  have g_b5_n : n0 ≤ b5_n := Nat.le_trans Zz6 Sz5_n
  have sz_b5_n : h0.size ≤ b5_n := Nat.le_trans Kp7.1 Sz5_n
  have ne_b2_t_b5_n : b2_t ≠ b5_n := Nat.ne_of_lt (Nat.lt_of_lt_of_le Pc2_5.lt Sz5_n)
  have ne_r0_b5_n : r0 ≠ b5_n := Nat.ne_of_lt (Nat.lt_of_lt_of_le Pc2_0.lt Sz5_n)
  have Av8 := (Pc2_5.keep K5 nin0)
  obtain ⟨cl9, Ar9, q9, S9, Nn9, H9, G9⟩ := id Av8
  have hin9 : ¬ (((15 : Int32) &&& p1) < 0 ∨ cl9.slots.size ≤ (((15 : Int32) &&& p1)).toNatClampNeg) := inb_of S9 hix.1
  obtain ⟨T10, h10, X10, e10, W10, st10⟩ := stR X5 hx hZ rfl Ar9 (j := ((15 : Int32) &&& p1)) hin9 rfl (Sto.ofV Ar9 q9 Pc2_6 (Ins.self Pc5_0)) (g := (mkF m 59 (l_21 r0 p1 r2 r3 p4 p5 b2_t (16 : Int32) ((15 : Int32) &&& p1)) [(.ref b5_n), (.int ((15 : Int32) &&& p1)), (.ref b2_t)])) rfl rfl (hb hby d33_59)
  have N10 := Fr.snoc X10 N5 g_b2_t
  have V10 : Arv Z h10 b2_t b2_kt (.object "java/util/HashMap$Node") (16 : Int32) ((List.replicate 16 Value.null).set i (.ref b5_n)) .null := Arv.set Ar9 q9 S9 Nn9 H9 G9 rfl W10 i hix.2.1 (by simpa using hix.2.2)
  have Fd11 := ((Pc2_4.keep K5 nin0).other W10 (Or.inl ne_r0_b2_t))
  obtain ⟨T12, X12, e12, st12⟩ := getF X10 hx hZ hown (host := "") (Or.inl (hw _ (tm 257 rfl))) Via.refl e10 Fd11 (g := (mkF m 261 (l_21 r0 p1 r2 r3 p4 p5 b2_t (16 : Int32) ((15 : Int32) &&& p1)) [(.ref r0), (.ref r0)])) rfl rfl (hb hby d33_261)
  have Ex13 := ((Pc2_0.keep K5).wr W10)
  obtain ⟨T14, h14, X14, e14, W14, st14⟩ := putF X12 hx hZ hown (host := "") (Or.inl (hw _ (tm 257 rfl))) Via.refl e12 Fd11 Ex13 (Or.inl (hw _ (tm 258 rfl))) (hw _ (tm 81 rfl)) (ty := .int) (by decide) rfl rfl (g := (mkF m 266 (l_21 r0 p1 r2 r3 p4 p5 b2_t (16 : Int32) ((15 : Int32) &&& p1)) [(.int (1 : Int32)), (.ref r0)])) rfl rfl (hb hby d33_266)
  have N14 := Fr.snoc X14 N10 Hp6
  have Fw14 := Fd11.same W14
  have Fd15 := (((Pc2_3.keep K5 nin0).other W10 (Or.inl ne_r0_b2_t)).other W14 (Or.inr (slot_ne (Or.inl (hw _ (tm 260 rfl))) (Or.inl (hw _ (tm 258 rfl))) (by decide) (t := .int) (t' := .int) (by decide) (by decide))))
  obtain ⟨T16, X16, e16, st16⟩ := getF X14 hx hZ hown (host := "") (Or.inl (hw _ (tm 259 rfl))) Via.refl e14 Fd15 (g := (mkF m 271 (l_21 r0 p1 r2 r3 p4 p5 b2_t (16 : Int32) ((15 : Int32) &&& p1)) [(.ref r0), (.ref r0)])) rfl rfl (hb hby d33_271)
  have Ex17 := (Ex13.wr W14)
  obtain ⟨T18, h18, X18, e18, W18, st18⟩ := putF X16 hx hZ hown (host := "") (Or.inl (hw _ (tm 259 rfl))) Via.refl e16 Fd15 Ex17 (Or.inl (hw _ (tm 260 rfl))) (hw _ (tm 81 rfl)) (ty := .int) (by decide) rfl rfl (g := (mkF m 277 (l_21 r0 p1 r2 r3 p4 p5 b2_t (16 : Int32) ((15 : Int32) &&& p1)) [(.int (1 : Int32)), (.ref r0), (.int (1 : Int32))])) rfl rfl (hb hby d33_277)
  have N18 := Fr.snoc X18 N14 Hp6
  have Fw18 := Fd15.same W18
  have Fd19 := ((((Pc2_2.keep K5 nin0).other W10 (Or.inl ne_r0_b2_t)).other W14 (Or.inr (slot_ne (Or.inl (hw _ (tm 234 rfl))) (Or.inl (hw _ (tm 258 rfl))) (by decide) (t := .int) (t' := .int) (by decide) (by decide)))).other W18 (Or.inr (slot_ne (Or.inl (hw _ (tm 234 rfl))) (Or.inl (hw _ (tm 260 rfl))) (by decide) (t := .int) (t' := .int) (by decide) (by decide))))
  obtain ⟨T20, X20, e20, st20⟩ := getF X18 hx hZ hown (host := "") (Or.inl (hw _ (tm 233 rfl))) Via.refl e18 Fd19 (g := (mkF m 281 (l_21 r0 p1 r2 r3 p4 p5 b2_t (16 : Int32) ((15 : Int32) &&& p1)) [(.ref r0), (.int (1 : Int32))])) rfl rfl (hb hby d33_281)
  have pre21 : ∀ tz, Steps p.tables e below (T20.setTop (mkF m 295 (l_21 r0 p1 r2 r3 p4 p5 b2_t (16 : Int32) ((15 : Int32) &&& p1)) [(.int p5), (.ref r0)])) tz → Steps p.tables e below (s₁.setTop (entryFrame m #[(.ref r0), (.int p1), (.ref r2), (.ref r3), (.int p4), (.int p5)] 13)) tz := fun tz kk => pre0 tz (by
    show Steps _ _ _ (s₁.setTop (mkF m 0 (l_19 r0 p1 r2 r3 p4 p5) [])) _
    refine XS.aloadN X0.here hx rfl (hb hby d33_0) rfl rfl ?_
    show Steps _ _ _ (s₁.setTop (mkF m 1 (l_19 r0 p1 r2 r3 p4 p5) [(.ref r0)])) _
    refine st1 _ ?_
    show Steps _ _ _ (T1.setTop (mkF m 4 (l_19 r0 p1 r2 r3 p4 p5) [.null])) _
    refine XS.dup X1.here hx rfl (hb hby d33_4) rfl rfl ?_
    show Steps _ _ _ (T1.setTop (mkF m 5 (l_19 r0 p1 r2 r3 p4 p5) [.null, .null])) _
    refine XS.astore X1.here hx rfl (hb hby d33_5) rfl rfl (l' := (l_20 r0 p1 r2 r3 p4 p5)) rfl ?_
    show Steps _ _ _ (T1.setTop (mkF m 7 (l_20 r0 p1 r2 r3 p4 p5) [.null])) _
    refine XS.ifnullYes X1.here hx rfl (pc0 := 7) (pc' := 19) rfl (hb hby d33_7) rfl (by decide) (by decide) ?_
    show Steps _ _ _ (T1.setTop (mkF m 19 (l_20 r0 p1 r2 r3 p4 p5) [])) _
    refine XS.aloadN X1.here hx rfl (hb hby d33_19) rfl rfl ?_
    show Steps _ _ _ (T1.setTop (mkF m 20 (l_20 r0 p1 r2 r3 p4 p5) [(.ref r0)])) _
    refine st2.trans ?_
    show Steps _ _ _ (T2.setTop (mkF m 23 (l_20 r0 p1 r2 r3 p4 p5) [(.ref b2_t)])) _
    refine XS.dup X2.here hx rfl (hb hby d33_23) rfl rfl ?_
    show Steps _ _ _ (T2.setTop (mkF m 24 (l_20 r0 p1 r2 r3 p4 p5) [(.ref b2_t), (.ref b2_t)])) _
    refine XS.astore X2.here hx rfl (hb hby d33_24) rfl rfl (l' := (l_22 r0 p1 r2 r3 p4 p5 b2_t)) rfl ?_
    show Steps _ _ _ (T2.setTop (mkF m 26 (l_22 r0 p1 r2 r3 p4 p5 b2_t) [(.ref b2_t)])) _
    refine X2.arraylength hx Ar3.1 (State.isArrayOf_alike hZ.alike Ar3.2.1) (g := (mkF m 26 (l_22 r0 p1 r2 r3 p4 p5 b2_t) [(.ref b2_t)])) rfl rfl (hb hby d33_26) _ ?_
    rw [len_of S3 Nn3]
    show Steps _ _ _ (T2.setTop (mkF m 27 (l_22 r0 p1 r2 r3 p4 p5 b2_t) [(.int (16 : Int32))])) _
    refine XS.istore X2.here hx rfl (hb hby d33_27) rfl (l' := (l_23 r0 p1 r2 r3 p4 p5 b2_t (16 : Int32))) rfl ?_
    show Steps _ _ _ (T2.setTop (mkF m 29 (l_23 r0 p1 r2 r3 p4 p5 b2_t (16 : Int32)) [])) _
    refine XS.aload X2.here hx rfl (hb hby d33_29) rfl rfl ?_
    show Steps _ _ _ (T2.setTop (mkF m 31 (l_23 r0 p1 r2 r3 p4 p5 b2_t (16 : Int32)) [(.ref b2_t)])) _
    refine XS.iload X2.here hx rfl (hb hby d33_31) rfl ?_
    show Steps _ _ _ (T2.setTop (mkF m 33 (l_23 r0 p1 r2 r3 p4 p5 b2_t (16 : Int32)) [(.int (16 : Int32)), (.ref b2_t)])) _
    refine XS.iconst X2.here hx rfl (hb hby d33_33) ?_
    show Steps _ _ _ (T2.setTop (mkF m 34 (l_23 r0 p1 r2 r3 p4 p5 b2_t (16 : Int32)) [(.int (1 : Int32)), (.int (16 : Int32)), (.ref b2_t)])) _
    refine XS.isub X2.here hx rfl (hb hby d33_34) rfl ?_
    show Steps _ _ _ (T2.setTop (mkF m 35 (l_23 r0 p1 r2 r3 p4 p5 b2_t (16 : Int32)) [(.int ((16 : Int32) - (1 : Int32))), (.ref b2_t)])) _
    rw [show ((16 : Int32) - (1 : Int32)) = (15 : Int32) from (by decide)]
    show Steps _ _ _ (T2.setTop (mkF m 35 (l_23 r0 p1 r2 r3 p4 p5 b2_t (16 : Int32)) [(.int (15 : Int32)), (.ref b2_t)])) _
    refine XS.iloadN X2.here hx rfl (hb hby d33_35) rfl ?_
    show Steps _ _ _ (T2.setTop (mkF m 36 (l_23 r0 p1 r2 r3 p4 p5 b2_t (16 : Int32)) [(.int p1), (.int (15 : Int32)), (.ref b2_t)])) _
    refine XS.iand X2.here hx rfl (hb hby d33_36) rfl ?_
    show Steps _ _ _ (T2.setTop (mkF m 37 (l_23 r0 p1 r2 r3 p4 p5 b2_t (16 : Int32)) [(.int ((15 : Int32) &&& p1)), (.ref b2_t)])) _
    refine XS.dup X2.here hx rfl (hb hby d33_37) rfl rfl ?_
    show Steps _ _ _ (T2.setTop (mkF m 38 (l_23 r0 p1 r2 r3 p4 p5 b2_t (16 : Int32)) [(.int ((15 : Int32) &&& p1)), (.int ((15 : Int32) &&& p1)), (.ref b2_t)])) _
    refine XS.istore X2.here hx rfl (hb hby d33_38) rfl (l' := (l_24 r0 p1 r2 r3 p4 p5 b2_t (16 : Int32) ((15 : Int32) &&& p1))) rfl ?_
    show Steps _ _ _ (T2.setTop (mkF m 40 (l_24 r0 p1 r2 r3 p4 p5 b2_t (16 : Int32) ((15 : Int32) &&& p1)) [(.int ((15 : Int32) &&& p1)), (.ref b2_t)])) _
    refine X2.aaload hx (j := ((15 : Int32) &&& p1)) (v := .null) Ar4.1 (State.isArrayOf_alike hZ.alike Ar4.2.1) rfl Ar4.2.2 hin4 hat4 (g := (mkF m 40 (l_24 r0 p1 r2 r3 p4 p5 b2_t (16 : Int32) ((15 : Int32) &&& p1)) [(.int ((15 : Int32) &&& p1)), (.ref b2_t)])) rfl rfl (hb hby d33_40) _ ?_
    show Steps _ _ _ (T2.setTop (mkF m 41 (l_24 r0 p1 r2 r3 p4 p5 b2_t (16 : Int32) ((15 : Int32) &&& p1)) [.null])) _
    refine XS.dup X2.here hx rfl (hb hby d33_41) rfl rfl ?_
    show Steps _ _ _ (T2.setTop (mkF m 42 (l_24 r0 p1 r2 r3 p4 p5 b2_t (16 : Int32) ((15 : Int32) &&& p1)) [.null, .null])) _
    refine XS.astore X2.here hx rfl (hb hby d33_42) rfl rfl (l' := (l_21 r0 p1 r2 r3 p4 p5 b2_t (16 : Int32) ((15 : Int32) &&& p1))) rfl ?_
    show Steps _ _ _ (T2.setTop (mkF m 44 (l_21 r0 p1 r2 r3 p4 p5 b2_t (16 : Int32) ((15 : Int32) &&& p1)) [.null])) _
    refine XS.ifnonnullNo X2.here hx rfl (hb hby d33_44) rfl ?_
    show Steps _ _ _ (T2.setTop (mkF m 47 (l_21 r0 p1 r2 r3 p4 p5 b2_t (16 : Int32) ((15 : Int32) &&& p1)) [])) _
    refine XS.aload X2.here hx rfl (hb hby d33_47) rfl rfl ?_
    show Steps _ _ _ (T2.setTop (mkF m 49 (l_21 r0 p1 r2 r3 p4 p5 b2_t (16 : Int32) ((15 : Int32) &&& p1)) [(.ref b2_t)])) _
    refine XS.iload X2.here hx rfl (hb hby d33_49) rfl ?_
    show Steps _ _ _ (T2.setTop (mkF m 51 (l_21 r0 p1 r2 r3 p4 p5 b2_t (16 : Int32) ((15 : Int32) &&& p1)) [(.int ((15 : Int32) &&& p1)), (.ref b2_t)])) _
    refine XS.aloadN X2.here hx rfl (hb hby d33_51) rfl rfl ?_
    show Steps _ _ _ (T2.setTop (mkF m 52 (l_21 r0 p1 r2 r3 p4 p5 b2_t (16 : Int32) ((15 : Int32) &&& p1)) [(.ref r0), (.int ((15 : Int32) &&& p1)), (.ref b2_t)])) _
    refine XS.iloadN X2.here hx rfl (hb hby d33_52) rfl ?_
    show Steps _ _ _ (T2.setTop (mkF m 53 (l_21 r0 p1 r2 r3 p4 p5 b2_t (16 : Int32) ((15 : Int32) &&& p1)) [(.int p1), (.ref r0), (.int ((15 : Int32) &&& p1)), (.ref b2_t)])) _
    refine XS.aloadN X2.here hx rfl (hb hby d33_53) rfl rfl ?_
    show Steps _ _ _ (T2.setTop (mkF m 54 (l_21 r0 p1 r2 r3 p4 p5 b2_t (16 : Int32) ((15 : Int32) &&& p1)) [(.ref r2), (.int p1), (.ref r0), (.int ((15 : Int32) &&& p1)), (.ref b2_t)])) _
    refine XS.aloadN X2.here hx rfl (hb hby d33_54) rfl rfl ?_
    show Steps _ _ _ (T2.setTop (mkF m 55 (l_21 r0 p1 r2 r3 p4 p5 b2_t (16 : Int32) ((15 : Int32) &&& p1)) [(.ref r3), (.ref r2), (.int p1), (.ref r0), (.int ((15 : Int32) &&& p1)), (.ref b2_t)])) _
    refine XS.aconstNull X2.here hx rfl (hb hby d33_55) ?_
    show Steps _ _ _ (T2.setTop (mkF m 56 (l_21 r0 p1 r2 r3 p4 p5 b2_t (16 : Int32) ((15 : Int32) &&& p1)) [.null, (.ref r3), (.ref r2), (.int p1), (.ref r0), (.int ((15 : Int32) &&& p1)), (.ref b2_t)])) _
    refine st5.trans ?_
    show Steps _ _ _ (T5.setTop (mkF m 59 (l_21 r0 p1 r2 r3 p4 p5 b2_t (16 : Int32) ((15 : Int32) &&& p1)) [(.ref b5_n), (.int ((15 : Int32) &&& p1)), (.ref b2_t)])) _
    refine st10 _ ?_
    show Steps _ _ _ (T10.setTop (mkF m 60 (l_21 r0 p1 r2 r3 p4 p5 b2_t (16 : Int32) ((15 : Int32) &&& p1)) [])) _
    refine XS.goto X10.here hx rfl (pc0 := 60) (pc' := 259) rfl (hb hby d33_60) (by decide) (by decide) ?_
    show Steps _ _ _ (T10.setTop (mkF m 259 (l_21 r0 p1 r2 r3 p4 p5 b2_t (16 : Int32) ((15 : Int32) &&& p1)) [])) _
    refine XS.aloadN X10.here hx rfl (hb hby d33_259) rfl rfl ?_
    show Steps _ _ _ (T10.setTop (mkF m 260 (l_21 r0 p1 r2 r3 p4 p5 b2_t (16 : Int32) ((15 : Int32) &&& p1)) [(.ref r0)])) _
    refine XS.dup X10.here hx rfl (hb hby d33_260) rfl rfl ?_
    show Steps _ _ _ (T10.setTop (mkF m 261 (l_21 r0 p1 r2 r3 p4 p5 b2_t (16 : Int32) ((15 : Int32) &&& p1)) [(.ref r0), (.ref r0)])) _
    refine st12 _ ?_
    show Steps _ _ _ (T12.setTop (mkF m 264 (l_21 r0 p1 r2 r3 p4 p5 b2_t (16 : Int32) ((15 : Int32) &&& p1)) [(.int (0 : Int32)), (.ref r0)])) _
    refine XS.iconst X12.here hx rfl (hb hby d33_264) ?_
    show Steps _ _ _ (T12.setTop (mkF m 265 (l_21 r0 p1 r2 r3 p4 p5 b2_t (16 : Int32) ((15 : Int32) &&& p1)) [(.int (1 : Int32)), (.int (0 : Int32)), (.ref r0)])) _
    refine XS.iadd X12.here hx rfl (hb hby d33_265) rfl ?_
    show Steps _ _ _ (T12.setTop (mkF m 266 (l_21 r0 p1 r2 r3 p4 p5 b2_t (16 : Int32) ((15 : Int32) &&& p1)) [(.int ((0 : Int32) + (1 : Int32))), (.ref r0)])) _
    rw [show ((0 : Int32) + (1 : Int32)) = (1 : Int32) from (by decide)]
    show Steps _ _ _ (T12.setTop (mkF m 266 (l_21 r0 p1 r2 r3 p4 p5 b2_t (16 : Int32) ((15 : Int32) &&& p1)) [(.int (1 : Int32)), (.ref r0)])) _
    refine st14 _ ?_
    show Steps _ _ _ (T14.setTop (mkF m 269 (l_21 r0 p1 r2 r3 p4 p5 b2_t (16 : Int32) ((15 : Int32) &&& p1)) [])) _
    refine XS.aloadN X14.here hx rfl (hb hby d33_269) rfl rfl ?_
    show Steps _ _ _ (T14.setTop (mkF m 270 (l_21 r0 p1 r2 r3 p4 p5 b2_t (16 : Int32) ((15 : Int32) &&& p1)) [(.ref r0)])) _
    refine XS.dup X14.here hx rfl (hb hby d33_270) rfl rfl ?_
    show Steps _ _ _ (T14.setTop (mkF m 271 (l_21 r0 p1 r2 r3 p4 p5 b2_t (16 : Int32) ((15 : Int32) &&& p1)) [(.ref r0), (.ref r0)])) _
    refine st16 _ ?_
    show Steps _ _ _ (T16.setTop (mkF m 274 (l_21 r0 p1 r2 r3 p4 p5 b2_t (16 : Int32) ((15 : Int32) &&& p1)) [(.int (0 : Int32)), (.ref r0)])) _
    refine XS.iconst X16.here hx rfl (hb hby d33_274) ?_
    show Steps _ _ _ (T16.setTop (mkF m 275 (l_21 r0 p1 r2 r3 p4 p5 b2_t (16 : Int32) ((15 : Int32) &&& p1)) [(.int (1 : Int32)), (.int (0 : Int32)), (.ref r0)])) _
    refine XS.iadd X16.here hx rfl (hb hby d33_275) rfl ?_
    show Steps _ _ _ (T16.setTop (mkF m 276 (l_21 r0 p1 r2 r3 p4 p5 b2_t (16 : Int32) ((15 : Int32) &&& p1)) [(.int ((0 : Int32) + (1 : Int32))), (.ref r0)])) _
    rw [show ((0 : Int32) + (1 : Int32)) = (1 : Int32) from (by decide)]
    show Steps _ _ _ (T16.setTop (mkF m 276 (l_21 r0 p1 r2 r3 p4 p5 b2_t (16 : Int32) ((15 : Int32) &&& p1)) [(.int (1 : Int32)), (.ref r0)])) _
    refine XS.dupX1 X16.here hx rfl (hb hby d33_276) rfl rfl rfl ?_
    show Steps _ _ _ (T16.setTop (mkF m 277 (l_21 r0 p1 r2 r3 p4 p5 b2_t (16 : Int32) ((15 : Int32) &&& p1)) [(.int (1 : Int32)), (.ref r0), (.int (1 : Int32))])) _
    refine st18 _ ?_
    show Steps _ _ _ (T18.setTop (mkF m 280 (l_21 r0 p1 r2 r3 p4 p5 b2_t (16 : Int32) ((15 : Int32) &&& p1)) [(.int (1 : Int32))])) _
    refine XS.aloadN X18.here hx rfl (hb hby d33_280) rfl rfl ?_
    show Steps _ _ _ (T18.setTop (mkF m 281 (l_21 r0 p1 r2 r3 p4 p5 b2_t (16 : Int32) ((15 : Int32) &&& p1)) [(.ref r0), (.int (1 : Int32))])) _
    refine st20 _ ?_
    show Steps _ _ _ (T20.setTop (mkF m 284 (l_21 r0 p1 r2 r3 p4 p5 b2_t (16 : Int32) ((15 : Int32) &&& p1)) [(.int (12 : Int32)), (.int (1 : Int32))])) _
    refine XS.icmpYes X20.here hx rfl (pc0 := 284) (pc' := 292) rfl (hb hby d33_284) rfl (flt (by decide)).2.2.2 (by decide) (by decide) ?_
    show Steps _ _ _ (T20.setTop (mkF m 292 (l_21 r0 p1 r2 r3 p4 p5 b2_t (16 : Int32) ((15 : Int32) &&& p1)) [])) _
    refine XS.aloadN X20.here hx rfl (hb hby d33_292) rfl rfl ?_
    show Steps _ _ _ (T20.setTop (mkF m 293 (l_21 r0 p1 r2 r3 p4 p5 b2_t (16 : Int32) ((15 : Int32) &&& p1)) [(.ref r0)])) _
    refine XS.iload X20.here hx rfl (hb hby d33_293) rfl ?_
    exact kk)
  have Av23 := ((V10.other W14 (Ne.symm ne_r0_b2_t)).other W18 (Ne.symm ne_r0_b2_t))
  have Ex24 := (((Pc5_0.wr W10).wr W14).wr W18)
  have Ex25 := (Ex17.wr W18)
  have Zz26 := (Nat.le_trans (Nat.le_trans (Nat.le_trans (Nat.le_trans Zz6 K5.1) (Keep.of_wr W10).1) (Keep.of_wr W14).1) (Keep.of_wr W18).1)
  have Kp27 := ((((Kp7.trans K5 all0).wr W10 (Or.inr sz_b2_t)).wr W14 (Or.inl (tm 0 rfl))).wr W18 (Or.inl (tm 0 rfl)))
  obtain ⟨cq22, kq22, q22a, q22b, q22c⟩ := isOf hZ e20 Ex25
  obtain ⟨_, _, ⟨T22, L22, k22, n22⟩, -, X22, ⟨Lc22, hQ22, l22, y22, z22⟩, st22⟩ := X20.virtualBack hx (y := (⟨"java/util/HashMap", "afterNodeInsertion", "(Z)V"⟩ : MethodName)) (z := (⟨"java/util/HashMap", "afterNodeInsertion", "(Z)V"⟩ : MethodName)) hown (mvT hZ (hw _ (tm 261 rfl))) (mvT hZ (hw _ (tm 262 rfl))) (notFace_of_selects (args := #[]) (mvT hZ (hw _ (tm 264 rfl)))) (mvT hZ (hw _ (tm 264 rfl))) (mvT hZ (hw _ (tm 263 rfl))) (by decide) (backOf (W := 0) (rm37 l Z a0 hw [] r0 p5  h18 n0 Zz26 ) hZ (hw _ (tm 265 rfl)) (hw _ (tm 82 rfl)) (by decide) (by decide)) q22a q22c (g := (mkF m 295 (l_21 r0 p1 r2 r3 p4 p5 b2_t (16 : Int32) ((15 : Int32) &&& p1)) [(.int p5), (.ref r0)])) rfl (by rw [hml]; rfl) (Steps.refl _) (argsL := [(.int p5)]) (rest := []) (lenOf pd__28Z_29V rfl) rfl (by show 2 * 0 + _ ≤ _; exact Nat.le_of_eq rfl) (hb hby d33_295) (fun _ _ => ⟨rfl, e20, (by decide : 2 + 0 ≤ _), (by decide : 20 + 0 ≤ _)⟩)
  dsimp only [Pt.U, Pt.locs, Pt.cells, Pt.slots] at X22 l22 y22 z22 st22 hQ22
  subst l22 y22 z22
  obtain ⟨rfl, N22q, e22⟩ := hQ22
  have N22 := Fr.app N18 N22q
  have Fd28 := ((((Pc2_1.keep K5 nin0).other W10 (Or.inl ne_r0_b2_t)).other W14 (Or.inr (slot_ne (Or.inl (hw _ (tm 227 rfl))) (Or.inl (hw _ (tm 258 rfl))) (by decide) (t := (.array (.object "java/util/HashMap$Node"))) (t' := .int) (by decide) (by decide)))).other W18 (Or.inr (slot_ne (Or.inl (hw _ (tm 227 rfl))) (Or.inl (hw _ (tm 260 rfl))) (by decide) (t := (.array (.object "java/util/HashMap$Node"))) (t' := .int) (by decide) (by decide))))
  have Fd29 := (Fw14.other W18 (Or.inr (slot_ne (Or.inl (hw _ (tm 258 rfl))) (Or.inl (hw _ (tm 260 rfl))) (by decide) (t := .int) (t' := .int) (by decide) (by decide))))
  have Fd30 := (((Pc5_1.other W10 (Or.inl (Ne.symm ne_b2_t_b5_n))).other W14 (Or.inl (Ne.symm ne_r0_b5_n))).other W18 (Or.inl (Ne.symm ne_r0_b5_n)))
  have Fd31 := (((Pc5_2.other W10 (Or.inl (Ne.symm ne_b2_t_b5_n))).other W14 (Or.inl (Ne.symm ne_r0_b5_n))).other W18 (Or.inl (Ne.symm ne_r0_b5_n)))
  have Fd32 := (((Pc5_3.other W10 (Or.inl (Ne.symm ne_b2_t_b5_n))).other W14 (Or.inl (Ne.symm ne_r0_b5_n))).other W18 (Or.inl (Ne.symm ne_r0_b5_n)))
  obtain ⟨fs, hr, hrun, hended, hW, hsame⟩ := X22.leave (v := some .null) (fun h => by rw [Bd.returns] at h; cases h)
  refine ⟨_, _, pre21 _ ?_, hrun, hended, _, _, rfl, ?_, ⟨_, rfl⟩, hW, hsame.mono (by decide) (by decide)⟩
  · show Steps _ _ _ (T20.setTop (mkF m 295 (l_21 r0 p1 r2 r3 p4 p5 b2_t (16 : Int32) ((15 : Int32) &&& p1)) [(.int p5), (.ref r0)])) _
    refine st22.trans ?_
    show Steps _ _ _ (T22.setTop (mkF m 298 (l_21 r0 p1 r2 r3 p4 p5 b2_t (16 : Int32) ((15 : Int32) &&& p1)) [])) _
    refine XS.aconstNull X22.here hx rfl (hb hby d33_298) ?_
    show Steps _ _ _ (T22.setTop (mkF m 299 (l_21 r0 p1 r2 r3 p4 p5 b2_t (16 : Int32) ((15 : Int32) &&& p1)) [.null])) _
    exact X22.areturnOut hx rfl Bd.returns rfl (hb hby d33_299) hr
  · show Q33_f Z r0 p1 r2 r3 p4 p5 i h0 n0 _ T22.heap _
    rw [e22]
    exact ⟨b2_t, b2_kt, b5_n, rfl, N22, Kp27, sz_b2_t, sz_b5_n, Ex25, Fd28, Fd19, Fw18, Fd29, Av23, Pc2_6, Ex24, Fd30, Fd31, Fd32, ne_b2_t_b5_n⟩
def Q33_s (Z : State) (r0 : Addr) (p1 : Int32) (r2 : Addr) (r3 : Addr) (p4 : Int32) (p5 : Int32) (t : Addr) (kt : ClassId) (vs : List Value) (i : Nat) (h0 : Heap) (n0 : Nat) (v : Option Value) (h : Heap) (L : List Loc) : Prop := ∃ n : Addr, v = some .null ∧ Fr n0 L ∧ Keep h0 h [r0, t] ∧ h0.size ≤ n ∧ Exa Z h r0 "java/util/HashMap" ∧ Fld Z h r0 "java/util/HashMap" "table" "[Ljava/util/HashMap$Node;" (.ref t) ∧ Fld Z h r0 "java/util/HashMap" "threshold" "I" (.int (12 : Int32)) ∧ Fld Z h r0 "java/util/HashMap" "size" "I" (.int (2 : Int32)) ∧ Fld Z h r0 "java/util/HashMap" "modCount" "I" (.int (2 : Int32)) ∧ Arv Z h t kt (.object "java/util/HashMap$Node") (16 : Int32) (vs.set i (.ref n)) .null ∧ Exa Z h n "java/util/HashMap$Node" ∧ Fld Z h n "java/util/HashMap$Node" "hash" "I" (.int p1) ∧ Fld Z h n "java/util/HashMap$Node" "key" "Ljava/lang/Object;" (.ref r2) ∧ Fld Z h n "java/util/HashMap$Node" "value" "Ljava/lang/Object;" (.ref r3)
theorem d33_10 : decode jdk_69_method_16_code 10 = .ok (.aload 6, 2) := by decide +kernel
theorem d33_12 : decode jdk_69_method_16_code 12 = .ok (.arraylength, 1) := by decide +kernel
theorem d33_13 : decode jdk_69_method_16_code 13 = .ok (.dup, 1) := by decide +kernel
theorem d33_14 : decode jdk_69_method_16_code 14 = .ok (.istore 8, 2) := by decide +kernel
theorem d33_16 : decode jdk_69_method_16_code 16 = .ok (.ifCond .ne 13, 3) := by decide +kernel
theorem ef_33_s (m : MethodId) (r0 : Addr) (p1 : Int32) (r2 : Addr) (r3 : Addr) (p4 : Int32) (p5 : Int32) : entryFrame m #[(.ref r0), (.int p1), (.ref r2), (.ref r3), (.int p4), (.int p5)] 13 = mkF m 0 #[.val (.ref r0), .val (.int p1), .val (.ref r2), .val (.ref r3), .val (.int p4), .val (.int p5), .unset, .unset, .unset, .unset, .unset, .unset, .unset] [] := by first | (simp [entryFrame, mkF, argsToLocals, Value.category]; done) | rfl
set_option maxRecDepth 65536 in
set_option maxHeartbeats 40000000 in
theorem rm33_s (l : Launch) (Z : State) (a0 : Array Value) (hw : ∀ d ∈ tables_1, d.before a0 Z = true) (ws : List Jvm.Cond) (r0 : Addr) (p1 : Int32) (r2 : Addr) (r3 : Addr) (p4 : Int32) (p5 : Int32) (t : Addr) (kt : ClassId) (vs : List Value) (i : Nat) (h0 : Heap) (n0 : Nat) (Z0 : n0 ≤ h0.size) (Hp0 : Exa Z h0 r0 "java/util/HashMap") (Hp1 : Fld Z h0 r0 "java/util/HashMap" "table" "[Ljava/util/HashMap$Node;" (.ref t)) (Hp2 : Fld Z h0 r0 "java/util/HashMap" "threshold" "I" (.int (12 : Int32))) (Hp3 : Fld Z h0 r0 "java/util/HashMap" "size" "I" (.int (1 : Int32))) (Hp4 : Fld Z h0 r0 "java/util/HashMap" "modCount" "I" (.int (1 : Int32))) (Hp5 : Arv Z h0 t kt (.object "java/util/HashMap$Node") (16 : Int32) vs .null) (Hp6 : Ovr Z kt "java/util/HashMap$Node") (hix : Ix p1 i) (hfree : vs.getD i Value.null = Value.null) (hlen : vs.length = 16) (Hp10 : n0 ≤ r0) (Hp11 : t ≠ r0) (Hp12 : n0 ≤ t) :
    MetFree l (⟨"java/util/HashMap", "putVal", "(ILjava/lang/Object;Ljava/lang/Object;ZZ)Ljava/lang/Object;"⟩ : MethodName) (head1 (Jvm.Cond.code (⟨"java/util/HashMap", "putVal", "(ILjava/lang/Object;Ljava/lang/Object;ZZ)Ljava/lang/Object;"⟩ : MethodName) jdk_69_method_16_code 13 (some (.object "java/lang/Object")) :: ws) ({ frames := 3, cells := 1, slots := 4, locals := 47 } : Room)) (fun a U => a = #[(.ref r0), (.int p1), (.ref r2), (.ref r3), (.int p4), (.int p5)] ∧ Z.Warmed39 U.vm ∧ U.heap = h0) (fun _ _ _ _ _ => True) (fun _ U o U' => ∃ v L, o = .returned v ∧ Q33_s Z r0 p1 r2 r3 p4 p5 t kt vs i h0 n0 v U'.heap L ∧ FrameEnd U o U' L ({ frames := 3, cells := 1, slots := 4, locals := 47 } : Room).cells ({ frames := 3, cells := 1, slots := 4, locals := 47 } : Room).slots) := by
  refine MetFree.of_bodySF (plainFor_of_name pn_java_util_HashMap) hisR ?_
  intro p e s m args below meth c s₁ Bd hml0 hP hK
  obtain ⟨rfl, hZ, hh⟩ := hP
  have hx := Bd.exec
  have hby := Bd.bytes
  have hml : c.maxLocals = 13 := hml0
  have hown : s.vm.findClass "java/util/HashMap" = some m.cls := findClass_of_methodNamed Bd.named
  have hnm := (name_of_methodNamed Bd.named Bd.method).1
  have X0 : Stand p l e ({ frames := 3, cells := 1, slots := 4, locals := 47 } : Room) s m #[(.ref r0), (.int p1), (.ref r2), (.ref r3), (.int p4), (.int p5)] below meth c s₁ [] 0 0 := Stand.of_body Bd
  have e0 : s₁.heap = h0 := by rw [← hh, Bd.state]; rfl
  have N0 := Fr.nil n0
  have pre0 : ∀ t, Steps p.tables e below (s₁.setTop (mkF m 0 (l_19 r0 p1 r2 r3 p4 p5) [])) t → Steps p.tables e below (s₁.setTop (entryFrame m #[(.ref r0), (.int p1), (.ref r2), (.ref r3), (.int p4), (.int p5)] 13)) t := fun t k => castTop (ef_33_s m r0 p1 r2 r3 p4 p5) k
  obtain ⟨T1, X1, e1, st1⟩ := getF X0 hx hZ hown (host := "") (Or.inl (hw _ (tm 226 rfl))) Via.refl e0 Hp1 (g := (mkF m 1 (l_19 r0 p1 r2 r3 p4 p5) [(.ref r0)])) rfl rfl (hb hby d33_1)
  obtain ⟨cl2, Ar2, -, S2, Nn2, -, -⟩ := id Hp5
  obtain ⟨cl3, Ar3, -, S3, -, H3, -⟩ := id Hp5
  have hin3 : ¬ (((15 : Int32) &&& p1) < 0 ∨ cl3.slots.size ≤ (((15 : Int32) &&& p1)).toNatClampNeg) := inb_of S3 hix.1
  have hat3 : cl3.slots[(((15 : Int32) &&& p1)).toNatClampNeg]? = some .null := Has.at H3 hin3 (by rw [hix.2.1]; exact hfree)
  obtain ⟨cq4, kq4, q4a, q4b, q4c⟩ := isOf hZ e1 Hp0
  obtain ⟨_, _, ⟨T4, L4, k4, n4⟩, -, X4, ⟨Lc4, hQ4, l4, y4, z4⟩, st4⟩ := X1.virtualBack hx (y := (⟨"java/util/HashMap", "newNode", "(ILjava/lang/Object;Ljava/lang/Object;Ljava/util/HashMap$Node;)Ljava/util/HashMap$Node;"⟩ : MethodName)) (z := (⟨"java/util/HashMap", "newNode", "(ILjava/lang/Object;Ljava/lang/Object;Ljava/util/HashMap$Node;)Ljava/util/HashMap$Node;"⟩ : MethodName)) hown (mvT hZ (hw _ (tm 237 rfl))) (mvT hZ (hw _ (tm 238 rfl))) (notFace_of_selects (args := #[]) (mvT hZ (hw _ (tm 240 rfl)))) (mvT hZ (hw _ (tm 240 rfl))) (mvT hZ (hw _ (tm 239 rfl))) (by decide) (backOf (W := 2) (rm35 l Z a0 hw [] r0 p1 r2 r3  h0 n0 Z0 ) hZ (hw _ (tm 241 rfl)) (hw _ (tm 82 rfl)) (by decide) (by decide)) q4a q4c (g := (mkF m 56 (l_21 r0 p1 r2 r3 p4 p5 t (16 : Int32) ((15 : Int32) &&& p1)) [.null, (.ref r3), (.ref r2), (.int p1), (.ref r0), (.int ((15 : Int32) &&& p1)), (.ref t)])) rfl (by rw [hml]; rfl) (Steps.refl _) (argsL := [(.int p1), (.ref r2), (.ref r3), .null]) (rest := [(.int ((15 : Int32) &&& p1)), (.ref t)]) (lenOf pd__28ILjava_2flang_2fObject_3bLjava_2flang_2fObject_3bLjava_2futil_2fHashMap_24Node_3b_29Ljava_2futil_2fHashMap_24Node_3b rfl) rfl (by show 2 * 0 + _ ≤ _; exact Nat.le_of_eq rfl) (hb hby d33_56) (fun _ _ => ⟨rfl, e1, (by decide : 0 + 1 ≤ _), (by decide : 0 + 4 ≤ _)⟩)
  dsimp only [Pt.U, Pt.locs, Pt.cells, Pt.slots] at X4 l4 y4 z4 st4 hQ4
  subst l4 y4 z4
  obtain ⟨b4_n, rfl, N4q, K4, Sz4_n, Pc4_0, Pc4_1, Pc4_2, Pc4_3⟩ := hQ4
  have N4 := Fr.app N0 N4q
  have g_b4_n : n0 ≤ b4_n := Nat.le_trans Z0 Sz4_n
  have sz_b4_n : h0.size ≤ b4_n := Nat.le_trans (Keep.refl h0 [r0, t]).1 Sz4_n
  have ne_r0_b4_n : r0 ≠ b4_n := Nat.ne_of_lt (Nat.lt_of_lt_of_le Hp0.lt Sz4_n)
  have ne_t_b4_n : t ≠ b4_n := Nat.ne_of_lt (Nat.lt_of_lt_of_le Hp5.lt Sz4_n)
  have Av5 := (Hp5.keep K4 nin0)
  obtain ⟨cl6, Ar6, q6, S6, Nn6, H6, G6⟩ := id Av5
  have hin6 : ¬ (((15 : Int32) &&& p1) < 0 ∨ cl6.slots.size ≤ (((15 : Int32) &&& p1)).toNatClampNeg) := inb_of S6 hix.1
  obtain ⟨T7, h7, X7, e7, W7, st7⟩ := stR X4 hx hZ rfl Ar6 (j := ((15 : Int32) &&& p1)) hin6 rfl (Sto.ofV Ar6 q6 Hp6 (Ins.self Pc4_0)) (g := (mkF m 59 (l_21 r0 p1 r2 r3 p4 p5 t (16 : Int32) ((15 : Int32) &&& p1)) [(.ref b4_n), (.int ((15 : Int32) &&& p1)), (.ref t)])) rfl rfl (hb hby d33_59)
  have N7 := Fr.snoc X7 N4 Hp12
  have V7 : Arv Z h7 t kt (.object "java/util/HashMap$Node") (16 : Int32) (vs.set i (.ref b4_n)) .null := Arv.set Ar6 q6 S6 Nn6 H6 G6 rfl W7 i hix.2.1 (by rw [hlen]; exact hix.2.2)
  have Fd8 := ((Hp4.keep K4 nin0).other W7 (Or.inl (Ne.symm Hp11)))
  obtain ⟨T9, X9, e9, st9⟩ := getF X7 hx hZ hown (host := "") (Or.inl (hw _ (tm 257 rfl))) Via.refl e7 Fd8 (g := (mkF m 261 (l_21 r0 p1 r2 r3 p4 p5 t (16 : Int32) ((15 : Int32) &&& p1)) [(.ref r0), (.ref r0)])) rfl rfl (hb hby d33_261)
  have Ex10 := ((Hp0.keep K4).wr W7)
  obtain ⟨T11, h11, X11, e11, W11, st11⟩ := putF X9 hx hZ hown (host := "") (Or.inl (hw _ (tm 257 rfl))) Via.refl e9 Fd8 Ex10 (Or.inl (hw _ (tm 258 rfl))) (hw _ (tm 81 rfl)) (ty := .int) (by decide) rfl rfl (g := (mkF m 266 (l_21 r0 p1 r2 r3 p4 p5 t (16 : Int32) ((15 : Int32) &&& p1)) [(.int (2 : Int32)), (.ref r0)])) rfl rfl (hb hby d33_266)
  have N11 := Fr.snoc X11 N7 Hp10
  have Fw11 := Fd8.same W11
  have Fd12 := (((Hp3.keep K4 nin0).other W7 (Or.inl (Ne.symm Hp11))).other W11 (Or.inr (slot_ne (Or.inl (hw _ (tm 260 rfl))) (Or.inl (hw _ (tm 258 rfl))) (by decide) (t := .int) (t' := .int) (by decide) (by decide))))
  obtain ⟨T13, X13, e13, st13⟩ := getF X11 hx hZ hown (host := "") (Or.inl (hw _ (tm 259 rfl))) Via.refl e11 Fd12 (g := (mkF m 271 (l_21 r0 p1 r2 r3 p4 p5 t (16 : Int32) ((15 : Int32) &&& p1)) [(.ref r0), (.ref r0)])) rfl rfl (hb hby d33_271)
  have Ex14 := (Ex10.wr W11)
  obtain ⟨T15, h15, X15, e15, W15, st15⟩ := putF X13 hx hZ hown (host := "") (Or.inl (hw _ (tm 259 rfl))) Via.refl e13 Fd12 Ex14 (Or.inl (hw _ (tm 260 rfl))) (hw _ (tm 81 rfl)) (ty := .int) (by decide) rfl rfl (g := (mkF m 277 (l_21 r0 p1 r2 r3 p4 p5 t (16 : Int32) ((15 : Int32) &&& p1)) [(.int (2 : Int32)), (.ref r0), (.int (2 : Int32))])) rfl rfl (hb hby d33_277)
  have N15 := Fr.snoc X15 N11 Hp10
  have Fw15 := Fd12.same W15
  have Fd16 := ((((Hp2.keep K4 nin0).other W7 (Or.inl (Ne.symm Hp11))).other W11 (Or.inr (slot_ne (Or.inl (hw _ (tm 234 rfl))) (Or.inl (hw _ (tm 258 rfl))) (by decide) (t := .int) (t' := .int) (by decide) (by decide)))).other W15 (Or.inr (slot_ne (Or.inl (hw _ (tm 234 rfl))) (Or.inl (hw _ (tm 260 rfl))) (by decide) (t := .int) (t' := .int) (by decide) (by decide))))
  obtain ⟨T17, X17, e17, st17⟩ := getF X15 hx hZ hown (host := "") (Or.inl (hw _ (tm 233 rfl))) Via.refl e15 Fd16 (g := (mkF m 281 (l_21 r0 p1 r2 r3 p4 p5 t (16 : Int32) ((15 : Int32) &&& p1)) [(.ref r0), (.int (2 : Int32))])) rfl rfl (hb hby d33_281)
  have pre18 : ∀ tz, Steps p.tables e below (T17.setTop (mkF m 295 (l_21 r0 p1 r2 r3 p4 p5 t (16 : Int32) ((15 : Int32) &&& p1)) [(.int p5), (.ref r0)])) tz → Steps p.tables e below (s₁.setTop (entryFrame m #[(.ref r0), (.int p1), (.ref r2), (.ref r3), (.int p4), (.int p5)] 13)) tz := fun tz kk => pre0 tz (by
    show Steps _ _ _ (s₁.setTop (mkF m 0 (l_19 r0 p1 r2 r3 p4 p5) [])) _
    refine XS.aloadN X0.here hx rfl (hb hby d33_0) rfl rfl ?_
    show Steps _ _ _ (s₁.setTop (mkF m 1 (l_19 r0 p1 r2 r3 p4 p5) [(.ref r0)])) _
    refine st1 _ ?_
    show Steps _ _ _ (T1.setTop (mkF m 4 (l_19 r0 p1 r2 r3 p4 p5) [(.ref t)])) _
    refine XS.dup X1.here hx rfl (hb hby d33_4) rfl rfl ?_
    show Steps _ _ _ (T1.setTop (mkF m 5 (l_19 r0 p1 r2 r3 p4 p5) [(.ref t), (.ref t)])) _
    refine XS.astore X1.here hx rfl (hb hby d33_5) rfl rfl (l' := (l_22 r0 p1 r2 r3 p4 p5 t)) rfl ?_
    show Steps _ _ _ (T1.setTop (mkF m 7 (l_22 r0 p1 r2 r3 p4 p5 t) [(.ref t)])) _
    refine XS.ifnullNo X1.here hx rfl (hb hby d33_7) rfl ?_
    show Steps _ _ _ (T1.setTop (mkF m 10 (l_22 r0 p1 r2 r3 p4 p5 t) [])) _
    refine XS.aload X1.here hx rfl (hb hby d33_10) rfl rfl ?_
    show Steps _ _ _ (T1.setTop (mkF m 12 (l_22 r0 p1 r2 r3 p4 p5 t) [(.ref t)])) _
    refine X1.arraylength hx (by rw [e1]; exact Ar2.1) (State.isArrayOf_alike hZ.alike Ar2.2.1) (g := (mkF m 12 (l_22 r0 p1 r2 r3 p4 p5 t) [(.ref t)])) rfl rfl (hb hby d33_12) _ ?_
    rw [len_of S2 Nn2]
    show Steps _ _ _ (T1.setTop (mkF m 13 (l_22 r0 p1 r2 r3 p4 p5 t) [(.int (16 : Int32))])) _
    refine XS.dup X1.here hx rfl (hb hby d33_13) rfl rfl ?_
    show Steps _ _ _ (T1.setTop (mkF m 14 (l_22 r0 p1 r2 r3 p4 p5 t) [(.int (16 : Int32)), (.int (16 : Int32))])) _
    refine XS.istore X1.here hx rfl (hb hby d33_14) rfl (l' := (l_23 r0 p1 r2 r3 p4 p5 t (16 : Int32))) rfl ?_
    show Steps _ _ _ (T1.setTop (mkF m 16 (l_23 r0 p1 r2 r3 p4 p5 t (16 : Int32)) [(.int (16 : Int32))])) _
    refine XS.ifYes X1.here hx rfl (pc0 := 16) (pc' := 29) rfl (hb hby d33_16) rfl ((if0 _ _).trans (feq (by decide)).2) (by decide) (by decide) ?_
    show Steps _ _ _ (T1.setTop (mkF m 29 (l_23 r0 p1 r2 r3 p4 p5 t (16 : Int32)) [])) _
    refine XS.aload X1.here hx rfl (hb hby d33_29) rfl rfl ?_
    show Steps _ _ _ (T1.setTop (mkF m 31 (l_23 r0 p1 r2 r3 p4 p5 t (16 : Int32)) [(.ref t)])) _
    refine XS.iload X1.here hx rfl (hb hby d33_31) rfl ?_
    show Steps _ _ _ (T1.setTop (mkF m 33 (l_23 r0 p1 r2 r3 p4 p5 t (16 : Int32)) [(.int (16 : Int32)), (.ref t)])) _
    refine XS.iconst X1.here hx rfl (hb hby d33_33) ?_
    show Steps _ _ _ (T1.setTop (mkF m 34 (l_23 r0 p1 r2 r3 p4 p5 t (16 : Int32)) [(.int (1 : Int32)), (.int (16 : Int32)), (.ref t)])) _
    refine XS.isub X1.here hx rfl (hb hby d33_34) rfl ?_
    show Steps _ _ _ (T1.setTop (mkF m 35 (l_23 r0 p1 r2 r3 p4 p5 t (16 : Int32)) [(.int ((16 : Int32) - (1 : Int32))), (.ref t)])) _
    rw [show ((16 : Int32) - (1 : Int32)) = (15 : Int32) from (by decide)]
    show Steps _ _ _ (T1.setTop (mkF m 35 (l_23 r0 p1 r2 r3 p4 p5 t (16 : Int32)) [(.int (15 : Int32)), (.ref t)])) _
    refine XS.iloadN X1.here hx rfl (hb hby d33_35) rfl ?_
    show Steps _ _ _ (T1.setTop (mkF m 36 (l_23 r0 p1 r2 r3 p4 p5 t (16 : Int32)) [(.int p1), (.int (15 : Int32)), (.ref t)])) _
    refine XS.iand X1.here hx rfl (hb hby d33_36) rfl ?_
    show Steps _ _ _ (T1.setTop (mkF m 37 (l_23 r0 p1 r2 r3 p4 p5 t (16 : Int32)) [(.int ((15 : Int32) &&& p1)), (.ref t)])) _
    refine XS.dup X1.here hx rfl (hb hby d33_37) rfl rfl ?_
    show Steps _ _ _ (T1.setTop (mkF m 38 (l_23 r0 p1 r2 r3 p4 p5 t (16 : Int32)) [(.int ((15 : Int32) &&& p1)), (.int ((15 : Int32) &&& p1)), (.ref t)])) _
    refine XS.istore X1.here hx rfl (hb hby d33_38) rfl (l' := (l_24 r0 p1 r2 r3 p4 p5 t (16 : Int32) ((15 : Int32) &&& p1))) rfl ?_
    show Steps _ _ _ (T1.setTop (mkF m 40 (l_24 r0 p1 r2 r3 p4 p5 t (16 : Int32) ((15 : Int32) &&& p1)) [(.int ((15 : Int32) &&& p1)), (.ref t)])) _
    refine X1.aaload hx (j := ((15 : Int32) &&& p1)) (v := .null) (by rw [e1]; exact Ar3.1) (State.isArrayOf_alike hZ.alike Ar3.2.1) rfl Ar3.2.2 hin3 hat3 (g := (mkF m 40 (l_24 r0 p1 r2 r3 p4 p5 t (16 : Int32) ((15 : Int32) &&& p1)) [(.int ((15 : Int32) &&& p1)), (.ref t)])) rfl rfl (hb hby d33_40) _ ?_
    show Steps _ _ _ (T1.setTop (mkF m 41 (l_24 r0 p1 r2 r3 p4 p5 t (16 : Int32) ((15 : Int32) &&& p1)) [.null])) _
    refine XS.dup X1.here hx rfl (hb hby d33_41) rfl rfl ?_
    show Steps _ _ _ (T1.setTop (mkF m 42 (l_24 r0 p1 r2 r3 p4 p5 t (16 : Int32) ((15 : Int32) &&& p1)) [.null, .null])) _
    refine XS.astore X1.here hx rfl (hb hby d33_42) rfl rfl (l' := (l_21 r0 p1 r2 r3 p4 p5 t (16 : Int32) ((15 : Int32) &&& p1))) rfl ?_
    show Steps _ _ _ (T1.setTop (mkF m 44 (l_21 r0 p1 r2 r3 p4 p5 t (16 : Int32) ((15 : Int32) &&& p1)) [.null])) _
    refine XS.ifnonnullNo X1.here hx rfl (hb hby d33_44) rfl ?_
    show Steps _ _ _ (T1.setTop (mkF m 47 (l_21 r0 p1 r2 r3 p4 p5 t (16 : Int32) ((15 : Int32) &&& p1)) [])) _
    refine XS.aload X1.here hx rfl (hb hby d33_47) rfl rfl ?_
    show Steps _ _ _ (T1.setTop (mkF m 49 (l_21 r0 p1 r2 r3 p4 p5 t (16 : Int32) ((15 : Int32) &&& p1)) [(.ref t)])) _
    refine XS.iload X1.here hx rfl (hb hby d33_49) rfl ?_
    show Steps _ _ _ (T1.setTop (mkF m 51 (l_21 r0 p1 r2 r3 p4 p5 t (16 : Int32) ((15 : Int32) &&& p1)) [(.int ((15 : Int32) &&& p1)), (.ref t)])) _
    refine XS.aloadN X1.here hx rfl (hb hby d33_51) rfl rfl ?_
    show Steps _ _ _ (T1.setTop (mkF m 52 (l_21 r0 p1 r2 r3 p4 p5 t (16 : Int32) ((15 : Int32) &&& p1)) [(.ref r0), (.int ((15 : Int32) &&& p1)), (.ref t)])) _
    refine XS.iloadN X1.here hx rfl (hb hby d33_52) rfl ?_
    show Steps _ _ _ (T1.setTop (mkF m 53 (l_21 r0 p1 r2 r3 p4 p5 t (16 : Int32) ((15 : Int32) &&& p1)) [(.int p1), (.ref r0), (.int ((15 : Int32) &&& p1)), (.ref t)])) _
    refine XS.aloadN X1.here hx rfl (hb hby d33_53) rfl rfl ?_
    show Steps _ _ _ (T1.setTop (mkF m 54 (l_21 r0 p1 r2 r3 p4 p5 t (16 : Int32) ((15 : Int32) &&& p1)) [(.ref r2), (.int p1), (.ref r0), (.int ((15 : Int32) &&& p1)), (.ref t)])) _
    refine XS.aloadN X1.here hx rfl (hb hby d33_54) rfl rfl ?_
    show Steps _ _ _ (T1.setTop (mkF m 55 (l_21 r0 p1 r2 r3 p4 p5 t (16 : Int32) ((15 : Int32) &&& p1)) [(.ref r3), (.ref r2), (.int p1), (.ref r0), (.int ((15 : Int32) &&& p1)), (.ref t)])) _
    refine XS.aconstNull X1.here hx rfl (hb hby d33_55) ?_
    show Steps _ _ _ (T1.setTop (mkF m 56 (l_21 r0 p1 r2 r3 p4 p5 t (16 : Int32) ((15 : Int32) &&& p1)) [.null, (.ref r3), (.ref r2), (.int p1), (.ref r0), (.int ((15 : Int32) &&& p1)), (.ref t)])) _
    refine st4.trans ?_
    show Steps _ _ _ (T4.setTop (mkF m 59 (l_21 r0 p1 r2 r3 p4 p5 t (16 : Int32) ((15 : Int32) &&& p1)) [(.ref b4_n), (.int ((15 : Int32) &&& p1)), (.ref t)])) _
    refine st7 _ ?_
    show Steps _ _ _ (T7.setTop (mkF m 60 (l_21 r0 p1 r2 r3 p4 p5 t (16 : Int32) ((15 : Int32) &&& p1)) [])) _
    refine XS.goto X7.here hx rfl (pc0 := 60) (pc' := 259) rfl (hb hby d33_60) (by decide) (by decide) ?_
    show Steps _ _ _ (T7.setTop (mkF m 259 (l_21 r0 p1 r2 r3 p4 p5 t (16 : Int32) ((15 : Int32) &&& p1)) [])) _
    refine XS.aloadN X7.here hx rfl (hb hby d33_259) rfl rfl ?_
    show Steps _ _ _ (T7.setTop (mkF m 260 (l_21 r0 p1 r2 r3 p4 p5 t (16 : Int32) ((15 : Int32) &&& p1)) [(.ref r0)])) _
    refine XS.dup X7.here hx rfl (hb hby d33_260) rfl rfl ?_
    show Steps _ _ _ (T7.setTop (mkF m 261 (l_21 r0 p1 r2 r3 p4 p5 t (16 : Int32) ((15 : Int32) &&& p1)) [(.ref r0), (.ref r0)])) _
    refine st9 _ ?_
    show Steps _ _ _ (T9.setTop (mkF m 264 (l_21 r0 p1 r2 r3 p4 p5 t (16 : Int32) ((15 : Int32) &&& p1)) [(.int (1 : Int32)), (.ref r0)])) _
    refine XS.iconst X9.here hx rfl (hb hby d33_264) ?_
    show Steps _ _ _ (T9.setTop (mkF m 265 (l_21 r0 p1 r2 r3 p4 p5 t (16 : Int32) ((15 : Int32) &&& p1)) [(.int (1 : Int32)), (.int (1 : Int32)), (.ref r0)])) _
    refine XS.iadd X9.here hx rfl (hb hby d33_265) rfl ?_
    show Steps _ _ _ (T9.setTop (mkF m 266 (l_21 r0 p1 r2 r3 p4 p5 t (16 : Int32) ((15 : Int32) &&& p1)) [(.int ((1 : Int32) + (1 : Int32))), (.ref r0)])) _
    rw [show ((1 : Int32) + (1 : Int32)) = (2 : Int32) from (by decide)]
    show Steps _ _ _ (T9.setTop (mkF m 266 (l_21 r0 p1 r2 r3 p4 p5 t (16 : Int32) ((15 : Int32) &&& p1)) [(.int (2 : Int32)), (.ref r0)])) _
    refine st11 _ ?_
    show Steps _ _ _ (T11.setTop (mkF m 269 (l_21 r0 p1 r2 r3 p4 p5 t (16 : Int32) ((15 : Int32) &&& p1)) [])) _
    refine XS.aloadN X11.here hx rfl (hb hby d33_269) rfl rfl ?_
    show Steps _ _ _ (T11.setTop (mkF m 270 (l_21 r0 p1 r2 r3 p4 p5 t (16 : Int32) ((15 : Int32) &&& p1)) [(.ref r0)])) _
    refine XS.dup X11.here hx rfl (hb hby d33_270) rfl rfl ?_
    show Steps _ _ _ (T11.setTop (mkF m 271 (l_21 r0 p1 r2 r3 p4 p5 t (16 : Int32) ((15 : Int32) &&& p1)) [(.ref r0), (.ref r0)])) _
    refine st13 _ ?_
    show Steps _ _ _ (T13.setTop (mkF m 274 (l_21 r0 p1 r2 r3 p4 p5 t (16 : Int32) ((15 : Int32) &&& p1)) [(.int (1 : Int32)), (.ref r0)])) _
    refine XS.iconst X13.here hx rfl (hb hby d33_274) ?_
    show Steps _ _ _ (T13.setTop (mkF m 275 (l_21 r0 p1 r2 r3 p4 p5 t (16 : Int32) ((15 : Int32) &&& p1)) [(.int (1 : Int32)), (.int (1 : Int32)), (.ref r0)])) _
    refine XS.iadd X13.here hx rfl (hb hby d33_275) rfl ?_
    show Steps _ _ _ (T13.setTop (mkF m 276 (l_21 r0 p1 r2 r3 p4 p5 t (16 : Int32) ((15 : Int32) &&& p1)) [(.int ((1 : Int32) + (1 : Int32))), (.ref r0)])) _
    rw [show ((1 : Int32) + (1 : Int32)) = (2 : Int32) from (by decide)]
    show Steps _ _ _ (T13.setTop (mkF m 276 (l_21 r0 p1 r2 r3 p4 p5 t (16 : Int32) ((15 : Int32) &&& p1)) [(.int (2 : Int32)), (.ref r0)])) _
    refine XS.dupX1 X13.here hx rfl (hb hby d33_276) rfl rfl rfl ?_
    show Steps _ _ _ (T13.setTop (mkF m 277 (l_21 r0 p1 r2 r3 p4 p5 t (16 : Int32) ((15 : Int32) &&& p1)) [(.int (2 : Int32)), (.ref r0), (.int (2 : Int32))])) _
    refine st15 _ ?_
    show Steps _ _ _ (T15.setTop (mkF m 280 (l_21 r0 p1 r2 r3 p4 p5 t (16 : Int32) ((15 : Int32) &&& p1)) [(.int (2 : Int32))])) _
    refine XS.aloadN X15.here hx rfl (hb hby d33_280) rfl rfl ?_
    show Steps _ _ _ (T15.setTop (mkF m 281 (l_21 r0 p1 r2 r3 p4 p5 t (16 : Int32) ((15 : Int32) &&& p1)) [(.ref r0), (.int (2 : Int32))])) _
    refine st17 _ ?_
    show Steps _ _ _ (T17.setTop (mkF m 284 (l_21 r0 p1 r2 r3 p4 p5 t (16 : Int32) ((15 : Int32) &&& p1)) [(.int (12 : Int32)), (.int (2 : Int32))])) _
    refine XS.icmpYes X17.here hx rfl (pc0 := 284) (pc' := 292) rfl (hb hby d33_284) rfl (flt (by decide)).2.2.2 (by decide) (by decide) ?_
    show Steps _ _ _ (T17.setTop (mkF m 292 (l_21 r0 p1 r2 r3 p4 p5 t (16 : Int32) ((15 : Int32) &&& p1)) [])) _
    refine XS.aloadN X17.here hx rfl (hb hby d33_292) rfl rfl ?_
    show Steps _ _ _ (T17.setTop (mkF m 293 (l_21 r0 p1 r2 r3 p4 p5 t (16 : Int32) ((15 : Int32) &&& p1)) [(.ref r0)])) _
    refine XS.iload X17.here hx rfl (hb hby d33_293) rfl ?_
    exact kk)
  have Ex20 := (((Pc4_0.wr W7).wr W11).wr W15)
  have Ex21 := (Ex14.wr W15)
  have Av22 := ((V7.other W11 Hp11).other W15 Hp11)
  have Zz23 := (Nat.le_trans (Nat.le_trans (Nat.le_trans (Nat.le_trans Z0 K4.1) (Keep.of_wr W7).1) (Keep.of_wr W11).1) (Keep.of_wr W15).1)
  have Kp24 := (((((Keep.refl h0 [r0, t]).trans K4 all0).wr W7 (Or.inl (tm 1 rfl))).wr W11 (Or.inl (tm 0 rfl))).wr W15 (Or.inl (tm 0 rfl)))
  obtain ⟨cq19, kq19, q19a, q19b, q19c⟩ := isOf hZ e17 Ex21
  obtain ⟨_, _, ⟨T19, L19, k19, n19⟩, -, X19, ⟨Lc19, hQ19, l19, y19, z19⟩, st19⟩ := X17.virtualBack hx (y := (⟨"java/util/HashMap", "afterNodeInsertion", "(Z)V"⟩ : MethodName)) (z := (⟨"java/util/HashMap", "afterNodeInsertion", "(Z)V"⟩ : MethodName)) hown (mvT hZ (hw _ (tm 261 rfl))) (mvT hZ (hw _ (tm 262 rfl))) (notFace_of_selects (args := #[]) (mvT hZ (hw _ (tm 264 rfl)))) (mvT hZ (hw _ (tm 264 rfl))) (mvT hZ (hw _ (tm 263 rfl))) (by decide) (backOf (W := 0) (rm37 l Z a0 hw [] r0 p5  h15 n0 Zz23 ) hZ (hw _ (tm 265 rfl)) (hw _ (tm 82 rfl)) (by decide) (by decide)) q19a q19c (g := (mkF m 295 (l_21 r0 p1 r2 r3 p4 p5 t (16 : Int32) ((15 : Int32) &&& p1)) [(.int p5), (.ref r0)])) rfl (by rw [hml]; rfl) (Steps.refl _) (argsL := [(.int p5)]) (rest := []) (lenOf pd__28Z_29V rfl) rfl (by show 2 * 0 + _ ≤ _; exact Nat.le_of_eq rfl) (hb hby d33_295) (fun _ _ => ⟨rfl, e17, (by decide : 1 + 0 ≤ _), (by decide : 4 + 0 ≤ _)⟩)
  dsimp only [Pt.U, Pt.locs, Pt.cells, Pt.slots] at X19 l19 y19 z19 st19 hQ19
  subst l19 y19 z19
  obtain ⟨rfl, N19q, e19⟩ := hQ19
  have N19 := Fr.app N15 N19q
  have Fd25 := ((((Hp1.keep K4 nin0).other W7 (Or.inl (Ne.symm Hp11))).other W11 (Or.inr (slot_ne (Or.inl (hw _ (tm 227 rfl))) (Or.inl (hw _ (tm 258 rfl))) (by decide) (t := (.array (.object "java/util/HashMap$Node"))) (t' := .int) (by decide) (by decide)))).other W15 (Or.inr (slot_ne (Or.inl (hw _ (tm 227 rfl))) (Or.inl (hw _ (tm 260 rfl))) (by decide) (t := (.array (.object "java/util/HashMap$Node"))) (t' := .int) (by decide) (by decide))))
  have Fd26 := (Fw11.other W15 (Or.inr (slot_ne (Or.inl (hw _ (tm 258 rfl))) (Or.inl (hw _ (tm 260 rfl))) (by decide) (t := .int) (t' := .int) (by decide) (by decide))))
  have Fd27 := (((Pc4_1.other W7 (Or.inl (Ne.symm ne_t_b4_n))).other W11 (Or.inl (Ne.symm ne_r0_b4_n))).other W15 (Or.inl (Ne.symm ne_r0_b4_n)))
  have Fd28 := (((Pc4_2.other W7 (Or.inl (Ne.symm ne_t_b4_n))).other W11 (Or.inl (Ne.symm ne_r0_b4_n))).other W15 (Or.inl (Ne.symm ne_r0_b4_n)))
  have Fd29 := (((Pc4_3.other W7 (Or.inl (Ne.symm ne_t_b4_n))).other W11 (Or.inl (Ne.symm ne_r0_b4_n))).other W15 (Or.inl (Ne.symm ne_r0_b4_n)))
  obtain ⟨fs, hr, hrun, hended, hW, hsame⟩ := X19.leave (v := some .null) (fun h => by rw [Bd.returns] at h; cases h)
  refine ⟨_, _, pre18 _ ?_, hrun, hended, _, _, rfl, ?_, ⟨_, rfl⟩, hW, hsame.mono (by decide) (by decide)⟩
  · show Steps _ _ _ (T17.setTop (mkF m 295 (l_21 r0 p1 r2 r3 p4 p5 t (16 : Int32) ((15 : Int32) &&& p1)) [(.int p5), (.ref r0)])) _
    refine st19.trans ?_
    show Steps _ _ _ (T19.setTop (mkF m 298 (l_21 r0 p1 r2 r3 p4 p5 t (16 : Int32) ((15 : Int32) &&& p1)) [])) _
    refine XS.aconstNull X19.here hx rfl (hb hby d33_298) ?_
    show Steps _ _ _ (T19.setTop (mkF m 299 (l_21 r0 p1 r2 r3 p4 p5 t (16 : Int32) ((15 : Int32) &&& p1)) [.null])) _
    exact X19.areturnOut hx rfl Bd.returns rfl (hb hby d33_299) hr
  · show Q33_s Z r0 p1 r2 r3 p4 p5 t kt vs i h0 n0 _ T19.heap _
    rw [e19]
    exact ⟨b4_n, rfl, N19, Kp24, sz_b4_n, Ex21, Fd25, Fd16, Fw15, Fd26, Av22, Ex20, Fd27, Fd28, Fd29⟩
def Q28_f (Z : State) (r0 : Addr) (r1 : Addr) (r2 : Addr) (v1 : Addr) (kb : ClassId) (b : Int32) (cs : Int32) (i : Nat) (h0 : Heap) (n0 : Nat) (v : Option Value) (h : Heap) (L : List Loc) : Prop := ∃ t : Addr, ∃ kt : ClassId, ∃ n : Addr, v = some .null ∧ Fr n0 L ∧ Keep h0 h [r0, r1] ∧ h0.size ≤ t ∧ h0.size ≤ n ∧ Exa Z h r0 "java/util/HashMap" ∧ Fld Z h r0 "java/util/HashMap" "table" "[Ljava/util/HashMap$Node;" (.ref t) ∧ Fld Z h r0 "java/util/HashMap" "threshold" "I" (.int (12 : Int32)) ∧ Fld Z h r0 "java/util/HashMap" "size" "I" (.int (1 : Int32)) ∧ Fld Z h r0 "java/util/HashMap" "modCount" "I" (.int (1 : Int32)) ∧ Arv Z h t kt (.object "java/util/HashMap$Node") (16 : Int32) ((List.replicate 16 Value.null).set i (.ref n)) .null ∧ Ovr Z kt "java/util/HashMap$Node" ∧ Exa Z h n "java/util/HashMap$Node" ∧ Fld Z h n "java/util/HashMap$Node" "hash" "I" (.int b) ∧ Fld Z h n "java/util/HashMap$Node" "key" "Ljava/lang/Object;" (.ref r1) ∧ Fld Z h n "java/util/HashMap$Node" "value" "Ljava/lang/Object;" (.ref r2) ∧ Exa Z h r1 "java/lang/String" ∧ Fld Z h r1 "java/lang/String" "value" "[B" (.ref v1) ∧ Fld Z h r1 "java/lang/String" "coder" "B" (.int (0 : Int32)) ∧ t ≠ n
theorem d28_0 : decode jdk_69_method_15_code 0 = .ok (.aload_n 0, 1) := by decide +kernel
theorem d28_1 : decode jdk_69_method_15_code 1 = .ok (.aload_n 1, 1) := by decide +kernel
theorem d28_2 : decode jdk_69_method_15_code 2 = .ok (.invokestatic 149, 3) := by decide +kernel
theorem pd__28Ljava_2flang_2fObject_3b_29I : parseMethodDescriptor "(Ljava/lang/Object;)I" = some ⟨[(.object "java/lang/Object")], some .int⟩ := by decide +kernel
theorem d28_5 : decode jdk_69_method_15_code 5 = .ok (.aload_n 1, 1) := by decide +kernel
theorem d28_6 : decode jdk_69_method_15_code 6 = .ok (.aload_n 2, 1) := by decide +kernel
theorem d28_7 : decode jdk_69_method_15_code 7 = .ok (.iconst 0, 1) := by decide +kernel
theorem d28_8 : decode jdk_69_method_15_code 8 = .ok (.iconst 1, 1) := by decide +kernel
theorem d28_9 : decode jdk_69_method_15_code 9 = .ok (.invokevirtual 152, 3) := by decide +kernel
theorem pd__28ILjava_2flang_2fObject_3bLjava_2flang_2fObject_3bZZ_29Ljava_2flang_2fObject_3b : parseMethodDescriptor "(ILjava/lang/Object;Ljava/lang/Object;ZZ)Ljava/lang/Object;" = some ⟨[.int, (.object "java/lang/Object"), (.object "java/lang/Object"), .boolean, .boolean], some (.object "java/lang/Object")⟩ := by decide +kernel
theorem d28_12 : decode jdk_69_method_15_code 12 = .ok (.areturn, 1) := by decide +kernel
theorem ef_28_f (m : MethodId) (r0 : Addr) (r1 : Addr) (r2 : Addr) : entryFrame m #[(.ref r0), (.ref r1), (.ref r2)] 3 = mkF m 0 #[.val (.ref r0), .val (.ref r1), .val (.ref r2)] [] := by first | (simp [entryFrame, mkF, argsToLocals, Value.category]; done) | rfl
set_option maxRecDepth 65536 in
set_option maxHeartbeats 40000000 in
theorem rm28_f (l : Launch) (Z : State) (a0 : Array Value) (hw : ∀ d ∈ tables_1, d.before a0 Z = true) (ws : List Jvm.Cond) (r0 : Addr) (r1 : Addr) (r2 : Addr) (v1 : Addr) (kb : ClassId) (b : Int32) (cs : Int32) (i : Nat) (h0 : Heap) (n0 : Nat) (Z0 : n0 ≤ h0.size) (Hp0 : Exa Z h0 r0 "java/util/HashMap") (Hp1 : Fld Z h0 r0 "java/util/HashMap" "table" "[Ljava/util/HashMap$Node;" .null) (Hp2 : Fld Z h0 r0 "java/util/HashMap" "threshold" "I" (.int (0 : Int32))) (Hp3 : Fld Z h0 r0 "java/util/HashMap" "size" "I" (.int (0 : Int32))) (Hp4 : Fld Z h0 r0 "java/util/HashMap" "modCount" "I" (.int (0 : Int32))) (Hp5 : Exa Z h0 r1 "java/lang/String") (Hp6 : Fld Z h0 r1 "java/lang/String" "value" "[B" (.ref v1)) (Hp7 : Fld Z h0 r1 "java/lang/String" "coder" "B" (.int (0 : Int32))) (Hp8 : Fld Z h0 r1 "java/lang/String" "hash" "I" (.int (0 : Int32))) (Hp9 : Fld Z h0 r1 "java/lang/String" "hashIsZero" "Z" (.int (0 : Int32))) (Hp10 : Arv Z h0 v1 kb .byte (1 : Int32) [(.int b)] (.int (0 : Int32))) (hgd : Gd b) (Hp12 : Old Z n0 h0) (Hp13 : Sta Z Z.heap "java/lang/String" "COMPACT_STRINGS" "Z" (.int cs)) (hcs : ¬ cs = (0 : Int32)) (hix : Ix b i) (Hp16 : n0 ≤ r0) (Hp17 : r1 ≠ r0) (Hp18 : v1 ≠ r0) (Hp19 : n0 ≤ r1) (Hp20 : v1 ≠ r1) :
    MetFree l (⟨"java/util/HashMap", "put", "(Ljava/lang/Object;Ljava/lang/Object;)Ljava/lang/Object;"⟩ : MethodName) (head1 (Jvm.Cond.code (⟨"java/util/HashMap", "put", "(Ljava/lang/Object;Ljava/lang/Object;)Ljava/lang/Object;"⟩ : MethodName) jdk_69_method_15_code 3 (some (.object "java/lang/Object")) :: ws) ({ frames := 4, cells := 2, slots := 20, locals := 71 } : Room)) (fun a U => a = #[(.ref r0), (.ref r1), (.ref r2)] ∧ Z.Warmed39 U.vm ∧ U.heap = h0) (fun _ _ _ _ _ => True) (fun _ U o U' => ∃ v L, o = .returned v ∧ Q28_f Z r0 r1 r2 v1 kb b cs i h0 n0 v U'.heap L ∧ FrameEnd U o U' L ({ frames := 4, cells := 2, slots := 20, locals := 71 } : Room).cells ({ frames := 4, cells := 2, slots := 20, locals := 71 } : Room).slots) := by
  refine MetFree.of_bodySF (plainFor_of_name pn_java_util_HashMap) hisR ?_
  intro p e s m args below meth c s₁ Bd hml0 hP hK
  obtain ⟨rfl, hZ, hh⟩ := hP
  have hx := Bd.exec
  have hby := Bd.bytes
  have hml : c.maxLocals = 3 := hml0
  have hown : s.vm.findClass "java/util/HashMap" = some m.cls := findClass_of_methodNamed Bd.named
  have hnm := (name_of_methodNamed Bd.named Bd.method).1
  have X0 : Stand p l e ({ frames := 4, cells := 2, slots := 20, locals := 71 } : Room) s m #[(.ref r0), (.ref r1), (.ref r2)] below meth c s₁ [] 0 0 := Stand.of_body Bd
  have e0 : s₁.heap = h0 := by rw [← hh, Bd.state]; rfl
  have N0 := Fr.nil n0
  have pre0 : ∀ t, Steps p.tables e below (s₁.setTop (mkF m 0 (l_10 r0 r1 r2) [])) t → Steps p.tables e below (s₁.setTop (entryFrame m #[(.ref r0), (.ref r1), (.ref r2)] 3)) t := fun t k => castTop (ef_28_f m r0 r1 r2) k
  obtain ⟨_, _, ⟨T1, L1, k1, n1⟩, -, X1, ⟨Lc1, hQ1, l1, y1, z1⟩, st1⟩ := Jvm.LawKit.callS X0 hx (y := (⟨"java/util/HashMap", "hash", "(Ljava/lang/Object;)I"⟩ : MethodName)) hown (mvT hZ (hw _ (tm 199 rfl))) (mvT hZ (hw _ (tm 200 rfl))) (mvT hZ (hw _ (tm 82 rfl))) (mvT hZ (hw _ (tm 201 rfl))) (by decide) (backOf (W := 1) (rm29 l Z a0 hw [] r1 (v1) (kb) (b) (cs) h0 n0 Z0 Hp5 Hp6 Hp7 Hp8 Hp9 Hp10 hgd Hp12 Hp13 hcs Hp19 Hp20) hZ (hw _ (tm 201 rfl)) (hw _ (tm 82 rfl)) (by decide) (by decide)) (g := (mkF m 2 (l_10 r0 r1 r2) [(.ref r1), (.ref r0)])) rfl (by rw [hml]; rfl) (argsL := [(.ref r1)]) (rest := [(.ref r0)]) (lenOf pd__28Ljava_2flang_2fObject_3b_29I rfl) rfl (by show 2 * 0 + _ ≤ _; exact Nat.le_of_eq rfl) (hb hby d28_2) (fun _ _ => ⟨rfl, e0, (by decide : 0 + 0 ≤ _), (by decide : 0 + 0 ≤ _)⟩)
  dsimp only [Pt.U, Pt.locs, Pt.cells, Pt.slots] at X1 l1 y1 z1 st1 hQ1
  subst l1 y1 z1
  obtain ⟨rfl, N1q, K1, Pc1_0, Pc1_1, Pc1_2, Pc1_3, Pc1_4⟩ := hQ1
  have N1 := Fr.app N0 N1q
  have Ex3 := (Hp0.keep K1)
  have Av4 := (Hp10.keep K1 (ninS Hp20 nin0))
  have Zz5 := (Nat.le_trans Z0 K1.1)
  have Kp6 := ((Keep.refl h0 [r0, r1]).trans K1 (allS (Or.inl (tm 1 rfl)) all0))
  have Fd7 := (Hp1.keep K1 (ninS (Ne.symm Hp17) nin0))
  have Fd8 := (Hp2.keep K1 (ninS (Ne.symm Hp17) nin0))
  have Fd9 := (Hp3.keep K1 (ninS (Ne.symm Hp17) nin0))
  have Fd10 := (Hp4.keep K1 (ninS (Ne.symm Hp17) nin0))
  obtain ⟨cq2, kq2, q2a, q2b, q2c⟩ := isOf hZ rfl Ex3
  obtain ⟨_, _, ⟨T2, L2, k2, n2⟩, -, X2, ⟨Lc2, hQ2, l2, y2, z2⟩, st2⟩ := X1.virtualBack hx (y := (⟨"java/util/HashMap", "putVal", "(ILjava/lang/Object;Ljava/lang/Object;ZZ)Ljava/lang/Object;"⟩ : MethodName)) (z := (⟨"java/util/HashMap", "putVal", "(ILjava/lang/Object;Ljava/lang/Object;ZZ)Ljava/lang/Object;"⟩ : MethodName)) hown (mvT hZ (hw _ (tm 221 rfl))) (mvT hZ (hw _ (tm 222 rfl))) (notFace_of_selects (args := #[]) (mvT hZ (hw _ (tm 224 rfl)))) (mvT hZ (hw _ (tm 224 rfl))) (mvT hZ (hw _ (tm 223 rfl))) (by decide) (backOf (W := 0) (rm33_f l Z a0 hw [] r0 b r1 r2 (0 : Int32) (1 : Int32) (i) T1.heap n0 Zz5 Ex3 Fd7 Fd8 Fd9 Fd10 hix Hp16) hZ (hw _ (tm 225 rfl)) (hw _ (tm 82 rfl)) (by decide) (by decide)) q2a q2c (g := (mkF m 9 (l_10 r0 r1 r2) [(.int (1 : Int32)), (.int (0 : Int32)), (.ref r2), (.ref r1), (.int b), (.ref r0)])) rfl (by rw [hml]; rfl) (Steps.refl _) (argsL := [(.int b), (.ref r1), (.ref r2), (.int (0 : Int32)), (.int (1 : Int32))]) (rest := []) (lenOf pd__28ILjava_2flang_2fObject_3bLjava_2flang_2fObject_3bZZ_29Ljava_2flang_2fObject_3b rfl) rfl (by show 2 * 0 + _ ≤ _; exact Nat.le_of_eq rfl) (hb hby d28_9) (fun _ _ => ⟨rfl, rfl, (by decide : 0 + 2 ≤ _), (by decide : 0 + 20 ≤ _)⟩)
  dsimp only [Pt.U, Pt.locs, Pt.cells, Pt.slots] at X2 l2 y2 z2 st2 hQ2
  subst l2 y2 z2
  obtain ⟨b2_t, b2_kt, b2_n, rfl, N2q, K2, Sz2_t, Sz2_n, Pc2_0, Pc2_1, Pc2_2, Pc2_3, Pc2_4, Pc2_5, Pc2_6, Pc2_7, Pc2_8, Pc2_9, Pc2_10, Pc2_11⟩ := hQ2
  have N2 := Fr.app N1 N2q
  have g_b2_t : n0 ≤ b2_t := Nat.le_trans Zz5 Sz2_t
  have sz_b2_t : h0.size ≤ b2_t := Nat.le_trans Kp6.1 Sz2_t
  have ne_r0_b2_t : r0 ≠ b2_t := Nat.ne_of_lt (Nat.lt_of_lt_of_le Ex3.lt Sz2_t)
  have ne_r1_b2_t : r1 ≠ b2_t := Nat.ne_of_lt (Nat.lt_of_lt_of_le Pc1_0.lt Sz2_t)
  have ne_v1_b2_t : v1 ≠ b2_t := Nat.ne_of_lt (Nat.lt_of_lt_of_le Av4.lt Sz2_t)
  have g_b2_n : n0 ≤ b2_n := Nat.le_trans Zz5 Sz2_n
  have sz_b2_n : h0.size ≤ b2_n := Nat.le_trans Kp6.1 Sz2_n
  have ne_r0_b2_n : r0 ≠ b2_n := Nat.ne_of_lt (Nat.lt_of_lt_of_le Ex3.lt Sz2_n)
  have ne_r1_b2_n : r1 ≠ b2_n := Nat.ne_of_lt (Nat.lt_of_lt_of_le Pc1_0.lt Sz2_n)
  have ne_v1_b2_n : v1 ≠ b2_n := Nat.ne_of_lt (Nat.lt_of_lt_of_le Av4.lt Sz2_n)
  have Ex11 := (Pc1_0.keep K2)
  have Fd12 := (Pc1_1.keep K2 (ninS Hp17 nin0))
  have Fd13 := (Pc1_2.keep K2 (ninS Hp17 nin0))
  have Kp14 := (Kp6.trans K2 (allS (Or.inl (tm 0 rfl)) all0))
  obtain ⟨fs, hr, hrun, hended, hW, hsame⟩ := X2.leave (v := some .null) (fun h => by rw [Bd.returns] at h; cases h)
  refine ⟨_, _, pre0 _ ?_, hrun, hended, _, _, rfl, ?_, ⟨_, rfl⟩, hW, hsame.mono (by decide) (by decide)⟩
  · show Steps _ _ _ (s₁.setTop (mkF m 0 (l_10 r0 r1 r2) [])) _
    refine XS.aloadN X0.here hx rfl (hb hby d28_0) rfl rfl ?_
    show Steps _ _ _ (s₁.setTop (mkF m 1 (l_10 r0 r1 r2) [(.ref r0)])) _
    refine XS.aloadN X0.here hx rfl (hb hby d28_1) rfl rfl ?_
    show Steps _ _ _ (s₁.setTop (mkF m 2 (l_10 r0 r1 r2) [(.ref r1), (.ref r0)])) _
    refine st1 _ ?_
    show Steps _ _ _ (T1.setTop (mkF m 5 (l_10 r0 r1 r2) [(.int b), (.ref r0)])) _
    refine XS.aloadN X1.here hx rfl (hb hby d28_5) rfl rfl ?_
    show Steps _ _ _ (T1.setTop (mkF m 6 (l_10 r0 r1 r2) [(.ref r1), (.int b), (.ref r0)])) _
    refine XS.aloadN X1.here hx rfl (hb hby d28_6) rfl rfl ?_
    show Steps _ _ _ (T1.setTop (mkF m 7 (l_10 r0 r1 r2) [(.ref r2), (.ref r1), (.int b), (.ref r0)])) _
    refine XS.iconst X1.here hx rfl (hb hby d28_7) ?_
    show Steps _ _ _ (T1.setTop (mkF m 8 (l_10 r0 r1 r2) [(.int (0 : Int32)), (.ref r2), (.ref r1), (.int b), (.ref r0)])) _
    refine XS.iconst X1.here hx rfl (hb hby d28_8) ?_
    show Steps _ _ _ (T1.setTop (mkF m 9 (l_10 r0 r1 r2) [(.int (1 : Int32)), (.int (0 : Int32)), (.ref r2), (.ref r1), (.int b), (.ref r0)])) _
    refine st2.trans ?_
    show Steps _ _ _ (T2.setTop (mkF m 12 (l_10 r0 r1 r2) [.null])) _
    exact X2.areturnOut hx rfl Bd.returns rfl (hb hby d28_12) hr
  · show Q28_f Z r0 r1 r2 v1 kb b cs i h0 n0 _ T2.heap _
    exact ⟨b2_t, b2_kt, b2_n, rfl, N2, Kp14, sz_b2_t, sz_b2_n, Pc2_0, Pc2_1, Pc2_2, Pc2_3, Pc2_4, Pc2_5, Pc2_6, Pc2_7, Pc2_8, Pc2_9, Pc2_10, Ex11, Fd12, Fd13, Pc2_11⟩
def Q28_s (Z : State) (r0 : Addr) (r1 : Addr) (r2 : Addr) (v1 : Addr) (kb : ClassId) (b : Int32) (cs : Int32) (i : Nat) (t : Addr) (kt : ClassId) (vs : List Value) (h0 : Heap) (n0 : Nat) (v : Option Value) (h : Heap) (L : List Loc) : Prop := ∃ n : Addr, v = some .null ∧ Fr n0 L ∧ Keep h0 h [r0, t, r1] ∧ h0.size ≤ n ∧ Exa Z h r0 "java/util/HashMap" ∧ Fld Z h r0 "java/util/HashMap" "table" "[Ljava/util/HashMap$Node;" (.ref t) ∧ Fld Z h r0 "java/util/HashMap" "threshold" "I" (.int (12 : Int32)) ∧ Fld Z h r0 "java/util/HashMap" "size" "I" (.int (2 : Int32)) ∧ Fld Z h r0 "java/util/HashMap" "modCount" "I" (.int (2 : Int32)) ∧ Arv Z h t kt (.object "java/util/HashMap$Node") (16 : Int32) (vs.set i (.ref n)) .null ∧ Exa Z h n "java/util/HashMap$Node" ∧ Fld Z h n "java/util/HashMap$Node" "hash" "I" (.int b) ∧ Fld Z h n "java/util/HashMap$Node" "key" "Ljava/lang/Object;" (.ref r1) ∧ Fld Z h n "java/util/HashMap$Node" "value" "Ljava/lang/Object;" (.ref r2) ∧ Exa Z h r1 "java/lang/String" ∧ Fld Z h r1 "java/lang/String" "value" "[B" (.ref v1) ∧ Fld Z h r1 "java/lang/String" "coder" "B" (.int (0 : Int32))
theorem ef_28_s (m : MethodId) (r0 : Addr) (r1 : Addr) (r2 : Addr) : entryFrame m #[(.ref r0), (.ref r1), (.ref r2)] 3 = mkF m 0 #[.val (.ref r0), .val (.ref r1), .val (.ref r2)] [] := by first | (simp [entryFrame, mkF, argsToLocals, Value.category]; done) | rfl
set_option maxRecDepth 65536 in
set_option maxHeartbeats 40000000 in
theorem rm28_s (l : Launch) (Z : State) (a0 : Array Value) (hw : ∀ d ∈ tables_1, d.before a0 Z = true) (ws : List Jvm.Cond) (r0 : Addr) (r1 : Addr) (r2 : Addr) (v1 : Addr) (kb : ClassId) (b : Int32) (cs : Int32) (i : Nat) (t : Addr) (kt : ClassId) (vs : List Value) (h0 : Heap) (n0 : Nat) (Z0 : n0 ≤ h0.size) (Hp0 : Exa Z h0 r0 "java/util/HashMap") (Hp1 : Fld Z h0 r0 "java/util/HashMap" "table" "[Ljava/util/HashMap$Node;" (.ref t)) (Hp2 : Fld Z h0 r0 "java/util/HashMap" "threshold" "I" (.int (12 : Int32))) (Hp3 : Fld Z h0 r0 "java/util/HashMap" "size" "I" (.int (1 : Int32))) (Hp4 : Fld Z h0 r0 "java/util/HashMap" "modCount" "I" (.int (1 : Int32))) (Hp5 : Arv Z h0 t kt (.object "java/util/HashMap$Node") (16 : Int32) vs .null) (Hp6 : Ovr Z kt "java/util/HashMap$Node") (Hp7 : Exa Z h0 r1 "java/lang/String") (Hp8 : Fld Z h0 r1 "java/lang/String" "value" "[B" (.ref v1)) (Hp9 : Fld Z h0 r1 "java/lang/String" "coder" "B" (.int (0 : Int32))) (Hp10 : Fld Z h0 r1 "java/lang/String" "hash" "I" (.int (0 : Int32))) (Hp11 : Fld Z h0 r1 "java/lang/String" "hashIsZero" "Z" (.int (0 : Int32))) (Hp12 : Arv Z h0 v1 kb .byte (1 : Int32) [(.int b)] (.int (0 : Int32))) (hgd : Gd b) (Hp14 : Old Z n0 h0) (Hp15 : Sta Z Z.heap "java/lang/String" "COMPACT_STRINGS" "Z" (.int cs)) (hcs : ¬ cs = (0 : Int32)) (hix : Ix b i) (hfree : vs.getD i Value.null = Value.null) (hlen : vs.length = 16) (Hp20 : n0 ≤ r0) (Hp21 : t ≠ r0) (Hp22 : r1 ≠ r0) (Hp23 : v1 ≠ r0) (Hp24 : n0 ≤ t) (Hp25 : r1 ≠ t) (Hp26 : v1 ≠ t) (Hp27 : n0 ≤ r1) (Hp28 : v1 ≠ r1) :
    MetFree l (⟨"java/util/HashMap", "put", "(Ljava/lang/Object;Ljava/lang/Object;)Ljava/lang/Object;"⟩ : MethodName) (head1 (Jvm.Cond.code (⟨"java/util/HashMap", "put", "(Ljava/lang/Object;Ljava/lang/Object;)Ljava/lang/Object;"⟩ : MethodName) jdk_69_method_15_code 3 (some (.object "java/lang/Object")) :: ws) ({ frames := 4, cells := 1, slots := 4, locals := 71 } : Room)) (fun a U => a = #[(.ref r0), (.ref r1), (.ref r2)] ∧ Z.Warmed39 U.vm ∧ U.heap = h0) (fun _ _ _ _ _ => True) (fun _ U o U' => ∃ v L, o = .returned v ∧ Q28_s Z r0 r1 r2 v1 kb b cs i t kt vs h0 n0 v U'.heap L ∧ FrameEnd U o U' L ({ frames := 4, cells := 1, slots := 4, locals := 71 } : Room).cells ({ frames := 4, cells := 1, slots := 4, locals := 71 } : Room).slots) := by
  refine MetFree.of_bodySF (plainFor_of_name pn_java_util_HashMap) hisR ?_
  intro p e s m args below meth c s₁ Bd hml0 hP hK
  obtain ⟨rfl, hZ, hh⟩ := hP
  have hx := Bd.exec
  have hby := Bd.bytes
  have hml : c.maxLocals = 3 := hml0
  have hown : s.vm.findClass "java/util/HashMap" = some m.cls := findClass_of_methodNamed Bd.named
  have hnm := (name_of_methodNamed Bd.named Bd.method).1
  have X0 : Stand p l e ({ frames := 4, cells := 1, slots := 4, locals := 71 } : Room) s m #[(.ref r0), (.ref r1), (.ref r2)] below meth c s₁ [] 0 0 := Stand.of_body Bd
  have e0 : s₁.heap = h0 := by rw [← hh, Bd.state]; rfl
  have N0 := Fr.nil n0
  have pre0 : ∀ t, Steps p.tables e below (s₁.setTop (mkF m 0 (l_10 r0 r1 r2) [])) t → Steps p.tables e below (s₁.setTop (entryFrame m #[(.ref r0), (.ref r1), (.ref r2)] 3)) t := fun t k => castTop (ef_28_s m r0 r1 r2) k
  obtain ⟨_, _, ⟨T1, L1, k1, n1⟩, -, X1, ⟨Lc1, hQ1, l1, y1, z1⟩, st1⟩ := Jvm.LawKit.callS X0 hx (y := (⟨"java/util/HashMap", "hash", "(Ljava/lang/Object;)I"⟩ : MethodName)) hown (mvT hZ (hw _ (tm 199 rfl))) (mvT hZ (hw _ (tm 200 rfl))) (mvT hZ (hw _ (tm 82 rfl))) (mvT hZ (hw _ (tm 201 rfl))) (by decide) (backOf (W := 1) (rm29 l Z a0 hw [] r1 (v1) (kb) (b) (cs) h0 n0 Z0 Hp7 Hp8 Hp9 Hp10 Hp11 Hp12 hgd Hp14 Hp15 hcs Hp27 Hp28) hZ (hw _ (tm 201 rfl)) (hw _ (tm 82 rfl)) (by decide) (by decide)) (g := (mkF m 2 (l_10 r0 r1 r2) [(.ref r1), (.ref r0)])) rfl (by rw [hml]; rfl) (argsL := [(.ref r1)]) (rest := [(.ref r0)]) (lenOf pd__28Ljava_2flang_2fObject_3b_29I rfl) rfl (by show 2 * 0 + _ ≤ _; exact Nat.le_of_eq rfl) (hb hby d28_2) (fun _ _ => ⟨rfl, e0, (by decide : 0 + 0 ≤ _), (by decide : 0 + 0 ≤ _)⟩)
  dsimp only [Pt.U, Pt.locs, Pt.cells, Pt.slots] at X1 l1 y1 z1 st1 hQ1
  subst l1 y1 z1
  obtain ⟨rfl, N1q, K1, Pc1_0, Pc1_1, Pc1_2, Pc1_3, Pc1_4⟩ := hQ1
  have N1 := Fr.app N0 N1q
  have Ex3 := (Hp0.keep K1)
  have Av4 := (Hp5.keep K1 (ninS (Ne.symm Hp25) nin0))
  have Av5 := (Hp12.keep K1 (ninS Hp28 nin0))
  have Zz6 := (Nat.le_trans Z0 K1.1)
  have Kp7 := ((Keep.refl h0 [r0, t, r1]).trans K1 (allS (Or.inl (tm 2 rfl)) all0))
  have Fd8 := (Hp1.keep K1 (ninS (Ne.symm Hp22) nin0))
  have Fd9 := (Hp2.keep K1 (ninS (Ne.symm Hp22) nin0))
  have Fd10 := (Hp3.keep K1 (ninS (Ne.symm Hp22) nin0))
  have Fd11 := (Hp4.keep K1 (ninS (Ne.symm Hp22) nin0))
  obtain ⟨cq2, kq2, q2a, q2b, q2c⟩ := isOf hZ rfl Ex3
  obtain ⟨_, _, ⟨T2, L2, k2, n2⟩, -, X2, ⟨Lc2, hQ2, l2, y2, z2⟩, st2⟩ := X1.virtualBack hx (y := (⟨"java/util/HashMap", "putVal", "(ILjava/lang/Object;Ljava/lang/Object;ZZ)Ljava/lang/Object;"⟩ : MethodName)) (z := (⟨"java/util/HashMap", "putVal", "(ILjava/lang/Object;Ljava/lang/Object;ZZ)Ljava/lang/Object;"⟩ : MethodName)) hown (mvT hZ (hw _ (tm 221 rfl))) (mvT hZ (hw _ (tm 222 rfl))) (notFace_of_selects (args := #[]) (mvT hZ (hw _ (tm 224 rfl)))) (mvT hZ (hw _ (tm 224 rfl))) (mvT hZ (hw _ (tm 223 rfl))) (by decide) (backOf (W := 0) (rm33_s l Z a0 hw [] r0 b r1 r2 (0 : Int32) (1 : Int32) (t) (kt) (vs) (i) T1.heap n0 Zz6 Ex3 Fd8 Fd9 Fd10 Fd11 Av4 Hp6 hix hfree hlen Hp20 Hp21 Hp24) hZ (hw _ (tm 225 rfl)) (hw _ (tm 82 rfl)) (by decide) (by decide)) q2a q2c (g := (mkF m 9 (l_10 r0 r1 r2) [(.int (1 : Int32)), (.int (0 : Int32)), (.ref r2), (.ref r1), (.int b), (.ref r0)])) rfl (by rw [hml]; rfl) (Steps.refl _) (argsL := [(.int b), (.ref r1), (.ref r2), (.int (0 : Int32)), (.int (1 : Int32))]) (rest := []) (lenOf pd__28ILjava_2flang_2fObject_3bLjava_2flang_2fObject_3bZZ_29Ljava_2flang_2fObject_3b rfl) rfl (by show 2 * 0 + _ ≤ _; exact Nat.le_of_eq rfl) (hb hby d28_9) (fun _ _ => ⟨rfl, rfl, (by decide : 0 + 1 ≤ _), (by decide : 0 + 4 ≤ _)⟩)
  dsimp only [Pt.U, Pt.locs, Pt.cells, Pt.slots] at X2 l2 y2 z2 st2 hQ2
  subst l2 y2 z2
  obtain ⟨b2_n, rfl, N2q, K2, Sz2_n, Pc2_0, Pc2_1, Pc2_2, Pc2_3, Pc2_4, Pc2_5, Pc2_6, Pc2_7, Pc2_8, Pc2_9⟩ := hQ2
  have N2 := Fr.app N1 N2q
  have g_b2_n : n0 ≤ b2_n := Nat.le_trans Zz6 Sz2_n
  have sz_b2_n : h0.size ≤ b2_n := Nat.le_trans Kp7.1 Sz2_n
  have ne_r0_b2_n : r0 ≠ b2_n := Nat.ne_of_lt (Nat.lt_of_lt_of_le Ex3.lt Sz2_n)
  have ne_r1_b2_n : r1 ≠ b2_n := Nat.ne_of_lt (Nat.lt_of_lt_of_le Pc1_0.lt Sz2_n)
  have ne_t_b2_n : t ≠ b2_n := Nat.ne_of_lt (Nat.lt_of_lt_of_le Av4.lt Sz2_n)
  have ne_v1_b2_n : v1 ≠ b2_n := Nat.ne_of_lt (Nat.lt_of_lt_of_le Av5.lt Sz2_n)
  have Ex12 := (Pc1_0.keep K2)
  have Fd13 := (Pc1_1.keep K2 (ninS Hp22 (ninS Hp25 nin0)))
  have Fd14 := (Pc1_2.keep K2 (ninS Hp22 (ninS Hp25 nin0)))
  have Kp15 := (Kp7.trans K2 (allS (Or.inl (tm 0 rfl)) (allS (Or.inl (tm 1 rfl)) all0)))
  obtain ⟨fs, hr, hrun, hended, hW, hsame⟩ := X2.leave (v := some .null) (fun h => by rw [Bd.returns] at h; cases h)
  refine ⟨_, _, pre0 _ ?_, hrun, hended, _, _, rfl, ?_, ⟨_, rfl⟩, hW, hsame.mono (by decide) (by decide)⟩
  · show Steps _ _ _ (s₁.setTop (mkF m 0 (l_10 r0 r1 r2) [])) _
    refine XS.aloadN X0.here hx rfl (hb hby d28_0) rfl rfl ?_
    show Steps _ _ _ (s₁.setTop (mkF m 1 (l_10 r0 r1 r2) [(.ref r0)])) _
    refine XS.aloadN X0.here hx rfl (hb hby d28_1) rfl rfl ?_
    show Steps _ _ _ (s₁.setTop (mkF m 2 (l_10 r0 r1 r2) [(.ref r1), (.ref r0)])) _
    refine st1 _ ?_
    show Steps _ _ _ (T1.setTop (mkF m 5 (l_10 r0 r1 r2) [(.int b), (.ref r0)])) _
    refine XS.aloadN X1.here hx rfl (hb hby d28_5) rfl rfl ?_
    show Steps _ _ _ (T1.setTop (mkF m 6 (l_10 r0 r1 r2) [(.ref r1), (.int b), (.ref r0)])) _
    refine XS.aloadN X1.here hx rfl (hb hby d28_6) rfl rfl ?_
    show Steps _ _ _ (T1.setTop (mkF m 7 (l_10 r0 r1 r2) [(.ref r2), (.ref r1), (.int b), (.ref r0)])) _
    refine XS.iconst X1.here hx rfl (hb hby d28_7) ?_
    show Steps _ _ _ (T1.setTop (mkF m 8 (l_10 r0 r1 r2) [(.int (0 : Int32)), (.ref r2), (.ref r1), (.int b), (.ref r0)])) _
    refine XS.iconst X1.here hx rfl (hb hby d28_8) ?_
    show Steps _ _ _ (T1.setTop (mkF m 9 (l_10 r0 r1 r2) [(.int (1 : Int32)), (.int (0 : Int32)), (.ref r2), (.ref r1), (.int b), (.ref r0)])) _
    refine st2.trans ?_
    show Steps _ _ _ (T2.setTop (mkF m 12 (l_10 r0 r1 r2) [.null])) _
    exact X2.areturnOut hx rfl Bd.returns rfl (hb hby d28_12) hr
  · show Q28_s Z r0 r1 r2 v1 kb b cs i t kt vs h0 n0 _ T2.heap _
    exact ⟨b2_n, rfl, N2, Kp15, sz_b2_n, Pc2_0, Pc2_1, Pc2_2, Pc2_3, Pc2_4, Pc2_5, Pc2_6, Pc2_7, Pc2_8, Pc2_9, Ex12, Fd13, Fd14⟩
def Q43 (Z : State) (r0 : Addr) (r1 : Addr) (kb : ClassId) (kb2 : ClassId) (b : Int32) (h0 : Heap) (n0 : Nat) (v : Option Value) (h : Heap) (L : List Loc) : Prop := v = some (.int (1 : Int32)) ∧ Fr n0 L ∧ h = h0
theorem d43_0 : decode jdk_43_method_13_code 0 = .ok (.aload_n 0, 1) := by decide +kernel
theorem d43_1 : decode jdk_43_method_13_code 1 = .ok (.arraylength, 1) := by decide +kernel
theorem d43_2 : decode jdk_43_method_13_code 2 = .ok (.aload_n 1, 1) := by decide +kernel
theorem d43_3 : decode jdk_43_method_13_code 3 = .ok (.arraylength, 1) := by decide +kernel
theorem d43_4 : decode jdk_43_method_13_code 4 = .ok (.if_icmp .ne 30, 3) := by decide +kernel
theorem d43_7 : decode jdk_43_method_13_code 7 = .ok (.iconst 0, 1) := by decide +kernel
theorem d43_8 : decode jdk_43_method_13_code 8 = .ok (.istore_n 2, 1) := by decide +kernel
theorem d43_9 : decode jdk_43_method_13_code 9 = .ok (.iload_n 2, 1) := by decide +kernel
theorem d43_10 : decode jdk_43_method_13_code 10 = .ok (.aload_n 0, 1) := by decide +kernel
theorem d43_11 : decode jdk_43_method_13_code 11 = .ok (.arraylength, 1) := by decide +kernel
theorem d43_12 : decode jdk_43_method_13_code 12 = .ok (.if_icmp .ge 20, 3) := by decide +kernel
theorem d43_15 : decode jdk_43_method_13_code 15 = .ok (.aload_n 0, 1) := by decide +kernel
theorem d43_16 : decode jdk_43_method_13_code 16 = .ok (.iload_n 2, 1) := by decide +kernel
theorem d43_17 : decode jdk_43_method_13_code 17 = .ok (.baload, 1) := by decide +kernel
theorem d43_18 : decode jdk_43_method_13_code 18 = .ok (.aload_n 1, 1) := by decide +kernel
theorem d43_19 : decode jdk_43_method_13_code 19 = .ok (.iload_n 2, 1) := by decide +kernel
theorem d43_20 : decode jdk_43_method_13_code 20 = .ok (.baload, 1) := by decide +kernel
theorem d43_21 : decode jdk_43_method_13_code 21 = .ok (.if_icmp .eq 5, 3) := by decide +kernel
theorem d43_26 : decode jdk_43_method_13_code 26 = .ok (.iinc 2 1, 3) := by decide +kernel
theorem d43_29 : decode jdk_43_method_13_code 29 = .ok (.goto (-20), 3) := by decide +kernel
theorem d43_32 : decode jdk_43_method_13_code 32 = .ok (.iconst 1, 1) := by decide +kernel
theorem d43_33 : decode jdk_43_method_13_code 33 = .ok (.ireturn, 1) := by decide +kernel
theorem ef_43 (m : MethodId) (r0 : Addr) (r1 : Addr) : entryFrame m #[(.ref r0), (.ref r1)] 3 = mkF m 0 #[.val (.ref r0), .val (.ref r1), .unset] [] := by first | (simp [entryFrame, mkF, argsToLocals, Value.category]; done) | rfl
set_option maxRecDepth 65536 in
set_option maxHeartbeats 40000000 in
theorem rm43 (l : Launch) (Z : State) (a0 : Array Value) (hw : ∀ d ∈ tables_1, d.before a0 Z = true) (ws : List Jvm.Cond) (r0 : Addr) (r1 : Addr) (kb : ClassId) (kb2 : ClassId) (b : Int32) (h0 : Heap) (n0 : Nat) (Z0 : n0 ≤ h0.size) (Hp0 : Arv Z h0 r0 kb .byte (1 : Int32) [(.int b)] (.int (0 : Int32))) (Hp1 : Arv Z h0 r1 kb2 .byte (1 : Int32) [(.int b)] (.int (0 : Int32))) :
    MetFree l (⟨"java/lang/StringLatin1", "equals", "([B[B)Z"⟩ : MethodName) (head1 (Jvm.Cond.code (⟨"java/lang/StringLatin1", "equals", "([B[B)Z"⟩ : MethodName) jdk_43_method_13_code 3 (some .boolean) :: ws) ({ frames := 0, cells := 0, slots := 0, locals := 0 } : Room)) (fun a U => a = #[(.ref r0), (.ref r1)] ∧ Z.Warmed39 U.vm ∧ U.heap = h0) (fun _ _ _ _ _ => True) (fun _ U o U' => ∃ v L, o = .returned v ∧ Q43 Z r0 r1 kb kb2 b h0 n0 v U'.heap L ∧ FrameEnd U o U' L ({ frames := 0, cells := 0, slots := 0, locals := 0 } : Room).cells ({ frames := 0, cells := 0, slots := 0, locals := 0 } : Room).slots) := by
  refine MetFree.of_bodySF (plainFor_of_name pn_java_lang_StringLatin1) hisR ?_
  intro p e s m args below meth c s₁ Bd hml0 hP hK
  obtain ⟨rfl, hZ, hh⟩ := hP
  have hx := Bd.exec
  have hby := Bd.bytes
  have hml : c.maxLocals = 3 := hml0
  have hown : s.vm.findClass "java/lang/StringLatin1" = some m.cls := findClass_of_methodNamed Bd.named
  have hnm := (name_of_methodNamed Bd.named Bd.method).1
  have X0 : Stand p l e ({ frames := 0, cells := 0, slots := 0, locals := 0 } : Room) s m #[(.ref r0), (.ref r1)] below meth c s₁ [] 0 0 := Stand.of_body Bd
  have e0 : s₁.heap = h0 := by rw [← hh, Bd.state]; rfl
  have N0 := Fr.nil n0
  have pre0 : ∀ t, Steps p.tables e below (s₁.setTop (mkF m 0 (l_25 r0 r1) [])) t → Steps p.tables e below (s₁.setTop (entryFrame m #[(.ref r0), (.ref r1)] 3)) t := fun t k => castTop (ef_43 m r0 r1) k
  obtain ⟨cl1, Ar1, -, S1, Nn1, -, -⟩ := id Hp0
  obtain ⟨cl2, Ar2, -, S2, Nn2, -, -⟩ := id Hp1
  obtain ⟨cl3, Ar3, -, S3, Nn3, -, -⟩ := id Hp0
  obtain ⟨cl4, Ar4, -, S4, -, H4, -⟩ := id Hp0
  have hin4 : ¬ ((0 : Int32) < 0 ∨ cl4.slots.size ≤ ((0 : Int32)).toNatClampNeg) := inb_of S4 ⟨by decide, by decide⟩
  have hat4 : cl4.slots[((0 : Int32)).toNatClampNeg]? = some (.int b) := Has.at H4 hin4 rfl
  obtain ⟨cl5, Ar5, -, S5, -, H5, -⟩ := id Hp1
  have hin5 : ¬ ((0 : Int32) < 0 ∨ cl5.slots.size ≤ ((0 : Int32)).toNatClampNeg) := inb_of S5 ⟨by decide, by decide⟩
  have hat5 : cl5.slots[((0 : Int32)).toNatClampNeg]? = some (.int b) := Has.at H5 hin5 rfl
  obtain ⟨cl6, Ar6, -, S6, Nn6, -, -⟩ := id Hp0
  obtain ⟨fs, hr, hrun, hended, hW, hsame⟩ := X0.leave (v := some (.int (1 : Int32))) (fun h => by rw [Bd.returns] at h; cases h)
  refine ⟨_, _, pre0 _ ?_, hrun, hended, _, _, rfl, ?_, ⟨_, rfl⟩, hW, hsame.mono (by decide) (by decide)⟩
  · show Steps _ _ _ (s₁.setTop (mkF m 0 (l_25 r0 r1) [])) _
    refine XS.aloadN X0.here hx rfl (hb hby d43_0) rfl rfl ?_
    show Steps _ _ _ (s₁.setTop (mkF m 1 (l_25 r0 r1) [(.ref r0)])) _
    refine X0.arraylength hx (by rw [e0]; exact Ar1.1) (State.isArrayOf_alike hZ.alike Ar1.2.1) (g := (mkF m 1 (l_25 r0 r1) [(.ref r0)])) rfl rfl (hb hby d43_1) _ ?_
    rw [len_of S1 Nn1]
    show Steps _ _ _ (s₁.setTop (mkF m 2 (l_25 r0 r1) [(.int (1 : Int32))])) _
    refine XS.aloadN X0.here hx rfl (hb hby d43_2) rfl rfl ?_
    show Steps _ _ _ (s₁.setTop (mkF m 3 (l_25 r0 r1) [(.ref r1), (.int (1 : Int32))])) _
    refine X0.arraylength hx (by rw [e0]; exact Ar2.1) (State.isArrayOf_alike hZ.alike Ar2.2.1) (g := (mkF m 3 (l_25 r0 r1) [(.ref r1), (.int (1 : Int32))])) rfl rfl (hb hby d43_3) _ ?_
    rw [len_of S2 Nn2]
    show Steps _ _ _ (s₁.setTop (mkF m 4 (l_25 r0 r1) [(.int (1 : Int32)), (.int (1 : Int32))])) _
    refine XS.icmpNo X0.here hx rfl (hb hby d43_4) rfl (teq (rfl : (1 : Int32) = (1 : Int32))).2 ?_
    show Steps _ _ _ (s₁.setTop (mkF m 7 (l_25 r0 r1) [])) _
    refine XS.iconst X0.here hx rfl (hb hby d43_7) ?_
    show Steps _ _ _ (s₁.setTop (mkF m 8 (l_25 r0 r1) [(.int (0 : Int32))])) _
    refine XS.istoreN X0.here hx rfl (hb hby d43_8) rfl (l' := (l_26 r0 r1 (0 : Int32))) rfl ?_
    show Steps _ _ _ (s₁.setTop (mkF m 9 (l_26 r0 r1 (0 : Int32)) [])) _
    refine XS.iloadN X0.here hx rfl (hb hby d43_9) rfl ?_
    show Steps _ _ _ (s₁.setTop (mkF m 10 (l_26 r0 r1 (0 : Int32)) [(.int (0 : Int32))])) _
    refine XS.aloadN X0.here hx rfl (hb hby d43_10) rfl rfl ?_
    show Steps _ _ _ (s₁.setTop (mkF m 11 (l_26 r0 r1 (0 : Int32)) [(.ref r0), (.int (0 : Int32))])) _
    refine X0.arraylength hx (by rw [e0]; exact Ar3.1) (State.isArrayOf_alike hZ.alike Ar3.2.1) (g := (mkF m 11 (l_26 r0 r1 (0 : Int32)) [(.ref r0), (.int (0 : Int32))])) rfl rfl (hb hby d43_11) _ ?_
    rw [len_of S3 Nn3]
    show Steps _ _ _ (s₁.setTop (mkF m 12 (l_26 r0 r1 (0 : Int32)) [(.int (1 : Int32)), (.int (0 : Int32))])) _
    refine XS.icmpNo X0.here hx rfl (hb hby d43_12) rfl (tlt (by decide)).2.1 ?_
    show Steps _ _ _ (s₁.setTop (mkF m 15 (l_26 r0 r1 (0 : Int32)) [])) _
    refine XS.aloadN X0.here hx rfl (hb hby d43_15) rfl rfl ?_
    show Steps _ _ _ (s₁.setTop (mkF m 16 (l_26 r0 r1 (0 : Int32)) [(.ref r0)])) _
    refine XS.iloadN X0.here hx rfl (hb hby d43_16) rfl ?_
    show Steps _ _ _ (s₁.setTop (mkF m 17 (l_26 r0 r1 (0 : Int32)) [(.int (0 : Int32)), (.ref r0)])) _
    refine X0.baloadBytes hx (j := (0 : Int32)) (v := (.int b)) (by rw [e0]; exact Ar4.1) (State.isArrayOf_alike hZ.alike Ar4.2.1) Ar4.2.2 hin4 hat4 (g := (mkF m 17 (l_26 r0 r1 (0 : Int32)) [(.int (0 : Int32)), (.ref r0)])) rfl rfl (hb hby d43_17) _ ?_
    show Steps _ _ _ (s₁.setTop (mkF m 18 (l_26 r0 r1 (0 : Int32)) [(.int b)])) _
    refine XS.aloadN X0.here hx rfl (hb hby d43_18) rfl rfl ?_
    show Steps _ _ _ (s₁.setTop (mkF m 19 (l_26 r0 r1 (0 : Int32)) [(.ref r1), (.int b)])) _
    refine XS.iloadN X0.here hx rfl (hb hby d43_19) rfl ?_
    show Steps _ _ _ (s₁.setTop (mkF m 20 (l_26 r0 r1 (0 : Int32)) [(.int (0 : Int32)), (.ref r1), (.int b)])) _
    refine X0.baloadBytes hx (j := (0 : Int32)) (v := (.int b)) (by rw [e0]; exact Ar5.1) (State.isArrayOf_alike hZ.alike Ar5.2.1) Ar5.2.2 hin5 hat5 (g := (mkF m 20 (l_26 r0 r1 (0 : Int32)) [(.int (0 : Int32)), (.ref r1), (.int b)])) rfl rfl (hb hby d43_20) _ ?_
    show Steps _ _ _ (s₁.setTop (mkF m 21 (l_26 r0 r1 (0 : Int32)) [(.int b), (.int b)])) _
    refine XS.icmpYes X0.here hx rfl (pc0 := 21) (pc' := 26) rfl (hb hby d43_21) rfl (teq (rfl : b = b)).1 (by decide) (by decide) ?_
    show Steps _ _ _ (s₁.setTop (mkF m 26 (l_26 r0 r1 (0 : Int32)) [])) _
    refine XS.iinc X0.here hx rfl (hb hby d43_26) rfl (l' := (l_26 r0 r1 (1 : Int32))) rfl ?_
    show Steps _ _ _ (s₁.setTop (mkF m 29 (l_26 r0 r1 (1 : Int32)) [])) _
    refine XS.goto X0.here hx rfl (pc0 := 29) (pc' := 9) rfl (hb hby d43_29) (by decide) (by decide) ?_
    show Steps _ _ _ (s₁.setTop (mkF m 9 (l_26 r0 r1 (1 : Int32)) [])) _
    refine XS.iloadN X0.here hx rfl (hb hby d43_9) rfl ?_
    show Steps _ _ _ (s₁.setTop (mkF m 10 (l_26 r0 r1 (1 : Int32)) [(.int (1 : Int32))])) _
    refine XS.aloadN X0.here hx rfl (hb hby d43_10) rfl rfl ?_
    show Steps _ _ _ (s₁.setTop (mkF m 11 (l_26 r0 r1 (1 : Int32)) [(.ref r0), (.int (1 : Int32))])) _
    refine X0.arraylength hx (by rw [e0]; exact Ar6.1) (State.isArrayOf_alike hZ.alike Ar6.2.1) (g := (mkF m 11 (l_26 r0 r1 (1 : Int32)) [(.ref r0), (.int (1 : Int32))])) rfl rfl (hb hby d43_11) _ ?_
    rw [len_of S6 Nn6]
    show Steps _ _ _ (s₁.setTop (mkF m 12 (l_26 r0 r1 (1 : Int32)) [(.int (1 : Int32)), (.int (1 : Int32))])) _
    refine XS.icmpYes X0.here hx rfl (pc0 := 12) (pc' := 32) rfl (hb hby d43_12) rfl (flt (by decide)).2.1 (by decide) (by decide) ?_
    show Steps _ _ _ (s₁.setTop (mkF m 32 (l_26 r0 r1 (1 : Int32)) [])) _
    refine XS.iconst X0.here hx rfl (hb hby d43_32) ?_
    show Steps _ _ _ (s₁.setTop (mkF m 33 (l_26 r0 r1 (1 : Int32)) [(.int (1 : Int32))])) _
    exact retN X0 hx (t := .boolean) Bd.returns (by simp) (hb hby d43_33) hr
  · show Q43 Z r0 r1 kb kb2 b h0 n0 _ s₁.heap _
    rw [e0]
    exact ⟨rfl, N0, rfl⟩
def Q42 (Z : State) (r0 : Addr) (r1 : Addr) (v1 : Addr) (kb : ClassId) (b : Int32) (kv : Addr) (kb2 : ClassId) (cs : Int32) (h0 : Heap) (n0 : Nat) (v : Option Value) (h : Heap) (L : List Loc) : Prop := v = some (.int (1 : Int32)) ∧ Fr n0 L ∧ h = h0
theorem d42_0 : decode jdk_42_method_66_code 0 = .ok (.aload_n 0, 1) := by decide +kernel
theorem d42_1 : decode jdk_42_method_66_code 1 = .ok (.aload_n 1, 1) := by decide +kernel
theorem d42_2 : decode jdk_42_method_66_code 2 = .ok (.if_acmp .ne 5, 3) := by decide +kernel
theorem d42_7 : decode jdk_42_method_66_code 7 = .ok (.aload_n 1, 1) := by decide +kernel
theorem d42_8 : decode jdk_42_method_66_code 8 = .ok (.instanceof 10, 3) := by decide +kernel
theorem d42_11 : decode jdk_42_method_66_code 11 = .ok (.ifCond .eq 43, 3) := by decide +kernel
theorem d42_14 : decode jdk_42_method_66_code 14 = .ok (.aload_n 1, 1) := by decide +kernel
theorem d42_15 : decode jdk_42_method_66_code 15 = .ok (.checkcast 10, 3) := by decide +kernel
theorem d42_18 : decode jdk_42_method_66_code 18 = .ok (.astore_n 2, 1) := by decide +kernel
theorem d42_19 : decode jdk_42_method_66_code 19 = .ok (.getstatic 38, 3) := by decide +kernel
theorem d42_22 : decode jdk_42_method_66_code 22 = .ok (.ifCond .eq 14, 3) := by decide +kernel
theorem d42_25 : decode jdk_42_method_66_code 25 = .ok (.aload_n 0, 1) := by decide +kernel
theorem d42_26 : decode jdk_42_method_66_code 26 = .ok (.getfield 15, 3) := by decide +kernel
theorem d42_29 : decode jdk_42_method_66_code 29 = .ok (.aload_n 2, 1) := by decide +kernel
theorem d42_30 : decode jdk_42_method_66_code 30 = .ok (.getfield 15, 3) := by decide +kernel
theorem d42_33 : decode jdk_42_method_66_code 33 = .ok (.if_icmp .ne 21, 3) := by decide +kernel
theorem d42_36 : decode jdk_42_method_66_code 36 = .ok (.aload_n 0, 1) := by decide +kernel
theorem d42_37 : decode jdk_42_method_66_code 37 = .ok (.getfield 9, 3) := by decide +kernel
theorem d42_40 : decode jdk_42_method_66_code 40 = .ok (.aload_n 2, 1) := by decide +kernel
theorem d42_41 : decode jdk_42_method_66_code 41 = .ok (.getfield 9, 3) := by decide +kernel
theorem d42_44 : decode jdk_42_method_66_code 44 = .ok (.invokestatic 541, 3) := by decide +kernel
theorem pd__28_5bB_5bB_29Z : parseMethodDescriptor "([B[B)Z" = some ⟨[(.array .byte), (.array .byte)], some .boolean⟩ := by decide +kernel
theorem d42_47 : decode jdk_42_method_66_code 47 = .ok (.ifCond .eq 7, 3) := by decide +kernel
theorem d42_50 : decode jdk_42_method_66_code 50 = .ok (.iconst 1, 1) := by decide +kernel
theorem d42_51 : decode jdk_42_method_66_code 51 = .ok (.goto 4, 3) := by decide +kernel
theorem d42_55 : decode jdk_42_method_66_code 55 = .ok (.ireturn, 1) := by decide +kernel
theorem ef_42 (m : MethodId) (r0 : Addr) (r1 : Addr) : entryFrame m #[(.ref r0), (.ref r1)] 3 = mkF m 0 #[.val (.ref r0), .val (.ref r1), .unset] [] := by first | (simp [entryFrame, mkF, argsToLocals, Value.category]; done) | rfl
set_option maxRecDepth 65536 in
set_option maxHeartbeats 40000000 in
theorem rm42 (l : Launch) (Z : State) (a0 : Array Value) (hw : ∀ d ∈ tables_1, d.before a0 Z = true) (ws : List Jvm.Cond) (r0 : Addr) (r1 : Addr) (v1 : Addr) (kb : ClassId) (b : Int32) (kv : Addr) (kb2 : ClassId) (cs : Int32) (h0 : Heap) (n0 : Nat) (Z0 : n0 ≤ h0.size) (Hp0 : Exa Z h0 r0 "java/lang/String") (Hp1 : Fld Z h0 r0 "java/lang/String" "value" "[B" (.ref v1)) (Hp2 : Fld Z h0 r0 "java/lang/String" "coder" "B" (.int (0 : Int32))) (Hp3 : Arv Z h0 v1 kb .byte (1 : Int32) [(.int b)] (.int (0 : Int32))) (Hp4 : Exa Z h0 r1 "java/lang/String") (Hp5 : Fld Z h0 r1 "java/lang/String" "value" "[B" (.ref kv)) (Hp6 : Fld Z h0 r1 "java/lang/String" "coder" "B" (.int (0 : Int32))) (Hp7 : Arv Z h0 kv kb2 .byte (1 : Int32) [(.int b)] (.int (0 : Int32))) (Hp8 : Old Z n0 h0) (Hp9 : Sta Z Z.heap "java/lang/String" "COMPACT_STRINGS" "Z" (.int cs)) (hcs : ¬ cs = (0 : Int32)) (hkne : ¬ r0 = r1) :
    MetFree l (⟨"java/lang/String", "equals", "(Ljava/lang/Object;)Z"⟩ : MethodName) (head1 (Jvm.Cond.code (⟨"java/lang/String", "equals", "(Ljava/lang/Object;)Z"⟩ : MethodName) jdk_42_method_66_code 3 (some .boolean) :: ws) ({ frames := 1, cells := 0, slots := 0, locals := 14 } : Room)) (fun a U => a = #[(.ref r0), (.ref r1)] ∧ Z.Warmed39 U.vm ∧ U.heap = h0) (fun _ _ _ _ _ => True) (fun _ U o U' => ∃ v L, o = .returned v ∧ Q42 Z r0 r1 v1 kb b kv kb2 cs h0 n0 v U'.heap L ∧ FrameEnd U o U' L ({ frames := 1, cells := 0, slots := 0, locals := 14 } : Room).cells ({ frames := 1, cells := 0, slots := 0, locals := 14 } : Room).slots) := by
  refine MetFree.of_bodySF (plainFor_of_name pn_java_lang_String) hisR ?_
  intro p e s m args below meth c s₁ Bd hml0 hP hK
  obtain ⟨rfl, hZ, hh⟩ := hP
  have hx := Bd.exec
  have hby := Bd.bytes
  have hml : c.maxLocals = 3 := hml0
  have hown : s.vm.findClass "java/lang/String" = some m.cls := findClass_of_methodNamed Bd.named
  have hnm := (name_of_methodNamed Bd.named Bd.method).1
  have X0 : Stand p l e ({ frames := 1, cells := 0, slots := 0, locals := 14 } : Room) s m #[(.ref r0), (.ref r1)] below meth c s₁ [] 0 0 := Stand.of_body Bd
  have e0 : s₁.heap = h0 := by rw [← hh, Bd.state]; rfl
  have N0 := Fr.nil n0
  have pre0 : ∀ t, Steps p.tables e below (s₁.setTop (mkF m 0 (l_25 r0 r1) [])) t → Steps p.tables e below (s₁.setTop (entryFrame m #[(.ref r0), (.ref r1)] 3)) t := fun t k => castTop (ef_42 m r0 r1) k
  obtain ⟨T1, X1, e1, st1⟩ := instY X0 hx hZ hown (hw _ (tm 299 rfl)) e0 (Ins.self Hp4) (g := (mkF m 8 (l_25 r0 r1) [(.ref r1)])) rfl rfl (hb hby d42_8)
  obtain ⟨T2, X2, e2, st2⟩ := castY X1 hx hZ hown (hw _ (tm 299 rfl)) e1 (Ins.self Hp4) (g := (mkF m 15 (l_25 r0 r1) [(.ref r1)])) rfl rfl (hb hby d42_15)
  obtain ⟨T3, X3, e3, st3⟩ := getS2 X2 hx hZ hown (host := "") (Or.inl (hw _ (tm 138 rfl))) Via.refl e2 (Hp9.ext Hp8.2) (g := (mkF m 19 (l_10 r0 r1 r1) [])) rfl (hb hby d42_19)
  obtain ⟨T4, X4, e4, st4⟩ := getF X3 hx hZ hown (host := "") (Or.inl (hw _ (tm 154 rfl))) Via.refl e3 Hp2 (g := (mkF m 26 (l_10 r0 r1 r1) [(.ref r0)])) rfl rfl (hb hby d42_26)
  obtain ⟨T5, X5, e5, st5⟩ := getF X4 hx hZ hown (host := "") (Or.inl (hw _ (tm 154 rfl))) Via.refl e4 Hp6 (g := (mkF m 30 (l_10 r0 r1 r1) [(.ref r1), (.int (0 : Int32))])) rfl rfl (hb hby d42_30)
  obtain ⟨T6, X6, e6, st6⟩ := getF X5 hx hZ hown (host := "") (Or.inl (hw _ (tm 152 rfl))) Via.refl e5 Hp1 (g := (mkF m 37 (l_10 r0 r1 r1) [(.ref r0)])) rfl rfl (hb hby d42_37)
  obtain ⟨T7, X7, e7, st7⟩ := getF X6 hx hZ hown (host := "") (Or.inl (hw _ (tm 152 rfl))) Via.refl e6 Hp5 (g := (mkF m 41 (l_10 r0 r1 r1) [(.ref r1), (.ref v1)])) rfl rfl (hb hby d42_41)
  obtain ⟨_, _, ⟨T8, L8, k8, n8⟩, -, X8, ⟨Lc8, hQ8, l8, y8, z8⟩, st8⟩ := Jvm.LawKit.callS X7 hx (y := (⟨"java/lang/StringLatin1", "equals", "([B[B)Z"⟩ : MethodName)) hown (mvT hZ (hw _ (tm 300 rfl))) (mvT hZ (hw _ (tm 301 rfl))) (mvT hZ (hw _ (tm 219 rfl))) (mvT hZ (hw _ (tm 302 rfl))) (by decide) (backOf (W := 0) (rm43 l Z a0 hw [] v1 kv (kb) (kb2) (b) h0 n0 Z0 Hp3 Hp7) hZ (hw _ (tm 302 rfl)) (hw _ (tm 219 rfl)) (by decide) (by decide)) (g := (mkF m 44 (l_10 r0 r1 r1) [(.ref kv), (.ref v1)])) rfl (by rw [hml]; rfl) (argsL := [(.ref v1), (.ref kv)]) (rest := []) (lenOf pd__28_5bB_5bB_29Z rfl) rfl (by show 2 * 0 + _ ≤ _; exact Nat.le_of_eq rfl) (hb hby d42_44) (fun _ _ => ⟨rfl, e7, (by decide : 0 + 0 ≤ _), (by decide : 0 + 0 ≤ _)⟩)
  dsimp only [Pt.U, Pt.locs, Pt.cells, Pt.slots] at X8 l8 y8 z8 st8 hQ8
  subst l8 y8 z8
  obtain ⟨rfl, N8q, e8⟩ := hQ8
  have N8 := Fr.app N0 N8q
  obtain ⟨fs, hr, hrun, hended, hW, hsame⟩ := X8.leave (v := some (.int (1 : Int32))) (fun h => by rw [Bd.returns] at h; cases h)
  refine ⟨_, _, pre0 _ ?_, hrun, hended, _, _, rfl, ?_, ⟨_, rfl⟩, hW, hsame.mono (by decide) (by decide)⟩
  · show Steps _ _ _ (s₁.setTop (mkF m 0 (l_25 r0 r1) [])) _
    refine XS.aloadN X0.here hx rfl (hb hby d42_0) rfl rfl ?_
    show Steps _ _ _ (s₁.setTop (mkF m 1 (l_25 r0 r1) [(.ref r0)])) _
    refine XS.aloadN X0.here hx rfl (hb hby d42_1) rfl rfl ?_
    show Steps _ _ _ (s₁.setTop (mkF m 2 (l_25 r0 r1) [(.ref r1), (.ref r0)])) _
    refine Jvm.RoadKit.acmp (g := (mkF m 2 (l_25 r0 r1) [(.ref r1), (.ref r0)])) X0 hx rfl rfl rfl (pc0 := 2) (pc' := 7) (same := false) rfl (hb hby d42_2) rfl (decide_eq_false fun q => hkne (Value.ref.inj q)) (by decide) (by decide) ?_
    show Steps _ _ _ (s₁.setTop (mkF m 7 (l_25 r0 r1) [])) _
    refine XS.aloadN X0.here hx rfl (hb hby d42_7) rfl rfl ?_
    show Steps _ _ _ (s₁.setTop (mkF m 8 (l_25 r0 r1) [(.ref r1)])) _
    refine st1 _ ?_
    show Steps _ _ _ (T1.setTop (mkF m 11 (l_25 r0 r1) [(.int (1 : Int32))])) _
    refine XS.ifNo X1.here hx rfl (hb hby d42_11) rfl ((if0 _ _).trans (feq (by decide)).1) ?_
    show Steps _ _ _ (T1.setTop (mkF m 14 (l_25 r0 r1) [])) _
    refine XS.aloadN X1.here hx rfl (hb hby d42_14) rfl rfl ?_
    show Steps _ _ _ (T1.setTop (mkF m 15 (l_25 r0 r1) [(.ref r1)])) _
    refine st2 _ ?_
    show Steps _ _ _ (T2.setTop (mkF m 18 (l_25 r0 r1) [(.ref r1)])) _
    refine XS.astoreN X2.here hx rfl (hb hby d42_18) rfl rfl (l' := (l_10 r0 r1 r1)) rfl ?_
    show Steps _ _ _ (T2.setTop (mkF m 19 (l_10 r0 r1 r1) [])) _
    refine st3 _ ?_
    show Steps _ _ _ (T3.setTop (mkF m 22 (l_10 r0 r1 r1) [(.int cs)])) _
    refine XS.ifNo X3.here hx rfl (hb hby d42_22) rfl ((if0 _ _).trans (feq hcs).1) ?_
    show Steps _ _ _ (T3.setTop (mkF m 25 (l_10 r0 r1 r1) [])) _
    refine XS.aloadN X3.here hx rfl (hb hby d42_25) rfl rfl ?_
    show Steps _ _ _ (T3.setTop (mkF m 26 (l_10 r0 r1 r1) [(.ref r0)])) _
    refine st4 _ ?_
    show Steps _ _ _ (T4.setTop (mkF m 29 (l_10 r0 r1 r1) [(.int (0 : Int32))])) _
    refine XS.aloadN X4.here hx rfl (hb hby d42_29) rfl rfl ?_
    show Steps _ _ _ (T4.setTop (mkF m 30 (l_10 r0 r1 r1) [(.ref r1), (.int (0 : Int32))])) _
    refine st5 _ ?_
    show Steps _ _ _ (T5.setTop (mkF m 33 (l_10 r0 r1 r1) [(.int (0 : Int32)), (.int (0 : Int32))])) _
    refine XS.icmpNo X5.here hx rfl (hb hby d42_33) rfl (teq (rfl : (0 : Int32) = (0 : Int32))).2 ?_
    show Steps _ _ _ (T5.setTop (mkF m 36 (l_10 r0 r1 r1) [])) _
    refine XS.aloadN X5.here hx rfl (hb hby d42_36) rfl rfl ?_
    show Steps _ _ _ (T5.setTop (mkF m 37 (l_10 r0 r1 r1) [(.ref r0)])) _
    refine st6 _ ?_
    show Steps _ _ _ (T6.setTop (mkF m 40 (l_10 r0 r1 r1) [(.ref v1)])) _
    refine XS.aloadN X6.here hx rfl (hb hby d42_40) rfl rfl ?_
    show Steps _ _ _ (T6.setTop (mkF m 41 (l_10 r0 r1 r1) [(.ref r1), (.ref v1)])) _
    refine st7 _ ?_
    show Steps _ _ _ (T7.setTop (mkF m 44 (l_10 r0 r1 r1) [(.ref kv), (.ref v1)])) _
    refine st8 _ ?_
    show Steps _ _ _ (T8.setTop (mkF m 47 (l_10 r0 r1 r1) [(.int (1 : Int32))])) _
    refine XS.ifNo X8.here hx rfl (hb hby d42_47) rfl ((if0 _ _).trans (feq (by decide)).1) ?_
    show Steps _ _ _ (T8.setTop (mkF m 50 (l_10 r0 r1 r1) [])) _
    refine XS.iconst X8.here hx rfl (hb hby d42_50) ?_
    show Steps _ _ _ (T8.setTop (mkF m 51 (l_10 r0 r1 r1) [(.int (1 : Int32))])) _
    refine XS.goto X8.here hx rfl (pc0 := 51) (pc' := 55) rfl (hb hby d42_51) (by decide) (by decide) ?_
    show Steps _ _ _ (T8.setTop (mkF m 55 (l_10 r0 r1 r1) [(.int (1 : Int32))])) _
    exact retN X8 hx (t := .boolean) Bd.returns (by simp) (hb hby d42_55) hr
  · show Q42 Z r0 r1 v1 kb b kv kb2 cs h0 n0 _ T8.heap _
    rw [e8]
    exact ⟨rfl, N8, rfl⟩
def Q41 (Z : State) (r0 : Addr) (r1 : Addr) (v1 : Addr) (kb : ClassId) (b : Int32) (cs : Int32) (t : Addr) (kt : ClassId) (vs : List Value) (i : Nat) (n : Addr) (k : Addr) (kv : Addr) (kb2 : ClassId) (x : Addr) (h0 : Heap) (n0 : Nat) (v : Option Value) (h : Heap) (L : List Loc) : Prop := v = some (.ref n) ∧ Fr n0 L ∧ Keep h0 h [r1]
theorem d41_0 : decode jdk_69_method_13_code 0 = .ok (.aload_n 0, 1) := by decide +kernel
theorem d41_1 : decode jdk_69_method_13_code 1 = .ok (.getfield 105, 3) := by decide +kernel
theorem d41_4 : decode jdk_69_method_13_code 4 = .ok (.dup, 1) := by decide +kernel
theorem d41_5 : decode jdk_69_method_13_code 5 = .ok (.astore_n 2, 1) := by decide +kernel
theorem d41_6 : decode jdk_69_method_13_code 6 = .ok (.ifnull 142, 3) := by decide +kernel
theorem d41_9 : decode jdk_69_method_13_code 9 = .ok (.aload_n 2, 1) := by decide +kernel
theorem d41_10 : decode jdk_69_method_13_code 10 = .ok (.arraylength, 1) := by decide +kernel
theorem d41_11 : decode jdk_69_method_13_code 11 = .ok (.dup, 1) := by decide +kernel
theorem d41_12 : decode jdk_69_method_13_code 12 = .ok (.istore 5, 2) := by decide +kernel
theorem d41_14 : decode jdk_69_method_13_code 14 = .ok (.ifCond .le 134, 3) := by decide +kernel
theorem d41_17 : decode jdk_69_method_13_code 17 = .ok (.aload_n 2, 1) := by decide +kernel
theorem d41_18 : decode jdk_69_method_13_code 18 = .ok (.iload 5, 2) := by decide +kernel
theorem d41_20 : decode jdk_69_method_13_code 20 = .ok (.iconst 1, 1) := by decide +kernel
theorem d41_21 : decode jdk_69_method_13_code 21 = .ok (.isub, 1) := by decide +kernel
theorem d41_22 : decode jdk_69_method_13_code 22 = .ok (.aload_n 1, 1) := by decide +kernel
theorem d41_23 : decode jdk_69_method_13_code 23 = .ok (.invokestatic 149, 3) := by decide +kernel
theorem d41_26 : decode jdk_69_method_13_code 26 = .ok (.dup, 1) := by decide +kernel
theorem d41_27 : decode jdk_69_method_13_code 27 = .ok (.istore 6, 2) := by decide +kernel
theorem d41_29 : decode jdk_69_method_13_code 29 = .ok (.iand, 1) := by decide +kernel
theorem d41_30 : decode jdk_69_method_13_code 30 = .ok (.aaload, 1) := by decide +kernel
theorem d41_31 : decode jdk_69_method_13_code 31 = .ok (.dup, 1) := by decide +kernel
theorem d41_32 : decode jdk_69_method_13_code 32 = .ok (.astore_n 3, 1) := by decide +kernel
theorem d41_33 : decode jdk_69_method_13_code 33 = .ok (.ifnull 115, 3) := by decide +kernel
theorem d41_36 : decode jdk_69_method_13_code 36 = .ok (.aload_n 3, 1) := by decide +kernel
theorem d41_37 : decode jdk_69_method_13_code 37 = .ok (.getfield 168, 3) := by decide +kernel
theorem d41_40 : decode jdk_69_method_13_code 40 = .ok (.iload 6, 2) := by decide +kernel
theorem d41_42 : decode jdk_69_method_13_code 42 = .ok (.if_icmp .ne 29, 3) := by decide +kernel
theorem d41_45 : decode jdk_69_method_13_code 45 = .ok (.aload_n 3, 1) := by decide +kernel
theorem d41_46 : decode jdk_69_method_13_code 46 = .ok (.getfield 170, 3) := by decide +kernel
theorem d41_49 : decode jdk_69_method_13_code 49 = .ok (.dup, 1) := by decide +kernel
theorem d41_50 : decode jdk_69_method_13_code 50 = .ok (.astore 7, 2) := by decide +kernel
theorem d41_52 : decode jdk_69_method_13_code 52 = .ok (.aload_n 1, 1) := by decide +kernel
theorem d41_53 : decode jdk_69_method_13_code 53 = .ok (.if_acmp .eq 16, 3) := by decide +kernel
theorem d41_56 : decode jdk_69_method_13_code 56 = .ok (.aload_n 1, 1) := by decide +kernel
theorem d41_57 : decode jdk_69_method_13_code 57 = .ok (.ifnull 14, 3) := by decide +kernel
theorem d41_60 : decode jdk_69_method_13_code 60 = .ok (.aload_n 1, 1) := by decide +kernel
theorem d41_61 : decode jdk_69_method_13_code 61 = .ok (.aload 7, 2) := by decide +kernel
theorem d41_63 : decode jdk_69_method_13_code 63 = .ok (.invokevirtual 173, 3) := by decide +kernel
theorem pd__28Ljava_2flang_2fObject_3b_29Z : parseMethodDescriptor "(Ljava/lang/Object;)Z" = some ⟨[(.object "java/lang/Object")], some .boolean⟩ := by decide +kernel
theorem d41_66 : decode jdk_69_method_13_code 66 = .ok (.ifCond .eq 5, 3) := by decide +kernel
theorem d41_69 : decode jdk_69_method_13_code 69 = .ok (.aload_n 3, 1) := by decide +kernel
theorem d41_70 : decode jdk_69_method_13_code 70 = .ok (.areturn, 1) := by decide +kernel
theorem ef_41 (m : MethodId) (r0 : Addr) (r1 : Addr) : entryFrame m #[(.ref r0), (.ref r1)] 8 = mkF m 0 #[.val (.ref r0), .val (.ref r1), .unset, .unset, .unset, .unset, .unset, .unset] [] := by first | (simp [entryFrame, mkF, argsToLocals, Value.category]; done) | rfl
set_option maxRecDepth 65536 in
set_option maxHeartbeats 40000000 in
theorem rm41 (l : Launch) (Z : State) (a0 : Array Value) (hw : ∀ d ∈ tables_1, d.before a0 Z = true) (ws : List Jvm.Cond) (r0 : Addr) (r1 : Addr) (v1 : Addr) (kb : ClassId) (b : Int32) (cs : Int32) (t : Addr) (kt : ClassId) (vs : List Value) (i : Nat) (n : Addr) (k : Addr) (kv : Addr) (kb2 : ClassId) (x : Addr) (h0 : Heap) (n0 : Nat) (Z0 : n0 ≤ h0.size) (Hp0 : Exa Z h0 r0 "java/util/HashMap") (Hp1 : Fld Z h0 r0 "java/util/HashMap" "table" "[Ljava/util/HashMap$Node;" (.ref t)) (Hp2 : Arv Z h0 t kt (.object "java/util/HashMap$Node") (16 : Int32) vs .null) (Hp3 : Exa Z h0 r1 "java/lang/String") (Hp4 : Fld Z h0 r1 "java/lang/String" "value" "[B" (.ref v1)) (Hp5 : Fld Z h0 r1 "java/lang/String" "coder" "B" (.int (0 : Int32))) (Hp6 : Fld Z h0 r1 "java/lang/String" "hash" "I" (.int (0 : Int32))) (Hp7 : Fld Z h0 r1 "java/lang/String" "hashIsZero" "Z" (.int (0 : Int32))) (Hp8 : Arv Z h0 v1 kb .byte (1 : Int32) [(.int b)] (.int (0 : Int32))) (hgd : Gd b) (Hp10 : Old Z n0 h0) (Hp11 : Sta Z Z.heap "java/lang/String" "COMPACT_STRINGS" "Z" (.int cs)) (hcs : ¬ cs = (0 : Int32)) (hix : Ix b i) (hat : vs.getD i Value.null = .ref n) (Hp15 : Exa Z h0 n "java/util/HashMap$Node") (Hp16 : Fld Z h0 n "java/util/HashMap$Node" "hash" "I" (.int b)) (Hp17 : Fld Z h0 n "java/util/HashMap$Node" "key" "Ljava/lang/Object;" (.ref k)) (Hp18 : Fld Z h0 n "java/util/HashMap$Node" "value" "Ljava/lang/Object;" (.ref x)) (Hp19 : Exa Z h0 k "java/lang/String") (Hp20 : Fld Z h0 k "java/lang/String" "value" "[B" (.ref kv)) (Hp21 : Fld Z h0 k "java/lang/String" "coder" "B" (.int (0 : Int32))) (Hp22 : Arv Z h0 kv kb2 .byte (1 : Int32) [(.int b)] (.int (0 : Int32))) (Hp23 : n0 ≤ r1) (Hp24 : r0 ≠ r1) (Hp25 : t ≠ r1) (Hp26 : v1 ≠ r1) (Hp27 : n ≠ r1) (Hp28 : k ≠ r1) (Hp29 : kv ≠ r1) :
    MetFree l (⟨"java/util/HashMap", "getNode", "(Ljava/lang/Object;)Ljava/util/HashMap$Node;"⟩ : MethodName) (head1 (Jvm.Cond.code (⟨"java/util/HashMap", "getNode", "(Ljava/lang/Object;)Ljava/util/HashMap$Node;"⟩ : MethodName) jdk_69_method_13_code 8 (some (.object "java/util/HashMap$Node")) :: ws) ({ frames := 3, cells := 0, slots := 0, locals := 40 } : Room)) (fun a U => a = #[(.ref r0), (.ref r1)] ∧ Z.Warmed39 U.vm ∧ U.heap = h0) (fun _ _ _ _ _ => True) (fun _ U o U' => ∃ v L, o = .returned v ∧ Q41 Z r0 r1 v1 kb b cs t kt vs i n k kv kb2 x h0 n0 v U'.heap L ∧ FrameEnd U o U' L ({ frames := 3, cells := 0, slots := 0, locals := 40 } : Room).cells ({ frames := 3, cells := 0, slots := 0, locals := 40 } : Room).slots) := by
  refine MetFree.of_bodySF (plainFor_of_name pn_java_util_HashMap) hisR ?_
  intro p e s m args below meth c s₁ Bd hml0 hP hK
  obtain ⟨rfl, hZ, hh⟩ := hP
  have hx := Bd.exec
  have hby := Bd.bytes
  have hml : c.maxLocals = 8 := hml0
  have hown : s.vm.findClass "java/util/HashMap" = some m.cls := findClass_of_methodNamed Bd.named
  have hnm := (name_of_methodNamed Bd.named Bd.method).1
  have X0 : Stand p l e ({ frames := 3, cells := 0, slots := 0, locals := 40 } : Room) s m #[(.ref r0), (.ref r1)] below meth c s₁ [] 0 0 := Stand.of_body Bd
  have e0 : s₁.heap = h0 := by rw [← hh, Bd.state]; rfl
  have N0 := Fr.nil n0
  have pre0 : ∀ t, Steps p.tables e below (s₁.setTop (mkF m 0 (l_27 r0 r1) [])) t → Steps p.tables e below (s₁.setTop (entryFrame m #[(.ref r0), (.ref r1)] 8)) t := fun t k => castTop (ef_41 m r0 r1) k
  obtain ⟨T1, X1, e1, st1⟩ := getF X0 hx hZ hown (host := "") (Or.inl (hw _ (tm 226 rfl))) Via.refl e0 Hp1 (g := (mkF m 1 (l_27 r0 r1) [(.ref r0)])) rfl rfl (hb hby d41_1)
  obtain ⟨cl2, Ar2, -, S2, Nn2, -, -⟩ := id Hp2
  obtain ⟨_, _, ⟨T3, L3, k3, n3⟩, -, X3, ⟨Lc3, hQ3, l3, y3, z3⟩, st3⟩ := Jvm.LawKit.callS X1 hx (y := (⟨"java/util/HashMap", "hash", "(Ljava/lang/Object;)I"⟩ : MethodName)) hown (mvT hZ (hw _ (tm 199 rfl))) (mvT hZ (hw _ (tm 200 rfl))) (mvT hZ (hw _ (tm 82 rfl))) (mvT hZ (hw _ (tm 201 rfl))) (by decide) (backOf (W := 2) (rm29 l Z a0 hw [] r1 (v1) (kb) (b) (cs) h0 n0 Z0 Hp3 Hp4 Hp5 Hp6 Hp7 Hp8 hgd Hp10 Hp11 hcs Hp23 Hp26) hZ (hw _ (tm 201 rfl)) (hw _ (tm 82 rfl)) (by decide) (by decide)) (g := (mkF m 23 (l_28 r0 r1 t (16 : Int32)) [(.ref r1), (.int (15 : Int32)), (.ref t)])) rfl (by rw [hml]; rfl) (argsL := [(.ref r1)]) (rest := [(.int (15 : Int32)), (.ref t)]) (lenOf pd__28Ljava_2flang_2fObject_3b_29I rfl) rfl (by show 2 * 0 + _ ≤ _; exact Nat.le_of_eq rfl) (hb hby d41_23) (fun _ _ => ⟨rfl, e1, (by decide : 0 + 0 ≤ _), (by decide : 0 + 0 ≤ _)⟩)
  dsimp only [Pt.U, Pt.locs, Pt.cells, Pt.slots] at X3 l3 y3 z3 st3 hQ3
  subst l3 y3 z3
  obtain ⟨rfl, N3q, K3, Pc3_0, Pc3_1, Pc3_2, Pc3_3, Pc3_4⟩ := hQ3
  have N3 := Fr.app N0 N3q
  have Av4 := (Hp2.keep K3 (ninS Hp25 nin0))
  obtain ⟨cl5, Ar5, -, S5, -, H5, -⟩ := id Av4
  have hin5 : ¬ (((15 : Int32) &&& b) < 0 ∨ cl5.slots.size ≤ (((15 : Int32) &&& b)).toNatClampNeg) := inb_of S5 hix.1
  have hat5 : cl5.slots[(((15 : Int32) &&& b)).toNatClampNeg]? = some (.ref n) := Has.at H5 hin5 (by rw [hix.2.1]; exact hat)
  have Fd6 := (Hp16.keep K3 (ninS Hp27 nin0))
  obtain ⟨T7, X7, e7, st7⟩ := getF X3 hx hZ hown (host := "") (Or.inl (hw _ (tm 291 rfl))) Via.refl rfl Fd6 (g := (mkF m 37 (l_29 r0 r1 t n (16 : Int32) b) [(.ref n)])) rfl rfl (hb hby d41_37)
  have Fd8 := (Hp17.keep K3 (ninS Hp27 nin0))
  obtain ⟨T9, X9, e9, st9⟩ := getF X7 hx hZ hown (host := "") (Or.inl (hw _ (tm 292 rfl))) Via.refl e7 Fd8 (g := (mkF m 46 (l_29 r0 r1 t n (16 : Int32) b) [(.ref n)])) rfl rfl (hb hby d41_46)
  have Ex11 := (Hp19.keep K3)
  have Av12 := (Hp22.keep K3 (ninS Hp29 nin0))
  have Ex13 := (Hp15.keep K3)
  have Ex14 := (Hp0.keep K3)
  have Av15 := (Hp8.keep K3 (ninS Hp26 nin0))
  have Zz16 := (Nat.le_trans Z0 K3.1)
  have Kp17 := ((Keep.refl h0 [r1]).trans K3 (allS (Or.inl (tm 0 rfl)) all0))
  have Fd18 := (Hp20.keep K3 (ninS Hp28 nin0))
  have Fd19 := (Hp21.keep K3 (ninS Hp28 nin0))
  have Od20 := (Hp10.keep K3 (allS Hp23 all0))
  obtain ⟨cq10, kq10, q10a, q10b, q10c⟩ := isOf hZ e9 Pc3_0
  obtain ⟨_, _, ⟨T10, L10, k10, n10⟩, -, X10, ⟨Lc10, hQ10, l10, y10, z10⟩, st10⟩ := X9.virtualBack hx (y := (⟨"java/lang/Object", "equals", "(Ljava/lang/Object;)Z"⟩ : MethodName)) (z := (⟨"java/lang/String", "equals", "(Ljava/lang/Object;)Z"⟩ : MethodName)) hown (mvT hZ (hw _ (tm 293 rfl))) (mvT hZ (hw _ (tm 294 rfl))) (own_nf (args := #[]) (mvT hZ (hw _ (tm 147 rfl)))) (mvT hZ (hw _ (tm 296 rfl))) (mvT hZ (hw _ (tm 297 rfl))) (by decide) (backOf (W := 0) (rm42 l Z a0 hw [] r1 k (v1) (kb) (b) (kv) (kb2) (cs) T3.heap n0 Zz16 Pc3_0 Pc3_1 Pc3_2 Av15 Ex11 Fd18 Fd19 Av12 Od20 Hp11 hcs (Ne.symm Hp28)) hZ (hw _ (tm 298 rfl)) (hw _ (tm 117 rfl)) (by decide) (by decide)) q10a q10c (g := (mkF m 63 (l_30 r0 r1 t n (16 : Int32) b k) [(.ref k), (.ref r1)])) rfl (by rw [hml]; rfl) (Steps.refl _) (argsL := [(.ref k)]) (rest := []) (lenOf pd__28Ljava_2flang_2fObject_3b_29Z rfl) rfl (by show 2 * 0 + _ ≤ _; exact Nat.le_of_eq rfl) (hb hby d41_63) (fun _ _ => ⟨rfl, e9, (by decide : 0 + 0 ≤ _), (by decide : 0 + 0 ≤ _)⟩)
  dsimp only [Pt.U, Pt.locs, Pt.cells, Pt.slots] at X10 l10 y10 z10 st10 hQ10
  subst l10 y10 z10
  obtain ⟨rfl, N10q, e10⟩ := hQ10
  have N10 := Fr.app N3 N10q
  obtain ⟨fs, hr, hrun, hended, hW, hsame⟩ := X10.leave (v := some (.ref n)) (fun h => by rw [Bd.returns] at h; cases h)
  refine ⟨_, _, pre0 _ ?_, hrun, hended, _, _, rfl, ?_, ⟨_, rfl⟩, hW, hsame.mono (by decide) (by decide)⟩
  · show Steps _ _ _ (s₁.setTop (mkF m 0 (l_27 r0 r1) [])) _
    refine XS.aloadN X0.here hx rfl (hb hby d41_0) rfl rfl ?_
    show Steps _ _ _ (s₁.setTop (mkF m 1 (l_27 r0 r1) [(.ref r0)])) _
    refine st1 _ ?_
    show Steps _ _ _ (T1.setTop (mkF m 4 (l_27 r0 r1) [(.ref t)])) _
    refine XS.dup X1.here hx rfl (hb hby d41_4) rfl rfl ?_
    show Steps _ _ _ (T1.setTop (mkF m 5 (l_27 r0 r1) [(.ref t), (.ref t)])) _
    refine XS.astoreN X1.here hx rfl (hb hby d41_5) rfl rfl (l' := (l_31 r0 r1 t)) rfl ?_
    show Steps _ _ _ (T1.setTop (mkF m 6 (l_31 r0 r1 t) [(.ref t)])) _
    refine XS.ifnullNo X1.here hx rfl (hb hby d41_6) rfl ?_
    show Steps _ _ _ (T1.setTop (mkF m 9 (l_31 r0 r1 t) [])) _
    refine XS.aloadN X1.here hx rfl (hb hby d41_9) rfl rfl ?_
    show Steps _ _ _ (T1.setTop (mkF m 10 (l_31 r0 r1 t) [(.ref t)])) _
    refine X1.arraylength hx (by rw [e1]; exact Ar2.1) (State.isArrayOf_alike hZ.alike Ar2.2.1) (g := (mkF m 10 (l_31 r0 r1 t) [(.ref t)])) rfl rfl (hb hby d41_10) _ ?_
    rw [len_of S2 Nn2]
    show Steps _ _ _ (T1.setTop (mkF m 11 (l_31 r0 r1 t) [(.int (16 : Int32))])) _
    refine XS.dup X1.here hx rfl (hb hby d41_11) rfl rfl ?_
    show Steps _ _ _ (T1.setTop (mkF m 12 (l_31 r0 r1 t) [(.int (16 : Int32)), (.int (16 : Int32))])) _
    refine XS.istore X1.here hx rfl (hb hby d41_12) rfl (l' := (l_28 r0 r1 t (16 : Int32))) rfl ?_
    show Steps _ _ _ (T1.setTop (mkF m 14 (l_28 r0 r1 t (16 : Int32)) [(.int (16 : Int32))])) _
    refine XS.ifNo X1.here hx rfl (hb hby d41_14) rfl ((if0 _ _).trans (tlt (by decide)).2.2.2) ?_
    show Steps _ _ _ (T1.setTop (mkF m 17 (l_28 r0 r1 t (16 : Int32)) [])) _
    refine XS.aloadN X1.here hx rfl (hb hby d41_17) rfl rfl ?_
    show Steps _ _ _ (T1.setTop (mkF m 18 (l_28 r0 r1 t (16 : Int32)) [(.ref t)])) _
    refine XS.iload X1.here hx rfl (hb hby d41_18) rfl ?_
    show Steps _ _ _ (T1.setTop (mkF m 20 (l_28 r0 r1 t (16 : Int32)) [(.int (16 : Int32)), (.ref t)])) _
    refine XS.iconst X1.here hx rfl (hb hby d41_20) ?_
    show Steps _ _ _ (T1.setTop (mkF m 21 (l_28 r0 r1 t (16 : Int32)) [(.int (1 : Int32)), (.int (16 : Int32)), (.ref t)])) _
    refine XS.isub X1.here hx rfl (hb hby d41_21) rfl ?_
    show Steps _ _ _ (T1.setTop (mkF m 22 (l_28 r0 r1 t (16 : Int32)) [(.int ((16 : Int32) - (1 : Int32))), (.ref t)])) _
    rw [show ((16 : Int32) - (1 : Int32)) = (15 : Int32) from (by decide)]
    show Steps _ _ _ (T1.setTop (mkF m 22 (l_28 r0 r1 t (16 : Int32)) [(.int (15 : Int32)), (.ref t)])) _
    refine XS.aloadN X1.here hx rfl (hb hby d41_22) rfl rfl ?_
    show Steps _ _ _ (T1.setTop (mkF m 23 (l_28 r0 r1 t (16 : Int32)) [(.ref r1), (.int (15 : Int32)), (.ref t)])) _
    refine st3 _ ?_
    show Steps _ _ _ (T3.setTop (mkF m 26 (l_28 r0 r1 t (16 : Int32)) [(.int b), (.int (15 : Int32)), (.ref t)])) _
    refine XS.dup X3.here hx rfl (hb hby d41_26) rfl rfl ?_
    show Steps _ _ _ (T3.setTop (mkF m 27 (l_28 r0 r1 t (16 : Int32)) [(.int b), (.int b), (.int (15 : Int32)), (.ref t)])) _
    refine XS.istore X3.here hx rfl (hb hby d41_27) rfl (l' := (l_32 r0 r1 t (16 : Int32) b)) rfl ?_
    show Steps _ _ _ (T3.setTop (mkF m 29 (l_32 r0 r1 t (16 : Int32) b) [(.int b), (.int (15 : Int32)), (.ref t)])) _
    refine XS.iand X3.here hx rfl (hb hby d41_29) rfl ?_
    show Steps _ _ _ (T3.setTop (mkF m 30 (l_32 r0 r1 t (16 : Int32) b) [(.int ((15 : Int32) &&& b)), (.ref t)])) _
    refine X3.aaload hx (j := ((15 : Int32) &&& b)) (v := (.ref n)) Ar5.1 (State.isArrayOf_alike hZ.alike Ar5.2.1) rfl Ar5.2.2 hin5 hat5 (g := (mkF m 30 (l_32 r0 r1 t (16 : Int32) b) [(.int ((15 : Int32) &&& b)), (.ref t)])) rfl rfl (hb hby d41_30) _ ?_
    show Steps _ _ _ (T3.setTop (mkF m 31 (l_32 r0 r1 t (16 : Int32) b) [(.ref n)])) _
    refine XS.dup X3.here hx rfl (hb hby d41_31) rfl rfl ?_
    show Steps _ _ _ (T3.setTop (mkF m 32 (l_32 r0 r1 t (16 : Int32) b) [(.ref n), (.ref n)])) _
    refine XS.astoreN X3.here hx rfl (hb hby d41_32) rfl rfl (l' := (l_29 r0 r1 t n (16 : Int32) b)) rfl ?_
    show Steps _ _ _ (T3.setTop (mkF m 33 (l_29 r0 r1 t n (16 : Int32) b) [(.ref n)])) _
    refine XS.ifnullNo X3.here hx rfl (hb hby d41_33) rfl ?_
    show Steps _ _ _ (T3.setTop (mkF m 36 (l_29 r0 r1 t n (16 : Int32) b) [])) _
    refine XS.aloadN X3.here hx rfl (hb hby d41_36) rfl rfl ?_
    show Steps _ _ _ (T3.setTop (mkF m 37 (l_29 r0 r1 t n (16 : Int32) b) [(.ref n)])) _
    refine st7 _ ?_
    show Steps _ _ _ (T7.setTop (mkF m 40 (l_29 r0 r1 t n (16 : Int32) b) [(.int b)])) _
    refine XS.iload X7.here hx rfl (hb hby d41_40) rfl ?_
    show Steps _ _ _ (T7.setTop (mkF m 42 (l_29 r0 r1 t n (16 : Int32) b) [(.int b), (.int b)])) _
    refine XS.icmpNo X7.here hx rfl (hb hby d41_42) rfl (teq (rfl : b = b)).2 ?_
    show Steps _ _ _ (T7.setTop (mkF m 45 (l_29 r0 r1 t n (16 : Int32) b) [])) _
    refine XS.aloadN X7.here hx rfl (hb hby d41_45) rfl rfl ?_
    show Steps _ _ _ (T7.setTop (mkF m 46 (l_29 r0 r1 t n (16 : Int32) b) [(.ref n)])) _
    refine st9 _ ?_
    show Steps _ _ _ (T9.setTop (mkF m 49 (l_29 r0 r1 t n (16 : Int32) b) [(.ref k)])) _
    refine XS.dup X9.here hx rfl (hb hby d41_49) rfl rfl ?_
    show Steps _ _ _ (T9.setTop (mkF m 50 (l_29 r0 r1 t n (16 : Int32) b) [(.ref k), (.ref k)])) _
    refine XS.astore X9.here hx rfl (hb hby d41_50) rfl rfl (l' := (l_30 r0 r1 t n (16 : Int32) b k)) rfl ?_
    show Steps _ _ _ (T9.setTop (mkF m 52 (l_30 r0 r1 t n (16 : Int32) b k) [(.ref k)])) _
    refine XS.aloadN X9.here hx rfl (hb hby d41_52) rfl rfl ?_
    show Steps _ _ _ (T9.setTop (mkF m 53 (l_30 r0 r1 t n (16 : Int32) b k) [(.ref r1), (.ref k)])) _
    refine Jvm.RoadKit.acmp (g := (mkF m 53 (l_30 r0 r1 t n (16 : Int32) b k) [(.ref r1), (.ref k)])) X9 hx rfl rfl rfl (pc0 := 53) (pc' := 56) (same := false) rfl (hb hby d41_53) rfl (decide_eq_false fun q => Hp28 (Value.ref.inj q)) (by decide) (by decide) ?_
    show Steps _ _ _ (T9.setTop (mkF m 56 (l_30 r0 r1 t n (16 : Int32) b k) [])) _
    refine XS.aloadN X9.here hx rfl (hb hby d41_56) rfl rfl ?_
    show Steps _ _ _ (T9.setTop (mkF m 57 (l_30 r0 r1 t n (16 : Int32) b k) [(.ref r1)])) _
    refine XS.ifnullNo X9.here hx rfl (hb hby d41_57) rfl ?_
    show Steps _ _ _ (T9.setTop (mkF m 60 (l_30 r0 r1 t n (16 : Int32) b k) [])) _
    refine XS.aloadN X9.here hx rfl (hb hby d41_60) rfl rfl ?_
    show Steps _ _ _ (T9.setTop (mkF m 61 (l_30 r0 r1 t n (16 : Int32) b k) [(.ref r1)])) _
    refine XS.aload X9.here hx rfl (hb hby d41_61) rfl rfl ?_
    show Steps _ _ _ (T9.setTop (mkF m 63 (l_30 r0 r1 t n (16 : Int32) b k) [(.ref k), (.ref r1)])) _
    refine st10.trans ?_
    show Steps _ _ _ (T10.setTop (mkF m 66 (l_30 r0 r1 t n (16 : Int32) b k) [(.int (1 : Int32))])) _
    refine XS.ifNo X10.here hx rfl (hb hby d41_66) rfl ((if0 _ _).trans (feq (by decide)).1) ?_
    show Steps _ _ _ (T10.setTop (mkF m 69 (l_30 r0 r1 t n (16 : Int32) b k) [])) _
    refine XS.aloadN X10.here hx rfl (hb hby d41_69) rfl rfl ?_
    show Steps _ _ _ (T10.setTop (mkF m 70 (l_30 r0 r1 t n (16 : Int32) b k) [(.ref n)])) _
    exact X10.areturnOut hx rfl Bd.returns rfl (hb hby d41_70) hr
  · show Q41 Z r0 r1 v1 kb b cs t kt vs i n k kv kb2 x h0 n0 _ T10.heap _
    rw [e10]
    exact ⟨rfl, N10, Kp17⟩
def Q40 (Z : State) (r0 : Addr) (r1 : Addr) (r2 : Addr) (v1 : Addr) (kb : ClassId) (b : Int32) (cs : Int32) (t : Addr) (kt : ClassId) (vs : List Value) (i : Nat) (n : Addr) (k : Addr) (kv : Addr) (kb2 : ClassId) (x : Addr) (h0 : Heap) (n0 : Nat) (v : Option Value) (h : Heap) (L : List Loc) : Prop := v = some (.ref x) ∧ Fr n0 L ∧ Keep h0 h [r1]
theorem d40_0 : decode jdk_69_method_30_code 0 = .ok (.aload_n 0, 1) := by decide +kernel
theorem d40_1 : decode jdk_69_method_30_code 1 = .ok (.aload_n 1, 1) := by decide +kernel
theorem d40_2 : decode jdk_69_method_30_code 2 = .ok (.invokevirtual 158, 3) := by decide +kernel
theorem pd__28Ljava_2flang_2fObject_3b_29Ljava_2futil_2fHashMap_24Node_3b : parseMethodDescriptor "(Ljava/lang/Object;)Ljava/util/HashMap$Node;" = some ⟨[(.object "java/lang/Object")], some (.object "java/util/HashMap$Node")⟩ := by decide +kernel
theorem d40_5 : decode jdk_69_method_30_code 5 = .ok (.dup, 1) := by decide +kernel
theorem d40_6 : decode jdk_69_method_30_code 6 = .ok (.astore_n 3, 1) := by decide +kernel
theorem d40_7 : decode jdk_69_method_30_code 7 = .ok (.ifnonnull 7, 3) := by decide +kernel
theorem d40_14 : decode jdk_69_method_30_code 14 = .ok (.aload_n 3, 1) := by decide +kernel
theorem d40_15 : decode jdk_69_method_30_code 15 = .ok (.getfield 162, 3) := by decide +kernel
theorem d40_18 : decode jdk_69_method_30_code 18 = .ok (.areturn, 1) := by decide +kernel
theorem ef_40 (m : MethodId) (r0 : Addr) (r1 : Addr) (r2 : Addr) : entryFrame m #[(.ref r0), (.ref r1), (.ref r2)] 4 = mkF m 0 #[.val (.ref r0), .val (.ref r1), .val (.ref r2), .unset] [] := by first | (simp [entryFrame, mkF, argsToLocals, Value.category]; done) | rfl
set_option maxRecDepth 65536 in
set_option maxHeartbeats 40000000 in
theorem rm40 (l : Launch) (Z : State) (a0 : Array Value) (hw : ∀ d ∈ tables_1, d.before a0 Z = true) (ws : List Jvm.Cond) (r0 : Addr) (r1 : Addr) (r2 : Addr) (v1 : Addr) (kb : ClassId) (b : Int32) (cs : Int32) (t : Addr) (kt : ClassId) (vs : List Value) (i : Nat) (n : Addr) (k : Addr) (kv : Addr) (kb2 : ClassId) (x : Addr) (h0 : Heap) (n0 : Nat) (Z0 : n0 ≤ h0.size) (Hp0 : Exa Z h0 r0 "java/util/HashMap") (Hp1 : Fld Z h0 r0 "java/util/HashMap" "table" "[Ljava/util/HashMap$Node;" (.ref t)) (Hp2 : Arv Z h0 t kt (.object "java/util/HashMap$Node") (16 : Int32) vs .null) (Hp3 : Exa Z h0 r1 "java/lang/String") (Hp4 : Fld Z h0 r1 "java/lang/String" "value" "[B" (.ref v1)) (Hp5 : Fld Z h0 r1 "java/lang/String" "coder" "B" (.int (0 : Int32))) (Hp6 : Fld Z h0 r1 "java/lang/String" "hash" "I" (.int (0 : Int32))) (Hp7 : Fld Z h0 r1 "java/lang/String" "hashIsZero" "Z" (.int (0 : Int32))) (Hp8 : Arv Z h0 v1 kb .byte (1 : Int32) [(.int b)] (.int (0 : Int32))) (hgd : Gd b) (Hp10 : Old Z n0 h0) (Hp11 : Sta Z Z.heap "java/lang/String" "COMPACT_STRINGS" "Z" (.int cs)) (hcs : ¬ cs = (0 : Int32)) (hix : Ix b i) (hat : vs.getD i Value.null = .ref n) (Hp15 : Exa Z h0 n "java/util/HashMap$Node") (Hp16 : Fld Z h0 n "java/util/HashMap$Node" "hash" "I" (.int b)) (Hp17 : Fld Z h0 n "java/util/HashMap$Node" "key" "Ljava/lang/Object;" (.ref k)) (Hp18 : Fld Z h0 n "java/util/HashMap$Node" "value" "Ljava/lang/Object;" (.ref x)) (Hp19 : Exa Z h0 k "java/lang/String") (Hp20 : Fld Z h0 k "java/lang/String" "value" "[B" (.ref kv)) (Hp21 : Fld Z h0 k "java/lang/String" "coder" "B" (.int (0 : Int32))) (Hp22 : Arv Z h0 kv kb2 .byte (1 : Int32) [(.int b)] (.int (0 : Int32))) (Hp23 : n0 ≤ r1) (Hp24 : r0 ≠ r1) (Hp25 : t ≠ r1) (Hp26 : v1 ≠ r1) (Hp27 : n ≠ r1) (Hp28 : k ≠ r1) (Hp29 : kv ≠ r1) :
    MetFree l (⟨"java/util/HashMap", "getOrDefault", "(Ljava/lang/Object;Ljava/lang/Object;)Ljava/lang/Object;"⟩ : MethodName) (head1 (Jvm.Cond.code (⟨"java/util/HashMap", "getOrDefault", "(Ljava/lang/Object;Ljava/lang/Object;)Ljava/lang/Object;"⟩ : MethodName) jdk_69_method_30_code 4 (some (.object "java/lang/Object")) :: ws) ({ frames := 4, cells := 0, slots := 0, locals := 59 } : Room)) (fun a U => a = #[(.ref r0), (.ref r1), (.ref r2)] ∧ Z.Warmed39 U.vm ∧ U.heap = h0) (fun _ _ _ _ _ => True) (fun _ U o U' => ∃ v L, o = .returned v ∧ Q40 Z r0 r1 r2 v1 kb b cs t kt vs i n k kv kb2 x h0 n0 v U'.heap L ∧ FrameEnd U o U' L ({ frames := 4, cells := 0, slots := 0, locals := 59 } : Room).cells ({ frames := 4, cells := 0, slots := 0, locals := 59 } : Room).slots) := by
  refine MetFree.of_bodySF (plainFor_of_name pn_java_util_HashMap) hisR ?_
  intro p e s m args below meth c s₁ Bd hml0 hP hK
  obtain ⟨rfl, hZ, hh⟩ := hP
  have hx := Bd.exec
  have hby := Bd.bytes
  have hml : c.maxLocals = 4 := hml0
  have hown : s.vm.findClass "java/util/HashMap" = some m.cls := findClass_of_methodNamed Bd.named
  have hnm := (name_of_methodNamed Bd.named Bd.method).1
  have X0 : Stand p l e ({ frames := 4, cells := 0, slots := 0, locals := 59 } : Room) s m #[(.ref r0), (.ref r1), (.ref r2)] below meth c s₁ [] 0 0 := Stand.of_body Bd
  have e0 : s₁.heap = h0 := by rw [← hh, Bd.state]; rfl
  have N0 := Fr.nil n0
  have pre0 : ∀ t, Steps p.tables e below (s₁.setTop (mkF m 0 (l_33 r0 r1 r2) [])) t → Steps p.tables e below (s₁.setTop (entryFrame m #[(.ref r0), (.ref r1), (.ref r2)] 4)) t := fun t k => castTop (ef_40 m r0 r1 r2) k
  obtain ⟨cq1, kq1, q1a, q1b, q1c⟩ := isOf hZ e0 Hp0
  obtain ⟨_, _, ⟨T1, L1, k1, n1⟩, -, X1, ⟨Lc1, hQ1, l1, y1, z1⟩, st1⟩ := X0.virtualBack hx (y := (⟨"java/util/HashMap", "getNode", "(Ljava/lang/Object;)Ljava/util/HashMap$Node;"⟩ : MethodName)) (z := (⟨"java/util/HashMap", "getNode", "(Ljava/lang/Object;)Ljava/util/HashMap$Node;"⟩ : MethodName)) hown (mvT hZ (hw _ (tm 286 rfl))) (mvT hZ (hw _ (tm 287 rfl))) (notFace_of_selects (args := #[]) (mvT hZ (hw _ (tm 289 rfl)))) (mvT hZ (hw _ (tm 289 rfl))) (mvT hZ (hw _ (tm 288 rfl))) (by decide) (backOf (W := 0) (rm41 l Z a0 hw [] r0 r1 (v1) (kb) (b) (cs) (t) (kt) (vs) (i) (n) (k) (kv) (kb2) (x) h0 n0 Z0 Hp0 Hp1 Hp2 Hp3 Hp4 Hp5 Hp6 Hp7 Hp8 hgd Hp10 Hp11 hcs hix hat Hp15 Hp16 Hp17 Hp18 Hp19 Hp20 Hp21 Hp22 Hp23 Hp24 Hp25 Hp26 Hp27 Hp28 Hp29) hZ (hw _ (tm 290 rfl)) (hw _ (tm 82 rfl)) (by decide) (by decide)) q1a q1c (g := (mkF m 2 (l_33 r0 r1 r2) [(.ref r1), (.ref r0)])) rfl (by rw [hml]; rfl) (Steps.refl _) (argsL := [(.ref r1)]) (rest := []) (lenOf pd__28Ljava_2flang_2fObject_3b_29Ljava_2futil_2fHashMap_24Node_3b rfl) rfl (by show 2 * 0 + _ ≤ _; exact Nat.le_of_eq rfl) (hb hby d40_2) (fun _ _ => ⟨rfl, e0, (by decide : 0 + 0 ≤ _), (by decide : 0 + 0 ≤ _)⟩)
  dsimp only [Pt.U, Pt.locs, Pt.cells, Pt.slots] at X1 l1 y1 z1 st1 hQ1
  subst l1 y1 z1
  obtain ⟨rfl, N1q, K1⟩ := hQ1
  have N1 := Fr.app N0 N1q
  have Fd2 := (Hp18.keep K1 (ninS Hp27 nin0))
  obtain ⟨T3, X3, e3, st3⟩ := getF X1 hx hZ hown (host := "") (Or.inl (hw _ (tm 303 rfl))) Via.refl rfl Fd2 (g := (mkF m 15 (l_34 r0 r1 r2 n) [(.ref n)])) rfl rfl (hb hby d40_15)
  have Kp4 := ((Keep.refl h0 [r1]).trans K1 (allS (Or.inl (tm 0 rfl)) all0))
  obtain ⟨fs, hr, hrun, hended, hW, hsame⟩ := X3.leave (v := some (.ref x)) (fun h => by rw [Bd.returns] at h; cases h)
  refine ⟨_, _, pre0 _ ?_, hrun, hended, _, _, rfl, ?_, ⟨_, rfl⟩, hW, hsame.mono (by decide) (by decide)⟩
  · show Steps _ _ _ (s₁.setTop (mkF m 0 (l_33 r0 r1 r2) [])) _
    refine XS.aloadN X0.here hx rfl (hb hby d40_0) rfl rfl ?_
    show Steps _ _ _ (s₁.setTop (mkF m 1 (l_33 r0 r1 r2) [(.ref r0)])) _
    refine XS.aloadN X0.here hx rfl (hb hby d40_1) rfl rfl ?_
    show Steps _ _ _ (s₁.setTop (mkF m 2 (l_33 r0 r1 r2) [(.ref r1), (.ref r0)])) _
    refine st1.trans ?_
    show Steps _ _ _ (T1.setTop (mkF m 5 (l_33 r0 r1 r2) [(.ref n)])) _
    refine XS.dup X1.here hx rfl (hb hby d40_5) rfl rfl ?_
    show Steps _ _ _ (T1.setTop (mkF m 6 (l_33 r0 r1 r2) [(.ref n), (.ref n)])) _
    refine XS.astoreN X1.here hx rfl (hb hby d40_6) rfl rfl (l' := (l_34 r0 r1 r2 n)) rfl ?_
    show Steps _ _ _ (T1.setTop (mkF m 7 (l_34 r0 r1 r2 n) [(.ref n)])) _
    refine XS.ifnonnullYes X1.here hx rfl (pc0 := 7) (pc' := 14) rfl (hb hby d40_7) rfl (by decide) (by decide) ?_
    show Steps _ _ _ (T1.setTop (mkF m 14 (l_34 r0 r1 r2 n) [])) _
    refine XS.aloadN X1.here hx rfl (hb hby d40_14) rfl rfl ?_
    show Steps _ _ _ (T1.setTop (mkF m 15 (l_34 r0 r1 r2 n) [(.ref n)])) _
    refine st3 _ ?_
    show Steps _ _ _ (T3.setTop (mkF m 18 (l_34 r0 r1 r2 n) [(.ref x)])) _
    exact X3.areturnOut hx rfl Bd.returns rfl (hb hby d40_18) hr
  · show Q40 Z r0 r1 r2 v1 kb b cs t kt vs i n k kv kb2 x h0 n0 _ T3.heap _
    rw [e3]
    exact ⟨rfl, N1, Kp4⟩
theorem d14_0 : decode jdk_71_method_1_code 0 = .ok (.aload_n 0, 1) := by decide +kernel
theorem d14_1 : decode jdk_71_method_1_code 1 = .ok (.invokespecial 1, 3) := by decide +kernel
theorem d14_4 : decode jdk_71_method_1_code 4 = .ok (.return_, 1) := by decide +kernel
def Q14 (h0 : Heap) (n0 : Nat) (v : Option Value) (h : Heap) (L : List Loc) : Prop := v = none ∧ Fr n0 L ∧ h = h0
theorem pn_java_util_AbstractMap : plainName "java/util/AbstractMap" = true := by first | (simp [plainName, overriddenIn]; done) | decide +kernel
theorem ef_14 (m : MethodId) (r0 : Addr) : entryFrame m #[(.ref r0)] 1 = mkF m 0 #[.val (.ref r0)] [] := by first | (simp [entryFrame, mkF, argsToLocals, Value.category]; done) | rfl
set_option maxRecDepth 65536 in
set_option maxHeartbeats 40000000 in
theorem rm14 (l : Launch) (Z : State) (a0 : Array Value) (hw : ∀ d ∈ tables_1, d.before a0 Z = true) (ws : List Jvm.Cond) (r0 : Addr)  (h0 : Heap) (n0 : Nat) (Z0 : n0 ≤ h0.size)  :
    MetFree l (⟨"java/util/AbstractMap", "<init>", "()V"⟩ : MethodName) (head1 (Jvm.Cond.code (⟨"java/util/AbstractMap", "<init>", "()V"⟩ : MethodName) jdk_71_method_1_code 1 none :: ws) ({ frames := 1, cells := 0, slots := 0, locals := 12 } : Room)) (fun a U => a = #[(.ref r0)] ∧ Z.Warmed39 U.vm ∧ U.heap = h0) (fun _ _ _ _ _ => True) (fun _ U o U' => ∃ v L, o = .returned v ∧ Q14 h0 n0 v U'.heap L ∧ FrameEnd U o U' L ({ frames := 1, cells := 0, slots := 0, locals := 12 } : Room).cells ({ frames := 1, cells := 0, slots := 0, locals := 12 } : Room).slots) := by
  refine MetFree.of_bodySF (plainFor_of_name pn_java_util_AbstractMap) hisR ?_
  intro p e s m args below meth c s₁ Bd hml0 hP hK
  obtain ⟨rfl, hZ, hh⟩ := hP
  have hx := Bd.exec
  have hby := Bd.bytes
  have hml : c.maxLocals = 1 := hml0
  have hown : s.vm.findClass "java/util/AbstractMap" = some m.cls := findClass_of_methodNamed Bd.named
  have hnm := (name_of_methodNamed Bd.named Bd.method).1
  have X0 : Stand p l e ({ frames := 1, cells := 0, slots := 0, locals := 12 } : Room) s m #[(.ref r0)] below meth c s₁ [] 0 0 := Stand.of_body Bd
  have e0 : s₁.heap = h0 := by rw [← hh, Bd.state]; rfl
  have N0 := Fr.nil n0
  have pre0 : ∀ t, Steps p.tables e below (s₁.setTop (mkF m 0 #[.val (.ref r0)] [])) t → Steps p.tables e below (s₁.setTop (entryFrame m #[(.ref r0)] 1)) t := fun t k => castTop (ef_14 m r0) k
  obtain ⟨T1, X1, e1, st1⟩ := initO X0 hx hZ hown (hw _ (tm 92 rfl)) (hw _ (tm 32 rfl)) (hw _ (tm 33 rfl)) e0 (g := (mkF m 1 #[.val (.ref r0)] [(.ref r0)])) rfl (by rw [hml]; rfl) rfl (hb hby d14_1) (by decide) (W := 0) (by show 2 * 0 + _ ≤ _; exact Nat.le_of_eq rfl) (by decide)
  obtain ⟨fs, hr, hrun, hended, hW, hsame⟩ := X1.leave (v := none) (fun _ => rfl)
  refine ⟨_, _, pre0 _ ?_, hrun, hended, _, _, rfl, ?_, ⟨_, rfl⟩, hW, hsame.mono (by decide) (by decide)⟩
  · show Steps _ _ _ (s₁.setTop (mkF m 0 #[.val (.ref r0)] [])) _
    refine XS.aloadN X0.here hx rfl (hb hby d14_0) rfl rfl ?_
    show Steps _ _ _ (s₁.setTop (mkF m 1 #[.val (.ref r0)] [(.ref r0)])) _
    refine st1 _ ?_
    show Steps _ _ _ (T1.setTop (mkF m 4 #[.val (.ref r0)] [])) _
    exact X1.returnOut hx Bd.returns (hb hby d14_4) hr
  · show Q14 h0 n0 _ T1.heap _
    rw [e1]
    exact ⟨rfl, N0, rfl⟩
def Q13 (Z : State) (r0 : Addr) (h0 : Heap) (n0 : Nat) (v : Option Value) (h : Heap) (L : List Loc) : Prop := v = none ∧ Fr n0 L ∧ Keep h0 h [r0] ∧ Exa Z h r0 "java/util/HashMap" ∧ Fld Z h r0 "java/util/HashMap" "table" "[Ljava/util/HashMap$Node;" .null ∧ Fld Z h r0 "java/util/HashMap" "threshold" "I" (.int (0 : Int32)) ∧ Fld Z h r0 "java/util/HashMap" "size" "I" (.int (0 : Int32)) ∧ Fld Z h r0 "java/util/HashMap" "modCount" "I" (.int (0 : Int32))
theorem d13_0 : decode jdk_69_method_7_code 0 = .ok (.aload_n 0, 1) := by decide +kernel
theorem d13_1 : decode jdk_69_method_7_code 1 = .ok (.invokespecial 43, 3) := by decide +kernel
theorem d13_4 : decode jdk_69_method_7_code 4 = .ok (.aload_n 0, 1) := by decide +kernel
theorem d13_5 : decode jdk_69_method_7_code 5 = .ok (.ldc 92, 2) := by decide +kernel
theorem d13_7 : decode jdk_69_method_7_code 7 = .ok (.putfield 81, 3) := by decide +kernel
theorem d13_10 : decode jdk_69_method_7_code 10 = .ok (.return_, 1) := by decide +kernel
theorem ef_13 (m : MethodId) (r0 : Addr) : entryFrame m #[(.ref r0)] 1 = mkF m 0 #[.val (.ref r0)] [] := by first | (simp [entryFrame, mkF, argsToLocals, Value.category]; done) | rfl
set_option maxRecDepth 65536 in
set_option maxHeartbeats 40000000 in
theorem rm13 (l : Launch) (Z : State) (a0 : Array Value) (hw : ∀ d ∈ tables_1, d.before a0 Z = true) (ws : List Jvm.Cond) (r0 : Addr)  (h0 : Heap) (n0 : Nat) (Z0 : n0 ≤ h0.size) (Hp0 : Exa Z h0 r0 "java/util/HashMap") (Hp1 : Fld Z h0 r0 "java/util/HashMap" "table" "[Ljava/util/HashMap$Node;" .null) (Hp2 : Fld Z h0 r0 "java/util/HashMap" "threshold" "I" (.int (0 : Int32))) (Hp3 : Fld Z h0 r0 "java/util/HashMap" "size" "I" (.int (0 : Int32))) (Hp4 : Fld Z h0 r0 "java/util/HashMap" "modCount" "I" (.int (0 : Int32))) (Hp5 : Fld Z h0 r0 "java/util/HashMap" "loadFactor" "F" (.float 0)) (Hp6 : n0 ≤ r0) :
    MetFree l (⟨"java/util/HashMap", "<init>", "()V"⟩ : MethodName) (head1 (Jvm.Cond.code (⟨"java/util/HashMap", "<init>", "()V"⟩ : MethodName) jdk_69_method_7_code 1 none :: ws) ({ frames := 2, cells := 0, slots := 0, locals := 24 } : Room)) (fun a U => a = #[(.ref r0)] ∧ Z.Warmed39 U.vm ∧ U.heap = h0) (fun _ _ _ _ _ => True) (fun _ U o U' => ∃ v L, o = .returned v ∧ Q13 Z r0 h0 n0 v U'.heap L ∧ FrameEnd U o U' L ({ frames := 2, cells := 0, slots := 0, locals := 24 } : Room).cells ({ frames := 2, cells := 0, slots := 0, locals := 24 } : Room).slots) := by
  refine MetFree.of_bodySF (plainFor_of_name pn_java_util_HashMap) hisR ?_
  intro p e s m args below meth c s₁ Bd hml0 hP hK
  obtain ⟨rfl, hZ, hh⟩ := hP
  have hx := Bd.exec
  have hby := Bd.bytes
  have hml : c.maxLocals = 1 := hml0
  have hown : s.vm.findClass "java/util/HashMap" = some m.cls := findClass_of_methodNamed Bd.named
  have hnm := (name_of_methodNamed Bd.named Bd.method).1
  have X0 : Stand p l e ({ frames := 2, cells := 0, slots := 0, locals := 24 } : Room) s m #[(.ref r0)] below meth c s₁ [] 0 0 := Stand.of_body Bd
  have e0 : s₁.heap = h0 := by rw [← hh, Bd.state]; rfl
  have N0 := Fr.nil n0
  have pre0 : ∀ t, Steps p.tables e below (s₁.setTop (mkF m 0 #[.val (.ref r0)] [])) t → Steps p.tables e below (s₁.setTop (entryFrame m #[(.ref r0)] 1)) t := fun t k => castTop (ef_13 m r0) k
  obtain ⟨_, _, ⟨T1, L1, k1, n1⟩, -, X1, ⟨Lc1, hQ1, l1, y1, z1⟩, st1⟩ := X0.specialBack hx (y := (⟨"java/util/AbstractMap", "<init>", "()V"⟩ : MethodName)) rfl hown (mvT hZ (hw _ (tm 86 rfl))) (mvT hZ (hw _ (tm 87 rfl))) (mvT hZ (hw _ (tm 91 rfl))) (by decide) (backOf (W := 0) (rm14 l Z a0 hw [] r0  h0 n0 Z0 ) hZ (hw _ (tm 91 rfl)) (hw _ (tm 90 rfl)) (by decide) (by decide)) (g := (mkF m 1 #[.val (.ref r0)] [(.ref r0)])) rfl (by rw [hml]; rfl) (Steps.refl _) (a := r0) (argsL := []) (rest := []) (lenOf pd__28_29V rfl) rfl (by show 2 * 0 + _ ≤ _; exact Nat.le_of_eq rfl) (hb hby d13_1) (fun _ _ => ⟨rfl, e0, (by decide : 0 + 0 ≤ _), (by decide : 0 + 0 ≤ _)⟩)
  dsimp only [Pt.U, Pt.locs, Pt.cells, Pt.slots] at X1 l1 y1 z1 st1 hQ1
  subst l1 y1 z1
  obtain ⟨rfl, N1q, e1⟩ := hQ1
  have N1 := Fr.app N0 N1q
  obtain ⟨T2, h2, X2, e2, W2, st2⟩ := putF X1 hx hZ hown (host := "") (Or.inl (hw _ (tm 94 rfl))) Via.refl e1 Hp5 Hp0 (Or.inr ⟨(hw _ (tm 95 rfl)), rfl, hnm⟩) (hw _ (tm 81 rfl)) (ty := .float) (by decide) rfl rfl (g := (mkF m 7 #[.val (.ref r0)] [(.float (1061158912 : UInt32)), (.ref r0)])) rfl rfl (hb hby d13_7)
  have N2 := Fr.snoc X2 N1 Hp6
  have Fw2 := Hp5.same W2
  have Ex3 := (Hp0.wr W2)
  have Fd4 := (Hp1.other W2 (Or.inr (slot_ne (Or.inl (hw _ (tm 227 rfl))) (Or.inr (hw _ (tm 95 rfl))) (by decide) (t := (.array (.object "java/util/HashMap$Node"))) (t' := .float) (by decide) (by decide))))
  have Fd5 := (Hp2.other W2 (Or.inr (slot_ne (Or.inl (hw _ (tm 234 rfl))) (Or.inr (hw _ (tm 95 rfl))) (by decide) (t := .int) (t' := .float) (by decide) (by decide))))
  have Fd6 := (Hp3.other W2 (Or.inr (slot_ne (Or.inl (hw _ (tm 260 rfl))) (Or.inr (hw _ (tm 95 rfl))) (by decide) (t := .int) (t' := .float) (by decide) (by decide))))
  have Fd7 := (Hp4.other W2 (Or.inr (slot_ne (Or.inl (hw _ (tm 258 rfl))) (Or.inr (hw _ (tm 95 rfl))) (by decide) (t := .int) (t' := .float) (by decide) (by decide))))
  have Kp8 := ((Keep.refl h0 [r0]).wr W2 (Or.inl (tm 0 rfl)))
  obtain ⟨fs, hr, hrun, hended, hW, hsame⟩ := X2.leave (v := none) (fun _ => rfl)
  refine ⟨_, _, pre0 _ ?_, hrun, hended, _, _, rfl, ?_, ⟨_, rfl⟩, hW, hsame.mono (by decide) (by decide)⟩
  · show Steps _ _ _ (s₁.setTop (mkF m 0 #[.val (.ref r0)] [])) _
    refine XS.aloadN X0.here hx rfl (hb hby d13_0) rfl rfl ?_
    show Steps _ _ _ (s₁.setTop (mkF m 1 #[.val (.ref r0)] [(.ref r0)])) _
    refine st1.trans ?_
    show Steps _ _ _ (T1.setTop (mkF m 4 #[.val (.ref r0)] [])) _
    refine XS.aloadN X1.here hx rfl (hb hby d13_4) rfl rfl ?_
    show Steps _ _ _ (T1.setTop (mkF m 5 #[.val (.ref r0)] [(.ref r0)])) _
    refine X1.ldcFloatC hx hown (mvT hZ (hw _ (tm 93 rfl))) (g := (mkF m 5 #[.val (.ref r0)] [(.ref r0)])) rfl (hb hby d13_5) _ ?_
    show Steps _ _ _ (T1.setTop (mkF m 7 #[.val (.ref r0)] [(.float (1061158912 : UInt32)), (.ref r0)])) _
    refine st2 _ ?_
    show Steps _ _ _ (T2.setTop (mkF m 10 #[.val (.ref r0)] [])) _
    exact X2.returnOut hx Bd.returns (hb hby d13_10) hr
  · show Q13 Z r0 h0 n0 _ T2.heap _
    rw [e2]
    exact ⟨rfl, N2, Kp8, Ex3, Fd4, Fd5, Fd6, Fd7⟩
def Q12 (Z : State) (r0 : Addr) (h0 : Heap) (n0 : Nat) (v : Option Value) (h : Heap) (L : List Loc) : Prop := ∃ m1 : Addr, ∃ m2 : Addr, v = none ∧ Fr n0 L ∧ Keep h0 h [r0] ∧ h0.size ≤ m1 ∧ h0.size ≤ m2 ∧ Exa Z h r0 "com/example/onesnap/onesnap/node/TransactionTracker" ∧ Fld Z h r0 "com/example/onesnap/onesnap/node/TransactionTracker" "status" "C" (.int (73 : Int32)) ∧ Fld Z h r0 "com/example/onesnap/onesnap/node/TransactionTracker" "statements" "Ljava/util/Map;" (.ref m1) ∧ Fld Z h r0 "com/example/onesnap/onesnap/node/TransactionTracker" "portals" "Ljava/util/Map;" (.ref m2) ∧ Fld Z h r0 "com/example/onesnap/onesnap/node/TransactionTracker" "writes" "Z" (.int (0 : Int32)) ∧ Exa Z h m1 "java/util/HashMap" ∧ Fld Z h m1 "java/util/HashMap" "table" "[Ljava/util/HashMap$Node;" .null ∧ Fld Z h m1 "java/util/HashMap" "threshold" "I" (.int (0 : Int32)) ∧ Fld Z h m1 "java/util/HashMap" "size" "I" (.int (0 : Int32)) ∧ Fld Z h m1 "java/util/HashMap" "modCount" "I" (.int (0 : Int32)) ∧ Exa Z h m2 "java/util/HashMap" ∧ Fld Z h m2 "java/util/HashMap" "table" "[Ljava/util/HashMap$Node;" .null ∧ Fld Z h m2 "java/util/HashMap" "threshold" "I" (.int (0 : Int32)) ∧ Fld Z h m2 "java/util/HashMap" "size" "I" (.int (0 : Int32)) ∧ Fld Z h m2 "java/util/HashMap" "modCount" "I" (.int (0 : Int32)) ∧ m1 ≠ m2
theorem d12_0 : decode prog_49_method_1_code 0 = .ok (.aload_n 0, 1) := by decide +kernel
theorem d12_1 : decode prog_49_method_1_code 1 = .ok (.invokespecial 1, 3) := by decide +kernel
theorem d12_4 : decode prog_49_method_1_code 4 = .ok (.aload_n 0, 1) := by decide +kernel
theorem d12_5 : decode prog_49_method_1_code 5 = .ok (.bipush 73, 2) := by decide +kernel
theorem d12_7 : decode prog_49_method_1_code 7 = .ok (.putfield 7, 3) := by decide +kernel
theorem d12_10 : decode prog_49_method_1_code 10 = .ok (.aload_n 0, 1) := by decide +kernel
theorem d12_11 : decode prog_49_method_1_code 11 = .ok (.new 13, 3) := by decide +kernel
theorem d12_14 : decode prog_49_method_1_code 14 = .ok (.dup, 1) := by decide +kernel
theorem d12_15 : decode prog_49_method_1_code 15 = .ok (.invokespecial 15, 3) := by decide +kernel
theorem d12_18 : decode prog_49_method_1_code 18 = .ok (.putfield 16, 3) := by decide +kernel
theorem d12_21 : decode prog_49_method_1_code 21 = .ok (.aload_n 0, 1) := by decide +kernel
theorem d12_22 : decode prog_49_method_1_code 22 = .ok (.new 13, 3) := by decide +kernel
theorem d12_25 : decode prog_49_method_1_code 25 = .ok (.dup, 1) := by decide +kernel
theorem d12_26 : decode prog_49_method_1_code 26 = .ok (.invokespecial 15, 3) := by decide +kernel
theorem d12_29 : decode prog_49_method_1_code 29 = .ok (.putfield 20, 3) := by decide +kernel
theorem d12_32 : decode prog_49_method_1_code 32 = .ok (.return_, 1) := by decide +kernel
theorem ef_12 (m : MethodId) (r0 : Addr) : entryFrame m #[(.ref r0)] 1 = mkF m 0 #[.val (.ref r0)] [] := by first | (simp [entryFrame, mkF, argsToLocals, Value.category]; done) | rfl
set_option maxRecDepth 65536 in
set_option maxHeartbeats 40000000 in
theorem rm12 (l : Launch) (Z : State) (a0 : Array Value) (hw : ∀ d ∈ tables_1, d.before a0 Z = true) (ws : List Jvm.Cond) (r0 : Addr)  (h0 : Heap) (n0 : Nat) (Z0 : n0 ≤ h0.size) (Hp0 : Exa Z h0 r0 "com/example/onesnap/onesnap/node/TransactionTracker") (Hp1 : Fld Z h0 r0 "com/example/onesnap/onesnap/node/TransactionTracker" "status" "C" (.int (0 : Int32))) (Hp2 : Fld Z h0 r0 "com/example/onesnap/onesnap/node/TransactionTracker" "statements" "Ljava/util/Map;" .null) (Hp3 : Fld Z h0 r0 "com/example/onesnap/onesnap/node/TransactionTracker" "portals" "Ljava/util/Map;" .null) (Hp4 : Fld Z h0 r0 "com/example/onesnap/onesnap/node/TransactionTracker" "writes" "Z" (.int (0 : Int32))) (Hp5 : n0 ≤ r0) :
    MetFree l (⟨"com/example/onesnap/onesnap/node/TransactionTracker", "<init>", "()V"⟩ : MethodName) (head1 (Jvm.Cond.code (⟨"com/example/onesnap/onesnap/node/TransactionTracker", "<init>", "()V"⟩ : MethodName) prog_49_method_1_code 1 none :: ws) ({ frames := 3, cells := 2, slots := 16, locals := 38 } : Room)) (fun a U => a = #[(.ref r0)] ∧ Z.Warmed39 U.vm ∧ U.heap = h0) (fun _ _ _ _ _ => True) (fun _ U o U' => ∃ v L, o = .returned v ∧ Q12 Z r0 h0 n0 v U'.heap L ∧ FrameEnd U o U' L ({ frames := 3, cells := 2, slots := 16, locals := 38 } : Room).cells ({ frames := 3, cells := 2, slots := 16, locals := 38 } : Room).slots) := by
  refine MetFree.of_bodySF (plainFor_of_name pn_com_example_onesnap_onesnap_node_TransactionTracker) hisR ?_
  intro p e s m args below meth c s₁ Bd hml0 hP hK
  obtain ⟨rfl, hZ, hh⟩ := hP
  have hx := Bd.exec
  have hby := Bd.bytes
  have hml : c.maxLocals = 1 := hml0
  have hown : s.vm.findClass "com/example/onesnap/onesnap/node/TransactionTracker" = some m.cls := findClass_of_methodNamed Bd.named
  have hnm := (name_of_methodNamed Bd.named Bd.method).1
  have X0 : Stand p l e ({ frames := 3, cells := 2, slots := 16, locals := 38 } : Room) s m #[(.ref r0)] below meth c s₁ [] 0 0 := Stand.of_body Bd
  have e0 : s₁.heap = h0 := by rw [← hh, Bd.state]; rfl
  have N0 := Fr.nil n0
  have pre0 : ∀ t, Steps p.tables e below (s₁.setTop (mkF m 0 #[.val (.ref r0)] [])) t → Steps p.tables e below (s₁.setTop (entryFrame m #[(.ref r0)] 1)) t := fun t k => castTop (ef_12 m r0) k
  obtain ⟨T1, X1, e1, st1⟩ := initO X0 hx hZ hown (hw _ (tm 77 rfl)) (hw _ (tm 32 rfl)) (hw _ (tm 33 rfl)) e0 (g := (mkF m 1 #[.val (.ref r0)] [(.ref r0)])) rfl (by rw [hml]; rfl) rfl (hb hby d12_1) (by decide) (W := 0) (by show 2 * 0 + _ ≤ _; exact Nat.le_of_eq rfl) (by decide)
  obtain ⟨T2, h2, X2, e2, W2, st2⟩ := putFN X1 hx hZ hown (hw _ (tm 78 rfl)) Via.refl e1 Hp1 Hp0 (Or.inl (hw _ (tm 79 rfl))) (hw _ (tm 72 rfl)) (ty := .char) (v' := (.int (73 : Int32))) (by decide) rfl (by decide) (g := (mkF m 7 #[.val (.ref r0)] [(.int (73 : Int32)), (.ref r0)])) rfl rfl (hb hby d12_7)
  have N2 := Fr.snoc X2 N0 Hp5
  have Fw2 := Hp1.same W2
  obtain ⟨T3, h3, X3, e3, E3, A3, D3, -, st3⟩ := newO X2 hx hZ hown (hw _ (tm 80 rfl)) (hw _ (tm 81 rfl)) (hw _ (tm 82 rfl)) e2 (g := (mkF m 11 #[.val (.ref r0)] [(.ref r0)])) rfl (hb hby d12_11) (by decide) (by decide)
  obtain ⟨b3, g3⟩ : ∃ z, z = h2.size := ⟨_, rfl⟩
  rw [← g3] at A3 D3 st3
  have Zz4 := (Nat.le_trans Z0 (Keep.of_wr W2).1)
  have g_b3 : n0 ≤ b3 := Nat.le_trans Zz4 (Nat.le_of_eq g3.symm)
  have Kp5 := ((Keep.refl h0 [r0]).wr W2 (Or.inl (tm 0 rfl)))
  have sz_b3 : h0.size ≤ b3 := Nat.le_trans Kp5.1 (Nat.le_of_eq g3.symm)
  have Ex6 := (Hp0.wr W2)
  have ne_r0_b3 : r0 ≠ b3 := Nat.ne_of_lt (Nat.lt_of_lt_of_le Ex6.lt (Nat.le_of_eq g3.symm))
  have F_loadFactor_b3 : Fld Z h3 b3 "java/util/HashMap" "loadFactor" "F" (.float 0) := D3 (Or.inr (hw _ (tm 95 rfl))) (ty := .float) (by decide)
  have F_table_b3 : Fld Z h3 b3 "java/util/HashMap" "table" "[Ljava/util/HashMap$Node;" .null := D3 (Or.inl (hw _ (tm 227 rfl))) (ty := (.array (.object "java/util/HashMap$Node"))) (by decide)
  have F_threshold_b3 : Fld Z h3 b3 "java/util/HashMap" "threshold" "I" (.int (0 : Int32)) := D3 (Or.inl (hw _ (tm 234 rfl))) (ty := .int) (by decide)
  have F_modCount_b3 : Fld Z h3 b3 "java/util/HashMap" "modCount" "I" (.int (0 : Int32)) := D3 (Or.inl (hw _ (tm 258 rfl))) (ty := .int) (by decide)
  have F_size_b3 : Fld Z h3 b3 "java/util/HashMap" "size" "I" (.int (0 : Int32)) := D3 (Or.inl (hw _ (tm 260 rfl))) (ty := .int) (by decide)
  have Ex8 := (Ex6.ext E3)
  have Zz9 := (Nat.le_trans Zz4 E3.1)
  have Kp10 := (Kp5.ext E3)
  obtain ⟨_, _, ⟨T7, L7, k7, n7⟩, -, X7, ⟨Lc7, hQ7, l7, y7, z7⟩, st7⟩ := X3.specialBack hx (y := (⟨"java/util/HashMap", "<init>", "()V"⟩ : MethodName)) rfl hown (mvT hZ (hw _ (tm 83 rfl))) (mvT hZ (hw _ (tm 84 rfl))) (mvT hZ (hw _ (tm 85 rfl))) (by decide) (backOf (W := 2) (rm13 l Z a0 hw [] b3  h3 n0 Zz9 A3 F_table_b3 F_threshold_b3 F_size_b3 F_modCount_b3 F_loadFactor_b3 g_b3) hZ (hw _ (tm 85 rfl)) (hw _ (tm 82 rfl)) (by decide) (by decide)) (g := (mkF m 15 #[.val (.ref r0)] [(.ref b3), (.ref b3), (.ref r0)])) rfl (by rw [hml]; rfl) (Steps.refl _) (a := b3) (argsL := []) (rest := [(.ref b3), (.ref r0)]) (lenOf pd__28_29V rfl) rfl (by show 2 * 0 + _ ≤ _; exact Nat.le_of_eq rfl) (hb hby d12_15) (fun _ _ => ⟨rfl, e3, (by decide : 1 + 0 ≤ _), (by decide : 8 + 0 ≤ _)⟩)
  dsimp only [Pt.U, Pt.locs, Pt.cells, Pt.slots] at X7 l7 y7 z7 st7 hQ7
  subst l7 y7 z7
  obtain ⟨rfl, N7q, K7, Pc7_0, Pc7_1, Pc7_2, Pc7_3, Pc7_4⟩ := hQ7
  have N7 := Fr.app N2 N7q
  have Ex11 := (Ex8.keep K7)
  have Fd12 := (((Hp2.other W2 (Or.inr (slot_ne (Or.inr (hw _ (tm 97 rfl))) (Or.inl (hw _ (tm 79 rfl))) (by decide) (t := (.object "java/util/Map")) (t' := .char) (by decide) (by decide)))).ext E3).keep K7 (ninS ne_r0_b3 nin0))
  obtain ⟨T13, h13, X13, e13, W13, st13⟩ := putF X7 hx hZ hown (host := "") (Or.inl (hw _ (tm 96 rfl))) Via.refl rfl Fd12 Ex11 (Or.inr ⟨(hw _ (tm 97 rfl)), rfl, hnm⟩) (hw _ (tm 72 rfl)) (ty := (.object "java/util/Map")) (by decide) rfl rfl (g := (mkF m 18 #[.val (.ref r0)] [(.ref b3), (.ref r0)])) rfl rfl (hb hby d12_18)
  have N13 := Fr.snoc X13 N7 Hp5
  have Fw13 := Fd12.same W13
  obtain ⟨T14, h14, X14, e14, E14, A14, D14, -, st14⟩ := newO X13 hx hZ hown (hw _ (tm 80 rfl)) (hw _ (tm 81 rfl)) (hw _ (tm 82 rfl)) e13 (g := (mkF m 22 #[.val (.ref r0)] [(.ref r0)])) rfl (hb hby d12_22) (by decide) (by decide)
  obtain ⟨b14, g14⟩ : ∃ z, z = h13.size := ⟨_, rfl⟩
  rw [← g14] at A14 D14 st14
  have Zz15 := (Nat.le_trans (Nat.le_trans Zz9 K7.1) (Keep.of_wr W13).1)
  have g_b14 : n0 ≤ b14 := Nat.le_trans Zz15 (Nat.le_of_eq g14.symm)
  have Kp16 := ((Kp10.trans K7 (allS (Or.inr sz_b3) all0)).wr W13 (Or.inl (tm 0 rfl)))
  have sz_b14 : h0.size ≤ b14 := Nat.le_trans Kp16.1 (Nat.le_of_eq g14.symm)
  have Ex17 := (Pc7_0.wr W13)
  have ne_b3_b14 : b3 ≠ b14 := Nat.ne_of_lt (Nat.lt_of_lt_of_le Ex17.lt (Nat.le_of_eq g14.symm))
  have Ex18 := (Ex11.wr W13)
  have ne_r0_b14 : r0 ≠ b14 := Nat.ne_of_lt (Nat.lt_of_lt_of_le Ex18.lt (Nat.le_of_eq g14.symm))
  have F_loadFactor_b14 : Fld Z h14 b14 "java/util/HashMap" "loadFactor" "F" (.float 0) := D14 (Or.inr (hw _ (tm 95 rfl))) (ty := .float) (by decide)
  have F_table_b14 : Fld Z h14 b14 "java/util/HashMap" "table" "[Ljava/util/HashMap$Node;" .null := D14 (Or.inl (hw _ (tm 227 rfl))) (ty := (.array (.object "java/util/HashMap$Node"))) (by decide)
  have F_threshold_b14 : Fld Z h14 b14 "java/util/HashMap" "threshold" "I" (.int (0 : Int32)) := D14 (Or.inl (hw _ (tm 234 rfl))) (ty := .int) (by decide)
  have F_modCount_b14 : Fld Z h14 b14 "java/util/HashMap" "modCount" "I" (.int (0 : Int32)) := D14 (Or.inl (hw _ (tm 258 rfl))) (ty := .int) (by decide)
  have F_size_b14 : Fld Z h14 b14 "java/util/HashMap" "size" "I" (.int (0 : Int32)) := D14 (Or.inl (hw _ (tm 260 rfl))) (ty := .int) (by decide)
  have Ex20 := (Ex17.ext E14)
  have Ex21 := (Ex18.ext E14)
  have Zz22 := (Nat.le_trans Zz15 E14.1)
  have Kp23 := (Kp16.ext E14)
  obtain ⟨_, _, ⟨T19, L19, k19, n19⟩, -, X19, ⟨Lc19, hQ19, l19, y19, z19⟩, st19⟩ := X14.specialBack hx (y := (⟨"java/util/HashMap", "<init>", "()V"⟩ : MethodName)) rfl hown (mvT hZ (hw _ (tm 83 rfl))) (mvT hZ (hw _ (tm 84 rfl))) (mvT hZ (hw _ (tm 85 rfl))) (by decide) (backOf (W := 2) (rm13 l Z a0 hw [] b14  h14 n0 Zz22 A14 F_table_b14 F_threshold_b14 F_size_b14 F_modCount_b14 F_loadFactor_b14 g_b14) hZ (hw _ (tm 85 rfl)) (hw _ (tm 82 rfl)) (by decide) (by decide)) (g := (mkF m 26 #[.val (.ref r0)] [(.ref b14), (.ref b14), (.ref r0)])) rfl (by rw [hml]; rfl) (Steps.refl _) (a := b14) (argsL := []) (rest := [(.ref b14), (.ref r0)]) (lenOf pd__28_29V rfl) rfl (by show 2 * 0 + _ ≤ _; exact Nat.le_of_eq rfl) (hb hby d12_26) (fun _ _ => ⟨rfl, e14, (by decide : 2 + 0 ≤ _), (by decide : 16 + 0 ≤ _)⟩)
  dsimp only [Pt.U, Pt.locs, Pt.cells, Pt.slots] at X19 l19 y19 z19 st19 hQ19
  subst l19 y19 z19
  obtain ⟨rfl, N19q, K19, Pc19_0, Pc19_1, Pc19_2, Pc19_3, Pc19_4⟩ := hQ19
  have N19 := Fr.app N13 N19q
  have Ex24 := (Ex21.keep K19)
  have Fd25 := ((((((Hp3.other W2 (Or.inr (slot_ne (Or.inr (hw _ (tm 99 rfl))) (Or.inl (hw _ (tm 79 rfl))) (by decide) (t := (.object "java/util/Map")) (t' := .char) (by decide) (by decide)))).ext E3).keep K7 (ninS ne_r0_b3 nin0)).other W13 (Or.inr (slot_ne (Or.inr (hw _ (tm 99 rfl))) (Or.inr (hw _ (tm 97 rfl))) (by decide) (t := (.object "java/util/Map")) (t' := (.object "java/util/Map")) (by decide) (by decide)))).ext E14).keep K19 (ninS ne_r0_b14 nin0))
  obtain ⟨T26, h26, X26, e26, W26, st26⟩ := putF X19 hx hZ hown (host := "") (Or.inl (hw _ (tm 98 rfl))) Via.refl rfl Fd25 Ex24 (Or.inr ⟨(hw _ (tm 99 rfl)), rfl, hnm⟩) (hw _ (tm 72 rfl)) (ty := (.object "java/util/Map")) (by decide) rfl rfl (g := (mkF m 29 #[.val (.ref r0)] [(.ref b14), (.ref r0)])) rfl rfl (hb hby d12_29)
  have N26 := Fr.snoc X26 N19 Hp5
  have Fw26 := Fd25.same W26
  have Ex27 := (Ex24.wr W26)
  have Fd28 := ((((((Fw2.ext E3).keep K7 (ninS ne_r0_b3 nin0)).other W13 (Or.inr (slot_ne (Or.inl (hw _ (tm 79 rfl))) (Or.inr (hw _ (tm 97 rfl))) (by decide) (t := .char) (t' := (.object "java/util/Map")) (by decide) (by decide)))).ext E14).keep K19 (ninS ne_r0_b14 nin0)).other W26 (Or.inr (slot_ne (Or.inl (hw _ (tm 79 rfl))) (Or.inr (hw _ (tm 99 rfl))) (by decide) (t := .char) (t' := (.object "java/util/Map")) (by decide) (by decide))))
  have Fd29 := (((Fw13.ext E14).keep K19 (ninS ne_r0_b14 nin0)).other W26 (Or.inr (slot_ne (Or.inr (hw _ (tm 97 rfl))) (Or.inr (hw _ (tm 99 rfl))) (by decide) (t := (.object "java/util/Map")) (t' := (.object "java/util/Map")) (by decide) (by decide))))
  have Fd30 := (((((((Hp4.other W2 (Or.inr (slot_ne (Or.inl (hw _ (tm 106 rfl))) (Or.inl (hw _ (tm 79 rfl))) (by decide) (t := .boolean) (t' := .char) (by decide) (by decide)))).ext E3).keep K7 (ninS ne_r0_b3 nin0)).other W13 (Or.inr (slot_ne (Or.inl (hw _ (tm 106 rfl))) (Or.inr (hw _ (tm 97 rfl))) (by decide) (t := .boolean) (t' := (.object "java/util/Map")) (by decide) (by decide)))).ext E14).keep K19 (ninS ne_r0_b14 nin0)).other W26 (Or.inr (slot_ne (Or.inl (hw _ (tm 106 rfl))) (Or.inr (hw _ (tm 99 rfl))) (by decide) (t := .boolean) (t' := (.object "java/util/Map")) (by decide) (by decide))))
  have Ex31 := ((Ex20.keep K19).wr W26)
  have Fd32 := ((((Pc7_1.other W13 (Or.inl (Ne.symm ne_r0_b3))).ext E14).keep K19 (ninS ne_b3_b14 nin0)).other W26 (Or.inl (Ne.symm ne_r0_b3)))
  have Fd33 := ((((Pc7_2.other W13 (Or.inl (Ne.symm ne_r0_b3))).ext E14).keep K19 (ninS ne_b3_b14 nin0)).other W26 (Or.inl (Ne.symm ne_r0_b3)))
  have Fd34 := ((((Pc7_3.other W13 (Or.inl (Ne.symm ne_r0_b3))).ext E14).keep K19 (ninS ne_b3_b14 nin0)).other W26 (Or.inl (Ne.symm ne_r0_b3)))
  have Fd35 := ((((Pc7_4.other W13 (Or.inl (Ne.symm ne_r0_b3))).ext E14).keep K19 (ninS ne_b3_b14 nin0)).other W26 (Or.inl (Ne.symm ne_r0_b3)))
  have Ex36 := (Pc19_0.wr W26)
  have Fd37 := (Pc19_1.other W26 (Or.inl (Ne.symm ne_r0_b14)))
  have Fd38 := (Pc19_2.other W26 (Or.inl (Ne.symm ne_r0_b14)))
  have Fd39 := (Pc19_3.other W26 (Or.inl (Ne.symm ne_r0_b14)))
  have Fd40 := (Pc19_4.other W26 (Or.inl (Ne.symm ne_r0_b14)))
  have Kp41 := ((Kp23.trans K19 (allS (Or.inr sz_b14) all0)).wr W26 (Or.inl (tm 0 rfl)))
  obtain ⟨fs, hr, hrun, hended, hW, hsame⟩ := X26.leave (v := none) (fun _ => rfl)
  refine ⟨_, _, pre0 _ ?_, hrun, hended, _, _, rfl, ?_, ⟨_, rfl⟩, hW, hsame.mono (by decide) (by decide)⟩
  · show Steps _ _ _ (s₁.setTop (mkF m 0 #[.val (.ref r0)] [])) _
    refine XS.aloadN X0.here hx rfl (hb hby d12_0) rfl rfl ?_
    show Steps _ _ _ (s₁.setTop (mkF m 1 #[.val (.ref r0)] [(.ref r0)])) _
    refine st1 _ ?_
    show Steps _ _ _ (T1.setTop (mkF m 4 #[.val (.ref r0)] [])) _
    refine XS.aloadN X1.here hx rfl (hb hby d12_4) rfl rfl ?_
    show Steps _ _ _ (T1.setTop (mkF m 5 #[.val (.ref r0)] [(.ref r0)])) _
    refine XS.bipush X1.here hx rfl (hb hby d12_5) ?_
    show Steps _ _ _ (T1.setTop (mkF m 7 #[.val (.ref r0)] [(.int (73 : Int32)), (.ref r0)])) _
    refine st2 _ ?_
    show Steps _ _ _ (T2.setTop (mkF m 10 #[.val (.ref r0)] [])) _
    refine XS.aloadN X2.here hx rfl (hb hby d12_10) rfl rfl ?_
    show Steps _ _ _ (T2.setTop (mkF m 11 #[.val (.ref r0)] [(.ref r0)])) _
    refine st3 _ ?_
    show Steps _ _ _ (T3.setTop (mkF m 14 #[.val (.ref r0)] [(.ref b3), (.ref r0)])) _
    refine XS.dup X3.here hx rfl (hb hby d12_14) rfl rfl ?_
    show Steps _ _ _ (T3.setTop (mkF m 15 #[.val (.ref r0)] [(.ref b3), (.ref b3), (.ref r0)])) _
    refine st7.trans ?_
    show Steps _ _ _ (T7.setTop (mkF m 18 #[.val (.ref r0)] [(.ref b3), (.ref r0)])) _
    refine st13 _ ?_
    show Steps _ _ _ (T13.setTop (mkF m 21 #[.val (.ref r0)] [])) _
    refine XS.aloadN X13.here hx rfl (hb hby d12_21) rfl rfl ?_
    show Steps _ _ _ (T13.setTop (mkF m 22 #[.val (.ref r0)] [(.ref r0)])) _
    refine st14 _ ?_
    show Steps _ _ _ (T14.setTop (mkF m 25 #[.val (.ref r0)] [(.ref b14), (.ref r0)])) _
    refine XS.dup X14.here hx rfl (hb hby d12_25) rfl rfl ?_
    show Steps _ _ _ (T14.setTop (mkF m 26 #[.val (.ref r0)] [(.ref b14), (.ref b14), (.ref r0)])) _
    refine st19.trans ?_
    show Steps _ _ _ (T19.setTop (mkF m 29 #[.val (.ref r0)] [(.ref b14), (.ref r0)])) _
    refine st26 _ ?_
    show Steps _ _ _ (T26.setTop (mkF m 32 #[.val (.ref r0)] [])) _
    exact X26.returnOut hx Bd.returns (hb hby d12_32) hr
  · show Q12 Z r0 h0 n0 _ T26.heap _
    rw [e26]
    exact ⟨b3, b14, rfl, N26, Kp41, sz_b3, sz_b14, Ex27, Fd28, Fd29, Fw26, Fd30, Ex31, Fd32, Fd33, Fd34, Fd35, Ex36, Fd37, Fd38, Fd39, Fd40, ne_b3_b14⟩
def Q15 (Z : State) (r0 : Addr) (p1 : Int32) (sv : Int32) (wr : Int32) (m1 : Addr) (m2 : Addr) (h0 : Heap) (n0 : Nat) (v : Option Value) (h : Heap) (L : List Loc) : Prop := v = none ∧ Fr n0 L ∧ Keep h0 h [r0] ∧ Exa Z h r0 "com/example/onesnap/onesnap/node/TransactionTracker" ∧ Fld Z h r0 "com/example/onesnap/onesnap/node/TransactionTracker" "status" "C" (.int (nar .char p1)) ∧ Fld Z h r0 "com/example/onesnap/onesnap/node/TransactionTracker" "statements" "Ljava/util/Map;" (.ref m1) ∧ Fld Z h r0 "com/example/onesnap/onesnap/node/TransactionTracker" "portals" "Ljava/util/Map;" (.ref m2) ∧ Fld Z h r0 "com/example/onesnap/onesnap/node/TransactionTracker" "writes" "Z" (.int (0 : Int32))
theorem d15_0 : decode prog_49_method_2_code 0 = .ok (.aload_n 0, 1) := by decide +kernel
theorem d15_1 : decode prog_49_method_2_code 1 = .ok (.iload_n 1, 1) := by decide +kernel
theorem d15_2 : decode prog_49_method_2_code 2 = .ok (.putfield 7, 3) := by decide +kernel
theorem d15_5 : decode prog_49_method_2_code 5 = .ok (.aload_n 0, 1) := by decide +kernel
theorem d15_6 : decode prog_49_method_2_code 6 = .ok (.iconst 0, 1) := by decide +kernel
theorem d15_7 : decode prog_49_method_2_code 7 = .ok (.putfield 23, 3) := by decide +kernel
theorem d15_10 : decode prog_49_method_2_code 10 = .ok (.return_, 1) := by decide +kernel
theorem ef_15 (m : MethodId) (r0 : Addr) (p1 : Int32) : entryFrame m #[(.ref r0), (.int p1)] 2 = mkF m 0 #[.val (.ref r0), .val (.int p1)] [] := by first | (simp [entryFrame, mkF, argsToLocals, Value.category]; done) | rfl
set_option maxRecDepth 65536 in
set_option maxHeartbeats 40000000 in
theorem rm15 (l : Launch) (Z : State) (a0 : Array Value) (hw : ∀ d ∈ tables_1, d.before a0 Z = true) (ws : List Jvm.Cond) (r0 : Addr) (p1 : Int32) (sv : Int32) (wr : Int32) (m1 : Addr) (m2 : Addr) (h0 : Heap) (n0 : Nat) (Z0 : n0 ≤ h0.size) (Hp0 : Exa Z h0 r0 "com/example/onesnap/onesnap/node/TransactionTracker") (Hp1 : Fld Z h0 r0 "com/example/onesnap/onesnap/node/TransactionTracker" "status" "C" (.int sv)) (Hp2 : Fld Z h0 r0 "com/example/onesnap/onesnap/node/TransactionTracker" "statements" "Ljava/util/Map;" (.ref m1)) (Hp3 : Fld Z h0 r0 "com/example/onesnap/onesnap/node/TransactionTracker" "portals" "Ljava/util/Map;" (.ref m2)) (Hp4 : Fld Z h0 r0 "com/example/onesnap/onesnap/node/TransactionTracker" "writes" "Z" (.int wr)) (Hp5 : n0 ≤ r0) :
    MetFree l (⟨"com/example/onesnap/onesnap/node/TransactionTracker", "ready", "(C)V"⟩ : MethodName) (head1 (Jvm.Cond.code (⟨"com/example/onesnap/onesnap/node/TransactionTracker", "ready", "(C)V"⟩ : MethodName) prog_49_method_2_code 2 none :: ws) ({ frames := 0, cells := 0, slots := 0, locals := 0 } : Room)) (fun a U => a = #[(.ref r0), (.int p1)] ∧ Z.Warmed39 U.vm ∧ U.heap = h0) (fun _ _ _ _ _ => True) (fun _ U o U' => ∃ v L, o = .returned v ∧ Q15 Z r0 p1 sv wr m1 m2 h0 n0 v U'.heap L ∧ FrameEnd U o U' L ({ frames := 0, cells := 0, slots := 0, locals := 0 } : Room).cells ({ frames := 0, cells := 0, slots := 0, locals := 0 } : Room).slots) := by
  refine MetFree.of_bodySF (plainFor_of_name pn_com_example_onesnap_onesnap_node_TransactionTracker) hisR ?_
  intro p e s m args below meth c s₁ Bd hml0 hP hK
  obtain ⟨rfl, hZ, hh⟩ := hP
  have hx := Bd.exec
  have hby := Bd.bytes
  have hml : c.maxLocals = 2 := hml0
  have hown : s.vm.findClass "com/example/onesnap/onesnap/node/TransactionTracker" = some m.cls := findClass_of_methodNamed Bd.named
  have hnm := (name_of_methodNamed Bd.named Bd.method).1
  have X0 : Stand p l e ({ frames := 0, cells := 0, slots := 0, locals := 0 } : Room) s m #[(.ref r0), (.int p1)] below meth c s₁ [] 0 0 := Stand.of_body Bd
  have e0 : s₁.heap = h0 := by rw [← hh, Bd.state]; rfl
  have N0 := Fr.nil n0
  have pre0 : ∀ t, Steps p.tables e below (s₁.setTop (mkF m 0 (l_7 r0 p1) [])) t → Steps p.tables e below (s₁.setTop (entryFrame m #[(.ref r0), (.int p1)] 2)) t := fun t k => castTop (ef_15 m r0 p1) k
  obtain ⟨T1, h1, X1, e1, W1, st1⟩ := putFN X0 hx hZ hown (hw _ (tm 78 rfl)) Via.refl e0 Hp1 Hp0 (Or.inl (hw _ (tm 79 rfl))) (hw _ (tm 72 rfl)) (ty := .char) (v' := (.int (nar .char p1))) (by decide) rfl (fits_nar_char _) (g := (mkF m 2 (l_7 r0 p1) [(.int p1), (.ref r0)])) rfl rfl (hb hby d15_2)
  have N1 := Fr.snoc X1 N0 Hp5
  have Fw1 := Hp1.same W1
  have Ex2 := (Hp0.wr W1)
  have Fd3 := (Hp4.other W1 (Or.inr (slot_ne (Or.inl (hw _ (tm 106 rfl))) (Or.inl (hw _ (tm 79 rfl))) (by decide) (t := .boolean) (t' := .char) (by decide) (by decide))))
  obtain ⟨T4, h4, X4, e4, W4, st4⟩ := putFN X1 hx hZ hown (hw _ (tm 105 rfl)) Via.refl e1 Fd3 Ex2 (Or.inl (hw _ (tm 106 rfl))) (hw _ (tm 72 rfl)) (ty := .boolean) (v' := (.int (0 : Int32))) (by decide) rfl (by decide) (g := (mkF m 7 (l_7 r0 p1) [(.int (0 : Int32)), (.ref r0)])) rfl rfl (hb hby d15_7)
  have N4 := Fr.snoc X4 N1 Hp5
  have Fw4 := Fd3.same W4
  have Ex5 := (Ex2.wr W4)
  have Fd6 := (Fw1.other W4 (Or.inr (slot_ne (Or.inl (hw _ (tm 79 rfl))) (Or.inl (hw _ (tm 106 rfl))) (by decide) (t := .char) (t' := .boolean) (by decide) (by decide))))
  have Fd7 := ((Hp2.other W1 (Or.inr (slot_ne (Or.inr (hw _ (tm 97 rfl))) (Or.inl (hw _ (tm 79 rfl))) (by decide) (t := (.object "java/util/Map")) (t' := .char) (by decide) (by decide)))).other W4 (Or.inr (slot_ne (Or.inr (hw _ (tm 97 rfl))) (Or.inl (hw _ (tm 106 rfl))) (by decide) (t := (.object "java/util/Map")) (t' := .boolean) (by decide) (by decide))))
  have Fd8 := ((Hp3.other W1 (Or.inr (slot_ne (Or.inr (hw _ (tm 99 rfl))) (Or.inl (hw _ (tm 79 rfl))) (by decide) (t := (.object "java/util/Map")) (t' := .char) (by decide) (by decide)))).other W4 (Or.inr (slot_ne (Or.inr (hw _ (tm 99 rfl))) (Or.inl (hw _ (tm 106 rfl))) (by decide) (t := (.object "java/util/Map")) (t' := .boolean) (by decide) (by decide))))
  have Kp9 := (((Keep.refl h0 [r0]).wr W1 (Or.inl (tm 0 rfl))).wr W4 (Or.inl (tm 0 rfl)))
  obtain ⟨fs, hr, hrun, hended, hW, hsame⟩ := X4.leave (v := none) (fun _ => rfl)
  refine ⟨_, _, pre0 _ ?_, hrun, hended, _, _, rfl, ?_, ⟨_, rfl⟩, hW, hsame.mono (by decide) (by decide)⟩
  · show Steps _ _ _ (s₁.setTop (mkF m 0 (l_7 r0 p1) [])) _
    refine XS.aloadN X0.here hx rfl (hb hby d15_0) rfl rfl ?_
    show Steps _ _ _ (s₁.setTop (mkF m 1 (l_7 r0 p1) [(.ref r0)])) _
    refine XS.iloadN X0.here hx rfl (hb hby d15_1) rfl ?_
    show Steps _ _ _ (s₁.setTop (mkF m 2 (l_7 r0 p1) [(.int p1), (.ref r0)])) _
    refine st1 _ ?_
    show Steps _ _ _ (T1.setTop (mkF m 5 (l_7 r0 p1) [])) _
    refine XS.aloadN X1.here hx rfl (hb hby d15_5) rfl rfl ?_
    show Steps _ _ _ (T1.setTop (mkF m 6 (l_7 r0 p1) [(.ref r0)])) _
    refine XS.iconst X1.here hx rfl (hb hby d15_6) ?_
    show Steps _ _ _ (T1.setTop (mkF m 7 (l_7 r0 p1) [(.int (0 : Int32)), (.ref r0)])) _
    refine st4 _ ?_
    show Steps _ _ _ (T4.setTop (mkF m 10 (l_7 r0 p1) [])) _
    exact X4.returnOut hx Bd.returns (hb hby d15_10) hr
  · show Q15 Z r0 p1 sv wr m1 m2 h0 n0 _ T4.heap _
    rw [e4]
    exact ⟨rfl, N4, Kp9, Ex5, Fd6, Fd7, Fd8, Fw4⟩
def Q16_f (Z : State) (r0 : Addr) (r1 : Addr) (r2 : Addr) (m1 : Addr) (kb : ClassId) (b : Int32) (iso : Addr) (utf : Addr) (cs : Int32) (da : Addr) (ka : ClassId) (x : Addr) (i : Nat) (h0 : Heap) (n0 : Nat) (v : Option Value) (h : Heap) (L : List Loc) : Prop := ∃ t : Addr, ∃ kt : ClassId, ∃ n : Addr, ∃ y : Addr, ∃ v1 : Addr, v = none ∧ Fr n0 L ∧ Keep h0 h [m1] ∧ h0.size ≤ t ∧ h0.size ≤ n ∧ h0.size ≤ y ∧ h0.size ≤ v1 ∧ Exa Z h m1 "java/util/HashMap" ∧ Fld Z h m1 "java/util/HashMap" "table" "[Ljava/util/HashMap$Node;" (.ref t) ∧ Fld Z h m1 "java/util/HashMap" "threshold" "I" (.int (12 : Int32)) ∧ Fld Z h m1 "java/util/HashMap" "size" "I" (.int (1 : Int32)) ∧ Fld Z h m1 "java/util/HashMap" "modCount" "I" (.int (1 : Int32)) ∧ Arv Z h t kt (.object "java/util/HashMap$Node") (16 : Int32) ((List.replicate 16 Value.null).set i (.ref n)) .null ∧ Ovr Z kt "java/util/HashMap$Node" ∧ Exa Z h n "java/util/HashMap$Node" ∧ Fld Z h n "java/util/HashMap$Node" "hash" "I" (.int b) ∧ Fld Z h n "java/util/HashMap$Node" "key" "Ljava/lang/Object;" (.ref y) ∧ Fld Z h n "java/util/HashMap$Node" "value" "Ljava/lang/Object;" (.ref x) ∧ Exa Z h y "java/lang/String" ∧ Fld Z h y "java/lang/String" "value" "[B" (.ref v1) ∧ Fld Z h y "java/lang/String" "coder" "B" (.int (0 : Int32)) ∧ Arv Z h v1 kb .byte (1 : Int32) [(.int b)] (.int (0 : Int32)) ∧ t ≠ n ∧ t ≠ y ∧ t ≠ v1
theorem d16_0 : decode prog_49_method_5_code 0 = .ok (.aload_n 0, 1) := by decide +kernel
theorem d16_1 : decode prog_49_method_5_code 1 = .ok (.getfield 16, 3) := by decide +kernel
theorem d16_4 : decode prog_49_method_5_code 4 = .ok (.aload_n 1, 1) := by decide +kernel
theorem d16_5 : decode prog_49_method_5_code 5 = .ok (.invokestatic 75, 3) := by decide +kernel
theorem pd__28_5bB_29Ljava_2flang_2fString_3b : parseMethodDescriptor "([B)Ljava/lang/String;" = some ⟨[(.array .byte)], some (.object "java/lang/String")⟩ := by decide +kernel
theorem d16_8 : decode prog_49_method_5_code 8 = .ok (.aload_n 2, 1) := by decide +kernel
theorem d16_9 : decode prog_49_method_5_code 9 = .ok (.invokestatic 79, 3) := by decide +kernel
theorem pd__28Ljava_2futil_2fList_3b_29Lcom_2fexample_2fonesnap_2fonesnap_2fnode_2fStatementKind_3b : parseMethodDescriptor "(Ljava/util/List;)Lcom/example/onesnap/onesnap/node/StatementKind;" = some ⟨[(.object "java/util/List")], some (.object "com/example/onesnap/onesnap/node/StatementKind")⟩ := by decide +kernel
theorem d16_12 : decode prog_49_method_5_code 12 = .ok (.invokeinterface 83 3, 5) := by decide +kernel
theorem pd__28Ljava_2flang_2fObject_3bLjava_2flang_2fObject_3b_29Ljava_2flang_2fObject_3b : parseMethodDescriptor "(Ljava/lang/Object;Ljava/lang/Object;)Ljava/lang/Object;" = some ⟨[(.object "java/lang/Object"), (.object "java/lang/Object")], some (.object "java/lang/Object")⟩ := by decide +kernel
theorem d16_17 : decode prog_49_method_5_code 17 = .ok (.pop, 1) := by decide +kernel
theorem d16_18 : decode prog_49_method_5_code 18 = .ok (.return_, 1) := by decide +kernel
theorem ef_16_f (m : MethodId) (r0 : Addr) (r1 : Addr) (r2 : Addr) : entryFrame m #[(.ref r0), (.ref r1), (.ref r2)] 3 = mkF m 0 #[.val (.ref r0), .val (.ref r1), .val (.ref r2)] [] := by first | (simp [entryFrame, mkF, argsToLocals, Value.category]; done) | rfl
set_option maxRecDepth 65536 in
set_option maxHeartbeats 40000000 in
theorem rm16_f (l : Launch) (Z : State) (a0 : Array Value) (hw : ∀ d ∈ tables_1, d.before a0 Z = true) (ws : List Jvm.Cond) (r0 : Addr) (r1 : Addr) (r2 : Addr) (m1 : Addr) (kb : ClassId) (b : Int32) (iso : Addr) (utf : Addr) (cs : Int32) (da : Addr) (ka : ClassId) (x : Addr) (i : Nat) (h0 : Heap) (n0 : Nat) (Z0 : n0 ≤ h0.size) (Hp0 : Fld Z h0 r0 "com/example/onesnap/onesnap/node/TransactionTracker" "statements" "Ljava/util/Map;" (.ref m1)) (Hp1 : Exa Z h0 m1 "java/util/HashMap") (Hp2 : Fld Z h0 m1 "java/util/HashMap" "table" "[Ljava/util/HashMap$Node;" .null) (Hp3 : Fld Z h0 m1 "java/util/HashMap" "threshold" "I" (.int (0 : Int32))) (Hp4 : Fld Z h0 m1 "java/util/HashMap" "size" "I" (.int (0 : Int32))) (Hp5 : Fld Z h0 m1 "java/util/HashMap" "modCount" "I" (.int (0 : Int32))) (Hp6 : Arv Z h0 r1 kb .byte (1 : Int32) [(.int b)] (.int (0 : Int32))) (Hp7 : Exa Z h0 r1 "[B") (Hp8 : Old Z n0 h0) (Hp9 : Sta Z Z.heap "sun/nio/cs/UTF_8" "INSTANCE" "Lsun/nio/cs/UTF_8;" (.ref utf)) (Hp10 : Sta Z Z.heap "sun/nio/cs/ISO_8859_1" "INSTANCE" "Lsun/nio/cs/ISO_8859_1;" (.ref iso)) (Hp11 : Sta Z Z.heap "java/lang/String" "COMPACT_STRINGS" "Z" (.int cs)) (hcs : ¬ cs = (0 : Int32)) (hne : ¬ iso = utf) (Hp14 : Sta Z Z.heap "java/nio/charset/StandardCharsets" "ISO_8859_1" "Ljava/nio/charset/Charset;" (.ref iso)) (Eiso : Exa Z Z.heap iso "sun/nio/cs/ISO_8859_1") (hgd : Gd b) (hix : Ix b i) (Hp18 : Exa Z h0 r2 "java/util/ArrayList") (Hp19 : Fld Z h0 r2 "java/util/ArrayList" "size" "I" (.int (1 : Int32))) (Hp20 : Fld Z h0 r2 "java/util/ArrayList" "elementData" "[Ljava/lang/Object;" (.ref da)) (Hp21 : Arv Z h0 da ka (.object "java/lang/Object") (10 : Int32) ((List.replicate 10 Value.null).set 0 (.ref x)) .null) (Hp22 : Exa Z h0 x "com/example/onesnap/onesnap/node/StatementKind") (Hp23 : n0 ≤ m1) (Hp24 : r0 ≠ m1) (Hp25 : r1 ≠ m1) (Hp26 : r2 ≠ m1) (Hp27 : da ≠ m1) :
    MetFree l (⟨"com/example/onesnap/onesnap/node/TransactionTracker", "parsed", "([BLjava/util/List;)V"⟩ : MethodName) (head1 (Jvm.Cond.code (⟨"com/example/onesnap/onesnap/node/TransactionTracker", "parsed", "([BLjava/util/List;)V"⟩ : MethodName) prog_49_method_5_code 3 none :: ws) ({ frames := 5, cells := 4, slots := 25, locals := 85 } : Room)) (fun a U => a = #[(.ref r0), (.ref r1), (.ref r2)] ∧ Z.Warmed39 U.vm ∧ U.heap = h0) (fun _ _ _ _ _ => True) (fun _ U o U' => ∃ v L, o = .returned v ∧ Q16_f Z r0 r1 r2 m1 kb b iso utf cs da ka x i h0 n0 v U'.heap L ∧ FrameEnd U o U' L ({ frames := 5, cells := 4, slots := 25, locals := 85 } : Room).cells ({ frames := 5, cells := 4, slots := 25, locals := 85 } : Room).slots) := by
  refine MetFree.of_bodySF (plainFor_of_name pn_com_example_onesnap_onesnap_node_TransactionTracker) hisR ?_
  intro p e s m args below meth c s₁ Bd hml0 hP hK
  obtain ⟨rfl, hZ, hh⟩ := hP
  have hx := Bd.exec
  have hby := Bd.bytes
  have hml : c.maxLocals = 3 := hml0
  have hown : s.vm.findClass "com/example/onesnap/onesnap/node/TransactionTracker" = some m.cls := findClass_of_methodNamed Bd.named
  have hnm := (name_of_methodNamed Bd.named Bd.method).1
  have X0 : Stand p l e ({ frames := 5, cells := 4, slots := 25, locals := 85 } : Room) s m #[(.ref r0), (.ref r1), (.ref r2)] below meth c s₁ [] 0 0 := Stand.of_body Bd
  have e0 : s₁.heap = h0 := by rw [← hh, Bd.state]; rfl
  have N0 := Fr.nil n0
  have pre0 : ∀ t, Steps p.tables e below (s₁.setTop (mkF m 0 (l_10 r0 r1 r2) [])) t → Steps p.tables e below (s₁.setTop (entryFrame m #[(.ref r0), (.ref r1), (.ref r2)] 3)) t := fun t k => castTop (ef_16_f m r0 r1 r2) k
  obtain ⟨T1, X1, e1, st1⟩ := getF X0 hx hZ hown (host := "") (Or.inl (hw _ (tm 96 rfl))) Via.refl e0 Hp0 (g := (mkF m 1 (l_10 r0 r1 r2) [(.ref r0)])) rfl rfl (hb hby d16_1)
  obtain ⟨_, _, ⟨T2, L2, k2, n2⟩, -, X2, ⟨Lc2, hQ2, l2, y2, z2⟩, st2⟩ := Jvm.LawKit.callS X1 hx (y := (⟨"com/example/onesnap/onesnap/node/TransactionTracker", "name", "([B)Ljava/lang/String;"⟩ : MethodName)) hown (mvT hZ (hw _ (tm 112 rfl))) (mvT hZ (hw _ (tm 113 rfl))) (mvT hZ (hw _ (tm 73 rfl))) (mvT hZ (hw _ (tm 114 rfl))) (by decide) (backOf (W := 1) (rm17 l Z a0 hw [] r1 (kb) (b) (iso) (utf) (cs) h0 n0 Z0 Hp6 Hp7 Hp8 Hp9 Hp10 Hp11 hcs hne Hp14 Eiso) hZ (hw _ (tm 114 rfl)) (hw _ (tm 73 rfl)) (by decide) (by decide)) (g := (mkF m 5 (l_10 r0 r1 r2) [(.ref r1), (.ref m1)])) rfl (by rw [hml]; rfl) (argsL := [(.ref r1)]) (rest := [(.ref m1)]) (lenOf pd__28_5bB_29Ljava_2flang_2fString_3b rfl) rfl (by show 2 * 0 + _ ≤ _; exact Nat.le_of_eq rfl) (hb hby d16_5) (fun _ _ => ⟨rfl, e1, (by decide : 0 + 2 ≤ _), (by decide : 0 + 5 ≤ _)⟩)
  dsimp only [Pt.U, Pt.locs, Pt.cells, Pt.slots] at X2 l2 y2 z2 st2 hQ2
  subst l2 y2 z2
  obtain ⟨b2_y, b2_v1, rfl, N2q, K2, Sz2_y, Sz2_v1, Pc2_0, Pc2_1, Pc2_2, Pc2_3, Pc2_4, Pc2_5, Pc2_6⟩ := hQ2
  have N2 := Fr.app N0 N2q
  have g_b2_y : n0 ≤ b2_y := Nat.le_trans Z0 Sz2_y
  have sz_b2_y : h0.size ≤ b2_y := Nat.le_trans (Keep.refl h0 [m1]).1 Sz2_y
  have ne_da_b2_y : da ≠ b2_y := Nat.ne_of_lt (Nat.lt_of_lt_of_le Hp21.lt Sz2_y)
  have ne_m1_b2_y : m1 ≠ b2_y := Nat.ne_of_lt (Nat.lt_of_lt_of_le Hp1.lt Sz2_y)
  have ne_r0_b2_y : r0 ≠ b2_y := Nat.ne_of_lt (Nat.lt_of_lt_of_le Hp0.lt Sz2_y)
  have ne_r1_b2_y : r1 ≠ b2_y := Nat.ne_of_lt (Nat.lt_of_lt_of_le Hp6.lt Sz2_y)
  have ne_r2_b2_y : r2 ≠ b2_y := Nat.ne_of_lt (Nat.lt_of_lt_of_le Hp18.lt Sz2_y)
  have ne_x_b2_y : x ≠ b2_y := Nat.ne_of_lt (Nat.lt_of_lt_of_le Hp22.lt Sz2_y)
  have g_b2_v1 : n0 ≤ b2_v1 := Nat.le_trans Z0 Sz2_v1
  have sz_b2_v1 : h0.size ≤ b2_v1 := Nat.le_trans (Keep.refl h0 [m1]).1 Sz2_v1
  have ne_da_b2_v1 : da ≠ b2_v1 := Nat.ne_of_lt (Nat.lt_of_lt_of_le Hp21.lt Sz2_v1)
  have ne_m1_b2_v1 : m1 ≠ b2_v1 := Nat.ne_of_lt (Nat.lt_of_lt_of_le Hp1.lt Sz2_v1)
  have ne_r0_b2_v1 : r0 ≠ b2_v1 := Nat.ne_of_lt (Nat.lt_of_lt_of_le Hp0.lt Sz2_v1)
  have ne_r1_b2_v1 : r1 ≠ b2_v1 := Nat.ne_of_lt (Nat.lt_of_lt_of_le Hp6.lt Sz2_v1)
  have ne_r2_b2_v1 : r2 ≠ b2_v1 := Nat.ne_of_lt (Nat.lt_of_lt_of_le Hp18.lt Sz2_v1)
  have ne_x_b2_v1 : x ≠ b2_v1 := Nat.ne_of_lt (Nat.lt_of_lt_of_le Hp22.lt Sz2_v1)
  have Av4 := (Hp21.keep K2 nin0)
  have Ex5 := (Hp1.keep K2)
  have Fd6 := (Hp0.keep K2 nin0)
  have Av7 := (Hp6.keep K2 nin0)
  have Ex8 := (Hp18.keep K2)
  have Ex9 := (Hp22.keep K2)
  have Zz10 := (Nat.le_trans Z0 K2.1)
  have Kp11 := ((Keep.refl h0 [m1]).trans K2 all0)
  have Fd12 := (Hp19.keep K2 nin0)
  have Fd13 := (Hp20.keep K2 nin0)
  obtain ⟨_, _, ⟨T3, L3, k3, n3⟩, -, X3, ⟨Lc3, hQ3, l3, y3, z3⟩, st3⟩ := Jvm.LawKit.callS X2 hx (y := (⟨"com/example/onesnap/onesnap/node/TransactionTracker", "parsedKind", "(Ljava/util/List;)Lcom/example/onesnap/onesnap/node/StatementKind;"⟩ : MethodName)) hown (mvT hZ (hw _ (tm 156 rfl))) (mvT hZ (hw _ (tm 157 rfl))) (mvT hZ (hw _ (tm 73 rfl))) (mvT hZ (hw _ (tm 158 rfl))) (by decide) (backOf (W := 2) (rm22 l Z a0 hw [] r2 (da) (ka) (x) T2.heap n0 Zz10 Ex8 Fd12 Fd13 Av4 Ex9) hZ (hw _ (tm 158 rfl)) (hw _ (tm 73 rfl)) (by decide) (by decide)) (g := (mkF m 9 (l_10 r0 r1 r2) [(.ref r2), (.ref b2_y), (.ref m1)])) rfl (by rw [hml]; rfl) (argsL := [(.ref r2)]) (rest := [(.ref b2_y), (.ref m1)]) (lenOf pd__28Ljava_2futil_2fList_3b_29Lcom_2fexample_2fonesnap_2fonesnap_2fnode_2fStatementKind_3b rfl) rfl (by show 2 * 0 + _ ≤ _; exact Nat.le_of_eq rfl) (hb hby d16_9) (fun _ _ => ⟨rfl, rfl, (by decide : 2 + 0 ≤ _), (by decide : 5 + 0 ≤ _)⟩)
  dsimp only [Pt.U, Pt.locs, Pt.cells, Pt.slots] at X3 l3 y3 z3 st3 hQ3
  subst l3 y3 z3
  obtain ⟨rfl, N3q, e3⟩ := hQ3
  have N3 := Fr.app N2 N3q
  have Fd15 := (Hp2.keep K2 nin0)
  have Fd16 := (Hp3.keep K2 nin0)
  have Fd17 := (Hp4.keep K2 nin0)
  have Fd18 := (Hp5.keep K2 nin0)
  have Od19 := (Hp8.keep K2 all0)
  obtain ⟨cq14, kq14, q14a, q14b, q14c⟩ := isOf hZ e3 Ex5
  obtain ⟨_, _, ⟨T14, L14, k14, n14⟩, -, X14, ⟨Lc14, hQ14, l14, y14, z14⟩, st14⟩ := X3.interfaceBack hx (xi := (⟨"java/util/Map", "put", "(Ljava/lang/Object;Ljava/lang/Object;)Ljava/lang/Object;"⟩ : MethodName)) (y := (⟨"java/util/HashMap", "put", "(Ljava/lang/Object;Ljava/lang/Object;)Ljava/lang/Object;"⟩ : MethodName)) hown (mvT hZ (hw _ (tm 190 rfl))) (mvT hZ (hw _ (tm 191 rfl))) (mvT hZ (hw _ (tm 192 rfl))) (mvT hZ (hw _ (tm 193 rfl))) (mvT hZ (hw _ (tm 194 rfl))) (mvT hZ (hw _ (tm 195 rfl))) (mvT hZ (hw _ (tm 196 rfl))) (mvT hZ (hw _ (tm 197 rfl))) (by decide) (backOf (W := 0) (rm28_f l Z a0 hw [] m1 b2_y x (b2_v1) (kb) (b) (cs) (i) T2.heap n0 Zz10 Ex5 Fd15 Fd16 Fd17 Fd18 Pc2_0 Pc2_1 Pc2_2 Pc2_3 Pc2_4 Pc2_5 hgd Od19 Hp11 hcs hix Hp23 (Ne.symm ne_m1_b2_y) (Ne.symm ne_m1_b2_v1) g_b2_y (Ne.symm Pc2_6)) hZ (hw _ (tm 198 rfl)) (hw _ (tm 82 rfl)) (by decide) (by decide)) q14a q14b q14c (g := (mkF m 12 (l_10 r0 r1 r2) [(.ref x), (.ref b2_y), (.ref m1)])) rfl (by rw [hml]; rfl) (Steps.refl _) (argsL := [(.ref b2_y), (.ref x)]) (rest := []) (lenOf pd__28Ljava_2flang_2fObject_3bLjava_2flang_2fObject_3b_29Ljava_2flang_2fObject_3b rfl) rfl (by show 2 * 0 + _ ≤ _; exact Nat.le_of_eq rfl) (hb hby d16_12) (fun _ _ => ⟨rfl, e3, (by decide : 2 + 2 ≤ _), (by decide : 5 + 20 ≤ _)⟩)
  dsimp only [Pt.U, Pt.locs, Pt.cells, Pt.slots] at X14 l14 y14 z14 st14 hQ14
  subst l14 y14 z14
  obtain ⟨b14_t, b14_kt, b14_n, rfl, N14q, K14, Sz14_t, Sz14_n, Pc14_0, Pc14_1, Pc14_2, Pc14_3, Pc14_4, Pc14_5, Pc14_6, Pc14_7, Pc14_8, Pc14_9, Pc14_10, Pc14_11, Pc14_12, Pc14_13, Pc14_14⟩ := hQ14
  have N14 := Fr.app N3 N14q
  have g_b14_t : n0 ≤ b14_t := Nat.le_trans Zz10 Sz14_t
  have sz_b14_t : h0.size ≤ b14_t := Nat.le_trans Kp11.1 Sz14_t
  have ne_b2_v1_b14_t : b2_v1 ≠ b14_t := Nat.ne_of_lt (Nat.lt_of_lt_of_le Pc2_5.lt Sz14_t)
  have ne_b2_y_b14_t : b2_y ≠ b14_t := Nat.ne_of_lt (Nat.lt_of_lt_of_le Pc2_0.lt Sz14_t)
  have ne_da_b14_t : da ≠ b14_t := Nat.ne_of_lt (Nat.lt_of_lt_of_le Av4.lt Sz14_t)
  have ne_m1_b14_t : m1 ≠ b14_t := Nat.ne_of_lt (Nat.lt_of_lt_of_le Ex5.lt Sz14_t)
  have ne_r0_b14_t : r0 ≠ b14_t := Nat.ne_of_lt (Nat.lt_of_lt_of_le Fd6.lt Sz14_t)
  have ne_r1_b14_t : r1 ≠ b14_t := Nat.ne_of_lt (Nat.lt_of_lt_of_le Av7.lt Sz14_t)
  have ne_r2_b14_t : r2 ≠ b14_t := Nat.ne_of_lt (Nat.lt_of_lt_of_le Ex8.lt Sz14_t)
  have ne_x_b14_t : x ≠ b14_t := Nat.ne_of_lt (Nat.lt_of_lt_of_le Ex9.lt Sz14_t)
  have g_b14_n : n0 ≤ b14_n := Nat.le_trans Zz10 Sz14_n
  have sz_b14_n : h0.size ≤ b14_n := Nat.le_trans Kp11.1 Sz14_n
  have ne_b2_v1_b14_n : b2_v1 ≠ b14_n := Nat.ne_of_lt (Nat.lt_of_lt_of_le Pc2_5.lt Sz14_n)
  have ne_b2_y_b14_n : b2_y ≠ b14_n := Nat.ne_of_lt (Nat.lt_of_lt_of_le Pc2_0.lt Sz14_n)
  have ne_da_b14_n : da ≠ b14_n := Nat.ne_of_lt (Nat.lt_of_lt_of_le Av4.lt Sz14_n)
  have ne_m1_b14_n : m1 ≠ b14_n := Nat.ne_of_lt (Nat.lt_of_lt_of_le Ex5.lt Sz14_n)
  have ne_r0_b14_n : r0 ≠ b14_n := Nat.ne_of_lt (Nat.lt_of_lt_of_le Fd6.lt Sz14_n)
  have ne_r1_b14_n : r1 ≠ b14_n := Nat.ne_of_lt (Nat.lt_of_lt_of_le Av7.lt Sz14_n)
  have ne_r2_b14_n : r2 ≠ b14_n := Nat.ne_of_lt (Nat.lt_of_lt_of_le Ex8.lt Sz14_n)
  have ne_x_b14_n : x ≠ b14_n := Nat.ne_of_lt (Nat.lt_of_lt_of_le Ex9.lt Sz14_n)
  have Av20 := (Pc2_5.keep K14 (ninS (Ne.symm ne_m1_b2_v1) (ninS (Ne.symm Pc2_6) nin0)))
  have Kp21 := (Kp11.trans K14 (allS (Or.inl (tm 0 rfl)) (allS (Or.inr sz_b2_y) all0)))
  obtain ⟨fs, hr, hrun, hended, hW, hsame⟩ := X14.leave (v := none) (fun _ => rfl)
  refine ⟨_, _, pre0 _ ?_, hrun, hended, _, _, rfl, ?_, ⟨_, rfl⟩, hW, hsame.mono (by decide) (by decide)⟩
  · show Steps _ _ _ (s₁.setTop (mkF m 0 (l_10 r0 r1 r2) [])) _
    refine XS.aloadN X0.here hx rfl (hb hby d16_0) rfl rfl ?_
    show Steps _ _ _ (s₁.setTop (mkF m 1 (l_10 r0 r1 r2) [(.ref r0)])) _
    refine st1 _ ?_
    show Steps _ _ _ (T1.setTop (mkF m 4 (l_10 r0 r1 r2) [(.ref m1)])) _
    refine XS.aloadN X1.here hx rfl (hb hby d16_4) rfl rfl ?_
    show Steps _ _ _ (T1.setTop (mkF m 5 (l_10 r0 r1 r2) [(.ref r1), (.ref m1)])) _
    refine st2 _ ?_
    show Steps _ _ _ (T2.setTop (mkF m 8 (l_10 r0 r1 r2) [(.ref b2_y), (.ref m1)])) _
    refine XS.aloadN X2.here hx rfl (hb hby d16_8) rfl rfl ?_
    show Steps _ _ _ (T2.setTop (mkF m 9 (l_10 r0 r1 r2) [(.ref r2), (.ref b2_y), (.ref m1)])) _
    refine st3 _ ?_
    show Steps _ _ _ (T3.setTop (mkF m 12 (l_10 r0 r1 r2) [(.ref x), (.ref b2_y), (.ref m1)])) _
    refine st14.trans ?_
    show Steps _ _ _ (T14.setTop (mkF m 17 (l_10 r0 r1 r2) [.null])) _
    refine XS.pop X14.here hx rfl (hb hby d16_17) rfl rfl ?_
    show Steps _ _ _ (T14.setTop (mkF m 18 (l_10 r0 r1 r2) [])) _
    exact X14.returnOut hx Bd.returns (hb hby d16_18) hr
  · show Q16_f Z r0 r1 r2 m1 kb b iso utf cs da ka x i h0 n0 _ T14.heap _
    exact ⟨b14_t, b14_kt, b14_n, b2_y, b2_v1, rfl, N14, Kp21, sz_b14_t, sz_b14_n, sz_b2_y, sz_b2_v1, Pc14_0, Pc14_1, Pc14_2, Pc14_3, Pc14_4, Pc14_5, Pc14_6, Pc14_7, Pc14_8, Pc14_9, Pc14_10, Pc14_11, Pc14_12, Pc14_13, Av20, Pc14_14, (Ne.symm ne_b2_y_b14_t), (Ne.symm ne_b2_v1_b14_t)⟩
def Q16_s (Z : State) (r0 : Addr) (r1 : Addr) (r2 : Addr) (m1 : Addr) (kb : ClassId) (b : Int32) (iso : Addr) (utf : Addr) (cs : Int32) (da : Addr) (ka : ClassId) (x : Addr) (i : Nat) (t : Addr) (kt : ClassId) (vs : List Value) (h0 : Heap) (n0 : Nat) (v : Option Value) (h : Heap) (L : List Loc) : Prop := ∃ n : Addr, ∃ y : Addr, ∃ v1 : Addr, v = none ∧ Fr n0 L ∧ Keep h0 h [m1, t] ∧ h0.size ≤ n ∧ h0.size ≤ y ∧ h0.size ≤ v1 ∧ Exa Z h m1 "java/util/HashMap" ∧ Fld Z h m1 "java/util/HashMap" "table" "[Ljava/util/HashMap$Node;" (.ref t) ∧ Fld Z h m1 "java/util/HashMap" "threshold" "I" (.int (12 : Int32)) ∧ Fld Z h m1 "java/util/HashMap" "size" "I" (.int (2 : Int32)) ∧ Fld Z h m1 "java/util/HashMap" "modCount" "I" (.int (2 : Int32)) ∧ Arv Z h t kt (.object "java/util/HashMap$Node") (16 : Int32) (vs.set i (.ref n)) .null ∧ Exa Z h n "java/util/HashMap$Node" ∧ Fld Z h n "java/util/HashMap$Node" "hash" "I" (.int b) ∧ Fld Z h n "java/util/HashMap$Node" "key" "Ljava/lang/Object;" (.ref y) ∧ Fld Z h n "java/util/HashMap$Node" "value" "Ljava/lang/Object;" (.ref x) ∧ Exa Z h y "java/lang/String" ∧ Fld Z h y "java/lang/String" "value" "[B" (.ref v1) ∧ Fld Z h y "java/lang/String" "coder" "B" (.int (0 : Int32)) ∧ Arv Z h v1 kb .byte (1 : Int32) [(.int b)] (.int (0 : Int32))
theorem ef_16_s (m : MethodId) (r0 : Addr) (r1 : Addr) (r2 : Addr) : entryFrame m #[(.ref r0), (.ref r1), (.ref r2)] 3 = mkF m 0 #[.val (.ref r0), .val (.ref r1), .val (.ref r2)] [] := by first | (simp [entryFrame, mkF, argsToLocals, Value.category]; done) | rfl
set_option maxRecDepth 65536 in
set_option maxHeartbeats 40000000 in
theorem rm16_s (l : Launch) (Z : State) (a0 : Array Value) (hw : ∀ d ∈ tables_1, d.before a0 Z = true) (ws : List Jvm.Cond) (r0 : Addr) (r1 : Addr) (r2 : Addr) (m1 : Addr) (kb : ClassId) (b : Int32) (iso : Addr) (utf : Addr) (cs : Int32) (da : Addr) (ka : ClassId) (x : Addr) (i : Nat) (t : Addr) (kt : ClassId) (vs : List Value) (h0 : Heap) (n0 : Nat) (Z0 : n0 ≤ h0.size) (Hp0 : Fld Z h0 r0 "com/example/onesnap/onesnap/node/TransactionTracker" "statements" "Ljava/util/Map;" (.ref m1)) (Hp1 : Exa Z h0 m1 "java/util/HashMap") (Hp2 : Fld Z h0 m1 "java/util/HashMap" "table" "[Ljava/util/HashMap$Node;" (.ref t)) (Hp3 : Fld Z h0 m1 "java/util/HashMap" "threshold" "I" (.int (12 : Int32))) (Hp4 : Fld Z h0 m1 "java/util/HashMap" "size" "I" (.int (1 : Int32))) (Hp5 : Fld Z h0 m1 "java/util/HashMap" "modCount" "I" (.int (1 : Int32))) (Hp6 : Arv Z h0 t kt (.object "java/util/HashMap$Node") (16 : Int32) vs .null) (Hp7 : Ovr Z kt "java/util/HashMap$Node") (Hp8 : Arv Z h0 r1 kb .byte (1 : Int32) [(.int b)] (.int (0 : Int32))) (Hp9 : Exa Z h0 r1 "[B") (Hp10 : Old Z n0 h0) (Hp11 : Sta Z Z.heap "sun/nio/cs/UTF_8" "INSTANCE" "Lsun/nio/cs/UTF_8;" (.ref utf)) (Hp12 : Sta Z Z.heap "sun/nio/cs/ISO_8859_1" "INSTANCE" "Lsun/nio/cs/ISO_8859_1;" (.ref iso)) (Hp13 : Sta Z Z.heap "java/lang/String" "COMPACT_STRINGS" "Z" (.int cs)) (hcs : ¬ cs = (0 : Int32)) (hne : ¬ iso = utf) (Hp16 : Sta Z Z.heap "java/nio/charset/StandardCharsets" "ISO_8859_1" "Ljava/nio/charset/Charset;" (.ref iso)) (Eiso : Exa Z Z.heap iso "sun/nio/cs/ISO_8859_1") (hgd : Gd b) (hix : Ix b i) (hfree : vs.getD i Value.null = Value.null) (hlen : vs.length = 16) (Hp22 : Exa Z h0 r2 "java/util/ArrayList") (Hp23 : Fld Z h0 r2 "java/util/ArrayList" "size" "I" (.int (1 : Int32))) (Hp24 : Fld Z h0 r2 "java/util/ArrayList" "elementData" "[Ljava/lang/Object;" (.ref da)) (Hp25 : Arv Z h0 da ka (.object "java/lang/Object") (10 : Int32) ((List.replicate 10 Value.null).set 0 (.ref x)) .null) (Hp26 : Exa Z h0 x "com/example/onesnap/onesnap/node/StatementKind") (Hp27 : n0 ≤ m1) (Hp28 : r0 ≠ m1) (Hp29 : t ≠ m1) (Hp30 : r1 ≠ m1) (Hp31 : r2 ≠ m1) (Hp32 : da ≠ m1) (Hp33 : n0 ≤ t) (Hp34 : r0 ≠ t) (Hp35 : r1 ≠ t) (Hp36 : r2 ≠ t) (Hp37 : da ≠ t) :
    MetFree l (⟨"com/example/onesnap/onesnap/node/TransactionTracker", "parsed", "([BLjava/util/List;)V"⟩ : MethodName) (head1 (Jvm.Cond.code (⟨"com/example/onesnap/onesnap/node/TransactionTracker", "parsed", "([BLjava/util/List;)V"⟩ : MethodName) prog_49_method_5_code 3 none :: ws) ({ frames := 5, cells := 3, slots := 9, locals := 85 } : Room)) (fun a U => a = #[(.ref r0), (.ref r1), (.ref r2)] ∧ Z.Warmed39 U.vm ∧ U.heap = h0) (fun _ _ _ _ _ => True) (fun _ U o U' => ∃ v L, o = .returned v ∧ Q16_s Z r0 r1 r2 m1 kb b iso utf cs da ka x i t kt vs h0 n0 v U'.heap L ∧ FrameEnd U o U' L ({ frames := 5, cells := 3, slots := 9, locals := 85 } : Room).cells ({ frames := 5, cells := 3, slots := 9, locals := 85 } : Room).slots) := by
  refine MetFree.of_bodySF (plainFor_of_name pn_com_example_onesnap_onesnap_node_TransactionTracker) hisR ?_
  intro p e s m args below meth c s₁ Bd hml0 hP hK
  obtain ⟨rfl, hZ, hh⟩ := hP
  have hx := Bd.exec
  have hby := Bd.bytes
  have hml : c.maxLocals = 3 := hml0
  have hown : s.vm.findClass "com/example/onesnap/onesnap/node/TransactionTracker" = some m.cls := findClass_of_methodNamed Bd.named
  have hnm := (name_of_methodNamed Bd.named Bd.method).1
  have X0 : Stand p l e ({ frames := 5, cells := 3, slots := 9, locals := 85 } : Room) s m #[(.ref r0), (.ref r1), (.ref r2)] below meth c s₁ [] 0 0 := Stand.of_body Bd
  have e0 : s₁.heap = h0 := by rw [← hh, Bd.state]; rfl
  have N0 := Fr.nil n0
  have pre0 : ∀ t, Steps p.tables e below (s₁.setTop (mkF m 0 (l_10 r0 r1 r2) [])) t → Steps p.tables e below (s₁.setTop (entryFrame m #[(.ref r0), (.ref r1), (.ref r2)] 3)) t := fun t k => castTop (ef_16_s m r0 r1 r2) k
  obtain ⟨T1, X1, e1, st1⟩ := getF X0 hx hZ hown (host := "") (Or.inl (hw _ (tm 96 rfl))) Via.refl e0 Hp0 (g := (mkF m 1 (l_10 r0 r1 r2) [(.ref r0)])) rfl rfl (hb hby d16_1)
  obtain ⟨_, _, ⟨T2, L2, k2, n2⟩, -, X2, ⟨Lc2, hQ2, l2, y2, z2⟩, st2⟩ := Jvm.LawKit.callS X1 hx (y := (⟨"com/example/onesnap/onesnap/node/TransactionTracker", "name", "([B)Ljava/lang/String;"⟩ : MethodName)) hown (mvT hZ (hw _ (tm 112 rfl))) (mvT hZ (hw _ (tm 113 rfl))) (mvT hZ (hw _ (tm 73 rfl))) (mvT hZ (hw _ (tm 114 rfl))) (by decide) (backOf (W := 1) (rm17 l Z a0 hw [] r1 (kb) (b) (iso) (utf) (cs) h0 n0 Z0 Hp8 Hp9 Hp10 Hp11 Hp12 Hp13 hcs hne Hp16 Eiso) hZ (hw _ (tm 114 rfl)) (hw _ (tm 73 rfl)) (by decide) (by decide)) (g := (mkF m 5 (l_10 r0 r1 r2) [(.ref r1), (.ref m1)])) rfl (by rw [hml]; rfl) (argsL := [(.ref r1)]) (rest := [(.ref m1)]) (lenOf pd__28_5bB_29Ljava_2flang_2fString_3b rfl) rfl (by show 2 * 0 + _ ≤ _; exact Nat.le_of_eq rfl) (hb hby d16_5) (fun _ _ => ⟨rfl, e1, (by decide : 0 + 2 ≤ _), (by decide : 0 + 5 ≤ _)⟩)
  dsimp only [Pt.U, Pt.locs, Pt.cells, Pt.slots] at X2 l2 y2 z2 st2 hQ2
  subst l2 y2 z2
  obtain ⟨b2_y, b2_v1, rfl, N2q, K2, Sz2_y, Sz2_v1, Pc2_0, Pc2_1, Pc2_2, Pc2_3, Pc2_4, Pc2_5, Pc2_6⟩ := hQ2
  have N2 := Fr.app N0 N2q
  have g_b2_y : n0 ≤ b2_y := Nat.le_trans Z0 Sz2_y
  have sz_b2_y : h0.size ≤ b2_y := Nat.le_trans (Keep.refl h0 [m1, t]).1 Sz2_y
  have ne_da_b2_y : da ≠ b2_y := Nat.ne_of_lt (Nat.lt_of_lt_of_le Hp25.lt Sz2_y)
  have ne_m1_b2_y : m1 ≠ b2_y := Nat.ne_of_lt (Nat.lt_of_lt_of_le Hp1.lt Sz2_y)
  have ne_r0_b2_y : r0 ≠ b2_y := Nat.ne_of_lt (Nat.lt_of_lt_of_le Hp0.lt Sz2_y)
  have ne_r1_b2_y : r1 ≠ b2_y := Nat.ne_of_lt (Nat.lt_of_lt_of_le Hp8.lt Sz2_y)
  have ne_r2_b2_y : r2 ≠ b2_y := Nat.ne_of_lt (Nat.lt_of_lt_of_le Hp22.lt Sz2_y)
  have ne_t_b2_y : t ≠ b2_y := Nat.ne_of_lt (Nat.lt_of_lt_of_le Hp6.lt Sz2_y)
  have ne_x_b2_y : x ≠ b2_y := Nat.ne_of_lt (Nat.lt_of_lt_of_le Hp26.lt Sz2_y)
  have g_b2_v1 : n0 ≤ b2_v1 := Nat.le_trans Z0 Sz2_v1
  have sz_b2_v1 : h0.size ≤ b2_v1 := Nat.le_trans (Keep.refl h0 [m1, t]).1 Sz2_v1
  have ne_da_b2_v1 : da ≠ b2_v1 := Nat.ne_of_lt (Nat.lt_of_lt_of_le Hp25.lt Sz2_v1)
  have ne_m1_b2_v1 : m1 ≠ b2_v1 := Nat.ne_of_lt (Nat.lt_of_lt_of_le Hp1.lt Sz2_v1)
  have ne_r0_b2_v1 : r0 ≠ b2_v1 := Nat.ne_of_lt (Nat.lt_of_lt_of_le Hp0.lt Sz2_v1)
  have ne_r1_b2_v1 : r1 ≠ b2_v1 := Nat.ne_of_lt (Nat.lt_of_lt_of_le Hp8.lt Sz2_v1)
  have ne_r2_b2_v1 : r2 ≠ b2_v1 := Nat.ne_of_lt (Nat.lt_of_lt_of_le Hp22.lt Sz2_v1)
  have ne_t_b2_v1 : t ≠ b2_v1 := Nat.ne_of_lt (Nat.lt_of_lt_of_le Hp6.lt Sz2_v1)
  have ne_x_b2_v1 : x ≠ b2_v1 := Nat.ne_of_lt (Nat.lt_of_lt_of_le Hp26.lt Sz2_v1)
  have Av4 := (Hp25.keep K2 nin0)
  have Ex5 := (Hp1.keep K2)
  have Fd6 := (Hp0.keep K2 nin0)
  have Av7 := (Hp8.keep K2 nin0)
  have Ex8 := (Hp22.keep K2)
  have Av9 := (Hp6.keep K2 nin0)
  have Ex10 := (Hp26.keep K2)
  have Zz11 := (Nat.le_trans Z0 K2.1)
  have Kp12 := ((Keep.refl h0 [m1, t]).trans K2 all0)
  have Fd13 := (Hp23.keep K2 nin0)
  have Fd14 := (Hp24.keep K2 nin0)
  obtain ⟨_, _, ⟨T3, L3, k3, n3⟩, -, X3, ⟨Lc3, hQ3, l3, y3, z3⟩, st3⟩ := Jvm.LawKit.callS X2 hx (y := (⟨"com/example/onesnap/onesnap/node/TransactionTracker", "parsedKind", "(Ljava/util/List;)Lcom/example/onesnap/onesnap/node/StatementKind;"⟩ : MethodName)) hown (mvT hZ (hw _ (tm 156 rfl))) (mvT hZ (hw _ (tm 157 rfl))) (mvT hZ (hw _ (tm 73 rfl))) (mvT hZ (hw _ (tm 158 rfl))) (by decide) (backOf (W := 2) (rm22 l Z a0 hw [] r2 (da) (ka) (x) T2.heap n0 Zz11 Ex8 Fd13 Fd14 Av4 Ex10) hZ (hw _ (tm 158 rfl)) (hw _ (tm 73 rfl)) (by decide) (by decide)) (g := (mkF m 9 (l_10 r0 r1 r2) [(.ref r2), (.ref b2_y), (.ref m1)])) rfl (by rw [hml]; rfl) (argsL := [(.ref r2)]) (rest := [(.ref b2_y), (.ref m1)]) (lenOf pd__28Ljava_2futil_2fList_3b_29Lcom_2fexample_2fonesnap_2fonesnap_2fnode_2fStatementKind_3b rfl) rfl (by show 2 * 0 + _ ≤ _; exact Nat.le_of_eq rfl) (hb hby d16_9) (fun _ _ => ⟨rfl, rfl, (by decide : 2 + 0 ≤ _), (by decide : 5 + 0 ≤ _)⟩)
  dsimp only [Pt.U, Pt.locs, Pt.cells, Pt.slots] at X3 l3 y3 z3 st3 hQ3
  subst l3 y3 z3
  obtain ⟨rfl, N3q, e3⟩ := hQ3
  have N3 := Fr.app N2 N3q
  have Fd16 := (Hp2.keep K2 nin0)
  have Fd17 := (Hp3.keep K2 nin0)
  have Fd18 := (Hp4.keep K2 nin0)
  have Fd19 := (Hp5.keep K2 nin0)
  have Od20 := (Hp10.keep K2 all0)
  obtain ⟨cq15, kq15, q15a, q15b, q15c⟩ := isOf hZ e3 Ex5
  obtain ⟨_, _, ⟨T15, L15, k15, n15⟩, -, X15, ⟨Lc15, hQ15, l15, y15, z15⟩, st15⟩ := X3.interfaceBack hx (xi := (⟨"java/util/Map", "put", "(Ljava/lang/Object;Ljava/lang/Object;)Ljava/lang/Object;"⟩ : MethodName)) (y := (⟨"java/util/HashMap", "put", "(Ljava/lang/Object;Ljava/lang/Object;)Ljava/lang/Object;"⟩ : MethodName)) hown (mvT hZ (hw _ (tm 190 rfl))) (mvT hZ (hw _ (tm 191 rfl))) (mvT hZ (hw _ (tm 192 rfl))) (mvT hZ (hw _ (tm 193 rfl))) (mvT hZ (hw _ (tm 194 rfl))) (mvT hZ (hw _ (tm 195 rfl))) (mvT hZ (hw _ (tm 196 rfl))) (mvT hZ (hw _ (tm 197 rfl))) (by decide) (backOf (W := 0) (rm28_s l Z a0 hw [] m1 b2_y x (b2_v1) (kb) (b) (cs) (i) (t) (kt) (vs) T2.heap n0 Zz11 Ex5 Fd16 Fd17 Fd18 Fd19 Av9 Hp7 Pc2_0 Pc2_1 Pc2_2 Pc2_3 Pc2_4 Pc2_5 hgd Od20 Hp13 hcs hix hfree hlen Hp27 Hp29 (Ne.symm ne_m1_b2_y) (Ne.symm ne_m1_b2_v1) Hp33 (Ne.symm ne_t_b2_y) (Ne.symm ne_t_b2_v1) g_b2_y (Ne.symm Pc2_6)) hZ (hw _ (tm 198 rfl)) (hw _ (tm 82 rfl)) (by decide) (by decide)) q15a q15b q15c (g := (mkF m 12 (l_10 r0 r1 r2) [(.ref x), (.ref b2_y), (.ref m1)])) rfl (by rw [hml]; rfl) (Steps.refl _) (argsL := [(.ref b2_y), (.ref x)]) (rest := []) (lenOf pd__28Ljava_2flang_2fObject_3bLjava_2flang_2fObject_3b_29Ljava_2flang_2fObject_3b rfl) rfl (by show 2 * 0 + _ ≤ _; exact Nat.le_of_eq rfl) (hb hby d16_12) (fun _ _ => ⟨rfl, e3, (by decide : 2 + 1 ≤ _), (by decide : 5 + 4 ≤ _)⟩)
  dsimp only [Pt.U, Pt.locs, Pt.cells, Pt.slots] at X15 l15 y15 z15 st15 hQ15
  subst l15 y15 z15
  obtain ⟨b15_n, rfl, N15q, K15, Sz15_n, Pc15_0, Pc15_1, Pc15_2, Pc15_3, Pc15_4, Pc15_5, Pc15_6, Pc15_7, Pc15_8, Pc15_9, Pc15_10, Pc15_11, Pc15_12⟩ := hQ15
  have N15 := Fr.app N3 N15q
  have g_b15_n : n0 ≤ b15_n := Nat.le_trans Zz11 Sz15_n
  have sz_b15_n : h0.size ≤ b15_n := Nat.le_trans Kp12.1 Sz15_n
  have ne_b2_v1_b15_n : b2_v1 ≠ b15_n := Nat.ne_of_lt (Nat.lt_of_lt_of_le Pc2_5.lt Sz15_n)
  have ne_b2_y_b15_n : b2_y ≠ b15_n := Nat.ne_of_lt (Nat.lt_of_lt_of_le Pc2_0.lt Sz15_n)
  have ne_da_b15_n : da ≠ b15_n := Nat.ne_of_lt (Nat.lt_of_lt_of_le Av4.lt Sz15_n)
  have ne_m1_b15_n : m1 ≠ b15_n := Nat.ne_of_lt (Nat.lt_of_lt_of_le Ex5.lt Sz15_n)
  have ne_r0_b15_n : r0 ≠ b15_n := Nat.ne_of_lt (Nat.lt_of_lt_of_le Fd6.lt Sz15_n)
  have ne_r1_b15_n : r1 ≠ b15_n := Nat.ne_of_lt (Nat.lt_of_lt_of_le Av7.lt Sz15_n)
  have ne_r2_b15_n : r2 ≠ b15_n := Nat.ne_of_lt (Nat.lt_of_lt_of_le Ex8.lt Sz15_n)
  have ne_t_b15_n : t ≠ b15_n := Nat.ne_of_lt (Nat.lt_of_lt_of_le Av9.lt Sz15_n)
  have ne_x_b15_n : x ≠ b15_n := Nat.ne_of_lt (Nat.lt_of_lt_of_le Ex10.lt Sz15_n)
  have Av21 := (Pc2_5.keep K15 (ninS (Ne.symm ne_m1_b2_v1) (ninS (Ne.symm ne_t_b2_v1) (ninS (Ne.symm Pc2_6) nin0))))
  have Kp22 := (Kp12.trans K15 (allS (Or.inl (tm 0 rfl)) (allS (Or.inl (tm 1 rfl)) (allS (Or.inr sz_b2_y) all0))))
  obtain ⟨fs, hr, hrun, hended, hW, hsame⟩ := X15.leave (v := none) (fun _ => rfl)
  refine ⟨_, _, pre0 _ ?_, hrun, hended, _, _, rfl, ?_, ⟨_, rfl⟩, hW, hsame.mono (by decide) (by decide)⟩
  · show Steps _ _ _ (s₁.setTop (mkF m 0 (l_10 r0 r1 r2) [])) _
    refine XS.aloadN X0.here hx rfl (hb hby d16_0) rfl rfl ?_
    show Steps _ _ _ (s₁.setTop (mkF m 1 (l_10 r0 r1 r2) [(.ref r0)])) _
    refine st1 _ ?_
    show Steps _ _ _ (T1.setTop (mkF m 4 (l_10 r0 r1 r2) [(.ref m1)])) _
    refine XS.aloadN X1.here hx rfl (hb hby d16_4) rfl rfl ?_
    show Steps _ _ _ (T1.setTop (mkF m 5 (l_10 r0 r1 r2) [(.ref r1), (.ref m1)])) _
    refine st2 _ ?_
    show Steps _ _ _ (T2.setTop (mkF m 8 (l_10 r0 r1 r2) [(.ref b2_y), (.ref m1)])) _
    refine XS.aloadN X2.here hx rfl (hb hby d16_8) rfl rfl ?_
    show Steps _ _ _ (T2.setTop (mkF m 9 (l_10 r0 r1 r2) [(.ref r2), (.ref b2_y), (.ref m1)])) _
    refine st3 _ ?_
    show Steps _ _ _ (T3.setTop (mkF m 12 (l_10 r0 r1 r2) [(.ref x), (.ref b2_y), (.ref m1)])) _
    refine st15.trans ?_
    show Steps _ _ _ (T15.setTop (mkF m 17 (l_10 r0 r1 r2) [.null])) _
    refine XS.pop X15.here hx rfl (hb hby d16_17) rfl rfl ?_
    show Steps _ _ _ (T15.setTop (mkF m 18 (l_10 r0 r1 r2) [])) _
    exact X15.returnOut hx Bd.returns (hb hby d16_18) hr
  · show Q16_s Z r0 r1 r2 m1 kb b iso utf cs da ka x i t kt vs h0 n0 _ T15.heap _
    exact ⟨b15_n, b2_y, b2_v1, rfl, N15, Kp22, sz_b15_n, sz_b2_y, sz_b2_v1, Pc15_0, Pc15_1, Pc15_2, Pc15_3, Pc15_4, Pc15_5, Pc15_6, Pc15_7, Pc15_8, Pc15_9, Pc15_10, Pc15_11, Pc15_12, Av21⟩
def Q39 (Z : State) (r0 : Addr) (r1 : Addr) (m1 : Addr) (t : Addr) (kt : ClassId) (vs : List Value) (kb : ClassId) (b : Int32) (i : Nat) (n : Addr) (k : Addr) (kv : Addr) (kc : ClassId) (x : Addr) (iso : Addr) (utf : Addr) (cs : Int32) (s5 : Addr) (h0 : Heap) (n0 : Nat) (v : Option Value) (h : Heap) (L : List Loc) : Prop := v = some (.ref x) ∧ Fr n0 L ∧ Keep h0 h []
theorem d39_0 : decode prog_49_method_7_code 0 = .ok (.aload_n 0, 1) := by decide +kernel
theorem d39_1 : decode prog_49_method_7_code 1 = .ok (.getfield 16, 3) := by decide +kernel
theorem d39_4 : decode prog_49_method_7_code 4 = .ok (.aload_n 1, 1) := by decide +kernel
theorem d39_5 : decode prog_49_method_7_code 5 = .ok (.invokestatic 75, 3) := by decide +kernel
theorem d39_8 : decode prog_49_method_7_code 8 = .ok (.getstatic 69, 3) := by decide +kernel
theorem d39_11 : decode prog_49_method_7_code 11 = .ok (.invokeinterface 89 3, 5) := by decide +kernel
theorem d39_16 : decode prog_49_method_7_code 16 = .ok (.checkcast 37, 3) := by decide +kernel
theorem d39_19 : decode prog_49_method_7_code 19 = .ok (.areturn, 1) := by decide +kernel
theorem ef_39 (m : MethodId) (r0 : Addr) (r1 : Addr) : entryFrame m #[(.ref r0), (.ref r1)] 2 = mkF m 0 #[.val (.ref r0), .val (.ref r1)] [] := by first | (simp [entryFrame, mkF, argsToLocals, Value.category]; done) | rfl
set_option maxRecDepth 65536 in
set_option maxHeartbeats 40000000 in
theorem rm39 (l : Launch) (Z : State) (a0 : Array Value) (hw : ∀ d ∈ tables_1, d.before a0 Z = true) (ws : List Jvm.Cond) (r0 : Addr) (r1 : Addr) (m1 : Addr) (t : Addr) (kt : ClassId) (vs : List Value) (kb : ClassId) (b : Int32) (i : Nat) (n : Addr) (k : Addr) (kv : Addr) (kc : ClassId) (x : Addr) (iso : Addr) (utf : Addr) (cs : Int32) (s5 : Addr) (h0 : Heap) (n0 : Nat) (Z0 : n0 ≤ h0.size) (Hp0 : Fld Z h0 r0 "com/example/onesnap/onesnap/node/TransactionTracker" "statements" "Ljava/util/Map;" (.ref m1)) (Hp1 : Exa Z h0 m1 "java/util/HashMap") (Hp2 : Fld Z h0 m1 "java/util/HashMap" "table" "[Ljava/util/HashMap$Node;" (.ref t)) (Hp3 : Arv Z h0 t kt (.object "java/util/HashMap$Node") (16 : Int32) vs .null) (Hp4 : Arv Z h0 r1 kb .byte (1 : Int32) [(.int b)] (.int (0 : Int32))) (Hp5 : Exa Z h0 r1 "[B") (hgd : Gd b) (hix : Ix b i) (hat : vs.getD i Value.null = .ref n) (Hp9 : Exa Z h0 n "java/util/HashMap$Node") (Hp10 : Fld Z h0 n "java/util/HashMap$Node" "hash" "I" (.int b)) (Hp11 : Fld Z h0 n "java/util/HashMap$Node" "key" "Ljava/lang/Object;" (.ref k)) (Hp12 : Fld Z h0 n "java/util/HashMap$Node" "value" "Ljava/lang/Object;" (.ref x)) (Hp13 : Exa Z h0 k "java/lang/String") (Hp14 : Fld Z h0 k "java/lang/String" "value" "[B" (.ref kv)) (Hp15 : Fld Z h0 k "java/lang/String" "coder" "B" (.int (0 : Int32))) (Hp16 : Arv Z h0 kv kc .byte (1 : Int32) [(.int b)] (.int (0 : Int32))) (Hp17 : Exa Z h0 x "com/example/onesnap/onesnap/node/StatementKind") (Hp18 : Old Z n0 h0) (Hp19 : Sta Z Z.heap "sun/nio/cs/UTF_8" "INSTANCE" "Lsun/nio/cs/UTF_8;" (.ref utf)) (Hp20 : Sta Z Z.heap "sun/nio/cs/ISO_8859_1" "INSTANCE" "Lsun/nio/cs/ISO_8859_1;" (.ref iso)) (Hp21 : Sta Z Z.heap "java/lang/String" "COMPACT_STRINGS" "Z" (.int cs)) (hcs : ¬ cs = (0 : Int32)) (hne : ¬ iso = utf) (Hp24 : Sta Z Z.heap "java/nio/charset/StandardCharsets" "ISO_8859_1" "Ljava/nio/charset/Charset;" (.ref iso)) (Eiso : Exa Z Z.heap iso "sun/nio/cs/ISO_8859_1") (Hp26 : Sta Z Z.heap "com/example/onesnap/onesnap/node/StatementKind" "WRITE" "Lcom/example/onesnap/onesnap/node/StatementKind;" (.ref s5)) :
    MetFree l (⟨"com/example/onesnap/onesnap/node/TransactionTracker", "statementKind", "([B)Lcom/example/onesnap/onesnap/node/StatementKind;"⟩ : MethodName) (head1 (Jvm.Cond.code (⟨"com/example/onesnap/onesnap/node/TransactionTracker", "statementKind", "([B)Lcom/example/onesnap/onesnap/node/StatementKind;"⟩ : MethodName) prog_49_method_7_code 2 (some (.object "com/example/onesnap/onesnap/node/StatementKind")) :: ws) ({ frames := 5, cells := 2, slots := 5, locals := 79 } : Room)) (fun a U => a = #[(.ref r0), (.ref r1)] ∧ Z.Warmed39 U.vm ∧ U.heap = h0) (fun _ _ _ _ _ => True) (fun _ U o U' => ∃ v L, o = .returned v ∧ Q39 Z r0 r1 m1 t kt vs kb b i n k kv kc x iso utf cs s5 h0 n0 v U'.heap L ∧ FrameEnd U o U' L ({ frames := 5, cells := 2, slots := 5, locals := 79 } : Room).cells ({ frames := 5, cells := 2, slots := 5, locals := 79 } : Room).slots) := by
  refine MetFree.of_bodySF (plainFor_of_name pn_com_example_onesnap_onesnap_node_TransactionTracker) hisR ?_
  intro p e s m args below meth c s₁ Bd hml0 hP hK
  obtain ⟨rfl, hZ, hh⟩ := hP
  have hx := Bd.exec
  have hby := Bd.bytes
  have hml : c.maxLocals = 2 := hml0
  have hown : s.vm.findClass "com/example/onesnap/onesnap/node/TransactionTracker" = some m.cls := findClass_of_methodNamed Bd.named
  have hnm := (name_of_methodNamed Bd.named Bd.method).1
  have X0 : Stand p l e ({ frames := 5, cells := 2, slots := 5, locals := 79 } : Room) s m #[(.ref r0), (.ref r1)] below meth c s₁ [] 0 0 := Stand.of_body Bd
  have e0 : s₁.heap = h0 := by rw [← hh, Bd.state]; rfl
  have N0 := Fr.nil n0
  have pre0 : ∀ t, Steps p.tables e below (s₁.setTop (mkF m 0 (l_5 r0 r1) [])) t → Steps p.tables e below (s₁.setTop (entryFrame m #[(.ref r0), (.ref r1)] 2)) t := fun t k => castTop (ef_39 m r0 r1) k
  obtain ⟨T1, X1, e1, st1⟩ := getF X0 hx hZ hown (host := "") (Or.inl (hw _ (tm 96 rfl))) Via.refl e0 Hp0 (g := (mkF m 1 (l_5 r0 r1) [(.ref r0)])) rfl rfl (hb hby d39_1)
  obtain ⟨_, _, ⟨T2, L2, k2, n2⟩, -, X2, ⟨Lc2, hQ2, l2, y2, z2⟩, st2⟩ := Jvm.LawKit.callS X1 hx (y := (⟨"com/example/onesnap/onesnap/node/TransactionTracker", "name", "([B)Ljava/lang/String;"⟩ : MethodName)) hown (mvT hZ (hw _ (tm 112 rfl))) (mvT hZ (hw _ (tm 113 rfl))) (mvT hZ (hw _ (tm 73 rfl))) (mvT hZ (hw _ (tm 114 rfl))) (by decide) (backOf (W := 1) (rm17 l Z a0 hw [] r1 (kb) (b) (iso) (utf) (cs) h0 n0 Z0 Hp4 Hp5 Hp18 Hp19 Hp20 Hp21 hcs hne Hp24 Eiso) hZ (hw _ (tm 114 rfl)) (hw _ (tm 73 rfl)) (by decide) (by decide)) (g := (mkF m 5 (l_5 r0 r1) [(.ref r1), (.ref m1)])) rfl (by rw [hml]; rfl) (argsL := [(.ref r1)]) (rest := [(.ref m1)]) (lenOf pd__28_5bB_29Ljava_2flang_2fString_3b rfl) rfl (by show 2 * 0 + _ ≤ _; exact Nat.le_of_eq rfl) (hb hby d39_5) (fun _ _ => ⟨rfl, e1, (by decide : 0 + 2 ≤ _), (by decide : 0 + 5 ≤ _)⟩)
  dsimp only [Pt.U, Pt.locs, Pt.cells, Pt.slots] at X2 l2 y2 z2 st2 hQ2
  subst l2 y2 z2
  obtain ⟨b2_y, b2_v1, rfl, N2q, K2, Sz2_y, Sz2_v1, Pc2_0, Pc2_1, Pc2_2, Pc2_3, Pc2_4, Pc2_5, Pc2_6⟩ := hQ2
  have N2 := Fr.app N0 N2q
  have g_b2_y : n0 ≤ b2_y := Nat.le_trans Z0 Sz2_y
  have sz_b2_y : h0.size ≤ b2_y := Nat.le_trans (Keep.refl h0 []).1 Sz2_y
  have ne_k_b2_y : k ≠ b2_y := Nat.ne_of_lt (Nat.lt_of_lt_of_le Hp13.lt Sz2_y)
  have ne_kv_b2_y : kv ≠ b2_y := Nat.ne_of_lt (Nat.lt_of_lt_of_le Hp16.lt Sz2_y)
  have ne_m1_b2_y : m1 ≠ b2_y := Nat.ne_of_lt (Nat.lt_of_lt_of_le Hp1.lt Sz2_y)
  have ne_n_b2_y : n ≠ b2_y := Nat.ne_of_lt (Nat.lt_of_lt_of_le Hp9.lt Sz2_y)
  have ne_r0_b2_y : r0 ≠ b2_y := Nat.ne_of_lt (Nat.lt_of_lt_of_le Hp0.lt Sz2_y)
  have ne_r1_b2_y : r1 ≠ b2_y := Nat.ne_of_lt (Nat.lt_of_lt_of_le Hp4.lt Sz2_y)
  have ne_t_b2_y : t ≠ b2_y := Nat.ne_of_lt (Nat.lt_of_lt_of_le Hp3.lt Sz2_y)
  have ne_x_b2_y : x ≠ b2_y := Nat.ne_of_lt (Nat.lt_of_lt_of_le Hp17.lt Sz2_y)
  have g_b2_v1 : n0 ≤ b2_v1 := Nat.le_trans Z0 Sz2_v1
  have sz_b2_v1 : h0.size ≤ b2_v1 := Nat.le_trans (Keep.refl h0 []).1 Sz2_v1
  have ne_k_b2_v1 : k ≠ b2_v1 := Nat.ne_of_lt (Nat.lt_of_lt_of_le Hp13.lt Sz2_v1)
  have ne_kv_b2_v1 : kv ≠ b2_v1 := Nat.ne_of_lt (Nat.lt_of_lt_of_le Hp16.lt Sz2_v1)
  have ne_m1_b2_v1 : m1 ≠ b2_v1 := Nat.ne_of_lt (Nat.lt_of_lt_of_le Hp1.lt Sz2_v1)
  have ne_n_b2_v1 : n ≠ b2_v1 := Nat.ne_of_lt (Nat.lt_of_lt_of_le Hp9.lt Sz2_v1)
  have ne_r0_b2_v1 : r0 ≠ b2_v1 := Nat.ne_of_lt (Nat.lt_of_lt_of_le Hp0.lt Sz2_v1)
  have ne_r1_b2_v1 : r1 ≠ b2_v1 := Nat.ne_of_lt (Nat.lt_of_lt_of_le Hp4.lt Sz2_v1)
  have ne_t_b2_v1 : t ≠ b2_v1 := Nat.ne_of_lt (Nat.lt_of_lt_of_le Hp3.lt Sz2_v1)
  have ne_x_b2_v1 : x ≠ b2_v1 := Nat.ne_of_lt (Nat.lt_of_lt_of_le Hp17.lt Sz2_v1)
  have Od3 := (Hp18.keep K2 all0)
  obtain ⟨T4, X4, e4, st4⟩ := getS2 X2 hx hZ hown (host := "") (Or.inl (hw _ (tm 276 rfl))) Via.refl rfl (Hp26.ext Od3.2) (g := (mkF m 8 (l_5 r0 r1) [(.ref b2_y), (.ref m1)])) rfl (hb hby d39_8)
  have Ex6 := (Hp13.keep K2)
  have Av7 := (Hp16.keep K2 nin0)
  have Ex8 := (Hp1.keep K2)
  have Ex9 := (Hp9.keep K2)
  have Fd10 := (Hp0.keep K2 nin0)
  have Av11 := (Hp4.keep K2 nin0)
  have Av12 := (Hp3.keep K2 nin0)
  have Ex13 := (Hp17.keep K2)
  have Zz14 := (Nat.le_trans Z0 K2.1)
  have Kp15 := ((Keep.refl h0 []).trans K2 all0)
  have Fd16 := (Hp2.keep K2 nin0)
  have Fd17 := (Hp10.keep K2 nin0)
  have Fd18 := (Hp11.keep K2 nin0)
  have Fd19 := (Hp12.keep K2 nin0)
  have Fd20 := (Hp14.keep K2 nin0)
  have Fd21 := (Hp15.keep K2 nin0)
  obtain ⟨cq5, kq5, q5a, q5b, q5c⟩ := isOf hZ e4 Ex8
  obtain ⟨_, _, ⟨T5, L5, k5, n5⟩, -, X5, ⟨Lc5, hQ5, l5, y5, z5⟩, st5⟩ := X4.interfaceBack hx (xi := (⟨"java/util/Map", "getOrDefault", "(Ljava/lang/Object;Ljava/lang/Object;)Ljava/lang/Object;"⟩ : MethodName)) (y := (⟨"java/util/HashMap", "getOrDefault", "(Ljava/lang/Object;Ljava/lang/Object;)Ljava/lang/Object;"⟩ : MethodName)) hown (mvT hZ (hw _ (tm 278 rfl))) (mvT hZ (hw _ (tm 279 rfl))) (mvT hZ (hw _ (tm 280 rfl))) (mvT hZ (hw _ (tm 281 rfl))) (mvT hZ (hw _ (tm 282 rfl))) (mvT hZ (hw _ (tm 283 rfl))) (mvT hZ (hw _ (tm 284 rfl))) (mvT hZ (hw _ (tm 197 rfl))) (by decide) (backOf (W := 0) (rm40 l Z a0 hw [] m1 b2_y s5 (b2_v1) (kb) (b) (cs) (t) (kt) (vs) (i) (n) (k) (kv) (kc) (x) T2.heap n0 Zz14 Ex8 Fd16 Av12 Pc2_0 Pc2_1 Pc2_2 Pc2_3 Pc2_4 Pc2_5 hgd Od3 Hp21 hcs hix hat Ex9 Fd17 Fd18 Fd19 Ex6 Fd20 Fd21 Av7 g_b2_y ne_m1_b2_y ne_t_b2_y (Ne.symm Pc2_6) ne_n_b2_y ne_k_b2_y ne_kv_b2_y) hZ (hw _ (tm 285 rfl)) (hw _ (tm 82 rfl)) (by decide) (by decide)) q5a q5b q5c (g := (mkF m 11 (l_5 r0 r1) [(.ref s5), (.ref b2_y), (.ref m1)])) rfl (by rw [hml]; rfl) (Steps.refl _) (argsL := [(.ref b2_y), (.ref s5)]) (rest := []) (lenOf pd__28Ljava_2flang_2fObject_3bLjava_2flang_2fObject_3b_29Ljava_2flang_2fObject_3b rfl) rfl (by show 2 * 0 + _ ≤ _; exact Nat.le_of_eq rfl) (hb hby d39_11) (fun _ _ => ⟨rfl, e4, (by decide : 2 + 0 ≤ _), (by decide : 5 + 0 ≤ _)⟩)
  dsimp only [Pt.U, Pt.locs, Pt.cells, Pt.slots] at X5 l5 y5 z5 st5 hQ5
  subst l5 y5 z5
  obtain ⟨rfl, N5q, K5⟩ := hQ5
  have N5 := Fr.app N2 N5q
  have Ex22 := (Ex13.keep K5)
  obtain ⟨T23, X23, e23, st23⟩ := castY X5 hx hZ hown (hw _ (tm 188 rfl)) rfl (Ins.self Ex22) (g := (mkF m 16 (l_5 r0 r1) [(.ref x)])) rfl rfl (hb hby d39_16)
  have Kp24 := (Kp15.trans K5 (allS (Or.inr sz_b2_y) all0))
  obtain ⟨fs, hr, hrun, hended, hW, hsame⟩ := X23.leave (v := some (.ref x)) (fun h => by rw [Bd.returns] at h; cases h)
  refine ⟨_, _, pre0 _ ?_, hrun, hended, _, _, rfl, ?_, ⟨_, rfl⟩, hW, hsame.mono (by decide) (by decide)⟩
  · show Steps _ _ _ (s₁.setTop (mkF m 0 (l_5 r0 r1) [])) _
    refine XS.aloadN X0.here hx rfl (hb hby d39_0) rfl rfl ?_
    show Steps _ _ _ (s₁.setTop (mkF m 1 (l_5 r0 r1) [(.ref r0)])) _
    refine st1 _ ?_
    show Steps _ _ _ (T1.setTop (mkF m 4 (l_5 r0 r1) [(.ref m1)])) _
    refine XS.aloadN X1.here hx rfl (hb hby d39_4) rfl rfl ?_
    show Steps _ _ _ (T1.setTop (mkF m 5 (l_5 r0 r1) [(.ref r1), (.ref m1)])) _
    refine st2 _ ?_
    show Steps _ _ _ (T2.setTop (mkF m 8 (l_5 r0 r1) [(.ref b2_y), (.ref m1)])) _
    refine st4 _ ?_
    show Steps _ _ _ (T4.setTop (mkF m 11 (l_5 r0 r1) [(.ref s5), (.ref b2_y), (.ref m1)])) _
    refine st5.trans ?_
    show Steps _ _ _ (T5.setTop (mkF m 16 (l_5 r0 r1) [(.ref x)])) _
    refine st23 _ ?_
    show Steps _ _ _ (T23.setTop (mkF m 19 (l_5 r0 r1) [(.ref x)])) _
    exact X23.areturnOut hx rfl Bd.returns rfl (hb hby d39_19) hr
  · show Q39 Z r0 r1 m1 t kt vs kb b i n k kv kc x iso utf cs s5 h0 n0 _ T23.heap _
    rw [e23]
    exact ⟨rfl, N5, Kp24⟩
def Q45 (Z : State) (r0 : Addr) (r1 : Addr) (m1 : Addr) (t : Addr) (kt : ClassId) (vs : List Value) (kb : ClassId) (b : Int32) (i : Nat) (n : Addr) (k : Addr) (kv : Addr) (kc : ClassId) (x : Addr) (iso : Addr) (utf : Addr) (cs : Int32) (s5 : Addr) (h0 : Heap) (n0 : Nat) (v : Option Value) (h : Heap) (L : List Loc) : Prop := v = some (.ref x) ∧ Fr n0 L ∧ Keep h0 h []
theorem d45_0 : decode prog_49_method_8_code 0 = .ok (.aload_n 0, 1) := by decide +kernel
theorem d45_1 : decode prog_49_method_8_code 1 = .ok (.getfield 20, 3) := by decide +kernel
theorem d45_4 : decode prog_49_method_8_code 4 = .ok (.aload_n 1, 1) := by decide +kernel
theorem d45_5 : decode prog_49_method_8_code 5 = .ok (.invokestatic 75, 3) := by decide +kernel
theorem d45_8 : decode prog_49_method_8_code 8 = .ok (.getstatic 69, 3) := by decide +kernel
theorem d45_11 : decode prog_49_method_8_code 11 = .ok (.invokeinterface 89 3, 5) := by decide +kernel
theorem d45_16 : decode prog_49_method_8_code 16 = .ok (.checkcast 37, 3) := by decide +kernel
theorem d45_19 : decode prog_49_method_8_code 19 = .ok (.areturn, 1) := by decide +kernel
theorem ef_45 (m : MethodId) (r0 : Addr) (r1 : Addr) : entryFrame m #[(.ref r0), (.ref r1)] 2 = mkF m 0 #[.val (.ref r0), .val (.ref r1)] [] := by first | (simp [entryFrame, mkF, argsToLocals, Value.category]; done) | rfl
set_option maxRecDepth 65536 in
set_option maxHeartbeats 40000000 in
theorem rm45 (l : Launch) (Z : State) (a0 : Array Value) (hw : ∀ d ∈ tables_1, d.before a0 Z = true) (ws : List Jvm.Cond) (r0 : Addr) (r1 : Addr) (m1 : Addr) (t : Addr) (kt : ClassId) (vs : List Value) (kb : ClassId) (b : Int32) (i : Nat) (n : Addr) (k : Addr) (kv : Addr) (kc : ClassId) (x : Addr) (iso : Addr) (utf : Addr) (cs : Int32) (s5 : Addr) (h0 : Heap) (n0 : Nat) (Z0 : n0 ≤ h0.size) (Hp0 : Fld Z h0 r0 "com/example/onesnap/onesnap/node/TransactionTracker" "portals" "Ljava/util/Map;" (.ref m1)) (Hp1 : Exa Z h0 m1 "java/util/HashMap") (Hp2 : Fld Z h0 m1 "java/util/HashMap" "table" "[Ljava/util/HashMap$Node;" (.ref t)) (Hp3 : Arv Z h0 t kt (.object "java/util/HashMap$Node") (16 : Int32) vs .null) (Hp4 : Arv Z h0 r1 kb .byte (1 : Int32) [(.int b)] (.int (0 : Int32))) (Hp5 : Exa Z h0 r1 "[B") (hgd : Gd b) (hix : Ix b i) (hat : vs.getD i Value.null = .ref n) (Hp9 : Exa Z h0 n "java/util/HashMap$Node") (Hp10 : Fld Z h0 n "java/util/HashMap$Node" "hash" "I" (.int b)) (Hp11 : Fld Z h0 n "java/util/HashMap$Node" "key" "Ljava/lang/Object;" (.ref k)) (Hp12 : Fld Z h0 n "java/util/HashMap$Node" "value" "Ljava/lang/Object;" (.ref x)) (Hp13 : Exa Z h0 k "java/lang/String") (Hp14 : Fld Z h0 k "java/lang/String" "value" "[B" (.ref kv)) (Hp15 : Fld Z h0 k "java/lang/String" "coder" "B" (.int (0 : Int32))) (Hp16 : Arv Z h0 kv kc .byte (1 : Int32) [(.int b)] (.int (0 : Int32))) (Hp17 : Exa Z h0 x "com/example/onesnap/onesnap/node/StatementKind") (Hp18 : Old Z n0 h0) (Hp19 : Sta Z Z.heap "sun/nio/cs/UTF_8" "INSTANCE" "Lsun/nio/cs/UTF_8;" (.ref utf)) (Hp20 : Sta Z Z.heap "sun/nio/cs/ISO_8859_1" "INSTANCE" "Lsun/nio/cs/ISO_8859_1;" (.ref iso)) (Hp21 : Sta Z Z.heap "java/lang/String" "COMPACT_STRINGS" "Z" (.int cs)) (hcs : ¬ cs = (0 : Int32)) (hne : ¬ iso = utf) (Hp24 : Sta Z Z.heap "java/nio/charset/StandardCharsets" "ISO_8859_1" "Ljava/nio/charset/Charset;" (.ref iso)) (Eiso : Exa Z Z.heap iso "sun/nio/cs/ISO_8859_1") (Hp26 : Sta Z Z.heap "com/example/onesnap/onesnap/node/StatementKind" "WRITE" "Lcom/example/onesnap/onesnap/node/StatementKind;" (.ref s5)) :
    MetFree l (⟨"com/example/onesnap/onesnap/node/TransactionTracker", "portalKind", "([B)Lcom/example/onesnap/onesnap/node/StatementKind;"⟩ : MethodName) (head1 (Jvm.Cond.code (⟨"com/example/onesnap/onesnap/node/TransactionTracker", "portalKind", "([B)Lcom/example/onesnap/onesnap/node/StatementKind;"⟩ : MethodName) prog_49_method_8_code 2 (some (.object "com/example/onesnap/onesnap/node/StatementKind")) :: ws) ({ frames := 5, cells := 2, slots := 5, locals := 79 } : Room)) (fun a U => a = #[(.ref r0), (.ref r1)] ∧ Z.Warmed39 U.vm ∧ U.heap = h0) (fun _ _ _ _ _ => True) (fun _ U o U' => ∃ v L, o = .returned v ∧ Q45 Z r0 r1 m1 t kt vs kb b i n k kv kc x iso utf cs s5 h0 n0 v U'.heap L ∧ FrameEnd U o U' L ({ frames := 5, cells := 2, slots := 5, locals := 79 } : Room).cells ({ frames := 5, cells := 2, slots := 5, locals := 79 } : Room).slots) := by
  refine MetFree.of_bodySF (plainFor_of_name pn_com_example_onesnap_onesnap_node_TransactionTracker) hisR ?_
  intro p e s m args below meth c s₁ Bd hml0 hP hK
  obtain ⟨rfl, hZ, hh⟩ := hP
  have hx := Bd.exec
  have hby := Bd.bytes
  have hml : c.maxLocals = 2 := hml0
  have hown : s.vm.findClass "com/example/onesnap/onesnap/node/TransactionTracker" = some m.cls := findClass_of_methodNamed Bd.named
  have hnm := (name_of_methodNamed Bd.named Bd.method).1
  have X0 : Stand p l e ({ frames := 5, cells := 2, slots := 5, locals := 79 } : Room) s m #[(.ref r0), (.ref r1)] below meth c s₁ [] 0 0 := Stand.of_body Bd
  have e0 : s₁.heap = h0 := by rw [← hh, Bd.state]; rfl
  have N0 := Fr.nil n0
  have pre0 : ∀ t, Steps p.tables e below (s₁.setTop (mkF m 0 (l_5 r0 r1) [])) t → Steps p.tables e below (s₁.setTop (entryFrame m #[(.ref r0), (.ref r1)] 2)) t := fun t k => castTop (ef_45 m r0 r1) k
  obtain ⟨T1, X1, e1, st1⟩ := getF X0 hx hZ hown (host := "") (Or.inl (hw _ (tm 98 rfl))) Via.refl e0 Hp0 (g := (mkF m 1 (l_5 r0 r1) [(.ref r0)])) rfl rfl (hb hby d45_1)
  obtain ⟨_, _, ⟨T2, L2, k2, n2⟩, -, X2, ⟨Lc2, hQ2, l2, y2, z2⟩, st2⟩ := Jvm.LawKit.callS X1 hx (y := (⟨"com/example/onesnap/onesnap/node/TransactionTracker", "name", "([B)Ljava/lang/String;"⟩ : MethodName)) hown (mvT hZ (hw _ (tm 112 rfl))) (mvT hZ (hw _ (tm 113 rfl))) (mvT hZ (hw _ (tm 73 rfl))) (mvT hZ (hw _ (tm 114 rfl))) (by decide) (backOf (W := 1) (rm17 l Z a0 hw [] r1 (kb) (b) (iso) (utf) (cs) h0 n0 Z0 Hp4 Hp5 Hp18 Hp19 Hp20 Hp21 hcs hne Hp24 Eiso) hZ (hw _ (tm 114 rfl)) (hw _ (tm 73 rfl)) (by decide) (by decide)) (g := (mkF m 5 (l_5 r0 r1) [(.ref r1), (.ref m1)])) rfl (by rw [hml]; rfl) (argsL := [(.ref r1)]) (rest := [(.ref m1)]) (lenOf pd__28_5bB_29Ljava_2flang_2fString_3b rfl) rfl (by show 2 * 0 + _ ≤ _; exact Nat.le_of_eq rfl) (hb hby d45_5) (fun _ _ => ⟨rfl, e1, (by decide : 0 + 2 ≤ _), (by decide : 0 + 5 ≤ _)⟩)
  dsimp only [Pt.U, Pt.locs, Pt.cells, Pt.slots] at X2 l2 y2 z2 st2 hQ2
  subst l2 y2 z2
  obtain ⟨b2_y, b2_v1, rfl, N2q, K2, Sz2_y, Sz2_v1, Pc2_0, Pc2_1, Pc2_2, Pc2_3, Pc2_4, Pc2_5, Pc2_6⟩ := hQ2
  have N2 := Fr.app N0 N2q
  have g_b2_y : n0 ≤ b2_y := Nat.le_trans Z0 Sz2_y
  have sz_b2_y : h0.size ≤ b2_y := Nat.le_trans (Keep.refl h0 []).1 Sz2_y
  have ne_k_b2_y : k ≠ b2_y := Nat.ne_of_lt (Nat.lt_of_lt_of_le Hp13.lt Sz2_y)
  have ne_kv_b2_y : kv ≠ b2_y := Nat.ne_of_lt (Nat.lt_of_lt_of_le Hp16.lt Sz2_y)
  have ne_m1_b2_y : m1 ≠ b2_y := Nat.ne_of_lt (Nat.lt_of_lt_of_le Hp1.lt Sz2_y)
  have ne_n_b2_y : n ≠ b2_y := Nat.ne_of_lt (Nat.lt_of_lt_of_le Hp9.lt Sz2_y)
  have ne_r0_b2_y : r0 ≠ b2_y := Nat.ne_of_lt (Nat.lt_of_lt_of_le Hp0.lt Sz2_y)
  have ne_r1_b2_y : r1 ≠ b2_y := Nat.ne_of_lt (Nat.lt_of_lt_of_le Hp4.lt Sz2_y)
  have ne_t_b2_y : t ≠ b2_y := Nat.ne_of_lt (Nat.lt_of_lt_of_le Hp3.lt Sz2_y)
  have ne_x_b2_y : x ≠ b2_y := Nat.ne_of_lt (Nat.lt_of_lt_of_le Hp17.lt Sz2_y)
  have g_b2_v1 : n0 ≤ b2_v1 := Nat.le_trans Z0 Sz2_v1
  have sz_b2_v1 : h0.size ≤ b2_v1 := Nat.le_trans (Keep.refl h0 []).1 Sz2_v1
  have ne_k_b2_v1 : k ≠ b2_v1 := Nat.ne_of_lt (Nat.lt_of_lt_of_le Hp13.lt Sz2_v1)
  have ne_kv_b2_v1 : kv ≠ b2_v1 := Nat.ne_of_lt (Nat.lt_of_lt_of_le Hp16.lt Sz2_v1)
  have ne_m1_b2_v1 : m1 ≠ b2_v1 := Nat.ne_of_lt (Nat.lt_of_lt_of_le Hp1.lt Sz2_v1)
  have ne_n_b2_v1 : n ≠ b2_v1 := Nat.ne_of_lt (Nat.lt_of_lt_of_le Hp9.lt Sz2_v1)
  have ne_r0_b2_v1 : r0 ≠ b2_v1 := Nat.ne_of_lt (Nat.lt_of_lt_of_le Hp0.lt Sz2_v1)
  have ne_r1_b2_v1 : r1 ≠ b2_v1 := Nat.ne_of_lt (Nat.lt_of_lt_of_le Hp4.lt Sz2_v1)
  have ne_t_b2_v1 : t ≠ b2_v1 := Nat.ne_of_lt (Nat.lt_of_lt_of_le Hp3.lt Sz2_v1)
  have ne_x_b2_v1 : x ≠ b2_v1 := Nat.ne_of_lt (Nat.lt_of_lt_of_le Hp17.lt Sz2_v1)
  have Od3 := (Hp18.keep K2 all0)
  obtain ⟨T4, X4, e4, st4⟩ := getS2 X2 hx hZ hown (host := "") (Or.inl (hw _ (tm 276 rfl))) Via.refl rfl (Hp26.ext Od3.2) (g := (mkF m 8 (l_5 r0 r1) [(.ref b2_y), (.ref m1)])) rfl (hb hby d45_8)
  have Ex6 := (Hp13.keep K2)
  have Av7 := (Hp16.keep K2 nin0)
  have Ex8 := (Hp1.keep K2)
  have Ex9 := (Hp9.keep K2)
  have Fd10 := (Hp0.keep K2 nin0)
  have Av11 := (Hp4.keep K2 nin0)
  have Av12 := (Hp3.keep K2 nin0)
  have Ex13 := (Hp17.keep K2)
  have Zz14 := (Nat.le_trans Z0 K2.1)
  have Kp15 := ((Keep.refl h0 []).trans K2 all0)
  have Fd16 := (Hp2.keep K2 nin0)
  have Fd17 := (Hp10.keep K2 nin0)
  have Fd18 := (Hp11.keep K2 nin0)
  have Fd19 := (Hp12.keep K2 nin0)
  have Fd20 := (Hp14.keep K2 nin0)
  have Fd21 := (Hp15.keep K2 nin0)
  obtain ⟨cq5, kq5, q5a, q5b, q5c⟩ := isOf hZ e4 Ex8
  obtain ⟨_, _, ⟨T5, L5, k5, n5⟩, -, X5, ⟨Lc5, hQ5, l5, y5, z5⟩, st5⟩ := X4.interfaceBack hx (xi := (⟨"java/util/Map", "getOrDefault", "(Ljava/lang/Object;Ljava/lang/Object;)Ljava/lang/Object;"⟩ : MethodName)) (y := (⟨"java/util/HashMap", "getOrDefault", "(Ljava/lang/Object;Ljava/lang/Object;)Ljava/lang/Object;"⟩ : MethodName)) hown (mvT hZ (hw _ (tm 278 rfl))) (mvT hZ (hw _ (tm 279 rfl))) (mvT hZ (hw _ (tm 280 rfl))) (mvT hZ (hw _ (tm 281 rfl))) (mvT hZ (hw _ (tm 282 rfl))) (mvT hZ (hw _ (tm 283 rfl))) (mvT hZ (hw _ (tm 284 rfl))) (mvT hZ (hw _ (tm 197 rfl))) (by decide) (backOf (W := 0) (rm40 l Z a0 hw [] m1 b2_y s5 (b2_v1) (kb) (b) (cs) (t) (kt) (vs) (i) (n) (k) (kv) (kc) (x) T2.heap n0 Zz14 Ex8 Fd16 Av12 Pc2_0 Pc2_1 Pc2_2 Pc2_3 Pc2_4 Pc2_5 hgd Od3 Hp21 hcs hix hat Ex9 Fd17 Fd18 Fd19 Ex6 Fd20 Fd21 Av7 g_b2_y ne_m1_b2_y ne_t_b2_y (Ne.symm Pc2_6) ne_n_b2_y ne_k_b2_y ne_kv_b2_y) hZ (hw _ (tm 285 rfl)) (hw _ (tm 82 rfl)) (by decide) (by decide)) q5a q5b q5c (g := (mkF m 11 (l_5 r0 r1) [(.ref s5), (.ref b2_y), (.ref m1)])) rfl (by rw [hml]; rfl) (Steps.refl _) (argsL := [(.ref b2_y), (.ref s5)]) (rest := []) (lenOf pd__28Ljava_2flang_2fObject_3bLjava_2flang_2fObject_3b_29Ljava_2flang_2fObject_3b rfl) rfl (by show 2 * 0 + _ ≤ _; exact Nat.le_of_eq rfl) (hb hby d45_11) (fun _ _ => ⟨rfl, e4, (by decide : 2 + 0 ≤ _), (by decide : 5 + 0 ≤ _)⟩)
  dsimp only [Pt.U, Pt.locs, Pt.cells, Pt.slots] at X5 l5 y5 z5 st5 hQ5
  subst l5 y5 z5
  obtain ⟨rfl, N5q, K5⟩ := hQ5
  have N5 := Fr.app N2 N5q
  have Ex22 := (Ex13.keep K5)
  obtain ⟨T23, X23, e23, st23⟩ := castY X5 hx hZ hown (hw _ (tm 188 rfl)) rfl (Ins.self Ex22) (g := (mkF m 16 (l_5 r0 r1) [(.ref x)])) rfl rfl (hb hby d45_16)
  have Kp24 := (Kp15.trans K5 (allS (Or.inr sz_b2_y) all0))
  obtain ⟨fs, hr, hrun, hended, hW, hsame⟩ := X23.leave (v := some (.ref x)) (fun h => by rw [Bd.returns] at h; cases h)
  refine ⟨_, _, pre0 _ ?_, hrun, hended, _, _, rfl, ?_, ⟨_, rfl⟩, hW, hsame.mono (by decide) (by decide)⟩
  · show Steps _ _ _ (s₁.setTop (mkF m 0 (l_5 r0 r1) [])) _
    refine XS.aloadN X0.here hx rfl (hb hby d45_0) rfl rfl ?_
    show Steps _ _ _ (s₁.setTop (mkF m 1 (l_5 r0 r1) [(.ref r0)])) _
    refine st1 _ ?_
    show Steps _ _ _ (T1.setTop (mkF m 4 (l_5 r0 r1) [(.ref m1)])) _
    refine XS.aloadN X1.here hx rfl (hb hby d45_4) rfl rfl ?_
    show Steps _ _ _ (T1.setTop (mkF m 5 (l_5 r0 r1) [(.ref r1), (.ref m1)])) _
    refine st2 _ ?_
    show Steps _ _ _ (T2.setTop (mkF m 8 (l_5 r0 r1) [(.ref b2_y), (.ref m1)])) _
    refine st4 _ ?_
    show Steps _ _ _ (T4.setTop (mkF m 11 (l_5 r0 r1) [(.ref s5), (.ref b2_y), (.ref m1)])) _
    refine st5.trans ?_
    show Steps _ _ _ (T5.setTop (mkF m 16 (l_5 r0 r1) [(.ref x)])) _
    refine st23 _ ?_
    show Steps _ _ _ (T23.setTop (mkF m 19 (l_5 r0 r1) [(.ref x)])) _
    exact X23.areturnOut hx rfl Bd.returns rfl (hb hby d45_19) hr
  · show Q45 Z r0 r1 m1 t kt vs kb b i n k kv kc x iso utf cs s5 h0 n0 _ T23.heap _
    rw [e23]
    exact ⟨rfl, N5, Kp24⟩
def Q38_f (Z : State) (r0 : Addr) (r1 : Addr) (r2 : Addr) (m1 : Addr) (m2 : Addr) (kb : ClassId) (b : Int32) (iso : Addr) (utf : Addr) (cs : Int32) (s5 : Addr) (i : Nat) (t2 : Addr) (kt2 : ClassId) (vs2 : List Value) (kb2 : ClassId) (b2 : Int32) (i2 : Nat) (n2 : Addr) (k2 : Addr) (kv2 : Addr) (kc2 : ClassId) (x : Addr) (h0 : Heap) (n0 : Nat) (v : Option Value) (h : Heap) (L : List Loc) : Prop := ∃ t : Addr, ∃ kt : ClassId, ∃ n : Addr, ∃ y : Addr, ∃ v1 : Addr, v = none ∧ Fr n0 L ∧ Keep h0 h [m2] ∧ h0.size ≤ t ∧ h0.size ≤ n ∧ h0.size ≤ y ∧ h0.size ≤ v1 ∧ Exa Z h m2 "java/util/HashMap" ∧ Fld Z h m2 "java/util/HashMap" "table" "[Ljava/util/HashMap$Node;" (.ref t) ∧ Fld Z h m2 "java/util/HashMap" "threshold" "I" (.int (12 : Int32)) ∧ Fld Z h m2 "java/util/HashMap" "size" "I" (.int (1 : Int32)) ∧ Fld Z h m2 "java/util/HashMap" "modCount" "I" (.int (1 : Int32)) ∧ Arv Z h t kt (.object "java/util/HashMap$Node") (16 : Int32) ((List.replicate 16 Value.null).set i (.ref n)) .null ∧ Ovr Z kt "java/util/HashMap$Node" ∧ Exa Z h n "java/util/HashMap$Node" ∧ Fld Z h n "java/util/HashMap$Node" "hash" "I" (.int b) ∧ Fld Z h n "java/util/HashMap$Node" "key" "Ljava/lang/Object;" (.ref y) ∧ Fld Z h n "java/util/HashMap$Node" "value" "Ljava/lang/Object;" (.ref x) ∧ Exa Z h y "java/lang/String" ∧ Fld Z h y "java/lang/String" "value" "[B" (.ref v1) ∧ Fld Z h y "java/lang/String" "coder" "B" (.int (0 : Int32)) ∧ Arv Z h v1 kb .byte (1 : Int32) [(.int b)] (.int (0 : Int32)) ∧ t ≠ n ∧ t ≠ y ∧ t ≠ v1
theorem d38_0 : decode prog_49_method_9_code 0 = .ok (.aload_n 0, 1) := by decide +kernel
theorem d38_1 : decode prog_49_method_9_code 1 = .ok (.getfield 20, 3) := by decide +kernel
theorem d38_4 : decode prog_49_method_9_code 4 = .ok (.aload_n 1, 1) := by decide +kernel
theorem d38_5 : decode prog_49_method_9_code 5 = .ok (.invokestatic 75, 3) := by decide +kernel
theorem d38_8 : decode prog_49_method_9_code 8 = .ok (.aload_n 0, 1) := by decide +kernel
theorem d38_9 : decode prog_49_method_9_code 9 = .ok (.aload_n 2, 1) := by decide +kernel
theorem d38_10 : decode prog_49_method_9_code 10 = .ok (.invokevirtual 92, 3) := by decide +kernel
theorem pd__28_5bB_29Lcom_2fexample_2fonesnap_2fonesnap_2fnode_2fStatementKind_3b : parseMethodDescriptor "([B)Lcom/example/onesnap/onesnap/node/StatementKind;" = some ⟨[(.array .byte)], some (.object "com/example/onesnap/onesnap/node/StatementKind")⟩ := by decide +kernel
theorem d38_13 : decode prog_49_method_9_code 13 = .ok (.invokeinterface 83 3, 5) := by decide +kernel
theorem d38_18 : decode prog_49_method_9_code 18 = .ok (.pop, 1) := by decide +kernel
theorem d38_19 : decode prog_49_method_9_code 19 = .ok (.return_, 1) := by decide +kernel
theorem ef_38_f (m : MethodId) (r0 : Addr) (r1 : Addr) (r2 : Addr) : entryFrame m #[(.ref r0), (.ref r1), (.ref r2)] 3 = mkF m 0 #[.val (.ref r0), .val (.ref r1), .val (.ref r2)] [] := by first | (simp [entryFrame, mkF, argsToLocals, Value.category]; done) | rfl
set_option maxRecDepth 65536 in
set_option maxHeartbeats 40000000 in
theorem rm38_f (l : Launch) (Z : State) (a0 : Array Value) (hw : ∀ d ∈ tables_1, d.before a0 Z = true) (ws : List Jvm.Cond) (r0 : Addr) (r1 : Addr) (r2 : Addr) (m1 : Addr) (m2 : Addr) (kb : ClassId) (b : Int32) (iso : Addr) (utf : Addr) (cs : Int32) (s5 : Addr) (i : Nat) (t2 : Addr) (kt2 : ClassId) (vs2 : List Value) (kb2 : ClassId) (b2 : Int32) (i2 : Nat) (n2 : Addr) (k2 : Addr) (kv2 : Addr) (kc2 : ClassId) (x : Addr) (h0 : Heap) (n0 : Nat) (Z0 : n0 ≤ h0.size) (Hp0 : Exa Z h0 r0 "com/example/onesnap/onesnap/node/TransactionTracker") (Hp1 : Fld Z h0 r0 "com/example/onesnap/onesnap/node/TransactionTracker" "portals" "Ljava/util/Map;" (.ref m2)) (Hp2 : Fld Z h0 r0 "com/example/onesnap/onesnap/node/TransactionTracker" "statements" "Ljava/util/Map;" (.ref m1)) (Hp3 : Exa Z h0 m2 "java/util/HashMap") (Hp4 : Fld Z h0 m2 "java/util/HashMap" "table" "[Ljava/util/HashMap$Node;" .null) (Hp5 : Fld Z h0 m2 "java/util/HashMap" "threshold" "I" (.int (0 : Int32))) (Hp6 : Fld Z h0 m2 "java/util/HashMap" "size" "I" (.int (0 : Int32))) (Hp7 : Fld Z h0 m2 "java/util/HashMap" "modCount" "I" (.int (0 : Int32))) (Hp8 : Arv Z h0 r1 kb .byte (1 : Int32) [(.int b)] (.int (0 : Int32))) (Hp9 : Exa Z h0 r1 "[B") (Hp10 : Old Z n0 h0) (Hp11 : Sta Z Z.heap "sun/nio/cs/UTF_8" "INSTANCE" "Lsun/nio/cs/UTF_8;" (.ref utf)) (Hp12 : Sta Z Z.heap "sun/nio/cs/ISO_8859_1" "INSTANCE" "Lsun/nio/cs/ISO_8859_1;" (.ref iso)) (Hp13 : Sta Z Z.heap "java/lang/String" "COMPACT_STRINGS" "Z" (.int cs)) (hcs : ¬ cs = (0 : Int32)) (hne : ¬ iso = utf) (Hp16 : Sta Z Z.heap "java/nio/charset/StandardCharsets" "ISO_8859_1" "Ljava/nio/charset/Charset;" (.ref iso)) (Eiso : Exa Z Z.heap iso "sun/nio/cs/ISO_8859_1") (Hp18 : Sta Z Z.heap "com/example/onesnap/onesnap/node/StatementKind" "WRITE" "Lcom/example/onesnap/onesnap/node/StatementKind;" (.ref s5)) (hgd : Gd b) (hix : Ix b i) (Hp21 : Exa Z h0 m1 "java/util/HashMap") (Hp22 : Fld Z h0 m1 "java/util/HashMap" "table" "[Ljava/util/HashMap$Node;" (.ref t2)) (Hp23 : Arv Z h0 t2 kt2 (.object "java/util/HashMap$Node") (16 : Int32) vs2 .null) (Hp24 : Arv Z h0 r2 kb2 .byte (1 : Int32) [(.int b2)] (.int (0 : Int32))) (Hp25 : Exa Z h0 r2 "[B") (hgd2 : Gd b2) (hix2 : Ix b2 i2) (hat2 : vs2.getD i2 Value.null = .ref n2) (Hp29 : Exa Z h0 n2 "java/util/HashMap$Node") (Hp30 : Fld Z h0 n2 "java/util/HashMap$Node" "hash" "I" (.int b2)) (Hp31 : Fld Z h0 n2 "java/util/HashMap$Node" "key" "Ljava/lang/Object;" (.ref k2)) (Hp32 : Fld Z h0 n2 "java/util/HashMap$Node" "value" "Ljava/lang/Object;" (.ref x)) (Hp33 : Exa Z h0 k2 "java/lang/String") (Hp34 : Fld Z h0 k2 "java/lang/String" "value" "[B" (.ref kv2)) (Hp35 : Fld Z h0 k2 "java/lang/String" "coder" "B" (.int (0 : Int32))) (Hp36 : Arv Z h0 kv2 kc2 .byte (1 : Int32) [(.int b2)] (.int (0 : Int32))) (Hp37 : Exa Z h0 x "com/example/onesnap/onesnap/node/StatementKind") (Hp38 : n0 ≤ m2) (Hp39 : r0 ≠ m2) (Hp40 : r1 ≠ m2) (Hp41 : m1 ≠ m2) (Hp42 : t2 ≠ m2) (Hp43 : r2 ≠ m2) (Hp44 : n2 ≠ m2) (Hp45 : k2 ≠ m2) (Hp46 : kv2 ≠ m2) :
    MetFree l (⟨"com/example/onesnap/onesnap/node/TransactionTracker", "bound", "([B[B)V"⟩ : MethodName) (head1 (Jvm.Cond.code (⟨"com/example/onesnap/onesnap/node/TransactionTracker", "bound", "([B[B)V"⟩ : MethodName) prog_49_method_9_code 3 none :: ws) ({ frames := 6, cells := 6, slots := 30, locals := 94 } : Room)) (fun a U => a = #[(.ref r0), (.ref r1), (.ref r2)] ∧ Z.Warmed39 U.vm ∧ U.heap = h0) (fun _ _ _ _ _ => True) (fun _ U o U' => ∃ v L, o = .returned v ∧ Q38_f Z r0 r1 r2 m1 m2 kb b iso utf cs s5 i t2 kt2 vs2 kb2 b2 i2 n2 k2 kv2 kc2 x h0 n0 v U'.heap L ∧ FrameEnd U o U' L ({ frames := 6, cells := 6, slots := 30, locals := 94 } : Room).cells ({ frames := 6, cells := 6, slots := 30, locals := 94 } : Room).slots) := by
  refine MetFree.of_bodySF (plainFor_of_name pn_com_example_onesnap_onesnap_node_TransactionTracker) hisR ?_
  intro p e s m args below meth c s₁ Bd hml0 hP hK
  obtain ⟨rfl, hZ, hh⟩ := hP
  have hx := Bd.exec
  have hby := Bd.bytes
  have hml : c.maxLocals = 3 := hml0
  have hown : s.vm.findClass "com/example/onesnap/onesnap/node/TransactionTracker" = some m.cls := findClass_of_methodNamed Bd.named
  have hnm := (name_of_methodNamed Bd.named Bd.method).1
  have X0 : Stand p l e ({ frames := 6, cells := 6, slots := 30, locals := 94 } : Room) s m #[(.ref r0), (.ref r1), (.ref r2)] below meth c s₁ [] 0 0 := Stand.of_body Bd
  have e0 : s₁.heap = h0 := by rw [← hh, Bd.state]; rfl
  have N0 := Fr.nil n0
  have pre0 : ∀ t, Steps p.tables e below (s₁.setTop (mkF m 0 (l_10 r0 r1 r2) [])) t → Steps p.tables e below (s₁.setTop (entryFrame m #[(.ref r0), (.ref r1), (.ref r2)] 3)) t := fun t k => castTop (ef_38_f m r0 r1 r2) k
  obtain ⟨T1, X1, e1, st1⟩ := getF X0 hx hZ hown (host := "") (Or.inl (hw _ (tm 98 rfl))) Via.refl e0 Hp1 (g := (mkF m 1 (l_10 r0 r1 r2) [(.ref r0)])) rfl rfl (hb hby d38_1)
  obtain ⟨_, _, ⟨T2, L2, k2, n2⟩, -, X2, ⟨Lc2, hQ2, l2, y2, z2⟩, st2⟩ := Jvm.LawKit.callS X1 hx (y := (⟨"com/example/onesnap/onesnap/node/TransactionTracker", "name", "([B)Ljava/lang/String;"⟩ : MethodName)) hown (mvT hZ (hw _ (tm 112 rfl))) (mvT hZ (hw _ (tm 113 rfl))) (mvT hZ (hw _ (tm 73 rfl))) (mvT hZ (hw _ (tm 114 rfl))) (by decide) (backOf (W := 1) (rm17 l Z a0 hw [] r1 (kb) (b) (iso) (utf) (cs) h0 n0 Z0 Hp8 Hp9 Hp10 Hp11 Hp12 Hp13 hcs hne Hp16 Eiso) hZ (hw _ (tm 114 rfl)) (hw _ (tm 73 rfl)) (by decide) (by decide)) (g := (mkF m 5 (l_10 r0 r1 r2) [(.ref r1), (.ref m2)])) rfl (by rw [hml]; rfl) (argsL := [(.ref r1)]) (rest := [(.ref m2)]) (lenOf pd__28_5bB_29Ljava_2flang_2fString_3b rfl) rfl (by show 2 * 0 + _ ≤ _; exact Nat.le_of_eq rfl) (hb hby d38_5) (fun _ _ => ⟨rfl, e1, (by decide : 0 + 2 ≤ _), (by decide : 0 + 5 ≤ _)⟩)
  dsimp only [Pt.U, Pt.locs, Pt.cells, Pt.slots] at X2 l2 y2 z2 st2 hQ2
  subst l2 y2 z2
  obtain ⟨b2_y, b2_v1, rfl, N2q, K2, Sz2_y, Sz2_v1, Pc2_0, Pc2_1, Pc2_2, Pc2_3, Pc2_4, Pc2_5, Pc2_6⟩ := hQ2
  have N2 := Fr.app N0 N2q
  have g_b2_y : n0 ≤ b2_y := Nat.le_trans Z0 Sz2_y
  have sz_b2_y : h0.size ≤ b2_y := Nat.le_trans (Keep.refl h0 [m2]).1 Sz2_y
  have ne_k2_b2_y : k2 ≠ b2_y := Nat.ne_of_lt (Nat.lt_of_lt_of_le Hp33.lt Sz2_y)
  have ne_kv2_b2_y : kv2 ≠ b2_y := Nat.ne_of_lt (Nat.lt_of_lt_of_le Hp36.lt Sz2_y)
  have ne_m1_b2_y : m1 ≠ b2_y := Nat.ne_of_lt (Nat.lt_of_lt_of_le Hp21.lt Sz2_y)
  have ne_m2_b2_y : m2 ≠ b2_y := Nat.ne_of_lt (Nat.lt_of_lt_of_le Hp3.lt Sz2_y)
  have ne_n2_b2_y : n2 ≠ b2_y := Nat.ne_of_lt (Nat.lt_of_lt_of_le Hp29.lt Sz2_y)
  have ne_r0_b2_y : r0 ≠ b2_y := Nat.ne_of_lt (Nat.lt_of_lt_of_le Hp0.lt Sz2_y)
  have ne_r1_b2_y : r1 ≠ b2_y := Nat.ne_of_lt (Nat.lt_of_lt_of_le Hp8.lt Sz2_y)
  have ne_r2_b2_y : r2 ≠ b2_y := Nat.ne_of_lt (Nat.lt_of_lt_of_le Hp24.lt Sz2_y)
  have ne_t2_b2_y : t2 ≠ b2_y := Nat.ne_of_lt (Nat.lt_of_lt_of_le Hp23.lt Sz2_y)
  have ne_x_b2_y : x ≠ b2_y := Nat.ne_of_lt (Nat.lt_of_lt_of_le Hp37.lt Sz2_y)
  have g_b2_v1 : n0 ≤ b2_v1 := Nat.le_trans Z0 Sz2_v1
  have sz_b2_v1 : h0.size ≤ b2_v1 := Nat.le_trans (Keep.refl h0 [m2]).1 Sz2_v1
  have ne_k2_b2_v1 : k2 ≠ b2_v1 := Nat.ne_of_lt (Nat.lt_of_lt_of_le Hp33.lt Sz2_v1)
  have ne_kv2_b2_v1 : kv2 ≠ b2_v1 := Nat.ne_of_lt (Nat.lt_of_lt_of_le Hp36.lt Sz2_v1)
  have ne_m1_b2_v1 : m1 ≠ b2_v1 := Nat.ne_of_lt (Nat.lt_of_lt_of_le Hp21.lt Sz2_v1)
  have ne_m2_b2_v1 : m2 ≠ b2_v1 := Nat.ne_of_lt (Nat.lt_of_lt_of_le Hp3.lt Sz2_v1)
  have ne_n2_b2_v1 : n2 ≠ b2_v1 := Nat.ne_of_lt (Nat.lt_of_lt_of_le Hp29.lt Sz2_v1)
  have ne_r0_b2_v1 : r0 ≠ b2_v1 := Nat.ne_of_lt (Nat.lt_of_lt_of_le Hp0.lt Sz2_v1)
  have ne_r1_b2_v1 : r1 ≠ b2_v1 := Nat.ne_of_lt (Nat.lt_of_lt_of_le Hp8.lt Sz2_v1)
  have ne_r2_b2_v1 : r2 ≠ b2_v1 := Nat.ne_of_lt (Nat.lt_of_lt_of_le Hp24.lt Sz2_v1)
  have ne_t2_b2_v1 : t2 ≠ b2_v1 := Nat.ne_of_lt (Nat.lt_of_lt_of_le Hp23.lt Sz2_v1)
  have ne_x_b2_v1 : x ≠ b2_v1 := Nat.ne_of_lt (Nat.lt_of_lt_of_le Hp37.lt Sz2_v1)
  have Ex4 := (Hp33.keep K2)
  have Av5 := (Hp36.keep K2 nin0)
  have Ex6 := (Hp21.keep K2)
  have Ex7 := (Hp3.keep K2)
  have Ex8 := (Hp29.keep K2)
  have Ex9 := (Hp0.keep K2)
  have Av10 := (Hp8.keep K2 nin0)
  have Av11 := (Hp24.keep K2 nin0)
  have Av12 := (Hp23.keep K2 nin0)
  have Ex13 := (Hp37.keep K2)
  have Zz14 := (Nat.le_trans Z0 K2.1)
  have Kp15 := ((Keep.refl h0 [m2]).trans K2 all0)
  have Fd16 := (Hp2.keep K2 nin0)
  have Fd17 := (Hp22.keep K2 nin0)
  have Ex18 := (Hp25.keep K2)
  have Fd19 := (Hp30.keep K2 nin0)
  have Fd20 := (Hp31.keep K2 nin0)
  have Fd21 := (Hp32.keep K2 nin0)
  have Fd22 := (Hp34.keep K2 nin0)
  have Fd23 := (Hp35.keep K2 nin0)
  have Od24 := (Hp10.keep K2 all0)
  obtain ⟨cq3, kq3, q3a, q3b, q3c⟩ := isOf hZ rfl Ex9
  obtain ⟨_, _, ⟨T3, L3, k3, n3⟩, -, X3, ⟨Lc3, hQ3, l3, y3, z3⟩, st3⟩ := X2.virtualBack hx (y := (⟨"com/example/onesnap/onesnap/node/TransactionTracker", "statementKind", "([B)Lcom/example/onesnap/onesnap/node/StatementKind;"⟩ : MethodName)) (z := (⟨"com/example/onesnap/onesnap/node/TransactionTracker", "statementKind", "([B)Lcom/example/onesnap/onesnap/node/StatementKind;"⟩ : MethodName)) hown (mvT hZ (hw _ (tm 271 rfl))) (mvT hZ (hw _ (tm 272 rfl))) (notFace_of_selects (args := #[]) (mvT hZ (hw _ (tm 274 rfl)))) (mvT hZ (hw _ (tm 274 rfl))) (mvT hZ (hw _ (tm 273 rfl))) (by decide) (backOf (W := 2) (rm39 l Z a0 hw [] r0 r2 (m1) (t2) (kt2) (vs2) (kb2) (b2) (i2) (n2) (k2) (kv2) (kc2) (x) (iso) (utf) (cs) (s5) T2.heap n0 Zz14 Fd16 Ex6 Fd17 Av12 Av11 Ex18 hgd2 hix2 hat2 Ex8 Fd19 Fd20 Fd21 Ex4 Fd22 Fd23 Av5 Ex13 Od24 Hp11 Hp12 Hp13 hcs hne Hp16 Eiso Hp18) hZ (hw _ (tm 275 rfl)) (hw _ (tm 73 rfl)) (by decide) (by decide)) q3a q3c (g := (mkF m 10 (l_10 r0 r1 r2) [(.ref r2), (.ref r0), (.ref b2_y), (.ref m2)])) rfl (by rw [hml]; rfl) (Steps.refl _) (argsL := [(.ref r2)]) (rest := [(.ref b2_y), (.ref m2)]) (lenOf pd__28_5bB_29Lcom_2fexample_2fonesnap_2fonesnap_2fnode_2fStatementKind_3b rfl) rfl (by show 2 * 0 + _ ≤ _; exact Nat.le_of_eq rfl) (hb hby d38_10) (fun _ _ => ⟨rfl, rfl, (by decide : 2 + 2 ≤ _), (by decide : 5 + 5 ≤ _)⟩)
  dsimp only [Pt.U, Pt.locs, Pt.cells, Pt.slots] at X3 l3 y3 z3 st3 hQ3
  subst l3 y3 z3
  obtain ⟨rfl, N3q, K3⟩ := hQ3
  have N3 := Fr.app N2 N3q
  have Av26 := (Pc2_5.keep K3 nin0)
  have Ex27 := (Pc2_0.keep K3)
  have Ex28 := (Ex4.keep K3)
  have Av29 := (Av5.keep K3 nin0)
  have Ex30 := (Ex6.keep K3)
  have Ex31 := (Ex7.keep K3)
  have Ex32 := (Ex8.keep K3)
  have Ex33 := (Ex9.keep K3)
  have Av34 := (Av10.keep K3 nin0)
  have Av35 := (Av11.keep K3 nin0)
  have Av36 := (Av12.keep K3 nin0)
  have Ex37 := (Ex13.keep K3)
  have Zz38 := (Nat.le_trans Zz14 K3.1)
  have Kp39 := (Kp15.trans K3 all0)
  have Fd40 := ((Hp4.keep K2 nin0).keep K3 nin0)
  have Fd41 := ((Hp5.keep K2 nin0).keep K3 nin0)
  have Fd42 := ((Hp6.keep K2 nin0).keep K3 nin0)
  have Fd43 := ((Hp7.keep K2 nin0).keep K3 nin0)
  have Fd44 := (Pc2_1.keep K3 nin0)
  have Fd45 := (Pc2_2.keep K3 nin0)
  have Fd46 := (Pc2_3.keep K3 nin0)
  have Fd47 := (Pc2_4.keep K3 nin0)
  have Od48 := (Od24.keep K3 all0)
  obtain ⟨cq25, kq25, q25a, q25b, q25c⟩ := isOf hZ rfl Ex31
  obtain ⟨_, _, ⟨T25, L25, k25, n25⟩, -, X25, ⟨Lc25, hQ25, l25, y25, z25⟩, st25⟩ := X3.interfaceBack hx (xi := (⟨"java/util/Map", "put", "(Ljava/lang/Object;Ljava/lang/Object;)Ljava/lang/Object;"⟩ : MethodName)) (y := (⟨"java/util/HashMap", "put", "(Ljava/lang/Object;Ljava/lang/Object;)Ljava/lang/Object;"⟩ : MethodName)) hown (mvT hZ (hw _ (tm 190 rfl))) (mvT hZ (hw _ (tm 191 rfl))) (mvT hZ (hw _ (tm 192 rfl))) (mvT hZ (hw _ (tm 193 rfl))) (mvT hZ (hw _ (tm 194 rfl))) (mvT hZ (hw _ (tm 195 rfl))) (mvT hZ (hw _ (tm 196 rfl))) (mvT hZ (hw _ (tm 197 rfl))) (by decide) (backOf (W := 0) (rm28_f l Z a0 hw [] m2 b2_y x (b2_v1) (kb) (b) (cs) (i) T3.heap n0 Zz38 Ex31 Fd40 Fd41 Fd42 Fd43 Ex27 Fd44 Fd45 Fd46 Fd47 Av26 hgd Od48 Hp13 hcs hix Hp38 (Ne.symm ne_m2_b2_y) (Ne.symm ne_m2_b2_v1) g_b2_y (Ne.symm Pc2_6)) hZ (hw _ (tm 198 rfl)) (hw _ (tm 82 rfl)) (by decide) (by decide)) q25a q25b q25c (g := (mkF m 13 (l_10 r0 r1 r2) [(.ref x), (.ref b2_y), (.ref m2)])) rfl (by rw [hml]; rfl) (Steps.refl _) (argsL := [(.ref b2_y), (.ref x)]) (rest := []) (lenOf pd__28Ljava_2flang_2fObject_3bLjava_2flang_2fObject_3b_29Ljava_2flang_2fObject_3b rfl) rfl (by show 2 * 0 + _ ≤ _; exact Nat.le_of_eq rfl) (hb hby d38_13) (fun _ _ => ⟨rfl, rfl, (by decide : 4 + 2 ≤ _), (by decide : 10 + 20 ≤ _)⟩)
  dsimp only [Pt.U, Pt.locs, Pt.cells, Pt.slots] at X25 l25 y25 z25 st25 hQ25
  subst l25 y25 z25
  obtain ⟨b25_t, b25_kt, b25_n, rfl, N25q, K25, Sz25_t, Sz25_n, Pc25_0, Pc25_1, Pc25_2, Pc25_3, Pc25_4, Pc25_5, Pc25_6, Pc25_7, Pc25_8, Pc25_9, Pc25_10, Pc25_11, Pc25_12, Pc25_13, Pc25_14⟩ := hQ25
  have N25 := Fr.app N3 N25q
  have g_b25_t : n0 ≤ b25_t := Nat.le_trans Zz38 Sz25_t
  have sz_b25_t : h0.size ≤ b25_t := Nat.le_trans Kp39.1 Sz25_t
  have ne_b2_v1_b25_t : b2_v1 ≠ b25_t := Nat.ne_of_lt (Nat.lt_of_lt_of_le Av26.lt Sz25_t)
  have ne_b2_y_b25_t : b2_y ≠ b25_t := Nat.ne_of_lt (Nat.lt_of_lt_of_le Ex27.lt Sz25_t)
  have ne_k2_b25_t : k2 ≠ b25_t := Nat.ne_of_lt (Nat.lt_of_lt_of_le Ex28.lt Sz25_t)
  have ne_kv2_b25_t : kv2 ≠ b25_t := Nat.ne_of_lt (Nat.lt_of_lt_of_le Av29.lt Sz25_t)
  have ne_m1_b25_t : m1 ≠ b25_t := Nat.ne_of_lt (Nat.lt_of_lt_of_le Ex30.lt Sz25_t)
  have ne_m2_b25_t : m2 ≠ b25_t := Nat.ne_of_lt (Nat.lt_of_lt_of_le Ex31.lt Sz25_t)
  have ne_n2_b25_t : n2 ≠ b25_t := Nat.ne_of_lt (Nat.lt_of_lt_of_le Ex32.lt Sz25_t)
  have ne_r0_b25_t : r0 ≠ b25_t := Nat.ne_of_lt (Nat.lt_of_lt_of_le Ex33.lt Sz25_t)
  have ne_r1_b25_t : r1 ≠ b25_t := Nat.ne_of_lt (Nat.lt_of_lt_of_le Av34.lt Sz25_t)
  have ne_r2_b25_t : r2 ≠ b25_t := Nat.ne_of_lt (Nat.lt_of_lt_of_le Av35.lt Sz25_t)
  have ne_t2_b25_t : t2 ≠ b25_t := Nat.ne_of_lt (Nat.lt_of_lt_of_le Av36.lt Sz25_t)
  have ne_x_b25_t : x ≠ b25_t := Nat.ne_of_lt (Nat.lt_of_lt_of_le Ex37.lt Sz25_t)
  have g_b25_n : n0 ≤ b25_n := Nat.le_trans Zz38 Sz25_n
  have sz_b25_n : h0.size ≤ b25_n := Nat.le_trans Kp39.1 Sz25_n
  have ne_b2_v1_b25_n : b2_v1 ≠ b25_n := Nat.ne_of_lt (Nat.lt_of_lt_of_le Av26.lt Sz25_n)
  have ne_b2_y_b25_n : b2_y ≠ b25_n := Nat.ne_of_lt (Nat.lt_of_lt_of_le Ex27.lt Sz25_n)
  have ne_k2_b25_n : k2 ≠ b25_n := Nat.ne_of_lt (Nat.lt_of_lt_of_le Ex28.lt Sz25_n)
  have ne_kv2_b25_n : kv2 ≠ b25_n := Nat.ne_of_lt (Nat.lt_of_lt_of_le Av29.lt Sz25_n)
  have ne_m1_b25_n : m1 ≠ b25_n := Nat.ne_of_lt (Nat.lt_of_lt_of_le Ex30.lt Sz25_n)
  have ne_m2_b25_n : m2 ≠ b25_n := Nat.ne_of_lt (Nat.lt_of_lt_of_le Ex31.lt Sz25_n)
  have ne_n2_b25_n : n2 ≠ b25_n := Nat.ne_of_lt (Nat.lt_of_lt_of_le Ex32.lt Sz25_n)
  have ne_r0_b25_n : r0 ≠ b25_n := Nat.ne_of_lt (Nat.lt_of_lt_of_le Ex33.lt Sz25_n)
  have ne_r1_b25_n : r1 ≠ b25_n := Nat.ne_of_lt (Nat.lt_of_lt_of_le Av34.lt Sz25_n)
  have ne_r2_b25_n : r2 ≠ b25_n := Nat.ne_of_lt (Nat.lt_of_lt_of_le Av35.lt Sz25_n)
  have ne_t2_b25_n : t2 ≠ b25_n := Nat.ne_of_lt (Nat.lt_of_lt_of_le Av36.lt Sz25_n)
  have ne_x_b25_n : x ≠ b25_n := Nat.ne_of_lt (Nat.lt_of_lt_of_le Ex37.lt Sz25_n)
  have Av49 := (Av26.keep K25 (ninS (Ne.symm ne_m2_b2_v1) (ninS (Ne.symm Pc2_6) nin0)))
  have Kp50 := (Kp39.trans K25 (allS (Or.inl (tm 0 rfl)) (allS (Or.inr sz_b2_y) all0)))
  obtain ⟨fs, hr, hrun, hended, hW, hsame⟩ := X25.leave (v := none) (fun _ => rfl)
  refine ⟨_, _, pre0 _ ?_, hrun, hended, _, _, rfl, ?_, ⟨_, rfl⟩, hW, hsame.mono (by decide) (by decide)⟩
  · show Steps _ _ _ (s₁.setTop (mkF m 0 (l_10 r0 r1 r2) [])) _
    refine XS.aloadN X0.here hx rfl (hb hby d38_0) rfl rfl ?_
    show Steps _ _ _ (s₁.setTop (mkF m 1 (l_10 r0 r1 r2) [(.ref r0)])) _
    refine st1 _ ?_
    show Steps _ _ _ (T1.setTop (mkF m 4 (l_10 r0 r1 r2) [(.ref m2)])) _
    refine XS.aloadN X1.here hx rfl (hb hby d38_4) rfl rfl ?_
    show Steps _ _ _ (T1.setTop (mkF m 5 (l_10 r0 r1 r2) [(.ref r1), (.ref m2)])) _
    refine st2 _ ?_
    show Steps _ _ _ (T2.setTop (mkF m 8 (l_10 r0 r1 r2) [(.ref b2_y), (.ref m2)])) _
    refine XS.aloadN X2.here hx rfl (hb hby d38_8) rfl rfl ?_
    show Steps _ _ _ (T2.setTop (mkF m 9 (l_10 r0 r1 r2) [(.ref r0), (.ref b2_y), (.ref m2)])) _
    refine XS.aloadN X2.here hx rfl (hb hby d38_9) rfl rfl ?_
    show Steps _ _ _ (T2.setTop (mkF m 10 (l_10 r0 r1 r2) [(.ref r2), (.ref r0), (.ref b2_y), (.ref m2)])) _
    refine st3.trans ?_
    show Steps _ _ _ (T3.setTop (mkF m 13 (l_10 r0 r1 r2) [(.ref x), (.ref b2_y), (.ref m2)])) _
    refine st25.trans ?_
    show Steps _ _ _ (T25.setTop (mkF m 18 (l_10 r0 r1 r2) [.null])) _
    refine XS.pop X25.here hx rfl (hb hby d38_18) rfl rfl ?_
    show Steps _ _ _ (T25.setTop (mkF m 19 (l_10 r0 r1 r2) [])) _
    exact X25.returnOut hx Bd.returns (hb hby d38_19) hr
  · show Q38_f Z r0 r1 r2 m1 m2 kb b iso utf cs s5 i t2 kt2 vs2 kb2 b2 i2 n2 k2 kv2 kc2 x h0 n0 _ T25.heap _
    exact ⟨b25_t, b25_kt, b25_n, b2_y, b2_v1, rfl, N25, Kp50, sz_b25_t, sz_b25_n, sz_b2_y, sz_b2_v1, Pc25_0, Pc25_1, Pc25_2, Pc25_3, Pc25_4, Pc25_5, Pc25_6, Pc25_7, Pc25_8, Pc25_9, Pc25_10, Pc25_11, Pc25_12, Pc25_13, Av49, Pc25_14, (Ne.symm ne_b2_y_b25_t), (Ne.symm ne_b2_v1_b25_t)⟩
def Q38_s (Z : State) (r0 : Addr) (r1 : Addr) (r2 : Addr) (m1 : Addr) (m2 : Addr) (kb : ClassId) (b : Int32) (iso : Addr) (utf : Addr) (cs : Int32) (s5 : Addr) (i : Nat) (t2 : Addr) (kt2 : ClassId) (vs2 : List Value) (kb2 : ClassId) (b2 : Int32) (i2 : Nat) (n2 : Addr) (k2 : Addr) (kv2 : Addr) (kc2 : ClassId) (x : Addr) (t : Addr) (kt : ClassId) (vs : List Value) (h0 : Heap) (n0 : Nat) (v : Option Value) (h : Heap) (L : List Loc) : Prop := ∃ n : Addr, ∃ y : Addr, ∃ v1 : Addr, v = none ∧ Fr n0 L ∧ Keep h0 h [m2, t] ∧ h0.size ≤ n ∧ h0.size ≤ y ∧ h0.size ≤ v1 ∧ Exa Z h m2 "java/util/HashMap" ∧ Fld Z h m2 "java/util/HashMap" "table" "[Ljava/util/HashMap$Node;" (.ref t) ∧ Fld Z h m2 "java/util/HashMap" "threshold" "I" (.int (12 : Int32)) ∧ Fld Z h m2 "java/util/HashMap" "size" "I" (.int (2 : Int32)) ∧ Fld Z h m2 "java/util/HashMap" "modCount" "I" (.int (2 : Int32)) ∧ Arv Z h t kt (.object "java/util/HashMap$Node") (16 : Int32) (vs.set i (.ref n)) .null ∧ Exa Z h n "java/util/HashMap$Node" ∧ Fld Z h n "java/util/HashMap$Node" "hash" "I" (.int b) ∧ Fld Z h n "java/util/HashMap$Node" "key" "Ljava/lang/Object;" (.ref y) ∧ Fld Z h n "java/util/HashMap$Node" "value" "Ljava/lang/Object;" (.ref x) ∧ Exa Z h y "java/lang/String" ∧ Fld Z h y "java/lang/String" "value" "[B" (.ref v1) ∧ Fld Z h y "java/lang/String" "coder" "B" (.int (0 : Int32)) ∧ Arv Z h v1 kb .byte (1 : Int32) [(.int b)] (.int (0 : Int32))
theorem ef_38_s (m : MethodId) (r0 : Addr) (r1 : Addr) (r2 : Addr) : entryFrame m #[(.ref r0), (.ref r1), (.ref r2)] 3 = mkF m 0 #[.val (.ref r0), .val (.ref r1), .val (.ref r2)] [] := by first | (simp [entryFrame, mkF, argsToLocals, Value.category]; done) | rfl
set_option maxRecDepth 65536 in
set_option maxHeartbeats 40000000 in
theorem rm38_s (l : Launch) (Z : State) (a0 : Array Value) (hw : ∀ d ∈ tables_1, d.before a0 Z = true) (ws : List Jvm.Cond) (r0 : Addr) (r1 : Addr) (r2 : Addr) (m1 : Addr) (m2 : Addr) (kb : ClassId) (b : Int32) (iso : Addr) (utf : Addr) (cs : Int32) (s5 : Addr) (i : Nat) (t2 : Addr) (kt2 : ClassId) (vs2 : List Value) (kb2 : ClassId) (b2 : Int32) (i2 : Nat) (n2 : Addr) (k2 : Addr) (kv2 : Addr) (kc2 : ClassId) (x : Addr) (t : Addr) (kt : ClassId) (vs : List Value) (h0 : Heap) (n0 : Nat) (Z0 : n0 ≤ h0.size) (Hp0 : Exa Z h0 r0 "com/example/onesnap/onesnap/node/TransactionTracker") (Hp1 : Fld Z h0 r0 "com/example/onesnap/onesnap/node/TransactionTracker" "portals" "Ljava/util/Map;" (.ref m2)) (Hp2 : Fld Z h0 r0 "com/example/onesnap/onesnap/node/TransactionTracker" "statements" "Ljava/util/Map;" (.ref m1)) (Hp3 : Exa Z h0 m2 "java/util/HashMap") (Hp4 : Fld Z h0 m2 "java/util/HashMap" "table" "[Ljava/util/HashMap$Node;" (.ref t)) (Hp5 : Fld Z h0 m2 "java/util/HashMap" "threshold" "I" (.int (12 : Int32))) (Hp6 : Fld Z h0 m2 "java/util/HashMap" "size" "I" (.int (1 : Int32))) (Hp7 : Fld Z h0 m2 "java/util/HashMap" "modCount" "I" (.int (1 : Int32))) (Hp8 : Arv Z h0 t kt (.object "java/util/HashMap$Node") (16 : Int32) vs .null) (Hp9 : Ovr Z kt "java/util/HashMap$Node") (Hp10 : Arv Z h0 r1 kb .byte (1 : Int32) [(.int b)] (.int (0 : Int32))) (Hp11 : Exa Z h0 r1 "[B") (Hp12 : Old Z n0 h0) (Hp13 : Sta Z Z.heap "sun/nio/cs/UTF_8" "INSTANCE" "Lsun/nio/cs/UTF_8;" (.ref utf)) (Hp14 : Sta Z Z.heap "sun/nio/cs/ISO_8859_1" "INSTANCE" "Lsun/nio/cs/ISO_8859_1;" (.ref iso)) (Hp15 : Sta Z Z.heap "java/lang/String" "COMPACT_STRINGS" "Z" (.int cs)) (hcs : ¬ cs = (0 : Int32)) (hne : ¬ iso = utf) (Hp18 : Sta Z Z.heap "java/nio/charset/StandardCharsets" "ISO_8859_1" "Ljava/nio/charset/Charset;" (.ref iso)) (Eiso : Exa Z Z.heap iso "sun/nio/cs/ISO_8859_1") (Hp20 : Sta Z Z.heap "com/example/onesnap/onesnap/node/StatementKind" "WRITE" "Lcom/example/onesnap/onesnap/node/StatementKind;" (.ref s5)) (hgd : Gd b) (hix : Ix b i) (hfree : vs.getD i Value.null = Value.null) (hlen : vs.length = 16) (Hp25 : Exa Z h0 m1 "java/util/HashMap") (Hp26 : Fld Z h0 m1 "java/util/HashMap" "table" "[Ljava/util/HashMap$Node;" (.ref t2)) (Hp27 : Arv Z h0 t2 kt2 (.object "java/util/HashMap$Node") (16 : Int32) vs2 .null) (Hp28 : Arv Z h0 r2 kb2 .byte (1 : Int32) [(.int b2)] (.int (0 : Int32))) (Hp29 : Exa Z h0 r2 "[B") (hgd2 : Gd b2) (hix2 : Ix b2 i2) (hat2 : vs2.getD i2 Value.null = .ref n2) (Hp33 : Exa Z h0 n2 "java/util/HashMap$Node") (Hp34 : Fld Z h0 n2 "java/util/HashMap$Node" "hash" "I" (.int b2)) (Hp35 : Fld Z h0 n2 "java/util/HashMap$Node" "key" "Ljava/lang/Object;" (.ref k2)) (Hp36 : Fld Z h0 n2 "java/util/HashMap$Node" "value" "Ljava/lang/Object;" (.ref x)) (Hp37 : Exa Z h0 k2 "java/lang/String") (Hp38 : Fld Z h0 k2 "java/lang/String" "value" "[B" (.ref kv2)) (Hp39 : Fld Z h0 k2 "java/lang/String" "coder" "B" (.int (0 : Int32))) (Hp40 : Arv Z h0 kv2 kc2 .byte (1 : Int32) [(.int b2)] (.int (0 : Int32))) (Hp41 : Exa Z h0 x "com/example/onesnap/onesnap/node/StatementKind") (Hp42 : n0 ≤ m2) (Hp43 : r0 ≠ m2) (Hp44 : t ≠ m2) (Hp45 : r1 ≠ m2) (Hp46 : m1 ≠ m2) (Hp47 : t2 ≠ m2) (Hp48 : r2 ≠ m2) (Hp49 : n2 ≠ m2) (Hp50 : k2 ≠ m2) (Hp51 : kv2 ≠ m2) (Hp52 : n0 ≤ t) (Hp53 : r0 ≠ t) (Hp54 : r1 ≠ t) (Hp55 : m1 ≠ t) (Hp56 : t2 ≠ t) (Hp57 : r2 ≠ t) (Hp58 : n2 ≠ t) (Hp59 : k2 ≠ t) (Hp60 : kv2 ≠ t) :
    MetFree l (⟨"com/example/onesnap/onesnap/node/TransactionTracker", "bound", "([B[B)V"⟩ : MethodName) (head1 (Jvm.Cond.code (⟨"com/example/onesnap/onesnap/node/TransactionTracker", "bound", "([B[B)V"⟩ : MethodName) prog_49_method_9_code 3 none :: ws) ({ frames := 6, cells := 5, slots := 14, locals := 94 } : Room)) (fun a U => a = #[(.ref r0), (.ref r1), (.ref r2)] ∧ Z.Warmed39 U.vm ∧ U.heap = h0) (fun _ _ _ _ _ => True) (fun _ U o U' => ∃ v L, o = .returned v ∧ Q38_s Z r0 r1 r2 m1 m2 kb b iso utf cs s5 i t2 kt2 vs2 kb2 b2 i2 n2 k2 kv2 kc2 x t kt vs h0 n0 v U'.heap L ∧ FrameEnd U o U' L ({ frames := 6, cells := 5, slots := 14, locals := 94 } : Room).cells ({ frames := 6, cells := 5, slots := 14, locals := 94 } : Room).slots) := by
  refine MetFree.of_bodySF (plainFor_of_name pn_com_example_onesnap_onesnap_node_TransactionTracker) hisR ?_
  intro p e s m args below meth c s₁ Bd hml0 hP hK
  obtain ⟨rfl, hZ, hh⟩ := hP
  have hx := Bd.exec
  have hby := Bd.bytes
  have hml : c.maxLocals = 3 := hml0
  have hown : s.vm.findClass "com/example/onesnap/onesnap/node/TransactionTracker" = some m.cls := findClass_of_methodNamed Bd.named
  have hnm := (name_of_methodNamed Bd.named Bd.method).1
  have X0 : Stand p l e ({ frames := 6, cells := 5, slots := 14, locals := 94 } : Room) s m #[(.ref r0), (.ref r1), (.ref r2)] below meth c s₁ [] 0 0 := Stand.of_body Bd
  have e0 : s₁.heap = h0 := by rw [← hh, Bd.state]; rfl
  have N0 := Fr.nil n0
  have pre0 : ∀ t, Steps p.tables e below (s₁.setTop (mkF m 0 (l_10 r0 r1 r2) [])) t → Steps p.tables e below (s₁.setTop (entryFrame m #[(.ref r0), (.ref r1), (.ref r2)] 3)) t := fun t k => castTop (ef_38_s m r0 r1 r2) k
  obtain ⟨T1, X1, e1, st1⟩ := getF X0 hx hZ hown (host := "") (Or.inl (hw _ (tm 98 rfl))) Via.refl e0 Hp1 (g := (mkF m 1 (l_10 r0 r1 r2) [(.ref r0)])) rfl rfl (hb hby d38_1)
  obtain ⟨_, _, ⟨T2, L2, k2, n2⟩, -, X2, ⟨Lc2, hQ2, l2, y2, z2⟩, st2⟩ := Jvm.LawKit.callS X1 hx (y := (⟨"com/example/onesnap/onesnap/node/TransactionTracker", "name", "([B)Ljava/lang/String;"⟩ : MethodName)) hown (mvT hZ (hw _ (tm 112 rfl))) (mvT hZ (hw _ (tm 113 rfl))) (mvT hZ (hw _ (tm 73 rfl))) (mvT hZ (hw _ (tm 114 rfl))) (by decide) (backOf (W := 1) (rm17 l Z a0 hw [] r1 (kb) (b) (iso) (utf) (cs) h0 n0 Z0 Hp10 Hp11 Hp12 Hp13 Hp14 Hp15 hcs hne Hp18 Eiso) hZ (hw _ (tm 114 rfl)) (hw _ (tm 73 rfl)) (by decide) (by decide)) (g := (mkF m 5 (l_10 r0 r1 r2) [(.ref r1), (.ref m2)])) rfl (by rw [hml]; rfl) (argsL := [(.ref r1)]) (rest := [(.ref m2)]) (lenOf pd__28_5bB_29Ljava_2flang_2fString_3b rfl) rfl (by show 2 * 0 + _ ≤ _; exact Nat.le_of_eq rfl) (hb hby d38_5) (fun _ _ => ⟨rfl, e1, (by decide : 0 + 2 ≤ _), (by decide : 0 + 5 ≤ _)⟩)
  dsimp only [Pt.U, Pt.locs, Pt.cells, Pt.slots] at X2 l2 y2 z2 st2 hQ2
  subst l2 y2 z2
  obtain ⟨b2_y, b2_v1, rfl, N2q, K2, Sz2_y, Sz2_v1, Pc2_0, Pc2_1, Pc2_2, Pc2_3, Pc2_4, Pc2_5, Pc2_6⟩ := hQ2
  have N2 := Fr.app N0 N2q
  have g_b2_y : n0 ≤ b2_y := Nat.le_trans Z0 Sz2_y
  have sz_b2_y : h0.size ≤ b2_y := Nat.le_trans (Keep.refl h0 [m2, t]).1 Sz2_y
  have ne_k2_b2_y : k2 ≠ b2_y := Nat.ne_of_lt (Nat.lt_of_lt_of_le Hp37.lt Sz2_y)
  have ne_kv2_b2_y : kv2 ≠ b2_y := Nat.ne_of_lt (Nat.lt_of_lt_of_le Hp40.lt Sz2_y)
  have ne_m1_b2_y : m1 ≠ b2_y := Nat.ne_of_lt (Nat.lt_of_lt_of_le Hp25.lt Sz2_y)
  have ne_m2_b2_y : m2 ≠ b2_y := Nat.ne_of_lt (Nat.lt_of_lt_of_le Hp3.lt Sz2_y)
  have ne_n2_b2_y : n2 ≠ b2_y := Nat.ne_of_lt (Nat.lt_of_lt_of_le Hp33.lt Sz2_y)
  have ne_r0_b2_y : r0 ≠ b2_y := Nat.ne_of_lt (Nat.lt_of_lt_of_le Hp0.lt Sz2_y)
  have ne_r1_b2_y : r1 ≠ b2_y := Nat.ne_of_lt (Nat.lt_of_lt_of_le Hp10.lt Sz2_y)
  have ne_r2_b2_y : r2 ≠ b2_y := Nat.ne_of_lt (Nat.lt_of_lt_of_le Hp28.lt Sz2_y)
  have ne_t_b2_y : t ≠ b2_y := Nat.ne_of_lt (Nat.lt_of_lt_of_le Hp8.lt Sz2_y)
  have ne_t2_b2_y : t2 ≠ b2_y := Nat.ne_of_lt (Nat.lt_of_lt_of_le Hp27.lt Sz2_y)
  have ne_x_b2_y : x ≠ b2_y := Nat.ne_of_lt (Nat.lt_of_lt_of_le Hp41.lt Sz2_y)
  have g_b2_v1 : n0 ≤ b2_v1 := Nat.le_trans Z0 Sz2_v1
  have sz_b2_v1 : h0.size ≤ b2_v1 := Nat.le_trans (Keep.refl h0 [m2, t]).1 Sz2_v1
  have ne_k2_b2_v1 : k2 ≠ b2_v1 := Nat.ne_of_lt (Nat.lt_of_lt_of_le Hp37.lt Sz2_v1)
  have ne_kv2_b2_v1 : kv2 ≠ b2_v1 := Nat.ne_of_lt (Nat.lt_of_lt_of_le Hp40.lt Sz2_v1)
  have ne_m1_b2_v1 : m1 ≠ b2_v1 := Nat.ne_of_lt (Nat.lt_of_lt_of_le Hp25.lt Sz2_v1)
  have ne_m2_b2_v1 : m2 ≠ b2_v1 := Nat.ne_of_lt (Nat.lt_of_lt_of_le Hp3.lt Sz2_v1)
  have ne_n2_b2_v1 : n2 ≠ b2_v1 := Nat.ne_of_lt (Nat.lt_of_lt_of_le Hp33.lt Sz2_v1)
  have ne_r0_b2_v1 : r0 ≠ b2_v1 := Nat.ne_of_lt (Nat.lt_of_lt_of_le Hp0.lt Sz2_v1)
  have ne_r1_b2_v1 : r1 ≠ b2_v1 := Nat.ne_of_lt (Nat.lt_of_lt_of_le Hp10.lt Sz2_v1)
  have ne_r2_b2_v1 : r2 ≠ b2_v1 := Nat.ne_of_lt (Nat.lt_of_lt_of_le Hp28.lt Sz2_v1)
  have ne_t_b2_v1 : t ≠ b2_v1 := Nat.ne_of_lt (Nat.lt_of_lt_of_le Hp8.lt Sz2_v1)
  have ne_t2_b2_v1 : t2 ≠ b2_v1 := Nat.ne_of_lt (Nat.lt_of_lt_of_le Hp27.lt Sz2_v1)
  have ne_x_b2_v1 : x ≠ b2_v1 := Nat.ne_of_lt (Nat.lt_of_lt_of_le Hp41.lt Sz2_v1)
  have Ex4 := (Hp37.keep K2)
  have Av5 := (Hp40.keep K2 nin0)
  have Ex6 := (Hp25.keep K2)
  have Ex7 := (Hp3.keep K2)
  have Ex8 := (Hp33.keep K2)
  have Ex9 := (Hp0.keep K2)
  have Av10 := (Hp10.keep K2 nin0)
  have Av11 := (Hp28.keep K2 nin0)
  have Av12 := (Hp8.keep K2 nin0)
  have Av13 := (Hp27.keep K2 nin0)
  have Ex14 := (Hp41.keep K2)
  have Zz15 := (Nat.le_trans Z0 K2.1)
  have Kp16 := ((Keep.refl h0 [m2, t]).trans K2 all0)
  have Fd17 := (Hp2.keep K2 nin0)
  have Fd18 := (Hp26.keep K2 nin0)
  have Ex19 := (Hp29.keep K2)
  have Fd20 := (Hp34.keep K2 nin0)
  have Fd21 := (Hp35.keep K2 nin0)
  have Fd22 := (Hp36.keep K2 nin0)
  have Fd23 := (Hp38.keep K2 nin0)
  have Fd24 := (Hp39.keep K2 nin0)
  have Od25 := (Hp12.keep K2 all0)
  obtain ⟨cq3, kq3, q3a, q3b, q3c⟩ := isOf hZ rfl Ex9
  obtain ⟨_, _, ⟨T3, L3, k3, n3⟩, -, X3, ⟨Lc3, hQ3, l3, y3, z3⟩, st3⟩ := X2.virtualBack hx (y := (⟨"com/example/onesnap/onesnap/node/TransactionTracker", "statementKind", "([B)Lcom/example/onesnap/onesnap/node/StatementKind;"⟩ : MethodName)) (z := (⟨"com/example/onesnap/onesnap/node/TransactionTracker", "statementKind", "([B)Lcom/example/onesnap/onesnap/node/StatementKind;"⟩ : MethodName)) hown (mvT hZ (hw _ (tm 271 rfl))) (mvT hZ (hw _ (tm 272 rfl))) (notFace_of_selects (args := #[]) (mvT hZ (hw _ (tm 274 rfl)))) (mvT hZ (hw _ (tm 274 rfl))) (mvT hZ (hw _ (tm 273 rfl))) (by decide) (backOf (W := 2) (rm39 l Z a0 hw [] r0 r2 (m1) (t2) (kt2) (vs2) (kb2) (b2) (i2) (n2) (k2) (kv2) (kc2) (x) (iso) (utf) (cs) (s5) T2.heap n0 Zz15 Fd17 Ex6 Fd18 Av13 Av11 Ex19 hgd2 hix2 hat2 Ex8 Fd20 Fd21 Fd22 Ex4 Fd23 Fd24 Av5 Ex14 Od25 Hp13 Hp14 Hp15 hcs hne Hp18 Eiso Hp20) hZ (hw _ (tm 275 rfl)) (hw _ (tm 73 rfl)) (by decide) (by decide)) q3a q3c (g := (mkF m 10 (l_10 r0 r1 r2) [(.ref r2), (.ref r0), (.ref b2_y), (.ref m2)])) rfl (by rw [hml]; rfl) (Steps.refl _) (argsL := [(.ref r2)]) (rest := [(.ref b2_y), (.ref m2)]) (lenOf pd__28_5bB_29Lcom_2fexample_2fonesnap_2fonesnap_2fnode_2fStatementKind_3b rfl) rfl (by show 2 * 0 + _ ≤ _; exact Nat.le_of_eq rfl) (hb hby d38_10) (fun _ _ => ⟨rfl, rfl, (by decide : 2 + 2 ≤ _), (by decide : 5 + 5 ≤ _)⟩)
  dsimp only [Pt.U, Pt.locs, Pt.cells, Pt.slots] at X3 l3 y3 z3 st3 hQ3
  subst l3 y3 z3
  obtain ⟨rfl, N3q, K3⟩ := hQ3
  have N3 := Fr.app N2 N3q
  have Av27 := (Pc2_5.keep K3 nin0)
  have Ex28 := (Pc2_0.keep K3)
  have Ex29 := (Ex4.keep K3)
  have Av30 := (Av5.keep K3 nin0)
  have Ex31 := (Ex6.keep K3)
  have Ex32 := (Ex7.keep K3)
  have Ex33 := (Ex8.keep K3)
  have Ex34 := (Ex9.keep K3)
  have Av35 := (Av10.keep K3 nin0)
  have Av36 := (Av11.keep K3 nin0)
  have Av37 := (Av12.keep K3 nin0)
  have Av38 := (Av13.keep K3 nin0)
  have Ex39 := (Ex14.keep K3)
  have Zz40 := (Nat.le_trans Zz15 K3.1)
  have Kp41 := (Kp16.trans K3 all0)
  have Fd42 := ((Hp4.keep K2 nin0).keep K3 nin0)
  have Fd43 := ((Hp5.keep K2 nin0).keep K3 nin0)
  have Fd44 := ((Hp6.keep K2 nin0).keep K3 nin0)
  have Fd45 := ((Hp7.keep K2 nin0).keep K3 nin0)
  have Fd46 := (Pc2_1.keep K3 nin0)
  have Fd47 := (Pc2_2.keep K3 nin0)
  have Fd48 := (Pc2_3.keep K3 nin0)
  have Fd49 := (Pc2_4.keep K3 nin0)
  have Od50 := (Od25.keep K3 all0)
  obtain ⟨cq26, kq26, q26a, q26b, q26c⟩ := isOf hZ rfl Ex32
  obtain ⟨_, _, ⟨T26, L26, k26, n26⟩, -, X26, ⟨Lc26, hQ26, l26, y26, z26⟩, st26⟩ := X3.interfaceBack hx (xi := (⟨"java/util/Map", "put", "(Ljava/lang/Object;Ljava/lang/Object;)Ljava/lang/Object;"⟩ : MethodName)) (y := (⟨"java/util/HashMap", "put", "(Ljava/lang/Object;Ljava/lang/Object;)Ljava/lang/Object;"⟩ : MethodName)) hown (mvT hZ (hw _ (tm 190 rfl))) (mvT hZ (hw _ (tm 191 rfl))) (mvT hZ (hw _ (tm 192 rfl))) (mvT hZ (hw _ (tm 193 rfl))) (mvT hZ (hw _ (tm 194 rfl))) (mvT hZ (hw _ (tm 195 rfl))) (mvT hZ (hw _ (tm 196 rfl))) (mvT hZ (hw _ (tm 197 rfl))) (by decide) (backOf (W := 0) (rm28_s l Z a0 hw [] m2 b2_y x (b2_v1) (kb) (b) (cs) (i) (t) (kt) (vs) T3.heap n0 Zz40 Ex32 Fd42 Fd43 Fd44 Fd45 Av37 Hp9 Ex28 Fd46 Fd47 Fd48 Fd49 Av27 hgd Od50 Hp15 hcs hix hfree hlen Hp42 Hp44 (Ne.symm ne_m2_b2_y) (Ne.symm ne_m2_b2_v1) Hp52 (Ne.symm ne_t_b2_y) (Ne.symm ne_t_b2_v1) g_b2_y (Ne.symm Pc2_6)) hZ (hw _ (tm 198 rfl)) (hw _ (tm 82 rfl)) (by decide) (by decide)) q26a q26b q26c (g := (mkF m 13 (l_10 r0 r1 r2) [(.ref x), (.ref b2_y), (.ref m2)])) rfl (by rw [hml]; rfl) (Steps.refl _) (argsL := [(.ref b2_y), (.ref x)]) (rest := []) (lenOf pd__28Ljava_2flang_2fObject_3bLjava_2flang_2fObject_3b_29Ljava_2flang_2fObject_3b rfl) rfl (by show 2 * 0 + _ ≤ _; exact Nat.le_of_eq rfl) (hb hby d38_13) (fun _ _ => ⟨rfl, rfl, (by decide : 4 + 1 ≤ _), (by decide : 10 + 4 ≤ _)⟩)
  dsimp only [Pt.U, Pt.locs, Pt.cells, Pt.slots] at X26 l26 y26 z26 st26 hQ26
  subst l26 y26 z26
  obtain ⟨b26_n, rfl, N26q, K26, Sz26_n, Pc26_0, Pc26_1, Pc26_2, Pc26_3, Pc26_4, Pc26_5, Pc26_6, Pc26_7, Pc26_8, Pc26_9, Pc26_10, Pc26_11, Pc26_12⟩ := hQ26
  have N26 := Fr.app N3 N26q
  have g_b26_n : n0 ≤ b26_n := Nat.le_trans Zz40 Sz26_n
  have sz_b26_n : h0.size ≤ b26_n := Nat.le_trans Kp41.1 Sz26_n
  have ne_b2_v1_b26_n : b2_v1 ≠ b26_n := Nat.ne_of_lt (Nat.lt_of_lt_of_le Av27.lt Sz26_n)
  have ne_b2_y_b26_n : b2_y ≠ b26_n := Nat.ne_of_lt (Nat.lt_of_lt_of_le Ex28.lt Sz26_n)
  have ne_k2_b26_n : k2 ≠ b26_n := Nat.ne_of_lt (Nat.lt_of_lt_of_le Ex29.lt Sz26_n)
  have ne_kv2_b26_n : kv2 ≠ b26_n := Nat.ne_of_lt (Nat.lt_of_lt_of_le Av30.lt Sz26_n)
  have ne_m1_b26_n : m1 ≠ b26_n := Nat.ne_of_lt (Nat.lt_of_lt_of_le Ex31.lt Sz26_n)
  have ne_m2_b26_n : m2 ≠ b26_n := Nat.ne_of_lt (Nat.lt_of_lt_of_le Ex32.lt Sz26_n)
  have ne_n2_b26_n : n2 ≠ b26_n := Nat.ne_of_lt (Nat.lt_of_lt_of_le Ex33.lt Sz26_n)
  have ne_r0_b26_n : r0 ≠ b26_n := Nat.ne_of_lt (Nat.lt_of_lt_of_le Ex34.lt Sz26_n)
  have ne_r1_b26_n : r1 ≠ b26_n := Nat.ne_of_lt (Nat.lt_of_lt_of_le Av35.lt Sz26_n)
  have ne_r2_b26_n : r2 ≠ b26_n := Nat.ne_of_lt (Nat.lt_of_lt_of_le Av36.lt Sz26_n)
  have ne_t_b26_n : t ≠ b26_n := Nat.ne_of_lt (Nat.lt_of_lt_of_le Av37.lt Sz26_n)
  have ne_t2_b26_n : t2 ≠ b26_n := Nat.ne_of_lt (Nat.lt_of_lt_of_le Av38.lt Sz26_n)
  have ne_x_b26_n : x ≠ b26_n := Nat.ne_of_lt (Nat.lt_of_lt_of_le Ex39.lt Sz26_n)
  have Av51 := (Av27.keep K26 (ninS (Ne.symm ne_m2_b2_v1) (ninS (Ne.symm ne_t_b2_v1) (ninS (Ne.symm Pc2_6) nin0))))
  have Kp52 := (Kp41.trans K26 (allS (Or.inl (tm 0 rfl)) (allS (Or.inl (tm 1 rfl)) (allS (Or.inr sz_b2_y) all0))))
  obtain ⟨fs, hr, hrun, hended, hW, hsame⟩ := X26.leave (v := none) (fun _ => rfl)
  refine ⟨_, _, pre0 _ ?_, hrun, hended, _, _, rfl, ?_, ⟨_, rfl⟩, hW, hsame.mono (by decide) (by decide)⟩
  · show Steps _ _ _ (s₁.setTop (mkF m 0 (l_10 r0 r1 r2) [])) _
    refine XS.aloadN X0.here hx rfl (hb hby d38_0) rfl rfl ?_
    show Steps _ _ _ (s₁.setTop (mkF m 1 (l_10 r0 r1 r2) [(.ref r0)])) _
    refine st1 _ ?_
    show Steps _ _ _ (T1.setTop (mkF m 4 (l_10 r0 r1 r2) [(.ref m2)])) _
    refine XS.aloadN X1.here hx rfl (hb hby d38_4) rfl rfl ?_
    show Steps _ _ _ (T1.setTop (mkF m 5 (l_10 r0 r1 r2) [(.ref r1), (.ref m2)])) _
    refine st2 _ ?_
    show Steps _ _ _ (T2.setTop (mkF m 8 (l_10 r0 r1 r2) [(.ref b2_y), (.ref m2)])) _
    refine XS.aloadN X2.here hx rfl (hb hby d38_8) rfl rfl ?_
    show Steps _ _ _ (T2.setTop (mkF m 9 (l_10 r0 r1 r2) [(.ref r0), (.ref b2_y), (.ref m2)])) _
    refine XS.aloadN X2.here hx rfl (hb hby d38_9) rfl rfl ?_
    show Steps _ _ _ (T2.setTop (mkF m 10 (l_10 r0 r1 r2) [(.ref r2), (.ref r0), (.ref b2_y), (.ref m2)])) _
    refine st3.trans ?_
    show Steps _ _ _ (T3.setTop (mkF m 13 (l_10 r0 r1 r2) [(.ref x), (.ref b2_y), (.ref m2)])) _
    refine st26.trans ?_
    show Steps _ _ _ (T26.setTop (mkF m 18 (l_10 r0 r1 r2) [.null])) _
    refine XS.pop X26.here hx rfl (hb hby d38_18) rfl rfl ?_
    show Steps _ _ _ (T26.setTop (mkF m 19 (l_10 r0 r1 r2) [])) _
    exact X26.returnOut hx Bd.returns (hb hby d38_19) hr
  · show Q38_s Z r0 r1 r2 m1 m2 kb b iso utf cs s5 i t2 kt2 vs2 kb2 b2 i2 n2 k2 kv2 kc2 x t kt vs h0 n0 _ T26.heap _
    exact ⟨b26_n, b2_y, b2_v1, rfl, N26, Kp52, sz_b26_n, sz_b2_y, sz_b2_v1, Pc26_0, Pc26_1, Pc26_2, Pc26_3, Pc26_4, Pc26_5, Pc26_6, Pc26_7, Pc26_8, Pc26_9, Pc26_10, Pc26_11, Pc26_12, Av51⟩
def exS (sv wr : Int32) (x s0 s1 s3 s5 : Addr) : Int32 := (if x = s0 then (if sv = (73 : Int32) then (84 : Int32) else (if x = s1 then (73 : Int32) else (if x = s3 then (73 : Int32) else (if x = s5 then sv else sv)))) else (if x = s1 then (73 : Int32) else (if x = s3 then (73 : Int32) else (if x = s5 then sv else sv))))
def exW (sv wr : Int32) (x s0 s1 s3 s5 : Addr) : Int32 := (if x = s0 then (if sv = (73 : Int32) then wr else (if x = s1 then wr else (if x = s3 then wr else (if x = s5 then (1 : Int32) else wr)))) else (if x = s1 then wr else (if x = s3 then wr else (if x = s5 then (1 : Int32) else wr))))
def Q44 (Z : State) (r0 : Addr) (r1 : Addr) (sv : Int32) (wr : Int32) (m2 : Addr) (m1 : Addr) (t : Addr) (kt : ClassId) (vs : List Value) (kb : ClassId) (b : Int32) (i : Nat) (n : Addr) (k : Addr) (kv : Addr) (kc : ClassId) (x : Addr) (iso : Addr) (utf : Addr) (cs : Int32) (s5 : Addr) (s0 : Addr) (s1 : Addr) (s3 : Addr) (h0 : Heap) (n0 : Nat) (v : Option Value) (h : Heap) (L : List Loc) : Prop := v = none ∧ Fr n0 L ∧ Keep h0 h [r0] ∧ Exa Z h r0 "com/example/onesnap/onesnap/node/TransactionTracker" ∧ Fld Z h r0 "com/example/onesnap/onesnap/node/TransactionTracker" "status" "C" (.int (exS sv wr x s0 s1 s3 s5)) ∧ Fld Z h r0 "com/example/onesnap/onesnap/node/TransactionTracker" "statements" "Ljava/util/Map;" (.ref m2) ∧ Fld Z h r0 "com/example/onesnap/onesnap/node/TransactionTracker" "portals" "Ljava/util/Map;" (.ref m1) ∧ Fld Z h r0 "com/example/onesnap/onesnap/node/TransactionTracker" "writes" "Z" (.int (exW sv wr x s0 s1 s3 s5))
theorem d44_0 : decode prog_49_method_11_code 0 = .ok (.aload_n 0, 1) := by decide +kernel
theorem d44_1 : decode prog_49_method_11_code 1 = .ok (.aload_n 1, 1) := by decide +kernel
theorem d44_2 : decode prog_49_method_11_code 2 = .ok (.invokevirtual 96, 3) := by decide +kernel
theorem d44_5 : decode prog_49_method_11_code 5 = .ok (.astore_n 2, 1) := by decide +kernel
theorem d44_6 : decode prog_49_method_11_code 6 = .ok (.aload_n 2, 1) := by decide +kernel
theorem d44_7 : decode prog_49_method_11_code 7 = .ok (.getstatic 47, 3) := by decide +kernel
theorem d44_10 : decode prog_49_method_11_code 10 = .ok (.if_acmp .ne 21, 3) := by decide +kernel
theorem d44_13 : decode prog_49_method_11_code 13 = .ok (.aload_n 0, 1) := by decide +kernel
theorem d44_14 : decode prog_49_method_11_code 14 = .ok (.getfield 7, 3) := by decide +kernel
theorem d44_17 : decode prog_49_method_11_code 17 = .ok (.bipush 73, 2) := by decide +kernel
theorem d44_19 : decode prog_49_method_11_code 19 = .ok (.if_icmp .ne 12, 3) := by decide +kernel
theorem d44_22 : decode prog_49_method_11_code 22 = .ok (.aload_n 0, 1) := by decide +kernel
theorem d44_23 : decode prog_49_method_11_code 23 = .ok (.bipush 84, 2) := by decide +kernel
theorem d44_25 : decode prog_49_method_11_code 25 = .ok (.putfield 7, 3) := by decide +kernel
theorem d44_28 : decode prog_49_method_11_code 28 = .ok (.goto 38, 3) := by decide +kernel
theorem d44_66 : decode prog_49_method_11_code 66 = .ok (.return_, 1) := by decide +kernel
theorem d44_31 : decode prog_49_method_11_code 31 = .ok (.aload_n 2, 1) := by decide +kernel
theorem d44_32 : decode prog_49_method_11_code 32 = .ok (.getstatic 99, 3) := by decide +kernel
theorem d44_35 : decode prog_49_method_11_code 35 = .ok (.if_acmp .eq 10, 3) := by decide +kernel
theorem d44_45 : decode prog_49_method_11_code 45 = .ok (.aload_n 0, 1) := by decide +kernel
theorem d44_46 : decode prog_49_method_11_code 46 = .ok (.bipush 73, 2) := by decide +kernel
theorem d44_48 : decode prog_49_method_11_code 48 = .ok (.putfield 7, 3) := by decide +kernel
theorem d44_51 : decode prog_49_method_11_code 51 = .ok (.goto 15, 3) := by decide +kernel
theorem d44_38 : decode prog_49_method_11_code 38 = .ok (.aload_n 2, 1) := by decide +kernel
theorem d44_39 : decode prog_49_method_11_code 39 = .ok (.getstatic 102, 3) := by decide +kernel
theorem d44_42 : decode prog_49_method_11_code 42 = .ok (.if_acmp .ne 12, 3) := by decide +kernel
theorem d44_54 : decode prog_49_method_11_code 54 = .ok (.aload_n 2, 1) := by decide +kernel
theorem d44_55 : decode prog_49_method_11_code 55 = .ok (.getstatic 69, 3) := by decide +kernel
theorem d44_58 : decode prog_49_method_11_code 58 = .ok (.if_acmp .ne 8, 3) := by decide +kernel
theorem d44_61 : decode prog_49_method_11_code 61 = .ok (.aload_n 0, 1) := by decide +kernel
theorem d44_62 : decode prog_49_method_11_code 62 = .ok (.iconst 1, 1) := by decide +kernel
theorem d44_63 : decode prog_49_method_11_code 63 = .ok (.putfield 23, 3) := by decide +kernel
theorem ef_44 (m : MethodId) (r0 : Addr) (r1 : Addr) : entryFrame m #[(.ref r0), (.ref r1)] 3 = mkF m 0 #[.val (.ref r0), .val (.ref r1), .unset] [] := by first | (simp [entryFrame, mkF, argsToLocals, Value.category]; done) | rfl
set_option maxRecDepth 65536 in
set_option maxHeartbeats 40000000 in
theorem rm44 (l : Launch) (Z : State) (a0 : Array Value) (hw : ∀ d ∈ tables_1, d.before a0 Z = true) (ws : List Jvm.Cond) (r0 : Addr) (r1 : Addr) (sv : Int32) (wr : Int32) (m2 : Addr) (m1 : Addr) (t : Addr) (kt : ClassId) (vs : List Value) (kb : ClassId) (b : Int32) (i : Nat) (n : Addr) (k : Addr) (kv : Addr) (kc : ClassId) (x : Addr) (iso : Addr) (utf : Addr) (cs : Int32) (s5 : Addr) (s0 : Addr) (s1 : Addr) (s3 : Addr) (h0 : Heap) (n0 : Nat) (Z0 : n0 ≤ h0.size) (Hp0 : Exa Z h0 r0 "com/example/onesnap/onesnap/node/TransactionTracker") (Hp1 : Fld Z h0 r0 "com/example/onesnap/onesnap/node/TransactionTracker" "status" "C" (.int sv)) (Hp2 : Fld Z h0 r0 "com/example/onesnap/onesnap/node/TransactionTracker" "statements" "Ljava/util/Map;" (.ref m2)) (Hp3 : Fld Z h0 r0 "com/example/onesnap/onesnap/node/TransactionTracker" "portals" "Ljava/util/Map;" (.ref m1)) (Hp4 : Fld Z h0 r0 "com/example/onesnap/onesnap/node/TransactionTracker" "writes" "Z" (.int wr)) (Hp5 : Exa Z h0 m1 "java/util/HashMap") (Hp6 : Fld Z h0 m1 "java/util/HashMap" "table" "[Ljava/util/HashMap$Node;" (.ref t)) (Hp7 : Arv Z h0 t kt (.object "java/util/HashMap$Node") (16 : Int32) vs .null) (Hp8 : Arv Z h0 r1 kb .byte (1 : Int32) [(.int b)] (.int (0 : Int32))) (Hp9 : Exa Z h0 r1 "[B") (hgd : Gd b) (hix : Ix b i) (hat : vs.getD i Value.null = .ref n) (Hp13 : Exa Z h0 n "java/util/HashMap$Node") (Hp14 : Fld Z h0 n "java/util/HashMap$Node" "hash" "I" (.int b)) (Hp15 : Fld Z h0 n "java/util/HashMap$Node" "key" "Ljava/lang/Object;" (.ref k)) (Hp16 : Fld Z h0 n "java/util/HashMap$Node" "value" "Ljava/lang/Object;" (.ref x)) (Hp17 : Exa Z h0 k "java/lang/String") (Hp18 : Fld Z h0 k "java/lang/String" "value" "[B" (.ref kv)) (Hp19 : Fld Z h0 k "java/lang/String" "coder" "B" (.int (0 : Int32))) (Hp20 : Arv Z h0 kv kc .byte (1 : Int32) [(.int b)] (.int (0 : Int32))) (Hp21 : Exa Z h0 x "com/example/onesnap/onesnap/node/StatementKind") (Hp22 : Old Z n0 h0) (Hp23 : Sta Z Z.heap "sun/nio/cs/UTF_8" "INSTANCE" "Lsun/nio/cs/UTF_8;" (.ref utf)) (Hp24 : Sta Z Z.heap "sun/nio/cs/ISO_8859_1" "INSTANCE" "Lsun/nio/cs/ISO_8859_1;" (.ref iso)) (Hp25 : Sta Z Z.heap "java/lang/String" "COMPACT_STRINGS" "Z" (.int cs)) (hcs : ¬ cs = (0 : Int32)) (hne : ¬ iso = utf) (Hp28 : Sta Z Z.heap "java/nio/charset/StandardCharsets" "ISO_8859_1" "Ljava/nio/charset/Charset;" (.ref iso)) (Eiso : Exa Z Z.heap iso "sun/nio/cs/ISO_8859_1") (Hp30 : Sta Z Z.heap "com/example/onesnap/onesnap/node/StatementKind" "WRITE" "Lcom/example/onesnap/onesnap/node/StatementKind;" (.ref s5)) (Hp31 : Sta Z Z.heap "com/example/onesnap/onesnap/node/StatementKind" "BEGIN" "Lcom/example/onesnap/onesnap/node/StatementKind;" (.ref s0)) (Hp32 : Sta Z Z.heap "com/example/onesnap/onesnap/node/StatementKind" "COMMIT" "Lcom/example/onesnap/onesnap/node/StatementKind;" (.ref s1)) (Hp33 : Sta Z Z.heap "com/example/onesnap/onesnap/node/StatementKind" "ROLLBACK" "Lcom/example/onesnap/onesnap/node/StatementKind;" (.ref s3)) (Hp34 : n0 ≤ r0) (Hp35 : m1 ≠ r0) (Hp36 : t ≠ r0) (Hp37 : r1 ≠ r0) (Hp38 : n ≠ r0) (Hp39 : k ≠ r0) (Hp40 : kv ≠ r0) :
    MetFree l (⟨"com/example/onesnap/onesnap/node/TransactionTracker", "executed", "([B)V"⟩ : MethodName) (head1 (Jvm.Cond.code (⟨"com/example/onesnap/onesnap/node/TransactionTracker", "executed", "([B)V"⟩ : MethodName) prog_49_method_11_code 3 none :: ws) ({ frames := 6, cells := 2, slots := 5, locals := 92 } : Room)) (fun a U => a = #[(.ref r0), (.ref r1)] ∧ Z.Warmed39 U.vm ∧ U.heap = h0) (fun _ _ _ _ _ => True) (fun _ U o U' => ∃ v L, o = .returned v ∧ Q44 Z r0 r1 sv wr m2 m1 t kt vs kb b i n k kv kc x iso utf cs s5 s0 s1 s3 h0 n0 v U'.heap L ∧ FrameEnd U o U' L ({ frames := 6, cells := 2, slots := 5, locals := 92 } : Room).cells ({ frames := 6, cells := 2, slots := 5, locals := 92 } : Room).slots) := by
  refine MetFree.of_bodySF (plainFor_of_name pn_com_example_onesnap_onesnap_node_TransactionTracker) hisR ?_
  intro p e s m args below meth c s₁ Bd hml0 hP hK
  obtain ⟨rfl, hZ, hh⟩ := hP
  have hx := Bd.exec
  have hby := Bd.bytes
  have hml : c.maxLocals = 3 := hml0
  have hown : s.vm.findClass "com/example/onesnap/onesnap/node/TransactionTracker" = some m.cls := findClass_of_methodNamed Bd.named
  have hnm := (name_of_methodNamed Bd.named Bd.method).1
  have X0 : Stand p l e ({ frames := 6, cells := 2, slots := 5, locals := 92 } : Room) s m #[(.ref r0), (.ref r1)] below meth c s₁ [] 0 0 := Stand.of_body Bd
  have e0 : s₁.heap = h0 := by rw [← hh, Bd.state]; rfl
  have N0 := Fr.nil n0
  have pre0 : ∀ t, Steps p.tables e below (s₁.setTop (mkF m 0 (l_25 r0 r1) [])) t → Steps p.tables e below (s₁.setTop (entryFrame m #[(.ref r0), (.ref r1)] 3)) t := fun t k => castTop (ef_44 m r0 r1) k
  obtain ⟨cq1, kq1, q1a, q1b, q1c⟩ := isOf hZ e0 Hp0
  obtain ⟨_, _, ⟨T1, L1, k1, n1⟩, -, X1, ⟨Lc1, hQ1, l1, y1, z1⟩, st1⟩ := X0.virtualBack hx (y := (⟨"com/example/onesnap/onesnap/node/TransactionTracker", "portalKind", "([B)Lcom/example/onesnap/onesnap/node/StatementKind;"⟩ : MethodName)) (z := (⟨"com/example/onesnap/onesnap/node/TransactionTracker", "portalKind", "([B)Lcom/example/onesnap/onesnap/node/StatementKind;"⟩ : MethodName)) hown (mvT hZ (hw _ (tm 309 rfl))) (mvT hZ (hw _ (tm 310 rfl))) (notFace_of_selects (args := #[]) (mvT hZ (hw _ (tm 312 rfl)))) (mvT hZ (hw _ (tm 312 rfl))) (mvT hZ (hw _ (tm 311 rfl))) (by decide) (backOf (W := 0) (rm45 l Z a0 hw [] r0 r1 (m1) (t) (kt) (vs) (kb) (b) (i) (n) (k) (kv) (kc) (x) (iso) (utf) (cs) (s5) h0 n0 Z0 Hp3 Hp5 Hp6 Hp7 Hp8 Hp9 hgd hix hat Hp13 Hp14 Hp15 Hp16 Hp17 Hp18 Hp19 Hp20 Hp21 Hp22 Hp23 Hp24 Hp25 hcs hne Hp28 Eiso Hp30) hZ (hw _ (tm 313 rfl)) (hw _ (tm 73 rfl)) (by decide) (by decide)) q1a q1c (g := (mkF m 2 (l_25 r0 r1) [(.ref r1), (.ref r0)])) rfl (by rw [hml]; rfl) (Steps.refl _) (argsL := [(.ref r1)]) (rest := []) (lenOf pd__28_5bB_29Lcom_2fexample_2fonesnap_2fonesnap_2fnode_2fStatementKind_3b rfl) rfl (by show 2 * 0 + _ ≤ _; exact Nat.le_of_eq rfl) (hb hby d44_2) (fun _ _ => ⟨rfl, e0, (by decide : 0 + 2 ≤ _), (by decide : 0 + 5 ≤ _)⟩)
  dsimp only [Pt.U, Pt.locs, Pt.cells, Pt.slots] at X1 l1 y1 z1 st1 hQ1
  subst l1 y1 z1
  obtain ⟨rfl, N1q, K1⟩ := hQ1
  have N1 := Fr.app N0 N1q
  have Od2 := (Hp22.keep K1 all0)
  obtain ⟨T3, X3, e3, st3⟩ := getS2 X1 hx hZ hown (host := "") (Or.inl (hw _ (tm 314 rfl))) Via.refl rfl (Hp31.ext Od2.2) (g := (mkF m 7 (l_10 r0 r1 x) [(.ref x)])) rfl (hb hby d44_7)
  have pre4 : ∀ tz, Steps p.tables e below (T3.setTop (mkF m 10 (l_10 r0 r1 x) [(.ref s0), (.ref x)])) tz → Steps p.tables e below (s₁.setTop (entryFrame m #[(.ref r0), (.ref r1)] 3)) tz := fun tz kk => pre0 tz (by
    show Steps _ _ _ (s₁.setTop (mkF m 0 (l_25 r0 r1) [])) _
    refine XS.aloadN X0.here hx rfl (hb hby d44_0) rfl rfl ?_
    show Steps _ _ _ (s₁.setTop (mkF m 1 (l_25 r0 r1) [(.ref r0)])) _
    refine XS.aloadN X0.here hx rfl (hb hby d44_1) rfl rfl ?_
    show Steps _ _ _ (s₁.setTop (mkF m 2 (l_25 r0 r1) [(.ref r1), (.ref r0)])) _
    refine st1.trans ?_
    show Steps _ _ _ (T1.setTop (mkF m 5 (l_25 r0 r1) [(.ref x)])) _
    refine XS.astoreN X1.here hx rfl (hb hby d44_5) rfl rfl (l' := (l_10 r0 r1 x)) rfl ?_
    show Steps _ _ _ (T1.setTop (mkF m 6 (l_10 r0 r1 x) [])) _
    refine XS.aloadN X1.here hx rfl (hb hby d44_6) rfl rfl ?_
    show Steps _ _ _ (T1.setTop (mkF m 7 (l_10 r0 r1 x) [(.ref x)])) _
    refine st3 _ ?_
    exact kk)
  by_cases hc5 : x = s0
  · have Fd6 := (Hp1.keep K1 nin0)
    obtain ⟨T7, X7, e7, st7⟩ := getF X3 hx hZ hown (host := "") (Or.inl (hw _ (tm 78 rfl))) Via.refl e3 Fd6 (g := (mkF m 14 (l_10 r0 r1 x) [(.ref r0)])) rfl rfl (hb hby d44_14)
    have pre8 : ∀ tz, Steps p.tables e below (T7.setTop (mkF m 19 (l_10 r0 r1 x) [(.int (73 : Int32)), (.int sv)])) tz → Steps p.tables e below (s₁.setTop (entryFrame m #[(.ref r0), (.ref r1)] 3)) tz := fun tz kk => pre4 tz (by
      show Steps _ _ _ (T3.setTop (mkF m 10 (l_10 r0 r1 x) [(.ref s0), (.ref x)])) _
      refine Jvm.RoadKit.acmp (g := (mkF m 10 (l_10 r0 r1 x) [(.ref s0), (.ref x)])) X3 hx rfl rfl rfl (pc0 := 10) (pc' := 13) (same := true) rfl (hb hby d44_10) rfl (decide_eq_true (congrArg Value.ref hc5)) (by decide) (by decide) ?_
      show Steps _ _ _ (T3.setTop (mkF m 13 (l_10 r0 r1 x) [])) _
      refine XS.aloadN X3.here hx rfl (hb hby d44_13) rfl rfl ?_
      show Steps _ _ _ (T3.setTop (mkF m 14 (l_10 r0 r1 x) [(.ref r0)])) _
      refine st7 _ ?_
      show Steps _ _ _ (T7.setTop (mkF m 17 (l_10 r0 r1 x) [(.int sv)])) _
      refine XS.bipush X7.here hx rfl (hb hby d44_17) ?_
      exact kk)
    by_cases hc9 : sv = (73 : Int32)
    · have Ex10 := (Hp0.keep K1)
      obtain ⟨T11, h11, X11, e11, W11, st11⟩ := putFN X7 hx hZ hown (hw _ (tm 78 rfl)) Via.refl e7 Fd6 Ex10 (Or.inl (hw _ (tm 79 rfl))) (hw _ (tm 72 rfl)) (ty := .char) (v' := (.int (84 : Int32))) (by decide) rfl (by decide) (g := (mkF m 25 (l_10 r0 r1 x) [(.int (84 : Int32)), (.ref r0)])) rfl rfl (hb hby d44_25)
      have N11 := Fr.snoc X11 N1 Hp34
      have Fw11 := Fd6.same W11
      have eexS : exS sv wr x s0 s1 s3 s5 = (84 : Int32) := by unfold exS; rw [if_pos hc5, if_pos hc9]
      have Fd12 := ((Hp4.keep K1 nin0).other W11 (Or.inr (slot_ne (Or.inl (hw _ (tm 106 rfl))) (Or.inl (hw _ (tm 79 rfl))) (by decide) (t := .boolean) (t' := .char) (by decide) (by decide))))
      have eexW : exW sv wr x s0 s1 s3 s5 = wr := by unfold exW; rw [if_pos hc5, if_pos hc9]
      have Ex13 := (Ex10.wr W11)
      have Fd14 := ((Hp2.keep K1 nin0).other W11 (Or.inr (slot_ne (Or.inr (hw _ (tm 97 rfl))) (Or.inl (hw _ (tm 79 rfl))) (by decide) (t := (.object "java/util/Map")) (t' := .char) (by decide) (by decide))))
      have Fd15 := ((Hp3.keep K1 nin0).other W11 (Or.inr (slot_ne (Or.inr (hw _ (tm 99 rfl))) (Or.inl (hw _ (tm 79 rfl))) (by decide) (t := (.object "java/util/Map")) (t' := .char) (by decide) (by decide))))
      have Kp16 := (((Keep.refl h0 [r0]).trans K1 all0).wr W11 (Or.inl (tm 0 rfl)))
      obtain ⟨fs, hr, hrun, hended, hW, hsame⟩ := X11.leave (v := none) (fun _ => rfl)
      refine ⟨_, _, pre8 _ ?_, hrun, hended, _, _, rfl, ?_, ⟨_, rfl⟩, hW, hsame.mono (by decide) (by decide)⟩
      · show Steps _ _ _ (T7.setTop (mkF m 19 (l_10 r0 r1 x) [(.int (73 : Int32)), (.int sv)])) _
        refine XS.icmpNo X7.here hx rfl (hb hby d44_19) rfl (teq hc9).2 ?_
        show Steps _ _ _ (T7.setTop (mkF m 22 (l_10 r0 r1 x) [])) _
        refine XS.aloadN X7.here hx rfl (hb hby d44_22) rfl rfl ?_
        show Steps _ _ _ (T7.setTop (mkF m 23 (l_10 r0 r1 x) [(.ref r0)])) _
        refine XS.bipush X7.here hx rfl (hb hby d44_23) ?_
        show Steps _ _ _ (T7.setTop (mkF m 25 (l_10 r0 r1 x) [(.int (84 : Int32)), (.ref r0)])) _
        refine st11 _ ?_
        show Steps _ _ _ (T11.setTop (mkF m 28 (l_10 r0 r1 x) [])) _
        refine XS.goto X11.here hx rfl (pc0 := 28) (pc' := 66) rfl (hb hby d44_28) (by decide) (by decide) ?_
        show Steps _ _ _ (T11.setTop (mkF m 66 (l_10 r0 r1 x) [])) _
        exact X11.returnOut hx Bd.returns (hb hby d44_66) hr
      · show Q44 Z r0 r1 sv wr m2 m1 t kt vs kb b i n k kv kc x iso utf cs s5 s0 s1 s3 h0 n0 _ T11.heap _
        rw [e11]
        exact ⟨rfl, N11, Kp16, Ex13, (show Fld Z _ r0 "com/example/onesnap/onesnap/node/TransactionTracker" "status" "C" (.int (exS sv wr x s0 s1 s3 s5)) by rw [eexS]; exact Fw11), Fd14, Fd15, (show Fld Z _ r0 "com/example/onesnap/onesnap/node/TransactionTracker" "writes" "Z" (.int (exW sv wr x s0 s1 s3 s5)) by rw [eexW]; exact Fd12)⟩
    · obtain ⟨T17, X17, e17, st17⟩ := getS2 X7 hx hZ hown (host := "") (Or.inl (hw _ (tm 316 rfl))) Via.refl e7 (Hp32.ext Od2.2) (g := (mkF m 32 (l_10 r0 r1 x) [(.ref x)])) rfl (hb hby d44_32)
      have pre18 : ∀ tz, Steps p.tables e below (T17.setTop (mkF m 35 (l_10 r0 r1 x) [(.ref s1), (.ref x)])) tz → Steps p.tables e below (s₁.setTop (entryFrame m #[(.ref r0), (.ref r1)] 3)) tz := fun tz kk => pre8 tz (by
        show Steps _ _ _ (T7.setTop (mkF m 19 (l_10 r0 r1 x) [(.int (73 : Int32)), (.int sv)])) _
        refine XS.icmpYes X7.here hx rfl (pc0 := 19) (pc' := 31) rfl (hb hby d44_19) rfl (feq hc9).2 (by decide) (by decide) ?_
        show Steps _ _ _ (T7.setTop (mkF m 31 (l_10 r0 r1 x) [])) _
        refine XS.aloadN X7.here hx rfl (hb hby d44_31) rfl rfl ?_
        show Steps _ _ _ (T7.setTop (mkF m 32 (l_10 r0 r1 x) [(.ref x)])) _
        refine st17 _ ?_
        exact kk)
      by_cases hc19 : x = s1
      · have Ex20 := (Hp0.keep K1)
        obtain ⟨T21, h21, X21, e21, W21, st21⟩ := putFN X17 hx hZ hown (hw _ (tm 78 rfl)) Via.refl e17 Fd6 Ex20 (Or.inl (hw _ (tm 79 rfl))) (hw _ (tm 72 rfl)) (ty := .char) (v' := (.int (73 : Int32))) (by decide) rfl (by decide) (g := (mkF m 48 (l_10 r0 r1 x) [(.int (73 : Int32)), (.ref r0)])) rfl rfl (hb hby d44_48)
        have N21 := Fr.snoc X21 N1 Hp34
        have Fw21 := Fd6.same W21
        have eexS : exS sv wr x s0 s1 s3 s5 = (73 : Int32) := by unfold exS; rw [if_pos hc5, if_neg hc9, if_pos hc19]
        have Fd22 := ((Hp4.keep K1 nin0).other W21 (Or.inr (slot_ne (Or.inl (hw _ (tm 106 rfl))) (Or.inl (hw _ (tm 79 rfl))) (by decide) (t := .boolean) (t' := .char) (by decide) (by decide))))
        have eexW : exW sv wr x s0 s1 s3 s5 = wr := by unfold exW; rw [if_pos hc5, if_neg hc9, if_pos hc19]
        have Ex23 := (Ex20.wr W21)
        have Fd24 := ((Hp2.keep K1 nin0).other W21 (Or.inr (slot_ne (Or.inr (hw _ (tm 97 rfl))) (Or.inl (hw _ (tm 79 rfl))) (by decide) (t := (.object "java/util/Map")) (t' := .char) (by decide) (by decide))))
        have Fd25 := ((Hp3.keep K1 nin0).other W21 (Or.inr (slot_ne (Or.inr (hw _ (tm 99 rfl))) (Or.inl (hw _ (tm 79 rfl))) (by decide) (t := (.object "java/util/Map")) (t' := .char) (by decide) (by decide))))
        have Kp26 := (((Keep.refl h0 [r0]).trans K1 all0).wr W21 (Or.inl (tm 0 rfl)))
        obtain ⟨fs, hr, hrun, hended, hW, hsame⟩ := X21.leave (v := none) (fun _ => rfl)
        refine ⟨_, _, pre18 _ ?_, hrun, hended, _, _, rfl, ?_, ⟨_, rfl⟩, hW, hsame.mono (by decide) (by decide)⟩
        · show Steps _ _ _ (T17.setTop (mkF m 35 (l_10 r0 r1 x) [(.ref s1), (.ref x)])) _
          refine Jvm.RoadKit.acmp (g := (mkF m 35 (l_10 r0 r1 x) [(.ref s1), (.ref x)])) X17 hx rfl rfl rfl (pc0 := 35) (pc' := 45) (same := true) rfl (hb hby d44_35) rfl (decide_eq_true (congrArg Value.ref hc19)) (by decide) (by decide) ?_
          show Steps _ _ _ (T17.setTop (mkF m 45 (l_10 r0 r1 x) [])) _
          refine XS.aloadN X17.here hx rfl (hb hby d44_45) rfl rfl ?_
          show Steps _ _ _ (T17.setTop (mkF m 46 (l_10 r0 r1 x) [(.ref r0)])) _
          refine XS.bipush X17.here hx rfl (hb hby d44_46) ?_
          show Steps _ _ _ (T17.setTop (mkF m 48 (l_10 r0 r1 x) [(.int (73 : Int32)), (.ref r0)])) _
          refine st21 _ ?_
          show Steps _ _ _ (T21.setTop (mkF m 51 (l_10 r0 r1 x) [])) _
          refine XS.goto X21.here hx rfl (pc0 := 51) (pc' := 66) rfl (hb hby d44_51) (by decide) (by decide) ?_
          show Steps _ _ _ (T21.setTop (mkF m 66 (l_10 r0 r1 x) [])) _
          exact X21.returnOut hx Bd.returns (hb hby d44_66) hr
        · show Q44 Z r0 r1 sv wr m2 m1 t kt vs kb b i n k kv kc x iso utf cs s5 s0 s1 s3 h0 n0 _ T21.heap _
          rw [e21]
          exact ⟨rfl, N21, Kp26, Ex23, (show Fld Z _ r0 "com/example/onesnap/onesnap/node/TransactionTracker" "status" "C" (.int (exS sv wr x s0 s1 s3 s5)) by rw [eexS]; exact Fw21), Fd24, Fd25, (show Fld Z _ r0 "com/example/onesnap/onesnap/node/TransactionTracker" "writes" "Z" (.int (exW sv wr x s0 s1 s3 s5)) by rw [eexW]; exact Fd22)⟩
      · obtain ⟨T27, X27, e27, st27⟩ := getS2 X17 hx hZ hown (host := "") (Or.inl (hw _ (tm 318 rfl))) Via.refl e17 (Hp33.ext Od2.2) (g := (mkF m 39 (l_10 r0 r1 x) [(.ref x)])) rfl (hb hby d44_39)
        have pre28 : ∀ tz, Steps p.tables e below (T27.setTop (mkF m 42 (l_10 r0 r1 x) [(.ref s3), (.ref x)])) tz → Steps p.tables e below (s₁.setTop (entryFrame m #[(.ref r0), (.ref r1)] 3)) tz := fun tz kk => pre18 tz (by
          show Steps _ _ _ (T17.setTop (mkF m 35 (l_10 r0 r1 x) [(.ref s1), (.ref x)])) _
          refine Jvm.RoadKit.acmp (g := (mkF m 35 (l_10 r0 r1 x) [(.ref s1), (.ref x)])) X17 hx rfl rfl rfl (pc0 := 35) (pc' := 38) (same := false) rfl (hb hby d44_35) rfl (decide_eq_false fun q => hc19 (Value.ref.inj q)) (by decide) (by decide) ?_
          show Steps _ _ _ (T17.setTop (mkF m 38 (l_10 r0 r1 x) [])) _
          refine XS.aloadN X17.here hx rfl (hb hby d44_38) rfl rfl ?_
          show Steps _ _ _ (T17.setTop (mkF m 39 (l_10 r0 r1 x) [(.ref x)])) _
          refine st27 _ ?_
          exact kk)
        by_cases hc29 : x = s3
        · have Ex30 := (Hp0.keep K1)
          obtain ⟨T31, h31, X31, e31, W31, st31⟩ := putFN X27 hx hZ hown (hw _ (tm 78 rfl)) Via.refl e27 Fd6 Ex30 (Or.inl (hw _ (tm 79 rfl))) (hw _ (tm 72 rfl)) (ty := .char) (v' := (.int (73 : Int32))) (by decide) rfl (by decide) (g := (mkF m 48 (l_10 r0 r1 x) [(.int (73 : Int32)), (.ref r0)])) rfl rfl (hb hby d44_48)
          have N31 := Fr.snoc X31 N1 Hp34
          have Fw31 := Fd6.same W31
          have eexS : exS sv wr x s0 s1 s3 s5 = (73 : Int32) := by unfold exS; rw [if_pos hc5, if_neg hc9, if_neg hc19, if_pos hc29]
          have Fd32 := ((Hp4.keep K1 nin0).other W31 (Or.inr (slot_ne (Or.inl (hw _ (tm 106 rfl))) (Or.inl (hw _ (tm 79 rfl))) (by decide) (t := .boolean) (t' := .char) (by decide) (by decide))))
          have eexW : exW sv wr x s0 s1 s3 s5 = wr := by unfold exW; rw [if_pos hc5, if_neg hc9, if_neg hc19, if_pos hc29]
          have Ex33 := (Ex30.wr W31)
          have Fd34 := ((Hp2.keep K1 nin0).other W31 (Or.inr (slot_ne (Or.inr (hw _ (tm 97 rfl))) (Or.inl (hw _ (tm 79 rfl))) (by decide) (t := (.object "java/util/Map")) (t' := .char) (by decide) (by decide))))
          have Fd35 := ((Hp3.keep K1 nin0).other W31 (Or.inr (slot_ne (Or.inr (hw _ (tm 99 rfl))) (Or.inl (hw _ (tm 79 rfl))) (by decide) (t := (.object "java/util/Map")) (t' := .char) (by decide) (by decide))))
          have Kp36 := (((Keep.refl h0 [r0]).trans K1 all0).wr W31 (Or.inl (tm 0 rfl)))
          obtain ⟨fs, hr, hrun, hended, hW, hsame⟩ := X31.leave (v := none) (fun _ => rfl)
          refine ⟨_, _, pre28 _ ?_, hrun, hended, _, _, rfl, ?_, ⟨_, rfl⟩, hW, hsame.mono (by decide) (by decide)⟩
          · show Steps _ _ _ (T27.setTop (mkF m 42 (l_10 r0 r1 x) [(.ref s3), (.ref x)])) _
            refine Jvm.RoadKit.acmp (g := (mkF m 42 (l_10 r0 r1 x) [(.ref s3), (.ref x)])) X27 hx rfl rfl rfl (pc0 := 42) (pc' := 45) (same := true) rfl (hb hby d44_42) rfl (decide_eq_true (congrArg Value.ref hc29)) (by decide) (by decide) ?_
            show Steps _ _ _ (T27.setTop (mkF m 45 (l_10 r0 r1 x) [])) _
            refine XS.aloadN X27.here hx rfl (hb hby d44_45) rfl rfl ?_
            show Steps _ _ _ (T27.setTop (mkF m 46 (l_10 r0 r1 x) [(.ref r0)])) _
            refine XS.bipush X27.here hx rfl (hb hby d44_46) ?_
            show Steps _ _ _ (T27.setTop (mkF m 48 (l_10 r0 r1 x) [(.int (73 : Int32)), (.ref r0)])) _
            refine st31 _ ?_
            show Steps _ _ _ (T31.setTop (mkF m 51 (l_10 r0 r1 x) [])) _
            refine XS.goto X31.here hx rfl (pc0 := 51) (pc' := 66) rfl (hb hby d44_51) (by decide) (by decide) ?_
            show Steps _ _ _ (T31.setTop (mkF m 66 (l_10 r0 r1 x) [])) _
            exact X31.returnOut hx Bd.returns (hb hby d44_66) hr
          · show Q44 Z r0 r1 sv wr m2 m1 t kt vs kb b i n k kv kc x iso utf cs s5 s0 s1 s3 h0 n0 _ T31.heap _
            rw [e31]
            exact ⟨rfl, N31, Kp36, Ex33, (show Fld Z _ r0 "com/example/onesnap/onesnap/node/TransactionTracker" "status" "C" (.int (exS sv wr x s0 s1 s3 s5)) by rw [eexS]; exact Fw31), Fd34, Fd35, (show Fld Z _ r0 "com/example/onesnap/onesnap/node/TransactionTracker" "writes" "Z" (.int (exW sv wr x s0 s1 s3 s5)) by rw [eexW]; exact Fd32)⟩
        · obtain ⟨T37, X37, e37, st37⟩ := getS2 X27 hx hZ hown (host := "") (Or.inl (hw _ (tm 276 rfl))) Via.refl e27 (Hp30.ext Od2.2) (g := (mkF m 55 (l_10 r0 r1 x) [(.ref x)])) rfl (hb hby d44_55)
          have pre38 : ∀ tz, Steps p.tables e below (T37.setTop (mkF m 58 (l_10 r0 r1 x) [(.ref s5), (.ref x)])) tz → Steps p.tables e below (s₁.setTop (entryFrame m #[(.ref r0), (.ref r1)] 3)) tz := fun tz kk => pre28 tz (by
            show Steps _ _ _ (T27.setTop (mkF m 42 (l_10 r0 r1 x) [(.ref s3), (.ref x)])) _
            refine Jvm.RoadKit.acmp (g := (mkF m 42 (l_10 r0 r1 x) [(.ref s3), (.ref x)])) X27 hx rfl rfl rfl (pc0 := 42) (pc' := 54) (same := false) rfl (hb hby d44_42) rfl (decide_eq_false fun q => hc29 (Value.ref.inj q)) (by decide) (by decide) ?_
            show Steps _ _ _ (T27.setTop (mkF m 54 (l_10 r0 r1 x) [])) _
            refine XS.aloadN X27.here hx rfl (hb hby d44_54) rfl rfl ?_
            show Steps _ _ _ (T27.setTop (mkF m 55 (l_10 r0 r1 x) [(.ref x)])) _
            refine st37 _ ?_
            exact kk)
          by_cases hc39 : x = s5
          · have Ex40 := (Hp0.keep K1)
            have Fd41 := (Hp4.keep K1 nin0)
            obtain ⟨T42, h42, X42, e42, W42, st42⟩ := putFN X37 hx hZ hown (hw _ (tm 105 rfl)) Via.refl e37 Fd41 Ex40 (Or.inl (hw _ (tm 106 rfl))) (hw _ (tm 72 rfl)) (ty := .boolean) (v' := (.int (1 : Int32))) (by decide) rfl (by decide) (g := (mkF m 63 (l_10 r0 r1 x) [(.int (1 : Int32)), (.ref r0)])) rfl rfl (hb hby d44_63)
            have N42 := Fr.snoc X42 N1 Hp34
            have Fw42 := Fd41.same W42
            have Fd43 := (Fd6.other W42 (Or.inr (slot_ne (Or.inl (hw _ (tm 79 rfl))) (Or.inl (hw _ (tm 106 rfl))) (by decide) (t := .char) (t' := .boolean) (by decide) (by decide))))
            have eexS : exS sv wr x s0 s1 s3 s5 = sv := by unfold exS; rw [if_pos hc5, if_neg hc9, if_neg hc19, if_neg hc29, if_pos hc39]
            have eexW : exW sv wr x s0 s1 s3 s5 = (1 : Int32) := by unfold exW; rw [if_pos hc5, if_neg hc9, if_neg hc19, if_neg hc29, if_pos hc39]
            have Ex44 := (Ex40.wr W42)
            have Fd45 := ((Hp2.keep K1 nin0).other W42 (Or.inr (slot_ne (Or.inr (hw _ (tm 97 rfl))) (Or.inl (hw _ (tm 106 rfl))) (by decide) (t := (.object "java/util/Map")) (t' := .boolean) (by decide) (by decide))))
            have Fd46 := ((Hp3.keep K1 nin0).other W42 (Or.inr (slot_ne (Or.inr (hw _ (tm 99 rfl))) (Or.inl (hw _ (tm 106 rfl))) (by decide) (t := (.object "java/util/Map")) (t' := .boolean) (by decide) (by decide))))
            have Kp47 := (((Keep.refl h0 [r0]).trans K1 all0).wr W42 (Or.inl (tm 0 rfl)))
            obtain ⟨fs, hr, hrun, hended, hW, hsame⟩ := X42.leave (v := none) (fun _ => rfl)
            refine ⟨_, _, pre38 _ ?_, hrun, hended, _, _, rfl, ?_, ⟨_, rfl⟩, hW, hsame.mono (by decide) (by decide)⟩
            · show Steps _ _ _ (T37.setTop (mkF m 58 (l_10 r0 r1 x) [(.ref s5), (.ref x)])) _
              refine Jvm.RoadKit.acmp (g := (mkF m 58 (l_10 r0 r1 x) [(.ref s5), (.ref x)])) X37 hx rfl rfl rfl (pc0 := 58) (pc' := 61) (same := true) rfl (hb hby d44_58) rfl (decide_eq_true (congrArg Value.ref hc39)) (by decide) (by decide) ?_
              show Steps _ _ _ (T37.setTop (mkF m 61 (l_10 r0 r1 x) [])) _
              refine XS.aloadN X37.here hx rfl (hb hby d44_61) rfl rfl ?_
              show Steps _ _ _ (T37.setTop (mkF m 62 (l_10 r0 r1 x) [(.ref r0)])) _
              refine XS.iconst X37.here hx rfl (hb hby d44_62) ?_
              show Steps _ _ _ (T37.setTop (mkF m 63 (l_10 r0 r1 x) [(.int (1 : Int32)), (.ref r0)])) _
              refine st42 _ ?_
              show Steps _ _ _ (T42.setTop (mkF m 66 (l_10 r0 r1 x) [])) _
              exact X42.returnOut hx Bd.returns (hb hby d44_66) hr
            · show Q44 Z r0 r1 sv wr m2 m1 t kt vs kb b i n k kv kc x iso utf cs s5 s0 s1 s3 h0 n0 _ T42.heap _
              rw [e42]
              exact ⟨rfl, N42, Kp47, Ex44, (show Fld Z _ r0 "com/example/onesnap/onesnap/node/TransactionTracker" "status" "C" (.int (exS sv wr x s0 s1 s3 s5)) by rw [eexS]; exact Fd43), Fd45, Fd46, (show Fld Z _ r0 "com/example/onesnap/onesnap/node/TransactionTracker" "writes" "Z" (.int (exW sv wr x s0 s1 s3 s5)) by rw [eexW]; exact Fw42)⟩
          · have eexS : exS sv wr x s0 s1 s3 s5 = sv := by unfold exS; rw [if_pos hc5, if_neg hc9, if_neg hc19, if_neg hc29, if_neg hc39]
            have Fd48 := (Hp4.keep K1 nin0)
            have eexW : exW sv wr x s0 s1 s3 s5 = wr := by unfold exW; rw [if_pos hc5, if_neg hc9, if_neg hc19, if_neg hc29, if_neg hc39]
            have Ex49 := (Hp0.keep K1)
            have Fd50 := (Hp2.keep K1 nin0)
            have Fd51 := (Hp3.keep K1 nin0)
            have Kp52 := ((Keep.refl h0 [r0]).trans K1 all0)
            obtain ⟨fs, hr, hrun, hended, hW, hsame⟩ := X37.leave (v := none) (fun _ => rfl)
            refine ⟨_, _, pre38 _ ?_, hrun, hended, _, _, rfl, ?_, ⟨_, rfl⟩, hW, hsame.mono (by decide) (by decide)⟩
            · show Steps _ _ _ (T37.setTop (mkF m 58 (l_10 r0 r1 x) [(.ref s5), (.ref x)])) _
              refine Jvm.RoadKit.acmp (g := (mkF m 58 (l_10 r0 r1 x) [(.ref s5), (.ref x)])) X37 hx rfl rfl rfl (pc0 := 58) (pc' := 66) (same := false) rfl (hb hby d44_58) rfl (decide_eq_false fun q => hc39 (Value.ref.inj q)) (by decide) (by decide) ?_
              show Steps _ _ _ (T37.setTop (mkF m 66 (l_10 r0 r1 x) [])) _
              exact X37.returnOut hx Bd.returns (hb hby d44_66) hr
            · show Q44 Z r0 r1 sv wr m2 m1 t kt vs kb b i n k kv kc x iso utf cs s5 s0 s1 s3 h0 n0 _ T37.heap _
              rw [e37]
              exact ⟨rfl, N1, Kp52, Ex49, (show Fld Z _ r0 "com/example/onesnap/onesnap/node/TransactionTracker" "status" "C" (.int (exS sv wr x s0 s1 s3 s5)) by rw [eexS]; exact Fd6), Fd50, Fd51, (show Fld Z _ r0 "com/example/onesnap/onesnap/node/TransactionTracker" "writes" "Z" (.int (exW sv wr x s0 s1 s3 s5)) by rw [eexW]; exact Fd48)⟩
  · obtain ⟨T53, X53, e53, st53⟩ := getS2 X3 hx hZ hown (host := "") (Or.inl (hw _ (tm 316 rfl))) Via.refl e3 (Hp32.ext Od2.2) (g := (mkF m 32 (l_10 r0 r1 x) [(.ref x)])) rfl (hb hby d44_32)
    have pre54 : ∀ tz, Steps p.tables e below (T53.setTop (mkF m 35 (l_10 r0 r1 x) [(.ref s1), (.ref x)])) tz → Steps p.tables e below (s₁.setTop (entryFrame m #[(.ref r0), (.ref r1)] 3)) tz := fun tz kk => pre4 tz (by
      show Steps _ _ _ (T3.setTop (mkF m 10 (l_10 r0 r1 x) [(.ref s0), (.ref x)])) _
      refine Jvm.RoadKit.acmp (g := (mkF m 10 (l_10 r0 r1 x) [(.ref s0), (.ref x)])) X3 hx rfl rfl rfl (pc0 := 10) (pc' := 31) (same := false) rfl (hb hby d44_10) rfl (decide_eq_false fun q => hc5 (Value.ref.inj q)) (by decide) (by decide) ?_
      show Steps _ _ _ (T3.setTop (mkF m 31 (l_10 r0 r1 x) [])) _
      refine XS.aloadN X3.here hx rfl (hb hby d44_31) rfl rfl ?_
      show Steps _ _ _ (T3.setTop (mkF m 32 (l_10 r0 r1 x) [(.ref x)])) _
      refine st53 _ ?_
      exact kk)
    by_cases hc55 : x = s1
    · have Ex56 := (Hp0.keep K1)
      have Fd57 := (Hp1.keep K1 nin0)
      obtain ⟨T58, h58, X58, e58, W58, st58⟩ := putFN X53 hx hZ hown (hw _ (tm 78 rfl)) Via.refl e53 Fd57 Ex56 (Or.inl (hw _ (tm 79 rfl))) (hw _ (tm 72 rfl)) (ty := .char) (v' := (.int (73 : Int32))) (by decide) rfl (by decide) (g := (mkF m 48 (l_10 r0 r1 x) [(.int (73 : Int32)), (.ref r0)])) rfl rfl (hb hby d44_48)
      have N58 := Fr.snoc X58 N1 Hp34
      have Fw58 := Fd57.same W58
      have eexS : exS sv wr x s0 s1 s3 s5 = (73 : Int32) := by unfold exS; rw [if_neg hc5, if_pos hc55]
      have Fd59 := ((Hp4.keep K1 nin0).other W58 (Or.inr (slot_ne (Or.inl (hw _ (tm 106 rfl))) (Or.inl (hw _ (tm 79 rfl))) (by decide) (t := .boolean) (t' := .char) (by decide) (by decide))))
      have eexW : exW sv wr x s0 s1 s3 s5 = wr := by unfold exW; rw [if_neg hc5, if_pos hc55]
      have Ex60 := (Ex56.wr W58)
      have Fd61 := ((Hp2.keep K1 nin0).other W58 (Or.inr (slot_ne (Or.inr (hw _ (tm 97 rfl))) (Or.inl (hw _ (tm 79 rfl))) (by decide) (t := (.object "java/util/Map")) (t' := .char) (by decide) (by decide))))
      have Fd62 := ((Hp3.keep K1 nin0).other W58 (Or.inr (slot_ne (Or.inr (hw _ (tm 99 rfl))) (Or.inl (hw _ (tm 79 rfl))) (by decide) (t := (.object "java/util/Map")) (t' := .char) (by decide) (by decide))))
      have Kp63 := (((Keep.refl h0 [r0]).trans K1 all0).wr W58 (Or.inl (tm 0 rfl)))
      obtain ⟨fs, hr, hrun, hended, hW, hsame⟩ := X58.leave (v := none) (fun _ => rfl)
      refine ⟨_, _, pre54 _ ?_, hrun, hended, _, _, rfl, ?_, ⟨_, rfl⟩, hW, hsame.mono (by decide) (by decide)⟩
      · show Steps _ _ _ (T53.setTop (mkF m 35 (l_10 r0 r1 x) [(.ref s1), (.ref x)])) _
        refine Jvm.RoadKit.acmp (g := (mkF m 35 (l_10 r0 r1 x) [(.ref s1), (.ref x)])) X53 hx rfl rfl rfl (pc0 := 35) (pc' := 45) (same := true) rfl (hb hby d44_35) rfl (decide_eq_true (congrArg Value.ref hc55)) (by decide) (by decide) ?_
        show Steps _ _ _ (T53.setTop (mkF m 45 (l_10 r0 r1 x) [])) _
        refine XS.aloadN X53.here hx rfl (hb hby d44_45) rfl rfl ?_
        show Steps _ _ _ (T53.setTop (mkF m 46 (l_10 r0 r1 x) [(.ref r0)])) _
        refine XS.bipush X53.here hx rfl (hb hby d44_46) ?_
        show Steps _ _ _ (T53.setTop (mkF m 48 (l_10 r0 r1 x) [(.int (73 : Int32)), (.ref r0)])) _
        refine st58 _ ?_
        show Steps _ _ _ (T58.setTop (mkF m 51 (l_10 r0 r1 x) [])) _
        refine XS.goto X58.here hx rfl (pc0 := 51) (pc' := 66) rfl (hb hby d44_51) (by decide) (by decide) ?_
        show Steps _ _ _ (T58.setTop (mkF m 66 (l_10 r0 r1 x) [])) _
        exact X58.returnOut hx Bd.returns (hb hby d44_66) hr
      · show Q44 Z r0 r1 sv wr m2 m1 t kt vs kb b i n k kv kc x iso utf cs s5 s0 s1 s3 h0 n0 _ T58.heap _
        rw [e58]
        exact ⟨rfl, N58, Kp63, Ex60, (show Fld Z _ r0 "com/example/onesnap/onesnap/node/TransactionTracker" "status" "C" (.int (exS sv wr x s0 s1 s3 s5)) by rw [eexS]; exact Fw58), Fd61, Fd62, (show Fld Z _ r0 "com/example/onesnap/onesnap/node/TransactionTracker" "writes" "Z" (.int (exW sv wr x s0 s1 s3 s5)) by rw [eexW]; exact Fd59)⟩
    · obtain ⟨T64, X64, e64, st64⟩ := getS2 X53 hx hZ hown (host := "") (Or.inl (hw _ (tm 318 rfl))) Via.refl e53 (Hp33.ext Od2.2) (g := (mkF m 39 (l_10 r0 r1 x) [(.ref x)])) rfl (hb hby d44_39)
      have pre65 : ∀ tz, Steps p.tables e below (T64.setTop (mkF m 42 (l_10 r0 r1 x) [(.ref s3), (.ref x)])) tz → Steps p.tables e below (s₁.setTop (entryFrame m #[(.ref r0), (.ref r1)] 3)) tz := fun tz kk => pre54 tz (by
        show Steps _ _ _ (T53.setTop (mkF m 35 (l_10 r0 r1 x) [(.ref s1), (.ref x)])) _
        refine Jvm.RoadKit.acmp (g := (mkF m 35 (l_10 r0 r1 x) [(.ref s1), (.ref x)])) X53 hx rfl rfl rfl (pc0 := 35) (pc' := 38) (same := false) rfl (hb hby d44_35) rfl (decide_eq_false fun q => hc55 (Value.ref.inj q)) (by decide) (by decide) ?_
        show Steps _ _ _ (T53.setTop (mkF m 38 (l_10 r0 r1 x) [])) _
        refine XS.aloadN X53.here hx rfl (hb hby d44_38) rfl rfl ?_
        show Steps _ _ _ (T53.setTop (mkF m 39 (l_10 r0 r1 x) [(.ref x)])) _
        refine st64 _ ?_
        exact kk)
      by_cases hc66 : x = s3
      · have Ex67 := (Hp0.keep K1)
        have Fd68 := (Hp1.keep K1 nin0)
        obtain ⟨T69, h69, X69, e69, W69, st69⟩ := putFN X64 hx hZ hown (hw _ (tm 78 rfl)) Via.refl e64 Fd68 Ex67 (Or.inl (hw _ (tm 79 rfl))) (hw _ (tm 72 rfl)) (ty := .char) (v' := (.int (73 : Int32))) (by decide) rfl (by decide) (g := (mkF m 48 (l_10 r0 r1 x) [(.int (73 : Int32)), (.ref r0)])) rfl rfl (hb hby d44_48)
        have N69 := Fr.snoc X69 N1 Hp34
        have Fw69 := Fd68.same W69
        have eexS : exS sv wr x s0 s1 s3 s5 = (73 : Int32) := by unfold exS; rw [if_neg hc5, if_neg hc55, if_pos hc66]
        have Fd70 := ((Hp4.keep K1 nin0).other W69 (Or.inr (slot_ne (Or.inl (hw _ (tm 106 rfl))) (Or.inl (hw _ (tm 79 rfl))) (by decide) (t := .boolean) (t' := .char) (by decide) (by decide))))
        have eexW : exW sv wr x s0 s1 s3 s5 = wr := by unfold exW; rw [if_neg hc5, if_neg hc55, if_pos hc66]
        have Ex71 := (Ex67.wr W69)
        have Fd72 := ((Hp2.keep K1 nin0).other W69 (Or.inr (slot_ne (Or.inr (hw _ (tm 97 rfl))) (Or.inl (hw _ (tm 79 rfl))) (by decide) (t := (.object "java/util/Map")) (t' := .char) (by decide) (by decide))))
        have Fd73 := ((Hp3.keep K1 nin0).other W69 (Or.inr (slot_ne (Or.inr (hw _ (tm 99 rfl))) (Or.inl (hw _ (tm 79 rfl))) (by decide) (t := (.object "java/util/Map")) (t' := .char) (by decide) (by decide))))
        have Kp74 := (((Keep.refl h0 [r0]).trans K1 all0).wr W69 (Or.inl (tm 0 rfl)))
        obtain ⟨fs, hr, hrun, hended, hW, hsame⟩ := X69.leave (v := none) (fun _ => rfl)
        refine ⟨_, _, pre65 _ ?_, hrun, hended, _, _, rfl, ?_, ⟨_, rfl⟩, hW, hsame.mono (by decide) (by decide)⟩
        · show Steps _ _ _ (T64.setTop (mkF m 42 (l_10 r0 r1 x) [(.ref s3), (.ref x)])) _
          refine Jvm.RoadKit.acmp (g := (mkF m 42 (l_10 r0 r1 x) [(.ref s3), (.ref x)])) X64 hx rfl rfl rfl (pc0 := 42) (pc' := 45) (same := true) rfl (hb hby d44_42) rfl (decide_eq_true (congrArg Value.ref hc66)) (by decide) (by decide) ?_
          show Steps _ _ _ (T64.setTop (mkF m 45 (l_10 r0 r1 x) [])) _
          refine XS.aloadN X64.here hx rfl (hb hby d44_45) rfl rfl ?_
          show Steps _ _ _ (T64.setTop (mkF m 46 (l_10 r0 r1 x) [(.ref r0)])) _
          refine XS.bipush X64.here hx rfl (hb hby d44_46) ?_
          show Steps _ _ _ (T64.setTop (mkF m 48 (l_10 r0 r1 x) [(.int (73 : Int32)), (.ref r0)])) _
          refine st69 _ ?_
          show Steps _ _ _ (T69.setTop (mkF m 51 (l_10 r0 r1 x) [])) _
          refine XS.goto X69.here hx rfl (pc0 := 51) (pc' := 66) rfl (hb hby d44_51) (by decide) (by decide) ?_
          show Steps _ _ _ (T69.setTop (mkF m 66 (l_10 r0 r1 x) [])) _
          exact X69.returnOut hx Bd.returns (hb hby d44_66) hr
        · show Q44 Z r0 r1 sv wr m2 m1 t kt vs kb b i n k kv kc x iso utf cs s5 s0 s1 s3 h0 n0 _ T69.heap _
          rw [e69]
          exact ⟨rfl, N69, Kp74, Ex71, (show Fld Z _ r0 "com/example/onesnap/onesnap/node/TransactionTracker" "status" "C" (.int (exS sv wr x s0 s1 s3 s5)) by rw [eexS]; exact Fw69), Fd72, Fd73, (show Fld Z _ r0 "com/example/onesnap/onesnap/node/TransactionTracker" "writes" "Z" (.int (exW sv wr x s0 s1 s3 s5)) by rw [eexW]; exact Fd70)⟩
      · obtain ⟨T75, X75, e75, st75⟩ := getS2 X64 hx hZ hown (host := "") (Or.inl (hw _ (tm 276 rfl))) Via.refl e64 (Hp30.ext Od2.2) (g := (mkF m 55 (l_10 r0 r1 x) [(.ref x)])) rfl (hb hby d44_55)
        have pre76 : ∀ tz, Steps p.tables e below (T75.setTop (mkF m 58 (l_10 r0 r1 x) [(.ref s5), (.ref x)])) tz → Steps p.tables e below (s₁.setTop (entryFrame m #[(.ref r0), (.ref r1)] 3)) tz := fun tz kk => pre65 tz (by
          show Steps _ _ _ (T64.setTop (mkF m 42 (l_10 r0 r1 x) [(.ref s3), (.ref x)])) _
          refine Jvm.RoadKit.acmp (g := (mkF m 42 (l_10 r0 r1 x) [(.ref s3), (.ref x)])) X64 hx rfl rfl rfl (pc0 := 42) (pc' := 54) (same := false) rfl (hb hby d44_42) rfl (decide_eq_false fun q => hc66 (Value.ref.inj q)) (by decide) (by decide) ?_
          show Steps _ _ _ (T64.setTop (mkF m 54 (l_10 r0 r1 x) [])) _
          refine XS.aloadN X64.here hx rfl (hb hby d44_54) rfl rfl ?_
          show Steps _ _ _ (T64.setTop (mkF m 55 (l_10 r0 r1 x) [(.ref x)])) _
          refine st75 _ ?_
          exact kk)
        by_cases hc77 : x = s5
        · have Ex78 := (Hp0.keep K1)
          have Fd79 := (Hp4.keep K1 nin0)
          obtain ⟨T80, h80, X80, e80, W80, st80⟩ := putFN X75 hx hZ hown (hw _ (tm 105 rfl)) Via.refl e75 Fd79 Ex78 (Or.inl (hw _ (tm 106 rfl))) (hw _ (tm 72 rfl)) (ty := .boolean) (v' := (.int (1 : Int32))) (by decide) rfl (by decide) (g := (mkF m 63 (l_10 r0 r1 x) [(.int (1 : Int32)), (.ref r0)])) rfl rfl (hb hby d44_63)
          have N80 := Fr.snoc X80 N1 Hp34
          have Fw80 := Fd79.same W80
          have Fd81 := ((Hp1.keep K1 nin0).other W80 (Or.inr (slot_ne (Or.inl (hw _ (tm 79 rfl))) (Or.inl (hw _ (tm 106 rfl))) (by decide) (t := .char) (t' := .boolean) (by decide) (by decide))))
          have eexS : exS sv wr x s0 s1 s3 s5 = sv := by unfold exS; rw [if_neg hc5, if_neg hc55, if_neg hc66, if_pos hc77]
          have eexW : exW sv wr x s0 s1 s3 s5 = (1 : Int32) := by unfold exW; rw [if_neg hc5, if_neg hc55, if_neg hc66, if_pos hc77]
          have Ex82 := (Ex78.wr W80)
          have Fd83 := ((Hp2.keep K1 nin0).other W80 (Or.inr (slot_ne (Or.inr (hw _ (tm 97 rfl))) (Or.inl (hw _ (tm 106 rfl))) (by decide) (t := (.object "java/util/Map")) (t' := .boolean) (by decide) (by decide))))
          have Fd84 := ((Hp3.keep K1 nin0).other W80 (Or.inr (slot_ne (Or.inr (hw _ (tm 99 rfl))) (Or.inl (hw _ (tm 106 rfl))) (by decide) (t := (.object "java/util/Map")) (t' := .boolean) (by decide) (by decide))))
          have Kp85 := (((Keep.refl h0 [r0]).trans K1 all0).wr W80 (Or.inl (tm 0 rfl)))
          obtain ⟨fs, hr, hrun, hended, hW, hsame⟩ := X80.leave (v := none) (fun _ => rfl)
          refine ⟨_, _, pre76 _ ?_, hrun, hended, _, _, rfl, ?_, ⟨_, rfl⟩, hW, hsame.mono (by decide) (by decide)⟩
          · show Steps _ _ _ (T75.setTop (mkF m 58 (l_10 r0 r1 x) [(.ref s5), (.ref x)])) _
            refine Jvm.RoadKit.acmp (g := (mkF m 58 (l_10 r0 r1 x) [(.ref s5), (.ref x)])) X75 hx rfl rfl rfl (pc0 := 58) (pc' := 61) (same := true) rfl (hb hby d44_58) rfl (decide_eq_true (congrArg Value.ref hc77)) (by decide) (by decide) ?_
            show Steps _ _ _ (T75.setTop (mkF m 61 (l_10 r0 r1 x) [])) _
            refine XS.aloadN X75.here hx rfl (hb hby d44_61) rfl rfl ?_
            show Steps _ _ _ (T75.setTop (mkF m 62 (l_10 r0 r1 x) [(.ref r0)])) _
            refine XS.iconst X75.here hx rfl (hb hby d44_62) ?_
            show Steps _ _ _ (T75.setTop (mkF m 63 (l_10 r0 r1 x) [(.int (1 : Int32)), (.ref r0)])) _
            refine st80 _ ?_
            show Steps _ _ _ (T80.setTop (mkF m 66 (l_10 r0 r1 x) [])) _
            exact X80.returnOut hx Bd.returns (hb hby d44_66) hr
          · show Q44 Z r0 r1 sv wr m2 m1 t kt vs kb b i n k kv kc x iso utf cs s5 s0 s1 s3 h0 n0 _ T80.heap _
            rw [e80]
            exact ⟨rfl, N80, Kp85, Ex82, (show Fld Z _ r0 "com/example/onesnap/onesnap/node/TransactionTracker" "status" "C" (.int (exS sv wr x s0 s1 s3 s5)) by rw [eexS]; exact Fd81), Fd83, Fd84, (show Fld Z _ r0 "com/example/onesnap/onesnap/node/TransactionTracker" "writes" "Z" (.int (exW sv wr x s0 s1 s3 s5)) by rw [eexW]; exact Fw80)⟩
        · have Fd86 := (Hp1.keep K1 nin0)
          have eexS : exS sv wr x s0 s1 s3 s5 = sv := by unfold exS; rw [if_neg hc5, if_neg hc55, if_neg hc66, if_neg hc77]
          have Fd87 := (Hp4.keep K1 nin0)
          have eexW : exW sv wr x s0 s1 s3 s5 = wr := by unfold exW; rw [if_neg hc5, if_neg hc55, if_neg hc66, if_neg hc77]
          have Ex88 := (Hp0.keep K1)
          have Fd89 := (Hp2.keep K1 nin0)
          have Fd90 := (Hp3.keep K1 nin0)
          have Kp91 := ((Keep.refl h0 [r0]).trans K1 all0)
          obtain ⟨fs, hr, hrun, hended, hW, hsame⟩ := X75.leave (v := none) (fun _ => rfl)
          refine ⟨_, _, pre76 _ ?_, hrun, hended, _, _, rfl, ?_, ⟨_, rfl⟩, hW, hsame.mono (by decide) (by decide)⟩
          · show Steps _ _ _ (T75.setTop (mkF m 58 (l_10 r0 r1 x) [(.ref s5), (.ref x)])) _
            refine Jvm.RoadKit.acmp (g := (mkF m 58 (l_10 r0 r1 x) [(.ref s5), (.ref x)])) X75 hx rfl rfl rfl (pc0 := 58) (pc' := 66) (same := false) rfl (hb hby d44_58) rfl (decide_eq_false fun q => hc77 (Value.ref.inj q)) (by decide) (by decide) ?_
            show Steps _ _ _ (T75.setTop (mkF m 66 (l_10 r0 r1 x) [])) _
            exact X75.returnOut hx Bd.returns (hb hby d44_66) hr
          · show Q44 Z r0 r1 sv wr m2 m1 t kt vs kb b i n k kv kc x iso utf cs s5 s0 s1 s3 h0 n0 _ T75.heap _
            rw [e75]
            exact ⟨rfl, N1, Kp91, Ex88, (show Fld Z _ r0 "com/example/onesnap/onesnap/node/TransactionTracker" "status" "C" (.int (exS sv wr x s0 s1 s3 s5)) by rw [eexS]; exact Fd86), Fd89, Fd90, (show Fld Z _ r0 "com/example/onesnap/onesnap/node/TransactionTracker" "writes" "Z" (.int (exW sv wr x s0 s1 s3 s5)) by rw [eexW]; exact Fd87)⟩
def cmF (sv wr : Int32) : Int32 := (if sv = (73 : Int32) then (if wr = (0 : Int32) then (0 : Int32) else (1 : Int32)) else (0 : Int32))
def Q46 (Z : State) (r0 : Addr) (sv : Int32) (wr : Int32) (h0 : Heap) (n0 : Nat) (v : Option Value) (h : Heap) (L : List Loc) : Prop := v = some (.int (cmF sv wr)) ∧ Fr n0 L ∧ h = h0
theorem d46_0 : decode prog_49_method_12_code 0 = .ok (.aload_n 0, 1) := by decide +kernel
theorem d46_1 : decode prog_49_method_12_code 1 = .ok (.getfield 7, 3) := by decide +kernel
theorem d46_4 : decode prog_49_method_12_code 4 = .ok (.bipush 73, 2) := by decide +kernel
theorem d46_6 : decode prog_49_method_12_code 6 = .ok (.if_icmp .ne 14, 3) := by decide +kernel
theorem d46_9 : decode prog_49_method_12_code 9 = .ok (.aload_n 0, 1) := by decide +kernel
theorem d46_10 : decode prog_49_method_12_code 10 = .ok (.getfield 23, 3) := by decide +kernel
theorem d46_13 : decode prog_49_method_12_code 13 = .ok (.ifCond .eq 7, 3) := by decide +kernel
theorem d46_20 : decode prog_49_method_12_code 20 = .ok (.iconst 0, 1) := by decide +kernel
theorem d46_21 : decode prog_49_method_12_code 21 = .ok (.ireturn, 1) := by decide +kernel
theorem d46_16 : decode prog_49_method_12_code 16 = .ok (.iconst 1, 1) := by decide +kernel
theorem d46_17 : decode prog_49_method_12_code 17 = .ok (.goto 4, 3) := by decide +kernel
theorem ef_46 (m : MethodId) (r0 : Addr) : entryFrame m #[(.ref r0)] 1 = mkF m 0 #[.val (.ref r0)] [] := by first | (simp [entryFrame, mkF, argsToLocals, Value.category]; done) | rfl
set_option maxRecDepth 65536 in
set_option maxHeartbeats 40000000 in
theorem rm46 (l : Launch) (Z : State) (a0 : Array Value) (hw : ∀ d ∈ tables_1, d.before a0 Z = true) (ws : List Jvm.Cond) (r0 : Addr) (sv : Int32) (wr : Int32) (h0 : Heap) (n0 : Nat) (Z0 : n0 ≤ h0.size) (Hp0 : Fld Z h0 r0 "com/example/onesnap/onesnap/node/TransactionTracker" "status" "C" (.int sv)) (Hp1 : Fld Z h0 r0 "com/example/onesnap/onesnap/node/TransactionTracker" "writes" "Z" (.int wr)) :
    MetFree l (⟨"com/example/onesnap/onesnap/node/TransactionTracker", "commitsAtSync", "()Z"⟩ : MethodName) (head1 (Jvm.Cond.code (⟨"com/example/onesnap/onesnap/node/TransactionTracker", "commitsAtSync", "()Z"⟩ : MethodName) prog_49_method_12_code 1 (some .boolean) :: ws) ({ frames := 0, cells := 0, slots := 0, locals := 0 } : Room)) (fun a U => a = #[(.ref r0)] ∧ Z.Warmed39 U.vm ∧ U.heap = h0) (fun _ _ _ _ _ => True) (fun _ U o U' => ∃ v L, o = .returned v ∧ Q46 Z r0 sv wr h0 n0 v U'.heap L ∧ FrameEnd U o U' L ({ frames := 0, cells := 0, slots := 0, locals := 0 } : Room).cells ({ frames := 0, cells := 0, slots := 0, locals := 0 } : Room).slots) := by
  refine MetFree.of_bodySF (plainFor_of_name pn_com_example_onesnap_onesnap_node_TransactionTracker) hisR ?_
  intro p e s m args below meth c s₁ Bd hml0 hP hK
  obtain ⟨rfl, hZ, hh⟩ := hP
  have hx := Bd.exec
  have hby := Bd.bytes
  have hml : c.maxLocals = 1 := hml0
  have hown : s.vm.findClass "com/example/onesnap/onesnap/node/TransactionTracker" = some m.cls := findClass_of_methodNamed Bd.named
  have hnm := (name_of_methodNamed Bd.named Bd.method).1
  have X0 : Stand p l e ({ frames := 0, cells := 0, slots := 0, locals := 0 } : Room) s m #[(.ref r0)] below meth c s₁ [] 0 0 := Stand.of_body Bd
  have e0 : s₁.heap = h0 := by rw [← hh, Bd.state]; rfl
  have N0 := Fr.nil n0
  have pre0 : ∀ t, Steps p.tables e below (s₁.setTop (mkF m 0 #[.val (.ref r0)] [])) t → Steps p.tables e below (s₁.setTop (entryFrame m #[(.ref r0)] 1)) t := fun t k => castTop (ef_46 m r0) k
  obtain ⟨T1, X1, e1, st1⟩ := getF X0 hx hZ hown (host := "") (Or.inl (hw _ (tm 78 rfl))) Via.refl e0 Hp0 (g := (mkF m 1 #[.val (.ref r0)] [(.ref r0)])) rfl rfl (hb hby d46_1)
  have pre2 : ∀ tz, Steps p.tables e below (T1.setTop (mkF m 6 #[.val (.ref r0)] [(.int (73 : Int32)), (.int sv)])) tz → Steps p.tables e below (s₁.setTop (entryFrame m #[(.ref r0)] 1)) tz := fun tz kk => pre0 tz (by
    show Steps _ _ _ (s₁.setTop (mkF m 0 #[.val (.ref r0)] [])) _
    refine XS.aloadN X0.here hx rfl (hb hby d46_0) rfl rfl ?_
    show Steps _ _ _ (s₁.setTop (mkF m 1 #[.val (.ref r0)] [(.ref r0)])) _
    refine st1 _ ?_
    show Steps _ _ _ (T1.setTop (mkF m 4 #[.val (.ref r0)] [(.int sv)])) _
    refine XS.bipush X1.here hx rfl (hb hby d46_4) ?_
    exact kk)
  by_cases hc3 : sv = (73 : Int32)
  · obtain ⟨T4, X4, e4, st4⟩ := getF X1 hx hZ hown (host := "") (Or.inl (hw _ (tm 105 rfl))) Via.refl e1 Hp1 (g := (mkF m 10 #[.val (.ref r0)] [(.ref r0)])) rfl rfl (hb hby d46_10)
    have pre5 : ∀ tz, Steps p.tables e below (T4.setTop (mkF m 13 #[.val (.ref r0)] [(.int wr)])) tz → Steps p.tables e below (s₁.setTop (entryFrame m #[(.ref r0)] 1)) tz := fun tz kk => pre2 tz (by
      show Steps _ _ _ (T1.setTop (mkF m 6 #[.val (.ref r0)] [(.int (73 : Int32)), (.int sv)])) _
      refine XS.icmpNo X1.here hx rfl (hb hby d46_6) rfl (teq hc3).2 ?_
      show Steps _ _ _ (T1.setTop (mkF m 9 #[.val (.ref r0)] [])) _
      refine XS.aloadN X1.here hx rfl (hb hby d46_9) rfl rfl ?_
      show Steps _ _ _ (T1.setTop (mkF m 10 #[.val (.ref r0)] [(.ref r0)])) _
      refine st4 _ ?_
      exact kk)
    by_cases hc6 : wr = (0 : Int32)
    · obtain ⟨fs, hr, hrun, hended, hW, hsame⟩ := X4.leave (v := some (.int (0 : Int32))) (fun h => by rw [Bd.returns] at h; cases h)
      refine ⟨_, _, pre5 _ ?_, hrun, hended, _, _, rfl, ?_, ⟨_, rfl⟩, hW, hsame.mono (by decide) (by decide)⟩
      · show Steps _ _ _ (T4.setTop (mkF m 13 #[.val (.ref r0)] [(.int wr)])) _
        refine XS.ifYes X4.here hx rfl (pc0 := 13) (pc' := 20) rfl (hb hby d46_13) rfl ((if0 _ _).trans (teq hc6).1) (by decide) (by decide) ?_
        show Steps _ _ _ (T4.setTop (mkF m 20 #[.val (.ref r0)] [])) _
        refine XS.iconst X4.here hx rfl (hb hby d46_20) ?_
        show Steps _ _ _ (T4.setTop (mkF m 21 #[.val (.ref r0)] [(.int (0 : Int32))])) _
        exact retN X4 hx (t := .boolean) Bd.returns (by simp) (hb hby d46_21) hr
      · show Q46 Z r0 sv wr h0 n0 _ T4.heap _
        rw [e4]
        exact ⟨(congrArg (fun z => some (Value.int z)) (by unfold cmF; rw [if_pos hc3, if_pos hc6])), N0, rfl⟩
    · obtain ⟨fs, hr, hrun, hended, hW, hsame⟩ := X4.leave (v := some (.int (1 : Int32))) (fun h => by rw [Bd.returns] at h; cases h)
      refine ⟨_, _, pre5 _ ?_, hrun, hended, _, _, rfl, ?_, ⟨_, rfl⟩, hW, hsame.mono (by decide) (by decide)⟩
      · show Steps _ _ _ (T4.setTop (mkF m 13 #[.val (.ref r0)] [(.int wr)])) _
        refine XS.ifNo X4.here hx rfl (hb hby d46_13) rfl ((if0 _ _).trans (feq hc6).1) ?_
        show Steps _ _ _ (T4.setTop (mkF m 16 #[.val (.ref r0)] [])) _
        refine XS.iconst X4.here hx rfl (hb hby d46_16) ?_
        show Steps _ _ _ (T4.setTop (mkF m 17 #[.val (.ref r0)] [(.int (1 : Int32))])) _
        refine XS.goto X4.here hx rfl (pc0 := 17) (pc' := 21) rfl (hb hby d46_17) (by decide) (by decide) ?_
        show Steps _ _ _ (T4.setTop (mkF m 21 #[.val (.ref r0)] [(.int (1 : Int32))])) _
        exact retN X4 hx (t := .boolean) Bd.returns (by simp) (hb hby d46_21) hr
      · show Q46 Z r0 sv wr h0 n0 _ T4.heap _
        rw [e4]
        exact ⟨(congrArg (fun z => some (Value.int z)) (by unfold cmF; rw [if_pos hc3, if_neg hc6])), N0, rfl⟩
  · obtain ⟨fs, hr, hrun, hended, hW, hsame⟩ := X1.leave (v := some (.int (0 : Int32))) (fun h => by rw [Bd.returns] at h; cases h)
    refine ⟨_, _, pre2 _ ?_, hrun, hended, _, _, rfl, ?_, ⟨_, rfl⟩, hW, hsame.mono (by decide) (by decide)⟩
    · show Steps _ _ _ (T1.setTop (mkF m 6 #[.val (.ref r0)] [(.int (73 : Int32)), (.int sv)])) _
      refine XS.icmpYes X1.here hx rfl (pc0 := 6) (pc' := 20) rfl (hb hby d46_6) rfl (feq hc3).2 (by decide) (by decide) ?_
      show Steps _ _ _ (T1.setTop (mkF m 20 #[.val (.ref r0)] [])) _
      refine XS.iconst X1.here hx rfl (hb hby d46_20) ?_
      show Steps _ _ _ (T1.setTop (mkF m 21 #[.val (.ref r0)] [(.int (0 : Int32))])) _
      exact retN X1 hx (t := .boolean) Bd.returns (by simp) (hb hby d46_21) hr
    · show Q46 Z r0 sv wr h0 n0 _ T1.heap _
      rw [e1]
      exact ⟨(congrArg (fun z => some (Value.int z)) (by unfold cmF; rw [if_neg hc3])), N0, rfl⟩
def afF (p0 : Int32) (r1 s0 s1 s3 : Addr) : Int32 := (if r1 = s0 then (if p0 = (73 : Int32) then (84 : Int32) else (if r1 = s1 then (73 : Int32) else (if r1 = s3 then (73 : Int32) else (nar .char p0)))) else (if r1 = s1 then (73 : Int32) else (if r1 = s3 then (73 : Int32) else (nar .char p0))))
def Q47 (Z : State) (p0 : Int32) (r1 : Addr) (s0 : Addr) (s1 : Addr) (s3 : Addr) (h0 : Heap) (n0 : Nat) (v : Option Value) (h : Heap) (L : List Loc) : Prop := v = some (.int (afF p0 r1 s0 s1 s3)) ∧ Fr n0 L ∧ h = h0
theorem d47_0 : decode method_4_code 0 = .ok (.aload_n 1, 1) := by decide +kernel
theorem d47_1 : decode method_4_code 1 = .ok (.getstatic 8, 3) := by decide +kernel
theorem d47_4 : decode method_4_code 4 = .ok (.if_acmp .ne 12, 3) := by decide +kernel
theorem d47_7 : decode method_4_code 7 = .ok (.iload_n 0, 1) := by decide +kernel
theorem d47_8 : decode method_4_code 8 = .ok (.bipush 73, 2) := by decide +kernel
theorem d47_10 : decode method_4_code 10 = .ok (.if_icmp .ne 6, 3) := by decide +kernel
theorem d47_13 : decode method_4_code 13 = .ok (.bipush 84, 2) := by decide +kernel
theorem d47_15 : decode method_4_code 15 = .ok (.ireturn, 1) := by decide +kernel
theorem d47_16 : decode method_4_code 16 = .ok (.aload_n 1, 1) := by decide +kernel
theorem d47_17 : decode method_4_code 17 = .ok (.getstatic 14, 3) := by decide +kernel
theorem d47_20 : decode method_4_code 20 = .ok (.if_acmp .eq 10, 3) := by decide +kernel
theorem d47_30 : decode method_4_code 30 = .ok (.bipush 73, 2) := by decide +kernel
theorem d47_32 : decode method_4_code 32 = .ok (.ireturn, 1) := by decide +kernel
theorem d47_23 : decode method_4_code 23 = .ok (.aload_n 1, 1) := by decide +kernel
theorem d47_24 : decode method_4_code 24 = .ok (.getstatic 20, 3) := by decide +kernel
theorem d47_27 : decode method_4_code 27 = .ok (.if_acmp .ne 6, 3) := by decide +kernel
theorem d47_33 : decode method_4_code 33 = .ok (.iload_n 0, 1) := by decide +kernel
theorem d47_34 : decode method_4_code 34 = .ok (.ireturn, 1) := by decide +kernel
theorem ef_47 (m : MethodId) (p0 : Int32) (r1 : Addr) : entryFrame m #[(.int p0), (.ref r1)] 2 = mkF m 0 #[.val (.int p0), .val (.ref r1)] [] := by first | (simp [entryFrame, mkF, argsToLocals, Value.category]; done) | rfl
set_option maxRecDepth 65536 in
set_option maxHeartbeats 40000000 in
theorem rm47 (l : Launch) (Z : State) (a0 : Array Value) (hw : ∀ d ∈ tables_1, d.before a0 Z = true) (ws : List Jvm.Cond) (p0 : Int32) (r1 : Addr) (s0 : Addr) (s1 : Addr) (s3 : Addr) (h0 : Heap) (n0 : Nat) (Z0 : n0 ≤ h0.size) (Hp0 : Old Z n0 h0) (Hp1 : Sta Z Z.heap "com/example/onesnap/onesnap/node/StatementKind" "BEGIN" "Lcom/example/onesnap/onesnap/node/StatementKind;" (.ref s0)) (Hp2 : Sta Z Z.heap "com/example/onesnap/onesnap/node/StatementKind" "COMMIT" "Lcom/example/onesnap/onesnap/node/StatementKind;" (.ref s1)) (Hp3 : Sta Z Z.heap "com/example/onesnap/onesnap/node/StatementKind" "ROLLBACK" "Lcom/example/onesnap/onesnap/node/StatementKind;" (.ref s3)) :
    MetFree l (⟨"com/example/onesnap/onesnap/node/TransactionTrackerCommitsAtSyncPinLaw", "after", "(CLcom/example/onesnap/onesnap/node/StatementKind;)C"⟩ : MethodName) (head1 (Jvm.Cond.code (⟨"com/example/onesnap/onesnap/node/TransactionTrackerCommitsAtSyncPinLaw", "after", "(CLcom/example/onesnap/onesnap/node/StatementKind;)C"⟩ : MethodName) method_4_code 2 (some .char) :: ws) ({ frames := 0, cells := 0, slots := 0, locals := 0 } : Room)) (fun a U => a = #[(.int p0), (.ref r1)] ∧ Z.Warmed39 U.vm ∧ U.heap = h0) (fun _ _ _ _ _ => True) (fun _ U o U' => ∃ v L, o = .returned v ∧ Q47 Z p0 r1 s0 s1 s3 h0 n0 v U'.heap L ∧ FrameEnd U o U' L ({ frames := 0, cells := 0, slots := 0, locals := 0 } : Room).cells ({ frames := 0, cells := 0, slots := 0, locals := 0 } : Room).slots) := by
  refine MetFree.of_bodySF (plainFor_of_name pn_com_example_onesnap_onesnap_node_TransactionTrackerCommitsAtSyncPinLaw) hisR ?_
  intro p e s m args below meth c s₁ Bd hml0 hP hK
  obtain ⟨rfl, hZ, hh⟩ := hP
  have hx := Bd.exec
  have hby := Bd.bytes
  have hml : c.maxLocals = 2 := hml0
  have hown : s.vm.findClass "com/example/onesnap/onesnap/node/TransactionTrackerCommitsAtSyncPinLaw" = some m.cls := findClass_of_methodNamed Bd.named
  have hnm := (name_of_methodNamed Bd.named Bd.method).1
  have X0 : Stand p l e ({ frames := 0, cells := 0, slots := 0, locals := 0 } : Room) s m #[(.int p0), (.ref r1)] below meth c s₁ [] 0 0 := Stand.of_body Bd
  have e0 : s₁.heap = h0 := by rw [← hh, Bd.state]; rfl
  have N0 := Fr.nil n0
  have pre0 : ∀ t, Steps p.tables e below (s₁.setTop (mkF m 0 (l_35 p0 r1) [])) t → Steps p.tables e below (s₁.setTop (entryFrame m #[(.int p0), (.ref r1)] 2)) t := fun t k => castTop (ef_47 m p0 r1) k
  obtain ⟨T1, X1, e1, st1⟩ := getS2 X0 hx hZ hown (host := "") (Or.inl (hw _ (tm 327 rfl))) Via.refl e0 (Hp1.ext Hp0.2) (g := (mkF m 1 (l_35 p0 r1) [(.ref r1)])) rfl (hb hby d47_1)
  have pre2 : ∀ tz, Steps p.tables e below (T1.setTop (mkF m 4 (l_35 p0 r1) [(.ref s0), (.ref r1)])) tz → Steps p.tables e below (s₁.setTop (entryFrame m #[(.int p0), (.ref r1)] 2)) tz := fun tz kk => pre0 tz (by
    show Steps _ _ _ (s₁.setTop (mkF m 0 (l_35 p0 r1) [])) _
    refine XS.aloadN X0.here hx rfl (hb hby d47_0) rfl rfl ?_
    show Steps _ _ _ (s₁.setTop (mkF m 1 (l_35 p0 r1) [(.ref r1)])) _
    refine st1 _ ?_
    exact kk)
  by_cases hc3 : r1 = s0
  · have pre4 : ∀ tz, Steps p.tables e below (T1.setTop (mkF m 10 (l_35 p0 r1) [(.int (73 : Int32)), (.int p0)])) tz → Steps p.tables e below (s₁.setTop (entryFrame m #[(.int p0), (.ref r1)] 2)) tz := fun tz kk => pre2 tz (by
      show Steps _ _ _ (T1.setTop (mkF m 4 (l_35 p0 r1) [(.ref s0), (.ref r1)])) _
      refine Jvm.RoadKit.acmp (g := (mkF m 4 (l_35 p0 r1) [(.ref s0), (.ref r1)])) X1 hx rfl rfl rfl (pc0 := 4) (pc' := 7) (same := true) rfl (hb hby d47_4) rfl (decide_eq_true (congrArg Value.ref hc3)) (by decide) (by decide) ?_
      show Steps _ _ _ (T1.setTop (mkF m 7 (l_35 p0 r1) [])) _
      refine XS.iloadN X1.here hx rfl (hb hby d47_7) rfl ?_
      show Steps _ _ _ (T1.setTop (mkF m 8 (l_35 p0 r1) [(.int p0)])) _
      refine XS.bipush X1.here hx rfl (hb hby d47_8) ?_
      exact kk)
    by_cases hc5 : p0 = (73 : Int32)
    · obtain ⟨fs, hr, hrun, hended, hW, hsame⟩ := X1.leave (v := some (.int (84 : Int32))) (fun h => by rw [Bd.returns] at h; cases h)
      refine ⟨_, _, pre4 _ ?_, hrun, hended, _, _, rfl, ?_, ⟨_, rfl⟩, hW, hsame.mono (by decide) (by decide)⟩
      · show Steps _ _ _ (T1.setTop (mkF m 10 (l_35 p0 r1) [(.int (73 : Int32)), (.int p0)])) _
        refine XS.icmpNo X1.here hx rfl (hb hby d47_10) rfl (teq hc5).2 ?_
        show Steps _ _ _ (T1.setTop (mkF m 13 (l_35 p0 r1) [])) _
        refine XS.bipush X1.here hx rfl (hb hby d47_13) ?_
        show Steps _ _ _ (T1.setTop (mkF m 15 (l_35 p0 r1) [(.int (84 : Int32))])) _
        exact retN X1 hx (t := .char) Bd.returns (by simp) (hb hby d47_15) hr
      · show Q47 Z p0 r1 s0 s1 s3 h0 n0 _ T1.heap _
        rw [e1]
        exact ⟨(congrArg (fun z => some (Value.int z)) (by unfold afF; rw [if_pos hc3, if_pos hc5])), N0, rfl⟩
    · obtain ⟨T6, X6, e6, st6⟩ := getS2 X1 hx hZ hown (host := "") (Or.inl (hw _ (tm 332 rfl))) Via.refl e1 (Hp2.ext Hp0.2) (g := (mkF m 17 (l_35 p0 r1) [(.ref r1)])) rfl (hb hby d47_17)
      have pre7 : ∀ tz, Steps p.tables e below (T6.setTop (mkF m 20 (l_35 p0 r1) [(.ref s1), (.ref r1)])) tz → Steps p.tables e below (s₁.setTop (entryFrame m #[(.int p0), (.ref r1)] 2)) tz := fun tz kk => pre4 tz (by
        show Steps _ _ _ (T1.setTop (mkF m 10 (l_35 p0 r1) [(.int (73 : Int32)), (.int p0)])) _
        refine XS.icmpYes X1.here hx rfl (pc0 := 10) (pc' := 16) rfl (hb hby d47_10) rfl (feq hc5).2 (by decide) (by decide) ?_
        show Steps _ _ _ (T1.setTop (mkF m 16 (l_35 p0 r1) [])) _
        refine XS.aloadN X1.here hx rfl (hb hby d47_16) rfl rfl ?_
        show Steps _ _ _ (T1.setTop (mkF m 17 (l_35 p0 r1) [(.ref r1)])) _
        refine st6 _ ?_
        exact kk)
      by_cases hc8 : r1 = s1
      · obtain ⟨fs, hr, hrun, hended, hW, hsame⟩ := X6.leave (v := some (.int (73 : Int32))) (fun h => by rw [Bd.returns] at h; cases h)
        refine ⟨_, _, pre7 _ ?_, hrun, hended, _, _, rfl, ?_, ⟨_, rfl⟩, hW, hsame.mono (by decide) (by decide)⟩
        · show Steps _ _ _ (T6.setTop (mkF m 20 (l_35 p0 r1) [(.ref s1), (.ref r1)])) _
          refine Jvm.RoadKit.acmp (g := (mkF m 20 (l_35 p0 r1) [(.ref s1), (.ref r1)])) X6 hx rfl rfl rfl (pc0 := 20) (pc' := 30) (same := true) rfl (hb hby d47_20) rfl (decide_eq_true (congrArg Value.ref hc8)) (by decide) (by decide) ?_
          show Steps _ _ _ (T6.setTop (mkF m 30 (l_35 p0 r1) [])) _
          refine XS.bipush X6.here hx rfl (hb hby d47_30) ?_
          show Steps _ _ _ (T6.setTop (mkF m 32 (l_35 p0 r1) [(.int (73 : Int32))])) _
          exact retN X6 hx (t := .char) Bd.returns (by simp) (hb hby d47_32) hr
        · show Q47 Z p0 r1 s0 s1 s3 h0 n0 _ T6.heap _
          rw [e6]
          exact ⟨(congrArg (fun z => some (Value.int z)) (by unfold afF; rw [if_pos hc3, if_neg hc5, if_pos hc8])), N0, rfl⟩
      · obtain ⟨T9, X9, e9, st9⟩ := getS2 X6 hx hZ hown (host := "") (Or.inl (hw _ (tm 8 rfl))) Via.refl e6 (Hp3.ext Hp0.2) (g := (mkF m 24 (l_35 p0 r1) [(.ref r1)])) rfl (hb hby d47_24)
        have pre10 : ∀ tz, Steps p.tables e below (T9.setTop (mkF m 27 (l_35 p0 r1) [(.ref s3), (.ref r1)])) tz → Steps p.tables e below (s₁.setTop (entryFrame m #[(.int p0), (.ref r1)] 2)) tz := fun tz kk => pre7 tz (by
          show Steps _ _ _ (T6.setTop (mkF m 20 (l_35 p0 r1) [(.ref s1), (.ref r1)])) _
          refine Jvm.RoadKit.acmp (g := (mkF m 20 (l_35 p0 r1) [(.ref s1), (.ref r1)])) X6 hx rfl rfl rfl (pc0 := 20) (pc' := 23) (same := false) rfl (hb hby d47_20) rfl (decide_eq_false fun q => hc8 (Value.ref.inj q)) (by decide) (by decide) ?_
          show Steps _ _ _ (T6.setTop (mkF m 23 (l_35 p0 r1) [])) _
          refine XS.aloadN X6.here hx rfl (hb hby d47_23) rfl rfl ?_
          show Steps _ _ _ (T6.setTop (mkF m 24 (l_35 p0 r1) [(.ref r1)])) _
          refine st9 _ ?_
          exact kk)
        by_cases hc11 : r1 = s3
        · obtain ⟨fs, hr, hrun, hended, hW, hsame⟩ := X9.leave (v := some (.int (73 : Int32))) (fun h => by rw [Bd.returns] at h; cases h)
          refine ⟨_, _, pre10 _ ?_, hrun, hended, _, _, rfl, ?_, ⟨_, rfl⟩, hW, hsame.mono (by decide) (by decide)⟩
          · show Steps _ _ _ (T9.setTop (mkF m 27 (l_35 p0 r1) [(.ref s3), (.ref r1)])) _
            refine Jvm.RoadKit.acmp (g := (mkF m 27 (l_35 p0 r1) [(.ref s3), (.ref r1)])) X9 hx rfl rfl rfl (pc0 := 27) (pc' := 30) (same := true) rfl (hb hby d47_27) rfl (decide_eq_true (congrArg Value.ref hc11)) (by decide) (by decide) ?_
            show Steps _ _ _ (T9.setTop (mkF m 30 (l_35 p0 r1) [])) _
            refine XS.bipush X9.here hx rfl (hb hby d47_30) ?_
            show Steps _ _ _ (T9.setTop (mkF m 32 (l_35 p0 r1) [(.int (73 : Int32))])) _
            exact retN X9 hx (t := .char) Bd.returns (by simp) (hb hby d47_32) hr
          · show Q47 Z p0 r1 s0 s1 s3 h0 n0 _ T9.heap _
            rw [e9]
            exact ⟨(congrArg (fun z => some (Value.int z)) (by unfold afF; rw [if_pos hc3, if_neg hc5, if_neg hc8, if_pos hc11])), N0, rfl⟩
        · obtain ⟨fs, hr, hrun, hended, hW, hsame⟩ := X9.leave (v := some (.int (nar .char p0))) (fun h => by rw [Bd.returns] at h; cases h)
          refine ⟨_, _, pre10 _ ?_, hrun, hended, _, _, rfl, ?_, ⟨_, rfl⟩, hW, hsame.mono (by decide) (by decide)⟩
          · show Steps _ _ _ (T9.setTop (mkF m 27 (l_35 p0 r1) [(.ref s3), (.ref r1)])) _
            refine Jvm.RoadKit.acmp (g := (mkF m 27 (l_35 p0 r1) [(.ref s3), (.ref r1)])) X9 hx rfl rfl rfl (pc0 := 27) (pc' := 33) (same := false) rfl (hb hby d47_27) rfl (decide_eq_false fun q => hc11 (Value.ref.inj q)) (by decide) (by decide) ?_
            show Steps _ _ _ (T9.setTop (mkF m 33 (l_35 p0 r1) [])) _
            refine XS.iloadN X9.here hx rfl (hb hby d47_33) rfl ?_
            show Steps _ _ _ (T9.setTop (mkF m 34 (l_35 p0 r1) [(.int p0)])) _
            exact retN X9 hx (t := .char) Bd.returns (by simp) (hb hby d47_34) hr
          · show Q47 Z p0 r1 s0 s1 s3 h0 n0 _ T9.heap _
            rw [e9]
            exact ⟨(congrArg (fun z => some (Value.int z)) (by unfold afF; rw [if_pos hc3, if_neg hc5, if_neg hc8, if_neg hc11])), N0, rfl⟩
  · obtain ⟨T12, X12, e12, st12⟩ := getS2 X1 hx hZ hown (host := "") (Or.inl (hw _ (tm 332 rfl))) Via.refl e1 (Hp2.ext Hp0.2) (g := (mkF m 17 (l_35 p0 r1) [(.ref r1)])) rfl (hb hby d47_17)
    have pre13 : ∀ tz, Steps p.tables e below (T12.setTop (mkF m 20 (l_35 p0 r1) [(.ref s1), (.ref r1)])) tz → Steps p.tables e below (s₁.setTop (entryFrame m #[(.int p0), (.ref r1)] 2)) tz := fun tz kk => pre2 tz (by
      show Steps _ _ _ (T1.setTop (mkF m 4 (l_35 p0 r1) [(.ref s0), (.ref r1)])) _
      refine Jvm.RoadKit.acmp (g := (mkF m 4 (l_35 p0 r1) [(.ref s0), (.ref r1)])) X1 hx rfl rfl rfl (pc0 := 4) (pc' := 16) (same := false) rfl (hb hby d47_4) rfl (decide_eq_false fun q => hc3 (Value.ref.inj q)) (by decide) (by decide) ?_
      show Steps _ _ _ (T1.setTop (mkF m 16 (l_35 p0 r1) [])) _
      refine XS.aloadN X1.here hx rfl (hb hby d47_16) rfl rfl ?_
      show Steps _ _ _ (T1.setTop (mkF m 17 (l_35 p0 r1) [(.ref r1)])) _
      refine st12 _ ?_
      exact kk)
    by_cases hc14 : r1 = s1
    · obtain ⟨fs, hr, hrun, hended, hW, hsame⟩ := X12.leave (v := some (.int (73 : Int32))) (fun h => by rw [Bd.returns] at h; cases h)
      refine ⟨_, _, pre13 _ ?_, hrun, hended, _, _, rfl, ?_, ⟨_, rfl⟩, hW, hsame.mono (by decide) (by decide)⟩
      · show Steps _ _ _ (T12.setTop (mkF m 20 (l_35 p0 r1) [(.ref s1), (.ref r1)])) _
        refine Jvm.RoadKit.acmp (g := (mkF m 20 (l_35 p0 r1) [(.ref s1), (.ref r1)])) X12 hx rfl rfl rfl (pc0 := 20) (pc' := 30) (same := true) rfl (hb hby d47_20) rfl (decide_eq_true (congrArg Value.ref hc14)) (by decide) (by decide) ?_
        show Steps _ _ _ (T12.setTop (mkF m 30 (l_35 p0 r1) [])) _
        refine XS.bipush X12.here hx rfl (hb hby d47_30) ?_
        show Steps _ _ _ (T12.setTop (mkF m 32 (l_35 p0 r1) [(.int (73 : Int32))])) _
        exact retN X12 hx (t := .char) Bd.returns (by simp) (hb hby d47_32) hr
      · show Q47 Z p0 r1 s0 s1 s3 h0 n0 _ T12.heap _
        rw [e12]
        exact ⟨(congrArg (fun z => some (Value.int z)) (by unfold afF; rw [if_neg hc3, if_pos hc14])), N0, rfl⟩
    · obtain ⟨T15, X15, e15, st15⟩ := getS2 X12 hx hZ hown (host := "") (Or.inl (hw _ (tm 8 rfl))) Via.refl e12 (Hp3.ext Hp0.2) (g := (mkF m 24 (l_35 p0 r1) [(.ref r1)])) rfl (hb hby d47_24)
      have pre16 : ∀ tz, Steps p.tables e below (T15.setTop (mkF m 27 (l_35 p0 r1) [(.ref s3), (.ref r1)])) tz → Steps p.tables e below (s₁.setTop (entryFrame m #[(.int p0), (.ref r1)] 2)) tz := fun tz kk => pre13 tz (by
        show Steps _ _ _ (T12.setTop (mkF m 20 (l_35 p0 r1) [(.ref s1), (.ref r1)])) _
        refine Jvm.RoadKit.acmp (g := (mkF m 20 (l_35 p0 r1) [(.ref s1), (.ref r1)])) X12 hx rfl rfl rfl (pc0 := 20) (pc' := 23) (same := false) rfl (hb hby d47_20) rfl (decide_eq_false fun q => hc14 (Value.ref.inj q)) (by decide) (by decide) ?_
        show Steps _ _ _ (T12.setTop (mkF m 23 (l_35 p0 r1) [])) _
        refine XS.aloadN X12.here hx rfl (hb hby d47_23) rfl rfl ?_
        show Steps _ _ _ (T12.setTop (mkF m 24 (l_35 p0 r1) [(.ref r1)])) _
        refine st15 _ ?_
        exact kk)
      by_cases hc17 : r1 = s3
      · obtain ⟨fs, hr, hrun, hended, hW, hsame⟩ := X15.leave (v := some (.int (73 : Int32))) (fun h => by rw [Bd.returns] at h; cases h)
        refine ⟨_, _, pre16 _ ?_, hrun, hended, _, _, rfl, ?_, ⟨_, rfl⟩, hW, hsame.mono (by decide) (by decide)⟩
        · show Steps _ _ _ (T15.setTop (mkF m 27 (l_35 p0 r1) [(.ref s3), (.ref r1)])) _
          refine Jvm.RoadKit.acmp (g := (mkF m 27 (l_35 p0 r1) [(.ref s3), (.ref r1)])) X15 hx rfl rfl rfl (pc0 := 27) (pc' := 30) (same := true) rfl (hb hby d47_27) rfl (decide_eq_true (congrArg Value.ref hc17)) (by decide) (by decide) ?_
          show Steps _ _ _ (T15.setTop (mkF m 30 (l_35 p0 r1) [])) _
          refine XS.bipush X15.here hx rfl (hb hby d47_30) ?_
          show Steps _ _ _ (T15.setTop (mkF m 32 (l_35 p0 r1) [(.int (73 : Int32))])) _
          exact retN X15 hx (t := .char) Bd.returns (by simp) (hb hby d47_32) hr
        · show Q47 Z p0 r1 s0 s1 s3 h0 n0 _ T15.heap _
          rw [e15]
          exact ⟨(congrArg (fun z => some (Value.int z)) (by unfold afF; rw [if_neg hc3, if_neg hc14, if_pos hc17])), N0, rfl⟩
      · obtain ⟨fs, hr, hrun, hended, hW, hsame⟩ := X15.leave (v := some (.int (nar .char p0))) (fun h => by rw [Bd.returns] at h; cases h)
        refine ⟨_, _, pre16 _ ?_, hrun, hended, _, _, rfl, ?_, ⟨_, rfl⟩, hW, hsame.mono (by decide) (by decide)⟩
        · show Steps _ _ _ (T15.setTop (mkF m 27 (l_35 p0 r1) [(.ref s3), (.ref r1)])) _
          refine Jvm.RoadKit.acmp (g := (mkF m 27 (l_35 p0 r1) [(.ref s3), (.ref r1)])) X15 hx rfl rfl rfl (pc0 := 27) (pc' := 33) (same := false) rfl (hb hby d47_27) rfl (decide_eq_false fun q => hc17 (Value.ref.inj q)) (by decide) (by decide) ?_
          show Steps _ _ _ (T15.setTop (mkF m 33 (l_35 p0 r1) [])) _
          refine XS.iloadN X15.here hx rfl (hb hby d47_33) rfl ?_
          show Steps _ _ _ (T15.setTop (mkF m 34 (l_35 p0 r1) [(.int p0)])) _
          exact retN X15 hx (t := .char) Bd.returns (by simp) (hb hby d47_34) hr
        · show Q47 Z p0 r1 s0 s1 s3 h0 n0 _ T15.heap _
          rw [e15]
          exact ⟨(congrArg (fun z => some (Value.int z)) (by unfold afF; rw [if_neg hc3, if_neg hc14, if_neg hc17])), N0, rfl⟩
abbrev cmA (p : Int32) (a b s0 s1 s3 s5 : Addr) : Int32 := cmF (exS (exS (nar .char (stF p)) (0 : Int32) a s0 s1 s3 s5) (exW (nar .char (stF p)) (0 : Int32) a s0 s1 s3 s5) b s0 s1 s3 s5) (exW (exS (nar .char (stF p)) (0 : Int32) a s0 s1 s3 s5) (exW (nar .char (stF p)) (0 : Int32) a s0 s1 s3 s5) b s0 s1 s3 s5)
theorem own_again (x : Int32) : cmF x 0 = 0 := by
  unfold cmF; by_cases h : x = (73 : Int32)
  · rw [if_pos h, if_pos rfl]
  · rw [if_neg h]
theorem own_nn (x : Int32) : nar .char (nar .char x) = nar .char x := by
  have h := fits_nar_char x
  have e : nar .char x = x.toUInt32.toUInt16.toUInt32.toInt32 := rfl
  have e2 : nar .char (nar .char x) = (nar .char x).toUInt32.toUInt16.toUInt32.toInt32 := rfl
  rw [e2, e]; simp only [UInt32.toUInt32_toInt32, UInt16.toUInt16_toUInt32]
theorem own_st (p : Int32) : nar .char (stF p) = stF p := by
  unfold stF; split
  · decide
  · split
    · decide
    · split
      · decide
      · exact own_nn _
theorem own_af {c : Int32} (wr : Int32) {x s0 s1 s3 s5 : Addr} (h : nar .char c = c) : afF c x s0 s1 s3 = exS c wr x s0 s1 s3 s5 ∧ nar .char (exS c wr x s0 s1 s3 s5) = exS c wr x s0 s1 s3 s5 := by
  have h1 : nar .char (84 : Int32) = (84 : Int32) := by decide
  have h2 : nar .char (73 : Int32) = (73 : Int32) := by decide
  unfold afF exS
  grind
theorem own_ew {c wr : Int32} {x s0 s1 s3 s5 : Addr} (d0 : s5 ≠ s0) (d1 : s5 ≠ s1) (d3 : s5 ≠ s3) : exW c wr x s0 s1 s3 s5 = if x = s5 then 1 else wr := by
  unfold exW
  grind
theorem own_law {s0 s1 s3 s5 a b : Addr} (d0 : s5 ≠ s0) (d1 : s5 ≠ s1) (d3 : s5 ≠ s3) (p w : Int32) (hw : (if a = s5 then (1 : Int32) else if b = s5 then (1 : Int32) else (0 : Int32)) = w) :
    cmA p a b s0 s1 s3 s5 = if afF (afF (stF p) a s0 s1 s3) b s0 s1 s3 = (73 : Int32) then w else (0 : Int32) := by
  have key : ∀ z y : Int32, (y = if b = s5 then (1 : Int32) else if a = s5 then (1 : Int32) else (0 : Int32)) → cmF z y = if z = (73 : Int32) then w else (0 : Int32) := by
    intro z y hy
    rw [← hw, hy]
    unfold cmF
    grind
  unfold cmA
  rw [own_st]
  obtain ⟨h1, h2⟩ := own_af (c := stF p) 0 (x := a) (s0 := s0) (s1 := s1) (s3 := s3) (s5 := s5) (own_st p)
  rw [h1]
  obtain ⟨h3, h4⟩ := own_af (c := exS (stF p) 0 a s0 s1 s3 s5) (exW (stF p) 0 a s0 s1 s3 s5) (x := b) (s0 := s0) (s1 := s1) (s3 := s3) (s5 := s5) h2
  rw [h3]
  exact key _ _ (by rw [own_ew d0 d1 d3, own_ew d0 d1 d3])
theorem pd__28I_29C : parseMethodDescriptor "(I)C" = some ⟨[.int], some .char⟩ := by decide +kernel
theorem pd__28I_29Lcom_2fexample_2fonesnap_2fonesnap_2fnode_2fStatementKind_3b : parseMethodDescriptor "(I)Lcom/example/onesnap/onesnap/node/StatementKind;" = some ⟨[.int], some (.object "com/example/onesnap/onesnap/node/StatementKind")⟩ := by decide +kernel
theorem pd__28C_29V : parseMethodDescriptor "(C)V" = some ⟨[.char], none⟩ := by decide +kernel
theorem pd__28_5bBLjava_2futil_2fList_3b_29V : parseMethodDescriptor "([BLjava/util/List;)V" = some ⟨[(.array .byte), (.object "java/util/List")], none⟩ := by decide +kernel
theorem pd__28_5bB_5bB_29V : parseMethodDescriptor "([B[B)V" = some ⟨[(.array .byte), (.array .byte)], none⟩ := by decide +kernel
theorem pd__28_5bB_29V : parseMethodDescriptor "([B)V" = some ⟨[(.array .byte)], none⟩ := by decide +kernel
theorem pd__28CLcom_2fexample_2fonesnap_2fonesnap_2fnode_2fStatementKind_3b_29C : parseMethodDescriptor "(CLcom/example/onesnap/onesnap/node/StatementKind;)C" = some ⟨[.char, (.object "com/example/onesnap/onesnap/node/StatementKind")], some .char⟩ := by decide +kernel
def Q0 (h0 : Heap) (n0 : Nat) (v : Option Value) (h : Heap) (L : List Loc) : Prop := v = some (.int 1) ∧ Fr n0 L
theorem ef_0 (m : MethodId) (p0 : Int32) (p1 : Int32) (p2 : Int32) (p3 : Int32) (p4 : Int32) : entryFrame m #[(.int p0), (.int p1), (.int p2), (.int p3), (.int p4)] maxLocals = mkF m 0 #[.val (.int p0), .val (.int p1), .val (.int p2), .val (.int p3), .val (.int p4), .unset, .unset, .unset, .unset, .unset, .unset, .unset, .unset, .unset, .unset, .unset, .unset, .unset, .unset, .unset] [] := by first | (simp [entryFrame, mkF, argsToLocals, Value.category, maxLocals]; done) | rfl
set_option maxRecDepth 65536 in
set_option maxHeartbeats 40000000 in
theorem rm0 (l : Launch) (Z : State) (a0 : Array Value) (hw : ∀ d ∈ tables_1, d.before a0 Z = true) (ws : List Jvm.Cond) (p0 : Int32) (p1 : Int32) (p2 : Int32) (p3 : Int32) (p4 : Int32) (s0 s1 s2 s3 s4 s5 s6 de iso utf : Addr) (cs : Int32) (kd : ClassId) (h0 : Heap) (n0 : Nat) (Z0 : n0 ≤ h0.size) (O0 : Old Z n0 h0) (S0 : Sta Z Z.heap "com/example/onesnap/onesnap/node/StatementKind" "BEGIN" "Lcom/example/onesnap/onesnap/node/StatementKind;" (.ref s0)) (E0 : Exa Z Z.heap s0 "com/example/onesnap/onesnap/node/StatementKind") (S1 : Sta Z Z.heap "com/example/onesnap/onesnap/node/StatementKind" "COMMIT" "Lcom/example/onesnap/onesnap/node/StatementKind;" (.ref s1)) (E1 : Exa Z Z.heap s1 "com/example/onesnap/onesnap/node/StatementKind") (S2 : Sta Z Z.heap "com/example/onesnap/onesnap/node/StatementKind" "COMMIT_AND_CHAIN" "Lcom/example/onesnap/onesnap/node/StatementKind;" (.ref s2)) (E2 : Exa Z Z.heap s2 "com/example/onesnap/onesnap/node/StatementKind") (S3 : Sta Z Z.heap "com/example/onesnap/onesnap/node/StatementKind" "ROLLBACK" "Lcom/example/onesnap/onesnap/node/StatementKind;" (.ref s3)) (E3 : Exa Z Z.heap s3 "com/example/onesnap/onesnap/node/StatementKind") (S4 : Sta Z Z.heap "com/example/onesnap/onesnap/node/StatementKind" "CONTROL" "Lcom/example/onesnap/onesnap/node/StatementKind;" (.ref s4)) (E4 : Exa Z Z.heap s4 "com/example/onesnap/onesnap/node/StatementKind") (S5 : Sta Z Z.heap "com/example/onesnap/onesnap/node/StatementKind" "WRITE" "Lcom/example/onesnap/onesnap/node/StatementKind;" (.ref s5)) (E5 : Exa Z Z.heap s5 "com/example/onesnap/onesnap/node/StatementKind") (S6 : Sta Z Z.heap "com/example/onesnap/onesnap/node/StatementKind" "OTHER" "Lcom/example/onesnap/onesnap/node/StatementKind;" (.ref s6)) (E6 : Exa Z Z.heap s6 "com/example/onesnap/onesnap/node/StatementKind") (Sde : Sta Z Z.heap "java/util/ArrayList" "DEFAULTCAPACITY_EMPTY_ELEMENTDATA" "[Ljava/lang/Object;" (.ref de)) (Vde : Arv Z h0 de kd (.object "java/lang/Object") (0 : Int32) [] .null) (Siso : Sta Z Z.heap "sun/nio/cs/ISO_8859_1" "INSTANCE" "Lsun/nio/cs/ISO_8859_1;" (.ref iso)) (Sutf : Sta Z Z.heap "sun/nio/cs/UTF_8" "INSTANCE" "Lsun/nio/cs/UTF_8;" (.ref utf)) (Ssc : Sta Z Z.heap "java/nio/charset/StandardCharsets" "ISO_8859_1" "Ljava/nio/charset/Charset;" (.ref iso)) (Scs : Sta Z Z.heap "java/lang/String" "COMPACT_STRINGS" "Z" (.int cs)) (hcs : ¬ cs = (0 : Int32)) (hne : ¬ iso = utf) (Eiso : Exa Z Z.heap iso "sun/nio/cs/ISO_8859_1") (d0 : s5 ≠ s0) (d1 : s5 ≠ s1) (d3 : s5 ≠ s3) :
    MetFree l x (head1 (Jvm.Cond.code x code maxLocals ret :: ws) room_1) (fun a U => a = #[(.int p0), (.int p1), (.int p2), (.int p3), (.int p4)] ∧ Z.Warmed39 U.vm ∧ U.heap = h0) (fun _ _ _ _ _ => True) (fun _ U o U' => ∃ v L, o = .returned v ∧ Q0 h0 n0 v U'.heap L ∧ FrameEnd U o U' L room_1.cells room_1.slots) := by
  refine MetFree.of_bodySF (plainFor_of_name pn_com_example_onesnap_onesnap_node_TransactionTrackerCommitsAtSyncPinLaw) hisR ?_
  intro p e s m args below meth c s₁ Bd hml0 hP hK
  obtain ⟨rfl, hZ, hh⟩ := hP
  have hx := Bd.exec
  have hby := Bd.bytes
  have hml : c.maxLocals = 20 := hml0
  have hown : s.vm.findClass "com/example/onesnap/onesnap/node/TransactionTrackerCommitsAtSyncPinLaw" = some m.cls := findClass_of_methodNamed Bd.named
  have hnm := (name_of_methodNamed Bd.named Bd.method).1
  have X0 : Stand p l e room_1 s m #[(.int p0), (.int p1), (.int p2), (.int p3), (.int p4)] below meth c s₁ [] 0 0 := Stand.of_body Bd
  have e0 : s₁.heap = h0 := by rw [← hh, Bd.state]; rfl
  have N0 := Fr.nil n0
  have pre0 : ∀ t, Steps p.tables e below (s₁.setTop (mkF m 0 (l_36 p0 p1 p2 p3 p4) [])) t → Steps p.tables e below (s₁.setTop (entryFrame m #[(.int p0), (.int p1), (.int p2), (.int p3), (.int p4)] maxLocals)) t := fun t k => castTop (ef_0 m p0 p1 p2 p3 p4) k
  obtain ⟨_, _, ⟨T1, L1, k1, n1⟩, -, X1, ⟨Lc1, hQ1, l1, y1, z1⟩, st1⟩ := Jvm.LawKit.callS X0 hx (y := (⟨"com/example/onesnap/onesnap/node/TransactionTrackerCommitsAtSyncPinLaw", "status", "(I)C"⟩ : MethodName)) hown (mvT hZ (hw _ (tm 0 rfl))) (mvT hZ (hw _ (tm 1 rfl))) (mvT hZ (hw _ (tm 2 rfl))) (mvT hZ (hw _ (tm 3 rfl))) (by decide) (backOf (W := 0) (rm1 l Z a0 hw [] p0 h0 n0 Z0) hZ (hw _ (tm 3 rfl)) (hw _ (tm 2 rfl)) (by decide) (by decide)) (g := (mkF m 1 (l_36 p0 p1 p2 p3 p4) [(.int p0)])) rfl (by rw [hml]; rfl) (argsL := [(.int p0)]) (rest := []) (lenOf pd__28I_29C rfl) rfl (by show 2 * 0 + _ ≤ _; exact Nat.le_of_eq rfl) (hb hby at_1) (fun _ _ => ⟨rfl, e0, (by decide : 0 + 0 ≤ _), (by decide : 0 + 0 ≤ _)⟩)
  dsimp only [Pt.U, Pt.locs, Pt.cells, Pt.slots] at X1 l1 y1 z1 st1 hQ1
  subst l1 y1 z1
  obtain ⟨rfl, N1q, e1⟩ := hQ1
  have N1 := Fr.app N0 N1q
  obtain ⟨_, _, ⟨T2, L2, k2, n2⟩, -, X2, ⟨Lc2, hQ2, l2, y2, z2⟩, st2⟩ := Jvm.LawKit.callS X1 hx (y := (⟨"com/example/onesnap/onesnap/node/TransactionTrackerCommitsAtSyncPinLaw", "kind", "(I)Lcom/example/onesnap/onesnap/node/StatementKind;"⟩ : MethodName)) hown (mvT hZ (hw _ (tm 4 rfl))) (mvT hZ (hw _ (tm 5 rfl))) (mvT hZ (hw _ (tm 2 rfl))) (mvT hZ (hw _ (tm 6 rfl))) (by decide) (backOf (W := 0) (rm2 l Z a0 hw [] p1 s0 s1 s2 s3 s4 s5 s6 h0 n0 Z0 O0 S0 E0 S1 E1 S2 E2 S3 E3 S4 E4 S5 E5 S6 E6) hZ (hw _ (tm 6 rfl)) (hw _ (tm 2 rfl)) (by decide) (by decide)) (g := (mkF m 7 (l_37 p0 p1 p2 p3 p4 (stF p0)) [(.int p1)])) rfl (by rw [hml]; rfl) (argsL := [(.int p1)]) (rest := []) (lenOf pd__28I_29Lcom_2fexample_2fonesnap_2fonesnap_2fnode_2fStatementKind_3b rfl) rfl (by show 2 * 0 + _ ≤ _; exact Nat.le_of_eq rfl) (hb hby at_7) (fun _ _ => ⟨rfl, e1, (by decide : 0 + 0 ≤ _), (by decide : 0 + 0 ≤ _)⟩)
  dsimp only [Pt.U, Pt.locs, Pt.cells, Pt.slots] at X2 l2 y2 z2 st2 hQ2
  subst l2 y2 z2
  obtain ⟨b2, rfl, N2q, e2, Ek2⟩ := hQ2
  have N2 := Fr.app N1 N2q
  obtain ⟨_, _, ⟨T3, L3, k3, n3⟩, -, X3, ⟨Lc3, hQ3, l3, y3, z3⟩, st3⟩ := Jvm.LawKit.callS X2 hx (y := (⟨"com/example/onesnap/onesnap/node/TransactionTrackerCommitsAtSyncPinLaw", "kind", "(I)Lcom/example/onesnap/onesnap/node/StatementKind;"⟩ : MethodName)) hown (mvT hZ (hw _ (tm 4 rfl))) (mvT hZ (hw _ (tm 5 rfl))) (mvT hZ (hw _ (tm 2 rfl))) (mvT hZ (hw _ (tm 6 rfl))) (by decide) (backOf (W := 0) (rm2 l Z a0 hw [] p2 s0 s1 s2 s3 s4 s5 s6 h0 n0 Z0 O0 S0 E0 S1 E1 S2 E2 S3 E3 S4 E4 S5 E5 S6 E6) hZ (hw _ (tm 6 rfl)) (hw _ (tm 2 rfl)) (by decide) (by decide)) (g := (mkF m 13 (l_38 p0 p1 p2 p3 p4 (stF p0) b2) [(.int p2)])) rfl (by rw [hml]; rfl) (argsL := [(.int p2)]) (rest := []) (lenOf pd__28I_29Lcom_2fexample_2fonesnap_2fonesnap_2fnode_2fStatementKind_3b rfl) rfl (by show 2 * 0 + _ ≤ _; exact Nat.le_of_eq rfl) (hb hby at_13) (fun _ _ => ⟨rfl, e2, (by decide : 0 + 0 ≤ _), (by decide : 0 + 0 ≤ _)⟩)
  dsimp only [Pt.U, Pt.locs, Pt.cells, Pt.slots] at X3 l3 y3 z3 st3 hQ3
  subst l3 y3 z3
  obtain ⟨b3, rfl, N3q, e3, Ek3⟩ := hQ3
  have N3 := Fr.app N2 N3q
  have pre4 : ∀ tz, Steps p.tables e below (T3.setTop (mkF m 21 (l_39 p0 p1 p2 p3 p4 (stF p0) b2 b3) [(.int (p3 &&& (1 : Int32)))])) tz → Steps p.tables e below (s₁.setTop (entryFrame m #[(.int p0), (.int p1), (.int p2), (.int p3), (.int p4)] maxLocals)) tz := fun tz kk => pre0 tz (by
    show Steps _ _ _ (s₁.setTop (mkF m 0 (l_36 p0 p1 p2 p3 p4) [])) _
    refine XS.iloadN X0.here hx rfl (hb hby at_0) rfl ?_
    show Steps _ _ _ (s₁.setTop (mkF m 1 (l_36 p0 p1 p2 p3 p4) [(.int p0)])) _
    refine st1 _ ?_
    show Steps _ _ _ (T1.setTop (mkF m 4 (l_36 p0 p1 p2 p3 p4) [(.int (stF p0))])) _
    refine XS.istore X1.here hx rfl (hb hby at_4) rfl (l' := (l_37 p0 p1 p2 p3 p4 (stF p0))) rfl ?_
    show Steps _ _ _ (T1.setTop (mkF m 6 (l_37 p0 p1 p2 p3 p4 (stF p0)) [])) _
    refine XS.iloadN X1.here hx rfl (hb hby at_6) rfl ?_
    show Steps _ _ _ (T1.setTop (mkF m 7 (l_37 p0 p1 p2 p3 p4 (stF p0)) [(.int p1)])) _
    refine st2 _ ?_
    show Steps _ _ _ (T2.setTop (mkF m 10 (l_37 p0 p1 p2 p3 p4 (stF p0)) [(.ref b2)])) _
    refine XS.astore X2.here hx rfl (hb hby at_10) rfl rfl (l' := (l_38 p0 p1 p2 p3 p4 (stF p0) b2)) rfl ?_
    show Steps _ _ _ (T2.setTop (mkF m 12 (l_38 p0 p1 p2 p3 p4 (stF p0) b2) [])) _
    refine XS.iloadN X2.here hx rfl (hb hby at_12) rfl ?_
    show Steps _ _ _ (T2.setTop (mkF m 13 (l_38 p0 p1 p2 p3 p4 (stF p0) b2) [(.int p2)])) _
    refine st3 _ ?_
    show Steps _ _ _ (T3.setTop (mkF m 16 (l_38 p0 p1 p2 p3 p4 (stF p0) b2) [(.ref b3)])) _
    refine XS.astore X3.here hx rfl (hb hby at_16) rfl rfl (l' := (l_39 p0 p1 p2 p3 p4 (stF p0) b2 b3)) rfl ?_
    show Steps _ _ _ (T3.setTop (mkF m 18 (l_39 p0 p1 p2 p3 p4 (stF p0) b2 b3) [])) _
    refine XS.iloadN X3.here hx rfl (hb hby at_18) rfl ?_
    show Steps _ _ _ (T3.setTop (mkF m 19 (l_39 p0 p1 p2 p3 p4 (stF p0) b2 b3) [(.int p3)])) _
    refine XS.iconst X3.here hx rfl (hb hby at_19) ?_
    show Steps _ _ _ (T3.setTop (mkF m 20 (l_39 p0 p1 p2 p3 p4 (stF p0) b2 b3) [(.int (1 : Int32)), (.int p3)])) _
    refine XS.iand X3.here hx rfl (hb hby at_20) rfl ?_
    exact kk)
  obtain ⟨v5, ev5, pre5⟩ : ∃ z : Int32, z = (if (p3 &&& (1 : Int32)) = (0 : Int32) then (0 : Int32) else (1 : Int32)) ∧ ∀ t, Steps p.tables e below (T3.setTop (mkF m 29 (l_39 p0 p1 p2 p3 p4 (stF p0) b2 b3) [(.int z)])) t → Steps p.tables e below (s₁.setTop (entryFrame m #[(.int p0), (.int p1), (.int p2), (.int p3), (.int p4)] maxLocals)) t := by
    by_cases hd6 : (p3 &&& (1 : Int32)) = (0 : Int32)
    · refine ⟨(0 : Int32), (by rw [if_pos hd6]), fun t kk => pre4 t ?_⟩
      show Steps _ _ _ (T3.setTop (mkF m 21 (l_39 p0 p1 p2 p3 p4 (stF p0) b2 b3) [(.int (p3 &&& (1 : Int32)))])) _
      refine XS.ifYes X3.here hx rfl (pc0 := 21) (pc' := 28) rfl (hb hby at_21) rfl ((if0 _ _).trans (teq hd6).1) (by decide) (by decide) ?_
      show Steps _ _ _ (T3.setTop (mkF m 28 (l_39 p0 p1 p2 p3 p4 (stF p0) b2 b3) [])) _
      refine XS.iconst X3.here hx rfl (hb hby at_28) ?_
      exact kk
    · refine ⟨(1 : Int32), (by rw [if_neg hd6]), fun t kk => pre4 t ?_⟩
      show Steps _ _ _ (T3.setTop (mkF m 21 (l_39 p0 p1 p2 p3 p4 (stF p0) b2 b3) [(.int (p3 &&& (1 : Int32)))])) _
      refine XS.ifNo X3.here hx rfl (hb hby at_21) rfl ((if0 _ _).trans (feq hd6).1) ?_
      show Steps _ _ _ (T3.setTop (mkF m 24 (l_39 p0 p1 p2 p3 p4 (stF p0) b2 b3) [])) _
      refine XS.iconst X3.here hx rfl (hb hby at_24) ?_
      show Steps _ _ _ (T3.setTop (mkF m 25 (l_39 p0 p1 p2 p3 p4 (stF p0) b2 b3) [(.int (1 : Int32))])) _
      refine XS.goto X3.here hx rfl (pc0 := 25) (pc' := 29) rfl (hb hby at_25) (by decide) (by decide) ?_
      exact kk
  obtain ⟨_, _, ⟨T7, L7, k7, n7⟩, -, X7, ⟨Lc7, hQ7, l7, y7, z7⟩, st7⟩ := Jvm.LawKit.callS X3 hx (y := (⟨"com/example/onesnap/onesnap/node/TransactionTrackerCommitsAtSyncPinLaw", "status", "(I)C"⟩ : MethodName)) hown (mvT hZ (hw _ (tm 0 rfl))) (mvT hZ (hw _ (tm 1 rfl))) (mvT hZ (hw _ (tm 2 rfl))) (mvT hZ (hw _ (tm 3 rfl))) (by decide) (backOf (W := 0) (rm1 l Z a0 hw [] p4 h0 n0 Z0) hZ (hw _ (tm 3 rfl)) (hw _ (tm 2 rfl)) (by decide) (by decide)) (g := (mkF m 33 (l_40 p0 p1 p2 p3 p4 (stF p0) b2 b3 v5) [(.int p4)])) rfl (by rw [hml]; rfl) (argsL := [(.int p4)]) (rest := []) (lenOf pd__28I_29C rfl) rfl (by show 2 * 0 + _ ≤ _; exact Nat.le_of_eq rfl) (hb hby at_33) (fun _ _ => ⟨rfl, e3, (by decide : 0 + 0 ≤ _), (by decide : 0 + 0 ≤ _)⟩)
  dsimp only [Pt.U, Pt.locs, Pt.cells, Pt.slots] at X7 l7 y7 z7 st7 hQ7
  subst l7 y7 z7
  obtain ⟨rfl, N7q, e7⟩ := hQ7
  have N7 := Fr.app N3 N7q
  obtain ⟨T8, h8, X8, e8, E8, A8, D8, -, st8⟩ := newO X7 hx hZ hown (hw _ (tm 13 rfl)) (hw _ (tm 14 rfl)) (hw _ (tm 15 rfl)) e7 (g := (mkF m 38 (l_41 p0 p1 p2 p3 p4 (stF p0) b2 b3 v5 (stF p4)) [])) rfl (hb hby at_38) (by decide) (by decide)
  obtain ⟨b8, g8⟩ : ∃ z, z = h0.size := ⟨_, rfl⟩
  rw [← g8] at A8 D8 st8
  have g_b8 : n0 ≤ b8 := Nat.le_trans Z0 (Nat.le_of_eq g8.symm)
  have ne_b2_b8 : b2 ≠ b8 := Nat.ne_of_lt (Nat.lt_of_lt_of_le Ek2.lt (Nat.le_of_eq g8.symm))
  have ne_b3_b8 : b3 ≠ b8 := Nat.ne_of_lt (Nat.lt_of_lt_of_le Ek3.lt (Nat.le_of_eq g8.symm))
  have ne_de_b8 : de ≠ b8 := Nat.ne_of_lt (Nat.lt_of_lt_of_le Vde.lt (Nat.le_of_eq g8.symm))
  have F_modCount_b8 : Fld Z h8 b8 "java/util/AbstractList" "modCount" "I" (.int (0 : Int32)) := D8 (Or.inl (hw _ (tm 35 rfl))) (ty := .int) (by decide)
  have F_elementData_b8 : Fld Z h8 b8 "java/util/ArrayList" "elementData" "[Ljava/lang/Object;" .null := D8 (Or.inl (hw _ (tm 38 rfl))) (ty := (.array (.object "java/lang/Object"))) (by decide)
  have F_size_b8 : Fld Z h8 b8 "java/util/ArrayList" "size" "I" (.int (0 : Int32)) := D8 (Or.inl (hw _ (tm 47 rfl))) (ty := .int) (by decide)
  have Ex10 := (Ek2.ext E8)
  have Ex11 := (Ek3.ext E8)
  have Av12 := (Vde.ext E8)
  have Zz13 := (Nat.le_trans Z0 E8.1)
  have Od14 := (O0.ext E8)
  obtain ⟨_, _, ⟨T9, L9, k9, n9⟩, -, X9, ⟨Lc9, hQ9, l9, y9, z9⟩, st9⟩ := X8.specialBack hx (y := (⟨"java/util/ArrayList", "<init>", "()V"⟩ : MethodName)) rfl hown (mvT hZ (hw _ (tm 16 rfl))) (mvT hZ (hw _ (tm 17 rfl))) (mvT hZ (hw _ (tm 18 rfl))) (by decide) (backOf (W := 1) (rm3 l Z a0 hw [] b8 (de) h8 n0 Zz13 A8 F_modCount_b8 F_elementData_b8 F_size_b8 Od14 Sde g_b8) hZ (hw _ (tm 18 rfl)) (hw _ (tm 15 rfl)) (by decide) (by decide)) (g := (mkF m 42 (l_41 p0 p1 p2 p3 p4 (stF p0) b2 b3 v5 (stF p4)) [(.ref b8), (.ref b8)])) rfl (by rw [hml]; rfl) (Steps.refl _) (a := b8) (argsL := []) (rest := [(.ref b8)]) (lenOf pd__28_29V rfl) rfl (by show 2 * 0 + _ ≤ _; exact Nat.le_of_eq rfl) (hb hby at_42) (fun _ _ => ⟨rfl, e8, (by decide : 1 + 0 ≤ _), (by decide : 3 + 0 ≤ _)⟩)
  dsimp only [Pt.U, Pt.locs, Pt.cells, Pt.slots] at X9 l9 y9 z9 st9 hQ9
  subst l9 y9 z9
  obtain ⟨rfl, N9q, K9, Pc9_0, Pc9_1, Pc9_2, Pc9_3⟩ := hQ9
  have N9 := Fr.app N7 N9q
  have Ex16 := (Ex10.keep K9)
  have Ex17 := (Ex11.keep K9)
  have Av18 := (Av12.keep K9 (ninS ne_de_b8 nin0))
  have Zz19 := (Nat.le_trans Zz13 K9.1)
  have Od20 := (Od14.keep K9 (allS g_b8 all0))
  obtain ⟨cq15, kq15, q15a, q15b, q15c⟩ := isOf hZ rfl Pc9_0
  obtain ⟨_, _, ⟨T15, L15, k15, n15⟩, -, X15, ⟨Lc15, hQ15, l15, y15, z15⟩, st15⟩ := X9.virtualBack hx (y := (⟨"java/util/ArrayList", "add", "(Ljava/lang/Object;)Z"⟩ : MethodName)) (z := (⟨"java/util/ArrayList", "add", "(Ljava/lang/Object;)Z"⟩ : MethodName)) hown (mvT hZ (hw _ (tm 39 rfl))) (mvT hZ (hw _ (tm 40 rfl))) (notFace_of_selects (args := #[]) (mvT hZ (hw _ (tm 42 rfl)))) (mvT hZ (hw _ (tm 42 rfl))) (mvT hZ (hw _ (tm 41 rfl))) (by decide) (backOf (W := 0) (rm7 l Z a0 hw [] b8 b2 (de) (kd) T9.heap n0 Zz19 Pc9_0 Pc9_1 Pc9_2 Pc9_3 Od20 Sde Av18 Ex16 g_b8 ne_de_b8) hZ (hw _ (tm 43 rfl)) (hw _ (tm 15 rfl)) (by decide) (by decide)) q15a q15c (g := (mkF m 51 (l_42 p0 p1 p2 p3 p4 (stF p0) b2 b3 v5 (stF p4) b8) [(.ref b2), (.ref b8)])) rfl (by rw [hml]; rfl) (Steps.refl _) (argsL := [(.ref b2)]) (rest := []) (lenOf pd__28Ljava_2flang_2fObject_3b_29Z rfl) rfl (by show 2 * 0 + _ ≤ _; exact Nat.le_of_eq rfl) (hb hby at_51) (fun _ _ => ⟨rfl, rfl, (by decide : 1 + 1 ≤ _), (by decide : 3 + 10 ≤ _)⟩)
  dsimp only [Pt.U, Pt.locs, Pt.cells, Pt.slots] at X15 l15 y15 z15 st15 hQ15
  subst l15 y15 z15
  obtain ⟨b15_da, b15_ka, rfl, N15q, K15, Sz15_da, Pc15_0, Pc15_1, Pc15_2, Pc15_3, Pc15_4⟩ := hQ15
  have N15 := Fr.app N9 N15q
  have g_b15_da : n0 ≤ b15_da := Nat.le_trans Zz19 Sz15_da
  have ne_b2_b15_da : b2 ≠ b15_da := Nat.ne_of_lt (Nat.lt_of_lt_of_le Ex16.lt Sz15_da)
  have ne_b3_b15_da : b3 ≠ b15_da := Nat.ne_of_lt (Nat.lt_of_lt_of_le Ex17.lt Sz15_da)
  have ne_b8_b15_da : b8 ≠ b15_da := Nat.ne_of_lt (Nat.lt_of_lt_of_le Pc9_0.lt Sz15_da)
  have ne_de_b15_da : de ≠ b15_da := Nat.ne_of_lt (Nat.lt_of_lt_of_le Av18.lt Sz15_da)
  obtain ⟨T21, h21, X21, e21, E21, A21, D21, -, st21⟩ := newO X15 hx hZ hown (hw _ (tm 13 rfl)) (hw _ (tm 14 rfl)) (hw _ (tm 15 rfl)) rfl (g := (mkF m 55 (l_42 p0 p1 p2 p3 p4 (stF p0) b2 b3 v5 (stF p4) b8) [])) rfl (hb hby at_55) (by decide) (by decide)
  obtain ⟨b21, g21⟩ : ∃ z, z = T15.heap.size := ⟨_, rfl⟩
  rw [← g21] at A21 D21 st21
  have Zz22 := (Nat.le_trans Zz19 K15.1)
  have g_b21 : n0 ≤ b21 := Nat.le_trans Zz22 (Nat.le_of_eq g21.symm)
  have ne_b15_da_b21 : b15_da ≠ b21 := Nat.ne_of_lt (Nat.lt_of_lt_of_le Pc15_4.lt (Nat.le_of_eq g21.symm))
  have Ex23 := (Ex16.keep K15)
  have ne_b2_b21 : b2 ≠ b21 := Nat.ne_of_lt (Nat.lt_of_lt_of_le Ex23.lt (Nat.le_of_eq g21.symm))
  have Ex24 := (Ex17.keep K15)
  have ne_b3_b21 : b3 ≠ b21 := Nat.ne_of_lt (Nat.lt_of_lt_of_le Ex24.lt (Nat.le_of_eq g21.symm))
  have ne_b8_b21 : b8 ≠ b21 := Nat.ne_of_lt (Nat.lt_of_lt_of_le Pc15_0.lt (Nat.le_of_eq g21.symm))
  have Av25 := (Av18.keep K15 (ninS ne_de_b8 nin0))
  have ne_de_b21 : de ≠ b21 := Nat.ne_of_lt (Nat.lt_of_lt_of_le Av25.lt (Nat.le_of_eq g21.symm))
  have F_modCount_b21 : Fld Z h21 b21 "java/util/AbstractList" "modCount" "I" (.int (0 : Int32)) := D21 (Or.inl (hw _ (tm 35 rfl))) (ty := .int) (by decide)
  have F_elementData_b21 : Fld Z h21 b21 "java/util/ArrayList" "elementData" "[Ljava/lang/Object;" .null := D21 (Or.inl (hw _ (tm 38 rfl))) (ty := (.array (.object "java/lang/Object"))) (by decide)
  have F_size_b21 : Fld Z h21 b21 "java/util/ArrayList" "size" "I" (.int (0 : Int32)) := D21 (Or.inl (hw _ (tm 47 rfl))) (ty := .int) (by decide)
  have Av27 := (Pc15_4.ext E21)
  have Ex28 := (Ex23.ext E21)
  have Ex29 := (Ex24.ext E21)
  have Ex30 := (Pc15_0.ext E21)
  have Av31 := (Av25.ext E21)
  have Zz32 := (Nat.le_trans Zz22 E21.1)
  have Od33 := ((Od20.keep K15 (allS g_b8 all0)).ext E21)
  obtain ⟨_, _, ⟨T26, L26, k26, n26⟩, -, X26, ⟨Lc26, hQ26, l26, y26, z26⟩, st26⟩ := X21.specialBack hx (y := (⟨"java/util/ArrayList", "<init>", "()V"⟩ : MethodName)) rfl hown (mvT hZ (hw _ (tm 16 rfl))) (mvT hZ (hw _ (tm 17 rfl))) (mvT hZ (hw _ (tm 18 rfl))) (by decide) (backOf (W := 1) (rm3 l Z a0 hw [] b21 (de) h21 n0 Zz32 A21 F_modCount_b21 F_elementData_b21 F_size_b21 Od33 Sde g_b21) hZ (hw _ (tm 18 rfl)) (hw _ (tm 15 rfl)) (by decide) (by decide)) (g := (mkF m 59 (l_42 p0 p1 p2 p3 p4 (stF p0) b2 b3 v5 (stF p4) b8) [(.ref b21), (.ref b21)])) rfl (by rw [hml]; rfl) (Steps.refl _) (a := b21) (argsL := []) (rest := [(.ref b21)]) (lenOf pd__28_29V rfl) rfl (by show 2 * 0 + _ ≤ _; exact Nat.le_of_eq rfl) (hb hby at_59) (fun _ _ => ⟨rfl, e21, (by decide : 3 + 0 ≤ _), (by decide : 16 + 0 ≤ _)⟩)
  dsimp only [Pt.U, Pt.locs, Pt.cells, Pt.slots] at X26 l26 y26 z26 st26 hQ26
  subst l26 y26 z26
  obtain ⟨rfl, N26q, K26, Pc26_0, Pc26_1, Pc26_2, Pc26_3⟩ := hQ26
  have N26 := Fr.app N15 N26q
  have Av35 := (Av27.keep K26 (ninS ne_b15_da_b21 nin0))
  have Ex36 := (Ex28.keep K26)
  have Ex37 := (Ex29.keep K26)
  have Ex38 := (Ex30.keep K26)
  have Av39 := (Av31.keep K26 (ninS ne_de_b21 nin0))
  have Zz40 := (Nat.le_trans Zz32 K26.1)
  have Od41 := (Od33.keep K26 (allS g_b21 all0))
  obtain ⟨cq34, kq34, q34a, q34b, q34c⟩ := isOf hZ rfl Pc26_0
  obtain ⟨_, _, ⟨T34, L34, k34, n34⟩, -, X34, ⟨Lc34, hQ34, l34, y34, z34⟩, st34⟩ := X26.virtualBack hx (y := (⟨"java/util/ArrayList", "add", "(Ljava/lang/Object;)Z"⟩ : MethodName)) (z := (⟨"java/util/ArrayList", "add", "(Ljava/lang/Object;)Z"⟩ : MethodName)) hown (mvT hZ (hw _ (tm 39 rfl))) (mvT hZ (hw _ (tm 40 rfl))) (notFace_of_selects (args := #[]) (mvT hZ (hw _ (tm 42 rfl)))) (mvT hZ (hw _ (tm 42 rfl))) (mvT hZ (hw _ (tm 41 rfl))) (by decide) (backOf (W := 0) (rm7 l Z a0 hw [] b21 b3 (de) (kd) T26.heap n0 Zz40 Pc26_0 Pc26_1 Pc26_2 Pc26_3 Od41 Sde Av39 Ex37 g_b21 ne_de_b21) hZ (hw _ (tm 43 rfl)) (hw _ (tm 15 rfl)) (by decide) (by decide)) q34a q34c (g := (mkF m 68 (l_43 p0 p1 p2 p3 p4 (stF p0) b2 b3 v5 (stF p4) b8 b21) [(.ref b3), (.ref b21)])) rfl (by rw [hml]; rfl) (Steps.refl _) (argsL := [(.ref b3)]) (rest := []) (lenOf pd__28Ljava_2flang_2fObject_3b_29Z rfl) rfl (by show 2 * 0 + _ ≤ _; exact Nat.le_of_eq rfl) (hb hby at_68) (fun _ _ => ⟨rfl, rfl, (by decide : 3 + 1 ≤ _), (by decide : 16 + 10 ≤ _)⟩)
  dsimp only [Pt.U, Pt.locs, Pt.cells, Pt.slots] at X34 l34 y34 z34 st34 hQ34
  subst l34 y34 z34
  obtain ⟨b34_da, b34_ka, rfl, N34q, K34, Sz34_da, Pc34_0, Pc34_1, Pc34_2, Pc34_3, Pc34_4⟩ := hQ34
  have N34 := Fr.app N26 N34q
  have g_b34_da : n0 ≤ b34_da := Nat.le_trans Zz40 Sz34_da
  have ne_b15_da_b34_da : b15_da ≠ b34_da := Nat.ne_of_lt (Nat.lt_of_lt_of_le Av35.lt Sz34_da)
  have ne_b2_b34_da : b2 ≠ b34_da := Nat.ne_of_lt (Nat.lt_of_lt_of_le Ex36.lt Sz34_da)
  have ne_b21_b34_da : b21 ≠ b34_da := Nat.ne_of_lt (Nat.lt_of_lt_of_le Pc26_0.lt Sz34_da)
  have ne_b3_b34_da : b3 ≠ b34_da := Nat.ne_of_lt (Nat.lt_of_lt_of_le Ex37.lt Sz34_da)
  have ne_b8_b34_da : b8 ≠ b34_da := Nat.ne_of_lt (Nat.lt_of_lt_of_le Ex38.lt Sz34_da)
  have ne_de_b34_da : de ≠ b34_da := Nat.ne_of_lt (Nat.lt_of_lt_of_le Av39.lt Sz34_da)
  obtain ⟨T42, h42, k42, X42, e42, E42, A42, Exb42, st42⟩ := newPE X34 hx hZ (hw _ (tm 70 rfl)) rfl (g := (mkF m 73 (l_43 p0 p1 p2 p3 p4 (stF p0) b2 b3 v5 (stF p4) b8 b21) [(.int (1 : Int32))])) rfl (hb hby at_73) rfl (by decide) (cap := 1) (by decide) (by decide) (by decide) (by decide) (ad := "[B") (by decide +kernel)
  obtain ⟨b42, g42⟩ : ∃ z, z = T34.heap.size := ⟨_, rfl⟩
  rw [← g42] at A42 st42 Exb42
  have Zz43 := (Nat.le_trans Zz40 K34.1)
  have g_b42 : n0 ≤ b42 := Nat.le_trans Zz43 (Nat.le_of_eq g42.symm)
  have Av44 := (Av35.keep K34 (ninS ne_b15_da_b21 nin0))
  have ne_b15_da_b42 : b15_da ≠ b42 := Nat.ne_of_lt (Nat.lt_of_lt_of_le Av44.lt (Nat.le_of_eq g42.symm))
  have Ex45 := (Ex36.keep K34)
  have ne_b2_b42 : b2 ≠ b42 := Nat.ne_of_lt (Nat.lt_of_lt_of_le Ex45.lt (Nat.le_of_eq g42.symm))
  have ne_b21_b42 : b21 ≠ b42 := Nat.ne_of_lt (Nat.lt_of_lt_of_le Pc34_0.lt (Nat.le_of_eq g42.symm))
  have Ex46 := (Ex37.keep K34)
  have ne_b3_b42 : b3 ≠ b42 := Nat.ne_of_lt (Nat.lt_of_lt_of_le Ex46.lt (Nat.le_of_eq g42.symm))
  have ne_b34_da_b42 : b34_da ≠ b42 := Nat.ne_of_lt (Nat.lt_of_lt_of_le Pc34_4.lt (Nat.le_of_eq g42.symm))
  have Ex47 := (Ex38.keep K34)
  have ne_b8_b42 : b8 ≠ b42 := Nat.ne_of_lt (Nat.lt_of_lt_of_le Ex47.lt (Nat.le_of_eq g42.symm))
  have Av48 := (Av39.keep K34 (ninS ne_de_b21 nin0))
  have ne_de_b42 : de ≠ b42 := Nat.ne_of_lt (Nat.lt_of_lt_of_le Av48.lt (Nat.le_of_eq g42.symm))
  have V_b42 : Arv Z h42 b42 k42 .byte (1 : Int32) [(.int (0 : Int32))] (.int (0 : Int32)) := (Arv.new A42 (by decide)).pad (pad_rep [] (.int (0 : Int32)) 1)
  obtain ⟨cl49, Ar49, q49, S49, Nn49, H49, G49⟩ := id V_b42
  have hin49 : ¬ ((0 : Int32) < 0 ∨ cl49.slots.size ≤ ((0 : Int32)).toNatClampNeg) := inb_of S49 ⟨by decide, by decide⟩
  obtain ⟨T50, h50, X50, e50, W50, st50⟩ := stB X42 hx hZ e42 Ar49 (j := (0 : Int32)) hin49 (g := (mkF m 79 (l_43 p0 p1 p2 p3 p4 (stF p0) b2 b3 v5 (stF p4) b8 b21) [(.int (97 : Int32)), (.int (0 : Int32)), (.ref b42), (.ref b42)])) rfl rfl (hb hby at_79)
  have N50 := Fr.snoc X50 N34 g_b42
  have V50 : Arv Z h50 b42 k42 .byte (1 : Int32) [(.int (nar .byte (97 : Int32)))] (.int (0 : Int32)) := Arv.set Ar49 q49 S49 Nn49 H49 G49 (fits_nar_byte _) W50 0 rfl (Nat.le_of_ble_eq_true rfl)
  have VL50 : Arv Z h50 b42 k42 .byte (1 : Int32) [(.int (97 : Int32))] (.int (0 : Int32)) := by have q := V50; rw [show (nar .byte (97 : Int32)) = (97 : Int32) from by decide] at q; exact q
  obtain ⟨T51, h51, k51, X51, e51, E51, A51, Exb51, st51⟩ := newPE X50 hx hZ (hw _ (tm 70 rfl)) e50 (g := (mkF m 83 (l_44 p0 p1 p2 p3 p4 (stF p0) b2 b3 v5 (stF p4) b8 b21 b42) [(.int (1 : Int32))])) rfl (hb hby at_83) rfl (by decide) (cap := 1) (by decide) (by decide) (by decide) (by decide) (ad := "[B") (by decide +kernel)
  obtain ⟨b51, g51⟩ : ∃ z, z = h50.size := ⟨_, rfl⟩
  rw [← g51] at A51 st51 Exb51
  have Zz52 := (Nat.le_trans (Nat.le_trans Zz43 E42.1) (Keep.of_wr W50).1)
  have g_b51 : n0 ≤ b51 := Nat.le_trans Zz52 (Nat.le_of_eq g51.symm)
  have Av53 := ((Av44.ext E42).other W50 ne_b15_da_b42)
  have ne_b15_da_b51 : b15_da ≠ b51 := Nat.ne_of_lt (Nat.lt_of_lt_of_le Av53.lt (Nat.le_of_eq g51.symm))
  have Ex54 := ((Ex45.ext E42).wr W50)
  have ne_b2_b51 : b2 ≠ b51 := Nat.ne_of_lt (Nat.lt_of_lt_of_le Ex54.lt (Nat.le_of_eq g51.symm))
  have Ex55 := ((Pc34_0.ext E42).wr W50)
  have ne_b21_b51 : b21 ≠ b51 := Nat.ne_of_lt (Nat.lt_of_lt_of_le Ex55.lt (Nat.le_of_eq g51.symm))
  have Ex56 := ((Ex46.ext E42).wr W50)
  have ne_b3_b51 : b3 ≠ b51 := Nat.ne_of_lt (Nat.lt_of_lt_of_le Ex56.lt (Nat.le_of_eq g51.symm))
  have Av57 := ((Pc34_4.ext E42).other W50 ne_b34_da_b42)
  have ne_b34_da_b51 : b34_da ≠ b51 := Nat.ne_of_lt (Nat.lt_of_lt_of_le Av57.lt (Nat.le_of_eq g51.symm))
  have Ex58 := (Exb42.wr W50)
  have ne_b42_b51 : b42 ≠ b51 := Nat.ne_of_lt (Nat.lt_of_lt_of_le Ex58.lt (Nat.le_of_eq g51.symm))
  have Ex59 := ((Ex47.ext E42).wr W50)
  have ne_b8_b51 : b8 ≠ b51 := Nat.ne_of_lt (Nat.lt_of_lt_of_le Ex59.lt (Nat.le_of_eq g51.symm))
  have Av60 := ((Av48.ext E42).other W50 ne_de_b42)
  have ne_de_b51 : de ≠ b51 := Nat.ne_of_lt (Nat.lt_of_lt_of_le Av60.lt (Nat.le_of_eq g51.symm))
  have V_b51 : Arv Z h51 b51 k51 .byte (1 : Int32) [(.int (0 : Int32))] (.int (0 : Int32)) := (Arv.new A51 (by decide)).pad (pad_rep [] (.int (0 : Int32)) 1)
  obtain ⟨cl61, Ar61, q61, S61, Nn61, H61, G61⟩ := id V_b51
  have hin61 : ¬ ((0 : Int32) < 0 ∨ cl61.slots.size ≤ ((0 : Int32)).toNatClampNeg) := inb_of S61 ⟨by decide, by decide⟩
  obtain ⟨T62, h62, X62, e62, W62, st62⟩ := stB X51 hx hZ e51 Ar61 (j := (0 : Int32)) hin61 (g := (mkF m 89 (l_44 p0 p1 p2 p3 p4 (stF p0) b2 b3 v5 (stF p4) b8 b21 b42) [(.int (98 : Int32)), (.int (0 : Int32)), (.ref b51), (.ref b51)])) rfl rfl (hb hby at_89)
  have N62 := Fr.snoc X62 N50 g_b51
  have V62 : Arv Z h62 b51 k51 .byte (1 : Int32) [(.int (nar .byte (98 : Int32)))] (.int (0 : Int32)) := Arv.set Ar61 q61 S61 Nn61 H61 G61 (fits_nar_byte _) W62 0 rfl (Nat.le_of_ble_eq_true rfl)
  have VL62 : Arv Z h62 b51 k51 .byte (1 : Int32) [(.int (98 : Int32))] (.int (0 : Int32)) := by have q := V62; rw [show (nar .byte (98 : Int32)) = (98 : Int32) from by decide] at q; exact q
  obtain ⟨T63, h63, k63, X63, e63, E63, A63, Exb63, st63⟩ := newPE X62 hx hZ (hw _ (tm 70 rfl)) e62 (g := (mkF m 93 (l_45 p0 p1 p2 p3 p4 (stF p0) b2 b3 v5 (stF p4) b8 b21 b42 b51) [(.int (1 : Int32))])) rfl (hb hby at_93) rfl (by decide) (cap := 1) (by decide) (by decide) (by decide) (by decide) (ad := "[B") (by decide +kernel)
  obtain ⟨b63, g63⟩ : ∃ z, z = h62.size := ⟨_, rfl⟩
  rw [← g63] at A63 st63 Exb63
  have Zz64 := (Nat.le_trans (Nat.le_trans Zz52 E51.1) (Keep.of_wr W62).1)
  have g_b63 : n0 ≤ b63 := Nat.le_trans Zz64 (Nat.le_of_eq g63.symm)
  have Av65 := ((Av53.ext E51).other W62 ne_b15_da_b51)
  have ne_b15_da_b63 : b15_da ≠ b63 := Nat.ne_of_lt (Nat.lt_of_lt_of_le Av65.lt (Nat.le_of_eq g63.symm))
  have Ex66 := ((Ex54.ext E51).wr W62)
  have ne_b2_b63 : b2 ≠ b63 := Nat.ne_of_lt (Nat.lt_of_lt_of_le Ex66.lt (Nat.le_of_eq g63.symm))
  have Ex67 := ((Ex55.ext E51).wr W62)
  have ne_b21_b63 : b21 ≠ b63 := Nat.ne_of_lt (Nat.lt_of_lt_of_le Ex67.lt (Nat.le_of_eq g63.symm))
  have Ex68 := ((Ex56.ext E51).wr W62)
  have ne_b3_b63 : b3 ≠ b63 := Nat.ne_of_lt (Nat.lt_of_lt_of_le Ex68.lt (Nat.le_of_eq g63.symm))
  have Av69 := ((Av57.ext E51).other W62 ne_b34_da_b51)
  have ne_b34_da_b63 : b34_da ≠ b63 := Nat.ne_of_lt (Nat.lt_of_lt_of_le Av69.lt (Nat.le_of_eq g63.symm))
  have Ex70 := ((Ex58.ext E51).wr W62)
  have ne_b42_b63 : b42 ≠ b63 := Nat.ne_of_lt (Nat.lt_of_lt_of_le Ex70.lt (Nat.le_of_eq g63.symm))
  have Ex71 := (Exb51.wr W62)
  have ne_b51_b63 : b51 ≠ b63 := Nat.ne_of_lt (Nat.lt_of_lt_of_le Ex71.lt (Nat.le_of_eq g63.symm))
  have Ex72 := ((Ex59.ext E51).wr W62)
  have ne_b8_b63 : b8 ≠ b63 := Nat.ne_of_lt (Nat.lt_of_lt_of_le Ex72.lt (Nat.le_of_eq g63.symm))
  have Av73 := ((Av60.ext E51).other W62 ne_de_b51)
  have ne_de_b63 : de ≠ b63 := Nat.ne_of_lt (Nat.lt_of_lt_of_le Av73.lt (Nat.le_of_eq g63.symm))
  have V_b63 : Arv Z h63 b63 k63 .byte (1 : Int32) [(.int (0 : Int32))] (.int (0 : Int32)) := (Arv.new A63 (by decide)).pad (pad_rep [] (.int (0 : Int32)) 1)
  obtain ⟨cl74, Ar74, q74, S74, Nn74, H74, G74⟩ := id V_b63
  have hin74 : ¬ ((0 : Int32) < 0 ∨ cl74.slots.size ≤ ((0 : Int32)).toNatClampNeg) := inb_of S74 ⟨by decide, by decide⟩
  obtain ⟨T75, h75, X75, e75, W75, st75⟩ := stB X63 hx hZ e63 Ar74 (j := (0 : Int32)) hin74 (g := (mkF m 99 (l_45 p0 p1 p2 p3 p4 (stF p0) b2 b3 v5 (stF p4) b8 b21 b42 b51) [(.int (112 : Int32)), (.int (0 : Int32)), (.ref b63), (.ref b63)])) rfl rfl (hb hby at_99)
  have N75 := Fr.snoc X75 N62 g_b63
  have V75 : Arv Z h75 b63 k63 .byte (1 : Int32) [(.int (nar .byte (112 : Int32)))] (.int (0 : Int32)) := Arv.set Ar74 q74 S74 Nn74 H74 G74 (fits_nar_byte _) W75 0 rfl (Nat.le_of_ble_eq_true rfl)
  have VL75 : Arv Z h75 b63 k63 .byte (1 : Int32) [(.int (112 : Int32))] (.int (0 : Int32)) := by have q := V75; rw [show (nar .byte (112 : Int32)) = (112 : Int32) from by decide] at q; exact q
  obtain ⟨T76, h76, k76, X76, e76, E76, A76, Exb76, st76⟩ := newPE X75 hx hZ (hw _ (tm 70 rfl)) e75 (g := (mkF m 103 (l_46 p0 p1 p2 p3 p4 (stF p0) b2 b3 v5 (stF p4) b8 b21 b42 b51 b63) [(.int (1 : Int32))])) rfl (hb hby at_103) rfl (by decide) (cap := 1) (by decide) (by decide) (by decide) (by decide) (ad := "[B") (by decide +kernel)
  obtain ⟨b76, g76⟩ : ∃ z, z = h75.size := ⟨_, rfl⟩
  rw [← g76] at A76 st76 Exb76
  have Zz77 := (Nat.le_trans (Nat.le_trans Zz64 E63.1) (Keep.of_wr W75).1)
  have g_b76 : n0 ≤ b76 := Nat.le_trans Zz77 (Nat.le_of_eq g76.symm)
  have Av78 := ((Av65.ext E63).other W75 ne_b15_da_b63)
  have ne_b15_da_b76 : b15_da ≠ b76 := Nat.ne_of_lt (Nat.lt_of_lt_of_le Av78.lt (Nat.le_of_eq g76.symm))
  have Ex79 := ((Ex66.ext E63).wr W75)
  have ne_b2_b76 : b2 ≠ b76 := Nat.ne_of_lt (Nat.lt_of_lt_of_le Ex79.lt (Nat.le_of_eq g76.symm))
  have Ex80 := ((Ex67.ext E63).wr W75)
  have ne_b21_b76 : b21 ≠ b76 := Nat.ne_of_lt (Nat.lt_of_lt_of_le Ex80.lt (Nat.le_of_eq g76.symm))
  have Ex81 := ((Ex68.ext E63).wr W75)
  have ne_b3_b76 : b3 ≠ b76 := Nat.ne_of_lt (Nat.lt_of_lt_of_le Ex81.lt (Nat.le_of_eq g76.symm))
  have Av82 := ((Av69.ext E63).other W75 ne_b34_da_b63)
  have ne_b34_da_b76 : b34_da ≠ b76 := Nat.ne_of_lt (Nat.lt_of_lt_of_le Av82.lt (Nat.le_of_eq g76.symm))
  have Ex83 := ((Ex70.ext E63).wr W75)
  have ne_b42_b76 : b42 ≠ b76 := Nat.ne_of_lt (Nat.lt_of_lt_of_le Ex83.lt (Nat.le_of_eq g76.symm))
  have Ex84 := ((Ex71.ext E63).wr W75)
  have ne_b51_b76 : b51 ≠ b76 := Nat.ne_of_lt (Nat.lt_of_lt_of_le Ex84.lt (Nat.le_of_eq g76.symm))
  have Ex85 := (Exb63.wr W75)
  have ne_b63_b76 : b63 ≠ b76 := Nat.ne_of_lt (Nat.lt_of_lt_of_le Ex85.lt (Nat.le_of_eq g76.symm))
  have Ex86 := ((Ex72.ext E63).wr W75)
  have ne_b8_b76 : b8 ≠ b76 := Nat.ne_of_lt (Nat.lt_of_lt_of_le Ex86.lt (Nat.le_of_eq g76.symm))
  have Av87 := ((Av73.ext E63).other W75 ne_de_b63)
  have ne_de_b76 : de ≠ b76 := Nat.ne_of_lt (Nat.lt_of_lt_of_le Av87.lt (Nat.le_of_eq g76.symm))
  have V_b76 : Arv Z h76 b76 k76 .byte (1 : Int32) [(.int (0 : Int32))] (.int (0 : Int32)) := (Arv.new A76 (by decide)).pad (pad_rep [] (.int (0 : Int32)) 1)
  obtain ⟨cl88, Ar88, q88, S88, Nn88, H88, G88⟩ := id V_b76
  have hin88 : ¬ ((0 : Int32) < 0 ∨ cl88.slots.size ≤ ((0 : Int32)).toNatClampNeg) := inb_of S88 ⟨by decide, by decide⟩
  obtain ⟨T89, h89, X89, e89, W89, st89⟩ := stB X76 hx hZ e76 Ar88 (j := (0 : Int32)) hin88 (g := (mkF m 109 (l_46 p0 p1 p2 p3 p4 (stF p0) b2 b3 v5 (stF p4) b8 b21 b42 b51 b63) [(.int (113 : Int32)), (.int (0 : Int32)), (.ref b76), (.ref b76)])) rfl rfl (hb hby at_109)
  have N89 := Fr.snoc X89 N75 g_b76
  have V89 : Arv Z h89 b76 k76 .byte (1 : Int32) [(.int (nar .byte (113 : Int32)))] (.int (0 : Int32)) := Arv.set Ar88 q88 S88 Nn88 H88 G88 (fits_nar_byte _) W89 0 rfl (Nat.le_of_ble_eq_true rfl)
  have VL89 : Arv Z h89 b76 k76 .byte (1 : Int32) [(.int (113 : Int32))] (.int (0 : Int32)) := by have q := V89; rw [show (nar .byte (113 : Int32)) = (113 : Int32) from by decide] at q; exact q
  obtain ⟨T90, h90, X90, e90, E90, A90, D90, -, st90⟩ := newO X89 hx hZ hown (hw _ (tm 71 rfl)) (hw _ (tm 72 rfl)) (hw _ (tm 73 rfl)) e89 (g := (mkF m 112 (l_47 p0 p1 p2 p3 p4 (stF p0) b2 b3 v5 (stF p4) b8 b21 b42 b51 b63 b76) [])) rfl (hb hby at_112) (by decide) (by decide)
  obtain ⟨b90, g90⟩ : ∃ z, z = h89.size := ⟨_, rfl⟩
  rw [← g90] at A90 D90 st90
  have Zz91 := (Nat.le_trans (Nat.le_trans Zz77 E76.1) (Keep.of_wr W89).1)
  have g_b90 : n0 ≤ b90 := Nat.le_trans Zz91 (Nat.le_of_eq g90.symm)
  have Av92 := ((Av78.ext E76).other W89 ne_b15_da_b76)
  have ne_b15_da_b90 : b15_da ≠ b90 := Nat.ne_of_lt (Nat.lt_of_lt_of_le Av92.lt (Nat.le_of_eq g90.symm))
  have Ex93 := ((Ex79.ext E76).wr W89)
  have ne_b2_b90 : b2 ≠ b90 := Nat.ne_of_lt (Nat.lt_of_lt_of_le Ex93.lt (Nat.le_of_eq g90.symm))
  have Ex94 := ((Ex80.ext E76).wr W89)
  have ne_b21_b90 : b21 ≠ b90 := Nat.ne_of_lt (Nat.lt_of_lt_of_le Ex94.lt (Nat.le_of_eq g90.symm))
  have Ex95 := ((Ex81.ext E76).wr W89)
  have ne_b3_b90 : b3 ≠ b90 := Nat.ne_of_lt (Nat.lt_of_lt_of_le Ex95.lt (Nat.le_of_eq g90.symm))
  have Av96 := ((Av82.ext E76).other W89 ne_b34_da_b76)
  have ne_b34_da_b90 : b34_da ≠ b90 := Nat.ne_of_lt (Nat.lt_of_lt_of_le Av96.lt (Nat.le_of_eq g90.symm))
  have Ex97 := ((Ex83.ext E76).wr W89)
  have ne_b42_b90 : b42 ≠ b90 := Nat.ne_of_lt (Nat.lt_of_lt_of_le Ex97.lt (Nat.le_of_eq g90.symm))
  have Ex98 := ((Ex84.ext E76).wr W89)
  have ne_b51_b90 : b51 ≠ b90 := Nat.ne_of_lt (Nat.lt_of_lt_of_le Ex98.lt (Nat.le_of_eq g90.symm))
  have Ex99 := ((Ex85.ext E76).wr W89)
  have ne_b63_b90 : b63 ≠ b90 := Nat.ne_of_lt (Nat.lt_of_lt_of_le Ex99.lt (Nat.le_of_eq g90.symm))
  have Ex100 := (Exb76.wr W89)
  have ne_b76_b90 : b76 ≠ b90 := Nat.ne_of_lt (Nat.lt_of_lt_of_le Ex100.lt (Nat.le_of_eq g90.symm))
  have Ex101 := ((Ex86.ext E76).wr W89)
  have ne_b8_b90 : b8 ≠ b90 := Nat.ne_of_lt (Nat.lt_of_lt_of_le Ex101.lt (Nat.le_of_eq g90.symm))
  have Av102 := ((Av87.ext E76).other W89 ne_de_b76)
  have ne_de_b90 : de ≠ b90 := Nat.ne_of_lt (Nat.lt_of_lt_of_le Av102.lt (Nat.le_of_eq g90.symm))
  have F_status_b90 : Fld Z h90 b90 "com/example/onesnap/onesnap/node/TransactionTracker" "status" "C" (.int (0 : Int32)) := D90 (Or.inl (hw _ (tm 79 rfl))) (ty := .char) (by decide)
  have F_statements_b90 : Fld Z h90 b90 "com/example/onesnap/onesnap/node/TransactionTracker" "statements" "Ljava/util/Map;" .null := D90 (Or.inr (hw _ (tm 97 rfl))) (ty := (.object "java/util/Map")) (by decide)
  have F_portals_b90 : Fld Z h90 b90 "com/example/onesnap/onesnap/node/TransactionTracker" "portals" "Ljava/util/Map;" .null := D90 (Or.inr (hw _ (tm 99 rfl))) (ty := (.object "java/util/Map")) (by decide)
  have F_writes_b90 : Fld Z h90 b90 "com/example/onesnap/onesnap/node/TransactionTracker" "writes" "Z" (.int (0 : Int32)) := D90 (Or.inl (hw _ (tm 106 rfl))) (ty := .boolean) (by decide)
  have pre103 : ∀ tz, Steps p.tables e below (T90.setTop (mkF m 116 (l_47 p0 p1 p2 p3 p4 (stF p0) b2 b3 v5 (stF p4) b8 b21 b42 b51 b63 b76) [(.ref b90), (.ref b90)])) tz → Steps p.tables e below (s₁.setTop (entryFrame m #[(.int p0), (.int p1), (.int p2), (.int p3), (.int p4)] maxLocals)) tz := fun tz kk => pre5 tz (by
    show Steps _ _ _ (T3.setTop (mkF m 29 (l_39 p0 p1 p2 p3 p4 (stF p0) b2 b3) [(.int v5)])) _
    refine XS.istore X3.here hx rfl (hb hby at_29) rfl (l' := (l_40 p0 p1 p2 p3 p4 (stF p0) b2 b3 v5)) rfl ?_
    show Steps _ _ _ (T3.setTop (mkF m 31 (l_40 p0 p1 p2 p3 p4 (stF p0) b2 b3 v5) [])) _
    refine XS.iload X3.here hx rfl (hb hby at_31) rfl ?_
    show Steps _ _ _ (T3.setTop (mkF m 33 (l_40 p0 p1 p2 p3 p4 (stF p0) b2 b3 v5) [(.int p4)])) _
    refine st7 _ ?_
    show Steps _ _ _ (T7.setTop (mkF m 36 (l_40 p0 p1 p2 p3 p4 (stF p0) b2 b3 v5) [(.int (stF p4))])) _
    refine XS.istore X7.here hx rfl (hb hby at_36) rfl (l' := (l_41 p0 p1 p2 p3 p4 (stF p0) b2 b3 v5 (stF p4))) rfl ?_
    show Steps _ _ _ (T7.setTop (mkF m 38 (l_41 p0 p1 p2 p3 p4 (stF p0) b2 b3 v5 (stF p4)) [])) _
    refine st8 _ ?_
    show Steps _ _ _ (T8.setTop (mkF m 41 (l_41 p0 p1 p2 p3 p4 (stF p0) b2 b3 v5 (stF p4)) [(.ref b8)])) _
    refine XS.dup X8.here hx rfl (hb hby at_41) rfl rfl ?_
    show Steps _ _ _ (T8.setTop (mkF m 42 (l_41 p0 p1 p2 p3 p4 (stF p0) b2 b3 v5 (stF p4)) [(.ref b8), (.ref b8)])) _
    refine st9.trans ?_
    show Steps _ _ _ (T9.setTop (mkF m 45 (l_41 p0 p1 p2 p3 p4 (stF p0) b2 b3 v5 (stF p4)) [(.ref b8)])) _
    refine XS.astore X9.here hx rfl (hb hby at_45) rfl rfl (l' := (l_42 p0 p1 p2 p3 p4 (stF p0) b2 b3 v5 (stF p4) b8)) rfl ?_
    show Steps _ _ _ (T9.setTop (mkF m 47 (l_42 p0 p1 p2 p3 p4 (stF p0) b2 b3 v5 (stF p4) b8) [])) _
    refine XS.aload X9.here hx rfl (hb hby at_47) rfl rfl ?_
    show Steps _ _ _ (T9.setTop (mkF m 49 (l_42 p0 p1 p2 p3 p4 (stF p0) b2 b3 v5 (stF p4) b8) [(.ref b8)])) _
    refine XS.aload X9.here hx rfl (hb hby at_49) rfl rfl ?_
    show Steps _ _ _ (T9.setTop (mkF m 51 (l_42 p0 p1 p2 p3 p4 (stF p0) b2 b3 v5 (stF p4) b8) [(.ref b2), (.ref b8)])) _
    refine st15.trans ?_
    show Steps _ _ _ (T15.setTop (mkF m 54 (l_42 p0 p1 p2 p3 p4 (stF p0) b2 b3 v5 (stF p4) b8) [(.int (1 : Int32))])) _
    refine XS.pop X15.here hx rfl (hb hby at_54) rfl rfl ?_
    show Steps _ _ _ (T15.setTop (mkF m 55 (l_42 p0 p1 p2 p3 p4 (stF p0) b2 b3 v5 (stF p4) b8) [])) _
    refine st21 _ ?_
    show Steps _ _ _ (T21.setTop (mkF m 58 (l_42 p0 p1 p2 p3 p4 (stF p0) b2 b3 v5 (stF p4) b8) [(.ref b21)])) _
    refine XS.dup X21.here hx rfl (hb hby at_58) rfl rfl ?_
    show Steps _ _ _ (T21.setTop (mkF m 59 (l_42 p0 p1 p2 p3 p4 (stF p0) b2 b3 v5 (stF p4) b8) [(.ref b21), (.ref b21)])) _
    refine st26.trans ?_
    show Steps _ _ _ (T26.setTop (mkF m 62 (l_42 p0 p1 p2 p3 p4 (stF p0) b2 b3 v5 (stF p4) b8) [(.ref b21)])) _
    refine XS.astore X26.here hx rfl (hb hby at_62) rfl rfl (l' := (l_43 p0 p1 p2 p3 p4 (stF p0) b2 b3 v5 (stF p4) b8 b21)) rfl ?_
    show Steps _ _ _ (T26.setTop (mkF m 64 (l_43 p0 p1 p2 p3 p4 (stF p0) b2 b3 v5 (stF p4) b8 b21) [])) _
    refine XS.aload X26.here hx rfl (hb hby at_64) rfl rfl ?_
    show Steps _ _ _ (T26.setTop (mkF m 66 (l_43 p0 p1 p2 p3 p4 (stF p0) b2 b3 v5 (stF p4) b8 b21) [(.ref b21)])) _
    refine XS.aload X26.here hx rfl (hb hby at_66) rfl rfl ?_
    show Steps _ _ _ (T26.setTop (mkF m 68 (l_43 p0 p1 p2 p3 p4 (stF p0) b2 b3 v5 (stF p4) b8 b21) [(.ref b3), (.ref b21)])) _
    refine st34.trans ?_
    show Steps _ _ _ (T34.setTop (mkF m 71 (l_43 p0 p1 p2 p3 p4 (stF p0) b2 b3 v5 (stF p4) b8 b21) [(.int (1 : Int32))])) _
    refine XS.pop X34.here hx rfl (hb hby at_71) rfl rfl ?_
    show Steps _ _ _ (T34.setTop (mkF m 72 (l_43 p0 p1 p2 p3 p4 (stF p0) b2 b3 v5 (stF p4) b8 b21) [])) _
    refine XS.iconst X34.here hx rfl (hb hby at_72) ?_
    show Steps _ _ _ (T34.setTop (mkF m 73 (l_43 p0 p1 p2 p3 p4 (stF p0) b2 b3 v5 (stF p4) b8 b21) [(.int (1 : Int32))])) _
    refine st42 _ ?_
    show Steps _ _ _ (T42.setTop (mkF m 75 (l_43 p0 p1 p2 p3 p4 (stF p0) b2 b3 v5 (stF p4) b8 b21) [(.ref b42)])) _
    refine XS.dup X42.here hx rfl (hb hby at_75) rfl rfl ?_
    show Steps _ _ _ (T42.setTop (mkF m 76 (l_43 p0 p1 p2 p3 p4 (stF p0) b2 b3 v5 (stF p4) b8 b21) [(.ref b42), (.ref b42)])) _
    refine XS.iconst X42.here hx rfl (hb hby at_76) ?_
    show Steps _ _ _ (T42.setTop (mkF m 77 (l_43 p0 p1 p2 p3 p4 (stF p0) b2 b3 v5 (stF p4) b8 b21) [(.int (0 : Int32)), (.ref b42), (.ref b42)])) _
    refine XS.bipush X42.here hx rfl (hb hby at_77) ?_
    show Steps _ _ _ (T42.setTop (mkF m 79 (l_43 p0 p1 p2 p3 p4 (stF p0) b2 b3 v5 (stF p4) b8 b21) [(.int (97 : Int32)), (.int (0 : Int32)), (.ref b42), (.ref b42)])) _
    refine st50 _ ?_
    show Steps _ _ _ (T50.setTop (mkF m 80 (l_43 p0 p1 p2 p3 p4 (stF p0) b2 b3 v5 (stF p4) b8 b21) [(.ref b42)])) _
    refine XS.astore X50.here hx rfl (hb hby at_80) rfl rfl (l' := (l_44 p0 p1 p2 p3 p4 (stF p0) b2 b3 v5 (stF p4) b8 b21 b42)) rfl ?_
    show Steps _ _ _ (T50.setTop (mkF m 82 (l_44 p0 p1 p2 p3 p4 (stF p0) b2 b3 v5 (stF p4) b8 b21 b42) [])) _
    refine XS.iconst X50.here hx rfl (hb hby at_82) ?_
    show Steps _ _ _ (T50.setTop (mkF m 83 (l_44 p0 p1 p2 p3 p4 (stF p0) b2 b3 v5 (stF p4) b8 b21 b42) [(.int (1 : Int32))])) _
    refine st51 _ ?_
    show Steps _ _ _ (T51.setTop (mkF m 85 (l_44 p0 p1 p2 p3 p4 (stF p0) b2 b3 v5 (stF p4) b8 b21 b42) [(.ref b51)])) _
    refine XS.dup X51.here hx rfl (hb hby at_85) rfl rfl ?_
    show Steps _ _ _ (T51.setTop (mkF m 86 (l_44 p0 p1 p2 p3 p4 (stF p0) b2 b3 v5 (stF p4) b8 b21 b42) [(.ref b51), (.ref b51)])) _
    refine XS.iconst X51.here hx rfl (hb hby at_86) ?_
    show Steps _ _ _ (T51.setTop (mkF m 87 (l_44 p0 p1 p2 p3 p4 (stF p0) b2 b3 v5 (stF p4) b8 b21 b42) [(.int (0 : Int32)), (.ref b51), (.ref b51)])) _
    refine XS.bipush X51.here hx rfl (hb hby at_87) ?_
    show Steps _ _ _ (T51.setTop (mkF m 89 (l_44 p0 p1 p2 p3 p4 (stF p0) b2 b3 v5 (stF p4) b8 b21 b42) [(.int (98 : Int32)), (.int (0 : Int32)), (.ref b51), (.ref b51)])) _
    refine st62 _ ?_
    show Steps _ _ _ (T62.setTop (mkF m 90 (l_44 p0 p1 p2 p3 p4 (stF p0) b2 b3 v5 (stF p4) b8 b21 b42) [(.ref b51)])) _
    refine XS.astore X62.here hx rfl (hb hby at_90) rfl rfl (l' := (l_45 p0 p1 p2 p3 p4 (stF p0) b2 b3 v5 (stF p4) b8 b21 b42 b51)) rfl ?_
    show Steps _ _ _ (T62.setTop (mkF m 92 (l_45 p0 p1 p2 p3 p4 (stF p0) b2 b3 v5 (stF p4) b8 b21 b42 b51) [])) _
    refine XS.iconst X62.here hx rfl (hb hby at_92) ?_
    show Steps _ _ _ (T62.setTop (mkF m 93 (l_45 p0 p1 p2 p3 p4 (stF p0) b2 b3 v5 (stF p4) b8 b21 b42 b51) [(.int (1 : Int32))])) _
    refine st63 _ ?_
    show Steps _ _ _ (T63.setTop (mkF m 95 (l_45 p0 p1 p2 p3 p4 (stF p0) b2 b3 v5 (stF p4) b8 b21 b42 b51) [(.ref b63)])) _
    refine XS.dup X63.here hx rfl (hb hby at_95) rfl rfl ?_
    show Steps _ _ _ (T63.setTop (mkF m 96 (l_45 p0 p1 p2 p3 p4 (stF p0) b2 b3 v5 (stF p4) b8 b21 b42 b51) [(.ref b63), (.ref b63)])) _
    refine XS.iconst X63.here hx rfl (hb hby at_96) ?_
    show Steps _ _ _ (T63.setTop (mkF m 97 (l_45 p0 p1 p2 p3 p4 (stF p0) b2 b3 v5 (stF p4) b8 b21 b42 b51) [(.int (0 : Int32)), (.ref b63), (.ref b63)])) _
    refine XS.bipush X63.here hx rfl (hb hby at_97) ?_
    show Steps _ _ _ (T63.setTop (mkF m 99 (l_45 p0 p1 p2 p3 p4 (stF p0) b2 b3 v5 (stF p4) b8 b21 b42 b51) [(.int (112 : Int32)), (.int (0 : Int32)), (.ref b63), (.ref b63)])) _
    refine st75 _ ?_
    show Steps _ _ _ (T75.setTop (mkF m 100 (l_45 p0 p1 p2 p3 p4 (stF p0) b2 b3 v5 (stF p4) b8 b21 b42 b51) [(.ref b63)])) _
    refine XS.astore X75.here hx rfl (hb hby at_100) rfl rfl (l' := (l_46 p0 p1 p2 p3 p4 (stF p0) b2 b3 v5 (stF p4) b8 b21 b42 b51 b63)) rfl ?_
    show Steps _ _ _ (T75.setTop (mkF m 102 (l_46 p0 p1 p2 p3 p4 (stF p0) b2 b3 v5 (stF p4) b8 b21 b42 b51 b63) [])) _
    refine XS.iconst X75.here hx rfl (hb hby at_102) ?_
    show Steps _ _ _ (T75.setTop (mkF m 103 (l_46 p0 p1 p2 p3 p4 (stF p0) b2 b3 v5 (stF p4) b8 b21 b42 b51 b63) [(.int (1 : Int32))])) _
    refine st76 _ ?_
    show Steps _ _ _ (T76.setTop (mkF m 105 (l_46 p0 p1 p2 p3 p4 (stF p0) b2 b3 v5 (stF p4) b8 b21 b42 b51 b63) [(.ref b76)])) _
    refine XS.dup X76.here hx rfl (hb hby at_105) rfl rfl ?_
    show Steps _ _ _ (T76.setTop (mkF m 106 (l_46 p0 p1 p2 p3 p4 (stF p0) b2 b3 v5 (stF p4) b8 b21 b42 b51 b63) [(.ref b76), (.ref b76)])) _
    refine XS.iconst X76.here hx rfl (hb hby at_106) ?_
    show Steps _ _ _ (T76.setTop (mkF m 107 (l_46 p0 p1 p2 p3 p4 (stF p0) b2 b3 v5 (stF p4) b8 b21 b42 b51 b63) [(.int (0 : Int32)), (.ref b76), (.ref b76)])) _
    refine XS.bipush X76.here hx rfl (hb hby at_107) ?_
    show Steps _ _ _ (T76.setTop (mkF m 109 (l_46 p0 p1 p2 p3 p4 (stF p0) b2 b3 v5 (stF p4) b8 b21 b42 b51 b63) [(.int (113 : Int32)), (.int (0 : Int32)), (.ref b76), (.ref b76)])) _
    refine st89 _ ?_
    show Steps _ _ _ (T89.setTop (mkF m 110 (l_46 p0 p1 p2 p3 p4 (stF p0) b2 b3 v5 (stF p4) b8 b21 b42 b51 b63) [(.ref b76)])) _
    refine XS.astore X89.here hx rfl (hb hby at_110) rfl rfl (l' := (l_47 p0 p1 p2 p3 p4 (stF p0) b2 b3 v5 (stF p4) b8 b21 b42 b51 b63 b76)) rfl ?_
    show Steps _ _ _ (T89.setTop (mkF m 112 (l_47 p0 p1 p2 p3 p4 (stF p0) b2 b3 v5 (stF p4) b8 b21 b42 b51 b63 b76) [])) _
    refine st90 _ ?_
    show Steps _ _ _ (T90.setTop (mkF m 115 (l_47 p0 p1 p2 p3 p4 (stF p0) b2 b3 v5 (stF p4) b8 b21 b42 b51 b63 b76) [(.ref b90)])) _
    refine XS.dup X90.here hx rfl (hb hby at_115) rfl rfl ?_
    exact kk)
  have Zz104 := (Nat.le_trans Zz91 E90.1)
  have Od105 := ((((((((((Od41.keep K34 (allS g_b21 all0)).ext E42).wr W50 g_b42).ext E51).wr W62 g_b51).ext E63).wr W75 g_b63).ext E76).wr W89 g_b76).ext E90)
  have Av106 := (Av102.ext E90)
  have Ex107 := (Ex93.ext E90)
  have Ex108 := (Ex95.ext E90)
  have Ex109 := (Ex101.ext E90)
  have Fd110 := ((((((((((((Pc15_1.ext E21).keep K26 (ninS ne_b8_b21 nin0)).keep K34 (ninS ne_b8_b21 nin0)).ext E42).other W50 (Or.inl ne_b8_b42)).ext E51).other W62 (Or.inl ne_b8_b51)).ext E63).other W75 (Or.inl ne_b8_b63)).ext E76).other W89 (Or.inl ne_b8_b76)).ext E90)
  have Fd111 := ((((((((((((Pc15_2.ext E21).keep K26 (ninS ne_b8_b21 nin0)).keep K34 (ninS ne_b8_b21 nin0)).ext E42).other W50 (Or.inl ne_b8_b42)).ext E51).other W62 (Or.inl ne_b8_b51)).ext E63).other W75 (Or.inl ne_b8_b63)).ext E76).other W89 (Or.inl ne_b8_b76)).ext E90)
  have Fd112 := ((((((((((((Pc15_3.ext E21).keep K26 (ninS ne_b8_b21 nin0)).keep K34 (ninS ne_b8_b21 nin0)).ext E42).other W50 (Or.inl ne_b8_b42)).ext E51).other W62 (Or.inl ne_b8_b51)).ext E63).other W75 (Or.inl ne_b8_b63)).ext E76).other W89 (Or.inl ne_b8_b76)).ext E90)
  have Av113 := (Av92.ext E90)
  have Ex114 := (Ex94.ext E90)
  have Fd115 := (((((((((Pc34_1.ext E42).other W50 (Or.inl ne_b21_b42)).ext E51).other W62 (Or.inl ne_b21_b51)).ext E63).other W75 (Or.inl ne_b21_b63)).ext E76).other W89 (Or.inl ne_b21_b76)).ext E90)
  have Fd116 := (((((((((Pc34_2.ext E42).other W50 (Or.inl ne_b21_b42)).ext E51).other W62 (Or.inl ne_b21_b51)).ext E63).other W75 (Or.inl ne_b21_b63)).ext E76).other W89 (Or.inl ne_b21_b76)).ext E90)
  have Fd117 := (((((((((Pc34_3.ext E42).other W50 (Or.inl ne_b21_b42)).ext E51).other W62 (Or.inl ne_b21_b51)).ext E63).other W75 (Or.inl ne_b21_b63)).ext E76).other W89 (Or.inl ne_b21_b76)).ext E90)
  have Av118 := (Av96.ext E90)
  have Ex119 := (Ex97.ext E90)
  have Av120 := (((((((VL50.ext E51).other W62 ne_b42_b51).ext E63).other W75 ne_b42_b63).ext E76).other W89 ne_b42_b76).ext E90)
  have Ex121 := (Ex98.ext E90)
  have Av122 := (((((VL62.ext E63).other W75 ne_b51_b63).ext E76).other W89 ne_b51_b76).ext E90)
  have Ex123 := (Ex99.ext E90)
  have Av124 := (((VL75.ext E76).other W89 ne_b63_b76).ext E90)
  have Ex125 := (Ex100.ext E90)
  have Av126 := (VL89.ext E90)
  obtain ⟨Lg127, X127, N127⟩ : ∃ L' : List Loc, Stand p l e room_1 s m #[(.int p0), (.int p1), (.int p2), (.int p3), (.int p4)] below meth c T90 L' 9 34 ∧ Fr n0 L' := ⟨_, X90, N89⟩
  (try clear X1); (try clear st1); (try clear N1q); (try clear e1); (try clear N1); (try clear X2); (try clear st2); (try clear N2q); (try clear e2); (try clear N2); (try clear X3); (try clear st3); (try clear N3q); (try clear e3); (try clear N3); (try clear pre4); (try clear pre5); (try clear X7); (try clear st7); (try clear N7q); (try clear e7); (try clear N7); (try clear X8); (try clear e8); (try clear E8); (try clear A8); (try clear D8); (try clear st8); (try clear g8); (try clear F_modCount_b8); (try clear F_elementData_b8); (try clear F_size_b8); (try clear Ex10); (try clear Ex11); (try clear Av12); (try clear Zz13); (try clear Od14); (try clear X9); (try clear st9); (try clear N9q); (try clear K9); (try clear N9); (try clear Ex16); (try clear Ex17); (try clear Av18); (try clear Zz19); (try clear Od20); (try clear X15); (try clear st15); (try clear N15q); (try clear K15); (try clear N15); (try clear X21); (try clear e21); (try clear E21); (try clear A21); (try clear D21); (try clear st21); (try clear g21); (try clear Zz22); (try clear Ex23); (try clear Ex24); (try clear Av25); (try clear F_modCount_b21); (try clear F_elementData_b21); (try clear F_size_b21); (try clear Av27); (try clear Ex28); (try clear Ex29); (try clear Ex30); (try clear Av31); (try clear Zz32); (try clear Od33); (try clear X26); (try clear st26); (try clear N26q); (try clear K26); (try clear N26); (try clear Av35); (try clear Ex36); (try clear Ex37); (try clear Ex38); (try clear Av39); (try clear Zz40); (try clear Od41); (try clear X34); (try clear st34); (try clear N34q); (try clear K34); (try clear N34); (try clear X42); (try clear e42); (try clear E42); (try clear A42); (try clear st42); (try clear g42); (try clear Zz43); (try clear Av44); (try clear Ex45); (try clear Ex46); (try clear Ex47); (try clear Av48); (try clear V_b42); (try clear Ar49); (try clear q49); (try clear S49); (try clear Nn49); (try clear H49); (try clear G49); (try clear hin49); (try clear X50); (try clear e50); (try clear W50); (try clear st50); (try clear N50); (try clear V50); (try clear X51); (try clear e51); (try clear E51); (try clear A51); (try clear st51); (try clear g51); (try clear Zz52); (try clear Av53); (try clear Ex54); (try clear Ex55); (try clear Ex56); (try clear Av57); (try clear Ex58); (try clear Ex59); (try clear Av60); (try clear V_b51); (try clear Ar61); (try clear q61); (try clear S61); (try clear Nn61); (try clear H61); (try clear G61); (try clear hin61); (try clear X62); (try clear e62); (try clear W62); (try clear st62); (try clear N62); (try clear V62); (try clear X63); (try clear e63); (try clear E63); (try clear A63); (try clear st63); (try clear g63); (try clear Zz64); (try clear Av65); (try clear Ex66); (try clear Ex67); (try clear Ex68); (try clear Av69); (try clear Ex70); (try clear Ex71); (try clear Ex72); (try clear Av73); (try clear V_b63); (try clear Ar74); (try clear q74); (try clear S74); (try clear Nn74); (try clear H74); (try clear G74); (try clear hin74); (try clear X75); (try clear e75); (try clear W75); (try clear st75); (try clear N75); (try clear V75); (try clear X76); (try clear e76); (try clear E76); (try clear A76); (try clear st76); (try clear g76); (try clear Zz77); (try clear Av78); (try clear Ex79); (try clear Ex80); (try clear Ex81); (try clear Av82); (try clear Ex83); (try clear Ex84); (try clear Ex85); (try clear Ex86); (try clear Av87); (try clear V_b76); (try clear Ar88); (try clear q88); (try clear S88); (try clear Nn88); (try clear H88); (try clear G88); (try clear hin88); (try clear X89); (try clear e89); (try clear W89); (try clear st89); (try clear N89); (try clear V89); (try clear X90); (try clear E90); (try clear D90); (try clear st90); (try clear g90); (try clear Zz91); (try clear Av92); (try clear Ex93); (try clear Ex94); (try clear Ex95); (try clear Av96); (try clear Ex97); (try clear Ex98); (try clear Ex99); (try clear Ex100); (try clear Ex101); (try clear Av102)
  obtain ⟨_, _, ⟨T128, L128, k128, n128⟩, -, X128, ⟨Lc128, hQ128, l128, y128, z128⟩, st128⟩ := X127.specialBack hx (y := (⟨"com/example/onesnap/onesnap/node/TransactionTracker", "<init>", "()V"⟩ : MethodName)) rfl hown (mvT hZ (hw _ (tm 74 rfl))) (mvT hZ (hw _ (tm 75 rfl))) (mvT hZ (hw _ (tm 76 rfl))) (by decide) (backOf (W := 1) (rm12 l Z a0 hw [] b90  h90 n0 Zz104 A90 F_status_b90 F_statements_b90 F_portals_b90 F_writes_b90 g_b90) hZ (hw _ (tm 76 rfl)) (hw _ (tm 73 rfl)) (by decide) (by decide)) (g := (mkF m 116 (l_47 p0 p1 p2 p3 p4 (stF p0) b2 b3 v5 (stF p4) b8 b21 b42 b51 b63 b76) [(.ref b90), (.ref b90)])) rfl (by rw [hml]; rfl) (Steps.refl _) (a := b90) (argsL := []) (rest := [(.ref b90)]) (lenOf pd__28_29V rfl) rfl (by show 2 * 0 + _ ≤ _; exact Nat.le_of_eq rfl) (hb hby at_116) (fun _ _ => ⟨rfl, e90, (by decide : 9 + 2 ≤ _), (by decide : 34 + 16 ≤ _)⟩)
  dsimp only [Pt.U, Pt.locs, Pt.cells, Pt.slots] at X128 l128 y128 z128 st128 hQ128
  subst l128 y128 z128
  obtain ⟨b128_m1, b128_m2, rfl, N128q, K128, Sz128_m1, Sz128_m2, Pc128_0, Pc128_1, Pc128_2, Pc128_3, Pc128_4, Pc128_5, Pc128_6, Pc128_7, Pc128_8, Pc128_9, Pc128_10, Pc128_11, Pc128_12, Pc128_13, Pc128_14, Pc128_15⟩ := hQ128
  have N128 := Fr.app N127 N128q
  have g_b128_m1 : n0 ≤ b128_m1 := Nat.le_trans Zz104 Sz128_m1
  have ne_b15_da_b128_m1 : b15_da ≠ b128_m1 := Nat.ne_of_lt (Nat.lt_of_lt_of_le Av113.lt Sz128_m1)
  have ne_b2_b128_m1 : b2 ≠ b128_m1 := Nat.ne_of_lt (Nat.lt_of_lt_of_le Ex107.lt Sz128_m1)
  have ne_b21_b128_m1 : b21 ≠ b128_m1 := Nat.ne_of_lt (Nat.lt_of_lt_of_le Ex114.lt Sz128_m1)
  have ne_b3_b128_m1 : b3 ≠ b128_m1 := Nat.ne_of_lt (Nat.lt_of_lt_of_le Ex108.lt Sz128_m1)
  have ne_b34_da_b128_m1 : b34_da ≠ b128_m1 := Nat.ne_of_lt (Nat.lt_of_lt_of_le Av118.lt Sz128_m1)
  have ne_b42_b128_m1 : b42 ≠ b128_m1 := Nat.ne_of_lt (Nat.lt_of_lt_of_le Ex119.lt Sz128_m1)
  have ne_b51_b128_m1 : b51 ≠ b128_m1 := Nat.ne_of_lt (Nat.lt_of_lt_of_le Ex121.lt Sz128_m1)
  have ne_b63_b128_m1 : b63 ≠ b128_m1 := Nat.ne_of_lt (Nat.lt_of_lt_of_le Ex123.lt Sz128_m1)
  have ne_b76_b128_m1 : b76 ≠ b128_m1 := Nat.ne_of_lt (Nat.lt_of_lt_of_le Ex125.lt Sz128_m1)
  have ne_b8_b128_m1 : b8 ≠ b128_m1 := Nat.ne_of_lt (Nat.lt_of_lt_of_le Ex109.lt Sz128_m1)
  have ne_b90_b128_m1 : b90 ≠ b128_m1 := Nat.ne_of_lt (Nat.lt_of_lt_of_le A90.lt Sz128_m1)
  have ne_de_b128_m1 : de ≠ b128_m1 := Nat.ne_of_lt (Nat.lt_of_lt_of_le Av106.lt Sz128_m1)
  have g_b128_m2 : n0 ≤ b128_m2 := Nat.le_trans Zz104 Sz128_m2
  have ne_b15_da_b128_m2 : b15_da ≠ b128_m2 := Nat.ne_of_lt (Nat.lt_of_lt_of_le Av113.lt Sz128_m2)
  have ne_b2_b128_m2 : b2 ≠ b128_m2 := Nat.ne_of_lt (Nat.lt_of_lt_of_le Ex107.lt Sz128_m2)
  have ne_b21_b128_m2 : b21 ≠ b128_m2 := Nat.ne_of_lt (Nat.lt_of_lt_of_le Ex114.lt Sz128_m2)
  have ne_b3_b128_m2 : b3 ≠ b128_m2 := Nat.ne_of_lt (Nat.lt_of_lt_of_le Ex108.lt Sz128_m2)
  have ne_b34_da_b128_m2 : b34_da ≠ b128_m2 := Nat.ne_of_lt (Nat.lt_of_lt_of_le Av118.lt Sz128_m2)
  have ne_b42_b128_m2 : b42 ≠ b128_m2 := Nat.ne_of_lt (Nat.lt_of_lt_of_le Ex119.lt Sz128_m2)
  have ne_b51_b128_m2 : b51 ≠ b128_m2 := Nat.ne_of_lt (Nat.lt_of_lt_of_le Ex121.lt Sz128_m2)
  have ne_b63_b128_m2 : b63 ≠ b128_m2 := Nat.ne_of_lt (Nat.lt_of_lt_of_le Ex123.lt Sz128_m2)
  have ne_b76_b128_m2 : b76 ≠ b128_m2 := Nat.ne_of_lt (Nat.lt_of_lt_of_le Ex125.lt Sz128_m2)
  have ne_b8_b128_m2 : b8 ≠ b128_m2 := Nat.ne_of_lt (Nat.lt_of_lt_of_le Ex109.lt Sz128_m2)
  have ne_b90_b128_m2 : b90 ≠ b128_m2 := Nat.ne_of_lt (Nat.lt_of_lt_of_le A90.lt Sz128_m2)
  have ne_de_b128_m2 : de ≠ b128_m2 := Nat.ne_of_lt (Nat.lt_of_lt_of_le Av106.lt Sz128_m2)
  have Av130 := (Av113.keep K128 (ninS ne_b15_da_b90 nin0))
  have Ex131 := (Ex107.keep K128)
  have Ex132 := (Ex114.keep K128)
  have Ex133 := (Ex108.keep K128)
  have Av134 := (Av118.keep K128 (ninS ne_b34_da_b90 nin0))
  have Ex135 := (Ex119.keep K128)
  have Ex136 := (Ex121.keep K128)
  have Ex137 := (Ex123.keep K128)
  have Ex138 := (Ex125.keep K128)
  have Ex139 := (Ex109.keep K128)
  have Av140 := (Av106.keep K128 (ninS ne_de_b90 nin0))
  have Zz141 := (Nat.le_trans Zz104 K128.1)
  obtain ⟨cq129, kq129, q129a, q129b, q129c⟩ := isOf hZ rfl Pc128_0
  obtain ⟨_, _, ⟨T129, L129, k129, n129⟩, -, X129, ⟨Lc129, hQ129, l129, y129, z129⟩, st129⟩ := X128.virtualBack hx (y := (⟨"com/example/onesnap/onesnap/node/TransactionTracker", "ready", "(C)V"⟩ : MethodName)) (z := (⟨"com/example/onesnap/onesnap/node/TransactionTracker", "ready", "(C)V"⟩ : MethodName)) hown (mvT hZ (hw _ (tm 100 rfl))) (mvT hZ (hw _ (tm 101 rfl))) (notFace_of_selects (args := #[]) (mvT hZ (hw _ (tm 103 rfl)))) (mvT hZ (hw _ (tm 103 rfl))) (mvT hZ (hw _ (tm 102 rfl))) (by decide) (backOf (W := 0) (rm15 l Z a0 hw [] b90 (stF p0) ((73 : Int32)) ((0 : Int32)) (b128_m1) (b128_m2) T128.heap n0 Zz141 Pc128_0 Pc128_1 Pc128_2 Pc128_3 Pc128_4 g_b90) hZ (hw _ (tm 104 rfl)) (hw _ (tm 73 rfl)) (by decide) (by decide)) q129a q129c (g := (mkF m 125 (l_48 p0 p1 p2 p3 p4 (stF p0) b2 b3 v5 (stF p4) b8 b21 b42 b51 b63 b76 b90) [(.int (stF p0)), (.ref b90)])) rfl (by rw [hml]; rfl) (Steps.refl _) (argsL := [(.int (stF p0))]) (rest := []) (lenOf pd__28C_29V rfl) rfl (by show 2 * 0 + _ ≤ _; exact Nat.le_of_eq rfl) (hb hby at_125) (fun _ _ => ⟨rfl, rfl, (by decide : 11 + 0 ≤ _), (by decide : 50 + 0 ≤ _)⟩)
  dsimp only [Pt.U, Pt.locs, Pt.cells, Pt.slots] at X129 l129 y129 z129 st129 hQ129
  subst l129 y129 z129
  obtain ⟨rfl, N129q, K129, Pc129_0, Pc129_1, Pc129_2, Pc129_3, Pc129_4⟩ := hQ129
  have N129 := Fr.app N128 N129q
  have Ex143 := (Pc128_5.keep K129)
  have Ex144 := (Pc128_10.keep K129)
  have Av145 := (Av130.keep K129 (ninS ne_b15_da_b90 nin0))
  have Ex146 := (Ex131.keep K129)
  have Ex147 := (Ex132.keep K129)
  have Ex148 := (Ex133.keep K129)
  have Av149 := (Av134.keep K129 (ninS ne_b34_da_b90 nin0))
  have Ex150 := (Ex135.keep K129)
  have Ex151 := (Ex136.keep K129)
  have Ex152 := (Ex137.keep K129)
  have Ex153 := (Ex138.keep K129)
  have Ex154 := (Ex139.keep K129)
  have Av155 := (Av140.keep K129 (ninS ne_de_b90 nin0))
  have Zz156 := (Nat.le_trans Zz141 K129.1)
  have Fd157 := (Pc128_6.keep K129 (ninS (Ne.symm ne_b90_b128_m1) nin0))
  have Fd158 := (Pc128_7.keep K129 (ninS (Ne.symm ne_b90_b128_m1) nin0))
  have Fd159 := (Pc128_8.keep K129 (ninS (Ne.symm ne_b90_b128_m1) nin0))
  have Fd160 := (Pc128_9.keep K129 (ninS (Ne.symm ne_b90_b128_m1) nin0))
  have Av161 := ((Av120.keep K128 (ninS ne_b42_b90 nin0)).keep K129 (ninS ne_b42_b90 nin0))
  have Od162 := ((Od105.keep K128 (allS g_b90 all0)).keep K129 (allS g_b90 all0))
  have Fd163 := ((Fd112.keep K128 (ninS ne_b8_b90 nin0)).keep K129 (ninS ne_b8_b90 nin0))
  have Fd164 := ((Fd111.keep K128 (ninS ne_b8_b90 nin0)).keep K129 (ninS ne_b8_b90 nin0))
  obtain ⟨cq142, kq142, q142a, q142b, q142c⟩ := isOf hZ rfl Pc129_0
  obtain ⟨_, _, ⟨T142, L142, k142, n142⟩, -, X142, ⟨Lc142, hQ142, l142, y142, z142⟩, st142⟩ := X129.virtualBack hx (y := (⟨"com/example/onesnap/onesnap/node/TransactionTracker", "parsed", "([BLjava/util/List;)V"⟩ : MethodName)) (z := (⟨"com/example/onesnap/onesnap/node/TransactionTracker", "parsed", "([BLjava/util/List;)V"⟩ : MethodName)) hown (mvT hZ (hw _ (tm 107 rfl))) (mvT hZ (hw _ (tm 108 rfl))) (notFace_of_selects (args := #[]) (mvT hZ (hw _ (tm 110 rfl)))) (mvT hZ (hw _ (tm 110 rfl))) (mvT hZ (hw _ (tm 109 rfl))) (by decide) (backOf (W := 0) (rm16_f l Z a0 hw [] b90 b42 b8 (b128_m1) (k42) ((97 : Int32)) (iso) (utf) (cs) (b15_da) (b15_ka) (b2) (1) T129.heap n0 Zz156 Pc129_2 Ex143 Fd157 Fd158 Fd159 Fd160 Av161 Ex150 Od162 Sutf Siso Scs hcs hne Ssc Eiso (show Gd (97 : Int32) from ⟨by decide, by decide, by decide⟩) (show Ix (97 : Int32) 1 from ⟨⟨by decide, by decide⟩, by decide, by decide⟩) Ex154 Fd163 Fd164 Av145 Ex146 g_b128_m1 ne_b90_b128_m1 ne_b42_b128_m1 ne_b8_b128_m1 ne_b15_da_b128_m1) hZ (hw _ (tm 111 rfl)) (hw _ (tm 73 rfl)) (by decide) (by decide)) q142a q142c (g := (mkF m 134 (l_48 p0 p1 p2 p3 p4 (stF p0) b2 b3 v5 (stF p4) b8 b21 b42 b51 b63 b76 b90) [(.ref b8), (.ref b42), (.ref b90)])) rfl (by rw [hml]; rfl) (Steps.refl _) (argsL := [(.ref b42), (.ref b8)]) (rest := []) (lenOf pd__28_5bBLjava_2futil_2fList_3b_29V rfl) rfl (by show 2 * 0 + _ ≤ _; exact Nat.le_of_eq rfl) (hb hby at_134) (fun _ _ => ⟨rfl, rfl, (by decide : 11 + 4 ≤ _), (by decide : 50 + 25 ≤ _)⟩)
  dsimp only [Pt.U, Pt.locs, Pt.cells, Pt.slots] at X142 l142 y142 z142 st142 hQ142
  subst l142 y142 z142
  obtain ⟨b142_t, b142_kt, b142_n, b142_y, b142_v1, rfl, N142q, K142, Sz142_t, Sz142_n, Sz142_y, Sz142_v1, Pc142_0, Pc142_1, Pc142_2, Pc142_3, Pc142_4, Pc142_5, Pc142_6, Pc142_7, Pc142_8, Pc142_9, Pc142_10, Pc142_11, Pc142_12, Pc142_13, Pc142_14, Pc142_15, Pc142_16, Pc142_17⟩ := hQ142
  have N142 := Fr.app N129 N142q
  have g_b142_t : n0 ≤ b142_t := Nat.le_trans Zz156 Sz142_t
  have ne_b128_m1_b142_t : b128_m1 ≠ b142_t := Nat.ne_of_lt (Nat.lt_of_lt_of_le Ex143.lt Sz142_t)
  have ne_b128_m2_b142_t : b128_m2 ≠ b142_t := Nat.ne_of_lt (Nat.lt_of_lt_of_le Ex144.lt Sz142_t)
  have ne_b15_da_b142_t : b15_da ≠ b142_t := Nat.ne_of_lt (Nat.lt_of_lt_of_le Av145.lt Sz142_t)
  have ne_b2_b142_t : b2 ≠ b142_t := Nat.ne_of_lt (Nat.lt_of_lt_of_le Ex146.lt Sz142_t)
  have ne_b21_b142_t : b21 ≠ b142_t := Nat.ne_of_lt (Nat.lt_of_lt_of_le Ex147.lt Sz142_t)
  have ne_b3_b142_t : b3 ≠ b142_t := Nat.ne_of_lt (Nat.lt_of_lt_of_le Ex148.lt Sz142_t)
  have ne_b34_da_b142_t : b34_da ≠ b142_t := Nat.ne_of_lt (Nat.lt_of_lt_of_le Av149.lt Sz142_t)
  have ne_b42_b142_t : b42 ≠ b142_t := Nat.ne_of_lt (Nat.lt_of_lt_of_le Ex150.lt Sz142_t)
  have ne_b51_b142_t : b51 ≠ b142_t := Nat.ne_of_lt (Nat.lt_of_lt_of_le Ex151.lt Sz142_t)
  have ne_b63_b142_t : b63 ≠ b142_t := Nat.ne_of_lt (Nat.lt_of_lt_of_le Ex152.lt Sz142_t)
  have ne_b76_b142_t : b76 ≠ b142_t := Nat.ne_of_lt (Nat.lt_of_lt_of_le Ex153.lt Sz142_t)
  have ne_b8_b142_t : b8 ≠ b142_t := Nat.ne_of_lt (Nat.lt_of_lt_of_le Ex154.lt Sz142_t)
  have ne_b90_b142_t : b90 ≠ b142_t := Nat.ne_of_lt (Nat.lt_of_lt_of_le Pc129_0.lt Sz142_t)
  have ne_de_b142_t : de ≠ b142_t := Nat.ne_of_lt (Nat.lt_of_lt_of_le Av155.lt Sz142_t)
  have g_b142_n : n0 ≤ b142_n := Nat.le_trans Zz156 Sz142_n
  have ne_b128_m1_b142_n : b128_m1 ≠ b142_n := Nat.ne_of_lt (Nat.lt_of_lt_of_le Ex143.lt Sz142_n)
  have ne_b128_m2_b142_n : b128_m2 ≠ b142_n := Nat.ne_of_lt (Nat.lt_of_lt_of_le Ex144.lt Sz142_n)
  have ne_b15_da_b142_n : b15_da ≠ b142_n := Nat.ne_of_lt (Nat.lt_of_lt_of_le Av145.lt Sz142_n)
  have ne_b2_b142_n : b2 ≠ b142_n := Nat.ne_of_lt (Nat.lt_of_lt_of_le Ex146.lt Sz142_n)
  have ne_b21_b142_n : b21 ≠ b142_n := Nat.ne_of_lt (Nat.lt_of_lt_of_le Ex147.lt Sz142_n)
  have ne_b3_b142_n : b3 ≠ b142_n := Nat.ne_of_lt (Nat.lt_of_lt_of_le Ex148.lt Sz142_n)
  have ne_b34_da_b142_n : b34_da ≠ b142_n := Nat.ne_of_lt (Nat.lt_of_lt_of_le Av149.lt Sz142_n)
  have ne_b42_b142_n : b42 ≠ b142_n := Nat.ne_of_lt (Nat.lt_of_lt_of_le Ex150.lt Sz142_n)
  have ne_b51_b142_n : b51 ≠ b142_n := Nat.ne_of_lt (Nat.lt_of_lt_of_le Ex151.lt Sz142_n)
  have ne_b63_b142_n : b63 ≠ b142_n := Nat.ne_of_lt (Nat.lt_of_lt_of_le Ex152.lt Sz142_n)
  have ne_b76_b142_n : b76 ≠ b142_n := Nat.ne_of_lt (Nat.lt_of_lt_of_le Ex153.lt Sz142_n)
  have ne_b8_b142_n : b8 ≠ b142_n := Nat.ne_of_lt (Nat.lt_of_lt_of_le Ex154.lt Sz142_n)
  have ne_b90_b142_n : b90 ≠ b142_n := Nat.ne_of_lt (Nat.lt_of_lt_of_le Pc129_0.lt Sz142_n)
  have ne_de_b142_n : de ≠ b142_n := Nat.ne_of_lt (Nat.lt_of_lt_of_le Av155.lt Sz142_n)
  have g_b142_y : n0 ≤ b142_y := Nat.le_trans Zz156 Sz142_y
  have ne_b128_m1_b142_y : b128_m1 ≠ b142_y := Nat.ne_of_lt (Nat.lt_of_lt_of_le Ex143.lt Sz142_y)
  have ne_b128_m2_b142_y : b128_m2 ≠ b142_y := Nat.ne_of_lt (Nat.lt_of_lt_of_le Ex144.lt Sz142_y)
  have ne_b15_da_b142_y : b15_da ≠ b142_y := Nat.ne_of_lt (Nat.lt_of_lt_of_le Av145.lt Sz142_y)
  have ne_b2_b142_y : b2 ≠ b142_y := Nat.ne_of_lt (Nat.lt_of_lt_of_le Ex146.lt Sz142_y)
  have ne_b21_b142_y : b21 ≠ b142_y := Nat.ne_of_lt (Nat.lt_of_lt_of_le Ex147.lt Sz142_y)
  have ne_b3_b142_y : b3 ≠ b142_y := Nat.ne_of_lt (Nat.lt_of_lt_of_le Ex148.lt Sz142_y)
  have ne_b34_da_b142_y : b34_da ≠ b142_y := Nat.ne_of_lt (Nat.lt_of_lt_of_le Av149.lt Sz142_y)
  have ne_b42_b142_y : b42 ≠ b142_y := Nat.ne_of_lt (Nat.lt_of_lt_of_le Ex150.lt Sz142_y)
  have ne_b51_b142_y : b51 ≠ b142_y := Nat.ne_of_lt (Nat.lt_of_lt_of_le Ex151.lt Sz142_y)
  have ne_b63_b142_y : b63 ≠ b142_y := Nat.ne_of_lt (Nat.lt_of_lt_of_le Ex152.lt Sz142_y)
  have ne_b76_b142_y : b76 ≠ b142_y := Nat.ne_of_lt (Nat.lt_of_lt_of_le Ex153.lt Sz142_y)
  have ne_b8_b142_y : b8 ≠ b142_y := Nat.ne_of_lt (Nat.lt_of_lt_of_le Ex154.lt Sz142_y)
  have ne_b90_b142_y : b90 ≠ b142_y := Nat.ne_of_lt (Nat.lt_of_lt_of_le Pc129_0.lt Sz142_y)
  have ne_de_b142_y : de ≠ b142_y := Nat.ne_of_lt (Nat.lt_of_lt_of_le Av155.lt Sz142_y)
  have g_b142_v1 : n0 ≤ b142_v1 := Nat.le_trans Zz156 Sz142_v1
  have ne_b128_m1_b142_v1 : b128_m1 ≠ b142_v1 := Nat.ne_of_lt (Nat.lt_of_lt_of_le Ex143.lt Sz142_v1)
  have ne_b128_m2_b142_v1 : b128_m2 ≠ b142_v1 := Nat.ne_of_lt (Nat.lt_of_lt_of_le Ex144.lt Sz142_v1)
  have ne_b15_da_b142_v1 : b15_da ≠ b142_v1 := Nat.ne_of_lt (Nat.lt_of_lt_of_le Av145.lt Sz142_v1)
  have ne_b2_b142_v1 : b2 ≠ b142_v1 := Nat.ne_of_lt (Nat.lt_of_lt_of_le Ex146.lt Sz142_v1)
  have ne_b21_b142_v1 : b21 ≠ b142_v1 := Nat.ne_of_lt (Nat.lt_of_lt_of_le Ex147.lt Sz142_v1)
  have ne_b3_b142_v1 : b3 ≠ b142_v1 := Nat.ne_of_lt (Nat.lt_of_lt_of_le Ex148.lt Sz142_v1)
  have ne_b34_da_b142_v1 : b34_da ≠ b142_v1 := Nat.ne_of_lt (Nat.lt_of_lt_of_le Av149.lt Sz142_v1)
  have ne_b42_b142_v1 : b42 ≠ b142_v1 := Nat.ne_of_lt (Nat.lt_of_lt_of_le Ex150.lt Sz142_v1)
  have ne_b51_b142_v1 : b51 ≠ b142_v1 := Nat.ne_of_lt (Nat.lt_of_lt_of_le Ex151.lt Sz142_v1)
  have ne_b63_b142_v1 : b63 ≠ b142_v1 := Nat.ne_of_lt (Nat.lt_of_lt_of_le Ex152.lt Sz142_v1)
  have ne_b76_b142_v1 : b76 ≠ b142_v1 := Nat.ne_of_lt (Nat.lt_of_lt_of_le Ex153.lt Sz142_v1)
  have ne_b8_b142_v1 : b8 ≠ b142_v1 := Nat.ne_of_lt (Nat.lt_of_lt_of_le Ex154.lt Sz142_v1)
  have ne_b90_b142_v1 : b90 ≠ b142_v1 := Nat.ne_of_lt (Nat.lt_of_lt_of_le Pc129_0.lt Sz142_v1)
  have ne_de_b142_v1 : de ≠ b142_v1 := Nat.ne_of_lt (Nat.lt_of_lt_of_le Av155.lt Sz142_v1)
  have Ex166 := (Ex144.keep K142)
  have Av167 := (Av145.keep K142 (ninS ne_b15_da_b128_m1 nin0))
  have Ex168 := (Ex146.keep K142)
  have Ex169 := (Ex147.keep K142)
  have Ex170 := (Ex148.keep K142)
  have Av171 := (Av149.keep K142 (ninS ne_b34_da_b128_m1 nin0))
  have Ex172 := (Ex150.keep K142)
  have Ex173 := (Ex151.keep K142)
  have Ex174 := (Ex152.keep K142)
  have Ex175 := (Ex153.keep K142)
  have Ex176 := (Ex154.keep K142)
  have Ex177 := (Pc129_0.keep K142)
  have Av178 := (Av155.keep K142 (ninS ne_de_b128_m1 nin0))
  have Zz179 := (Nat.le_trans Zz156 K142.1)
  have Fd180 := (Pc129_2.keep K142 (ninS ne_b90_b128_m1 nin0))
  have Av181 := (((Av122.keep K128 (ninS ne_b51_b90 nin0)).keep K129 (ninS ne_b51_b90 nin0)).keep K142 (ninS ne_b51_b128_m1 nin0))
  have Od182 := (Od162.keep K142 (allS g_b128_m1 all0))
  have Fd183 := (((Fd117.keep K128 (ninS ne_b21_b90 nin0)).keep K129 (ninS ne_b21_b90 nin0)).keep K142 (ninS ne_b21_b128_m1 nin0))
  have Fd184 := (((Fd116.keep K128 (ninS ne_b21_b90 nin0)).keep K129 (ninS ne_b21_b90 nin0)).keep K142 (ninS ne_b21_b128_m1 nin0))
  obtain ⟨cq165, kq165, q165a, q165b, q165c⟩ := isOf hZ rfl Ex177
  obtain ⟨_, _, ⟨T165, L165, k165, n165⟩, -, X165, ⟨Lc165, hQ165, l165, y165, z165⟩, st165⟩ := X142.virtualBack hx (y := (⟨"com/example/onesnap/onesnap/node/TransactionTracker", "parsed", "([BLjava/util/List;)V"⟩ : MethodName)) (z := (⟨"com/example/onesnap/onesnap/node/TransactionTracker", "parsed", "([BLjava/util/List;)V"⟩ : MethodName)) hown (mvT hZ (hw _ (tm 107 rfl))) (mvT hZ (hw _ (tm 108 rfl))) (notFace_of_selects (args := #[]) (mvT hZ (hw _ (tm 110 rfl)))) (mvT hZ (hw _ (tm 110 rfl))) (mvT hZ (hw _ (tm 109 rfl))) (by decide) (backOf (W := 0) (rm16_s l Z a0 hw [] b90 b51 b21 (b128_m1) (k51) ((98 : Int32)) (iso) (utf) (cs) (b34_da) (b34_ka) (b3) (2) (b142_t) (b142_kt) (((List.replicate 16 Value.null).set 1 (.ref b142_n))) T142.heap n0 Zz179 Fd180 Pc142_0 Pc142_1 Pc142_2 Pc142_3 Pc142_4 Pc142_5 Pc142_6 Av181 Ex173 Od182 Sutf Siso Scs hcs hne Ssc Eiso (show Gd (98 : Int32) from ⟨by decide, by decide, by decide⟩) (show Ix (98 : Int32) 2 from ⟨⟨by decide, by decide⟩, by decide, by decide⟩) (by rfl) (by simp) Ex169 Fd183 Fd184 Av171 Ex170 g_b128_m1 ne_b90_b128_m1 (Ne.symm ne_b128_m1_b142_t) ne_b51_b128_m1 ne_b21_b128_m1 ne_b34_da_b128_m1 g_b142_t ne_b90_b142_t ne_b51_b142_t ne_b21_b142_t ne_b34_da_b142_t) hZ (hw _ (tm 111 rfl)) (hw _ (tm 73 rfl)) (by decide) (by decide)) q165a q165c (g := (mkF m 143 (l_48 p0 p1 p2 p3 p4 (stF p0) b2 b3 v5 (stF p4) b8 b21 b42 b51 b63 b76 b90) [(.ref b21), (.ref b51), (.ref b90)])) rfl (by rw [hml]; rfl) (Steps.refl _) (argsL := [(.ref b51), (.ref b21)]) (rest := []) (lenOf pd__28_5bBLjava_2futil_2fList_3b_29V rfl) rfl (by show 2 * 0 + _ ≤ _; exact Nat.le_of_eq rfl) (hb hby at_143) (fun _ _ => ⟨rfl, rfl, (by decide : 15 + 3 ≤ _), (by decide : 75 + 9 ≤ _)⟩)
  dsimp only [Pt.U, Pt.locs, Pt.cells, Pt.slots] at X165 l165 y165 z165 st165 hQ165
  subst l165 y165 z165
  obtain ⟨b165_n, b165_y, b165_v1, rfl, N165q, K165, Sz165_n, Sz165_y, Sz165_v1, Pc165_0, Pc165_1, Pc165_2, Pc165_3, Pc165_4, Pc165_5, Pc165_6, Pc165_7, Pc165_8, Pc165_9, Pc165_10, Pc165_11, Pc165_12, Pc165_13⟩ := hQ165
  have N165 := Fr.app N142 N165q
  have g_b165_n : n0 ≤ b165_n := Nat.le_trans Zz179 Sz165_n
  have ne_b128_m1_b165_n : b128_m1 ≠ b165_n := Nat.ne_of_lt (Nat.lt_of_lt_of_le Pc142_0.lt Sz165_n)
  have ne_b128_m2_b165_n : b128_m2 ≠ b165_n := Nat.ne_of_lt (Nat.lt_of_lt_of_le Ex166.lt Sz165_n)
  have ne_b142_n_b165_n : b142_n ≠ b165_n := Nat.ne_of_lt (Nat.lt_of_lt_of_le Pc142_7.lt Sz165_n)
  have ne_b142_t_b165_n : b142_t ≠ b165_n := Nat.ne_of_lt (Nat.lt_of_lt_of_le Pc142_5.lt Sz165_n)
  have ne_b142_v1_b165_n : b142_v1 ≠ b165_n := Nat.ne_of_lt (Nat.lt_of_lt_of_le Pc142_14.lt Sz165_n)
  have ne_b142_y_b165_n : b142_y ≠ b165_n := Nat.ne_of_lt (Nat.lt_of_lt_of_le Pc142_11.lt Sz165_n)
  have ne_b15_da_b165_n : b15_da ≠ b165_n := Nat.ne_of_lt (Nat.lt_of_lt_of_le Av167.lt Sz165_n)
  have ne_b2_b165_n : b2 ≠ b165_n := Nat.ne_of_lt (Nat.lt_of_lt_of_le Ex168.lt Sz165_n)
  have ne_b21_b165_n : b21 ≠ b165_n := Nat.ne_of_lt (Nat.lt_of_lt_of_le Ex169.lt Sz165_n)
  have ne_b3_b165_n : b3 ≠ b165_n := Nat.ne_of_lt (Nat.lt_of_lt_of_le Ex170.lt Sz165_n)
  have ne_b34_da_b165_n : b34_da ≠ b165_n := Nat.ne_of_lt (Nat.lt_of_lt_of_le Av171.lt Sz165_n)
  have ne_b42_b165_n : b42 ≠ b165_n := Nat.ne_of_lt (Nat.lt_of_lt_of_le Ex172.lt Sz165_n)
  have ne_b51_b165_n : b51 ≠ b165_n := Nat.ne_of_lt (Nat.lt_of_lt_of_le Ex173.lt Sz165_n)
  have ne_b63_b165_n : b63 ≠ b165_n := Nat.ne_of_lt (Nat.lt_of_lt_of_le Ex174.lt Sz165_n)
  have ne_b76_b165_n : b76 ≠ b165_n := Nat.ne_of_lt (Nat.lt_of_lt_of_le Ex175.lt Sz165_n)
  have ne_b8_b165_n : b8 ≠ b165_n := Nat.ne_of_lt (Nat.lt_of_lt_of_le Ex176.lt Sz165_n)
  have ne_b90_b165_n : b90 ≠ b165_n := Nat.ne_of_lt (Nat.lt_of_lt_of_le Ex177.lt Sz165_n)
  have ne_de_b165_n : de ≠ b165_n := Nat.ne_of_lt (Nat.lt_of_lt_of_le Av178.lt Sz165_n)
  have g_b165_y : n0 ≤ b165_y := Nat.le_trans Zz179 Sz165_y
  have ne_b128_m1_b165_y : b128_m1 ≠ b165_y := Nat.ne_of_lt (Nat.lt_of_lt_of_le Pc142_0.lt Sz165_y)
  have ne_b128_m2_b165_y : b128_m2 ≠ b165_y := Nat.ne_of_lt (Nat.lt_of_lt_of_le Ex166.lt Sz165_y)
  have ne_b142_n_b165_y : b142_n ≠ b165_y := Nat.ne_of_lt (Nat.lt_of_lt_of_le Pc142_7.lt Sz165_y)
  have ne_b142_t_b165_y : b142_t ≠ b165_y := Nat.ne_of_lt (Nat.lt_of_lt_of_le Pc142_5.lt Sz165_y)
  have ne_b142_v1_b165_y : b142_v1 ≠ b165_y := Nat.ne_of_lt (Nat.lt_of_lt_of_le Pc142_14.lt Sz165_y)
  have ne_b142_y_b165_y : b142_y ≠ b165_y := Nat.ne_of_lt (Nat.lt_of_lt_of_le Pc142_11.lt Sz165_y)
  have ne_b15_da_b165_y : b15_da ≠ b165_y := Nat.ne_of_lt (Nat.lt_of_lt_of_le Av167.lt Sz165_y)
  have ne_b2_b165_y : b2 ≠ b165_y := Nat.ne_of_lt (Nat.lt_of_lt_of_le Ex168.lt Sz165_y)
  have ne_b21_b165_y : b21 ≠ b165_y := Nat.ne_of_lt (Nat.lt_of_lt_of_le Ex169.lt Sz165_y)
  have ne_b3_b165_y : b3 ≠ b165_y := Nat.ne_of_lt (Nat.lt_of_lt_of_le Ex170.lt Sz165_y)
  have ne_b34_da_b165_y : b34_da ≠ b165_y := Nat.ne_of_lt (Nat.lt_of_lt_of_le Av171.lt Sz165_y)
  have ne_b42_b165_y : b42 ≠ b165_y := Nat.ne_of_lt (Nat.lt_of_lt_of_le Ex172.lt Sz165_y)
  have ne_b51_b165_y : b51 ≠ b165_y := Nat.ne_of_lt (Nat.lt_of_lt_of_le Ex173.lt Sz165_y)
  have ne_b63_b165_y : b63 ≠ b165_y := Nat.ne_of_lt (Nat.lt_of_lt_of_le Ex174.lt Sz165_y)
  have ne_b76_b165_y : b76 ≠ b165_y := Nat.ne_of_lt (Nat.lt_of_lt_of_le Ex175.lt Sz165_y)
  have ne_b8_b165_y : b8 ≠ b165_y := Nat.ne_of_lt (Nat.lt_of_lt_of_le Ex176.lt Sz165_y)
  have ne_b90_b165_y : b90 ≠ b165_y := Nat.ne_of_lt (Nat.lt_of_lt_of_le Ex177.lt Sz165_y)
  have ne_de_b165_y : de ≠ b165_y := Nat.ne_of_lt (Nat.lt_of_lt_of_le Av178.lt Sz165_y)
  have g_b165_v1 : n0 ≤ b165_v1 := Nat.le_trans Zz179 Sz165_v1
  have ne_b128_m1_b165_v1 : b128_m1 ≠ b165_v1 := Nat.ne_of_lt (Nat.lt_of_lt_of_le Pc142_0.lt Sz165_v1)
  have ne_b128_m2_b165_v1 : b128_m2 ≠ b165_v1 := Nat.ne_of_lt (Nat.lt_of_lt_of_le Ex166.lt Sz165_v1)
  have ne_b142_n_b165_v1 : b142_n ≠ b165_v1 := Nat.ne_of_lt (Nat.lt_of_lt_of_le Pc142_7.lt Sz165_v1)
  have ne_b142_t_b165_v1 : b142_t ≠ b165_v1 := Nat.ne_of_lt (Nat.lt_of_lt_of_le Pc142_5.lt Sz165_v1)
  have ne_b142_v1_b165_v1 : b142_v1 ≠ b165_v1 := Nat.ne_of_lt (Nat.lt_of_lt_of_le Pc142_14.lt Sz165_v1)
  have ne_b142_y_b165_v1 : b142_y ≠ b165_v1 := Nat.ne_of_lt (Nat.lt_of_lt_of_le Pc142_11.lt Sz165_v1)
  have ne_b15_da_b165_v1 : b15_da ≠ b165_v1 := Nat.ne_of_lt (Nat.lt_of_lt_of_le Av167.lt Sz165_v1)
  have ne_b2_b165_v1 : b2 ≠ b165_v1 := Nat.ne_of_lt (Nat.lt_of_lt_of_le Ex168.lt Sz165_v1)
  have ne_b21_b165_v1 : b21 ≠ b165_v1 := Nat.ne_of_lt (Nat.lt_of_lt_of_le Ex169.lt Sz165_v1)
  have ne_b3_b165_v1 : b3 ≠ b165_v1 := Nat.ne_of_lt (Nat.lt_of_lt_of_le Ex170.lt Sz165_v1)
  have ne_b34_da_b165_v1 : b34_da ≠ b165_v1 := Nat.ne_of_lt (Nat.lt_of_lt_of_le Av171.lt Sz165_v1)
  have ne_b42_b165_v1 : b42 ≠ b165_v1 := Nat.ne_of_lt (Nat.lt_of_lt_of_le Ex172.lt Sz165_v1)
  have ne_b51_b165_v1 : b51 ≠ b165_v1 := Nat.ne_of_lt (Nat.lt_of_lt_of_le Ex173.lt Sz165_v1)
  have ne_b63_b165_v1 : b63 ≠ b165_v1 := Nat.ne_of_lt (Nat.lt_of_lt_of_le Ex174.lt Sz165_v1)
  have ne_b76_b165_v1 : b76 ≠ b165_v1 := Nat.ne_of_lt (Nat.lt_of_lt_of_le Ex175.lt Sz165_v1)
  have ne_b8_b165_v1 : b8 ≠ b165_v1 := Nat.ne_of_lt (Nat.lt_of_lt_of_le Ex176.lt Sz165_v1)
  have ne_b90_b165_v1 : b90 ≠ b165_v1 := Nat.ne_of_lt (Nat.lt_of_lt_of_le Ex177.lt Sz165_v1)
  have ne_de_b165_v1 : de ≠ b165_v1 := Nat.ne_of_lt (Nat.lt_of_lt_of_le Av178.lt Sz165_v1)
  have Ex186 := (Ex166.keep K165)
  have Ex187 := (Pc142_7.keep K165)
  have Av188 := (Pc142_14.keep K165 (ninS (Ne.symm ne_b128_m1_b142_v1) (ninS (Ne.symm Pc142_17) nin0)))
  have Ex189 := (Pc142_11.keep K165)
  have Av190 := (Av167.keep K165 (ninS ne_b15_da_b128_m1 (ninS ne_b15_da_b142_t nin0)))
  have Ex191 := (Ex168.keep K165)
  have Ex192 := (Ex169.keep K165)
  have Ex193 := (Ex170.keep K165)
  have Av194 := (Av171.keep K165 (ninS ne_b34_da_b128_m1 (ninS ne_b34_da_b142_t nin0)))
  have Ex195 := (Ex172.keep K165)
  have Ex196 := (Ex173.keep K165)
  have Ex197 := (Ex174.keep K165)
  have Ex198 := (Ex175.keep K165)
  have Ex199 := (Ex176.keep K165)
  have Ex200 := (Ex177.keep K165)
  have Av201 := (Av178.keep K165 (ninS ne_de_b128_m1 (ninS ne_de_b142_t nin0)))
  have Zz202 := (Nat.le_trans Zz179 K165.1)
  have Fd203 := ((Pc129_3.keep K142 (ninS ne_b90_b128_m1 nin0)).keep K165 (ninS ne_b90_b128_m1 (ninS ne_b90_b142_t nin0)))
  have Fd204 := (Fd180.keep K165 (ninS ne_b90_b128_m1 (ninS ne_b90_b142_t nin0)))
  have Fd205 := (((Pc128_11.keep K129 (ninS (Ne.symm ne_b90_b128_m2) nin0)).keep K142 (ninS (Ne.symm Pc128_15) nin0)).keep K165 (ninS (Ne.symm Pc128_15) (ninS ne_b128_m2_b142_t nin0)))
  have Fd206 := (((Pc128_12.keep K129 (ninS (Ne.symm ne_b90_b128_m2) nin0)).keep K142 (ninS (Ne.symm Pc128_15) nin0)).keep K165 (ninS (Ne.symm Pc128_15) (ninS ne_b128_m2_b142_t nin0)))
  have Fd207 := (((Pc128_13.keep K129 (ninS (Ne.symm ne_b90_b128_m2) nin0)).keep K142 (ninS (Ne.symm Pc128_15) nin0)).keep K165 (ninS (Ne.symm Pc128_15) (ninS ne_b128_m2_b142_t nin0)))
  have Fd208 := (((Pc128_14.keep K129 (ninS (Ne.symm ne_b90_b128_m2) nin0)).keep K142 (ninS (Ne.symm Pc128_15) nin0)).keep K165 (ninS (Ne.symm Pc128_15) (ninS ne_b128_m2_b142_t nin0)))
  have Av209 := ((((Av124.keep K128 (ninS ne_b63_b90 nin0)).keep K129 (ninS ne_b63_b90 nin0)).keep K142 (ninS ne_b63_b128_m1 nin0)).keep K165 (ninS ne_b63_b128_m1 (ninS ne_b63_b142_t nin0)))
  have Od210 := (Od182.keep K165 (allS g_b128_m1 (allS g_b142_t all0)))
  have Av211 := ((Av161.keep K142 (ninS ne_b42_b128_m1 nin0)).keep K165 (ninS ne_b42_b128_m1 (ninS ne_b42_b142_t nin0)))
  have Fd212 := (Pc142_8.keep K165 (ninS (Ne.symm ne_b128_m1_b142_n) (ninS (Ne.symm Pc142_15) nin0)))
  have Fd213 := (Pc142_9.keep K165 (ninS (Ne.symm ne_b128_m1_b142_n) (ninS (Ne.symm Pc142_15) nin0)))
  have Fd214 := (Pc142_10.keep K165 (ninS (Ne.symm ne_b128_m1_b142_n) (ninS (Ne.symm Pc142_15) nin0)))
  have Fd215 := (Pc142_12.keep K165 (ninS (Ne.symm ne_b128_m1_b142_y) (ninS (Ne.symm Pc142_16) nin0)))
  have Fd216 := (Pc142_13.keep K165 (ninS (Ne.symm ne_b128_m1_b142_y) (ninS (Ne.symm Pc142_16) nin0)))
  obtain ⟨cq185, kq185, q185a, q185b, q185c⟩ := isOf hZ rfl Ex200
  obtain ⟨_, _, ⟨T185, L185, k185, n185⟩, -, X185, ⟨Lc185, hQ185, l185, y185, z185⟩, st185⟩ := X165.virtualBack hx (y := (⟨"com/example/onesnap/onesnap/node/TransactionTracker", "bound", "([B[B)V"⟩ : MethodName)) (z := (⟨"com/example/onesnap/onesnap/node/TransactionTracker", "bound", "([B[B)V"⟩ : MethodName)) hown (mvT hZ (hw _ (tm 266 rfl))) (mvT hZ (hw _ (tm 267 rfl))) (notFace_of_selects (args := #[]) (mvT hZ (hw _ (tm 269 rfl)))) (mvT hZ (hw _ (tm 269 rfl))) (mvT hZ (hw _ (tm 268 rfl))) (by decide) (backOf (W := 0) (rm38_f l Z a0 hw [] b90 b63 b42 (b128_m1) (b128_m2) (k63) ((112 : Int32)) (iso) (utf) (cs) (s5) (0) (b142_t) (b142_kt) ((((List.replicate 16 Value.null).set 1 (.ref b142_n)).set 2 (.ref b165_n))) (k42) ((97 : Int32)) (1) (b142_n) (b142_y) (b142_v1) (k42) (b2) T165.heap n0 Zz202 Ex200 Fd203 Fd204 Ex186 Fd205 Fd206 Fd207 Fd208 Av209 Ex197 Od210 Sutf Siso Scs hcs hne Ssc Eiso S5 (show Gd (112 : Int32) from ⟨by decide, by decide, by decide⟩) (show Ix (112 : Int32) 0 from ⟨⟨by decide, by decide⟩, by decide, by decide⟩) Pc165_0 Pc165_1 Pc165_5 Av211 Ex195 (show Gd (97 : Int32) from ⟨by decide, by decide, by decide⟩) (show Ix (97 : Int32) 1 from ⟨⟨by decide, by decide⟩, by decide, by decide⟩) (by rfl) Ex187 Fd212 Fd213 Fd214 Ex189 Fd215 Fd216 Av188 Ex191 g_b128_m2 ne_b90_b128_m2 ne_b63_b128_m2 Pc128_15 (Ne.symm ne_b128_m2_b142_t) ne_b42_b128_m2 (Ne.symm ne_b128_m2_b142_n) (Ne.symm ne_b128_m2_b142_y) (Ne.symm ne_b128_m2_b142_v1)) hZ (hw _ (tm 270 rfl)) (hw _ (tm 73 rfl)) (by decide) (by decide)) q185a q185c (g := (mkF m 152 (l_48 p0 p1 p2 p3 p4 (stF p0) b2 b3 v5 (stF p4) b8 b21 b42 b51 b63 b76 b90) [(.ref b42), (.ref b63), (.ref b90)])) rfl (by rw [hml]; rfl) (Steps.refl _) (argsL := [(.ref b63), (.ref b42)]) (rest := []) (lenOf pd__28_5bB_5bB_29V rfl) rfl (by show 2 * 0 + _ ≤ _; exact Nat.le_of_eq rfl) (hb hby at_152) (fun _ _ => ⟨rfl, rfl, (by decide : 18 + 6 ≤ _), (by decide : 84 + 30 ≤ _)⟩)
  dsimp only [Pt.U, Pt.locs, Pt.cells, Pt.slots] at X185 l185 y185 z185 st185 hQ185
  subst l185 y185 z185
  obtain ⟨b185_t, b185_kt, b185_n, b185_y, b185_v1, rfl, N185q, K185, Sz185_t, Sz185_n, Sz185_y, Sz185_v1, Pc185_0, Pc185_1, Pc185_2, Pc185_3, Pc185_4, Pc185_5, Pc185_6, Pc185_7, Pc185_8, Pc185_9, Pc185_10, Pc185_11, Pc185_12, Pc185_13, Pc185_14, Pc185_15, Pc185_16, Pc185_17⟩ := hQ185
  have N185 := Fr.app N165 N185q
  have g_b185_t : n0 ≤ b185_t := Nat.le_trans Zz202 Sz185_t
  have ne_b128_m1_b185_t : b128_m1 ≠ b185_t := Nat.ne_of_lt (Nat.lt_of_lt_of_le Pc165_0.lt Sz185_t)
  have ne_b128_m2_b185_t : b128_m2 ≠ b185_t := Nat.ne_of_lt (Nat.lt_of_lt_of_le Ex186.lt Sz185_t)
  have ne_b142_n_b185_t : b142_n ≠ b185_t := Nat.ne_of_lt (Nat.lt_of_lt_of_le Ex187.lt Sz185_t)
  have ne_b142_t_b185_t : b142_t ≠ b185_t := Nat.ne_of_lt (Nat.lt_of_lt_of_le Pc165_5.lt Sz185_t)
  have ne_b142_v1_b185_t : b142_v1 ≠ b185_t := Nat.ne_of_lt (Nat.lt_of_lt_of_le Av188.lt Sz185_t)
  have ne_b142_y_b185_t : b142_y ≠ b185_t := Nat.ne_of_lt (Nat.lt_of_lt_of_le Ex189.lt Sz185_t)
  have ne_b15_da_b185_t : b15_da ≠ b185_t := Nat.ne_of_lt (Nat.lt_of_lt_of_le Av190.lt Sz185_t)
  have ne_b165_n_b185_t : b165_n ≠ b185_t := Nat.ne_of_lt (Nat.lt_of_lt_of_le Pc165_6.lt Sz185_t)
  have ne_b165_v1_b185_t : b165_v1 ≠ b185_t := Nat.ne_of_lt (Nat.lt_of_lt_of_le Pc165_13.lt Sz185_t)
  have ne_b165_y_b185_t : b165_y ≠ b185_t := Nat.ne_of_lt (Nat.lt_of_lt_of_le Pc165_10.lt Sz185_t)
  have ne_b2_b185_t : b2 ≠ b185_t := Nat.ne_of_lt (Nat.lt_of_lt_of_le Ex191.lt Sz185_t)
  have ne_b21_b185_t : b21 ≠ b185_t := Nat.ne_of_lt (Nat.lt_of_lt_of_le Ex192.lt Sz185_t)
  have ne_b3_b185_t : b3 ≠ b185_t := Nat.ne_of_lt (Nat.lt_of_lt_of_le Ex193.lt Sz185_t)
  have ne_b34_da_b185_t : b34_da ≠ b185_t := Nat.ne_of_lt (Nat.lt_of_lt_of_le Av194.lt Sz185_t)
  have ne_b42_b185_t : b42 ≠ b185_t := Nat.ne_of_lt (Nat.lt_of_lt_of_le Ex195.lt Sz185_t)
  have ne_b51_b185_t : b51 ≠ b185_t := Nat.ne_of_lt (Nat.lt_of_lt_of_le Ex196.lt Sz185_t)
  have ne_b63_b185_t : b63 ≠ b185_t := Nat.ne_of_lt (Nat.lt_of_lt_of_le Ex197.lt Sz185_t)
  have ne_b76_b185_t : b76 ≠ b185_t := Nat.ne_of_lt (Nat.lt_of_lt_of_le Ex198.lt Sz185_t)
  have ne_b8_b185_t : b8 ≠ b185_t := Nat.ne_of_lt (Nat.lt_of_lt_of_le Ex199.lt Sz185_t)
  have ne_b90_b185_t : b90 ≠ b185_t := Nat.ne_of_lt (Nat.lt_of_lt_of_le Ex200.lt Sz185_t)
  have ne_de_b185_t : de ≠ b185_t := Nat.ne_of_lt (Nat.lt_of_lt_of_le Av201.lt Sz185_t)
  have g_b185_n : n0 ≤ b185_n := Nat.le_trans Zz202 Sz185_n
  have ne_b128_m1_b185_n : b128_m1 ≠ b185_n := Nat.ne_of_lt (Nat.lt_of_lt_of_le Pc165_0.lt Sz185_n)
  have ne_b128_m2_b185_n : b128_m2 ≠ b185_n := Nat.ne_of_lt (Nat.lt_of_lt_of_le Ex186.lt Sz185_n)
  have ne_b142_n_b185_n : b142_n ≠ b185_n := Nat.ne_of_lt (Nat.lt_of_lt_of_le Ex187.lt Sz185_n)
  have ne_b142_t_b185_n : b142_t ≠ b185_n := Nat.ne_of_lt (Nat.lt_of_lt_of_le Pc165_5.lt Sz185_n)
  have ne_b142_v1_b185_n : b142_v1 ≠ b185_n := Nat.ne_of_lt (Nat.lt_of_lt_of_le Av188.lt Sz185_n)
  have ne_b142_y_b185_n : b142_y ≠ b185_n := Nat.ne_of_lt (Nat.lt_of_lt_of_le Ex189.lt Sz185_n)
  have ne_b15_da_b185_n : b15_da ≠ b185_n := Nat.ne_of_lt (Nat.lt_of_lt_of_le Av190.lt Sz185_n)
  have ne_b165_n_b185_n : b165_n ≠ b185_n := Nat.ne_of_lt (Nat.lt_of_lt_of_le Pc165_6.lt Sz185_n)
  have ne_b165_v1_b185_n : b165_v1 ≠ b185_n := Nat.ne_of_lt (Nat.lt_of_lt_of_le Pc165_13.lt Sz185_n)
  have ne_b165_y_b185_n : b165_y ≠ b185_n := Nat.ne_of_lt (Nat.lt_of_lt_of_le Pc165_10.lt Sz185_n)
  have ne_b2_b185_n : b2 ≠ b185_n := Nat.ne_of_lt (Nat.lt_of_lt_of_le Ex191.lt Sz185_n)
  have ne_b21_b185_n : b21 ≠ b185_n := Nat.ne_of_lt (Nat.lt_of_lt_of_le Ex192.lt Sz185_n)
  have ne_b3_b185_n : b3 ≠ b185_n := Nat.ne_of_lt (Nat.lt_of_lt_of_le Ex193.lt Sz185_n)
  have ne_b34_da_b185_n : b34_da ≠ b185_n := Nat.ne_of_lt (Nat.lt_of_lt_of_le Av194.lt Sz185_n)
  have ne_b42_b185_n : b42 ≠ b185_n := Nat.ne_of_lt (Nat.lt_of_lt_of_le Ex195.lt Sz185_n)
  have ne_b51_b185_n : b51 ≠ b185_n := Nat.ne_of_lt (Nat.lt_of_lt_of_le Ex196.lt Sz185_n)
  have ne_b63_b185_n : b63 ≠ b185_n := Nat.ne_of_lt (Nat.lt_of_lt_of_le Ex197.lt Sz185_n)
  have ne_b76_b185_n : b76 ≠ b185_n := Nat.ne_of_lt (Nat.lt_of_lt_of_le Ex198.lt Sz185_n)
  have ne_b8_b185_n : b8 ≠ b185_n := Nat.ne_of_lt (Nat.lt_of_lt_of_le Ex199.lt Sz185_n)
  have ne_b90_b185_n : b90 ≠ b185_n := Nat.ne_of_lt (Nat.lt_of_lt_of_le Ex200.lt Sz185_n)
  have ne_de_b185_n : de ≠ b185_n := Nat.ne_of_lt (Nat.lt_of_lt_of_le Av201.lt Sz185_n)
  have g_b185_y : n0 ≤ b185_y := Nat.le_trans Zz202 Sz185_y
  have ne_b128_m1_b185_y : b128_m1 ≠ b185_y := Nat.ne_of_lt (Nat.lt_of_lt_of_le Pc165_0.lt Sz185_y)
  have ne_b128_m2_b185_y : b128_m2 ≠ b185_y := Nat.ne_of_lt (Nat.lt_of_lt_of_le Ex186.lt Sz185_y)
  have ne_b142_n_b185_y : b142_n ≠ b185_y := Nat.ne_of_lt (Nat.lt_of_lt_of_le Ex187.lt Sz185_y)
  have ne_b142_t_b185_y : b142_t ≠ b185_y := Nat.ne_of_lt (Nat.lt_of_lt_of_le Pc165_5.lt Sz185_y)
  have ne_b142_v1_b185_y : b142_v1 ≠ b185_y := Nat.ne_of_lt (Nat.lt_of_lt_of_le Av188.lt Sz185_y)
  have ne_b142_y_b185_y : b142_y ≠ b185_y := Nat.ne_of_lt (Nat.lt_of_lt_of_le Ex189.lt Sz185_y)
  have ne_b15_da_b185_y : b15_da ≠ b185_y := Nat.ne_of_lt (Nat.lt_of_lt_of_le Av190.lt Sz185_y)
  have ne_b165_n_b185_y : b165_n ≠ b185_y := Nat.ne_of_lt (Nat.lt_of_lt_of_le Pc165_6.lt Sz185_y)
  have ne_b165_v1_b185_y : b165_v1 ≠ b185_y := Nat.ne_of_lt (Nat.lt_of_lt_of_le Pc165_13.lt Sz185_y)
  have ne_b165_y_b185_y : b165_y ≠ b185_y := Nat.ne_of_lt (Nat.lt_of_lt_of_le Pc165_10.lt Sz185_y)
  have ne_b2_b185_y : b2 ≠ b185_y := Nat.ne_of_lt (Nat.lt_of_lt_of_le Ex191.lt Sz185_y)
  have ne_b21_b185_y : b21 ≠ b185_y := Nat.ne_of_lt (Nat.lt_of_lt_of_le Ex192.lt Sz185_y)
  have ne_b3_b185_y : b3 ≠ b185_y := Nat.ne_of_lt (Nat.lt_of_lt_of_le Ex193.lt Sz185_y)
  have ne_b34_da_b185_y : b34_da ≠ b185_y := Nat.ne_of_lt (Nat.lt_of_lt_of_le Av194.lt Sz185_y)
  have ne_b42_b185_y : b42 ≠ b185_y := Nat.ne_of_lt (Nat.lt_of_lt_of_le Ex195.lt Sz185_y)
  have ne_b51_b185_y : b51 ≠ b185_y := Nat.ne_of_lt (Nat.lt_of_lt_of_le Ex196.lt Sz185_y)
  have ne_b63_b185_y : b63 ≠ b185_y := Nat.ne_of_lt (Nat.lt_of_lt_of_le Ex197.lt Sz185_y)
  have ne_b76_b185_y : b76 ≠ b185_y := Nat.ne_of_lt (Nat.lt_of_lt_of_le Ex198.lt Sz185_y)
  have ne_b8_b185_y : b8 ≠ b185_y := Nat.ne_of_lt (Nat.lt_of_lt_of_le Ex199.lt Sz185_y)
  have ne_b90_b185_y : b90 ≠ b185_y := Nat.ne_of_lt (Nat.lt_of_lt_of_le Ex200.lt Sz185_y)
  have ne_de_b185_y : de ≠ b185_y := Nat.ne_of_lt (Nat.lt_of_lt_of_le Av201.lt Sz185_y)
  have g_b185_v1 : n0 ≤ b185_v1 := Nat.le_trans Zz202 Sz185_v1
  have ne_b128_m1_b185_v1 : b128_m1 ≠ b185_v1 := Nat.ne_of_lt (Nat.lt_of_lt_of_le Pc165_0.lt Sz185_v1)
  have ne_b128_m2_b185_v1 : b128_m2 ≠ b185_v1 := Nat.ne_of_lt (Nat.lt_of_lt_of_le Ex186.lt Sz185_v1)
  have ne_b142_n_b185_v1 : b142_n ≠ b185_v1 := Nat.ne_of_lt (Nat.lt_of_lt_of_le Ex187.lt Sz185_v1)
  have ne_b142_t_b185_v1 : b142_t ≠ b185_v1 := Nat.ne_of_lt (Nat.lt_of_lt_of_le Pc165_5.lt Sz185_v1)
  have ne_b142_v1_b185_v1 : b142_v1 ≠ b185_v1 := Nat.ne_of_lt (Nat.lt_of_lt_of_le Av188.lt Sz185_v1)
  have ne_b142_y_b185_v1 : b142_y ≠ b185_v1 := Nat.ne_of_lt (Nat.lt_of_lt_of_le Ex189.lt Sz185_v1)
  have ne_b15_da_b185_v1 : b15_da ≠ b185_v1 := Nat.ne_of_lt (Nat.lt_of_lt_of_le Av190.lt Sz185_v1)
  have ne_b165_n_b185_v1 : b165_n ≠ b185_v1 := Nat.ne_of_lt (Nat.lt_of_lt_of_le Pc165_6.lt Sz185_v1)
  have ne_b165_v1_b185_v1 : b165_v1 ≠ b185_v1 := Nat.ne_of_lt (Nat.lt_of_lt_of_le Pc165_13.lt Sz185_v1)
  have ne_b165_y_b185_v1 : b165_y ≠ b185_v1 := Nat.ne_of_lt (Nat.lt_of_lt_of_le Pc165_10.lt Sz185_v1)
  have ne_b2_b185_v1 : b2 ≠ b185_v1 := Nat.ne_of_lt (Nat.lt_of_lt_of_le Ex191.lt Sz185_v1)
  have ne_b21_b185_v1 : b21 ≠ b185_v1 := Nat.ne_of_lt (Nat.lt_of_lt_of_le Ex192.lt Sz185_v1)
  have ne_b3_b185_v1 : b3 ≠ b185_v1 := Nat.ne_of_lt (Nat.lt_of_lt_of_le Ex193.lt Sz185_v1)
  have ne_b34_da_b185_v1 : b34_da ≠ b185_v1 := Nat.ne_of_lt (Nat.lt_of_lt_of_le Av194.lt Sz185_v1)
  have ne_b42_b185_v1 : b42 ≠ b185_v1 := Nat.ne_of_lt (Nat.lt_of_lt_of_le Ex195.lt Sz185_v1)
  have ne_b51_b185_v1 : b51 ≠ b185_v1 := Nat.ne_of_lt (Nat.lt_of_lt_of_le Ex196.lt Sz185_v1)
  have ne_b63_b185_v1 : b63 ≠ b185_v1 := Nat.ne_of_lt (Nat.lt_of_lt_of_le Ex197.lt Sz185_v1)
  have ne_b76_b185_v1 : b76 ≠ b185_v1 := Nat.ne_of_lt (Nat.lt_of_lt_of_le Ex198.lt Sz185_v1)
  have ne_b8_b185_v1 : b8 ≠ b185_v1 := Nat.ne_of_lt (Nat.lt_of_lt_of_le Ex199.lt Sz185_v1)
  have ne_b90_b185_v1 : b90 ≠ b185_v1 := Nat.ne_of_lt (Nat.lt_of_lt_of_le Ex200.lt Sz185_v1)
  have ne_de_b185_v1 : de ≠ b185_v1 := Nat.ne_of_lt (Nat.lt_of_lt_of_le Av201.lt Sz185_v1)
  have Ex218 := (Pc165_0.keep K185)
  have Ex219 := (Ex187.keep K185)
  have Av220 := (Pc165_5.keep K185 (ninS (Ne.symm ne_b128_m2_b142_t) nin0))
  have Av221 := (Av188.keep K185 (ninS (Ne.symm ne_b128_m2_b142_v1) nin0))
  have Ex222 := (Ex189.keep K185)
  have Av223 := (Av190.keep K185 (ninS ne_b15_da_b128_m2 nin0))
  have Ex224 := (Pc165_6.keep K185)
  have Av225 := (Pc165_13.keep K185 (ninS (Ne.symm ne_b128_m2_b165_v1) nin0))
  have Ex226 := (Pc165_10.keep K185)
  have Ex227 := (Ex191.keep K185)
  have Ex228 := (Ex192.keep K185)
  have Ex229 := (Ex193.keep K185)
  have Av230 := (Av194.keep K185 (ninS ne_b34_da_b128_m2 nin0))
  have Ex231 := (Ex195.keep K185)
  have Ex232 := (Ex196.keep K185)
  have Ex233 := (Ex197.keep K185)
  have Ex234 := (Ex198.keep K185)
  have Ex235 := (Ex199.keep K185)
  have Ex236 := (Ex200.keep K185)
  have Av237 := (Av201.keep K185 (ninS ne_de_b128_m2 nin0))
  have Zz238 := (Nat.le_trans Zz202 K185.1)
  have Fd239 := (Fd203.keep K185 (ninS ne_b90_b128_m2 nin0))
  have Fd240 := (Fd204.keep K185 (ninS ne_b90_b128_m2 nin0))
  have Av241 := (((((Av126.keep K128 (ninS ne_b76_b90 nin0)).keep K129 (ninS ne_b76_b90 nin0)).keep K142 (ninS ne_b76_b128_m1 nin0)).keep K165 (ninS ne_b76_b128_m1 (ninS ne_b76_b142_t nin0))).keep K185 (ninS ne_b76_b128_m2 nin0))
  have Od242 := (Od210.keep K185 (allS g_b128_m2 all0))
  have Fd243 := (Pc165_1.keep K185 (ninS Pc128_15 nin0))
  have Av244 := ((Av181.keep K165 (ninS ne_b51_b128_m1 (ninS ne_b51_b142_t nin0))).keep K185 (ninS ne_b51_b128_m2 nin0))
  have Fd245 := (Pc165_7.keep K185 (ninS (Ne.symm ne_b128_m2_b165_n) nin0))
  have Fd246 := (Pc165_8.keep K185 (ninS (Ne.symm ne_b128_m2_b165_n) nin0))
  have Fd247 := (Pc165_9.keep K185 (ninS (Ne.symm ne_b128_m2_b165_n) nin0))
  have Fd248 := (Pc165_11.keep K185 (ninS (Ne.symm ne_b128_m2_b165_y) nin0))
  have Fd249 := (Pc165_12.keep K185 (ninS (Ne.symm ne_b128_m2_b165_y) nin0))
  obtain ⟨cq217, kq217, q217a, q217b, q217c⟩ := isOf hZ rfl Ex236
  obtain ⟨_, _, ⟨T217, L217, k217, n217⟩, -, X217, ⟨Lc217, hQ217, l217, y217, z217⟩, st217⟩ := X185.virtualBack hx (y := (⟨"com/example/onesnap/onesnap/node/TransactionTracker", "bound", "([B[B)V"⟩ : MethodName)) (z := (⟨"com/example/onesnap/onesnap/node/TransactionTracker", "bound", "([B[B)V"⟩ : MethodName)) hown (mvT hZ (hw _ (tm 266 rfl))) (mvT hZ (hw _ (tm 267 rfl))) (notFace_of_selects (args := #[]) (mvT hZ (hw _ (tm 269 rfl)))) (mvT hZ (hw _ (tm 269 rfl))) (mvT hZ (hw _ (tm 268 rfl))) (by decide) (backOf (W := 0) (rm38_s l Z a0 hw [] b90 b76 b51 (b128_m1) (b128_m2) (k76) ((113 : Int32)) (iso) (utf) (cs) (s5) (1) (b142_t) (b142_kt) ((((List.replicate 16 Value.null).set 1 (.ref b142_n)).set 2 (.ref b165_n))) (k51) ((98 : Int32)) (2) (b165_n) (b165_y) (b165_v1) (k51) (b3) (b185_t) (b185_kt) (((List.replicate 16 Value.null).set 0 (.ref b185_n))) T185.heap n0 Zz238 Ex236 Fd239 Fd240 Pc185_0 Pc185_1 Pc185_2 Pc185_3 Pc185_4 Pc185_5 Pc185_6 Av241 Ex234 Od242 Sutf Siso Scs hcs hne Ssc Eiso S5 (show Gd (113 : Int32) from ⟨by decide, by decide, by decide⟩) (show Ix (113 : Int32) 1 from ⟨⟨by decide, by decide⟩, by decide, by decide⟩) (by rfl) (by simp) Ex218 Fd243 Av220 Av244 Ex232 (show Gd (98 : Int32) from ⟨by decide, by decide, by decide⟩) (show Ix (98 : Int32) 2 from ⟨⟨by decide, by decide⟩, by decide, by decide⟩) (by rfl) Ex224 Fd245 Fd246 Fd247 Ex226 Fd248 Fd249 Av225 Ex229 g_b128_m2 ne_b90_b128_m2 (Ne.symm ne_b128_m2_b185_t) ne_b76_b128_m2 Pc128_15 (Ne.symm ne_b128_m2_b142_t) ne_b51_b128_m2 (Ne.symm ne_b128_m2_b165_n) (Ne.symm ne_b128_m2_b165_y) (Ne.symm ne_b128_m2_b165_v1) g_b185_t ne_b90_b185_t ne_b76_b185_t ne_b128_m1_b185_t ne_b142_t_b185_t ne_b51_b185_t ne_b165_n_b185_t ne_b165_y_b185_t ne_b165_v1_b185_t) hZ (hw _ (tm 270 rfl)) (hw _ (tm 73 rfl)) (by decide) (by decide)) q217a q217c (g := (mkF m 161 (l_48 p0 p1 p2 p3 p4 (stF p0) b2 b3 v5 (stF p4) b8 b21 b42 b51 b63 b76 b90) [(.ref b51), (.ref b76), (.ref b90)])) rfl (by rw [hml]; rfl) (Steps.refl _) (argsL := [(.ref b76), (.ref b51)]) (rest := []) (lenOf pd__28_5bB_5bB_29V rfl) rfl (by show 2 * 0 + _ ≤ _; exact Nat.le_of_eq rfl) (hb hby at_161) (fun _ _ => ⟨rfl, rfl, (by decide : 24 + 5 ≤ _), (by decide : 114 + 14 ≤ _)⟩)
  dsimp only [Pt.U, Pt.locs, Pt.cells, Pt.slots] at X217 l217 y217 z217 st217 hQ217
  subst l217 y217 z217
  obtain ⟨b217_n, b217_y, b217_v1, rfl, N217q, K217, Sz217_n, Sz217_y, Sz217_v1, Pc217_0, Pc217_1, Pc217_2, Pc217_3, Pc217_4, Pc217_5, Pc217_6, Pc217_7, Pc217_8, Pc217_9, Pc217_10, Pc217_11, Pc217_12, Pc217_13⟩ := hQ217
  have N217 := Fr.app N185 N217q
  have g_b217_n : n0 ≤ b217_n := Nat.le_trans Zz238 Sz217_n
  have ne_b128_m1_b217_n : b128_m1 ≠ b217_n := Nat.ne_of_lt (Nat.lt_of_lt_of_le Ex218.lt Sz217_n)
  have ne_b128_m2_b217_n : b128_m2 ≠ b217_n := Nat.ne_of_lt (Nat.lt_of_lt_of_le Pc185_0.lt Sz217_n)
  have ne_b142_n_b217_n : b142_n ≠ b217_n := Nat.ne_of_lt (Nat.lt_of_lt_of_le Ex219.lt Sz217_n)
  have ne_b142_t_b217_n : b142_t ≠ b217_n := Nat.ne_of_lt (Nat.lt_of_lt_of_le Av220.lt Sz217_n)
  have ne_b142_v1_b217_n : b142_v1 ≠ b217_n := Nat.ne_of_lt (Nat.lt_of_lt_of_le Av221.lt Sz217_n)
  have ne_b142_y_b217_n : b142_y ≠ b217_n := Nat.ne_of_lt (Nat.lt_of_lt_of_le Ex222.lt Sz217_n)
  have ne_b15_da_b217_n : b15_da ≠ b217_n := Nat.ne_of_lt (Nat.lt_of_lt_of_le Av223.lt Sz217_n)
  have ne_b165_n_b217_n : b165_n ≠ b217_n := Nat.ne_of_lt (Nat.lt_of_lt_of_le Ex224.lt Sz217_n)
  have ne_b165_v1_b217_n : b165_v1 ≠ b217_n := Nat.ne_of_lt (Nat.lt_of_lt_of_le Av225.lt Sz217_n)
  have ne_b165_y_b217_n : b165_y ≠ b217_n := Nat.ne_of_lt (Nat.lt_of_lt_of_le Ex226.lt Sz217_n)
  have ne_b185_n_b217_n : b185_n ≠ b217_n := Nat.ne_of_lt (Nat.lt_of_lt_of_le Pc185_7.lt Sz217_n)
  have ne_b185_t_b217_n : b185_t ≠ b217_n := Nat.ne_of_lt (Nat.lt_of_lt_of_le Pc185_5.lt Sz217_n)
  have ne_b185_v1_b217_n : b185_v1 ≠ b217_n := Nat.ne_of_lt (Nat.lt_of_lt_of_le Pc185_14.lt Sz217_n)
  have ne_b185_y_b217_n : b185_y ≠ b217_n := Nat.ne_of_lt (Nat.lt_of_lt_of_le Pc185_11.lt Sz217_n)
  have ne_b2_b217_n : b2 ≠ b217_n := Nat.ne_of_lt (Nat.lt_of_lt_of_le Ex227.lt Sz217_n)
  have ne_b21_b217_n : b21 ≠ b217_n := Nat.ne_of_lt (Nat.lt_of_lt_of_le Ex228.lt Sz217_n)
  have ne_b3_b217_n : b3 ≠ b217_n := Nat.ne_of_lt (Nat.lt_of_lt_of_le Ex229.lt Sz217_n)
  have ne_b34_da_b217_n : b34_da ≠ b217_n := Nat.ne_of_lt (Nat.lt_of_lt_of_le Av230.lt Sz217_n)
  have ne_b42_b217_n : b42 ≠ b217_n := Nat.ne_of_lt (Nat.lt_of_lt_of_le Ex231.lt Sz217_n)
  have ne_b51_b217_n : b51 ≠ b217_n := Nat.ne_of_lt (Nat.lt_of_lt_of_le Ex232.lt Sz217_n)
  have ne_b63_b217_n : b63 ≠ b217_n := Nat.ne_of_lt (Nat.lt_of_lt_of_le Ex233.lt Sz217_n)
  have ne_b76_b217_n : b76 ≠ b217_n := Nat.ne_of_lt (Nat.lt_of_lt_of_le Ex234.lt Sz217_n)
  have ne_b8_b217_n : b8 ≠ b217_n := Nat.ne_of_lt (Nat.lt_of_lt_of_le Ex235.lt Sz217_n)
  have ne_b90_b217_n : b90 ≠ b217_n := Nat.ne_of_lt (Nat.lt_of_lt_of_le Ex236.lt Sz217_n)
  have ne_de_b217_n : de ≠ b217_n := Nat.ne_of_lt (Nat.lt_of_lt_of_le Av237.lt Sz217_n)
  have g_b217_y : n0 ≤ b217_y := Nat.le_trans Zz238 Sz217_y
  have ne_b128_m1_b217_y : b128_m1 ≠ b217_y := Nat.ne_of_lt (Nat.lt_of_lt_of_le Ex218.lt Sz217_y)
  have ne_b128_m2_b217_y : b128_m2 ≠ b217_y := Nat.ne_of_lt (Nat.lt_of_lt_of_le Pc185_0.lt Sz217_y)
  have ne_b142_n_b217_y : b142_n ≠ b217_y := Nat.ne_of_lt (Nat.lt_of_lt_of_le Ex219.lt Sz217_y)
  have ne_b142_t_b217_y : b142_t ≠ b217_y := Nat.ne_of_lt (Nat.lt_of_lt_of_le Av220.lt Sz217_y)
  have ne_b142_v1_b217_y : b142_v1 ≠ b217_y := Nat.ne_of_lt (Nat.lt_of_lt_of_le Av221.lt Sz217_y)
  have ne_b142_y_b217_y : b142_y ≠ b217_y := Nat.ne_of_lt (Nat.lt_of_lt_of_le Ex222.lt Sz217_y)
  have ne_b15_da_b217_y : b15_da ≠ b217_y := Nat.ne_of_lt (Nat.lt_of_lt_of_le Av223.lt Sz217_y)
  have ne_b165_n_b217_y : b165_n ≠ b217_y := Nat.ne_of_lt (Nat.lt_of_lt_of_le Ex224.lt Sz217_y)
  have ne_b165_v1_b217_y : b165_v1 ≠ b217_y := Nat.ne_of_lt (Nat.lt_of_lt_of_le Av225.lt Sz217_y)
  have ne_b165_y_b217_y : b165_y ≠ b217_y := Nat.ne_of_lt (Nat.lt_of_lt_of_le Ex226.lt Sz217_y)
  have ne_b185_n_b217_y : b185_n ≠ b217_y := Nat.ne_of_lt (Nat.lt_of_lt_of_le Pc185_7.lt Sz217_y)
  have ne_b185_t_b217_y : b185_t ≠ b217_y := Nat.ne_of_lt (Nat.lt_of_lt_of_le Pc185_5.lt Sz217_y)
  have ne_b185_v1_b217_y : b185_v1 ≠ b217_y := Nat.ne_of_lt (Nat.lt_of_lt_of_le Pc185_14.lt Sz217_y)
  have ne_b185_y_b217_y : b185_y ≠ b217_y := Nat.ne_of_lt (Nat.lt_of_lt_of_le Pc185_11.lt Sz217_y)
  have ne_b2_b217_y : b2 ≠ b217_y := Nat.ne_of_lt (Nat.lt_of_lt_of_le Ex227.lt Sz217_y)
  have ne_b21_b217_y : b21 ≠ b217_y := Nat.ne_of_lt (Nat.lt_of_lt_of_le Ex228.lt Sz217_y)
  have ne_b3_b217_y : b3 ≠ b217_y := Nat.ne_of_lt (Nat.lt_of_lt_of_le Ex229.lt Sz217_y)
  have ne_b34_da_b217_y : b34_da ≠ b217_y := Nat.ne_of_lt (Nat.lt_of_lt_of_le Av230.lt Sz217_y)
  have ne_b42_b217_y : b42 ≠ b217_y := Nat.ne_of_lt (Nat.lt_of_lt_of_le Ex231.lt Sz217_y)
  have ne_b51_b217_y : b51 ≠ b217_y := Nat.ne_of_lt (Nat.lt_of_lt_of_le Ex232.lt Sz217_y)
  have ne_b63_b217_y : b63 ≠ b217_y := Nat.ne_of_lt (Nat.lt_of_lt_of_le Ex233.lt Sz217_y)
  have ne_b76_b217_y : b76 ≠ b217_y := Nat.ne_of_lt (Nat.lt_of_lt_of_le Ex234.lt Sz217_y)
  have ne_b8_b217_y : b8 ≠ b217_y := Nat.ne_of_lt (Nat.lt_of_lt_of_le Ex235.lt Sz217_y)
  have ne_b90_b217_y : b90 ≠ b217_y := Nat.ne_of_lt (Nat.lt_of_lt_of_le Ex236.lt Sz217_y)
  have ne_de_b217_y : de ≠ b217_y := Nat.ne_of_lt (Nat.lt_of_lt_of_le Av237.lt Sz217_y)
  have g_b217_v1 : n0 ≤ b217_v1 := Nat.le_trans Zz238 Sz217_v1
  have ne_b128_m1_b217_v1 : b128_m1 ≠ b217_v1 := Nat.ne_of_lt (Nat.lt_of_lt_of_le Ex218.lt Sz217_v1)
  have ne_b128_m2_b217_v1 : b128_m2 ≠ b217_v1 := Nat.ne_of_lt (Nat.lt_of_lt_of_le Pc185_0.lt Sz217_v1)
  have ne_b142_n_b217_v1 : b142_n ≠ b217_v1 := Nat.ne_of_lt (Nat.lt_of_lt_of_le Ex219.lt Sz217_v1)
  have ne_b142_t_b217_v1 : b142_t ≠ b217_v1 := Nat.ne_of_lt (Nat.lt_of_lt_of_le Av220.lt Sz217_v1)
  have ne_b142_v1_b217_v1 : b142_v1 ≠ b217_v1 := Nat.ne_of_lt (Nat.lt_of_lt_of_le Av221.lt Sz217_v1)
  have ne_b142_y_b217_v1 : b142_y ≠ b217_v1 := Nat.ne_of_lt (Nat.lt_of_lt_of_le Ex222.lt Sz217_v1)
  have ne_b15_da_b217_v1 : b15_da ≠ b217_v1 := Nat.ne_of_lt (Nat.lt_of_lt_of_le Av223.lt Sz217_v1)
  have ne_b165_n_b217_v1 : b165_n ≠ b217_v1 := Nat.ne_of_lt (Nat.lt_of_lt_of_le Ex224.lt Sz217_v1)
  have ne_b165_v1_b217_v1 : b165_v1 ≠ b217_v1 := Nat.ne_of_lt (Nat.lt_of_lt_of_le Av225.lt Sz217_v1)
  have ne_b165_y_b217_v1 : b165_y ≠ b217_v1 := Nat.ne_of_lt (Nat.lt_of_lt_of_le Ex226.lt Sz217_v1)
  have ne_b185_n_b217_v1 : b185_n ≠ b217_v1 := Nat.ne_of_lt (Nat.lt_of_lt_of_le Pc185_7.lt Sz217_v1)
  have ne_b185_t_b217_v1 : b185_t ≠ b217_v1 := Nat.ne_of_lt (Nat.lt_of_lt_of_le Pc185_5.lt Sz217_v1)
  have ne_b185_v1_b217_v1 : b185_v1 ≠ b217_v1 := Nat.ne_of_lt (Nat.lt_of_lt_of_le Pc185_14.lt Sz217_v1)
  have ne_b185_y_b217_v1 : b185_y ≠ b217_v1 := Nat.ne_of_lt (Nat.lt_of_lt_of_le Pc185_11.lt Sz217_v1)
  have ne_b2_b217_v1 : b2 ≠ b217_v1 := Nat.ne_of_lt (Nat.lt_of_lt_of_le Ex227.lt Sz217_v1)
  have ne_b21_b217_v1 : b21 ≠ b217_v1 := Nat.ne_of_lt (Nat.lt_of_lt_of_le Ex228.lt Sz217_v1)
  have ne_b3_b217_v1 : b3 ≠ b217_v1 := Nat.ne_of_lt (Nat.lt_of_lt_of_le Ex229.lt Sz217_v1)
  have ne_b34_da_b217_v1 : b34_da ≠ b217_v1 := Nat.ne_of_lt (Nat.lt_of_lt_of_le Av230.lt Sz217_v1)
  have ne_b42_b217_v1 : b42 ≠ b217_v1 := Nat.ne_of_lt (Nat.lt_of_lt_of_le Ex231.lt Sz217_v1)
  have ne_b51_b217_v1 : b51 ≠ b217_v1 := Nat.ne_of_lt (Nat.lt_of_lt_of_le Ex232.lt Sz217_v1)
  have ne_b63_b217_v1 : b63 ≠ b217_v1 := Nat.ne_of_lt (Nat.lt_of_lt_of_le Ex233.lt Sz217_v1)
  have ne_b76_b217_v1 : b76 ≠ b217_v1 := Nat.ne_of_lt (Nat.lt_of_lt_of_le Ex234.lt Sz217_v1)
  have ne_b8_b217_v1 : b8 ≠ b217_v1 := Nat.ne_of_lt (Nat.lt_of_lt_of_le Ex235.lt Sz217_v1)
  have ne_b90_b217_v1 : b90 ≠ b217_v1 := Nat.ne_of_lt (Nat.lt_of_lt_of_le Ex236.lt Sz217_v1)
  have ne_de_b217_v1 : de ≠ b217_v1 := Nat.ne_of_lt (Nat.lt_of_lt_of_le Av237.lt Sz217_v1)
  have pre250 : ∀ tz, Steps p.tables e below (T217.setTop (mkF m 168 (l_48 p0 p1 p2 p3 p4 (stF p0) b2 b3 v5 (stF p4) b8 b21 b42 b51 b63 b76 b90) [(.ref b63), (.ref b90)])) tz → Steps p.tables e below (s₁.setTop (entryFrame m #[(.int p0), (.int p1), (.int p2), (.int p3), (.int p4)] maxLocals)) tz := fun tz kk => pre103 tz (by
    show Steps _ _ _ (T90.setTop (mkF m 116 (l_47 p0 p1 p2 p3 p4 (stF p0) b2 b3 v5 (stF p4) b8 b21 b42 b51 b63 b76) [(.ref b90), (.ref b90)])) _
    refine st128.trans ?_
    show Steps _ _ _ (T128.setTop (mkF m 119 (l_47 p0 p1 p2 p3 p4 (stF p0) b2 b3 v5 (stF p4) b8 b21 b42 b51 b63 b76) [(.ref b90)])) _
    refine XS.astore X128.here hx rfl (hb hby at_119) rfl rfl (l' := (l_48 p0 p1 p2 p3 p4 (stF p0) b2 b3 v5 (stF p4) b8 b21 b42 b51 b63 b76 b90)) rfl ?_
    show Steps _ _ _ (T128.setTop (mkF m 121 (l_48 p0 p1 p2 p3 p4 (stF p0) b2 b3 v5 (stF p4) b8 b21 b42 b51 b63 b76 b90) [])) _
    refine XS.aload X128.here hx rfl (hb hby at_121) rfl rfl ?_
    show Steps _ _ _ (T128.setTop (mkF m 123 (l_48 p0 p1 p2 p3 p4 (stF p0) b2 b3 v5 (stF p4) b8 b21 b42 b51 b63 b76 b90) [(.ref b90)])) _
    refine XS.iload X128.here hx rfl (hb hby at_123) rfl ?_
    show Steps _ _ _ (T128.setTop (mkF m 125 (l_48 p0 p1 p2 p3 p4 (stF p0) b2 b3 v5 (stF p4) b8 b21 b42 b51 b63 b76 b90) [(.int (stF p0)), (.ref b90)])) _
    refine st129.trans ?_
    show Steps _ _ _ (T129.setTop (mkF m 128 (l_48 p0 p1 p2 p3 p4 (stF p0) b2 b3 v5 (stF p4) b8 b21 b42 b51 b63 b76 b90) [])) _
    refine XS.aload X129.here hx rfl (hb hby at_128) rfl rfl ?_
    show Steps _ _ _ (T129.setTop (mkF m 130 (l_48 p0 p1 p2 p3 p4 (stF p0) b2 b3 v5 (stF p4) b8 b21 b42 b51 b63 b76 b90) [(.ref b90)])) _
    refine XS.aload X129.here hx rfl (hb hby at_130) rfl rfl ?_
    show Steps _ _ _ (T129.setTop (mkF m 132 (l_48 p0 p1 p2 p3 p4 (stF p0) b2 b3 v5 (stF p4) b8 b21 b42 b51 b63 b76 b90) [(.ref b42), (.ref b90)])) _
    refine XS.aload X129.here hx rfl (hb hby at_132) rfl rfl ?_
    show Steps _ _ _ (T129.setTop (mkF m 134 (l_48 p0 p1 p2 p3 p4 (stF p0) b2 b3 v5 (stF p4) b8 b21 b42 b51 b63 b76 b90) [(.ref b8), (.ref b42), (.ref b90)])) _
    refine st142.trans ?_
    show Steps _ _ _ (T142.setTop (mkF m 137 (l_48 p0 p1 p2 p3 p4 (stF p0) b2 b3 v5 (stF p4) b8 b21 b42 b51 b63 b76 b90) [])) _
    refine XS.aload X142.here hx rfl (hb hby at_137) rfl rfl ?_
    show Steps _ _ _ (T142.setTop (mkF m 139 (l_48 p0 p1 p2 p3 p4 (stF p0) b2 b3 v5 (stF p4) b8 b21 b42 b51 b63 b76 b90) [(.ref b90)])) _
    refine XS.aload X142.here hx rfl (hb hby at_139) rfl rfl ?_
    show Steps _ _ _ (T142.setTop (mkF m 141 (l_48 p0 p1 p2 p3 p4 (stF p0) b2 b3 v5 (stF p4) b8 b21 b42 b51 b63 b76 b90) [(.ref b51), (.ref b90)])) _
    refine XS.aload X142.here hx rfl (hb hby at_141) rfl rfl ?_
    show Steps _ _ _ (T142.setTop (mkF m 143 (l_48 p0 p1 p2 p3 p4 (stF p0) b2 b3 v5 (stF p4) b8 b21 b42 b51 b63 b76 b90) [(.ref b21), (.ref b51), (.ref b90)])) _
    refine st165.trans ?_
    show Steps _ _ _ (T165.setTop (mkF m 146 (l_48 p0 p1 p2 p3 p4 (stF p0) b2 b3 v5 (stF p4) b8 b21 b42 b51 b63 b76 b90) [])) _
    refine XS.aload X165.here hx rfl (hb hby at_146) rfl rfl ?_
    show Steps _ _ _ (T165.setTop (mkF m 148 (l_48 p0 p1 p2 p3 p4 (stF p0) b2 b3 v5 (stF p4) b8 b21 b42 b51 b63 b76 b90) [(.ref b90)])) _
    refine XS.aload X165.here hx rfl (hb hby at_148) rfl rfl ?_
    show Steps _ _ _ (T165.setTop (mkF m 150 (l_48 p0 p1 p2 p3 p4 (stF p0) b2 b3 v5 (stF p4) b8 b21 b42 b51 b63 b76 b90) [(.ref b63), (.ref b90)])) _
    refine XS.aload X165.here hx rfl (hb hby at_150) rfl rfl ?_
    show Steps _ _ _ (T165.setTop (mkF m 152 (l_48 p0 p1 p2 p3 p4 (stF p0) b2 b3 v5 (stF p4) b8 b21 b42 b51 b63 b76 b90) [(.ref b42), (.ref b63), (.ref b90)])) _
    refine st185.trans ?_
    show Steps _ _ _ (T185.setTop (mkF m 155 (l_48 p0 p1 p2 p3 p4 (stF p0) b2 b3 v5 (stF p4) b8 b21 b42 b51 b63 b76 b90) [])) _
    refine XS.aload X185.here hx rfl (hb hby at_155) rfl rfl ?_
    show Steps _ _ _ (T185.setTop (mkF m 157 (l_48 p0 p1 p2 p3 p4 (stF p0) b2 b3 v5 (stF p4) b8 b21 b42 b51 b63 b76 b90) [(.ref b90)])) _
    refine XS.aload X185.here hx rfl (hb hby at_157) rfl rfl ?_
    show Steps _ _ _ (T185.setTop (mkF m 159 (l_48 p0 p1 p2 p3 p4 (stF p0) b2 b3 v5 (stF p4) b8 b21 b42 b51 b63 b76 b90) [(.ref b76), (.ref b90)])) _
    refine XS.aload X185.here hx rfl (hb hby at_159) rfl rfl ?_
    show Steps _ _ _ (T185.setTop (mkF m 161 (l_48 p0 p1 p2 p3 p4 (stF p0) b2 b3 v5 (stF p4) b8 b21 b42 b51 b63 b76 b90) [(.ref b51), (.ref b76), (.ref b90)])) _
    refine st217.trans ?_
    show Steps _ _ _ (T217.setTop (mkF m 164 (l_48 p0 p1 p2 p3 p4 (stF p0) b2 b3 v5 (stF p4) b8 b21 b42 b51 b63 b76 b90) [])) _
    refine XS.aload X217.here hx rfl (hb hby at_164) rfl rfl ?_
    show Steps _ _ _ (T217.setTop (mkF m 166 (l_48 p0 p1 p2 p3 p4 (stF p0) b2 b3 v5 (stF p4) b8 b21 b42 b51 b63 b76 b90) [(.ref b90)])) _
    refine XS.aload X217.here hx rfl (hb hby at_166) rfl rfl ?_
    exact kk)
  have Zz251 := (Nat.le_trans Zz238 K217.1)
  have Od252 := (Od242.keep K217 (allS g_b128_m2 (allS g_b185_t all0)))
  have Av253 := (Av237.keep K217 (ninS ne_de_b128_m2 (ninS ne_de_b185_t nin0)))
  have Ex254 := (Ex227.keep K217)
  have Ex255 := (Ex229.keep K217)
  have Ex256 := (Ex235.keep K217)
  have Fd257 := ((((((Fd110.keep K128 (ninS ne_b8_b90 nin0)).keep K129 (ninS ne_b8_b90 nin0)).keep K142 (ninS ne_b8_b128_m1 nin0)).keep K165 (ninS ne_b8_b128_m1 (ninS ne_b8_b142_t nin0))).keep K185 (ninS ne_b8_b128_m2 nin0)).keep K217 (ninS ne_b8_b128_m2 (ninS ne_b8_b185_t nin0)))
  have Fd258 := ((((Fd164.keep K142 (ninS ne_b8_b128_m1 nin0)).keep K165 (ninS ne_b8_b128_m1 (ninS ne_b8_b142_t nin0))).keep K185 (ninS ne_b8_b128_m2 nin0)).keep K217 (ninS ne_b8_b128_m2 (ninS ne_b8_b185_t nin0)))
  have Fd259 := ((((Fd163.keep K142 (ninS ne_b8_b128_m1 nin0)).keep K165 (ninS ne_b8_b128_m1 (ninS ne_b8_b142_t nin0))).keep K185 (ninS ne_b8_b128_m2 nin0)).keep K217 (ninS ne_b8_b128_m2 (ninS ne_b8_b185_t nin0)))
  have Av260 := (Av223.keep K217 (ninS ne_b15_da_b128_m2 (ninS ne_b15_da_b185_t nin0)))
  have Ex261 := (Ex228.keep K217)
  have Fd262 := ((((((Fd115.keep K128 (ninS ne_b21_b90 nin0)).keep K129 (ninS ne_b21_b90 nin0)).keep K142 (ninS ne_b21_b128_m1 nin0)).keep K165 (ninS ne_b21_b128_m1 (ninS ne_b21_b142_t nin0))).keep K185 (ninS ne_b21_b128_m2 nin0)).keep K217 (ninS ne_b21_b128_m2 (ninS ne_b21_b185_t nin0)))
  have Fd263 := (((Fd184.keep K165 (ninS ne_b21_b128_m1 (ninS ne_b21_b142_t nin0))).keep K185 (ninS ne_b21_b128_m2 nin0)).keep K217 (ninS ne_b21_b128_m2 (ninS ne_b21_b185_t nin0)))
  have Fd264 := (((Fd183.keep K165 (ninS ne_b21_b128_m1 (ninS ne_b21_b142_t nin0))).keep K185 (ninS ne_b21_b128_m2 nin0)).keep K217 (ninS ne_b21_b128_m2 (ninS ne_b21_b185_t nin0)))
  have Av265 := (Av230.keep K217 (ninS ne_b34_da_b128_m2 (ninS ne_b34_da_b185_t nin0)))
  have Ex266 := (Ex231.keep K217)
  have Av267 := ((Av211.keep K185 (ninS ne_b42_b128_m2 nin0)).keep K217 (ninS ne_b42_b128_m2 (ninS ne_b42_b185_t nin0)))
  have Ex268 := (Ex232.keep K217)
  have Av269 := (Av244.keep K217 (ninS ne_b51_b128_m2 (ninS ne_b51_b185_t nin0)))
  have Ex270 := (Ex233.keep K217)
  have Av271 := ((Av209.keep K185 (ninS ne_b63_b128_m2 nin0)).keep K217 (ninS ne_b63_b128_m2 (ninS ne_b63_b185_t nin0)))
  have Ex272 := (Ex234.keep K217)
  have Av273 := (Av241.keep K217 (ninS ne_b76_b128_m2 (ninS ne_b76_b185_t nin0)))
  have Ex274 := (Ex236.keep K217)
  have Ex275 := (Ex218.keep K217)
  have Fd276 := ((((Pc129_1.keep K142 (ninS ne_b90_b128_m1 nin0)).keep K165 (ninS ne_b90_b128_m1 (ninS ne_b90_b142_t nin0))).keep K185 (ninS ne_b90_b128_m2 nin0)).keep K217 (ninS ne_b90_b128_m2 (ninS ne_b90_b185_t nin0)))
  have Fd277 := (Fd240.keep K217 (ninS ne_b90_b128_m2 (ninS ne_b90_b185_t nin0)))
  have Fd278 := (Fd239.keep K217 (ninS ne_b90_b128_m2 (ninS ne_b90_b185_t nin0)))
  have Fd279 := ((((Pc129_4.keep K142 (ninS ne_b90_b128_m1 nin0)).keep K165 (ninS ne_b90_b128_m1 (ninS ne_b90_b142_t nin0))).keep K185 (ninS ne_b90_b128_m2 nin0)).keep K217 (ninS ne_b90_b128_m2 (ninS ne_b90_b185_t nin0)))
  have Ex280 := (Ex219.keep K217)
  have Fd281 := ((Fd212.keep K185 (ninS (Ne.symm ne_b128_m2_b142_n) nin0)).keep K217 (ninS (Ne.symm ne_b128_m2_b142_n) (ninS ne_b142_n_b185_t nin0)))
  have Fd282 := ((Fd213.keep K185 (ninS (Ne.symm ne_b128_m2_b142_n) nin0)).keep K217 (ninS (Ne.symm ne_b128_m2_b142_n) (ninS ne_b142_n_b185_t nin0)))
  have Fd283 := ((Fd214.keep K185 (ninS (Ne.symm ne_b128_m2_b142_n) nin0)).keep K217 (ninS (Ne.symm ne_b128_m2_b142_n) (ninS ne_b142_n_b185_t nin0)))
  have Ex284 := (Ex222.keep K217)
  have Fd285 := ((Fd215.keep K185 (ninS (Ne.symm ne_b128_m2_b142_y) nin0)).keep K217 (ninS (Ne.symm ne_b128_m2_b142_y) (ninS ne_b142_y_b185_t nin0)))
  have Fd286 := ((Fd216.keep K185 (ninS (Ne.symm ne_b128_m2_b142_y) nin0)).keep K217 (ninS (Ne.symm ne_b128_m2_b142_y) (ninS ne_b142_y_b185_t nin0)))
  have Av287 := (Av221.keep K217 (ninS (Ne.symm ne_b128_m2_b142_v1) (ninS ne_b142_v1_b185_t nin0)))
  have Fd288 := (Fd243.keep K217 (ninS Pc128_15 (ninS ne_b128_m1_b185_t nin0)))
  have Fd289 := ((Pc165_2.keep K185 (ninS Pc128_15 nin0)).keep K217 (ninS Pc128_15 (ninS ne_b128_m1_b185_t nin0)))
  have Fd290 := ((Pc165_3.keep K185 (ninS Pc128_15 nin0)).keep K217 (ninS Pc128_15 (ninS ne_b128_m1_b185_t nin0)))
  have Fd291 := ((Pc165_4.keep K185 (ninS Pc128_15 nin0)).keep K217 (ninS Pc128_15 (ninS ne_b128_m1_b185_t nin0)))
  have Av292 := (Av220.keep K217 (ninS (Ne.symm ne_b128_m2_b142_t) (ninS ne_b142_t_b185_t nin0)))
  have Ex293 := (Ex224.keep K217)
  have Fd294 := (Fd245.keep K217 (ninS (Ne.symm ne_b128_m2_b165_n) (ninS ne_b165_n_b185_t nin0)))
  have Fd295 := (Fd246.keep K217 (ninS (Ne.symm ne_b128_m2_b165_n) (ninS ne_b165_n_b185_t nin0)))
  have Fd296 := (Fd247.keep K217 (ninS (Ne.symm ne_b128_m2_b165_n) (ninS ne_b165_n_b185_t nin0)))
  have Ex297 := (Ex226.keep K217)
  have Fd298 := (Fd248.keep K217 (ninS (Ne.symm ne_b128_m2_b165_y) (ninS ne_b165_y_b185_t nin0)))
  have Fd299 := (Fd249.keep K217 (ninS (Ne.symm ne_b128_m2_b165_y) (ninS ne_b165_y_b185_t nin0)))
  have Av300 := (Av225.keep K217 (ninS (Ne.symm ne_b128_m2_b165_v1) (ninS ne_b165_v1_b185_t nin0)))
  have Ex301 := (Pc185_7.keep K217)
  have Fd302 := (Pc185_8.keep K217 (ninS (Ne.symm ne_b128_m2_b185_n) (ninS (Ne.symm Pc185_15) nin0)))
  have Fd303 := (Pc185_9.keep K217 (ninS (Ne.symm ne_b128_m2_b185_n) (ninS (Ne.symm Pc185_15) nin0)))
  have Fd304 := (Pc185_10.keep K217 (ninS (Ne.symm ne_b128_m2_b185_n) (ninS (Ne.symm Pc185_15) nin0)))
  have Ex305 := (Pc185_11.keep K217)
  have Fd306 := (Pc185_12.keep K217 (ninS (Ne.symm ne_b128_m2_b185_y) (ninS (Ne.symm Pc185_16) nin0)))
  have Fd307 := (Pc185_13.keep K217 (ninS (Ne.symm ne_b128_m2_b185_y) (ninS (Ne.symm Pc185_16) nin0)))
  have Av308 := (Pc185_14.keep K217 (ninS (Ne.symm ne_b128_m2_b185_v1) (ninS (Ne.symm Pc185_17) nin0)))
  obtain ⟨Lg309, X309, N309⟩ : ∃ L' : List Loc, Stand p l e room_1 s m #[(.int p0), (.int p1), (.int p2), (.int p3), (.int p4)] below meth c T217 L' 29 128 ∧ Fr n0 L' := ⟨_, X217, N217⟩
  (try clear e90); (try clear A90); (try clear F_status_b90); (try clear F_statements_b90); (try clear F_portals_b90); (try clear F_writes_b90); (try clear pre103); (try clear Zz104); (try clear Od105); (try clear Av106); (try clear Ex107); (try clear Ex108); (try clear Ex109); (try clear Fd110); (try clear Fd111); (try clear Fd112); (try clear Av113); (try clear Ex114); (try clear Fd115); (try clear Fd116); (try clear Fd117); (try clear Av118); (try clear Ex119); (try clear Av120); (try clear Ex121); (try clear Av122); (try clear Ex123); (try clear Av124); (try clear Ex125); (try clear Av126); (try clear X127); (try clear N127); (try clear X128); (try clear st128); (try clear N128q); (try clear K128); (try clear N128); (try clear Av130); (try clear Ex131); (try clear Ex132); (try clear Ex133); (try clear Av134); (try clear Ex135); (try clear Ex136); (try clear Ex137); (try clear Ex138); (try clear Ex139); (try clear Av140); (try clear Zz141); (try clear X129); (try clear st129); (try clear N129q); (try clear K129); (try clear N129); (try clear Ex143); (try clear Ex144); (try clear Av145); (try clear Ex146); (try clear Ex147); (try clear Ex148); (try clear Av149); (try clear Ex150); (try clear Ex151); (try clear Ex152); (try clear Ex153); (try clear Ex154); (try clear Av155); (try clear Zz156); (try clear Fd157); (try clear Fd158); (try clear Fd159); (try clear Fd160); (try clear Av161); (try clear Od162); (try clear Fd163); (try clear Fd164); (try clear X142); (try clear st142); (try clear N142q); (try clear K142); (try clear N142); (try clear Ex166); (try clear Av167); (try clear Ex168); (try clear Ex169); (try clear Ex170); (try clear Av171); (try clear Ex172); (try clear Ex173); (try clear Ex174); (try clear Ex175); (try clear Ex176); (try clear Ex177); (try clear Av178); (try clear Zz179); (try clear Fd180); (try clear Av181); (try clear Od182); (try clear Fd183); (try clear Fd184); (try clear X165); (try clear st165); (try clear N165q); (try clear K165); (try clear N165); (try clear Ex186); (try clear Ex187); (try clear Av188); (try clear Ex189); (try clear Av190); (try clear Ex191); (try clear Ex192); (try clear Ex193); (try clear Av194); (try clear Ex195); (try clear Ex196); (try clear Ex197); (try clear Ex198); (try clear Ex199); (try clear Ex200); (try clear Av201); (try clear Zz202); (try clear Fd203); (try clear Fd204); (try clear Fd205); (try clear Fd206); (try clear Fd207); (try clear Fd208); (try clear Av209); (try clear Od210); (try clear Av211); (try clear Fd212); (try clear Fd213); (try clear Fd214); (try clear Fd215); (try clear Fd216); (try clear X185); (try clear st185); (try clear N185q); (try clear K185); (try clear N185); (try clear Ex218); (try clear Ex219); (try clear Av220); (try clear Av221); (try clear Ex222); (try clear Av223); (try clear Ex224); (try clear Av225); (try clear Ex226); (try clear Ex227); (try clear Ex228); (try clear Ex229); (try clear Av230); (try clear Ex231); (try clear Ex232); (try clear Ex233); (try clear Ex234); (try clear Ex235); (try clear Ex236); (try clear Av237); (try clear Zz238); (try clear Fd239); (try clear Fd240); (try clear Av241); (try clear Od242); (try clear Fd243); (try clear Av244); (try clear Fd245); (try clear Fd246); (try clear Fd247); (try clear Fd248); (try clear Fd249); (try clear X217); (try clear st217); (try clear N217q); (try clear K217); (try clear N217)
  obtain ⟨cq310, kq310, q310a, q310b, q310c⟩ := isOf hZ rfl Ex274
  obtain ⟨_, _, ⟨T310, L310, k310, n310⟩, -, X310, ⟨Lc310, hQ310, l310, y310, z310⟩, st310⟩ := X309.virtualBack hx (y := (⟨"com/example/onesnap/onesnap/node/TransactionTracker", "executed", "([B)V"⟩ : MethodName)) (z := (⟨"com/example/onesnap/onesnap/node/TransactionTracker", "executed", "([B)V"⟩ : MethodName)) hown (mvT hZ (hw _ (tm 304 rfl))) (mvT hZ (hw _ (tm 305 rfl))) (notFace_of_selects (args := #[]) (mvT hZ (hw _ (tm 307 rfl)))) (mvT hZ (hw _ (tm 307 rfl))) (mvT hZ (hw _ (tm 306 rfl))) (by decide) (backOf (W := 0) (rm44 l Z a0 hw [] b90 b63 ((nar .char (stF p0))) ((0 : Int32)) (b128_m1) (b128_m2) (b185_t) (b185_kt) ((((List.replicate 16 Value.null).set 0 (.ref b185_n)).set 1 (.ref b217_n))) (k63) ((112 : Int32)) (0) (b185_n) (b185_y) (b185_v1) (k63) (b2) (iso) (utf) (cs) (s5) (s0) (s1) (s3) T217.heap n0 Zz251 Ex274 Fd276 Fd277 Fd278 Fd279 Pc217_0 Pc217_1 Pc217_5 Av271 Ex270 (show Gd (112 : Int32) from ⟨by decide, by decide, by decide⟩) (show Ix (112 : Int32) 0 from ⟨⟨by decide, by decide⟩, by decide, by decide⟩) (by rfl) Ex301 Fd302 Fd303 Fd304 Ex305 Fd306 Fd307 Av308 Ex254 Od252 Sutf Siso Scs hcs hne Ssc Eiso S5 S0 S1 S3 g_b90 (Ne.symm ne_b90_b128_m2) (Ne.symm ne_b90_b185_t) ne_b63_b90 (Ne.symm ne_b90_b185_n) (Ne.symm ne_b90_b185_y) (Ne.symm ne_b90_b185_v1)) hZ (hw _ (tm 308 rfl)) (hw _ (tm 73 rfl)) (by decide) (by decide)) q310a q310c (g := (mkF m 168 (l_48 p0 p1 p2 p3 p4 (stF p0) b2 b3 v5 (stF p4) b8 b21 b42 b51 b63 b76 b90) [(.ref b63), (.ref b90)])) rfl (by rw [hml]; rfl) (Steps.refl _) (argsL := [(.ref b63)]) (rest := []) (lenOf pd__28_5bB_29V rfl) rfl (by show 2 * 0 + _ ≤ _; exact Nat.le_of_eq rfl) (hb hby at_168) (fun _ _ => ⟨rfl, rfl, (by decide : 29 + 2 ≤ _), (by decide : 128 + 5 ≤ _)⟩)
  dsimp only [Pt.U, Pt.locs, Pt.cells, Pt.slots] at X310 l310 y310 z310 st310 hQ310
  subst l310 y310 z310
  obtain ⟨rfl, N310q, K310, Pc310_0, Pc310_1, Pc310_2, Pc310_3, Pc310_4⟩ := hQ310
  have N310 := Fr.app N309 N310q
  have Ex312 := (Ex275.keep K310)
  have Ex313 := (Pc217_0.keep K310)
  have Ex314 := (Ex280.keep K310)
  have Av315 := (Av292.keep K310 (ninS (Ne.symm ne_b90_b142_t) nin0))
  have Av316 := (Av287.keep K310 (ninS (Ne.symm ne_b90_b142_v1) nin0))
  have Ex317 := (Ex284.keep K310)
  have Av318 := (Av260.keep K310 (ninS ne_b15_da_b90 nin0))
  have Ex319 := (Ex293.keep K310)
  have Av320 := (Av300.keep K310 (ninS (Ne.symm ne_b90_b165_v1) nin0))
  have Ex321 := (Ex297.keep K310)
  have Ex322 := (Ex301.keep K310)
  have Av323 := (Pc217_5.keep K310 (ninS (Ne.symm ne_b90_b185_t) nin0))
  have Av324 := (Av308.keep K310 (ninS (Ne.symm ne_b90_b185_v1) nin0))
  have Ex325 := (Ex305.keep K310)
  have Ex326 := (Ex254.keep K310)
  have Ex327 := (Ex261.keep K310)
  have Ex328 := (Pc217_6.keep K310)
  have Av329 := (Pc217_13.keep K310 (ninS (Ne.symm ne_b90_b217_v1) nin0))
  have Ex330 := (Pc217_10.keep K310)
  have Ex331 := (Ex255.keep K310)
  have Av332 := (Av265.keep K310 (ninS ne_b34_da_b90 nin0))
  have Ex333 := (Ex266.keep K310)
  have Ex334 := (Ex268.keep K310)
  have Ex335 := (Ex270.keep K310)
  have Ex336 := (Ex272.keep K310)
  have Ex337 := (Ex256.keep K310)
  have Av338 := (Av253.keep K310 (ninS ne_de_b90 nin0))
  have Zz339 := (Nat.le_trans Zz251 K310.1)
  have Fd340 := (Pc217_1.keep K310 (ninS (Ne.symm ne_b90_b128_m2) nin0))
  have Av341 := (Av273.keep K310 (ninS ne_b76_b90 nin0))
  have Fd342 := (Pc217_7.keep K310 (ninS (Ne.symm ne_b90_b217_n) nin0))
  have Fd343 := (Pc217_8.keep K310 (ninS (Ne.symm ne_b90_b217_n) nin0))
  have Fd344 := (Pc217_9.keep K310 (ninS (Ne.symm ne_b90_b217_n) nin0))
  have Fd345 := (Pc217_11.keep K310 (ninS (Ne.symm ne_b90_b217_y) nin0))
  have Fd346 := (Pc217_12.keep K310 (ninS (Ne.symm ne_b90_b217_y) nin0))
  have Od347 := (Od252.keep K310 (allS g_b90 all0))
  obtain ⟨cq311, kq311, q311a, q311b, q311c⟩ := isOf hZ rfl Pc310_0
  obtain ⟨_, _, ⟨T311, L311, k311, n311⟩, -, X311, ⟨Lc311, hQ311, l311, y311, z311⟩, st311⟩ := X310.virtualBack hx (y := (⟨"com/example/onesnap/onesnap/node/TransactionTracker", "executed", "([B)V"⟩ : MethodName)) (z := (⟨"com/example/onesnap/onesnap/node/TransactionTracker", "executed", "([B)V"⟩ : MethodName)) hown (mvT hZ (hw _ (tm 304 rfl))) (mvT hZ (hw _ (tm 305 rfl))) (notFace_of_selects (args := #[]) (mvT hZ (hw _ (tm 307 rfl)))) (mvT hZ (hw _ (tm 307 rfl))) (mvT hZ (hw _ (tm 306 rfl))) (by decide) (backOf (W := 0) (rm44 l Z a0 hw [] b90 b76 ((exS (nar .char (stF p0)) (0 : Int32) b2 s0 s1 s3 s5)) ((exW (nar .char (stF p0)) (0 : Int32) b2 s0 s1 s3 s5)) (b128_m1) (b128_m2) (b185_t) (b185_kt) ((((List.replicate 16 Value.null).set 0 (.ref b185_n)).set 1 (.ref b217_n))) (k76) ((113 : Int32)) (1) (b217_n) (b217_y) (b217_v1) (k76) (b3) (iso) (utf) (cs) (s5) (s0) (s1) (s3) T310.heap n0 Zz339 Pc310_0 Pc310_1 Pc310_2 Pc310_3 Pc310_4 Ex313 Fd340 Av323 Av341 Ex336 (show Gd (113 : Int32) from ⟨by decide, by decide, by decide⟩) (show Ix (113 : Int32) 1 from ⟨⟨by decide, by decide⟩, by decide, by decide⟩) (by rfl) Ex328 Fd342 Fd343 Fd344 Ex330 Fd345 Fd346 Av329 Ex331 Od347 Sutf Siso Scs hcs hne Ssc Eiso S5 S0 S1 S3 g_b90 (Ne.symm ne_b90_b128_m2) (Ne.symm ne_b90_b185_t) ne_b76_b90 (Ne.symm ne_b90_b217_n) (Ne.symm ne_b90_b217_y) (Ne.symm ne_b90_b217_v1)) hZ (hw _ (tm 308 rfl)) (hw _ (tm 73 rfl)) (by decide) (by decide)) q311a q311c (g := (mkF m 175 (l_48 p0 p1 p2 p3 p4 (stF p0) b2 b3 v5 (stF p4) b8 b21 b42 b51 b63 b76 b90) [(.ref b76), (.ref b90)])) rfl (by rw [hml]; rfl) (Steps.refl _) (argsL := [(.ref b76)]) (rest := []) (lenOf pd__28_5bB_29V rfl) rfl (by show 2 * 0 + _ ≤ _; exact Nat.le_of_eq rfl) (hb hby at_175) (fun _ _ => ⟨rfl, rfl, (by decide : 31 + 2 ≤ _), (by decide : 133 + 5 ≤ _)⟩)
  dsimp only [Pt.U, Pt.locs, Pt.cells, Pt.slots] at X311 l311 y311 z311 st311 hQ311
  subst l311 y311 z311
  obtain ⟨rfl, N311q, K311, Pc311_0, Pc311_1, Pc311_2, Pc311_3, Pc311_4⟩ := hQ311
  have N311 := Fr.app N310 N311q
  have pre348 : ∀ tz, Steps p.tables e below (T311.setTop (mkF m 180 (l_48 p0 p1 p2 p3 p4 (stF p0) b2 b3 v5 (stF p4) b8 b21 b42 b51 b63 b76 b90) [(.int v5)])) tz → Steps p.tables e below (s₁.setTop (entryFrame m #[(.int p0), (.int p1), (.int p2), (.int p3), (.int p4)] maxLocals)) tz := fun tz kk => pre250 tz (by
    show Steps _ _ _ (T217.setTop (mkF m 168 (l_48 p0 p1 p2 p3 p4 (stF p0) b2 b3 v5 (stF p4) b8 b21 b42 b51 b63 b76 b90) [(.ref b63), (.ref b90)])) _
    refine st310.trans ?_
    show Steps _ _ _ (T310.setTop (mkF m 171 (l_48 p0 p1 p2 p3 p4 (stF p0) b2 b3 v5 (stF p4) b8 b21 b42 b51 b63 b76 b90) [])) _
    refine XS.aload X310.here hx rfl (hb hby at_171) rfl rfl ?_
    show Steps _ _ _ (T310.setTop (mkF m 173 (l_48 p0 p1 p2 p3 p4 (stF p0) b2 b3 v5 (stF p4) b8 b21 b42 b51 b63 b76 b90) [(.ref b90)])) _
    refine XS.aload X310.here hx rfl (hb hby at_173) rfl rfl ?_
    show Steps _ _ _ (T310.setTop (mkF m 175 (l_48 p0 p1 p2 p3 p4 (stF p0) b2 b3 v5 (stF p4) b8 b21 b42 b51 b63 b76 b90) [(.ref b76), (.ref b90)])) _
    refine st311.trans ?_
    show Steps _ _ _ (T311.setTop (mkF m 178 (l_48 p0 p1 p2 p3 p4 (stF p0) b2 b3 v5 (stF p4) b8 b21 b42 b51 b63 b76 b90) [])) _
    refine XS.iload X311.here hx rfl (hb hby at_178) rfl ?_
    exact kk)
  by_cases hc349 : v5 = (0 : Int32)
  · have Ex351 := (Ex312.keep K311)
    have Ex352 := (Ex313.keep K311)
    have Ex353 := (Ex314.keep K311)
    have Av354 := (Av315.keep K311 (ninS (Ne.symm ne_b90_b142_t) nin0))
    have Av355 := (Av316.keep K311 (ninS (Ne.symm ne_b90_b142_v1) nin0))
    have Ex356 := (Ex317.keep K311)
    have Av357 := (Av318.keep K311 (ninS ne_b15_da_b90 nin0))
    have Ex358 := (Ex319.keep K311)
    have Av359 := (Av320.keep K311 (ninS (Ne.symm ne_b90_b165_v1) nin0))
    have Ex360 := (Ex321.keep K311)
    have Ex361 := (Ex322.keep K311)
    have Av362 := (Av323.keep K311 (ninS (Ne.symm ne_b90_b185_t) nin0))
    have Av363 := (Av324.keep K311 (ninS (Ne.symm ne_b90_b185_v1) nin0))
    have Ex364 := (Ex325.keep K311)
    have Ex365 := (Ex326.keep K311)
    have Ex366 := (Ex327.keep K311)
    have Ex367 := (Ex328.keep K311)
    have Av368 := (Av329.keep K311 (ninS (Ne.symm ne_b90_b217_v1) nin0))
    have Ex369 := (Ex330.keep K311)
    have Ex370 := (Ex331.keep K311)
    have Av371 := (Av332.keep K311 (ninS ne_b34_da_b90 nin0))
    have Ex372 := (Ex333.keep K311)
    have Ex373 := (Ex334.keep K311)
    have Ex374 := (Ex335.keep K311)
    have Ex375 := (Ex336.keep K311)
    have Ex376 := (Ex337.keep K311)
    have Av377 := (Av338.keep K311 (ninS ne_de_b90 nin0))
    have Zz378 := (Nat.le_trans Zz339 K311.1)
    obtain ⟨cq350, kq350, q350a, q350b, q350c⟩ := isOf hZ rfl Pc311_0
    obtain ⟨_, _, ⟨T350, L350, k350, n350⟩, -, X350, ⟨Lc350, hQ350, l350, y350, z350⟩, st350⟩ := X311.virtualBack hx (y := (⟨"com/example/onesnap/onesnap/node/TransactionTracker", "commitsAtSync", "()Z"⟩ : MethodName)) (z := (⟨"com/example/onesnap/onesnap/node/TransactionTracker", "commitsAtSync", "()Z"⟩ : MethodName)) hown (mvT hZ (hw _ (tm 319 rfl))) (mvT hZ (hw _ (tm 320 rfl))) (notFace_of_selects (args := #[]) (mvT hZ (hw _ (tm 322 rfl)))) (mvT hZ (hw _ (tm 322 rfl))) (mvT hZ (hw _ (tm 321 rfl))) (by decide) (backOf (W := 0) (rm46 l Z a0 hw [] b90 ((exS (exS (nar .char (stF p0)) (0 : Int32) b2 s0 s1 s3 s5) (exW (nar .char (stF p0)) (0 : Int32) b2 s0 s1 s3 s5) b3 s0 s1 s3 s5)) ((exW (exS (nar .char (stF p0)) (0 : Int32) b2 s0 s1 s3 s5) (exW (nar .char (stF p0)) (0 : Int32) b2 s0 s1 s3 s5) b3 s0 s1 s3 s5)) T311.heap n0 Zz378 Pc311_1 Pc311_4) hZ (hw _ (tm 323 rfl)) (hw _ (tm 73 rfl)) (by decide) (by decide)) q350a q350c (g := (mkF m 192 (l_48 p0 p1 p2 p3 p4 (stF p0) b2 b3 v5 (stF p4) b8 b21 b42 b51 b63 b76 b90) [(.ref b90)])) rfl (by rw [hml]; rfl) (Steps.refl _) (argsL := []) (rest := []) (lenOf pd__28_29Z rfl) rfl (by show 2 * 0 + _ ≤ _; exact Nat.le_of_eq rfl) (hb hby at_192) (fun _ _ => ⟨rfl, rfl, (by decide : 33 + 0 ≤ _), (by decide : 138 + 0 ≤ _)⟩)
    dsimp only [Pt.U, Pt.locs, Pt.cells, Pt.slots] at X350 l350 y350 z350 st350 hQ350
    subst l350 y350 z350
    obtain ⟨rfl, N350q, e350⟩ := hQ350
    have N350 := Fr.app N311 N350q
    have Od379 := (Od347.keep K311 (allS g_b90 all0))
    obtain ⟨T380, X380, e380, st380⟩ := getS2 X350 hx hZ hown (host := "") (Or.inl (hw _ (tm 328 rfl))) Via.refl e350 (S5.ext Od379.2) (g := (mkF m 210 (l_49 p0 p1 p2 p3 p4 (stF p0) b2 b3 v5 (stF p4) b8 b21 b42 b51 b63 b76 b90 (cmA p0 b2 b3 s0 s1 s3 s5)) [(.ref b2)])) rfl (hb hby at_210)
    have pre381 : ∀ tz, Steps p.tables e below (T380.setTop (mkF m 213 (l_49 p0 p1 p2 p3 p4 (stF p0) b2 b3 v5 (stF p4) b8 b21 b42 b51 b63 b76 b90 (cmA p0 b2 b3 s0 s1 s3 s5)) [(.ref s5), (.ref b2)])) tz → Steps p.tables e below (s₁.setTop (entryFrame m #[(.int p0), (.int p1), (.int p2), (.int p3), (.int p4)] maxLocals)) tz := fun tz kk => pre348 tz (by
      show Steps _ _ _ (T311.setTop (mkF m 180 (l_48 p0 p1 p2 p3 p4 (stF p0) b2 b3 v5 (stF p4) b8 b21 b42 b51 b63 b76 b90) [(.int v5)])) _
      refine XS.ifYes X311.here hx rfl (pc0 := 180) (pc' := 190) rfl (hb hby at_180) rfl ((if0 _ _).trans (teq hc349).1) (by decide) (by decide) ?_
      show Steps _ _ _ (T311.setTop (mkF m 190 (l_48 p0 p1 p2 p3 p4 (stF p0) b2 b3 v5 (stF p4) b8 b21 b42 b51 b63 b76 b90) [])) _
      refine XS.aload X311.here hx rfl (hb hby at_190) rfl rfl ?_
      show Steps _ _ _ (T311.setTop (mkF m 192 (l_48 p0 p1 p2 p3 p4 (stF p0) b2 b3 v5 (stF p4) b8 b21 b42 b51 b63 b76 b90) [(.ref b90)])) _
      refine st350.trans ?_
      show Steps _ _ _ (T350.setTop (mkF m 195 (l_48 p0 p1 p2 p3 p4 (stF p0) b2 b3 v5 (stF p4) b8 b21 b42 b51 b63 b76 b90) [(.int (cmA p0 b2 b3 s0 s1 s3 s5))])) _
      refine XS.istore X350.here hx rfl (hb hby at_195) rfl (l' := (l_49 p0 p1 p2 p3 p4 (stF p0) b2 b3 v5 (stF p4) b8 b21 b42 b51 b63 b76 b90 (cmA p0 b2 b3 s0 s1 s3 s5))) rfl ?_
      show Steps _ _ _ (T350.setTop (mkF m 197 (l_49 p0 p1 p2 p3 p4 (stF p0) b2 b3 v5 (stF p4) b8 b21 b42 b51 b63 b76 b90 (cmA p0 b2 b3 s0 s1 s3 s5)) [])) _
      refine XS.iload X350.here hx rfl (hb hby at_197) rfl ?_
      show Steps _ _ _ (T350.setTop (mkF m 199 (l_49 p0 p1 p2 p3 p4 (stF p0) b2 b3 v5 (stF p4) b8 b21 b42 b51 b63 b76 b90 (cmA p0 b2 b3 s0 s1 s3 s5)) [(.int v5)])) _
      refine XS.ifYes X350.here hx rfl (pc0 := 199) (pc' := 208) rfl (hb hby at_199) rfl ((if0 _ _).trans (teq hc349).1) (by decide) (by decide) ?_
      show Steps _ _ _ (T350.setTop (mkF m 208 (l_49 p0 p1 p2 p3 p4 (stF p0) b2 b3 v5 (stF p4) b8 b21 b42 b51 b63 b76 b90 (cmA p0 b2 b3 s0 s1 s3 s5)) [])) _
      refine XS.aload X350.here hx rfl (hb hby at_208) rfl rfl ?_
      show Steps _ _ _ (T350.setTop (mkF m 210 (l_49 p0 p1 p2 p3 p4 (stF p0) b2 b3 v5 (stF p4) b8 b21 b42 b51 b63 b76 b90 (cmA p0 b2 b3 s0 s1 s3 s5)) [(.ref b2)])) _
      refine st380 _ ?_
      exact kk)
    by_cases hc382 : b2 = s5
    · obtain ⟨_, _, ⟨T383, L383, k383, n383⟩, -, X383, ⟨Lc383, hQ383, l383, y383, z383⟩, st383⟩ := Jvm.LawKit.callS X380 hx (y := (⟨"com/example/onesnap/onesnap/node/TransactionTrackerCommitsAtSyncPinLaw", "after", "(CLcom/example/onesnap/onesnap/node/StatementKind;)C"⟩ : MethodName)) hown (mvT hZ (hw _ (tm 329 rfl))) (mvT hZ (hw _ (tm 330 rfl))) (mvT hZ (hw _ (tm 2 rfl))) (mvT hZ (hw _ (tm 331 rfl))) (by decide) (backOf (W := 0) (rm47 l Z a0 hw [] (stF p0) b2 (s0) (s1) (s3) T311.heap n0 Zz378 Od379 S0 S1 S3) hZ (hw _ (tm 331 rfl)) (hw _ (tm 2 rfl)) (by decide) (by decide)) (g := (mkF m 235 (l_50 p0 p1 p2 p3 p4 (stF p0) b2 b3 v5 (stF p4) b8 b21 b42 b51 b63 b76 b90 (cmA p0 b2 b3 s0 s1 s3 s5) (1 : Int32)) [(.ref b2), (.int (stF p0))])) rfl (by rw [hml]; rfl) (argsL := [(.int (stF p0)), (.ref b2)]) (rest := []) (lenOf pd__28CLcom_2fexample_2fonesnap_2fonesnap_2fnode_2fStatementKind_3b_29C rfl) rfl (by show 2 * 0 + _ ≤ _; exact Nat.le_of_eq rfl) (hb hby at_235) (fun _ _ => ⟨rfl, e380, (by decide : 33 + 0 ≤ _), (by decide : 138 + 0 ≤ _)⟩)
      dsimp only [Pt.U, Pt.locs, Pt.cells, Pt.slots] at X383 l383 y383 z383 st383 hQ383
      subst l383 y383 z383
      obtain ⟨rfl, N383q, e383⟩ := hQ383
      have N383 := Fr.app N350 N383q
      obtain ⟨_, _, ⟨T384, L384, k384, n384⟩, -, X384, ⟨Lc384, hQ384, l384, y384, z384⟩, st384⟩ := Jvm.LawKit.callS X383 hx (y := (⟨"com/example/onesnap/onesnap/node/TransactionTrackerCommitsAtSyncPinLaw", "after", "(CLcom/example/onesnap/onesnap/node/StatementKind;)C"⟩ : MethodName)) hown (mvT hZ (hw _ (tm 329 rfl))) (mvT hZ (hw _ (tm 330 rfl))) (mvT hZ (hw _ (tm 2 rfl))) (mvT hZ (hw _ (tm 331 rfl))) (by decide) (backOf (W := 0) (rm47 l Z a0 hw [] (afF (stF p0) b2 s0 s1 s3) b3 (s0) (s1) (s3) T311.heap n0 Zz378 Od379 S0 S1 S3) hZ (hw _ (tm 331 rfl)) (hw _ (tm 2 rfl)) (by decide) (by decide)) (g := (mkF m 240 (l_50 p0 p1 p2 p3 p4 (stF p0) b2 b3 v5 (stF p4) b8 b21 b42 b51 b63 b76 b90 (cmA p0 b2 b3 s0 s1 s3 s5) (1 : Int32)) [(.ref b3), (.int (afF (stF p0) b2 s0 s1 s3))])) rfl (by rw [hml]; rfl) (argsL := [(.int (afF (stF p0) b2 s0 s1 s3)), (.ref b3)]) (rest := []) (lenOf pd__28CLcom_2fexample_2fonesnap_2fonesnap_2fnode_2fStatementKind_3b_29C rfl) rfl (by show 2 * 0 + _ ≤ _; exact Nat.le_of_eq rfl) (hb hby at_240) (fun _ _ => ⟨rfl, e383, (by decide : 33 + 0 ≤ _), (by decide : 138 + 0 ≤ _)⟩)
      dsimp only [Pt.U, Pt.locs, Pt.cells, Pt.slots] at X384 l384 y384 z384 st384 hQ384
      subst l384 y384 z384
      obtain ⟨rfl, N384q, e384⟩ := hQ384
      have N384 := Fr.app N383 N384q
      have pre385 : ∀ tz, Steps p.tables e below (T384.setTop (mkF m 245 (l_50 p0 p1 p2 p3 p4 (stF p0) b2 b3 v5 (stF p4) b8 b21 b42 b51 b63 b76 b90 (cmA p0 b2 b3 s0 s1 s3 s5) (1 : Int32)) [(.int (73 : Int32)), (.int (afF (afF (stF p0) b2 s0 s1 s3) b3 s0 s1 s3))])) tz → Steps p.tables e below (s₁.setTop (entryFrame m #[(.int p0), (.int p1), (.int p2), (.int p3), (.int p4)] maxLocals)) tz := fun tz kk => pre381 tz (by
        show Steps _ _ _ (T380.setTop (mkF m 213 (l_49 p0 p1 p2 p3 p4 (stF p0) b2 b3 v5 (stF p4) b8 b21 b42 b51 b63 b76 b90 (cmA p0 b2 b3 s0 s1 s3 s5)) [(.ref s5), (.ref b2)])) _
        refine Jvm.RoadKit.acmp (g := (mkF m 213 (l_49 p0 p1 p2 p3 p4 (stF p0) b2 b3 v5 (stF p4) b8 b21 b42 b51 b63 b76 b90 (cmA p0 b2 b3 s0 s1 s3 s5)) [(.ref s5), (.ref b2)])) X380 hx rfl rfl rfl (pc0 := 213) (pc' := 224) (same := true) rfl (hb hby at_213) rfl (decide_eq_true (congrArg Value.ref hc382)) (by decide) (by decide) ?_
        show Steps _ _ _ (T380.setTop (mkF m 224 (l_49 p0 p1 p2 p3 p4 (stF p0) b2 b3 v5 (stF p4) b8 b21 b42 b51 b63 b76 b90 (cmA p0 b2 b3 s0 s1 s3 s5)) [])) _
        refine XS.iconst X380.here hx rfl (hb hby at_224) ?_
        show Steps _ _ _ (T380.setTop (mkF m 225 (l_49 p0 p1 p2 p3 p4 (stF p0) b2 b3 v5 (stF p4) b8 b21 b42 b51 b63 b76 b90 (cmA p0 b2 b3 s0 s1 s3 s5)) [(.int (1 : Int32))])) _
        refine XS.goto X380.here hx rfl (pc0 := 225) (pc' := 229) rfl (hb hby at_225) (by decide) (by decide) ?_
        show Steps _ _ _ (T380.setTop (mkF m 229 (l_49 p0 p1 p2 p3 p4 (stF p0) b2 b3 v5 (stF p4) b8 b21 b42 b51 b63 b76 b90 (cmA p0 b2 b3 s0 s1 s3 s5)) [(.int (1 : Int32))])) _
        refine XS.istore X380.here hx rfl (hb hby at_229) rfl (l' := (l_50 p0 p1 p2 p3 p4 (stF p0) b2 b3 v5 (stF p4) b8 b21 b42 b51 b63 b76 b90 (cmA p0 b2 b3 s0 s1 s3 s5) (1 : Int32))) rfl ?_
        show Steps _ _ _ (T380.setTop (mkF m 231 (l_50 p0 p1 p2 p3 p4 (stF p0) b2 b3 v5 (stF p4) b8 b21 b42 b51 b63 b76 b90 (cmA p0 b2 b3 s0 s1 s3 s5) (1 : Int32)) [])) _
        refine XS.iload X380.here hx rfl (hb hby at_231) rfl ?_
        show Steps _ _ _ (T380.setTop (mkF m 233 (l_50 p0 p1 p2 p3 p4 (stF p0) b2 b3 v5 (stF p4) b8 b21 b42 b51 b63 b76 b90 (cmA p0 b2 b3 s0 s1 s3 s5) (1 : Int32)) [(.int (stF p0))])) _
        refine XS.aload X380.here hx rfl (hb hby at_233) rfl rfl ?_
        show Steps _ _ _ (T380.setTop (mkF m 235 (l_50 p0 p1 p2 p3 p4 (stF p0) b2 b3 v5 (stF p4) b8 b21 b42 b51 b63 b76 b90 (cmA p0 b2 b3 s0 s1 s3 s5) (1 : Int32)) [(.ref b2), (.int (stF p0))])) _
        refine st383 _ ?_
        show Steps _ _ _ (T383.setTop (mkF m 238 (l_50 p0 p1 p2 p3 p4 (stF p0) b2 b3 v5 (stF p4) b8 b21 b42 b51 b63 b76 b90 (cmA p0 b2 b3 s0 s1 s3 s5) (1 : Int32)) [(.int (afF (stF p0) b2 s0 s1 s3))])) _
        refine XS.aload X383.here hx rfl (hb hby at_238) rfl rfl ?_
        show Steps _ _ _ (T383.setTop (mkF m 240 (l_50 p0 p1 p2 p3 p4 (stF p0) b2 b3 v5 (stF p4) b8 b21 b42 b51 b63 b76 b90 (cmA p0 b2 b3 s0 s1 s3 s5) (1 : Int32)) [(.ref b3), (.int (afF (stF p0) b2 s0 s1 s3))])) _
        refine st384 _ ?_
        show Steps _ _ _ (T384.setTop (mkF m 243 (l_50 p0 p1 p2 p3 p4 (stF p0) b2 b3 v5 (stF p4) b8 b21 b42 b51 b63 b76 b90 (cmA p0 b2 b3 s0 s1 s3 s5) (1 : Int32)) [(.int (afF (afF (stF p0) b2 s0 s1 s3) b3 s0 s1 s3))])) _
        refine XS.bipush X384.here hx rfl (hb hby at_243) ?_
        exact kk)
      by_cases hc386 : (afF (afF (stF p0) b2 s0 s1 s3) b3 s0 s1 s3) = (73 : Int32)
      · have pre387 : ∀ tz, Steps p.tables e below (T384.setTop (mkF m 264 (l_51 p0 p1 p2 p3 p4 (stF p0) b2 b3 v5 (stF p4) b8 b21 b42 b51 b63 b76 b90 (cmA p0 b2 b3 s0 s1 s3 s5) (1 : Int32) (1 : Int32)) [(.int (1 : Int32)), (.int (cmA p0 b2 b3 s0 s1 s3 s5))])) tz → Steps p.tables e below (s₁.setTop (entryFrame m #[(.int p0), (.int p1), (.int p2), (.int p3), (.int p4)] maxLocals)) tz := fun tz kk => pre385 tz (by
          show Steps _ _ _ (T384.setTop (mkF m 245 (l_50 p0 p1 p2 p3 p4 (stF p0) b2 b3 v5 (stF p4) b8 b21 b42 b51 b63 b76 b90 (cmA p0 b2 b3 s0 s1 s3 s5) (1 : Int32)) [(.int (73 : Int32)), (.int (afF (afF (stF p0) b2 s0 s1 s3) b3 s0 s1 s3))])) _
          refine XS.icmpNo X384.here hx rfl (hb hby at_245) rfl (teq hc386).2 ?_
          show Steps _ _ _ (T384.setTop (mkF m 248 (l_50 p0 p1 p2 p3 p4 (stF p0) b2 b3 v5 (stF p4) b8 b21 b42 b51 b63 b76 b90 (cmA p0 b2 b3 s0 s1 s3 s5) (1 : Int32)) [])) _
          refine XS.iload X384.here hx rfl (hb hby at_248) rfl ?_
          show Steps _ _ _ (T384.setTop (mkF m 250 (l_50 p0 p1 p2 p3 p4 (stF p0) b2 b3 v5 (stF p4) b8 b21 b42 b51 b63 b76 b90 (cmA p0 b2 b3 s0 s1 s3 s5) (1 : Int32)) [(.int (1 : Int32))])) _
          refine XS.ifNo X384.here hx rfl (hb hby at_250) rfl ((if0 _ _).trans (feq (by decide)).1) ?_
          show Steps _ _ _ (T384.setTop (mkF m 253 (l_50 p0 p1 p2 p3 p4 (stF p0) b2 b3 v5 (stF p4) b8 b21 b42 b51 b63 b76 b90 (cmA p0 b2 b3 s0 s1 s3 s5) (1 : Int32)) [])) _
          refine XS.iconst X384.here hx rfl (hb hby at_253) ?_
          show Steps _ _ _ (T384.setTop (mkF m 254 (l_50 p0 p1 p2 p3 p4 (stF p0) b2 b3 v5 (stF p4) b8 b21 b42 b51 b63 b76 b90 (cmA p0 b2 b3 s0 s1 s3 s5) (1 : Int32)) [(.int (1 : Int32))])) _
          refine XS.goto X384.here hx rfl (pc0 := 254) (pc' := 258) rfl (hb hby at_254) (by decide) (by decide) ?_
          show Steps _ _ _ (T384.setTop (mkF m 258 (l_50 p0 p1 p2 p3 p4 (stF p0) b2 b3 v5 (stF p4) b8 b21 b42 b51 b63 b76 b90 (cmA p0 b2 b3 s0 s1 s3 s5) (1 : Int32)) [(.int (1 : Int32))])) _
          refine XS.istore X384.here hx rfl (hb hby at_258) rfl (l' := (l_51 p0 p1 p2 p3 p4 (stF p0) b2 b3 v5 (stF p4) b8 b21 b42 b51 b63 b76 b90 (cmA p0 b2 b3 s0 s1 s3 s5) (1 : Int32) (1 : Int32))) rfl ?_
          show Steps _ _ _ (T384.setTop (mkF m 260 (l_51 p0 p1 p2 p3 p4 (stF p0) b2 b3 v5 (stF p4) b8 b21 b42 b51 b63 b76 b90 (cmA p0 b2 b3 s0 s1 s3 s5) (1 : Int32) (1 : Int32)) [])) _
          refine XS.iload X384.here hx rfl (hb hby at_260) rfl ?_
          show Steps _ _ _ (T384.setTop (mkF m 262 (l_51 p0 p1 p2 p3 p4 (stF p0) b2 b3 v5 (stF p4) b8 b21 b42 b51 b63 b76 b90 (cmA p0 b2 b3 s0 s1 s3 s5) (1 : Int32) (1 : Int32)) [(.int (cmA p0 b2 b3 s0 s1 s3 s5))])) _
          refine XS.iload X384.here hx rfl (hb hby at_262) rfl ?_
          exact kk)
        by_cases hc388 : (cmA p0 b2 b3 s0 s1 s3 s5) = (1 : Int32)
        · obtain ⟨fs, hr, hrun, hended, hW, hsame⟩ := X384.leave (v := some (.int (1 : Int32))) (fun h => by rw [Bd.returns] at h; cases h)
          refine ⟨_, _, pre387 _ ?_, hrun, hended, _, _, rfl, ?_, ⟨_, rfl⟩, hW, hsame.mono (by decide) (by decide)⟩
          · show Steps _ _ _ (T384.setTop (mkF m 264 (l_51 p0 p1 p2 p3 p4 (stF p0) b2 b3 v5 (stF p4) b8 b21 b42 b51 b63 b76 b90 (cmA p0 b2 b3 s0 s1 s3 s5) (1 : Int32) (1 : Int32)) [(.int (1 : Int32)), (.int (cmA p0 b2 b3 s0 s1 s3 s5))])) _
            refine XS.icmpNo X384.here hx rfl (hb hby at_264) rfl (teq hc388).2 ?_
            show Steps _ _ _ (T384.setTop (mkF m 267 (l_51 p0 p1 p2 p3 p4 (stF p0) b2 b3 v5 (stF p4) b8 b21 b42 b51 b63 b76 b90 (cmA p0 b2 b3 s0 s1 s3 s5) (1 : Int32) (1 : Int32)) [])) _
            refine XS.iconst X384.here hx rfl (hb hby at_267) ?_
            show Steps _ _ _ (T384.setTop (mkF m 268 (l_51 p0 p1 p2 p3 p4 (stF p0) b2 b3 v5 (stF p4) b8 b21 b42 b51 b63 b76 b90 (cmA p0 b2 b3 s0 s1 s3 s5) (1 : Int32) (1 : Int32)) [(.int (1 : Int32))])) _
            refine XS.goto X384.here hx rfl (pc0 := 268) (pc' := 272) rfl (hb hby at_268) (by decide) (by decide) ?_
            show Steps _ _ _ (T384.setTop (mkF m 272 (l_51 p0 p1 p2 p3 p4 (stF p0) b2 b3 v5 (stF p4) b8 b21 b42 b51 b63 b76 b90 (cmA p0 b2 b3 s0 s1 s3 s5) (1 : Int32) (1 : Int32)) [(.int (1 : Int32))])) _
            exact retN X384 hx (t := .boolean) Bd.returns (by simp) (hb hby at_272) hr
          · show Q0 h0 n0 _ T384.heap _
            rw [e384]
            exact ⟨rfl, N384⟩
        · obtain ⟨fs, hr, hrun, hended, hW, hsame⟩ := X384.leave (v := some (.int (0 : Int32))) (fun h => by rw [Bd.returns] at h; cases h)
          refine ⟨_, _, pre387 _ ?_, hrun, hended, _, _, rfl, ?_, ⟨_, rfl⟩, hW, hsame.mono (by decide) (by decide)⟩
          · show Steps _ _ _ (T384.setTop (mkF m 264 (l_51 p0 p1 p2 p3 p4 (stF p0) b2 b3 v5 (stF p4) b8 b21 b42 b51 b63 b76 b90 (cmA p0 b2 b3 s0 s1 s3 s5) (1 : Int32) (1 : Int32)) [(.int (1 : Int32)), (.int (cmA p0 b2 b3 s0 s1 s3 s5))])) _
            refine XS.icmpYes X384.here hx rfl (pc0 := 264) (pc' := 271) rfl (hb hby at_264) rfl (feq hc388).2 (by decide) (by decide) ?_
            show Steps _ _ _ (T384.setTop (mkF m 271 (l_51 p0 p1 p2 p3 p4 (stF p0) b2 b3 v5 (stF p4) b8 b21 b42 b51 b63 b76 b90 (cmA p0 b2 b3 s0 s1 s3 s5) (1 : Int32) (1 : Int32)) [])) _
            refine XS.iconst X384.here hx rfl (hb hby at_271) ?_
            show Steps _ _ _ (T384.setTop (mkF m 272 (l_51 p0 p1 p2 p3 p4 (stF p0) b2 b3 v5 (stF p4) b8 b21 b42 b51 b63 b76 b90 (cmA p0 b2 b3 s0 s1 s3 s5) (1 : Int32) (1 : Int32)) [(.int (0 : Int32))])) _
            exact retN X384 hx (t := .boolean) Bd.returns (by simp) (hb hby at_272) hr
          · show Q0 h0 n0 _ T384.heap _
            rw [e384]
            exact absurd ((own_law d0 d1 d3 p0 _ (by rw [if_pos hc382])).trans (if_pos hc386)) hc388
      · have pre389 : ∀ tz, Steps p.tables e below (T384.setTop (mkF m 264 (l_51 p0 p1 p2 p3 p4 (stF p0) b2 b3 v5 (stF p4) b8 b21 b42 b51 b63 b76 b90 (cmA p0 b2 b3 s0 s1 s3 s5) (0 : Int32) (1 : Int32)) [(.int (0 : Int32)), (.int (cmA p0 b2 b3 s0 s1 s3 s5))])) tz → Steps p.tables e below (s₁.setTop (entryFrame m #[(.int p0), (.int p1), (.int p2), (.int p3), (.int p4)] maxLocals)) tz := fun tz kk => pre385 tz (by
          show Steps _ _ _ (T384.setTop (mkF m 245 (l_50 p0 p1 p2 p3 p4 (stF p0) b2 b3 v5 (stF p4) b8 b21 b42 b51 b63 b76 b90 (cmA p0 b2 b3 s0 s1 s3 s5) (1 : Int32)) [(.int (73 : Int32)), (.int (afF (afF (stF p0) b2 s0 s1 s3) b3 s0 s1 s3))])) _
          refine XS.icmpYes X384.here hx rfl (pc0 := 245) (pc' := 257) rfl (hb hby at_245) rfl (feq hc386).2 (by decide) (by decide) ?_
          show Steps _ _ _ (T384.setTop (mkF m 257 (l_50 p0 p1 p2 p3 p4 (stF p0) b2 b3 v5 (stF p4) b8 b21 b42 b51 b63 b76 b90 (cmA p0 b2 b3 s0 s1 s3 s5) (1 : Int32)) [])) _
          refine XS.iconst X384.here hx rfl (hb hby at_257) ?_
          show Steps _ _ _ (T384.setTop (mkF m 258 (l_50 p0 p1 p2 p3 p4 (stF p0) b2 b3 v5 (stF p4) b8 b21 b42 b51 b63 b76 b90 (cmA p0 b2 b3 s0 s1 s3 s5) (1 : Int32)) [(.int (0 : Int32))])) _
          refine XS.istore X384.here hx rfl (hb hby at_258) rfl (l' := (l_51 p0 p1 p2 p3 p4 (stF p0) b2 b3 v5 (stF p4) b8 b21 b42 b51 b63 b76 b90 (cmA p0 b2 b3 s0 s1 s3 s5) (0 : Int32) (1 : Int32))) rfl ?_
          show Steps _ _ _ (T384.setTop (mkF m 260 (l_51 p0 p1 p2 p3 p4 (stF p0) b2 b3 v5 (stF p4) b8 b21 b42 b51 b63 b76 b90 (cmA p0 b2 b3 s0 s1 s3 s5) (0 : Int32) (1 : Int32)) [])) _
          refine XS.iload X384.here hx rfl (hb hby at_260) rfl ?_
          show Steps _ _ _ (T384.setTop (mkF m 262 (l_51 p0 p1 p2 p3 p4 (stF p0) b2 b3 v5 (stF p4) b8 b21 b42 b51 b63 b76 b90 (cmA p0 b2 b3 s0 s1 s3 s5) (0 : Int32) (1 : Int32)) [(.int (cmA p0 b2 b3 s0 s1 s3 s5))])) _
          refine XS.iload X384.here hx rfl (hb hby at_262) rfl ?_
          exact kk)
        by_cases hc390 : (cmA p0 b2 b3 s0 s1 s3 s5) = (0 : Int32)
        · obtain ⟨fs, hr, hrun, hended, hW, hsame⟩ := X384.leave (v := some (.int (1 : Int32))) (fun h => by rw [Bd.returns] at h; cases h)
          refine ⟨_, _, pre389 _ ?_, hrun, hended, _, _, rfl, ?_, ⟨_, rfl⟩, hW, hsame.mono (by decide) (by decide)⟩
          · show Steps _ _ _ (T384.setTop (mkF m 264 (l_51 p0 p1 p2 p3 p4 (stF p0) b2 b3 v5 (stF p4) b8 b21 b42 b51 b63 b76 b90 (cmA p0 b2 b3 s0 s1 s3 s5) (0 : Int32) (1 : Int32)) [(.int (0 : Int32)), (.int (cmA p0 b2 b3 s0 s1 s3 s5))])) _
            refine XS.icmpNo X384.here hx rfl (hb hby at_264) rfl (teq hc390).2 ?_
            show Steps _ _ _ (T384.setTop (mkF m 267 (l_51 p0 p1 p2 p3 p4 (stF p0) b2 b3 v5 (stF p4) b8 b21 b42 b51 b63 b76 b90 (cmA p0 b2 b3 s0 s1 s3 s5) (0 : Int32) (1 : Int32)) [])) _
            refine XS.iconst X384.here hx rfl (hb hby at_267) ?_
            show Steps _ _ _ (T384.setTop (mkF m 268 (l_51 p0 p1 p2 p3 p4 (stF p0) b2 b3 v5 (stF p4) b8 b21 b42 b51 b63 b76 b90 (cmA p0 b2 b3 s0 s1 s3 s5) (0 : Int32) (1 : Int32)) [(.int (1 : Int32))])) _
            refine XS.goto X384.here hx rfl (pc0 := 268) (pc' := 272) rfl (hb hby at_268) (by decide) (by decide) ?_
            show Steps _ _ _ (T384.setTop (mkF m 272 (l_51 p0 p1 p2 p3 p4 (stF p0) b2 b3 v5 (stF p4) b8 b21 b42 b51 b63 b76 b90 (cmA p0 b2 b3 s0 s1 s3 s5) (0 : Int32) (1 : Int32)) [(.int (1 : Int32))])) _
            exact retN X384 hx (t := .boolean) Bd.returns (by simp) (hb hby at_272) hr
          · show Q0 h0 n0 _ T384.heap _
            rw [e384]
            exact ⟨rfl, N384⟩
        · obtain ⟨fs, hr, hrun, hended, hW, hsame⟩ := X384.leave (v := some (.int (0 : Int32))) (fun h => by rw [Bd.returns] at h; cases h)
          refine ⟨_, _, pre389 _ ?_, hrun, hended, _, _, rfl, ?_, ⟨_, rfl⟩, hW, hsame.mono (by decide) (by decide)⟩
          · show Steps _ _ _ (T384.setTop (mkF m 264 (l_51 p0 p1 p2 p3 p4 (stF p0) b2 b3 v5 (stF p4) b8 b21 b42 b51 b63 b76 b90 (cmA p0 b2 b3 s0 s1 s3 s5) (0 : Int32) (1 : Int32)) [(.int (0 : Int32)), (.int (cmA p0 b2 b3 s0 s1 s3 s5))])) _
            refine XS.icmpYes X384.here hx rfl (pc0 := 264) (pc' := 271) rfl (hb hby at_264) rfl (feq hc390).2 (by decide) (by decide) ?_
            show Steps _ _ _ (T384.setTop (mkF m 271 (l_51 p0 p1 p2 p3 p4 (stF p0) b2 b3 v5 (stF p4) b8 b21 b42 b51 b63 b76 b90 (cmA p0 b2 b3 s0 s1 s3 s5) (0 : Int32) (1 : Int32)) [])) _
            refine XS.iconst X384.here hx rfl (hb hby at_271) ?_
            show Steps _ _ _ (T384.setTop (mkF m 272 (l_51 p0 p1 p2 p3 p4 (stF p0) b2 b3 v5 (stF p4) b8 b21 b42 b51 b63 b76 b90 (cmA p0 b2 b3 s0 s1 s3 s5) (0 : Int32) (1 : Int32)) [(.int (0 : Int32))])) _
            exact retN X384 hx (t := .boolean) Bd.returns (by simp) (hb hby at_272) hr
          · show Q0 h0 n0 _ T384.heap _
            rw [e384]
            exact absurd ((own_law d0 d1 d3 p0 _ (by rw [if_pos hc382])).trans (if_neg hc386)) hc390
    · obtain ⟨T391, X391, e391, st391⟩ := getS2 X380 hx hZ hown (host := "") (Or.inl (hw _ (tm 328 rfl))) Via.refl e380 (S5.ext Od379.2) (g := (mkF m 218 (l_49 p0 p1 p2 p3 p4 (stF p0) b2 b3 v5 (stF p4) b8 b21 b42 b51 b63 b76 b90 (cmA p0 b2 b3 s0 s1 s3 s5)) [(.ref b3)])) rfl (hb hby at_218)
      have pre392 : ∀ tz, Steps p.tables e below (T391.setTop (mkF m 221 (l_49 p0 p1 p2 p3 p4 (stF p0) b2 b3 v5 (stF p4) b8 b21 b42 b51 b63 b76 b90 (cmA p0 b2 b3 s0 s1 s3 s5)) [(.ref s5), (.ref b3)])) tz → Steps p.tables e below (s₁.setTop (entryFrame m #[(.int p0), (.int p1), (.int p2), (.int p3), (.int p4)] maxLocals)) tz := fun tz kk => pre381 tz (by
        show Steps _ _ _ (T380.setTop (mkF m 213 (l_49 p0 p1 p2 p3 p4 (stF p0) b2 b3 v5 (stF p4) b8 b21 b42 b51 b63 b76 b90 (cmA p0 b2 b3 s0 s1 s3 s5)) [(.ref s5), (.ref b2)])) _
        refine Jvm.RoadKit.acmp (g := (mkF m 213 (l_49 p0 p1 p2 p3 p4 (stF p0) b2 b3 v5 (stF p4) b8 b21 b42 b51 b63 b76 b90 (cmA p0 b2 b3 s0 s1 s3 s5)) [(.ref s5), (.ref b2)])) X380 hx rfl rfl rfl (pc0 := 213) (pc' := 216) (same := false) rfl (hb hby at_213) rfl (decide_eq_false fun q => hc382 (Value.ref.inj q)) (by decide) (by decide) ?_
        show Steps _ _ _ (T380.setTop (mkF m 216 (l_49 p0 p1 p2 p3 p4 (stF p0) b2 b3 v5 (stF p4) b8 b21 b42 b51 b63 b76 b90 (cmA p0 b2 b3 s0 s1 s3 s5)) [])) _
        refine XS.aload X380.here hx rfl (hb hby at_216) rfl rfl ?_
        show Steps _ _ _ (T380.setTop (mkF m 218 (l_49 p0 p1 p2 p3 p4 (stF p0) b2 b3 v5 (stF p4) b8 b21 b42 b51 b63 b76 b90 (cmA p0 b2 b3 s0 s1 s3 s5)) [(.ref b3)])) _
        refine st391 _ ?_
        exact kk)
      by_cases hc393 : b3 = s5
      · obtain ⟨_, _, ⟨T394, L394, k394, n394⟩, -, X394, ⟨Lc394, hQ394, l394, y394, z394⟩, st394⟩ := Jvm.LawKit.callS X391 hx (y := (⟨"com/example/onesnap/onesnap/node/TransactionTrackerCommitsAtSyncPinLaw", "after", "(CLcom/example/onesnap/onesnap/node/StatementKind;)C"⟩ : MethodName)) hown (mvT hZ (hw _ (tm 329 rfl))) (mvT hZ (hw _ (tm 330 rfl))) (mvT hZ (hw _ (tm 2 rfl))) (mvT hZ (hw _ (tm 331 rfl))) (by decide) (backOf (W := 0) (rm47 l Z a0 hw [] (stF p0) b2 (s0) (s1) (s3) T311.heap n0 Zz378 Od379 S0 S1 S3) hZ (hw _ (tm 331 rfl)) (hw _ (tm 2 rfl)) (by decide) (by decide)) (g := (mkF m 235 (l_50 p0 p1 p2 p3 p4 (stF p0) b2 b3 v5 (stF p4) b8 b21 b42 b51 b63 b76 b90 (cmA p0 b2 b3 s0 s1 s3 s5) (1 : Int32)) [(.ref b2), (.int (stF p0))])) rfl (by rw [hml]; rfl) (argsL := [(.int (stF p0)), (.ref b2)]) (rest := []) (lenOf pd__28CLcom_2fexample_2fonesnap_2fonesnap_2fnode_2fStatementKind_3b_29C rfl) rfl (by show 2 * 0 + _ ≤ _; exact Nat.le_of_eq rfl) (hb hby at_235) (fun _ _ => ⟨rfl, e391, (by decide : 33 + 0 ≤ _), (by decide : 138 + 0 ≤ _)⟩)
        dsimp only [Pt.U, Pt.locs, Pt.cells, Pt.slots] at X394 l394 y394 z394 st394 hQ394
        subst l394 y394 z394
        obtain ⟨rfl, N394q, e394⟩ := hQ394
        have N394 := Fr.app N350 N394q
        obtain ⟨_, _, ⟨T395, L395, k395, n395⟩, -, X395, ⟨Lc395, hQ395, l395, y395, z395⟩, st395⟩ := Jvm.LawKit.callS X394 hx (y := (⟨"com/example/onesnap/onesnap/node/TransactionTrackerCommitsAtSyncPinLaw", "after", "(CLcom/example/onesnap/onesnap/node/StatementKind;)C"⟩ : MethodName)) hown (mvT hZ (hw _ (tm 329 rfl))) (mvT hZ (hw _ (tm 330 rfl))) (mvT hZ (hw _ (tm 2 rfl))) (mvT hZ (hw _ (tm 331 rfl))) (by decide) (backOf (W := 0) (rm47 l Z a0 hw [] (afF (stF p0) b2 s0 s1 s3) b3 (s0) (s1) (s3) T311.heap n0 Zz378 Od379 S0 S1 S3) hZ (hw _ (tm 331 rfl)) (hw _ (tm 2 rfl)) (by decide) (by decide)) (g := (mkF m 240 (l_50 p0 p1 p2 p3 p4 (stF p0) b2 b3 v5 (stF p4) b8 b21 b42 b51 b63 b76 b90 (cmA p0 b2 b3 s0 s1 s3 s5) (1 : Int32)) [(.ref b3), (.int (afF (stF p0) b2 s0 s1 s3))])) rfl (by rw [hml]; rfl) (argsL := [(.int (afF (stF p0) b2 s0 s1 s3)), (.ref b3)]) (rest := []) (lenOf pd__28CLcom_2fexample_2fonesnap_2fonesnap_2fnode_2fStatementKind_3b_29C rfl) rfl (by show 2 * 0 + _ ≤ _; exact Nat.le_of_eq rfl) (hb hby at_240) (fun _ _ => ⟨rfl, e394, (by decide : 33 + 0 ≤ _), (by decide : 138 + 0 ≤ _)⟩)
        dsimp only [Pt.U, Pt.locs, Pt.cells, Pt.slots] at X395 l395 y395 z395 st395 hQ395
        subst l395 y395 z395
        obtain ⟨rfl, N395q, e395⟩ := hQ395
        have N395 := Fr.app N394 N395q
        have pre396 : ∀ tz, Steps p.tables e below (T395.setTop (mkF m 245 (l_50 p0 p1 p2 p3 p4 (stF p0) b2 b3 v5 (stF p4) b8 b21 b42 b51 b63 b76 b90 (cmA p0 b2 b3 s0 s1 s3 s5) (1 : Int32)) [(.int (73 : Int32)), (.int (afF (afF (stF p0) b2 s0 s1 s3) b3 s0 s1 s3))])) tz → Steps p.tables e below (s₁.setTop (entryFrame m #[(.int p0), (.int p1), (.int p2), (.int p3), (.int p4)] maxLocals)) tz := fun tz kk => pre392 tz (by
          show Steps _ _ _ (T391.setTop (mkF m 221 (l_49 p0 p1 p2 p3 p4 (stF p0) b2 b3 v5 (stF p4) b8 b21 b42 b51 b63 b76 b90 (cmA p0 b2 b3 s0 s1 s3 s5)) [(.ref s5), (.ref b3)])) _
          refine Jvm.RoadKit.acmp (g := (mkF m 221 (l_49 p0 p1 p2 p3 p4 (stF p0) b2 b3 v5 (stF p4) b8 b21 b42 b51 b63 b76 b90 (cmA p0 b2 b3 s0 s1 s3 s5)) [(.ref s5), (.ref b3)])) X391 hx rfl rfl rfl (pc0 := 221) (pc' := 224) (same := true) rfl (hb hby at_221) rfl (decide_eq_true (congrArg Value.ref hc393)) (by decide) (by decide) ?_
          show Steps _ _ _ (T391.setTop (mkF m 224 (l_49 p0 p1 p2 p3 p4 (stF p0) b2 b3 v5 (stF p4) b8 b21 b42 b51 b63 b76 b90 (cmA p0 b2 b3 s0 s1 s3 s5)) [])) _
          refine XS.iconst X391.here hx rfl (hb hby at_224) ?_
          show Steps _ _ _ (T391.setTop (mkF m 225 (l_49 p0 p1 p2 p3 p4 (stF p0) b2 b3 v5 (stF p4) b8 b21 b42 b51 b63 b76 b90 (cmA p0 b2 b3 s0 s1 s3 s5)) [(.int (1 : Int32))])) _
          refine XS.goto X391.here hx rfl (pc0 := 225) (pc' := 229) rfl (hb hby at_225) (by decide) (by decide) ?_
          show Steps _ _ _ (T391.setTop (mkF m 229 (l_49 p0 p1 p2 p3 p4 (stF p0) b2 b3 v5 (stF p4) b8 b21 b42 b51 b63 b76 b90 (cmA p0 b2 b3 s0 s1 s3 s5)) [(.int (1 : Int32))])) _
          refine XS.istore X391.here hx rfl (hb hby at_229) rfl (l' := (l_50 p0 p1 p2 p3 p4 (stF p0) b2 b3 v5 (stF p4) b8 b21 b42 b51 b63 b76 b90 (cmA p0 b2 b3 s0 s1 s3 s5) (1 : Int32))) rfl ?_
          show Steps _ _ _ (T391.setTop (mkF m 231 (l_50 p0 p1 p2 p3 p4 (stF p0) b2 b3 v5 (stF p4) b8 b21 b42 b51 b63 b76 b90 (cmA p0 b2 b3 s0 s1 s3 s5) (1 : Int32)) [])) _
          refine XS.iload X391.here hx rfl (hb hby at_231) rfl ?_
          show Steps _ _ _ (T391.setTop (mkF m 233 (l_50 p0 p1 p2 p3 p4 (stF p0) b2 b3 v5 (stF p4) b8 b21 b42 b51 b63 b76 b90 (cmA p0 b2 b3 s0 s1 s3 s5) (1 : Int32)) [(.int (stF p0))])) _
          refine XS.aload X391.here hx rfl (hb hby at_233) rfl rfl ?_
          show Steps _ _ _ (T391.setTop (mkF m 235 (l_50 p0 p1 p2 p3 p4 (stF p0) b2 b3 v5 (stF p4) b8 b21 b42 b51 b63 b76 b90 (cmA p0 b2 b3 s0 s1 s3 s5) (1 : Int32)) [(.ref b2), (.int (stF p0))])) _
          refine st394 _ ?_
          show Steps _ _ _ (T394.setTop (mkF m 238 (l_50 p0 p1 p2 p3 p4 (stF p0) b2 b3 v5 (stF p4) b8 b21 b42 b51 b63 b76 b90 (cmA p0 b2 b3 s0 s1 s3 s5) (1 : Int32)) [(.int (afF (stF p0) b2 s0 s1 s3))])) _
          refine XS.aload X394.here hx rfl (hb hby at_238) rfl rfl ?_
          show Steps _ _ _ (T394.setTop (mkF m 240 (l_50 p0 p1 p2 p3 p4 (stF p0) b2 b3 v5 (stF p4) b8 b21 b42 b51 b63 b76 b90 (cmA p0 b2 b3 s0 s1 s3 s5) (1 : Int32)) [(.ref b3), (.int (afF (stF p0) b2 s0 s1 s3))])) _
          refine st395 _ ?_
          show Steps _ _ _ (T395.setTop (mkF m 243 (l_50 p0 p1 p2 p3 p4 (stF p0) b2 b3 v5 (stF p4) b8 b21 b42 b51 b63 b76 b90 (cmA p0 b2 b3 s0 s1 s3 s5) (1 : Int32)) [(.int (afF (afF (stF p0) b2 s0 s1 s3) b3 s0 s1 s3))])) _
          refine XS.bipush X395.here hx rfl (hb hby at_243) ?_
          exact kk)
        by_cases hc397 : (afF (afF (stF p0) b2 s0 s1 s3) b3 s0 s1 s3) = (73 : Int32)
        · have pre398 : ∀ tz, Steps p.tables e below (T395.setTop (mkF m 264 (l_51 p0 p1 p2 p3 p4 (stF p0) b2 b3 v5 (stF p4) b8 b21 b42 b51 b63 b76 b90 (cmA p0 b2 b3 s0 s1 s3 s5) (1 : Int32) (1 : Int32)) [(.int (1 : Int32)), (.int (cmA p0 b2 b3 s0 s1 s3 s5))])) tz → Steps p.tables e below (s₁.setTop (entryFrame m #[(.int p0), (.int p1), (.int p2), (.int p3), (.int p4)] maxLocals)) tz := fun tz kk => pre396 tz (by
            show Steps _ _ _ (T395.setTop (mkF m 245 (l_50 p0 p1 p2 p3 p4 (stF p0) b2 b3 v5 (stF p4) b8 b21 b42 b51 b63 b76 b90 (cmA p0 b2 b3 s0 s1 s3 s5) (1 : Int32)) [(.int (73 : Int32)), (.int (afF (afF (stF p0) b2 s0 s1 s3) b3 s0 s1 s3))])) _
            refine XS.icmpNo X395.here hx rfl (hb hby at_245) rfl (teq hc397).2 ?_
            show Steps _ _ _ (T395.setTop (mkF m 248 (l_50 p0 p1 p2 p3 p4 (stF p0) b2 b3 v5 (stF p4) b8 b21 b42 b51 b63 b76 b90 (cmA p0 b2 b3 s0 s1 s3 s5) (1 : Int32)) [])) _
            refine XS.iload X395.here hx rfl (hb hby at_248) rfl ?_
            show Steps _ _ _ (T395.setTop (mkF m 250 (l_50 p0 p1 p2 p3 p4 (stF p0) b2 b3 v5 (stF p4) b8 b21 b42 b51 b63 b76 b90 (cmA p0 b2 b3 s0 s1 s3 s5) (1 : Int32)) [(.int (1 : Int32))])) _
            refine XS.ifNo X395.here hx rfl (hb hby at_250) rfl ((if0 _ _).trans (feq (by decide)).1) ?_
            show Steps _ _ _ (T395.setTop (mkF m 253 (l_50 p0 p1 p2 p3 p4 (stF p0) b2 b3 v5 (stF p4) b8 b21 b42 b51 b63 b76 b90 (cmA p0 b2 b3 s0 s1 s3 s5) (1 : Int32)) [])) _
            refine XS.iconst X395.here hx rfl (hb hby at_253) ?_
            show Steps _ _ _ (T395.setTop (mkF m 254 (l_50 p0 p1 p2 p3 p4 (stF p0) b2 b3 v5 (stF p4) b8 b21 b42 b51 b63 b76 b90 (cmA p0 b2 b3 s0 s1 s3 s5) (1 : Int32)) [(.int (1 : Int32))])) _
            refine XS.goto X395.here hx rfl (pc0 := 254) (pc' := 258) rfl (hb hby at_254) (by decide) (by decide) ?_
            show Steps _ _ _ (T395.setTop (mkF m 258 (l_50 p0 p1 p2 p3 p4 (stF p0) b2 b3 v5 (stF p4) b8 b21 b42 b51 b63 b76 b90 (cmA p0 b2 b3 s0 s1 s3 s5) (1 : Int32)) [(.int (1 : Int32))])) _
            refine XS.istore X395.here hx rfl (hb hby at_258) rfl (l' := (l_51 p0 p1 p2 p3 p4 (stF p0) b2 b3 v5 (stF p4) b8 b21 b42 b51 b63 b76 b90 (cmA p0 b2 b3 s0 s1 s3 s5) (1 : Int32) (1 : Int32))) rfl ?_
            show Steps _ _ _ (T395.setTop (mkF m 260 (l_51 p0 p1 p2 p3 p4 (stF p0) b2 b3 v5 (stF p4) b8 b21 b42 b51 b63 b76 b90 (cmA p0 b2 b3 s0 s1 s3 s5) (1 : Int32) (1 : Int32)) [])) _
            refine XS.iload X395.here hx rfl (hb hby at_260) rfl ?_
            show Steps _ _ _ (T395.setTop (mkF m 262 (l_51 p0 p1 p2 p3 p4 (stF p0) b2 b3 v5 (stF p4) b8 b21 b42 b51 b63 b76 b90 (cmA p0 b2 b3 s0 s1 s3 s5) (1 : Int32) (1 : Int32)) [(.int (cmA p0 b2 b3 s0 s1 s3 s5))])) _
            refine XS.iload X395.here hx rfl (hb hby at_262) rfl ?_
            exact kk)
          by_cases hc399 : (cmA p0 b2 b3 s0 s1 s3 s5) = (1 : Int32)
          · obtain ⟨fs, hr, hrun, hended, hW, hsame⟩ := X395.leave (v := some (.int (1 : Int32))) (fun h => by rw [Bd.returns] at h; cases h)
            refine ⟨_, _, pre398 _ ?_, hrun, hended, _, _, rfl, ?_, ⟨_, rfl⟩, hW, hsame.mono (by decide) (by decide)⟩
            · show Steps _ _ _ (T395.setTop (mkF m 264 (l_51 p0 p1 p2 p3 p4 (stF p0) b2 b3 v5 (stF p4) b8 b21 b42 b51 b63 b76 b90 (cmA p0 b2 b3 s0 s1 s3 s5) (1 : Int32) (1 : Int32)) [(.int (1 : Int32)), (.int (cmA p0 b2 b3 s0 s1 s3 s5))])) _
              refine XS.icmpNo X395.here hx rfl (hb hby at_264) rfl (teq hc399).2 ?_
              show Steps _ _ _ (T395.setTop (mkF m 267 (l_51 p0 p1 p2 p3 p4 (stF p0) b2 b3 v5 (stF p4) b8 b21 b42 b51 b63 b76 b90 (cmA p0 b2 b3 s0 s1 s3 s5) (1 : Int32) (1 : Int32)) [])) _
              refine XS.iconst X395.here hx rfl (hb hby at_267) ?_
              show Steps _ _ _ (T395.setTop (mkF m 268 (l_51 p0 p1 p2 p3 p4 (stF p0) b2 b3 v5 (stF p4) b8 b21 b42 b51 b63 b76 b90 (cmA p0 b2 b3 s0 s1 s3 s5) (1 : Int32) (1 : Int32)) [(.int (1 : Int32))])) _
              refine XS.goto X395.here hx rfl (pc0 := 268) (pc' := 272) rfl (hb hby at_268) (by decide) (by decide) ?_
              show Steps _ _ _ (T395.setTop (mkF m 272 (l_51 p0 p1 p2 p3 p4 (stF p0) b2 b3 v5 (stF p4) b8 b21 b42 b51 b63 b76 b90 (cmA p0 b2 b3 s0 s1 s3 s5) (1 : Int32) (1 : Int32)) [(.int (1 : Int32))])) _
              exact retN X395 hx (t := .boolean) Bd.returns (by simp) (hb hby at_272) hr
            · show Q0 h0 n0 _ T395.heap _
              rw [e395]
              exact ⟨rfl, N395⟩
          · obtain ⟨fs, hr, hrun, hended, hW, hsame⟩ := X395.leave (v := some (.int (0 : Int32))) (fun h => by rw [Bd.returns] at h; cases h)
            refine ⟨_, _, pre398 _ ?_, hrun, hended, _, _, rfl, ?_, ⟨_, rfl⟩, hW, hsame.mono (by decide) (by decide)⟩
            · show Steps _ _ _ (T395.setTop (mkF m 264 (l_51 p0 p1 p2 p3 p4 (stF p0) b2 b3 v5 (stF p4) b8 b21 b42 b51 b63 b76 b90 (cmA p0 b2 b3 s0 s1 s3 s5) (1 : Int32) (1 : Int32)) [(.int (1 : Int32)), (.int (cmA p0 b2 b3 s0 s1 s3 s5))])) _
              refine XS.icmpYes X395.here hx rfl (pc0 := 264) (pc' := 271) rfl (hb hby at_264) rfl (feq hc399).2 (by decide) (by decide) ?_
              show Steps _ _ _ (T395.setTop (mkF m 271 (l_51 p0 p1 p2 p3 p4 (stF p0) b2 b3 v5 (stF p4) b8 b21 b42 b51 b63 b76 b90 (cmA p0 b2 b3 s0 s1 s3 s5) (1 : Int32) (1 : Int32)) [])) _
              refine XS.iconst X395.here hx rfl (hb hby at_271) ?_
              show Steps _ _ _ (T395.setTop (mkF m 272 (l_51 p0 p1 p2 p3 p4 (stF p0) b2 b3 v5 (stF p4) b8 b21 b42 b51 b63 b76 b90 (cmA p0 b2 b3 s0 s1 s3 s5) (1 : Int32) (1 : Int32)) [(.int (0 : Int32))])) _
              exact retN X395 hx (t := .boolean) Bd.returns (by simp) (hb hby at_272) hr
            · show Q0 h0 n0 _ T395.heap _
              rw [e395]
              exact absurd ((own_law d0 d1 d3 p0 _ (by rw [if_neg hc382, if_pos hc393])).trans (if_pos hc397)) hc399
        · have pre400 : ∀ tz, Steps p.tables e below (T395.setTop (mkF m 264 (l_51 p0 p1 p2 p3 p4 (stF p0) b2 b3 v5 (stF p4) b8 b21 b42 b51 b63 b76 b90 (cmA p0 b2 b3 s0 s1 s3 s5) (0 : Int32) (1 : Int32)) [(.int (0 : Int32)), (.int (cmA p0 b2 b3 s0 s1 s3 s5))])) tz → Steps p.tables e below (s₁.setTop (entryFrame m #[(.int p0), (.int p1), (.int p2), (.int p3), (.int p4)] maxLocals)) tz := fun tz kk => pre396 tz (by
            show Steps _ _ _ (T395.setTop (mkF m 245 (l_50 p0 p1 p2 p3 p4 (stF p0) b2 b3 v5 (stF p4) b8 b21 b42 b51 b63 b76 b90 (cmA p0 b2 b3 s0 s1 s3 s5) (1 : Int32)) [(.int (73 : Int32)), (.int (afF (afF (stF p0) b2 s0 s1 s3) b3 s0 s1 s3))])) _
            refine XS.icmpYes X395.here hx rfl (pc0 := 245) (pc' := 257) rfl (hb hby at_245) rfl (feq hc397).2 (by decide) (by decide) ?_
            show Steps _ _ _ (T395.setTop (mkF m 257 (l_50 p0 p1 p2 p3 p4 (stF p0) b2 b3 v5 (stF p4) b8 b21 b42 b51 b63 b76 b90 (cmA p0 b2 b3 s0 s1 s3 s5) (1 : Int32)) [])) _
            refine XS.iconst X395.here hx rfl (hb hby at_257) ?_
            show Steps _ _ _ (T395.setTop (mkF m 258 (l_50 p0 p1 p2 p3 p4 (stF p0) b2 b3 v5 (stF p4) b8 b21 b42 b51 b63 b76 b90 (cmA p0 b2 b3 s0 s1 s3 s5) (1 : Int32)) [(.int (0 : Int32))])) _
            refine XS.istore X395.here hx rfl (hb hby at_258) rfl (l' := (l_51 p0 p1 p2 p3 p4 (stF p0) b2 b3 v5 (stF p4) b8 b21 b42 b51 b63 b76 b90 (cmA p0 b2 b3 s0 s1 s3 s5) (0 : Int32) (1 : Int32))) rfl ?_
            show Steps _ _ _ (T395.setTop (mkF m 260 (l_51 p0 p1 p2 p3 p4 (stF p0) b2 b3 v5 (stF p4) b8 b21 b42 b51 b63 b76 b90 (cmA p0 b2 b3 s0 s1 s3 s5) (0 : Int32) (1 : Int32)) [])) _
            refine XS.iload X395.here hx rfl (hb hby at_260) rfl ?_
            show Steps _ _ _ (T395.setTop (mkF m 262 (l_51 p0 p1 p2 p3 p4 (stF p0) b2 b3 v5 (stF p4) b8 b21 b42 b51 b63 b76 b90 (cmA p0 b2 b3 s0 s1 s3 s5) (0 : Int32) (1 : Int32)) [(.int (cmA p0 b2 b3 s0 s1 s3 s5))])) _
            refine XS.iload X395.here hx rfl (hb hby at_262) rfl ?_
            exact kk)
          by_cases hc401 : (cmA p0 b2 b3 s0 s1 s3 s5) = (0 : Int32)
          · obtain ⟨fs, hr, hrun, hended, hW, hsame⟩ := X395.leave (v := some (.int (1 : Int32))) (fun h => by rw [Bd.returns] at h; cases h)
            refine ⟨_, _, pre400 _ ?_, hrun, hended, _, _, rfl, ?_, ⟨_, rfl⟩, hW, hsame.mono (by decide) (by decide)⟩
            · show Steps _ _ _ (T395.setTop (mkF m 264 (l_51 p0 p1 p2 p3 p4 (stF p0) b2 b3 v5 (stF p4) b8 b21 b42 b51 b63 b76 b90 (cmA p0 b2 b3 s0 s1 s3 s5) (0 : Int32) (1 : Int32)) [(.int (0 : Int32)), (.int (cmA p0 b2 b3 s0 s1 s3 s5))])) _
              refine XS.icmpNo X395.here hx rfl (hb hby at_264) rfl (teq hc401).2 ?_
              show Steps _ _ _ (T395.setTop (mkF m 267 (l_51 p0 p1 p2 p3 p4 (stF p0) b2 b3 v5 (stF p4) b8 b21 b42 b51 b63 b76 b90 (cmA p0 b2 b3 s0 s1 s3 s5) (0 : Int32) (1 : Int32)) [])) _
              refine XS.iconst X395.here hx rfl (hb hby at_267) ?_
              show Steps _ _ _ (T395.setTop (mkF m 268 (l_51 p0 p1 p2 p3 p4 (stF p0) b2 b3 v5 (stF p4) b8 b21 b42 b51 b63 b76 b90 (cmA p0 b2 b3 s0 s1 s3 s5) (0 : Int32) (1 : Int32)) [(.int (1 : Int32))])) _
              refine XS.goto X395.here hx rfl (pc0 := 268) (pc' := 272) rfl (hb hby at_268) (by decide) (by decide) ?_
              show Steps _ _ _ (T395.setTop (mkF m 272 (l_51 p0 p1 p2 p3 p4 (stF p0) b2 b3 v5 (stF p4) b8 b21 b42 b51 b63 b76 b90 (cmA p0 b2 b3 s0 s1 s3 s5) (0 : Int32) (1 : Int32)) [(.int (1 : Int32))])) _
              exact retN X395 hx (t := .boolean) Bd.returns (by simp) (hb hby at_272) hr
            · show Q0 h0 n0 _ T395.heap _
              rw [e395]
              exact ⟨rfl, N395⟩
          · obtain ⟨fs, hr, hrun, hended, hW, hsame⟩ := X395.leave (v := some (.int (0 : Int32))) (fun h => by rw [Bd.returns] at h; cases h)
            refine ⟨_, _, pre400 _ ?_, hrun, hended, _, _, rfl, ?_, ⟨_, rfl⟩, hW, hsame.mono (by decide) (by decide)⟩
            · show Steps _ _ _ (T395.setTop (mkF m 264 (l_51 p0 p1 p2 p3 p4 (stF p0) b2 b3 v5 (stF p4) b8 b21 b42 b51 b63 b76 b90 (cmA p0 b2 b3 s0 s1 s3 s5) (0 : Int32) (1 : Int32)) [(.int (0 : Int32)), (.int (cmA p0 b2 b3 s0 s1 s3 s5))])) _
              refine XS.icmpYes X395.here hx rfl (pc0 := 264) (pc' := 271) rfl (hb hby at_264) rfl (feq hc401).2 (by decide) (by decide) ?_
              show Steps _ _ _ (T395.setTop (mkF m 271 (l_51 p0 p1 p2 p3 p4 (stF p0) b2 b3 v5 (stF p4) b8 b21 b42 b51 b63 b76 b90 (cmA p0 b2 b3 s0 s1 s3 s5) (0 : Int32) (1 : Int32)) [])) _
              refine XS.iconst X395.here hx rfl (hb hby at_271) ?_
              show Steps _ _ _ (T395.setTop (mkF m 272 (l_51 p0 p1 p2 p3 p4 (stF p0) b2 b3 v5 (stF p4) b8 b21 b42 b51 b63 b76 b90 (cmA p0 b2 b3 s0 s1 s3 s5) (0 : Int32) (1 : Int32)) [(.int (0 : Int32))])) _
              exact retN X395 hx (t := .boolean) Bd.returns (by simp) (hb hby at_272) hr
            · show Q0 h0 n0 _ T395.heap _
              rw [e395]
              exact absurd ((own_law d0 d1 d3 p0 _ (by rw [if_neg hc382, if_pos hc393])).trans (if_neg hc397)) hc401
      · obtain ⟨_, _, ⟨T402, L402, k402, n402⟩, -, X402, ⟨Lc402, hQ402, l402, y402, z402⟩, st402⟩ := Jvm.LawKit.callS X391 hx (y := (⟨"com/example/onesnap/onesnap/node/TransactionTrackerCommitsAtSyncPinLaw", "after", "(CLcom/example/onesnap/onesnap/node/StatementKind;)C"⟩ : MethodName)) hown (mvT hZ (hw _ (tm 329 rfl))) (mvT hZ (hw _ (tm 330 rfl))) (mvT hZ (hw _ (tm 2 rfl))) (mvT hZ (hw _ (tm 331 rfl))) (by decide) (backOf (W := 0) (rm47 l Z a0 hw [] (stF p0) b2 (s0) (s1) (s3) T311.heap n0 Zz378 Od379 S0 S1 S3) hZ (hw _ (tm 331 rfl)) (hw _ (tm 2 rfl)) (by decide) (by decide)) (g := (mkF m 235 (l_50 p0 p1 p2 p3 p4 (stF p0) b2 b3 v5 (stF p4) b8 b21 b42 b51 b63 b76 b90 (cmA p0 b2 b3 s0 s1 s3 s5) (0 : Int32)) [(.ref b2), (.int (stF p0))])) rfl (by rw [hml]; rfl) (argsL := [(.int (stF p0)), (.ref b2)]) (rest := []) (lenOf pd__28CLcom_2fexample_2fonesnap_2fonesnap_2fnode_2fStatementKind_3b_29C rfl) rfl (by show 2 * 0 + _ ≤ _; exact Nat.le_of_eq rfl) (hb hby at_235) (fun _ _ => ⟨rfl, e391, (by decide : 33 + 0 ≤ _), (by decide : 138 + 0 ≤ _)⟩)
        dsimp only [Pt.U, Pt.locs, Pt.cells, Pt.slots] at X402 l402 y402 z402 st402 hQ402
        subst l402 y402 z402
        obtain ⟨rfl, N402q, e402⟩ := hQ402
        have N402 := Fr.app N350 N402q
        obtain ⟨_, _, ⟨T403, L403, k403, n403⟩, -, X403, ⟨Lc403, hQ403, l403, y403, z403⟩, st403⟩ := Jvm.LawKit.callS X402 hx (y := (⟨"com/example/onesnap/onesnap/node/TransactionTrackerCommitsAtSyncPinLaw", "after", "(CLcom/example/onesnap/onesnap/node/StatementKind;)C"⟩ : MethodName)) hown (mvT hZ (hw _ (tm 329 rfl))) (mvT hZ (hw _ (tm 330 rfl))) (mvT hZ (hw _ (tm 2 rfl))) (mvT hZ (hw _ (tm 331 rfl))) (by decide) (backOf (W := 0) (rm47 l Z a0 hw [] (afF (stF p0) b2 s0 s1 s3) b3 (s0) (s1) (s3) T311.heap n0 Zz378 Od379 S0 S1 S3) hZ (hw _ (tm 331 rfl)) (hw _ (tm 2 rfl)) (by decide) (by decide)) (g := (mkF m 240 (l_50 p0 p1 p2 p3 p4 (stF p0) b2 b3 v5 (stF p4) b8 b21 b42 b51 b63 b76 b90 (cmA p0 b2 b3 s0 s1 s3 s5) (0 : Int32)) [(.ref b3), (.int (afF (stF p0) b2 s0 s1 s3))])) rfl (by rw [hml]; rfl) (argsL := [(.int (afF (stF p0) b2 s0 s1 s3)), (.ref b3)]) (rest := []) (lenOf pd__28CLcom_2fexample_2fonesnap_2fonesnap_2fnode_2fStatementKind_3b_29C rfl) rfl (by show 2 * 0 + _ ≤ _; exact Nat.le_of_eq rfl) (hb hby at_240) (fun _ _ => ⟨rfl, e402, (by decide : 33 + 0 ≤ _), (by decide : 138 + 0 ≤ _)⟩)
        dsimp only [Pt.U, Pt.locs, Pt.cells, Pt.slots] at X403 l403 y403 z403 st403 hQ403
        subst l403 y403 z403
        obtain ⟨rfl, N403q, e403⟩ := hQ403
        have N403 := Fr.app N402 N403q
        have pre404 : ∀ tz, Steps p.tables e below (T403.setTop (mkF m 245 (l_50 p0 p1 p2 p3 p4 (stF p0) b2 b3 v5 (stF p4) b8 b21 b42 b51 b63 b76 b90 (cmA p0 b2 b3 s0 s1 s3 s5) (0 : Int32)) [(.int (73 : Int32)), (.int (afF (afF (stF p0) b2 s0 s1 s3) b3 s0 s1 s3))])) tz → Steps p.tables e below (s₁.setTop (entryFrame m #[(.int p0), (.int p1), (.int p2), (.int p3), (.int p4)] maxLocals)) tz := fun tz kk => pre392 tz (by
          show Steps _ _ _ (T391.setTop (mkF m 221 (l_49 p0 p1 p2 p3 p4 (stF p0) b2 b3 v5 (stF p4) b8 b21 b42 b51 b63 b76 b90 (cmA p0 b2 b3 s0 s1 s3 s5)) [(.ref s5), (.ref b3)])) _
          refine Jvm.RoadKit.acmp (g := (mkF m 221 (l_49 p0 p1 p2 p3 p4 (stF p0) b2 b3 v5 (stF p4) b8 b21 b42 b51 b63 b76 b90 (cmA p0 b2 b3 s0 s1 s3 s5)) [(.ref s5), (.ref b3)])) X391 hx rfl rfl rfl (pc0 := 221) (pc' := 228) (same := false) rfl (hb hby at_221) rfl (decide_eq_false fun q => hc393 (Value.ref.inj q)) (by decide) (by decide) ?_
          show Steps _ _ _ (T391.setTop (mkF m 228 (l_49 p0 p1 p2 p3 p4 (stF p0) b2 b3 v5 (stF p4) b8 b21 b42 b51 b63 b76 b90 (cmA p0 b2 b3 s0 s1 s3 s5)) [])) _
          refine XS.iconst X391.here hx rfl (hb hby at_228) ?_
          show Steps _ _ _ (T391.setTop (mkF m 229 (l_49 p0 p1 p2 p3 p4 (stF p0) b2 b3 v5 (stF p4) b8 b21 b42 b51 b63 b76 b90 (cmA p0 b2 b3 s0 s1 s3 s5)) [(.int (0 : Int32))])) _
          refine XS.istore X391.here hx rfl (hb hby at_229) rfl (l' := (l_50 p0 p1 p2 p3 p4 (stF p0) b2 b3 v5 (stF p4) b8 b21 b42 b51 b63 b76 b90 (cmA p0 b2 b3 s0 s1 s3 s5) (0 : Int32))) rfl ?_
          show Steps _ _ _ (T391.setTop (mkF m 231 (l_50 p0 p1 p2 p3 p4 (stF p0) b2 b3 v5 (stF p4) b8 b21 b42 b51 b63 b76 b90 (cmA p0 b2 b3 s0 s1 s3 s5) (0 : Int32)) [])) _
          refine XS.iload X391.here hx rfl (hb hby at_231) rfl ?_
          show Steps _ _ _ (T391.setTop (mkF m 233 (l_50 p0 p1 p2 p3 p4 (stF p0) b2 b3 v5 (stF p4) b8 b21 b42 b51 b63 b76 b90 (cmA p0 b2 b3 s0 s1 s3 s5) (0 : Int32)) [(.int (stF p0))])) _
          refine XS.aload X391.here hx rfl (hb hby at_233) rfl rfl ?_
          show Steps _ _ _ (T391.setTop (mkF m 235 (l_50 p0 p1 p2 p3 p4 (stF p0) b2 b3 v5 (stF p4) b8 b21 b42 b51 b63 b76 b90 (cmA p0 b2 b3 s0 s1 s3 s5) (0 : Int32)) [(.ref b2), (.int (stF p0))])) _
          refine st402 _ ?_
          show Steps _ _ _ (T402.setTop (mkF m 238 (l_50 p0 p1 p2 p3 p4 (stF p0) b2 b3 v5 (stF p4) b8 b21 b42 b51 b63 b76 b90 (cmA p0 b2 b3 s0 s1 s3 s5) (0 : Int32)) [(.int (afF (stF p0) b2 s0 s1 s3))])) _
          refine XS.aload X402.here hx rfl (hb hby at_238) rfl rfl ?_
          show Steps _ _ _ (T402.setTop (mkF m 240 (l_50 p0 p1 p2 p3 p4 (stF p0) b2 b3 v5 (stF p4) b8 b21 b42 b51 b63 b76 b90 (cmA p0 b2 b3 s0 s1 s3 s5) (0 : Int32)) [(.ref b3), (.int (afF (stF p0) b2 s0 s1 s3))])) _
          refine st403 _ ?_
          show Steps _ _ _ (T403.setTop (mkF m 243 (l_50 p0 p1 p2 p3 p4 (stF p0) b2 b3 v5 (stF p4) b8 b21 b42 b51 b63 b76 b90 (cmA p0 b2 b3 s0 s1 s3 s5) (0 : Int32)) [(.int (afF (afF (stF p0) b2 s0 s1 s3) b3 s0 s1 s3))])) _
          refine XS.bipush X403.here hx rfl (hb hby at_243) ?_
          exact kk)
        by_cases hc405 : (afF (afF (stF p0) b2 s0 s1 s3) b3 s0 s1 s3) = (73 : Int32)
        · have pre406 : ∀ tz, Steps p.tables e below (T403.setTop (mkF m 264 (l_51 p0 p1 p2 p3 p4 (stF p0) b2 b3 v5 (stF p4) b8 b21 b42 b51 b63 b76 b90 (cmA p0 b2 b3 s0 s1 s3 s5) (0 : Int32) (0 : Int32)) [(.int (0 : Int32)), (.int (cmA p0 b2 b3 s0 s1 s3 s5))])) tz → Steps p.tables e below (s₁.setTop (entryFrame m #[(.int p0), (.int p1), (.int p2), (.int p3), (.int p4)] maxLocals)) tz := fun tz kk => pre404 tz (by
            show Steps _ _ _ (T403.setTop (mkF m 245 (l_50 p0 p1 p2 p3 p4 (stF p0) b2 b3 v5 (stF p4) b8 b21 b42 b51 b63 b76 b90 (cmA p0 b2 b3 s0 s1 s3 s5) (0 : Int32)) [(.int (73 : Int32)), (.int (afF (afF (stF p0) b2 s0 s1 s3) b3 s0 s1 s3))])) _
            refine XS.icmpNo X403.here hx rfl (hb hby at_245) rfl (teq hc405).2 ?_
            show Steps _ _ _ (T403.setTop (mkF m 248 (l_50 p0 p1 p2 p3 p4 (stF p0) b2 b3 v5 (stF p4) b8 b21 b42 b51 b63 b76 b90 (cmA p0 b2 b3 s0 s1 s3 s5) (0 : Int32)) [])) _
            refine XS.iload X403.here hx rfl (hb hby at_248) rfl ?_
            show Steps _ _ _ (T403.setTop (mkF m 250 (l_50 p0 p1 p2 p3 p4 (stF p0) b2 b3 v5 (stF p4) b8 b21 b42 b51 b63 b76 b90 (cmA p0 b2 b3 s0 s1 s3 s5) (0 : Int32)) [(.int (0 : Int32))])) _
            refine XS.ifYes X403.here hx rfl (pc0 := 250) (pc' := 257) rfl (hb hby at_250) rfl ((if0 _ _).trans (teq (rfl : (0 : Int32) = (0 : Int32))).1) (by decide) (by decide) ?_
            show Steps _ _ _ (T403.setTop (mkF m 257 (l_50 p0 p1 p2 p3 p4 (stF p0) b2 b3 v5 (stF p4) b8 b21 b42 b51 b63 b76 b90 (cmA p0 b2 b3 s0 s1 s3 s5) (0 : Int32)) [])) _
            refine XS.iconst X403.here hx rfl (hb hby at_257) ?_
            show Steps _ _ _ (T403.setTop (mkF m 258 (l_50 p0 p1 p2 p3 p4 (stF p0) b2 b3 v5 (stF p4) b8 b21 b42 b51 b63 b76 b90 (cmA p0 b2 b3 s0 s1 s3 s5) (0 : Int32)) [(.int (0 : Int32))])) _
            refine XS.istore X403.here hx rfl (hb hby at_258) rfl (l' := (l_51 p0 p1 p2 p3 p4 (stF p0) b2 b3 v5 (stF p4) b8 b21 b42 b51 b63 b76 b90 (cmA p0 b2 b3 s0 s1 s3 s5) (0 : Int32) (0 : Int32))) rfl ?_
            show Steps _ _ _ (T403.setTop (mkF m 260 (l_51 p0 p1 p2 p3 p4 (stF p0) b2 b3 v5 (stF p4) b8 b21 b42 b51 b63 b76 b90 (cmA p0 b2 b3 s0 s1 s3 s5) (0 : Int32) (0 : Int32)) [])) _
            refine XS.iload X403.here hx rfl (hb hby at_260) rfl ?_
            show Steps _ _ _ (T403.setTop (mkF m 262 (l_51 p0 p1 p2 p3 p4 (stF p0) b2 b3 v5 (stF p4) b8 b21 b42 b51 b63 b76 b90 (cmA p0 b2 b3 s0 s1 s3 s5) (0 : Int32) (0 : Int32)) [(.int (cmA p0 b2 b3 s0 s1 s3 s5))])) _
            refine XS.iload X403.here hx rfl (hb hby at_262) rfl ?_
            exact kk)
          by_cases hc407 : (cmA p0 b2 b3 s0 s1 s3 s5) = (0 : Int32)
          · obtain ⟨fs, hr, hrun, hended, hW, hsame⟩ := X403.leave (v := some (.int (1 : Int32))) (fun h => by rw [Bd.returns] at h; cases h)
            refine ⟨_, _, pre406 _ ?_, hrun, hended, _, _, rfl, ?_, ⟨_, rfl⟩, hW, hsame.mono (by decide) (by decide)⟩
            · show Steps _ _ _ (T403.setTop (mkF m 264 (l_51 p0 p1 p2 p3 p4 (stF p0) b2 b3 v5 (stF p4) b8 b21 b42 b51 b63 b76 b90 (cmA p0 b2 b3 s0 s1 s3 s5) (0 : Int32) (0 : Int32)) [(.int (0 : Int32)), (.int (cmA p0 b2 b3 s0 s1 s3 s5))])) _
              refine XS.icmpNo X403.here hx rfl (hb hby at_264) rfl (teq hc407).2 ?_
              show Steps _ _ _ (T403.setTop (mkF m 267 (l_51 p0 p1 p2 p3 p4 (stF p0) b2 b3 v5 (stF p4) b8 b21 b42 b51 b63 b76 b90 (cmA p0 b2 b3 s0 s1 s3 s5) (0 : Int32) (0 : Int32)) [])) _
              refine XS.iconst X403.here hx rfl (hb hby at_267) ?_
              show Steps _ _ _ (T403.setTop (mkF m 268 (l_51 p0 p1 p2 p3 p4 (stF p0) b2 b3 v5 (stF p4) b8 b21 b42 b51 b63 b76 b90 (cmA p0 b2 b3 s0 s1 s3 s5) (0 : Int32) (0 : Int32)) [(.int (1 : Int32))])) _
              refine XS.goto X403.here hx rfl (pc0 := 268) (pc' := 272) rfl (hb hby at_268) (by decide) (by decide) ?_
              show Steps _ _ _ (T403.setTop (mkF m 272 (l_51 p0 p1 p2 p3 p4 (stF p0) b2 b3 v5 (stF p4) b8 b21 b42 b51 b63 b76 b90 (cmA p0 b2 b3 s0 s1 s3 s5) (0 : Int32) (0 : Int32)) [(.int (1 : Int32))])) _
              exact retN X403 hx (t := .boolean) Bd.returns (by simp) (hb hby at_272) hr
            · show Q0 h0 n0 _ T403.heap _
              rw [e403]
              exact ⟨rfl, N403⟩
          · obtain ⟨fs, hr, hrun, hended, hW, hsame⟩ := X403.leave (v := some (.int (0 : Int32))) (fun h => by rw [Bd.returns] at h; cases h)
            refine ⟨_, _, pre406 _ ?_, hrun, hended, _, _, rfl, ?_, ⟨_, rfl⟩, hW, hsame.mono (by decide) (by decide)⟩
            · show Steps _ _ _ (T403.setTop (mkF m 264 (l_51 p0 p1 p2 p3 p4 (stF p0) b2 b3 v5 (stF p4) b8 b21 b42 b51 b63 b76 b90 (cmA p0 b2 b3 s0 s1 s3 s5) (0 : Int32) (0 : Int32)) [(.int (0 : Int32)), (.int (cmA p0 b2 b3 s0 s1 s3 s5))])) _
              refine XS.icmpYes X403.here hx rfl (pc0 := 264) (pc' := 271) rfl (hb hby at_264) rfl (feq hc407).2 (by decide) (by decide) ?_
              show Steps _ _ _ (T403.setTop (mkF m 271 (l_51 p0 p1 p2 p3 p4 (stF p0) b2 b3 v5 (stF p4) b8 b21 b42 b51 b63 b76 b90 (cmA p0 b2 b3 s0 s1 s3 s5) (0 : Int32) (0 : Int32)) [])) _
              refine XS.iconst X403.here hx rfl (hb hby at_271) ?_
              show Steps _ _ _ (T403.setTop (mkF m 272 (l_51 p0 p1 p2 p3 p4 (stF p0) b2 b3 v5 (stF p4) b8 b21 b42 b51 b63 b76 b90 (cmA p0 b2 b3 s0 s1 s3 s5) (0 : Int32) (0 : Int32)) [(.int (0 : Int32))])) _
              exact retN X403 hx (t := .boolean) Bd.returns (by simp) (hb hby at_272) hr
            · show Q0 h0 n0 _ T403.heap _
              rw [e403]
              exact absurd ((own_law d0 d1 d3 p0 _ (by rw [if_neg hc382, if_neg hc393])).trans (if_pos hc405)) hc407
        · have pre408 : ∀ tz, Steps p.tables e below (T403.setTop (mkF m 264 (l_51 p0 p1 p2 p3 p4 (stF p0) b2 b3 v5 (stF p4) b8 b21 b42 b51 b63 b76 b90 (cmA p0 b2 b3 s0 s1 s3 s5) (0 : Int32) (0 : Int32)) [(.int (0 : Int32)), (.int (cmA p0 b2 b3 s0 s1 s3 s5))])) tz → Steps p.tables e below (s₁.setTop (entryFrame m #[(.int p0), (.int p1), (.int p2), (.int p3), (.int p4)] maxLocals)) tz := fun tz kk => pre404 tz (by
            show Steps _ _ _ (T403.setTop (mkF m 245 (l_50 p0 p1 p2 p3 p4 (stF p0) b2 b3 v5 (stF p4) b8 b21 b42 b51 b63 b76 b90 (cmA p0 b2 b3 s0 s1 s3 s5) (0 : Int32)) [(.int (73 : Int32)), (.int (afF (afF (stF p0) b2 s0 s1 s3) b3 s0 s1 s3))])) _
            refine XS.icmpYes X403.here hx rfl (pc0 := 245) (pc' := 257) rfl (hb hby at_245) rfl (feq hc405).2 (by decide) (by decide) ?_
            show Steps _ _ _ (T403.setTop (mkF m 257 (l_50 p0 p1 p2 p3 p4 (stF p0) b2 b3 v5 (stF p4) b8 b21 b42 b51 b63 b76 b90 (cmA p0 b2 b3 s0 s1 s3 s5) (0 : Int32)) [])) _
            refine XS.iconst X403.here hx rfl (hb hby at_257) ?_
            show Steps _ _ _ (T403.setTop (mkF m 258 (l_50 p0 p1 p2 p3 p4 (stF p0) b2 b3 v5 (stF p4) b8 b21 b42 b51 b63 b76 b90 (cmA p0 b2 b3 s0 s1 s3 s5) (0 : Int32)) [(.int (0 : Int32))])) _
            refine XS.istore X403.here hx rfl (hb hby at_258) rfl (l' := (l_51 p0 p1 p2 p3 p4 (stF p0) b2 b3 v5 (stF p4) b8 b21 b42 b51 b63 b76 b90 (cmA p0 b2 b3 s0 s1 s3 s5) (0 : Int32) (0 : Int32))) rfl ?_
            show Steps _ _ _ (T403.setTop (mkF m 260 (l_51 p0 p1 p2 p3 p4 (stF p0) b2 b3 v5 (stF p4) b8 b21 b42 b51 b63 b76 b90 (cmA p0 b2 b3 s0 s1 s3 s5) (0 : Int32) (0 : Int32)) [])) _
            refine XS.iload X403.here hx rfl (hb hby at_260) rfl ?_
            show Steps _ _ _ (T403.setTop (mkF m 262 (l_51 p0 p1 p2 p3 p4 (stF p0) b2 b3 v5 (stF p4) b8 b21 b42 b51 b63 b76 b90 (cmA p0 b2 b3 s0 s1 s3 s5) (0 : Int32) (0 : Int32)) [(.int (cmA p0 b2 b3 s0 s1 s3 s5))])) _
            refine XS.iload X403.here hx rfl (hb hby at_262) rfl ?_
            exact kk)
          by_cases hc409 : (cmA p0 b2 b3 s0 s1 s3 s5) = (0 : Int32)
          · obtain ⟨fs, hr, hrun, hended, hW, hsame⟩ := X403.leave (v := some (.int (1 : Int32))) (fun h => by rw [Bd.returns] at h; cases h)
            refine ⟨_, _, pre408 _ ?_, hrun, hended, _, _, rfl, ?_, ⟨_, rfl⟩, hW, hsame.mono (by decide) (by decide)⟩
            · show Steps _ _ _ (T403.setTop (mkF m 264 (l_51 p0 p1 p2 p3 p4 (stF p0) b2 b3 v5 (stF p4) b8 b21 b42 b51 b63 b76 b90 (cmA p0 b2 b3 s0 s1 s3 s5) (0 : Int32) (0 : Int32)) [(.int (0 : Int32)), (.int (cmA p0 b2 b3 s0 s1 s3 s5))])) _
              refine XS.icmpNo X403.here hx rfl (hb hby at_264) rfl (teq hc409).2 ?_
              show Steps _ _ _ (T403.setTop (mkF m 267 (l_51 p0 p1 p2 p3 p4 (stF p0) b2 b3 v5 (stF p4) b8 b21 b42 b51 b63 b76 b90 (cmA p0 b2 b3 s0 s1 s3 s5) (0 : Int32) (0 : Int32)) [])) _
              refine XS.iconst X403.here hx rfl (hb hby at_267) ?_
              show Steps _ _ _ (T403.setTop (mkF m 268 (l_51 p0 p1 p2 p3 p4 (stF p0) b2 b3 v5 (stF p4) b8 b21 b42 b51 b63 b76 b90 (cmA p0 b2 b3 s0 s1 s3 s5) (0 : Int32) (0 : Int32)) [(.int (1 : Int32))])) _
              refine XS.goto X403.here hx rfl (pc0 := 268) (pc' := 272) rfl (hb hby at_268) (by decide) (by decide) ?_
              show Steps _ _ _ (T403.setTop (mkF m 272 (l_51 p0 p1 p2 p3 p4 (stF p0) b2 b3 v5 (stF p4) b8 b21 b42 b51 b63 b76 b90 (cmA p0 b2 b3 s0 s1 s3 s5) (0 : Int32) (0 : Int32)) [(.int (1 : Int32))])) _
              exact retN X403 hx (t := .boolean) Bd.returns (by simp) (hb hby at_272) hr
            · show Q0 h0 n0 _ T403.heap _
              rw [e403]
              exact ⟨rfl, N403⟩
          · obtain ⟨fs, hr, hrun, hended, hW, hsame⟩ := X403.leave (v := some (.int (0 : Int32))) (fun h => by rw [Bd.returns] at h; cases h)
            refine ⟨_, _, pre408 _ ?_, hrun, hended, _, _, rfl, ?_, ⟨_, rfl⟩, hW, hsame.mono (by decide) (by decide)⟩
            · show Steps _ _ _ (T403.setTop (mkF m 264 (l_51 p0 p1 p2 p3 p4 (stF p0) b2 b3 v5 (stF p4) b8 b21 b42 b51 b63 b76 b90 (cmA p0 b2 b3 s0 s1 s3 s5) (0 : Int32) (0 : Int32)) [(.int (0 : Int32)), (.int (cmA p0 b2 b3 s0 s1 s3 s5))])) _
              refine XS.icmpYes X403.here hx rfl (pc0 := 264) (pc' := 271) rfl (hb hby at_264) rfl (feq hc409).2 (by decide) (by decide) ?_
              show Steps _ _ _ (T403.setTop (mkF m 271 (l_51 p0 p1 p2 p3 p4 (stF p0) b2 b3 v5 (stF p4) b8 b21 b42 b51 b63 b76 b90 (cmA p0 b2 b3 s0 s1 s3 s5) (0 : Int32) (0 : Int32)) [])) _
              refine XS.iconst X403.here hx rfl (hb hby at_271) ?_
              show Steps _ _ _ (T403.setTop (mkF m 272 (l_51 p0 p1 p2 p3 p4 (stF p0) b2 b3 v5 (stF p4) b8 b21 b42 b51 b63 b76 b90 (cmA p0 b2 b3 s0 s1 s3 s5) (0 : Int32) (0 : Int32)) [(.int (0 : Int32))])) _
              exact retN X403 hx (t := .boolean) Bd.returns (by simp) (hb hby at_272) hr
            · show Q0 h0 n0 _ T403.heap _
              rw [e403]
              exact absurd ((own_law d0 d1 d3 p0 _ (by rw [if_neg hc382, if_neg hc393])).trans (if_neg hc405)) hc409
  · have Ex411 := (Ex312.keep K311)
    have Ex412 := (Ex313.keep K311)
    have Ex413 := (Ex314.keep K311)
    have Av414 := (Av315.keep K311 (ninS (Ne.symm ne_b90_b142_t) nin0))
    have Av415 := (Av316.keep K311 (ninS (Ne.symm ne_b90_b142_v1) nin0))
    have Ex416 := (Ex317.keep K311)
    have Av417 := (Av318.keep K311 (ninS ne_b15_da_b90 nin0))
    have Ex418 := (Ex319.keep K311)
    have Av419 := (Av320.keep K311 (ninS (Ne.symm ne_b90_b165_v1) nin0))
    have Ex420 := (Ex321.keep K311)
    have Ex421 := (Ex322.keep K311)
    have Av422 := (Av323.keep K311 (ninS (Ne.symm ne_b90_b185_t) nin0))
    have Av423 := (Av324.keep K311 (ninS (Ne.symm ne_b90_b185_v1) nin0))
    have Ex424 := (Ex325.keep K311)
    have Ex425 := (Ex326.keep K311)
    have Ex426 := (Ex327.keep K311)
    have Ex427 := (Ex328.keep K311)
    have Av428 := (Av329.keep K311 (ninS (Ne.symm ne_b90_b217_v1) nin0))
    have Ex429 := (Ex330.keep K311)
    have Ex430 := (Ex331.keep K311)
    have Av431 := (Av332.keep K311 (ninS ne_b34_da_b90 nin0))
    have Ex432 := (Ex333.keep K311)
    have Ex433 := (Ex334.keep K311)
    have Ex434 := (Ex335.keep K311)
    have Ex435 := (Ex336.keep K311)
    have Ex436 := (Ex337.keep K311)
    have Av437 := (Av338.keep K311 (ninS ne_de_b90 nin0))
    have Zz438 := (Nat.le_trans Zz339 K311.1)
    obtain ⟨cq410, kq410, q410a, q410b, q410c⟩ := isOf hZ rfl Pc311_0
    obtain ⟨_, _, ⟨T410, L410, k410, n410⟩, -, X410, ⟨Lc410, hQ410, l410, y410, z410⟩, st410⟩ := X311.virtualBack hx (y := (⟨"com/example/onesnap/onesnap/node/TransactionTracker", "ready", "(C)V"⟩ : MethodName)) (z := (⟨"com/example/onesnap/onesnap/node/TransactionTracker", "ready", "(C)V"⟩ : MethodName)) hown (mvT hZ (hw _ (tm 100 rfl))) (mvT hZ (hw _ (tm 101 rfl))) (notFace_of_selects (args := #[]) (mvT hZ (hw _ (tm 103 rfl)))) (mvT hZ (hw _ (tm 103 rfl))) (mvT hZ (hw _ (tm 102 rfl))) (by decide) (backOf (W := 0) (rm15 l Z a0 hw [] b90 (stF p4) ((exS (exS (nar .char (stF p0)) (0 : Int32) b2 s0 s1 s3 s5) (exW (nar .char (stF p0)) (0 : Int32) b2 s0 s1 s3 s5) b3 s0 s1 s3 s5)) ((exW (exS (nar .char (stF p0)) (0 : Int32) b2 s0 s1 s3 s5) (exW (nar .char (stF p0)) (0 : Int32) b2 s0 s1 s3 s5) b3 s0 s1 s3 s5)) (b128_m1) (b128_m2) T311.heap n0 Zz438 Pc311_0 Pc311_1 Pc311_2 Pc311_3 Pc311_4 g_b90) hZ (hw _ (tm 104 rfl)) (hw _ (tm 73 rfl)) (by decide) (by decide)) q410a q410c (g := (mkF m 187 (l_48 p0 p1 p2 p3 p4 (stF p0) b2 b3 v5 (stF p4) b8 b21 b42 b51 b63 b76 b90) [(.int (stF p4)), (.ref b90)])) rfl (by rw [hml]; rfl) (Steps.refl _) (argsL := [(.int (stF p4))]) (rest := []) (lenOf pd__28C_29V rfl) rfl (by show 2 * 0 + _ ≤ _; exact Nat.le_of_eq rfl) (hb hby at_187) (fun _ _ => ⟨rfl, rfl, (by decide : 33 + 0 ≤ _), (by decide : 138 + 0 ≤ _)⟩)
    dsimp only [Pt.U, Pt.locs, Pt.cells, Pt.slots] at X410 l410 y410 z410 st410 hQ410
    subst l410 y410 z410
    obtain ⟨rfl, N410q, K410, Pc410_0, Pc410_1, Pc410_2, Pc410_3, Pc410_4⟩ := hQ410
    have N410 := Fr.app N311 N410q
    have Ex440 := (Ex411.keep K410)
    have Ex441 := (Ex412.keep K410)
    have Ex442 := (Ex413.keep K410)
    have Av443 := (Av414.keep K410 (ninS (Ne.symm ne_b90_b142_t) nin0))
    have Av444 := (Av415.keep K410 (ninS (Ne.symm ne_b90_b142_v1) nin0))
    have Ex445 := (Ex416.keep K410)
    have Av446 := (Av417.keep K410 (ninS ne_b15_da_b90 nin0))
    have Ex447 := (Ex418.keep K410)
    have Av448 := (Av419.keep K410 (ninS (Ne.symm ne_b90_b165_v1) nin0))
    have Ex449 := (Ex420.keep K410)
    have Ex450 := (Ex421.keep K410)
    have Av451 := (Av422.keep K410 (ninS (Ne.symm ne_b90_b185_t) nin0))
    have Av452 := (Av423.keep K410 (ninS (Ne.symm ne_b90_b185_v1) nin0))
    have Ex453 := (Ex424.keep K410)
    have Ex454 := (Ex425.keep K410)
    have Ex455 := (Ex426.keep K410)
    have Ex456 := (Ex427.keep K410)
    have Av457 := (Av428.keep K410 (ninS (Ne.symm ne_b90_b217_v1) nin0))
    have Ex458 := (Ex429.keep K410)
    have Ex459 := (Ex430.keep K410)
    have Av460 := (Av431.keep K410 (ninS ne_b34_da_b90 nin0))
    have Ex461 := (Ex432.keep K410)
    have Ex462 := (Ex433.keep K410)
    have Ex463 := (Ex434.keep K410)
    have Ex464 := (Ex435.keep K410)
    have Ex465 := (Ex436.keep K410)
    have Av466 := (Av437.keep K410 (ninS ne_de_b90 nin0))
    have Zz467 := (Nat.le_trans Zz438 K410.1)
    obtain ⟨cq439, kq439, q439a, q439b, q439c⟩ := isOf hZ rfl Pc410_0
    obtain ⟨_, _, ⟨T439, L439, k439, n439⟩, -, X439, ⟨Lc439, hQ439, l439, y439, z439⟩, st439⟩ := X410.virtualBack hx (y := (⟨"com/example/onesnap/onesnap/node/TransactionTracker", "commitsAtSync", "()Z"⟩ : MethodName)) (z := (⟨"com/example/onesnap/onesnap/node/TransactionTracker", "commitsAtSync", "()Z"⟩ : MethodName)) hown (mvT hZ (hw _ (tm 319 rfl))) (mvT hZ (hw _ (tm 320 rfl))) (notFace_of_selects (args := #[]) (mvT hZ (hw _ (tm 322 rfl)))) (mvT hZ (hw _ (tm 322 rfl))) (mvT hZ (hw _ (tm 321 rfl))) (by decide) (backOf (W := 0) (rm46 l Z a0 hw [] b90 ((nar .char (stF p4))) ((0 : Int32)) T410.heap n0 Zz467 Pc410_1 Pc410_4) hZ (hw _ (tm 323 rfl)) (hw _ (tm 73 rfl)) (by decide) (by decide)) q439a q439c (g := (mkF m 192 (l_48 p0 p1 p2 p3 p4 (stF p0) b2 b3 v5 (stF p4) b8 b21 b42 b51 b63 b76 b90) [(.ref b90)])) rfl (by rw [hml]; rfl) (Steps.refl _) (argsL := []) (rest := []) (lenOf pd__28_29Z rfl) rfl (by show 2 * 0 + _ ≤ _; exact Nat.le_of_eq rfl) (hb hby at_192) (fun _ _ => ⟨rfl, rfl, (by decide : 33 + 0 ≤ _), (by decide : 138 + 0 ≤ _)⟩)
    dsimp only [Pt.U, Pt.locs, Pt.cells, Pt.slots] at X439 l439 y439 z439 st439 hQ439
    subst l439 y439 z439
    obtain ⟨rfl, N439q, e439⟩ := hQ439
    have N439 := Fr.app N410 N439q
    have pre468 : ∀ tz, Steps p.tables e below (T439.setTop (mkF m 264 (l_52 p0 p1 p2 p3 p4 (stF p0) b2 b3 v5 (stF p4) b8 b21 b42 b51 b63 b76 b90 (cmF (nar .char (stF p4)) (0 : Int32)) (0 : Int32)) [(.int (0 : Int32)), (.int (cmF (nar .char (stF p4)) (0 : Int32)))])) tz → Steps p.tables e below (s₁.setTop (entryFrame m #[(.int p0), (.int p1), (.int p2), (.int p3), (.int p4)] maxLocals)) tz := fun tz kk => pre348 tz (by
      show Steps _ _ _ (T311.setTop (mkF m 180 (l_48 p0 p1 p2 p3 p4 (stF p0) b2 b3 v5 (stF p4) b8 b21 b42 b51 b63 b76 b90) [(.int v5)])) _
      refine XS.ifNo X311.here hx rfl (hb hby at_180) rfl ((if0 _ _).trans (feq hc349).1) ?_
      show Steps _ _ _ (T311.setTop (mkF m 183 (l_48 p0 p1 p2 p3 p4 (stF p0) b2 b3 v5 (stF p4) b8 b21 b42 b51 b63 b76 b90) [])) _
      refine XS.aload X311.here hx rfl (hb hby at_183) rfl rfl ?_
      show Steps _ _ _ (T311.setTop (mkF m 185 (l_48 p0 p1 p2 p3 p4 (stF p0) b2 b3 v5 (stF p4) b8 b21 b42 b51 b63 b76 b90) [(.ref b90)])) _
      refine XS.iload X311.here hx rfl (hb hby at_185) rfl ?_
      show Steps _ _ _ (T311.setTop (mkF m 187 (l_48 p0 p1 p2 p3 p4 (stF p0) b2 b3 v5 (stF p4) b8 b21 b42 b51 b63 b76 b90) [(.int (stF p4)), (.ref b90)])) _
      refine st410.trans ?_
      show Steps _ _ _ (T410.setTop (mkF m 190 (l_48 p0 p1 p2 p3 p4 (stF p0) b2 b3 v5 (stF p4) b8 b21 b42 b51 b63 b76 b90) [])) _
      refine XS.aload X410.here hx rfl (hb hby at_190) rfl rfl ?_
      show Steps _ _ _ (T410.setTop (mkF m 192 (l_48 p0 p1 p2 p3 p4 (stF p0) b2 b3 v5 (stF p4) b8 b21 b42 b51 b63 b76 b90) [(.ref b90)])) _
      refine st439.trans ?_
      show Steps _ _ _ (T439.setTop (mkF m 195 (l_48 p0 p1 p2 p3 p4 (stF p0) b2 b3 v5 (stF p4) b8 b21 b42 b51 b63 b76 b90) [(.int (cmF (nar .char (stF p4)) (0 : Int32)))])) _
      refine XS.istore X439.here hx rfl (hb hby at_195) rfl (l' := (l_49 p0 p1 p2 p3 p4 (stF p0) b2 b3 v5 (stF p4) b8 b21 b42 b51 b63 b76 b90 (cmF (nar .char (stF p4)) (0 : Int32)))) rfl ?_
      show Steps _ _ _ (T439.setTop (mkF m 197 (l_49 p0 p1 p2 p3 p4 (stF p0) b2 b3 v5 (stF p4) b8 b21 b42 b51 b63 b76 b90 (cmF (nar .char (stF p4)) (0 : Int32))) [])) _
      refine XS.iload X439.here hx rfl (hb hby at_197) rfl ?_
      show Steps _ _ _ (T439.setTop (mkF m 199 (l_49 p0 p1 p2 p3 p4 (stF p0) b2 b3 v5 (stF p4) b8 b21 b42 b51 b63 b76 b90 (cmF (nar .char (stF p4)) (0 : Int32))) [(.int v5)])) _
      refine XS.ifNo X439.here hx rfl (hb hby at_199) rfl ((if0 _ _).trans (feq hc349).1) ?_
      show Steps _ _ _ (T439.setTop (mkF m 202 (l_49 p0 p1 p2 p3 p4 (stF p0) b2 b3 v5 (stF p4) b8 b21 b42 b51 b63 b76 b90 (cmF (nar .char (stF p4)) (0 : Int32))) [])) _
      refine XS.iconst X439.here hx rfl (hb hby at_202) ?_
      show Steps _ _ _ (T439.setTop (mkF m 203 (l_49 p0 p1 p2 p3 p4 (stF p0) b2 b3 v5 (stF p4) b8 b21 b42 b51 b63 b76 b90 (cmF (nar .char (stF p4)) (0 : Int32))) [(.int (0 : Int32))])) _
      refine XS.istore X439.here hx rfl (hb hby at_203) rfl (l' := (l_52 p0 p1 p2 p3 p4 (stF p0) b2 b3 v5 (stF p4) b8 b21 b42 b51 b63 b76 b90 (cmF (nar .char (stF p4)) (0 : Int32)) (0 : Int32))) rfl ?_
      show Steps _ _ _ (T439.setTop (mkF m 205 (l_52 p0 p1 p2 p3 p4 (stF p0) b2 b3 v5 (stF p4) b8 b21 b42 b51 b63 b76 b90 (cmF (nar .char (stF p4)) (0 : Int32)) (0 : Int32)) [])) _
      refine XS.goto X439.here hx rfl (pc0 := 205) (pc' := 260) rfl (hb hby at_205) (by decide) (by decide) ?_
      show Steps _ _ _ (T439.setTop (mkF m 260 (l_52 p0 p1 p2 p3 p4 (stF p0) b2 b3 v5 (stF p4) b8 b21 b42 b51 b63 b76 b90 (cmF (nar .char (stF p4)) (0 : Int32)) (0 : Int32)) [])) _
      refine XS.iload X439.here hx rfl (hb hby at_260) rfl ?_
      show Steps _ _ _ (T439.setTop (mkF m 262 (l_52 p0 p1 p2 p3 p4 (stF p0) b2 b3 v5 (stF p4) b8 b21 b42 b51 b63 b76 b90 (cmF (nar .char (stF p4)) (0 : Int32)) (0 : Int32)) [(.int (cmF (nar .char (stF p4)) (0 : Int32)))])) _
      refine XS.iload X439.here hx rfl (hb hby at_262) rfl ?_
      exact kk)
    by_cases hc469 : (cmF (nar .char (stF p4)) (0 : Int32)) = (0 : Int32)
    · obtain ⟨fs, hr, hrun, hended, hW, hsame⟩ := X439.leave (v := some (.int (1 : Int32))) (fun h => by rw [Bd.returns] at h; cases h)
      refine ⟨_, _, pre468 _ ?_, hrun, hended, _, _, rfl, ?_, ⟨_, rfl⟩, hW, hsame.mono (by decide) (by decide)⟩
      · show Steps _ _ _ (T439.setTop (mkF m 264 (l_52 p0 p1 p2 p3 p4 (stF p0) b2 b3 v5 (stF p4) b8 b21 b42 b51 b63 b76 b90 (cmF (nar .char (stF p4)) (0 : Int32)) (0 : Int32)) [(.int (0 : Int32)), (.int (cmF (nar .char (stF p4)) (0 : Int32)))])) _
        refine XS.icmpNo X439.here hx rfl (hb hby at_264) rfl (teq hc469).2 ?_
        show Steps _ _ _ (T439.setTop (mkF m 267 (l_52 p0 p1 p2 p3 p4 (stF p0) b2 b3 v5 (stF p4) b8 b21 b42 b51 b63 b76 b90 (cmF (nar .char (stF p4)) (0 : Int32)) (0 : Int32)) [])) _
        refine XS.iconst X439.here hx rfl (hb hby at_267) ?_
        show Steps _ _ _ (T439.setTop (mkF m 268 (l_52 p0 p1 p2 p3 p4 (stF p0) b2 b3 v5 (stF p4) b8 b21 b42 b51 b63 b76 b90 (cmF (nar .char (stF p4)) (0 : Int32)) (0 : Int32)) [(.int (1 : Int32))])) _
        refine XS.goto X439.here hx rfl (pc0 := 268) (pc' := 272) rfl (hb hby at_268) (by decide) (by decide) ?_
        show Steps _ _ _ (T439.setTop (mkF m 272 (l_52 p0 p1 p2 p3 p4 (stF p0) b2 b3 v5 (stF p4) b8 b21 b42 b51 b63 b76 b90 (cmF (nar .char (stF p4)) (0 : Int32)) (0 : Int32)) [(.int (1 : Int32))])) _
        exact retN X439 hx (t := .boolean) Bd.returns (by simp) (hb hby at_272) hr
      · show Q0 h0 n0 _ T439.heap _
        rw [e439]
        exact ⟨rfl, N439⟩
    · obtain ⟨fs, hr, hrun, hended, hW, hsame⟩ := X439.leave (v := some (.int (0 : Int32))) (fun h => by rw [Bd.returns] at h; cases h)
      refine ⟨_, _, pre468 _ ?_, hrun, hended, _, _, rfl, ?_, ⟨_, rfl⟩, hW, hsame.mono (by decide) (by decide)⟩
      · show Steps _ _ _ (T439.setTop (mkF m 264 (l_52 p0 p1 p2 p3 p4 (stF p0) b2 b3 v5 (stF p4) b8 b21 b42 b51 b63 b76 b90 (cmF (nar .char (stF p4)) (0 : Int32)) (0 : Int32)) [(.int (0 : Int32)), (.int (cmF (nar .char (stF p4)) (0 : Int32)))])) _
        refine XS.icmpYes X439.here hx rfl (pc0 := 264) (pc' := 271) rfl (hb hby at_264) rfl (feq hc469).2 (by decide) (by decide) ?_
        show Steps _ _ _ (T439.setTop (mkF m 271 (l_52 p0 p1 p2 p3 p4 (stF p0) b2 b3 v5 (stF p4) b8 b21 b42 b51 b63 b76 b90 (cmF (nar .char (stF p4)) (0 : Int32)) (0 : Int32)) [])) _
        refine XS.iconst X439.here hx rfl (hb hby at_271) ?_
        show Steps _ _ _ (T439.setTop (mkF m 272 (l_52 p0 p1 p2 p3 p4 (stF p0) b2 b3 v5 (stF p4) b8 b21 b42 b51 b63 b76 b90 (cmF (nar .char (stF p4)) (0 : Int32)) (0 : Int32)) [(.int (0 : Int32))])) _
        exact retN X439 hx (t := .boolean) Bd.returns (by simp) (hb hby at_272) hr
      · show Q0 h0 n0 _ T439.heap _
        rw [e439]
        exact absurd (own_again _) hc469
theorem own_eqi {args : Array Value} {first s : State} {o : Option Outcome} {idx : List Nat} {a : Term} {n : Int32} (h : (Cond.eq a (.int n)).value args first o s idx = some true) : a.eval args first o idx s = some (.int n) := by
  obtain ⟨x, y, h1, h2, -, k⟩ := cmp_v (Or.inl h)
  have e : y = .int n := Option.some.inj (h2.symm.trans (Term.int_eval n))
  subst e
  obtain ⟨z, rfl⟩ := k
  rw [h1]
  by_cases q : z = n
  · rw [q]
  · simp [Cond.value, h1, h2, q] at h
theorem own_ord {s : State} {a b : Addr} {C n d : String} {x y : Int32} (f : s.fieldOf? a C n d = some (.int x)) (g : s.fieldOf? b C n d = some (.int y)) (q : x ≠ y) : a ≠ b := fun e => by
  rw [e, g] at f
  exact q (Value.int.inj (Option.some.inj f)).symm
set_option maxRecDepth 65536 in
set_option maxHeartbeats 40000000 in
theorem comes_1 {Post : Tables → Env → Array Value → State → Outcome → State → Prop} (hpost : ∀ tb e args s v u, (limb_1_1.after args s (.returned v) u = true ∧ limb_1_2.after args s (.returned v) u = true ∧ True) → FrameEnd s (.returned v) u (Jvm.fieldLocs frame_1_writes args s ++ Jvm.arrayLocs frame_1_arrays args s ++ Jvm.staticLocs frame_1_statics s) 80 384 → Post tb e args s (.returned v) u) :
    ArmFor flags0 classFile x code maxLocals ret World_1 tables_1 room_1 Calls_1 rest_1 Pre_1 Post := by
  intro l hfl _ _ p e ha hc hk s m args below hf hA hF happ hP
  obtain ⟨hcalls, hrest, hpre⟩ := hP
  obtain ⟨-, -, -, hnamed, -, -, -, hat⟩ := (Spec.applies_iff hf).mp happ
  obtain ⟨hg, hn⟩ := and_e (Cond.before_iff.mp (show (Jvm.Cond.and given_1 narrow_1).before args s = true from hpre))
  obtain ⟨gg1, gg2⟩ := and_e hg
  obtain ⟨gg3, gg4⟩ := and_e gg2
  obtain ⟨gg5, gg6⟩ := and_e gg4
  obtain ⟨gg7, gg8⟩ := and_e gg6
  obtain ⟨gg9, gg10⟩ := and_e gg8
  obtain ⟨w0, w1, w2, w3, w4, rfl⟩ : ∃ w0 w1 w2 w3 w4 : Value, args = #[w0, w1, w2, w3, w4] := by
    have hs : args.size = 5 := by simpa [Cond.value, given_1] using gg1
    obtain ⟨L⟩ := args
    match L, hs with
    | [w0, w1, w2, w3, w4], _ => exact ⟨w0, w1, w2, w3, w4, rfl⟩
  have hw := fun d (hd : d ∈ tables_1) => atoms_spec (ws := Jvm.Cond.code x code maxLocals ret :: tables_1) hat d (List.mem_cons_of_mem _ hd)
  have hfit : Fit s := fun {y c} hc i hi => by
    obtain ⟨ha, rfl⟩ := Array.getElem?_eq_some_iff.mp hc
    have q := List.all_eq_true.mp ((Array.all_eq_true_iff_forall_mem.mp hF) _ (Array.getElem_mem ha)) i (List.mem_range.mpr hi)
    simpa [Array.getElem?_eq_getElem hi] using q
  obtain ⟨hsets, hown0⟩ := atoms_of _ (rest_1_c_eq ▸ (show rest_1_c.before _ s = true from hrest))
  have hr0 := Cond.before_iff.mp hown0
  obtain ⟨i0, ei0⟩ := is_v gg3
  obtain rfl : w0 = (.int i0) := Option.some.inj ei0
  obtain ⟨i1, ei1⟩ := is_v gg5
  obtain rfl : w1 = (.int i1) := Option.some.inj ei1
  obtain ⟨i2, ei2⟩ := is_v gg7
  obtain rfl : w2 = (.int i2) := Option.some.inj ei2
  obtain ⟨i3, ei3⟩ := is_v gg9
  obtain rfl : w3 = (.int i3) := Option.some.inj ei3
  obtain ⟨i4, ei4⟩ := is_v gg10
  obtain rfl : w4 = (.int i4) := Option.some.inj ei4
  obtain ⟨nx3, m0⟩ := and_e hn
  obtain ⟨nx2, m1⟩ := and_e m0
  obtain ⟨nx5, m2⟩ := and_e m1
  obtain ⟨nx0, m3⟩ := and_e m2
  obtain ⟨no3, m4⟩ := and_e m3
  obtain ⟨no0, m5⟩ := and_e m4
  obtain ⟨nx1, m6⟩ := and_e m5
  obtain ⟨no1, m7⟩ := and_e m6
  obtain ⟨no2, m8⟩ := and_e m7
  obtain ⟨no5, m9⟩ := and_e m8
  obtain ⟨nx4, m10⟩ := and_e m9
  obtain ⟨no4, m11⟩ := and_e m10
  obtain ⟨nx6, m12⟩ := and_e m11
  have no6 := m12
  obtain ⟨s0, es0⟩ := exa_v nx0
  have E0 : Exa s s.heap s0 "com/example/onesnap/onesnap/node/StatementKind" := exa_at es0 nx0
  have S0 : Sta s s.heap "com/example/onesnap/onesnap/node/StatementKind" "BEGIN" "Lcom/example/onesnap/onesnap/node/StatementKind;" (.ref s0) := Sta.start es0 (Or.inr ⟨(hw _ (tm 9 rfl)), (hw _ (tm 315 rfl))⟩)
  have f0 := (fld_at es0).symm.trans (own_eqi no0)
  obtain ⟨s1, es1⟩ := exa_v nx1
  have E1 : Exa s s.heap s1 "com/example/onesnap/onesnap/node/StatementKind" := exa_at es1 nx1
  have S1 : Sta s s.heap "com/example/onesnap/onesnap/node/StatementKind" "COMMIT" "Lcom/example/onesnap/onesnap/node/StatementKind;" (.ref s1) := Sta.start es1 (Or.inr ⟨(hw _ (tm 9 rfl)), (hw _ (tm 317 rfl))⟩)
  have f1 := (fld_at es1).symm.trans (own_eqi no1)
  obtain ⟨s2, es2⟩ := exa_v nx2
  have E2 : Exa s s.heap s2 "com/example/onesnap/onesnap/node/StatementKind" := exa_at es2 nx2
  have S2 : Sta s s.heap "com/example/onesnap/onesnap/node/StatementKind" "COMMIT_AND_CHAIN" "Lcom/example/onesnap/onesnap/node/StatementKind;" (.ref s2) := Sta.start es2 (Or.inr ⟨(hw _ (tm 9 rfl)), (hw _ (tm 12 rfl))⟩)
  obtain ⟨s3, es3⟩ := exa_v nx3
  have E3 : Exa s s.heap s3 "com/example/onesnap/onesnap/node/StatementKind" := exa_at es3 nx3
  have S3 : Sta s s.heap "com/example/onesnap/onesnap/node/StatementKind" "ROLLBACK" "Lcom/example/onesnap/onesnap/node/StatementKind;" (.ref s3) := Sta.start es3 (Or.inr ⟨(hw _ (tm 9 rfl)), (hw _ (tm 10 rfl))⟩)
  have f3 := (fld_at es3).symm.trans (own_eqi no3)
  obtain ⟨s4, es4⟩ := exa_v nx4
  have E4 : Exa s s.heap s4 "com/example/onesnap/onesnap/node/StatementKind" := exa_at es4 nx4
  have S4 : Sta s s.heap "com/example/onesnap/onesnap/node/StatementKind" "CONTROL" "Lcom/example/onesnap/onesnap/node/StatementKind;" (.ref s4) := Sta.start es4 (Or.inr ⟨(hw _ (tm 9 rfl)), (hw _ (tm 326 rfl))⟩)
  obtain ⟨s5, es5⟩ := exa_v nx5
  have E5 : Exa s s.heap s5 "com/example/onesnap/onesnap/node/StatementKind" := exa_at es5 nx5
  have S5 : Sta s s.heap "com/example/onesnap/onesnap/node/StatementKind" "WRITE" "Lcom/example/onesnap/onesnap/node/StatementKind;" (.ref s5) := Sta.start es5 (Or.inr ⟨(hw _ (tm 9 rfl)), (hw _ (tm 277 rfl))⟩)
  have f5 := (fld_at es5).symm.trans (own_eqi no5)
  obtain ⟨s6, es6⟩ := exa_v nx6
  have E6 : Exa s s.heap s6 "com/example/onesnap/onesnap/node/StatementKind" := exa_at es6 nx6
  have S6 : Sta s s.heap "com/example/onesnap/onesnap/node/StatementKind" "OTHER" "Lcom/example/onesnap/onesnap/node/StatementKind;" (.ref s6) := Sta.start es6 (Or.inr ⟨(hw _ (tm 9 rfl)), (hw _ (tm 334 rfl))⟩)
  have d0 : s5 ≠ s0 := own_ord f5 f0 (by decide)
  have d1 : s5 ≠ s1 := own_ord f5 f1 (by decide)
  have d3 : s5 ≠ s3 := own_ord f5 f3 (by decide)
  obtain ⟨de, ede⟩ := arr_v (Cond.before_iff.mp (hsets _ (tm 6 rfl)))
  obtain ⟨cd, Ade⟩ := Arr.start ede (Cond.before_iff.mp (hsets _ (tm 6 rfl)))
  have Sde : Sta s s.heap "java/util/ArrayList" "DEFAULTCAPACITY_EMPTY_ELEMENTDATA" "[Ljava/lang/Object;" (.ref de) := Sta.start ede (Or.inr ⟨(hw _ (tm 15 rfl)), (hsets _ (tm 2 rfl))⟩)
  obtain ⟨q1, q2⟩ := IntBox.length_fwd (hsets _ (tm 8 rfl)) ede Ade.1 Ade.2.1 Ade.2.2
  have Vde : Arv s s.heap de cd.cls (.object "java/lang/Object") (0 : Int32) [] .null := Arv.start hfit Ade q1 q2 (by decide) (by decide) trivial
  obtain ⟨sc, esc⟩ := exa_v (Cond.before_iff.mp (hsets _ (tm 14 rfl)))
  have Esc := exa_at esc (Cond.before_iff.mp (hsets _ (tm 14 rfl)))
  have Ssc : Sta s s.heap "java/nio/charset/StandardCharsets" "ISO_8859_1" "Ljava/nio/charset/Charset;" (.ref sc) := Sta.start esc (Or.inl (hsets _ (tm 10 rfl)))
  obtain ⟨iso, eiso⟩ := exa_v (Cond.before_iff.mp (hsets _ (tm 20 rfl)))
  have Eiso := exa_at eiso (Cond.before_iff.mp (hsets _ (tm 20 rfl)))
  have Siso : Sta s s.heap "sun/nio/cs/ISO_8859_1" "INSTANCE" "Lsun/nio/cs/ISO_8859_1;" (.ref iso) := Sta.start eiso (Or.inl (hsets _ (tm 12 rfl)))
  obtain ⟨utf, eutf⟩ := exa_v (Cond.before_iff.mp (hsets _ (tm 17 rfl)))
  have Eutf := exa_at eutf (Cond.before_iff.mp (hsets _ (tm 17 rfl)))
  have Sutf : Sta s s.heap "sun/nio/cs/UTF_8" "INSTANCE" "Lsun/nio/cs/UTF_8;" (.ref utf) := Sta.start eutf (Or.inl (hsets _ (tm 16 rfl)))
  obtain rfl : sc = iso := Value.ref.inj (gotT (eq_R esc eiso rfl rfl) (Cond.before_iff.mp (hsets _ (tm 13 rfl))))
  have hne : ¬ sc = utf := Exa.ne Eiso Eutf (by decide)
  obtain ⟨cs, ecs⟩ := is_v (Cond.before_iff.mp (hsets _ (tm 22 rfl)))
  have Scs : Sta s s.heap "java/lang/String" "COMPACT_STRINGS" "Z" (.int cs) := Sta.start ecs (Or.inl (hsets _ (tm 21 rfl)))
  have hcs : ¬ cs = (0 : Int32) := by
    have q := not_v (Cond.before_iff.mp (hsets _ (tm 23 rfl)))
    intro h
    rw [eq_i ecs (Term.int_eval 0) (congrArg Value.int h)] at q
    cases q
  obtain ⟨n, o, h1, h2, h3, _, L, rfl, ⟨rfl, N⟩, hq⟩ := rm0 l s _ hw tables_1 i0 i1 i2 i3 i4 s0 s1 s2 s3 s4 s5 s6 de sc utf cs cd.cls s.heap s.heap.size (Nat.le_refl _) (Old.start s) S0 E0 S1 E1 S2 E2 S3 E3 S4 E4 S5 E5 S6 E6 Sde Vde Siso Sutf Ssc Scs hcs hne Eiso d0 d1 d3 p e ha hc hk s m _ below hf ((Spec.applies_iff_loose hf).mp happ).1 ⟨rfl, State.Warmed39.refl s, rfl⟩ trivial
  refine ⟨n, _, h1, h2, h3, hpost _ _ _ _ _ _ ⟨Cond.after_iff.mpr rfl, Cond.after_iff.mpr (eq_i res_at (Term.int_eval (1)) rfl), trivial⟩ ⟨hq.1, hq.2.1, (hq.2.2.sift fun y hy => Or.inr (N y hy)).mono (by decide) (by decide)⟩⟩
theorem main_1_1 : Claimed_1_1 := comes_1 fun _ _ _ _ _ _ h hF => ⟨h.1, hF⟩
theorem main_1_2 : Claimed_1_2 := comes_1 fun _ _ _ _ _ _ h hF => ⟨h.2.1, hF⟩
end Jvm.Pilot.@@N@@
namespace Jvm.Pilot.@@N@@
open Jvm Jvm.ClassFile Sem Op Lib Jvm.Free Jvm.Stand Jvm.Pilot.@@N@@.Jvm.D
/-! MADE BY PROGRAM (witnessworld.py) out of the Statement's table words and the real class files: 43 classes; the members and pool entries that the words name. The judged class is class 1, her method 4. -/
namespace start1
open Jvm.ClassFile
def u (s : String) : CpInfo := .utf8 (stringToUtf16 s)
/-- a pool by its gaps: so many unusable entries, then the entry; so many at the end -/
def gap : Nat → List CpInfo → List CpInfo
  | 0, r => r
  | n + 1, r => .unusable :: gap n r
def poolList (es : List (Nat × CpInfo)) (last : Nat) : List CpInfo := es.foldr (fun e r => gap e.1 (e.2 :: r)) (gap last [])
def pool (es : List (Nat × CpInfo)) (last : Nat) : Array CpInfo := ⟨poolList es last⟩
def fileOf (pool : Array CpInfo) (this : Nat) (attrs : Array Attribute := #[]) (ms : Array MethodInfo := #[]) (fl : Nat := 33) (sup : Nat := 0) (ifs : Array Nat := #[]) (fds : Array FieldInfo := #[]) : ClassFile where
  minorVersion := 0
  majorVersion := 65
  constantPool := pool
  accessFlags := fl
  thisClass := this
  superClass := sup
  interfaces := ifs
  fields := fds
  methods := ms
  attributes := attrs
def plain (name : String) (sup : Option ClassId) : Class where
  name := name
  kind := .ordinary
  loader := none
  accessFlags := 33
  super := sup
  interfaces := #[]
  cf := none
  fields := #[]
  methods := #[]
  instanceTypes := #[]
  staticTypes := #[]
  resolved := #[]
  callSites := []
  init := .initialized
  statics := none
  mirror := none

def pool0 : Array CpInfo := pool [(5, u "<init>"), (0, u "()V"), (1, .class_ 10), (1, u "java/lang/Object"), (16, u "hashCode"), (0, u "()I"), (63, u "equals"), (0, u "(Ljava/lang/Object;)Z"), (2, u "clone"), (0, u "()Ljava/lang/Object;")] 26

def k0c0 : Code := { maxStack := 0, maxLocals := 1, code := object_method_1_code, exceptionTable := #[], attributes := #[] }
def k0m0 : Method := { name := "<init>", desc := "()V", sig := { parameters := [], returnType := none }, accessFlags := 1, code := some k0c0 }
def k0m1 : Method := { name := "hashCode", desc := "()I", sig := { parameters := [], returnType := some .int }, accessFlags := 257, code := none }
def k0c2 : Code := { maxStack := 2, maxLocals := 2, code := ⟨#[]⟩, exceptionTable := #[], attributes := #[] }
def k0m2 : Method := { name := "equals", desc := "(Ljava/lang/Object;)Z", sig := { parameters := [(.object "java/lang/Object")], returnType := some .boolean }, accessFlags := 1, code := some k0c2 }
def k0m3 : Method := { name := "clone", desc := "()Ljava/lang/Object;", sig := { parameters := [], returnType := some (.object "java/lang/Object") }, accessFlags := 260, code := none }
/-- java/lang/Object -/
def k0 : Class := { plain "java/lang/Object" none with
  accessFlags := 33
  interfaces := #[]
  cf := some (fileOf pool0 8 #[] #[{ accessFlags := 1, nameIndex := 5, descriptorIndex := 6, attributes := #[] }, { accessFlags := 257, nameIndex := 27, descriptorIndex := 28, attributes := #[] }, { accessFlags := 1, nameIndex := 92, descriptorIndex := 93, attributes := #[] }, { accessFlags := 260, nameIndex := 96, descriptorIndex := 97, attributes := #[] }] 33 0 #[] #[])
  fields := #[]
  methods := #[k0m0, k0m1, k0m2, k0m3]
  instanceTypes := #[]
  staticTypes := #[]
  resolved := Array.replicate 124 none
  statics := none }

def pool1 : Array CpInfo := pool [(2, .class_ 4), (0, .nameAndType 5 6), (0, u "java/lang/Object"), (0, u "<init>"), (0, u "()V"), (0, .integer 2147483647), (0, .fieldref 9 10), (0, .class_ 11), (0, .nameAndType 12 13), (0, u "com/example/onesnap/onesnap/node/StatementKind"), (0, u "BEGIN"), (0, u "Lcom/example/onesnap/onesnap/node/StatementKind;"), (0, .fieldref 9 15), (0, .nameAndType 16 13), (0, u "COMMIT"), (0, .fieldref 9 18), (0, .nameAndType 19 13), (0, u "COMMIT_AND_CHAIN"), (0, .fieldref 9 21), (0, .nameAndType 22 13), (0, u "ROLLBACK"), (0, .fieldref 9 24), (0, .nameAndType 25 13), (0, u "CONTROL"), (0, .fieldref 9 27), (0, .nameAndType 28 13), (0, u "WRITE"), (0, .fieldref 9 30), (0, .nameAndType 31 13), (0, u "OTHER"), (0, .integer 65535), (0, .methodref 34 35), (0, .class_ 36), (0, .nameAndType 37 38), (0, u "com/example/onesnap/onesnap/node/TransactionTrackerCommitsAtSyncPinLaw"), (0, u "status"), (0, u "(I)C"), (0, .methodref 34 40), (0, .nameAndType 41 42), (0, u "kind"), (0, u "(I)Lcom/example/onesnap/onesnap/node/StatementKind;"), (0, .class_ 44), (0, u "java/util/ArrayList"), (0, .methodref 43 3), (0, .methodref 43 47), (0, .nameAndType 48 49), (0, u "add"), (0, u "(Ljava/lang/Object;)Z"), (0, .class_ 51), (0, u "com/example/onesnap/onesnap/node/TransactionTracker"), (0, .methodref 50 3), (0, .methodref 50 54), (0, .nameAndType 55 56), (0, u "ready"), (0, u "(C)V"), (0, .methodref 50 58), (0, .nameAndType 59 60), (0, u "parsed"), (0, u "([BLjava/util/List;)V"), (0, .methodref 50 62), (0, .nameAndType 63 64), (0, u "bound"), (0, u "([B[B)V"), (0, .methodref 50 66), (0, .nameAndType 67 68), (0, u "executed"), (0, u "([B)V"), (0, .methodref 50 70), (0, .nameAndType 71 72), (0, u "commitsAtSync"), (0, u "()Z"), (0, .methodref 34 74), (0, .nameAndType 75 76), (0, u "after"), (0, u "(CLcom/example/onesnap/onesnap/node/StatementKind;)C"), (3, u "law"), (0, u "(IIIII)Z")] 4

def k1m0 : Method := { name := "<init>", desc := "()V", sig := { parameters := [], returnType := none }, accessFlags := 1, code := none }
def k1c1 : Code := { maxStack := 2, maxLocals := 2, code := method_2_code, exceptionTable := #[], attributes := #[] }
def k1m1 : Method := { name := "kind", desc := "(I)Lcom/example/onesnap/onesnap/node/StatementKind;", sig := { parameters := [.int], returnType := some (.object "com/example/onesnap/onesnap/node/StatementKind") }, accessFlags := 10, code := some k1c1 }
def k1c2 : Code := { maxStack := 2, maxLocals := 2, code := method_3_code, exceptionTable := #[], attributes := #[] }
def k1m2 : Method := { name := "status", desc := "(I)C", sig := { parameters := [.int], returnType := some .char }, accessFlags := 10, code := some k1c2 }
def k1c3 : Code := { maxStack := 2, maxLocals := 2, code := method_4_code, exceptionTable := #[], attributes := #[] }
def k1m3 : Method := { name := "after", desc := "(CLcom/example/onesnap/onesnap/node/StatementKind;)C", sig := { parameters := [.char, (.object "com/example/onesnap/onesnap/node/StatementKind")], returnType := some .char }, accessFlags := 10, code := some k1c3 }
def k1c4 : Code := { maxStack := 4, maxLocals := 20, code := code, exceptionTable := #[], attributes := #[] }
def k1m4 : Method := { name := "law", desc := "(IIIII)Z", sig := { parameters := [.int, .int, .int, .int, .int], returnType := some .boolean }, accessFlags := 9, code := some k1c4 }
/-- com/example/onesnap/onesnap/node/TransactionTrackerCommitsAtSyncPinLaw -/
def k1 : Class := { plain "com/example/onesnap/onesnap/node/TransactionTrackerCommitsAtSyncPinLaw" (some 0) with
  accessFlags := 49
  interfaces := #[]
  cf := some (fileOf pool1 34 #[] #[{ accessFlags := 1, nameIndex := 5, descriptorIndex := 6, attributes := #[] }, { accessFlags := 10, nameIndex := 41, descriptorIndex := 42, attributes := #[] }, { accessFlags := 10, nameIndex := 37, descriptorIndex := 38, attributes := #[] }, { accessFlags := 10, nameIndex := 75, descriptorIndex := 76, attributes := #[] }, { accessFlags := 9, nameIndex := 80, descriptorIndex := 81, attributes := #[] }] 49 2 #[] #[])
  fields := #[]
  methods := #[k1m0, k1m1, k1m2, k1m3, k1m4]
  instanceTypes := #[]
  staticTypes := #[]
  resolved := Array.replicate 86 none
  statics := none }

def pool2 : Array CpInfo := pool [(1, .class_ 2), (0, u "java/lang/constant/Constable"), (0, .class_ 4), (0, u "java/lang/Object")] 6

/-- java/lang/constant/Constable -/
def k2 : Class := { plain "java/lang/constant/Constable" (some 0) with
  accessFlags := 1537
  interfaces := #[]
  cf := some (fileOf pool2 1 #[] #[] 1537 3 #[] #[])
  fields := #[]
  methods := #[]
  instanceTypes := #[]
  staticTypes := #[]
  resolved := Array.replicate 11 none
  statics := none }

def pool3 : Array CpInfo := pool [(1, .class_ 2), (0, u "java/lang/Comparable"), (0, .class_ 4), (0, u "java/lang/Object")] 7

/-- java/lang/Comparable -/
def k3 : Class := { plain "java/lang/Comparable" (some 0) with
  accessFlags := 1537
  interfaces := #[]
  cf := some (fileOf pool3 1 #[] #[] 1537 3 #[] #[])
  fields := #[]
  methods := #[]
  instanceTypes := #[]
  staticTypes := #[]
  resolved := Array.replicate 12 none
  statics := none }

def pool4 : Array CpInfo := pool [(1, .class_ 2), (0, u "java/io/Serializable"), (0, .class_ 4), (0, u "java/lang/Object")] 2

/-- java/io/Serializable -/
def k4 : Class := { plain "java/io/Serializable" (some 0) with
  accessFlags := 1537
  interfaces := #[]
  cf := some (fileOf pool4 1 #[] #[] 1537 3 #[] #[])
  fields := #[]
  methods := #[]
  instanceTypes := #[]
  staticTypes := #[]
  resolved := Array.replicate 7 none
  statics := none }

def pool5 : Array CpInfo := pool [(2, .class_ 4), (1, u "java/lang/Enum"), (0, u "name"), (0, u "Ljava/lang/String;"), (2, u "ordinal"), (0, u "I"), (1, .class_ 14), (1, u "java/lang/Object"), (4, u "hash"), (86, .class_ 108), (1, u "java/lang/Enum$EnumDesc"), (2, .class_ 112), (0, u "java/lang/constant/Constable"), (0, .class_ 114), (0, u "java/lang/Comparable"), (0, .class_ 116), (0, u "java/io/Serializable")] 87

/-- java/lang/Enum -/
def k5 : Class := { plain "java/lang/Enum" (some 0) with
  accessFlags := 1057
  interfaces := #[2, 3, 4]
  cf := some (fileOf pool5 2 #[.nestMembers #[106]] #[] 1057 12 #[111, 113, 115] #[{ accessFlags := 18, nameIndex := 5, descriptorIndex := 6, attributes := #[] }, { accessFlags := 18, nameIndex := 9, descriptorIndex := 10, attributes := #[] }, { accessFlags := 2, nameIndex := 19, descriptorIndex := 10, attributes := #[] }])
  fields := #[{ name := "name", type := (.object "java/lang/String"), accessFlags := 18, slot := 0, constantValue := 0 }, { name := "ordinal", type := .int, accessFlags := 18, slot := 1, constantValue := 0 }, { name := "hash", type := .int, accessFlags := 2, slot := 2, constantValue := 0 }]
  methods := #[]
  instanceTypes := #[(.object "java/lang/String"), .int, .int]
  staticTypes := #[]
  resolved := Array.replicate 204 none
  statics := none }

def pool6 : Array CpInfo := pool [(1, .class_ 2), (0, u "com/example/onesnap/onesnap/node/StatementKind"), (2, u "BEGIN"), (0, u "Lcom/example/onesnap/onesnap/node/StatementKind;"), (2, u "COMMIT"), (2, u "COMMIT_AND_CHAIN"), (2, u "ROLLBACK"), (2, u "CONTROL"), (2, u "WRITE"), (2, u "OTHER"), (2, u "$VALUES"), (0, u "[Lcom/example/onesnap/onesnap/node/StatementKind;"), (6, .class_ 37), (1, u "java/lang/Enum"), (60, u "WRITING"), (0, u "Ljava/util/Set;")] 86

/-- com/example/onesnap/onesnap/node/StatementKind -/
def k6 : Class := { plain "com/example/onesnap/onesnap/node/StatementKind" (some 5) with
  accessFlags := 16432
  interfaces := #[]
  cf := some (fileOf pool6 1 #[] #[] 16432 35 #[] #[{ accessFlags := 16409, nameIndex := 5, descriptorIndex := 6, attributes := #[] }, { accessFlags := 16409, nameIndex := 9, descriptorIndex := 6, attributes := #[] }, { accessFlags := 16409, nameIndex := 12, descriptorIndex := 6, attributes := #[] }, { accessFlags := 16409, nameIndex := 15, descriptorIndex := 6, attributes := #[] }, { accessFlags := 16409, nameIndex := 18, descriptorIndex := 6, attributes := #[] }, { accessFlags := 16409, nameIndex := 21, descriptorIndex := 6, attributes := #[] }, { accessFlags := 16409, nameIndex := 24, descriptorIndex := 6, attributes := #[] }, { accessFlags := 26, nameIndex := 98, descriptorIndex := 99, attributes := #[] }, { accessFlags := 4122, nameIndex := 27, descriptorIndex := 28, attributes := #[] }])
  fields := #[{ name := "BEGIN", type := (.object "com/example/onesnap/onesnap/node/StatementKind"), accessFlags := 16409, slot := 0, constantValue := 0 }, { name := "COMMIT", type := (.object "com/example/onesnap/onesnap/node/StatementKind"), accessFlags := 16409, slot := 1, constantValue := 0 }, { name := "COMMIT_AND_CHAIN", type := (.object "com/example/onesnap/onesnap/node/StatementKind"), accessFlags := 16409, slot := 2, constantValue := 0 }, { name := "ROLLBACK", type := (.object "com/example/onesnap/onesnap/node/StatementKind"), accessFlags := 16409, slot := 3, constantValue := 0 }, { name := "CONTROL", type := (.object "com/example/onesnap/onesnap/node/StatementKind"), accessFlags := 16409, slot := 4, constantValue := 0 }, { name := "WRITE", type := (.object "com/example/onesnap/onesnap/node/StatementKind"), accessFlags := 16409, slot := 5, constantValue := 0 }, { name := "OTHER", type := (.object "com/example/onesnap/onesnap/node/StatementKind"), accessFlags := 16409, slot := 6, constantValue := 0 }, { name := "WRITING", type := (.object "java/util/Set"), accessFlags := 26, slot := 7, constantValue := 0 }, { name := "$VALUES", type := (.array (.object "com/example/onesnap/onesnap/node/StatementKind")), accessFlags := 4122, slot := 8, constantValue := 0 }]
  methods := #[]
  instanceTypes := #[(.object "java/lang/String"), .int, .int]
  staticTypes := #[(.object "com/example/onesnap/onesnap/node/StatementKind"), (.object "com/example/onesnap/onesnap/node/StatementKind"), (.object "com/example/onesnap/onesnap/node/StatementKind"), (.object "com/example/onesnap/onesnap/node/StatementKind"), (.object "com/example/onesnap/onesnap/node/StatementKind"), (.object "com/example/onesnap/onesnap/node/StatementKind"), (.object "com/example/onesnap/onesnap/node/StatementKind"), (.object "java/util/Set"), (.array (.object "com/example/onesnap/onesnap/node/StatementKind"))]
  resolved := Array.replicate 186 none
  statics := some 0 }

def pool7 : Array CpInfo := pool [(8, .class_ 10), (1, u "java/lang/Iterable"), (24, .class_ 36), (0, u "java/lang/Object")] 25

/-- java/lang/Iterable -/
def k7 : Class := { plain "java/lang/Iterable" (some 0) with
  accessFlags := 1537
  interfaces := #[]
  cf := some (fileOf pool7 8 #[] #[] 1537 35 #[] #[])
  fields := #[]
  methods := #[]
  instanceTypes := #[]
  staticTypes := #[]
  resolved := Array.replicate 62 none
  statics := none }

def pool8 : Array CpInfo := pool [(10, .class_ 12), (1, u "java/util/Collection"), (47, .class_ 61), (0, u "java/lang/Object"), (0, .class_ 63), (0, u "java/lang/Iterable")] 51

/-- java/util/Collection -/
def k8 : Class := { plain "java/util/Collection" (some 0) with
  accessFlags := 1537
  interfaces := #[7]
  cf := some (fileOf pool8 10 #[] #[] 1537 60 #[62] #[])
  fields := #[]
  methods := #[]
  instanceTypes := #[]
  staticTypes := #[]
  resolved := Array.replicate 115 none
  statics := none }

def pool9 : Array CpInfo := pool [(1, .methodref 2 3), (0, .class_ 4), (0, .nameAndType 5 6), (0, u "java/lang/Object"), (0, u "<init>"), (0, u "()V"), (1, .class_ 10), (1, u "java/util/AbstractCollection"), (66, .class_ 78), (0, u "java/util/Collection")] 81

def k9c0 : Code := { maxStack := 1, maxLocals := 1, code := jdk_22_method_1_code, exceptionTable := #[], attributes := #[] }
def k9m0 : Method := { name := "<init>", desc := "()V", sig := { parameters := [], returnType := none }, accessFlags := 4, code := some k9c0 }
/-- java/util/AbstractCollection -/
def k9 : Class := { plain "java/util/AbstractCollection" (some 0) with
  accessFlags := 1057
  interfaces := #[8]
  cf := some (fileOf pool9 8 #[] #[{ accessFlags := 4, nameIndex := 5, descriptorIndex := 6, attributes := #[] }] 1057 2 #[77] #[])
  fields := #[]
  methods := #[k9m0]
  instanceTypes := #[]
  staticTypes := #[]
  resolved := Array.replicate 160 none
  statics := none }

def pool10 : Array CpInfo := pool [(8, .class_ 10), (1, u "java/util/SequencedCollection"), (15, .class_ 27), (0, u "java/lang/Object"), (0, .class_ 29), (0, u "java/util/Collection")] 27

/-- java/util/SequencedCollection -/
def k10 : Class := { plain "java/util/SequencedCollection" (some 0) with
  accessFlags := 1537
  interfaces := #[8]
  cf := some (fileOf pool10 8 #[] #[] 1537 26 #[28] #[])
  fields := #[]
  methods := #[]
  instanceTypes := #[]
  staticTypes := #[]
  resolved := Array.replicate 57 none
  statics := none }

def pool11 : Array CpInfo := pool [(8, .class_ 10), (1, u "java/util/List"), (64, u "get"), (0, u "(I)Ljava/lang/Object;"), (2, u "size"), (0, u "()I"), (22, .class_ 104), (0, u "java/lang/Object"), (15, .class_ 121), (0, u "java/util/SequencedCollection")] 129

def k11m0 : Method := { name := "size", desc := "()I", sig := { parameters := [], returnType := some .int }, accessFlags := 1025, code := none }
def k11m1 : Method := { name := "get", desc := "(I)Ljava/lang/Object;", sig := { parameters := [.int], returnType := some (.object "java/lang/Object") }, accessFlags := 1025, code := none }
/-- java/util/List -/
def k11 : Class := { plain "java/util/List" (some 0) with
  accessFlags := 1537
  interfaces := #[10]
  cf := some (fileOf pool11 8 #[] #[{ accessFlags := 1025, nameIndex := 79, descriptorIndex := 80, attributes := #[] }, { accessFlags := 1025, nameIndex := 75, descriptorIndex := 76, attributes := #[] }] 1537 103 #[120] #[])
  fields := #[]
  methods := #[k11m0, k11m1]
  instanceTypes := #[]
  staticTypes := #[]
  resolved := Array.replicate 251 none
  statics := none }

def pool12 : Array CpInfo := pool [(1, .methodref 2 3), (0, .class_ 4), (0, .nameAndType 5 6), (0, u "java/util/AbstractCollection"), (0, u "<init>"), (0, u "()V"), (0, .fieldref 8 9), (0, .class_ 10), (0, .nameAndType 11 12), (0, u "java/util/AbstractList"), (0, u "modCount"), (0, u "I"), (64, .class_ 78), (0, u "java/util/AbstractList$Itr"), (3, .class_ 83), (0, u "java/util/AbstractList$ListItr"), (9, .class_ 94), (0, u "java/util/AbstractList$RandomAccessSubList"), (3, .class_ 99), (0, u "java/util/AbstractList$SubList"), (33, .class_ 134), (0, u "java/util/List"), (73, .class_ 209), (0, u "java/util/AbstractList$SubList$1"), (0, .class_ 211), (0, u "java/util/AbstractList$RandomAccessSpliterator")] 6

def k12c0 : Code := { maxStack := 2, maxLocals := 1, code := jdk_39_method_1_code, exceptionTable := #[], attributes := #[] }
def k12m0 : Method := { name := "<init>", desc := "()V", sig := { parameters := [], returnType := none }, accessFlags := 4, code := some k12c0 }
/-- java/util/AbstractList -/
def k12 : Class := { plain "java/util/AbstractList" (some 9) with
  accessFlags := 1057
  interfaces := #[11]
  cf := some (fileOf pool12 8 #[.nestMembers #[93, 98, 208, 210, 82, 77]] #[{ accessFlags := 4, nameIndex := 5, descriptorIndex := 6, attributes := #[] }] 1057 2 #[133] #[{ accessFlags := 132, nameIndex := 11, descriptorIndex := 12, attributes := #[] }])
  fields := #[{ name := "modCount", type := .int, accessFlags := 132, slot := 0, constantValue := 0 }]
  methods := #[k12m0]
  instanceTypes := #[.int]
  staticTypes := #[]
  resolved := Array.replicate 218 none
  statics := none }

def pool13 : Array CpInfo := pool [(1, .class_ 2), (0, u "java/util/RandomAccess"), (0, .class_ 4), (0, u "java/lang/Object")] 2

/-- java/util/RandomAccess -/
def k13 : Class := { plain "java/util/RandomAccess" (some 0) with
  accessFlags := 1537
  interfaces := #[]
  cf := some (fileOf pool13 1 #[] #[] 1537 3 #[] #[])
  fields := #[]
  methods := #[]
  instanceTypes := #[]
  staticTypes := #[]
  resolved := Array.replicate 7 none
  statics := none }

def pool14 : Array CpInfo := pool [(1, .class_ 2), (0, u "java/lang/Cloneable"), (0, .class_ 4), (0, u "java/lang/Object")] 2

/-- java/lang/Cloneable -/
def k14 : Class := { plain "java/lang/Cloneable" (some 0) with
  accessFlags := 1537
  interfaces := #[]
  cf := some (fileOf pool14 1 #[] #[] 1537 3 #[] #[])
  fields := #[]
  methods := #[]
  instanceTypes := #[]
  staticTypes := #[]
  resolved := Array.replicate 7 none
  statics := none }

def pool15 : Array CpInfo := pool [(1, .methodref 2 3), (0, .class_ 4), (0, .nameAndType 5 6), (0, u "java/util/AbstractList"), (0, u "<init>"), (0, u "()V"), (0, .class_ 8), (0, u "java/lang/Object"), (0, .fieldref 10 11), (0, .class_ 12), (0, .nameAndType 13 14), (0, u "java/util/ArrayList"), (0, u "elementData"), (0, u "[Ljava/lang/Object;"), (2, u "EMPTY_ELEMENTDATA"), (21, .fieldref 10 40), (0, .nameAndType 41 14), (0, u "DEFAULTCAPACITY_EMPTY_ELEMENTDATA"), (5, u "()[Ljava/lang/Object;"), (0, .fieldref 10 49), (0, .nameAndType 50 51), (0, u "size"), (0, u "I"), (11, .fieldref 10 64), (0, .nameAndType 65 51), (0, u "modCount"), (3, .methodref 10 70), (0, .nameAndType 71 72), (0, u "grow"), (0, u "(I)[Ljava/lang/Object;"), (6, .methodref 80 81), (0, .class_ 82), (0, .nameAndType 83 84), (0, u "java/lang/Math"), (0, u "max"), (0, u "(II)I"), (11, u "(Ljava/lang/Object;)Z"), (21, .methodref 119 120), (0, .class_ 121), (0, .nameAndType 122 84), (0, u "java/util/Objects"), (0, u "checkIndex"), (0, .methodref 10 124), (0, .nameAndType 13 125), (0, u "(I)Ljava/lang/Object;"), (3, .methodref 10 130), (0, .nameAndType 71 47), (0, .methodref 10 132), (0, .nameAndType 133 134), (0, u "add"), (0, u "(Ljava/lang/Object;[Ljava/lang/Object;I)V"), (13, .class_ 149), (0, u "java/util/List"), (36, u "()I"), (75, .class_ 263), (0, u "java/util/ArrayList$ListItr"), (3, .class_ 268), (0, u "java/util/ArrayList$Itr"), (7, .class_ 277), (0, u "java/util/ArrayList$SubList"), (12, .class_ 291), (0, u "java/util/ArrayList$ArrayListSpliterator"), (37, .class_ 330), (0, u "java/util/RandomAccess"), (0, .class_ 332), (0, u "java/lang/Cloneable"), (0, .class_ 334), (0, u "java/io/Serializable"), (0, u "serialVersionUID"), (0, u "J"), (3, u "DEFAULT_CAPACITY"), (40, u "get"), (118, .class_ 501), (0, u "java/util/ArrayList$SubList$2"), (0, .class_ 503), (0, u "java/util/ArrayList$SubList$1")] 5

def k15c0 : Code := { maxStack := 2, maxLocals := 1, code := jdk_38_method_2_code, exceptionTable := #[], attributes := #[] }
def k15m0 : Method := { name := "<init>", desc := "()V", sig := { parameters := [], returnType := none }, accessFlags := 1, code := some k15c0 }
def k15c1 : Code := { maxStack := 4, maxLocals := 4, code := jdk_38_method_6_code, exceptionTable := #[], attributes := #[] }
def k15m1 : Method := { name := "grow", desc := "(I)[Ljava/lang/Object;", sig := { parameters := [.int], returnType := some (.array (.object "java/lang/Object")) }, accessFlags := 2, code := some k15c1 }
def k15c2 : Code := { maxStack := 3, maxLocals := 1, code := jdk_38_method_7_code, exceptionTable := #[], attributes := #[] }
def k15m2 : Method := { name := "grow", desc := "()[Ljava/lang/Object;", sig := { parameters := [], returnType := some (.array (.object "java/lang/Object")) }, accessFlags := 2, code := some k15c2 }
def k15c3 : Code := { maxStack := 1, maxLocals := 1, code := jdk_38_method_8_code, exceptionTable := #[], attributes := #[] }
def k15m3 : Method := { name := "size", desc := "()I", sig := { parameters := [], returnType := some .int }, accessFlags := 1, code := some k15c3 }
def k15c4 : Code := { maxStack := 2, maxLocals := 2, code := jdk_38_method_18_code, exceptionTable := #[], attributes := #[] }
def k15m4 : Method := { name := "elementData", desc := "(I)Ljava/lang/Object;", sig := { parameters := [.int], returnType := some (.object "java/lang/Object") }, accessFlags := 0, code := some k15c4 }
def k15c5 : Code := { maxStack := 2, maxLocals := 2, code := jdk_38_method_20_code, exceptionTable := #[], attributes := #[] }
def k15m5 : Method := { name := "get", desc := "(I)Ljava/lang/Object;", sig := { parameters := [.int], returnType := some (.object "java/lang/Object") }, accessFlags := 1, code := some k15c5 }
def k15c6 : Code := { maxStack := 3, maxLocals := 4, code := jdk_38_method_24_code, exceptionTable := #[], attributes := #[] }
def k15m6 : Method := { name := "add", desc := "(Ljava/lang/Object;[Ljava/lang/Object;I)V", sig := { parameters := [(.object "java/lang/Object"), (.array (.object "java/lang/Object")), .int], returnType := none }, accessFlags := 2, code := some k15c6 }
def k15c7 : Code := { maxStack := 4, maxLocals := 2, code := jdk_38_method_25_code, exceptionTable := #[], attributes := #[] }
def k15m7 : Method := { name := "add", desc := "(Ljava/lang/Object;)Z", sig := { parameters := [(.object "java/lang/Object")], returnType := some .boolean }, accessFlags := 1, code := some k15c7 }
/-- java/util/ArrayList -/
def k15 : Class := { plain "java/util/ArrayList" (some 12) with
  accessFlags := 33
  interfaces := #[11, 13, 14, 4]
  cf := some (fileOf pool15 10 #[.nestMembers #[290, 276, 500, 502, 262, 267]] #[{ accessFlags := 1, nameIndex := 5, descriptorIndex := 6, attributes := #[] }, { accessFlags := 2, nameIndex := 71, descriptorIndex := 72, attributes := #[] }, { accessFlags := 2, nameIndex := 71, descriptorIndex := 47, attributes := #[] }, { accessFlags := 1, nameIndex := 50, descriptorIndex := 186, attributes := #[] }, { accessFlags := 0, nameIndex := 13, descriptorIndex := 125, attributes := #[] }, { accessFlags := 1, nameIndex := 381, descriptorIndex := 125, attributes := #[] }, { accessFlags := 2, nameIndex := 133, descriptorIndex := 134, attributes := #[] }, { accessFlags := 1, nameIndex := 133, descriptorIndex := 96, attributes := #[] }] 33 2 #[148, 329, 331, 333] #[{ accessFlags := 26, nameIndex := 335, descriptorIndex := 336, attributes := #[] }, { accessFlags := 26, nameIndex := 340, descriptorIndex := 51, attributes := #[] }, { accessFlags := 26, nameIndex := 17, descriptorIndex := 14, attributes := #[] }, { accessFlags := 26, nameIndex := 41, descriptorIndex := 14, attributes := #[] }, { accessFlags := 128, nameIndex := 13, descriptorIndex := 14, attributes := #[] }, { accessFlags := 2, nameIndex := 50, descriptorIndex := 51, attributes := #[] }])
  fields := #[{ name := "serialVersionUID", type := .long, accessFlags := 26, slot := 0, constantValue := 0 }, { name := "DEFAULT_CAPACITY", type := .int, accessFlags := 26, slot := 1, constantValue := 0 }, { name := "EMPTY_ELEMENTDATA", type := (.array (.object "java/lang/Object")), accessFlags := 26, slot := 2, constantValue := 0 }, { name := "DEFAULTCAPACITY_EMPTY_ELEMENTDATA", type := (.array (.object "java/lang/Object")), accessFlags := 26, slot := 3, constantValue := 0 }, { name := "elementData", type := (.array (.object "java/lang/Object")), accessFlags := 128, slot := 1, constantValue := 0 }, { name := "size", type := .int, accessFlags := 2, slot := 2, constantValue := 0 }]
  methods := #[k15m0, k15m1, k15m2, k15m3, k15m4, k15m5, k15m6, k15m7]
  instanceTypes := #[.int, (.array (.object "java/lang/Object")), .int]
  staticTypes := #[.long, .int, (.array (.object "java/lang/Object")), (.array (.object "java/lang/Object"))]
  resolved := Array.replicate 509 none
  statics := some 1 }

def pool16 : Array CpInfo := pool [(1, .class_ 2), (0, u "java/lang/Math"), (1, .class_ 6), (1, u "java/lang/Object"), (0, u "<init>"), (0, u "()V"), (89, .class_ 100), (1, u "java/lang/Math$RandomNumberGeneratorHolder"), (71, u "negativeZeroFloatBits"), (0, u "J"), (2, u "negativeZeroDoubleBits"), (21, u "max"), (46, u "$assertionsDisabled"), (0, u "Z"), (88, u "(II)I"), (2, u "twoToTheDoubleScaleDown"), (0, u "D"), (4, u "twoToTheDoubleScaleUp"), (9, u "E"), (3, u "PI"), (2, u "TAU"), (2, u "DEGREES_TO_RADIANS"), (0, u "RADIANS_TO_DEGREES")] 94

def k16m0 : Method := { name := "<init>", desc := "()V", sig := { parameters := [], returnType := none }, accessFlags := 2, code := none }
def k16c1 : Code := { maxStack := 2, maxLocals := 2, code := jdk_29_method_65_code, exceptionTable := #[], attributes := #[] }
def k16m1 : Method := { name := "max", desc := "(II)I", sig := { parameters := [.int, .int], returnType := some .int }, accessFlags := 9, code := some k16c1 }
/-- java/lang/Math -/
def k16 : Class := { plain "java/lang/Math" (some 0) with
  accessFlags := 49
  interfaces := #[]
  cf := some (fileOf pool16 1 #[.nestMembers #[98]] #[{ accessFlags := 2, nameIndex := 7, descriptorIndex := 8, attributes := #[] }, { accessFlags := 9, nameIndex := 198, descriptorIndex := 335, attributes := #[] }] 49 4 #[] #[{ accessFlags := 25, nameIndex := 354, descriptorIndex := 339, attributes := #[] }, { accessFlags := 25, nameIndex := 358, descriptorIndex := 339, attributes := #[] }, { accessFlags := 25, nameIndex := 361, descriptorIndex := 339, attributes := #[] }, { accessFlags := 26, nameIndex := 364, descriptorIndex := 339, attributes := #[] }, { accessFlags := 26, nameIndex := 365, descriptorIndex := 339, attributes := #[] }, { accessFlags := 26, nameIndex := 172, descriptorIndex := 173, attributes := #[] }, { accessFlags := 26, nameIndex := 176, descriptorIndex := 173, attributes := #[] }, { accessFlags := 8, nameIndex := 344, descriptorIndex := 339, attributes := #[] }, { accessFlags := 8, nameIndex := 338, descriptorIndex := 339, attributes := #[] }, { accessFlags := 4120, nameIndex := 245, descriptorIndex := 246, attributes := #[] }])
  fields := #[{ name := "E", type := .double, accessFlags := 25, slot := 0, constantValue := 0 }, { name := "PI", type := .double, accessFlags := 25, slot := 1, constantValue := 0 }, { name := "TAU", type := .double, accessFlags := 25, slot := 2, constantValue := 0 }, { name := "DEGREES_TO_RADIANS", type := .double, accessFlags := 26, slot := 3, constantValue := 0 }, { name := "RADIANS_TO_DEGREES", type := .double, accessFlags := 26, slot := 4, constantValue := 0 }, { name := "negativeZeroFloatBits", type := .long, accessFlags := 26, slot := 5, constantValue := 0 }, { name := "negativeZeroDoubleBits", type := .long, accessFlags := 26, slot := 6, constantValue := 0 }, { name := "twoToTheDoubleScaleUp", type := .double, accessFlags := 8, slot := 7, constantValue := 0 }, { name := "twoToTheDoubleScaleDown", type := .double, accessFlags := 8, slot := 8, constantValue := 0 }, { name := "$assertionsDisabled", type := .boolean, accessFlags := 4120, slot := 9, constantValue := 0 }]
  methods := #[k16m0, k16m1]
  instanceTypes := #[]
  staticTypes := #[.double, .double, .double, .double, .double, .long, .long, .double, .double, .boolean]
  resolved := Array.replicate 460 none
  statics := none }

def pool17 : Array CpInfo := pool [(1, .methodref 2 3), (0, .class_ 4), (0, .nameAndType 5 6), (0, u "java/lang/Object"), (0, u "<init>"), (0, u "()V"), (0, .fieldref 8 9), (0, .class_ 10), (0, .nameAndType 11 12), (0, u "com/example/onesnap/onesnap/node/TransactionTracker"), (0, u "status"), (0, u "C"), (0, .class_ 14), (0, u "java/util/HashMap"), (0, .methodref 13 3), (0, .fieldref 8 17), (0, .nameAndType 18 19), (0, u "statements"), (0, u "Ljava/util/Map;"), (0, .fieldref 8 21), (0, .nameAndType 22 19), (0, u "portals"), (0, .fieldref 8 24), (0, .nameAndType 25 26), (0, u "writes"), (0, u "Z"), (0, .interfaceMethodref 28 29), (0, .class_ 30), (0, .nameAndType 31 32), (0, u "java/util/List"), (0, u "size"), (0, u "()I"), (0, .interfaceMethodref 28 34), (0, .nameAndType 35 36), (0, u "get"), (0, u "(I)Ljava/lang/Object;"), (0, .class_ 38), (0, u "com/example/onesnap/onesnap/node/StatementKind"), (8, .fieldref 37 48), (0, .nameAndType 49 50), (0, u "BEGIN"), (0, u "Lcom/example/onesnap/onesnap/node/StatementKind;"), (13, u "()Z"), (4, .fieldref 37 70), (0, .nameAndType 71 50), (0, u "WRITE"), (3, .methodref 8 76), (0, .nameAndType 77 78), (0, u "name"), (0, u "([B)Ljava/lang/String;"), (0, .methodref 8 80), (0, .nameAndType 81 82), (0, u "parsedKind"), (0, u "(Ljava/util/List;)Lcom/example/onesnap/onesnap/node/StatementKind;"), (0, .interfaceMethodref 84 85), (0, .class_ 86), (0, .nameAndType 87 88), (0, u "java/util/Map"), (0, u "put"), (0, u "(Ljava/lang/Object;Ljava/lang/Object;)Ljava/lang/Object;"), (0, .interfaceMethodref 84 90), (0, .nameAndType 91 88), (0, u "getOrDefault"), (0, .methodref 8 93), (0, .nameAndType 94 95), (0, u "statementKind"), (0, u "([B)Lcom/example/onesnap/onesnap/node/StatementKind;"), (0, .methodref 8 97), (0, .nameAndType 98 95), (0, u "portalKind"), (0, .fieldref 37 100), (0, .nameAndType 101 50), (0, u "COMMIT"), (0, .fieldref 37 103), (0, .nameAndType 104 50), (0, u "ROLLBACK"), (3, .class_ 109), (0, u "java/lang/String"), (0, .fieldref 111 112), (0, .class_ 113), (0, .nameAndType 114 115), (0, u "java/nio/charset/StandardCharsets"), (0, u "ISO_8859_1"), (0, u "Ljava/nio/charset/Charset;"), (0, .methodref 108 117), (0, .nameAndType 5 118), (0, u "([BLjava/nio/charset/Charset;)V"), (4, u "ready"), (0, u "(C)V"), (5, u "parsed"), (0, u "([BLjava/util/List;)V"), (2, u "bound"), (0, u "([B[B)V"), (2, u "executed"), (0, u "([B)V"), (0, u "commitsAtSync")] 3

def k17c0 : Code := { maxStack := 3, maxLocals := 1, code := prog_49_method_1_code, exceptionTable := #[], attributes := #[] }
def k17m0 : Method := { name := "<init>", desc := "()V", sig := { parameters := [], returnType := none }, accessFlags := 0, code := some k17c0 }
def k17c1 : Code := { maxStack := 2, maxLocals := 2, code := prog_49_method_2_code, exceptionTable := #[], attributes := #[] }
def k17m1 : Method := { name := "ready", desc := "(C)V", sig := { parameters := [.char], returnType := none }, accessFlags := 0, code := some k17c1 }
def k17c2 : Code := { maxStack := 3, maxLocals := 3, code := prog_49_method_5_code, exceptionTable := #[], attributes := #[] }
def k17m2 : Method := { name := "parsed", desc := "([BLjava/util/List;)V", sig := { parameters := [(.array .byte), (.object "java/util/List")], returnType := none }, accessFlags := 0, code := some k17c2 }
def k17c3 : Code := { maxStack := 2, maxLocals := 1, code := prog_49_method_6_code, exceptionTable := #[], attributes := #[] }
def k17m3 : Method := { name := "parsedKind", desc := "(Ljava/util/List;)Lcom/example/onesnap/onesnap/node/StatementKind;", sig := { parameters := [(.object "java/util/List")], returnType := some (.object "com/example/onesnap/onesnap/node/StatementKind") }, accessFlags := 8, code := some k17c3 }
def k17c4 : Code := { maxStack := 3, maxLocals := 2, code := prog_49_method_7_code, exceptionTable := #[], attributes := #[] }
def k17m4 : Method := { name := "statementKind", desc := "([B)Lcom/example/onesnap/onesnap/node/StatementKind;", sig := { parameters := [(.array .byte)], returnType := some (.object "com/example/onesnap/onesnap/node/StatementKind") }, accessFlags := 0, code := some k17c4 }
def k17c5 : Code := { maxStack := 3, maxLocals := 2, code := prog_49_method_8_code, exceptionTable := #[], attributes := #[] }
def k17m5 : Method := { name := "portalKind", desc := "([B)Lcom/example/onesnap/onesnap/node/StatementKind;", sig := { parameters := [(.array .byte)], returnType := some (.object "com/example/onesnap/onesnap/node/StatementKind") }, accessFlags := 0, code := some k17c5 }
def k17c6 : Code := { maxStack := 4, maxLocals := 3, code := prog_49_method_9_code, exceptionTable := #[], attributes := #[] }
def k17m6 : Method := { name := "bound", desc := "([B[B)V", sig := { parameters := [(.array .byte), (.array .byte)], returnType := none }, accessFlags := 0, code := some k17c6 }
def k17c7 : Code := { maxStack := 2, maxLocals := 3, code := prog_49_method_11_code, exceptionTable := #[], attributes := #[] }
def k17m7 : Method := { name := "executed", desc := "([B)V", sig := { parameters := [(.array .byte)], returnType := none }, accessFlags := 0, code := some k17c7 }
def k17c8 : Code := { maxStack := 2, maxLocals := 1, code := prog_49_method_12_code, exceptionTable := #[], attributes := #[] }
def k17m8 : Method := { name := "commitsAtSync", desc := "()Z", sig := { parameters := [], returnType := some .boolean }, accessFlags := 0, code := some k17c8 }
def k17c9 : Code := { maxStack := 4, maxLocals := 1, code := prog_49_method_15_code, exceptionTable := #[], attributes := #[] }
def k17m9 : Method := { name := "name", desc := "([B)Ljava/lang/String;", sig := { parameters := [(.array .byte)], returnType := some (.object "java/lang/String") }, accessFlags := 10, code := some k17c9 }
/-- com/example/onesnap/onesnap/node/TransactionTracker -/
def k17 : Class := { plain "com/example/onesnap/onesnap/node/TransactionTracker" (some 0) with
  accessFlags := 48
  interfaces := #[]
  cf := some (fileOf pool17 8 #[] #[{ accessFlags := 0, nameIndex := 5, descriptorIndex := 6, attributes := #[] }, { accessFlags := 0, nameIndex := 123, descriptorIndex := 124, attributes := #[] }, { accessFlags := 0, nameIndex := 130, descriptorIndex := 131, attributes := #[] }, { accessFlags := 8, nameIndex := 81, descriptorIndex := 82, attributes := #[] }, { accessFlags := 0, nameIndex := 94, descriptorIndex := 95, attributes := #[] }, { accessFlags := 0, nameIndex := 98, descriptorIndex := 95, attributes := #[] }, { accessFlags := 0, nameIndex := 134, descriptorIndex := 135, attributes := #[] }, { accessFlags := 0, nameIndex := 138, descriptorIndex := 139, attributes := #[] }, { accessFlags := 0, nameIndex := 140, descriptorIndex := 64, attributes := #[] }, { accessFlags := 10, nameIndex := 77, descriptorIndex := 78, attributes := #[] }] 48 2 #[] #[{ accessFlags := 2, nameIndex := 11, descriptorIndex := 12, attributes := #[] }, { accessFlags := 2, nameIndex := 25, descriptorIndex := 26, attributes := #[] }, { accessFlags := 18, nameIndex := 18, descriptorIndex := 19, attributes := #[] }, { accessFlags := 18, nameIndex := 22, descriptorIndex := 19, attributes := #[] }])
  fields := #[{ name := "status", type := .char, accessFlags := 2, slot := 0, constantValue := 0 }, { name := "writes", type := .boolean, accessFlags := 2, slot := 1, constantValue := 0 }, { name := "statements", type := (.object "java/util/Map"), accessFlags := 18, slot := 2, constantValue := 0 }, { name := "portals", type := (.object "java/util/Map"), accessFlags := 18, slot := 3, constantValue := 0 }]
  methods := #[k17m0, k17m1, k17m2, k17m3, k17m4, k17m5, k17m6, k17m7, k17m8, k17m9]
  instanceTypes := #[.char, .boolean, (.object "java/util/Map"), (.object "java/util/Map")]
  staticTypes := #[]
  resolved := Array.replicate 144 none
  statics := none }

def pool18 : Array CpInfo := pool [(2, .class_ 4), (1, u "java/util/Map"), (31, .class_ 37), (0, u "java/util/Map$Entry"), (25, u "(Ljava/lang/Object;Ljava/lang/Object;)Ljava/lang/Object;"), (5, u "put"), (23, .class_ 94), (0, u "java/lang/Object"), (43, u "getOrDefault")] 124

def k18m0 : Method := { name := "put", desc := "(Ljava/lang/Object;Ljava/lang/Object;)Ljava/lang/Object;", sig := { parameters := [(.object "java/lang/Object"), (.object "java/lang/Object")], returnType := some (.object "java/lang/Object") }, accessFlags := 1025, code := none }
def k18c1 : Code := { maxStack := 2, maxLocals := 4, code := ⟨#[]⟩, exceptionTable := #[], attributes := #[] }
def k18m1 : Method := { name := "getOrDefault", desc := "(Ljava/lang/Object;Ljava/lang/Object;)Ljava/lang/Object;", sig := { parameters := [(.object "java/lang/Object"), (.object "java/lang/Object")], returnType := some (.object "java/lang/Object") }, accessFlags := 1, code := some k18c1 }
/-- java/util/Map -/
def k18 : Class := { plain "java/util/Map" (some 0) with
  accessFlags := 1537
  interfaces := #[]
  cf := some (fileOf pool18 2 #[.nestMembers #[36]] #[{ accessFlags := 1025, nameIndex := 69, descriptorIndex := 63, attributes := #[] }, { accessFlags := 1, nameIndex := 138, descriptorIndex := 63, attributes := #[] }] 1537 93 #[] #[])
  fields := #[]
  methods := #[k18m0, k18m1]
  instanceTypes := #[]
  staticTypes := #[]
  resolved := Array.replicate 263 none
  statics := none }

def pool19 : Array CpInfo := pool [(1, .methodref 2 3), (0, .class_ 4), (0, .nameAndType 5 6), (0, u "java/lang/Object"), (0, u "<init>"), (0, u "()V"), (1, .class_ 10), (1, u "java/util/AbstractMap"), (42, .class_ 54), (0, u "java/util/Map"), (9, u "keySet"), (0, u "Ljava/util/Set;"), (0, .class_ 67), (0, u "java/util/AbstractMap$1"), (5, u "values"), (0, u "Ljava/util/Collection;"), (0, .class_ 76), (0, u "java/util/AbstractMap$2"), (104, .class_ 182), (0, u "java/util/AbstractMap$ViewCollection"), (0, .class_ 184), (0, u "java/util/AbstractMap$SimpleImmutableEntry"), (0, .class_ 186), (0, u "java/util/AbstractMap$SimpleEntry"), (0, .class_ 188), (0, u "java/util/AbstractMap$2$1"), (0, .class_ 190), (0, u "java/util/AbstractMap$1$1")] 5

def k19c0 : Code := { maxStack := 1, maxLocals := 1, code := jdk_71_method_1_code, exceptionTable := #[], attributes := #[] }
def k19m0 : Method := { name := "<init>", desc := "()V", sig := { parameters := [], returnType := none }, accessFlags := 4, code := some k19c0 }
/-- java/util/AbstractMap -/
def k19 : Class := { plain "java/util/AbstractMap" (some 0) with
  accessFlags := 1057
  interfaces := #[18]
  cf := some (fileOf pool19 8 #[.nestMembers #[181, 183, 185, 75, 187, 66, 189]] #[{ accessFlags := 4, nameIndex := 5, descriptorIndex := 6, attributes := #[] }] 1057 2 #[53] #[{ accessFlags := 128, nameIndex := 64, descriptorIndex := 65, attributes := #[] }, { accessFlags := 128, nameIndex := 73, descriptorIndex := 74, attributes := #[] }])
  fields := #[{ name := "keySet", type := (.object "java/util/Set"), accessFlags := 128, slot := 0, constantValue := 0 }, { name := "values", type := (.object "java/util/Collection"), accessFlags := 128, slot := 1, constantValue := 0 }]
  methods := #[k19m0]
  instanceTypes := #[(.object "java/util/Set"), (.object "java/util/Collection")]
  staticTypes := #[]
  resolved := Array.replicate 196 none
  statics := none }

def pool20 : Array CpInfo := pool [(1, .methodref 2 3), (0, .class_ 4), (0, .nameAndType 5 6), (0, u "java/lang/Object"), (0, u "hashCode"), (0, u "()I"), (26, u "(Ljava/lang/Object;)I"), (6, .class_ 41), (0, u "java/util/HashMap"), (1, .methodref 44 45), (0, .class_ 46), (0, .nameAndType 47 48), (0, u "java/util/AbstractMap"), (0, u "<init>"), (0, u "()V"), (32, .fieldref 40 82), (0, .nameAndType 83 84), (0, u "loadFactor"), (0, u "F"), (3, .fieldref 40 89), (0, .nameAndType 90 91), (0, u "threshold"), (0, u "I"), (0, .float 1061158912), (8, .class_ 103), (1, u "java/util/Map"), (0, u "size"), (0, .fieldref 40 106), (0, .nameAndType 107 108), (0, u "table"), (0, u "[Ljava/util/HashMap$Node;"), (8, .methodref 40 118), (0, .nameAndType 119 120), (0, u "resize"), (0, u "()[Ljava/util/HashMap$Node;"), (2, u "entrySet"), (25, .methodref 40 150), (0, .nameAndType 151 33), (0, u "hash"), (0, .methodref 40 153), (0, .nameAndType 154 155), (0, u "putVal"), (0, u "(ILjava/lang/Object;Ljava/lang/Object;ZZ)Ljava/lang/Object;"), (0, .fieldref 40 157), (0, .nameAndType 104 91), (0, .methodref 40 159), (0, .nameAndType 160 161), (0, u "getNode"), (0, u "(Ljava/lang/Object;)Ljava/util/HashMap$Node;"), (0, .fieldref 163 164), (0, .class_ 165), (0, .nameAndType 166 167), (0, u "java/util/HashMap$Node"), (0, u "value"), (0, u "Ljava/lang/Object;"), (0, .fieldref 163 169), (0, .nameAndType 151 91), (0, .fieldref 163 171), (0, .nameAndType 172 167), (0, u "key"), (0, .methodref 2 174), (0, .nameAndType 175 176), (0, u "equals"), (0, u "(Ljava/lang/Object;)Z"), (3, .class_ 181), (0, u "java/util/HashMap$TreeNode"), (4, .methodref 40 187), (0, .nameAndType 188 189), (0, u "newNode"), (0, u "(ILjava/lang/Object;Ljava/lang/Object;Ljava/util/HashMap$Node;)Ljava/util/HashMap$Node;"), (12, .fieldref 40 203), (0, .nameAndType 204 91), (0, u "modCount"), (0, .methodref 40 206), (0, .nameAndType 207 208), (0, u "afterNodeInsertion"), (0, u "(Z)V"), (33, u "Ljava/util/Set;"), (0, .class_ 244), (0, u "java/util/HashMap$KeySet"), (18, .class_ 264), (0, u "java/util/HashMap$Values"), (3, .class_ 269), (0, u "java/util/HashMap$EntrySet"), (17, u "(Ljava/lang/Object;Ljava/lang/Object;)Ljava/lang/Object;"), (58, .class_ 348), (1, u "java/util/HashMap$UnsafeHolder"), (26, .methodref 163 376), (0, .nameAndType 47 377), (0, u "(ILjava/lang/Object;Ljava/lang/Object;Ljava/util/HashMap$Node;)V"), (14, .class_ 393), (0, u "java/lang/Cloneable"), (0, .class_ 395), (0, u "java/io/Serializable"), (0, u "serialVersionUID"), (0, u "J"), (3, u "DEFAULT_INITIAL_CAPACITY"), (1, u "MAXIMUM_CAPACITY"), (0, u "DEFAULT_LOAD_FACTOR"), (0, u "TREEIFY_THRESHOLD"), (1, u "UNTREEIFY_THRESHOLD"), (1, u "MIN_TREEIFY_CAPACITY"), (60, u "put"), (53, u "getOrDefault"), (71, .class_ 597), (0, u "java/util/HashMap$EntrySpliterator"), (0, .class_ 599), (0, u "java/util/HashMap$ValueSpliterator"), (0, .class_ 601), (0, u "java/util/HashMap$KeySpliterator"), (0, .class_ 603), (0, u "java/util/HashMap$HashMapSpliterator"), (0, .class_ 605), (0, u "java/util/HashMap$EntryIterator"), (0, .class_ 607), (0, u "java/util/HashMap$ValueIterator"), (0, .class_ 609), (0, u "java/util/HashMap$KeyIterator"), (0, .class_ 611), (0, u "java/util/HashMap$HashIterator")] 17

def k20c0 : Code := { maxStack := 3, maxLocals := 2, code := jdk_69_method_1_code, exceptionTable := #[], attributes := #[] }
def k20m0 : Method := { name := "hash", desc := "(Ljava/lang/Object;)I", sig := { parameters := [(.object "java/lang/Object")], returnType := some .int }, accessFlags := 24, code := some k20c0 }
def k20c1 : Code := { maxStack := 2, maxLocals := 1, code := jdk_69_method_7_code, exceptionTable := #[], attributes := #[] }
def k20m1 : Method := { name := "<init>", desc := "()V", sig := { parameters := [], returnType := none }, accessFlags := 1, code := some k20c1 }
def k20c2 : Code := { maxStack := 4, maxLocals := 8, code := jdk_69_method_13_code, exceptionTable := #[], attributes := #[] }
def k20m2 : Method := { name := "getNode", desc := "(Ljava/lang/Object;)Ljava/util/HashMap$Node;", sig := { parameters := [(.object "java/lang/Object")], returnType := some (.object "java/util/HashMap$Node") }, accessFlags := 16, code := some k20c2 }
def k20c3 : Code := { maxStack := 6, maxLocals := 3, code := jdk_69_method_15_code, exceptionTable := #[], attributes := #[] }
def k20m3 : Method := { name := "put", desc := "(Ljava/lang/Object;Ljava/lang/Object;)Ljava/lang/Object;", sig := { parameters := [(.object "java/lang/Object"), (.object "java/lang/Object")], returnType := some (.object "java/lang/Object") }, accessFlags := 1, code := some k20c3 }
def k20c4 : Code := { maxStack := 7, maxLocals := 13, code := jdk_69_method_16_code, exceptionTable := #[], attributes := #[] }
def k20m4 : Method := { name := "putVal", desc := "(ILjava/lang/Object;Ljava/lang/Object;ZZ)Ljava/lang/Object;", sig := { parameters := [.int, (.object "java/lang/Object"), (.object "java/lang/Object"), .boolean, .boolean], returnType := some (.object "java/lang/Object") }, accessFlags := 16, code := some k20c4 }
def k20c5 : Code := { maxStack := 5, maxLocals := 14, code := jdk_69_method_17_code, exceptionTable := #[], attributes := #[] }
def k20m5 : Method := { name := "resize", desc := "()[Ljava/util/HashMap$Node;", sig := { parameters := [], returnType := some (.array (.object "java/util/HashMap$Node")) }, accessFlags := 16, code := some k20c5 }
def k20c6 : Code := { maxStack := 2, maxLocals := 4, code := jdk_69_method_30_code, exceptionTable := #[], attributes := #[] }
def k20m6 : Method := { name := "getOrDefault", desc := "(Ljava/lang/Object;Ljava/lang/Object;)Ljava/lang/Object;", sig := { parameters := [(.object "java/lang/Object"), (.object "java/lang/Object")], returnType := some (.object "java/lang/Object") }, accessFlags := 1, code := some k20c6 }
def k20c7 : Code := { maxStack := 6, maxLocals := 5, code := jdk_69_method_46_code, exceptionTable := #[], attributes := #[] }
def k20m7 : Method := { name := "newNode", desc := "(ILjava/lang/Object;Ljava/lang/Object;Ljava/util/HashMap$Node;)Ljava/util/HashMap$Node;", sig := { parameters := [.int, (.object "java/lang/Object"), (.object "java/lang/Object"), (.object "java/util/HashMap$Node")], returnType := some (.object "java/util/HashMap$Node") }, accessFlags := 0, code := some k20c7 }
def k20c8 : Code := { maxStack := 0, maxLocals := 2, code := jdk_69_method_52_code, exceptionTable := #[], attributes := #[] }
def k20m8 : Method := { name := "afterNodeInsertion", desc := "(Z)V", sig := { parameters := [.boolean], returnType := none }, accessFlags := 0, code := some k20c8 }
/-- java/util/HashMap -/
def k20 : Class := { plain "java/util/HashMap" (some 19) with
  accessFlags := 33
  interfaces := #[18, 14, 4]
  cf := some (fileOf pool20 40 #[.nestMembers #[180, 596, 598, 600, 602, 604, 606, 608, 610, 346, 268, 263, 243, 163]] #[{ accessFlags := 24, nameIndex := 151, descriptorIndex := 33, attributes := #[] }, { accessFlags := 1, nameIndex := 47, descriptorIndex := 48, attributes := #[] }, { accessFlags := 16, nameIndex := 160, descriptorIndex := 161, attributes := #[] }, { accessFlags := 1, nameIndex := 470, descriptorIndex := 287, attributes := #[] }, { accessFlags := 16, nameIndex := 154, descriptorIndex := 155, attributes := #[] }, { accessFlags := 16, nameIndex := 119, descriptorIndex := 120, attributes := #[] }, { accessFlags := 1, nameIndex := 524, descriptorIndex := 287, attributes := #[] }, { accessFlags := 0, nameIndex := 188, descriptorIndex := 189, attributes := #[] }, { accessFlags := 0, nameIndex := 207, descriptorIndex := 208, attributes := #[] }] 33 44 #[101, 392, 394] #[{ accessFlags := 26, nameIndex := 396, descriptorIndex := 397, attributes := #[] }, { accessFlags := 24, nameIndex := 401, descriptorIndex := 91, attributes := #[] }, { accessFlags := 24, nameIndex := 403, descriptorIndex := 91, attributes := #[] }, { accessFlags := 24, nameIndex := 404, descriptorIndex := 84, attributes := #[] }, { accessFlags := 24, nameIndex := 405, descriptorIndex := 91, attributes := #[] }, { accessFlags := 24, nameIndex := 407, descriptorIndex := 91, attributes := #[] }, { accessFlags := 24, nameIndex := 409, descriptorIndex := 91, attributes := #[] }, { accessFlags := 128, nameIndex := 107, descriptorIndex := 108, attributes := #[] }, { accessFlags := 128, nameIndex := 123, descriptorIndex := 242, attributes := #[] }, { accessFlags := 128, nameIndex := 104, descriptorIndex := 91, attributes := #[] }, { accessFlags := 128, nameIndex := 204, descriptorIndex := 91, attributes := #[] }, { accessFlags := 0, nameIndex := 90, descriptorIndex := 91, attributes := #[] }, { accessFlags := 16, nameIndex := 83, descriptorIndex := 84, attributes := #[] }])
  fields := #[{ name := "serialVersionUID", type := .long, accessFlags := 26, slot := 0, constantValue := 0 }, { name := "DEFAULT_INITIAL_CAPACITY", type := .int, accessFlags := 24, slot := 1, constantValue := 0 }, { name := "MAXIMUM_CAPACITY", type := .int, accessFlags := 24, slot := 2, constantValue := 0 }, { name := "DEFAULT_LOAD_FACTOR", type := .float, accessFlags := 24, slot := 3, constantValue := 0 }, { name := "TREEIFY_THRESHOLD", type := .int, accessFlags := 24, slot := 4, constantValue := 0 }, { name := "UNTREEIFY_THRESHOLD", type := .int, accessFlags := 24, slot := 5, constantValue := 0 }, { name := "MIN_TREEIFY_CAPACITY", type := .int, accessFlags := 24, slot := 6, constantValue := 0 }, { name := "table", type := (.array (.object "java/util/HashMap$Node")), accessFlags := 128, slot := 2, constantValue := 0 }, { name := "entrySet", type := (.object "java/util/Set"), accessFlags := 128, slot := 3, constantValue := 0 }, { name := "size", type := .int, accessFlags := 128, slot := 4, constantValue := 0 }, { name := "modCount", type := .int, accessFlags := 128, slot := 5, constantValue := 0 }, { name := "threshold", type := .int, accessFlags := 0, slot := 6, constantValue := 0 }, { name := "loadFactor", type := .float, accessFlags := 16, slot := 7, constantValue := 0 }]
  methods := #[k20m0, k20m1, k20m2, k20m3, k20m4, k20m5, k20m6, k20m7, k20m8]
  instanceTypes := #[(.object "java/util/Set"), (.object "java/util/Collection"), (.array (.object "java/util/HashMap$Node")), (.object "java/util/Set"), .int, .int, .int, .float]
  staticTypes := #[.long, .int, .int, .float, .int, .int, .int]
  resolved := Array.replicate 629 none
  statics := none }

def pool21 : Array CpInfo := pool [(2, .class_ 4), (1, u "java/lang/CharSequence"), (42, .class_ 48), (0, u "java/lang/CharSequence$1CodePointIterator"), (10, .class_ 60), (0, u "java/lang/CharSequence$1CharIterator"), (5, .class_ 67), (0, u "java/lang/Object")] 63

/-- java/lang/CharSequence -/
def k21 : Class := { plain "java/lang/CharSequence" (some 0) with
  accessFlags := 1537
  interfaces := #[]
  cf := some (fileOf pool21 2 #[.nestMembers #[47, 59]] #[] 1537 66 #[] #[])
  fields := #[]
  methods := #[]
  instanceTypes := #[]
  staticTypes := #[]
  resolved := Array.replicate 131 none
  statics := none }

def pool22 : Array CpInfo := pool [(1, .class_ 2), (0, u "java/lang/constant/ConstantDesc"), (0, .class_ 4), (0, u "java/lang/Object")] 32

/-- java/lang/constant/ConstantDesc -/
def k22 : Class := { plain "java/lang/constant/ConstantDesc" (some 0) with
  accessFlags := 1537
  interfaces := #[]
  cf := some (fileOf pool22 1 #[] #[] 1537 3 #[] #[])
  fields := #[]
  methods := #[]
  instanceTypes := #[]
  staticTypes := #[]
  resolved := Array.replicate 37 none
  statics := none }

def pool23 : Array CpInfo := pool [(1, .methodref 2 3), (0, .class_ 4), (0, .nameAndType 5 6), (0, u "java/lang/Object"), (0, u "<init>"), (0, u "()V"), (2, .fieldref 10 11), (0, .class_ 12), (0, .nameAndType 13 14), (0, u "java/lang/String"), (0, u "value"), (0, u "[B"), (0, .fieldref 10 16), (0, .nameAndType 17 18), (0, u "coder"), (0, u "B"), (0, .fieldref 10 20), (0, .nameAndType 21 22), (0, u "hash"), (0, u "I"), (0, .fieldref 10 24), (0, .nameAndType 25 26), (0, u "hashIsZero"), (0, u "Z"), (11, .fieldref 10 39), (0, .nameAndType 40 26), (0, u "COMPACT_STRINGS"), (13, .methodref 55 56), (0, .class_ 57), (0, .nameAndType 58 59), (0, u "java/util/Arrays"), (0, u "copyOfRange"), (0, u "([BII)[B"), (15, .methodref 10 76), (0, .nameAndType 5 77), (0, u "(Ljava/nio/charset/Charset;[BII)V"), (0, .methodref 79 80), (0, .class_ 81), (0, .nameAndType 82 83), (0, u "java/util/Objects"), (0, u "requireNonNull"), (0, u "(Ljava/lang/Object;)Ljava/lang/Object;"), (0, .class_ 85), (0, u "java/nio/charset/Charset"), (0, .fieldref 87 88), (0, .class_ 89), (0, .nameAndType 90 91), (0, u "sun/nio/cs/UTF_8"), (0, u "INSTANCE"), (0, u "Lsun/nio/cs/UTF_8;"), (15, .class_ 109), (1, u "java/lang/StringLatin1"), (6, .fieldref 117 118), (0, .class_ 119), (0, .nameAndType 90 120), (0, u "sun/nio/cs/ISO_8859_1"), (0, u "Lsun/nio/cs/ISO_8859_1;"), (21, u "()Z"), (191, u "()I"), (157, .methodref 10 493), (0, .nameAndType 494 142), (0, u "isLatin1"), (46, .methodref 107 542), (0, .nameAndType 543 544), (0, u "equals"), (0, u "([B[B)Z"), (28, u "(Ljava/lang/Object;)Z"), (1, .class_ 576), (0, u "java/lang/CharSequence"), (22, u "CASE_INSENSITIVE_ORDER"), (0, u "Ljava/util/Comparator;"), (27, .methodref 107 629), (0, .nameAndType 630 631), (0, u "hashCode"), (0, u "([B)I"), (469, u "serialPersistentFields"), (0, u "[Ljava/io/ObjectStreamField;"), (0, .class_ 1104), (0, u "java/lang/String$CaseInsensitiveComparator"), (1, .class_ 1107), (0, u "java/io/Serializable"), (0, .class_ 1109), (0, u "java/lang/Comparable"), (0, .class_ 1111), (0, u "java/lang/constant/Constable"), (0, .class_ 1113), (0, u "java/lang/constant/ConstantDesc"), (2, u "serialVersionUID"), (0, u "J"), (3, u "REPL"), (0, u "C"), (2, u "LATIN1"), (1, u "UTF16"), (101, u "([BLjava/nio/charset/Charset;)V")] 221

def k23m0 : Method := { name := "<init>", desc := "()V", sig := { parameters := [], returnType := none }, accessFlags := 1, code := none }
def k23c1 : Code := { maxStack := 6, maxLocals := 11, code := jdk_42_method_11_code, exceptionTable := #[{ startPc := 800, endPc := 813, handlerPc := 816, catchType := 202 }], attributes := #[] }
def k23m1 : Method := { name := "<init>", desc := "(Ljava/nio/charset/Charset;[BII)V", sig := { parameters := [(.object "java/nio/charset/Charset"), (.array .byte), .int, .int], returnType := none }, accessFlags := 2, code := some k23c1 }
def k23c2 : Code := { maxStack := 5, maxLocals := 3, code := jdk_42_method_49_code, exceptionTable := #[], attributes := #[] }
def k23m2 : Method := { name := "<init>", desc := "([BLjava/nio/charset/Charset;)V", sig := { parameters := [(.array .byte), (.object "java/nio/charset/Charset")], returnType := none }, accessFlags := 1, code := some k23c2 }
def k23c3 : Code := { maxStack := 2, maxLocals := 3, code := jdk_42_method_66_code, exceptionTable := #[], attributes := #[] }
def k23m3 : Method := { name := "equals", desc := "(Ljava/lang/Object;)Z", sig := { parameters := [(.object "java/lang/Object")], returnType := some .boolean }, accessFlags := 1, code := some k23c3 }
def k23c4 : Code := { maxStack := 2, maxLocals := 2, code := jdk_42_method_78_code, exceptionTable := #[], attributes := #[] }
def k23m4 : Method := { name := "hashCode", desc := "()I", sig := { parameters := [], returnType := some .int }, accessFlags := 1, code := some k23c4 }
def k23c5 : Code := { maxStack := 1, maxLocals := 1, code := jdk_42_method_154_code, exceptionTable := #[], attributes := #[] }
def k23m5 : Method := { name := "isLatin1", desc := "()Z", sig := { parameters := [], returnType := some .boolean }, accessFlags := 0, code := some k23c5 }
/-- java/lang/String -/
def k23 : Class := { plain "java/lang/String" (some 0) with
  accessFlags := 49
  interfaces := #[4, 3, 21, 2, 22]
  cf := some (fileOf pool23 10 #[.nestMembers #[1103]] #[{ accessFlags := 1, nameIndex := 5, descriptorIndex := 6, attributes := #[] }, { accessFlags := 2, nameIndex := 5, descriptorIndex := 77, attributes := #[] }, { accessFlags := 1, nameIndex := 5, descriptorIndex := 1229, attributes := #[] }, { accessFlags := 1, nameIndex := 543, descriptorIndex := 573, attributes := #[] }, { accessFlags := 1, nameIndex := 630, descriptorIndex := 334, attributes := #[] }, { accessFlags := 0, nameIndex := 494, descriptorIndex := 142, attributes := #[] }] 49 2 #[1106, 1108, 575, 1110, 1112] #[{ accessFlags := 18, nameIndex := 13, descriptorIndex := 14, attributes := #[] }, { accessFlags := 18, nameIndex := 17, descriptorIndex := 18, attributes := #[] }, { accessFlags := 2, nameIndex := 21, descriptorIndex := 22, attributes := #[] }, { accessFlags := 2, nameIndex := 25, descriptorIndex := 26, attributes := #[] }, { accessFlags := 26, nameIndex := 1116, descriptorIndex := 1117, attributes := #[] }, { accessFlags := 24, nameIndex := 40, descriptorIndex := 26, attributes := #[] }, { accessFlags := 26, nameIndex := 1101, descriptorIndex := 1102, attributes := #[] }, { accessFlags := 26, nameIndex := 1121, descriptorIndex := 1122, attributes := #[] }, { accessFlags := 25, nameIndex := 599, descriptorIndex := 600, attributes := #[] }, { accessFlags := 24, nameIndex := 1125, descriptorIndex := 18, attributes := #[] }, { accessFlags := 24, nameIndex := 1127, descriptorIndex := 18, attributes := #[] }])
  fields := #[{ name := "value", type := (.array .byte), accessFlags := 18, slot := 0, constantValue := 0 }, { name := "coder", type := .byte, accessFlags := 18, slot := 1, constantValue := 0 }, { name := "hash", type := .int, accessFlags := 2, slot := 2, constantValue := 0 }, { name := "hashIsZero", type := .boolean, accessFlags := 2, slot := 3, constantValue := 0 }, { name := "serialVersionUID", type := .long, accessFlags := 26, slot := 0, constantValue := 0 }, { name := "COMPACT_STRINGS", type := .boolean, accessFlags := 24, slot := 1, constantValue := 0 }, { name := "serialPersistentFields", type := (.array (.object "java/io/ObjectStreamField")), accessFlags := 26, slot := 2, constantValue := 0 }, { name := "REPL", type := .char, accessFlags := 26, slot := 3, constantValue := 0 }, { name := "CASE_INSENSITIVE_ORDER", type := (.object "java/util/Comparator"), accessFlags := 25, slot := 4, constantValue := 0 }, { name := "LATIN1", type := .byte, accessFlags := 24, slot := 5, constantValue := 0 }, { name := "UTF16", type := .byte, accessFlags := 24, slot := 6, constantValue := 0 }]
  methods := #[k23m0, k23m1, k23m2, k23m3, k23m4, k23m5]
  instanceTypes := #[(.array .byte), .byte, .int, .boolean]
  staticTypes := #[.long, .boolean, (.array (.object "java/io/ObjectStreamField")), .char, (.object "java/util/Comparator"), .byte, .byte]
  resolved := Array.replicate 1451 none
  statics := some 2 }

def pool24 : Array CpInfo := pool [(2, .class_ 4), (1, u "java/lang/Object"), (0, u "<init>"), (0, u "()V"), (14, .class_ 23), (1, u "java/nio/charset/StandardCharsets"), (0, u "US_ASCII"), (0, u "Ljava/nio/charset/Charset;"), (7, u "ISO_8859_1"), (7, u "UTF_8"), (5, u "UTF_16BE"), (5, u "UTF_16LE"), (5, u "UTF_16")] 8

def k24m0 : Method := { name := "<init>", desc := "()V", sig := { parameters := [], returnType := none }, accessFlags := 2, code := none }
/-- java/nio/charset/StandardCharsets -/
def k24 : Class := { plain "java/nio/charset/StandardCharsets" (some 0) with
  accessFlags := 49
  interfaces := #[]
  cf := some (fileOf pool24 21 #[] #[{ accessFlags := 2, nameIndex := 5, descriptorIndex := 6, attributes := #[] }] 49 2 #[] #[{ accessFlags := 25, nameIndex := 24, descriptorIndex := 25, attributes := #[] }, { accessFlags := 25, nameIndex := 33, descriptorIndex := 25, attributes := #[] }, { accessFlags := 25, nameIndex := 41, descriptorIndex := 25, attributes := #[] }, { accessFlags := 25, nameIndex := 47, descriptorIndex := 25, attributes := #[] }, { accessFlags := 25, nameIndex := 53, descriptorIndex := 25, attributes := #[] }, { accessFlags := 25, nameIndex := 59, descriptorIndex := 25, attributes := #[] }])
  fields := #[{ name := "US_ASCII", type := (.object "java/nio/charset/Charset"), accessFlags := 25, slot := 0, constantValue := 0 }, { name := "ISO_8859_1", type := (.object "java/nio/charset/Charset"), accessFlags := 25, slot := 1, constantValue := 0 }, { name := "UTF_8", type := (.object "java/nio/charset/Charset"), accessFlags := 25, slot := 2, constantValue := 0 }, { name := "UTF_16BE", type := (.object "java/nio/charset/Charset"), accessFlags := 25, slot := 3, constantValue := 0 }, { name := "UTF_16LE", type := (.object "java/nio/charset/Charset"), accessFlags := 25, slot := 4, constantValue := 0 }, { name := "UTF_16", type := (.object "java/nio/charset/Charset"), accessFlags := 25, slot := 5, constantValue := 0 }]
  methods := #[k24m0]
  instanceTypes := #[]
  staticTypes := #[(.object "java/nio/charset/Charset"), (.object "java/nio/charset/Charset"), (.object "java/nio/charset/Charset"), (.object "java/nio/charset/Charset"), (.object "java/nio/charset/Charset"), (.object "java/nio/charset/Charset")]
  resolved := Array.replicate 68 none
  statics := some 3 }

def pool25 : Array CpInfo := pool [(2, .class_ 4), (1, u "java/lang/Object"), (0, u "<init>"), (0, u "()V"), (35, .class_ 44), (1, u "java/util/Objects"), (0, u "requireNonNull"), (0, u "(Ljava/lang/Object;)Ljava/lang/Object;"), (58, .methodref 106 107), (0, .class_ 108), (0, .nameAndType 109 110), (0, u "jdk/internal/util/Preconditions"), (0, u "checkIndex"), (0, u "(IILjava/util/function/BiFunction;)I"), (60, u "(II)I")] 12

def k25m0 : Method := { name := "<init>", desc := "()V", sig := { parameters := [], returnType := none }, accessFlags := 2, code := none }
def k25c1 : Code := { maxStack := 2, maxLocals := 1, code := jdk_31_method_10_code, exceptionTable := #[], attributes := #[] }
def k25m1 : Method := { name := "requireNonNull", desc := "(Ljava/lang/Object;)Ljava/lang/Object;", sig := { parameters := [(.object "java/lang/Object")], returnType := some (.object "java/lang/Object") }, accessFlags := 9, code := some k25c1 }
def k25c2 : Code := { maxStack := 3, maxLocals := 2, code := jdk_31_method_17_code, exceptionTable := #[], attributes := #[] }
def k25m2 : Method := { name := "checkIndex", desc := "(II)I", sig := { parameters := [.int, .int], returnType := some .int }, accessFlags := 9, code := some k25c2 }
/-- java/util/Objects -/
def k25 : Class := { plain "java/util/Objects" (some 0) with
  accessFlags := 49
  interfaces := #[]
  cf := some (fileOf pool25 42 #[] #[{ accessFlags := 2, nameIndex := 5, descriptorIndex := 6, attributes := #[] }, { accessFlags := 9, nameIndex := 45, descriptorIndex := 46, attributes := #[] }, { accessFlags := 9, nameIndex := 109, descriptorIndex := 171, attributes := #[] }] 49 2 #[] #[])
  fields := #[]
  methods := #[k25m0, k25m1, k25m2]
  instanceTypes := #[]
  staticTypes := #[]
  resolved := Array.replicate 184 none
  statics := none }

def pool26 : Array CpInfo := pool [(18, .class_ 20), (1, u "java/nio/charset/Charset"), (0, u "cache1"), (0, u "[Ljava/lang/Object;"), (2, u "cache2"), (0, .class_ 27), (0, u "java/lang/Object"), (0, .class_ 29), (0, u "java/nio/charset/Charset$1"), (4, .class_ 36), (1, u "java/nio/charset/Charset$ThreadTrackHolder"), (21, .class_ 59), (0, u "java/nio/charset/Charset$2"), (11, .class_ 73), (1, u "java/nio/charset/Charset$ExtendedProviderHolder"), (22, u "standardProvider"), (0, u "Ljava/nio/charset/spi/CharsetProvider;"), (29, u "name"), (7, .class_ 136), (0, u "java/nio/charset/Charset$3"), (5, u "defaultCharset"), (0, u "Ljava/nio/charset/Charset;"), (14, u "zeroAliases"), (0, u "[Ljava/lang/String;"), (29, u "Ljava/lang/String;"), (2, u "aliases"), (2, u "aliasSet"), (0, u "Ljava/util/Set;"), (82, .class_ 280), (0, u "java/lang/Comparable"), (84, .class_ 366), (0, u "java/nio/charset/Charset$ExtendedProviderHolder$1")] 3

/-- java/nio/charset/Charset -/
def k26 : Class := { plain "java/nio/charset/Charset" (some 0) with
  accessFlags := 1057
  interfaces := #[3]
  cf := some (fileOf pool26 18 #[.nestMembers #[71, 365, 34, 135, 58, 28]] #[] 1057 26 #[279] #[{ accessFlags := 26, nameIndex := 96, descriptorIndex := 97, attributes := #[] }, { accessFlags := 26, nameIndex := 158, descriptorIndex := 159, attributes := #[] }, { accessFlags := 74, nameIndex := 21, descriptorIndex := 22, attributes := #[] }, { accessFlags := 74, nameIndex := 25, descriptorIndex := 22, attributes := #[] }, { accessFlags := 10, nameIndex := 142, descriptorIndex := 143, attributes := #[] }, { accessFlags := 18, nameIndex := 127, descriptorIndex := 189, attributes := #[] }, { accessFlags := 18, nameIndex := 192, descriptorIndex := 159, attributes := #[] }, { accessFlags := 2, nameIndex := 195, descriptorIndex := 196, attributes := #[] }])
  fields := #[{ name := "standardProvider", type := (.object "java/nio/charset/spi/CharsetProvider"), accessFlags := 26, slot := 0, constantValue := 0 }, { name := "zeroAliases", type := (.array (.object "java/lang/String")), accessFlags := 26, slot := 1, constantValue := 0 }, { name := "cache1", type := (.array (.object "java/lang/Object")), accessFlags := 74, slot := 2, constantValue := 0 }, { name := "cache2", type := (.array (.object "java/lang/Object")), accessFlags := 74, slot := 3, constantValue := 0 }, { name := "defaultCharset", type := (.object "java/nio/charset/Charset"), accessFlags := 10, slot := 4, constantValue := 0 }, { name := "name", type := (.object "java/lang/String"), accessFlags := 18, slot := 0, constantValue := 0 }, { name := "aliases", type := (.array (.object "java/lang/String")), accessFlags := 18, slot := 1, constantValue := 0 }, { name := "aliasSet", type := (.object "java/util/Set"), accessFlags := 2, slot := 2, constantValue := 0 }]
  methods := #[]
  instanceTypes := #[(.object "java/lang/String"), (.array (.object "java/lang/String")), (.object "java/util/Set")]
  staticTypes := #[(.object "java/nio/charset/spi/CharsetProvider"), (.array (.object "java/lang/String")), (.array (.object "java/lang/Object")), (.array (.object "java/lang/Object")), (.object "java/nio/charset/Charset")]
  resolved := Array.replicate 370 none
  statics := none }

def pool27 : Array CpInfo := pool [(1, .class_ 2), (0, u "sun/nio/cs/HistoricallyNamedCharset"), (0, .class_ 4), (0, u "java/lang/Object")] 4

/-- sun/nio/cs/HistoricallyNamedCharset -/
def k27 : Class := { plain "sun/nio/cs/HistoricallyNamedCharset" (some 0) with
  accessFlags := 1537
  interfaces := #[]
  cf := some (fileOf pool27 1 #[] #[] 1537 3 #[] #[])
  fields := #[]
  methods := #[]
  instanceTypes := #[]
  staticTypes := #[]
  resolved := Array.replicate 9 none
  statics := none }

def pool28 : Array CpInfo := pool [(10, .class_ 12), (1, u "java/nio/charset/Charset"), (0, u "<init>"), (5, .class_ 20), (0, u "sun/nio/cs/ISO_8859_1"), (0, .class_ 22), (0, u "sun/nio/cs/ISO_8859_1$Decoder"), (3, .class_ 27), (0, u "sun/nio/cs/ISO_8859_1$Encoder"), (3, u "()V"), (2, u "INSTANCE"), (0, u "Lsun/nio/cs/ISO_8859_1;"), (0, .class_ 37), (0, u "sun/nio/cs/HistoricallyNamedCharset")] 22

def k28m0 : Method := { name := "<init>", desc := "()V", sig := { parameters := [], returnType := none }, accessFlags := 1, code := none }
/-- sun/nio/cs/ISO_8859_1 -/
def k28 : Class := { plain "sun/nio/cs/ISO_8859_1" (some 26) with
  accessFlags := 33
  interfaces := #[27]
  cf := some (fileOf pool28 19 #[.nestMembers #[26, 21]] #[{ accessFlags := 1, nameIndex := 13, descriptorIndex := 31, attributes := #[] }] 33 10 #[36] #[{ accessFlags := 25, nameIndex := 34, descriptorIndex := 35, attributes := #[] }])
  fields := #[{ name := "INSTANCE", type := (.object "sun/nio/cs/ISO_8859_1"), accessFlags := 25, slot := 0, constantValue := 0 }]
  methods := #[k28m0]
  instanceTypes := #[(.object "java/lang/String"), (.array (.object "java/lang/String")), (.object "java/util/Set")]
  staticTypes := #[(.object "sun/nio/cs/ISO_8859_1")]
  resolved := Array.replicate 60 none
  statics := some 4 }

def pool29 : Array CpInfo := pool [(2, .class_ 4), (1, u "java/nio/charset/Charset"), (130, .class_ 136), (0, u "sun/nio/cs/Unicode"), (0, .class_ 138), (0, u "sun/nio/cs/HistoricallyNamedCharset")] 15

/-- sun/nio/cs/Unicode -/
def k29 : Class := { plain "sun/nio/cs/Unicode" (some 26) with
  accessFlags := 1056
  interfaces := #[27]
  cf := some (fileOf pool29 135 #[] #[] 1056 2 #[137] #[])
  fields := #[]
  methods := #[]
  instanceTypes := #[(.object "java/lang/String"), (.array (.object "java/lang/String")), (.object "java/util/Set")]
  staticTypes := #[]
  resolved := Array.replicate 154 none
  statics := none }

def pool30 : Array CpInfo := pool [(10, .class_ 12), (1, u "sun/nio/cs/Unicode"), (0, u "<init>"), (3, .class_ 18), (0, u "sun/nio/cs/UTF_8$Decoder"), (3, .class_ 23), (0, u "sun/nio/cs/UTF_8$Encoder"), (15, .class_ 40), (0, u "sun/nio/cs/UTF_8"), (2, u "()V"), (2, u "INSTANCE"), (0, u "Lsun/nio/cs/UTF_8;"), (8, u "JLA"), (0, u "Ljdk/internal/access/JavaLangAccess;")] 26

def k30m0 : Method := { name := "<init>", desc := "()V", sig := { parameters := [], returnType := none }, accessFlags := 1, code := none }
/-- sun/nio/cs/UTF_8 -/
def k30 : Class := { plain "sun/nio/cs/UTF_8" (some 29) with
  accessFlags := 49
  interfaces := #[]
  cf := some (fileOf pool30 39 #[.nestMembers #[22, 17]] #[{ accessFlags := 1, nameIndex := 13, descriptorIndex := 43, attributes := #[] }] 49 10 #[] #[{ accessFlags := 25, nameIndex := 46, descriptorIndex := 47, attributes := #[] }, { accessFlags := 26, nameIndex := 56, descriptorIndex := 57, attributes := #[] }])
  fields := #[{ name := "INSTANCE", type := (.object "sun/nio/cs/UTF_8"), accessFlags := 25, slot := 0, constantValue := 0 }, { name := "JLA", type := (.object "jdk/internal/access/JavaLangAccess"), accessFlags := 26, slot := 1, constantValue := 0 }]
  methods := #[k30m0]
  instanceTypes := #[(.object "java/lang/String"), (.array (.object "java/lang/String")), (.object "java/util/Set")]
  staticTypes := #[(.object "sun/nio/cs/UTF_8"), (.object "jdk/internal/access/JavaLangAccess")]
  resolved := Array.replicate 84 none
  statics := some 5 }

def pool31 : Array CpInfo := pool [(2, .class_ 4), (1, u "java/lang/Object"), (0, u "<init>"), (0, u "()V"), (7, .class_ 16), (1, u "java/util/Arrays"), (57, .class_ 76), (1, u "java/util/Arrays$NaturalOrder"), (32, u "()Ljava/lang/Object;"), (3, .class_ 115), (1, u "java/util/Arrays$LegacyMergeSort"), (1, u "Z"), (10, .nameAndType 129 109), (0, u "clone"), (9, u "copyOfRange"), (170, .methodref 311 128), (0, .class_ 312), (0, u "[B"), (29, u "([BII)[B"), (32, .class_ 376), (0, u "java/util/Arrays$ArrayList"), (68, u "$assertionsDisabled"), (269, u "MIN_ARRAY_SORT_GRAN"), (0, u "I"), (2, u "INSERTIONSORT_THRESHOLD"), (255, .class_ 976), (0, u "java/util/Arrays$ArrayItr")] 52

def k31m0 : Method := { name := "<init>", desc := "()V", sig := { parameters := [], returnType := none }, accessFlags := 2, code := none }
def k31c1 : Code := { maxStack := 3, maxLocals := 3, code := jdk_65_method_132_code, exceptionTable := #[], attributes := #[] }
def k31m1 : Method := { name := "copyOfRange", desc := "([BII)[B", sig := { parameters := [(.array .byte), .int, .int], returnType := some (.array .byte) }, accessFlags := 9, code := some k31c1 }
/-- java/util/Arrays -/
def k31 : Class := { plain "java/util/Arrays" (some 0) with
  accessFlags := 49
  interfaces := #[]
  cf := some (fileOf pool31 14 #[.nestMembers #[975, 375, 113, 74]] #[{ accessFlags := 2, nameIndex := 5, descriptorIndex := 6, attributes := #[] }, { accessFlags := 9, nameIndex := 139, descriptorIndex := 342, attributes := #[] }] 49 2 #[] #[{ accessFlags := 26, nameIndex := 715, descriptorIndex := 716, attributes := #[] }, { accessFlags := 26, nameIndex := 719, descriptorIndex := 716, attributes := #[] }, { accessFlags := 4120, nameIndex := 445, descriptorIndex := 117, attributes := #[] }])
  fields := #[{ name := "MIN_ARRAY_SORT_GRAN", type := .int, accessFlags := 26, slot := 0, constantValue := 0 }, { name := "INSERTIONSORT_THRESHOLD", type := .int, accessFlags := 26, slot := 1, constantValue := 0 }, { name := "$assertionsDisabled", type := .boolean, accessFlags := 4120, slot := 2, constantValue := 0 }]
  methods := #[k31m0, k31m1]
  instanceTypes := #[]
  staticTypes := #[.int, .int, .boolean]
  resolved := Array.replicate 1029 none
  statics := none }

def pool32 : Array CpInfo := pool [(2, .class_ 4), (1, u "java/lang/Object"), (0, u "<init>"), (0, u "()V"), (17, .class_ 26), (1, u "jdk/internal/util/Preconditions"), (6, u "checkIndex"), (21, .class_ 56), (0, u "jdk/internal/util/Preconditions$4"), (57, .class_ 115), (0, u "jdk/internal/util/Preconditions$1"), (7, u "SIOOBE_FORMATTER"), (0, u "Ljava/util/function/BiFunction;"), (0, .class_ 126), (0, u "jdk/internal/util/Preconditions$2"), (3, u "AIOOBE_FORMATTER"), (0, .class_ 132), (0, u "jdk/internal/util/Preconditions$3"), (3, u "IOOBE_FORMATTER"), (41, u "(IILjava/util/function/BiFunction;)I")] 15

def k32m0 : Method := { name := "<init>", desc := "()V", sig := { parameters := [], returnType := none }, accessFlags := 1, code := none }
def k32c1 : Code := { maxStack := 3, maxLocals := 3, code := jdk_41_method_11_code, exceptionTable := #[], attributes := #[] }
def k32m1 : Method := { name := "checkIndex", desc := "(IILjava/util/function/BiFunction;)I", sig := { parameters := [.int, .int, (.object "java/util/function/BiFunction")], returnType := some .int }, accessFlags := 9, code := some k32c1 }
/-- jdk/internal/util/Preconditions -/
def k32 : Class := { plain "jdk/internal/util/Preconditions" (some 0) with
  accessFlags := 33
  interfaces := #[]
  cf := some (fileOf pool32 24 #[.nestMembers #[55, 131, 125, 114]] #[{ accessFlags := 1, nameIndex := 5, descriptorIndex := 6, attributes := #[] }, { accessFlags := 9, nameIndex := 33, descriptorIndex := 178, attributes := #[] }] 33 2 #[] #[{ accessFlags := 25, nameIndex := 123, descriptorIndex := 124, attributes := #[] }, { accessFlags := 25, nameIndex := 130, descriptorIndex := 124, attributes := #[] }, { accessFlags := 25, nameIndex := 136, descriptorIndex := 124, attributes := #[] }])
  fields := #[{ name := "SIOOBE_FORMATTER", type := (.object "java/util/function/BiFunction"), accessFlags := 25, slot := 0, constantValue := 0 }, { name := "AIOOBE_FORMATTER", type := (.object "java/util/function/BiFunction"), accessFlags := 25, slot := 1, constantValue := 0 }, { name := "IOOBE_FORMATTER", type := (.object "java/util/function/BiFunction"), accessFlags := 25, slot := 2, constantValue := 0 }]
  methods := #[k32m0, k32m1]
  instanceTypes := #[]
  staticTypes := #[(.object "java/util/function/BiFunction"), (.object "java/util/function/BiFunction"), (.object "java/util/function/BiFunction")]
  resolved := Array.replicate 194 none
  statics := some 6 }

def pool33 : Array CpInfo := pool [(4, .class_ 6), (1, u "java/lang/Object"), (0, u "<init>"), (0, u "()V"), (5, .class_ 16), (1, u "java/lang/StringLatin1"), (40, u "([B)I"), (63, u "$assertionsDisabled"), (0, u "Z"), (98, .class_ 223), (1, u "java/lang/StringLatin1$LinesSpliterator"), (57, u "equals"), (0, u "([B[B)Z"), (15, u "hashCode"), (91, .class_ 391), (0, u "java/lang/StringLatin1$CharsSpliterator")] 3

def k33m0 : Method := { name := "<init>", desc := "()V", sig := { parameters := [], returnType := none }, accessFlags := 0, code := none }
def k33c1 : Code := { maxStack := 3, maxLocals := 3, code := jdk_43_method_13_code, exceptionTable := #[], attributes := #[] }
def k33m1 : Method := { name := "equals", desc := "([B[B)Z", sig := { parameters := [(.array .byte), (.array .byte)], returnType := some .boolean }, accessFlags := 9, code := some k33c1 }
def k33c2 : Code := { maxStack := 5, maxLocals := 1, code := jdk_43_method_21_code, exceptionTable := #[], attributes := #[] }
def k33m2 : Method := { name := "hashCode", desc := "([B)I", sig := { parameters := [(.array .byte)], returnType := some .int }, accessFlags := 9, code := some k33c2 }
/-- java/lang/StringLatin1 -/
def k33 : Class := { plain "java/lang/StringLatin1" (some 0) with
  accessFlags := 48
  interfaces := #[]
  cf := some (fileOf pool33 14 #[.nestMembers #[390, 221]] #[{ accessFlags := 0, nameIndex := 7, descriptorIndex := 8, attributes := #[] }, { accessFlags := 9, nameIndex := 281, descriptorIndex := 282, attributes := #[] }, { accessFlags := 9, nameIndex := 298, descriptorIndex := 57, attributes := #[] }] 48 4 #[] #[{ accessFlags := 4120, nameIndex := 121, descriptorIndex := 122, attributes := #[] }])
  fields := #[{ name := "$assertionsDisabled", type := .boolean, accessFlags := 4120, slot := 0, constantValue := 0 }]
  methods := #[k33m0, k33m1, k33m2]
  instanceTypes := #[]
  staticTypes := #[.boolean]
  resolved := Array.replicate 395 none
  statics := none }

def pool34 : Array CpInfo := pool [(23, .class_ 25), (1, u "java/util/Map$Entry"), (6, .class_ 34), (1, u "java/util/Map"), (34, .class_ 70), (0, u "java/lang/Object")] 107

/-- java/util/Map$Entry -/
def k34 : Class := { plain "java/util/Map$Entry" (some 0) with
  accessFlags := 1537
  interfaces := #[]
  cf := some (fileOf pool34 23 #[.nestHost 32] #[] 1537 69 #[] #[])
  fields := #[]
  methods := #[]
  instanceTypes := #[]
  staticTypes := #[]
  resolved := Array.replicate 178 none
  statics := none }

def pool35 : Array CpInfo := pool [(1, .methodref 2 3), (0, .class_ 4), (0, .nameAndType 5 6), (0, u "java/lang/Object"), (0, u "<init>"), (0, u "()V"), (0, .fieldref 8 9), (0, .class_ 10), (0, .nameAndType 11 12), (0, u "java/util/HashMap$Node"), (0, u "hash"), (0, u "I"), (0, .fieldref 8 14), (0, .nameAndType 15 16), (0, u "key"), (0, u "Ljava/lang/Object;"), (0, .fieldref 8 18), (0, .nameAndType 19 16), (0, u "value"), (0, .fieldref 8 21), (0, .nameAndType 22 23), (0, u "next"), (0, u "Ljava/util/HashMap$Node;"), (22, .class_ 47), (0, u "java/util/Map$Entry"), (15, u "(ILjava/lang/Object;Ljava/lang/Object;Ljava/util/HashMap$Node;)V"), (24, .class_ 89), (0, u "java/util/HashMap")] 5

def k35c0 : Code := { maxStack := 2, maxLocals := 5, code := jdk_70_method_1_code, exceptionTable := #[], attributes := #[] }
def k35m0 : Method := { name := "<init>", desc := "(ILjava/lang/Object;Ljava/lang/Object;Ljava/util/HashMap$Node;)V", sig := { parameters := [.int, (.object "java/lang/Object"), (.object "java/lang/Object"), (.object "java/util/HashMap$Node")], returnType := none }, accessFlags := 0, code := some k35c0 }
/-- java/util/HashMap$Node -/
def k35 : Class := { plain "java/util/HashMap$Node" (some 0) with
  accessFlags := 32
  interfaces := #[34]
  cf := some (fileOf pool35 8 #[.nestHost 88] #[{ accessFlags := 0, nameIndex := 5, descriptorIndex := 63, attributes := #[] }] 32 2 #[46] #[{ accessFlags := 16, nameIndex := 11, descriptorIndex := 12, attributes := #[] }, { accessFlags := 16, nameIndex := 15, descriptorIndex := 16, attributes := #[] }, { accessFlags := 0, nameIndex := 19, descriptorIndex := 16, attributes := #[] }, { accessFlags := 0, nameIndex := 22, descriptorIndex := 23, attributes := #[] }])
  fields := #[{ name := "hash", type := .int, accessFlags := 16, slot := 0, constantValue := 0 }, { name := "key", type := (.object "java/lang/Object"), accessFlags := 16, slot := 1, constantValue := 0 }, { name := "value", type := (.object "java/lang/Object"), accessFlags := 0, slot := 2, constantValue := 0 }, { name := "next", type := (.object "java/util/HashMap$Node"), accessFlags := 0, slot := 3, constantValue := 0 }]
  methods := #[k35m0]
  instanceTypes := #[.int, (.object "java/lang/Object"), (.object "java/lang/Object"), (.object "java/util/HashMap$Node")]
  staticTypes := #[]
  resolved := Array.replicate 95 none
  statics := none }

def pool36 : Array CpInfo := pool [(9, u "<init>"), (6, .class_ 18), (1, u "java/lang/Object"), (0, u "()V"), (1, .class_ 23), (1, u "jdk/internal/util/ArraysSupport"), (0, u "LOG2_ARRAY_LONG_INDEX_SCALE"), (0, u "I"), (2, u "U"), (0, u "Ljdk/internal/misc/Unsafe;"), (8, u "BIG_ENDIAN"), (0, u "Z"), (8, u "LOG2_BYTE_BIT_SIZE"), (4, u "LOG2_ARRAY_INT_INDEX_SCALE"), (54, u "JLA"), (0, u "Ljdk/internal/access/JavaLangAccess;"), (11, u "LOG2_ARRAY_BOOLEAN_INDEX_SCALE"), (9, u "LOG2_ARRAY_BYTE_INDEX_SCALE"), (5, u "LOG2_ARRAY_CHAR_INDEX_SCALE"), (5, u "LOG2_ARRAY_SHORT_INDEX_SCALE"), (18, u "LOG2_ARRAY_FLOAT_INDEX_SCALE"), (24, u "LOG2_ARRAY_DOUBLE_INDEX_SCALE"), (89, u "T_BOOLEAN"), (2, u "T_CHAR"), (1, u "T_FLOAT"), (1, u "T_DOUBLE"), (1, u "T_BYTE"), (1, u "T_SHORT"), (1, u "T_INT"), (1, u "T_LONG"), (1, u "SOFT_MAX_ARRAY_LENGTH")] 83

def k36m0 : Method := { name := "<init>", desc := "()V", sig := { parameters := [], returnType := none }, accessFlags := 2, code := none }
/-- jdk/internal/util/ArraysSupport -/
def k36 : Class := { plain "jdk/internal/util/ArraysSupport" (some 0) with
  accessFlags := 33
  interfaces := #[]
  cf := some (fileOf pool36 21 #[] #[{ accessFlags := 2, nameIndex := 9, descriptorIndex := 19, attributes := #[] }] 33 16 #[] #[{ accessFlags := 24, nameIndex := 28, descriptorIndex := 29, attributes := #[] }, { accessFlags := 26, nameIndex := 38, descriptorIndex := 39, attributes := #[] }, { accessFlags := 25, nameIndex := 121, descriptorIndex := 25, attributes := #[] }, { accessFlags := 25, nameIndex := 131, descriptorIndex := 25, attributes := #[] }, { accessFlags := 25, nameIndex := 137, descriptorIndex := 25, attributes := #[] }, { accessFlags := 25, nameIndex := 143, descriptorIndex := 25, attributes := #[] }, { accessFlags := 25, nameIndex := 53, descriptorIndex := 25, attributes := #[] }, { accessFlags := 25, nameIndex := 24, descriptorIndex := 25, attributes := #[] }, { accessFlags := 25, nameIndex := 162, descriptorIndex := 25, attributes := #[] }, { accessFlags := 25, nameIndex := 187, descriptorIndex := 25, attributes := #[] }, { accessFlags := 26, nameIndex := 48, descriptorIndex := 25, attributes := #[] }, { accessFlags := 25, nameIndex := 277, descriptorIndex := 25, attributes := #[] }, { accessFlags := 25, nameIndex := 280, descriptorIndex := 25, attributes := #[] }, { accessFlags := 25, nameIndex := 282, descriptorIndex := 25, attributes := #[] }, { accessFlags := 25, nameIndex := 284, descriptorIndex := 25, attributes := #[] }, { accessFlags := 25, nameIndex := 286, descriptorIndex := 25, attributes := #[] }, { accessFlags := 25, nameIndex := 288, descriptorIndex := 25, attributes := #[] }, { accessFlags := 25, nameIndex := 290, descriptorIndex := 25, attributes := #[] }, { accessFlags := 25, nameIndex := 292, descriptorIndex := 25, attributes := #[] }, { accessFlags := 26, nameIndex := 108, descriptorIndex := 109, attributes := #[] }, { accessFlags := 25, nameIndex := 294, descriptorIndex := 25, attributes := #[] }])
  fields := #[{ name := "U", type := (.object "jdk/internal/misc/Unsafe"), accessFlags := 24, slot := 0, constantValue := 0 }, { name := "BIG_ENDIAN", type := .boolean, accessFlags := 26, slot := 1, constantValue := 0 }, { name := "LOG2_ARRAY_BOOLEAN_INDEX_SCALE", type := .int, accessFlags := 25, slot := 2, constantValue := 0 }, { name := "LOG2_ARRAY_BYTE_INDEX_SCALE", type := .int, accessFlags := 25, slot := 3, constantValue := 0 }, { name := "LOG2_ARRAY_CHAR_INDEX_SCALE", type := .int, accessFlags := 25, slot := 4, constantValue := 0 }, { name := "LOG2_ARRAY_SHORT_INDEX_SCALE", type := .int, accessFlags := 25, slot := 5, constantValue := 0 }, { name := "LOG2_ARRAY_INT_INDEX_SCALE", type := .int, accessFlags := 25, slot := 6, constantValue := 0 }, { name := "LOG2_ARRAY_LONG_INDEX_SCALE", type := .int, accessFlags := 25, slot := 7, constantValue := 0 }, { name := "LOG2_ARRAY_FLOAT_INDEX_SCALE", type := .int, accessFlags := 25, slot := 8, constantValue := 0 }, { name := "LOG2_ARRAY_DOUBLE_INDEX_SCALE", type := .int, accessFlags := 25, slot := 9, constantValue := 0 }, { name := "LOG2_BYTE_BIT_SIZE", type := .int, accessFlags := 26, slot := 10, constantValue := 0 }, { name := "T_BOOLEAN", type := .int, accessFlags := 25, slot := 11, constantValue := 0 }, { name := "T_CHAR", type := .int, accessFlags := 25, slot := 12, constantValue := 0 }, { name := "T_FLOAT", type := .int, accessFlags := 25, slot := 13, constantValue := 0 }, { name := "T_DOUBLE", type := .int, accessFlags := 25, slot := 14, constantValue := 0 }, { name := "T_BYTE", type := .int, accessFlags := 25, slot := 15, constantValue := 0 }, { name := "T_SHORT", type := .int, accessFlags := 25, slot := 16, constantValue := 0 }, { name := "T_INT", type := .int, accessFlags := 25, slot := 17, constantValue := 0 }, { name := "T_LONG", type := .int, accessFlags := 25, slot := 18, constantValue := 0 }, { name := "JLA", type := (.object "jdk/internal/access/JavaLangAccess"), accessFlags := 26, slot := 19, constantValue := 0 }, { name := "SOFT_MAX_ARRAY_LENGTH", type := .int, accessFlags := 25, slot := 20, constantValue := 0 }]
  methods := #[k36m0]
  instanceTypes := #[]
  staticTypes := #[(.object "jdk/internal/misc/Unsafe"), .boolean, .int, .int, .int, .int, .int, .int, .int, .int, .int, .int, .int, .int, .int, .int, .int, .int, .int, (.object "jdk/internal/access/JavaLangAccess"), .int]
  resolved := Array.replicate 378 none
  statics := none }

/-- the primitive byte -/
def k37 : Class := { plain "byte" none with kind := .primitive 'B', accessFlags := 0x411 }
/-- [B -/
def k38 : Class := { plain "[B" (some 0) with kind := .array 37 .byte, interfaces := #[14, 4], accessFlags := 1041 }

/-- the primitive int -/
def k39 : Class := { plain "int" none with kind := .primitive 'I', accessFlags := 0x411 }
/-- [I -/
def k40 : Class := { plain "[I" (some 0) with kind := .array 39 .int, interfaces := #[14, 4], accessFlags := 1041 }

/-- [Ljava/lang/Object; -/
def k41 : Class := { plain "[Ljava/lang/Object;" (some 0) with kind := .array 0 (.object "java/lang/Object"), interfaces := #[14, 4], accessFlags := 1041 }

/-- [Ljava/util/HashMap$Node; -/
def k42 : Class := { plain "[Ljava/util/HashMap$Node;" (some 0) with kind := .array 35 (.object "java/util/HashMap$Node"), interfaces := #[14, 4], accessFlags := 1041 }

def heap : Heap := #[{ cls := 6, slots := #[.ref 7, .ref 8, .ref 9, .ref 10, .ref 11, .ref 12, .ref 13, .null, .null], vm := .statics 6 },
  { cls := 15, slots := #[.long 0, .int 0, .ref 14, .ref 15], vm := .statics 15 },
  { cls := 23, slots := #[.long 0, .int 1, .null, .int 0, .null, .int 0, .int 0], vm := .statics 23 },
  { cls := 24, slots := #[.null, .ref 16, .null, .null, .null, .null], vm := .statics 24 },
  { cls := 28, slots := #[.ref 16], vm := .statics 28 },
  { cls := 30, slots := #[.ref 17, .null], vm := .statics 30 },
  { cls := 32, slots := #[.null, .null, .null], vm := .statics 32 },
  { cls := 6, slots := #[.null, .int 0, .int 0], vm := .none },
  { cls := 6, slots := #[.null, .int 1, .int 0], vm := .none },
  { cls := 6, slots := #[.null, .int 2, .int 0], vm := .none },
  { cls := 6, slots := #[.null, .int 3, .int 0], vm := .none },
  { cls := 6, slots := #[.null, .int 4, .int 0], vm := .none },
  { cls := 6, slots := #[.null, .int 5, .int 0], vm := .none },
  { cls := 6, slots := #[.null, .int 6, .int 0], vm := .none },
  { cls := 41, slots := #[], vm := .none },
  { cls := 41, slots := #[], vm := .none },
  { cls := 28, slots := #[.null, .null, .null], vm := .none },
  { cls := 30, slots := #[.null, .null, .null], vm := .none }]
def classes : Array Class := #[k0, k1, k2, k3, k4, k5, k6, k7, k8, k9, k10, k11, k12, k13, k14, k15, k16, k17, k18, k19, k20, k21, k22, k23, k24, k25, k26, k27, k28, k29, k30, k31, k32, k33, k34, k35, k36, k37, k38, k39, k40, k41, k42]
def interned : List (Array UInt16 × Addr) := []
def slotsUsed : Nat := 59
def theMethod : MethodId := ⟨1, 4⟩
def args0 : Array Value := #[.int 0, .int 0, .int 0, .int 0, .int 0]
def aboutOver (below : List Frame) : State where
  vm := { classes := classes, interned := interned.toArray }
  heap := heap
  slotsUsed := slotsUsed
  threads := #[{ frames := .invoking theMethod args0 :: below }]
def below0 : List Frame := [.native { method := ⟨0, 0⟩, args := #[] }]
def about1 : State := aboutOver below0
def p0 : Program := .bare "" "" ""
def e0 : Env := launch0.env 0 0 0
theorem w_frames : about1.frames = Frame.invoking theMethod args0 :: below0 := rfl
set_option maxRecDepth 65536 in
theorem w_args : argsFit about1.vm theMethod args0 = true := by decide +kernel
set_option maxRecDepth 65536 in
theorem w_heap : heapFits about1 = true := by decide +kernel
set_option maxRecDepth 65536 in
theorem w_runnable : about1.curStatus? = some .runnable := by decide +kernel
set_option maxRecDepth 65536 in
theorem w_alone : about1.alone = true := by decide +kernel
set_option maxRecDepth 65536 in
theorem w_named : about1.methodNamed? x = some theMethod := by decide +kernel
set_option maxRecDepth 65536 in
theorem w_hears : about1.hears theMethod below0 = true := by decide +kernel
set_option maxRecDepth 65536 in
theorem w_ripe : about1.ripe theMethod args0 below0 = true := by decide +kernel
theorem w_running : about1.status = .running := rfl
set_option maxRecDepth 65536 in
theorem w_room : about1.hasRoom e0.platform room_1 = true :=
  launch0.hasRoom_least _ room_1 (by decide +kernel) (by decide +kernel) (by decide +kernel) (by decide +kernel) (by decide +kernel) (by decide +kernel)
theorem allAtoms_all (ts : List Jvm.Cond) (a : Array Jvm.Value) (st : Jvm.State) : (allAtoms ts).before a st = ts.all (fun c => c.before a st) := by
  induction ts with
  | nil => rfl
  | cons c t ih =>
    show (Jvm.Cond.and c (allAtoms t)).before a st = _
    rw [Jvm.Cond.before_and, ih, List.all_cons]
def words1 : List Jvm.Cond := Jvm.Cond.code x code maxLocals ret :: tables_1
/-- a 'code' word, met by the world's own term for the bytes: nothing is compared byte by byte -/
theorem code_word {y : MethodName} {bytes : ByteArray} {mx : Nat} {rt : Option FieldType} {a : Array Value} {s : State} {m : MethodId} {meth : Method} {c : Code} (h1 : s.methodNamed? y = some m) (h2 : s.vm.method? m = some meth) (h3 : meth.code = some c) (h4 : c.code = bytes)
    (h5 : (c.maxLocals == mx && c.exceptionTable.isEmpty && decide (c.maxStack ≤ mostOperands) && decide (meth.sig.returnType = rt) && !meth.locks && decide (parseMethodDescriptor y.desc = some meth.sig)) = true) : (Jvm.Cond.code y bytes mx rt).before a s = true := by
  simp only [Bool.and_eq_true, beq_iff_eq, Bool.not_eq_true', decide_eq_true_eq] at h5
  obtain ⟨⟨⟨⟨⟨g1, g2⟩, g3⟩, g4⟩, g5⟩, g6⟩ := h5
  simp [Cond.before, Cond.holds, Cond.value, h1, h2, h3, h4, g1, g2, g3, g4, g5, g6]
theorem codeWith_word {y : MethodName} {bytes : ByteArray} {mx : Nat} {rt : Option FieldType} {hs : List (Nat × Nat × Nat × Nat)} {a : Array Value} {s : State} {m : MethodId} {meth : Method} {c : Code} (h1 : s.methodNamed? y = some m) (h2 : s.vm.method? m = some meth) (h3 : meth.code = some c) (h4 : c.code = bytes)
    (h6 : c.exceptionTable.toList.map (fun h => (h.startPc, h.endPc, h.handlerPc, h.catchType)) = hs) (h5 : (c.maxLocals == mx && decide (c.maxStack ≤ mostOperands) && decide (meth.sig.returnType = rt) && !meth.locks && decide (parseMethodDescriptor y.desc = some meth.sig)) = true) : (Jvm.Cond.codeWith y bytes mx rt hs).before a s = true := by
  simp only [Bool.and_eq_true, beq_iff_eq, Bool.not_eq_true', decide_eq_true_eq] at h5
  obtain ⟨⟨⟨⟨g1, g3⟩, g4⟩, g5⟩, g6⟩ := h5
  have e : (Jvm.Cond.codeWith y bytes mx rt hs).value a s none s [] = ((s.methodNamed? y).bind s.vm.method?).map fun meth => meth.code.any (fun c => decide (c.code = bytes) && c.maxLocals == mx && decide (c.exceptionTable.toList.map (fun h => (h.startPc, h.endPc, h.handlerPc, h.catchType)) = hs) && decide (c.maxStack ≤ mostOperands)) && decide (meth.sig.returnType = rt) && !meth.locks && decide (parseMethodDescriptor y.desc = some meth.sig) := by simp only [Cond.value]
  have h2' : (s.methodNamed? y).bind s.vm.method? = some meth := by rw [h1]; exact h2
  refine Cond.before_iff.mpr (e.trans ?_)
  rw [h2', Option.map_some, h3, Option.any_some, decide_eq_true h4, decide_eq_true h6, decide_eq_true g3, decide_eq_true g4, decide_eq_true g6, g1, g5]
  simp
def isCode : Jvm.Cond → Bool
  | .code _ _ _ _ => true
  | .codeWith _ _ _ _ _ => true
  | _ => false
theorem all_split {L : List Jvm.Cond} {P : Jvm.Cond → Bool} (h1 : L.all (fun c => isCode c || P c) = true) (h2 : ∀ c ∈ L.filter isCode, P c = true) : L.all P = true := by
  refine List.all_eq_true.mpr fun c hc => ?_
  have h := List.all_eq_true.mp h1 c hc
  rcases Bool.eq_false_or_eq_true (isCode c) with hi | hi
  · exact h2 c (List.mem_filter.mpr ⟨hc, hi⟩)
  · simpa [hi] using h
set_option maxRecDepth 65536 in
theorem w_c0 : (Jvm.Cond.code x code maxLocals ret).before args0 about1 = true := code_word (m := ⟨1, 4⟩) (meth := k1m4) (c := k1c4) (by decide +kernel) rfl rfl rfl (by decide +kernel)
set_option maxRecDepth 65536 in
theorem w_c1 : (Jvm.Cond.code ({ cls := "com/example/onesnap/onesnap/node/TransactionTrackerCommitsAtSyncPinLaw", name := "status", desc := "(I)C" } : Jvm.MethodName) method_3_code (2 : Nat) (Option.some Jvm.ClassFile.FieldType.char)).before args0 about1 = true := code_word (m := ⟨1, 2⟩) (meth := k1m2) (c := k1c2) (by decide +kernel) rfl rfl rfl (by decide +kernel)
set_option maxRecDepth 65536 in
theorem w_c2 : (Jvm.Cond.code ({ cls := "com/example/onesnap/onesnap/node/TransactionTrackerCommitsAtSyncPinLaw", name := "kind", desc := "(I)Lcom/example/onesnap/onesnap/node/StatementKind;" } : Jvm.MethodName) method_2_code (2 : Nat) (Option.some (Jvm.ClassFile.FieldType.object "com/example/onesnap/onesnap/node/StatementKind"))).before args0 about1 = true := code_word (m := ⟨1, 1⟩) (meth := k1m1) (c := k1c1) (by decide +kernel) rfl rfl rfl (by decide +kernel)
set_option maxRecDepth 65536 in
theorem w_c3 : (Jvm.Cond.code ({ cls := "java/util/ArrayList", name := "<init>", desc := "()V" } : Jvm.MethodName) jdk_38_method_2_code (1 : Nat) (Option.none : Option Jvm.ClassFile.FieldType)).before args0 about1 = true := code_word (m := ⟨15, 0⟩) (meth := k15m0) (c := k15c0) (by decide +kernel) rfl rfl rfl (by decide +kernel)
set_option maxRecDepth 65536 in
theorem w_c4 : (Jvm.Cond.code ({ cls := "java/util/AbstractList", name := "<init>", desc := "()V" } : Jvm.MethodName) jdk_39_method_1_code (1 : Nat) (Option.none : Option Jvm.ClassFile.FieldType)).before args0 about1 = true := code_word (m := ⟨12, 0⟩) (meth := k12m0) (c := k12c0) (by decide +kernel) rfl rfl rfl (by decide +kernel)
set_option maxRecDepth 65536 in
theorem w_c5 : (Jvm.Cond.code ({ cls := "java/util/AbstractCollection", name := "<init>", desc := "()V" } : Jvm.MethodName) jdk_22_method_1_code (1 : Nat) (Option.none : Option Jvm.ClassFile.FieldType)).before args0 about1 = true := code_word (m := ⟨9, 0⟩) (meth := k9m0) (c := k9c0) (by decide +kernel) rfl rfl rfl (by decide +kernel)
set_option maxRecDepth 65536 in
theorem w_c6 : (Jvm.Cond.code ({ cls := "java/lang/Object", name := "<init>", desc := "()V" } : Jvm.MethodName) object_method_1_code (1 : Nat) (Option.none : Option Jvm.ClassFile.FieldType)).before args0 about1 = true := code_word (m := ⟨0, 0⟩) (meth := k0m0) (c := k0c0) (by decide +kernel) rfl rfl rfl (by decide +kernel)
set_option maxRecDepth 65536 in
theorem w_c7 : (Jvm.Cond.code ({ cls := "java/util/ArrayList", name := "add", desc := "(Ljava/lang/Object;)Z" } : Jvm.MethodName) jdk_38_method_25_code (2 : Nat) (Option.some Jvm.ClassFile.FieldType.boolean)).before args0 about1 = true := code_word (m := ⟨15, 7⟩) (meth := k15m7) (c := k15c7) (by decide +kernel) rfl rfl rfl (by decide +kernel)
set_option maxRecDepth 65536 in
theorem w_c8 : (Jvm.Cond.code ({ cls := "java/util/ArrayList", name := "add", desc := "(Ljava/lang/Object;[Ljava/lang/Object;I)V" } : Jvm.MethodName) jdk_38_method_24_code (4 : Nat) (Option.none : Option Jvm.ClassFile.FieldType)).before args0 about1 = true := code_word (m := ⟨15, 6⟩) (meth := k15m6) (c := k15c6) (by decide +kernel) rfl rfl rfl (by decide +kernel)
set_option maxRecDepth 65536 in
theorem w_c9 : (Jvm.Cond.code ({ cls := "java/util/ArrayList", name := "grow", desc := "()[Ljava/lang/Object;" } : Jvm.MethodName) jdk_38_method_7_code (1 : Nat) (Option.some (Jvm.ClassFile.FieldType.array (Jvm.ClassFile.FieldType.object "java/lang/Object")))).before args0 about1 = true := code_word (m := ⟨15, 2⟩) (meth := k15m2) (c := k15c2) (by decide +kernel) rfl rfl rfl (by decide +kernel)
set_option maxRecDepth 65536 in
theorem w_c10 : (Jvm.Cond.code ({ cls := "java/util/ArrayList", name := "grow", desc := "(I)[Ljava/lang/Object;" } : Jvm.MethodName) jdk_38_method_6_code (4 : Nat) (Option.some (Jvm.ClassFile.FieldType.array (Jvm.ClassFile.FieldType.object "java/lang/Object")))).before args0 about1 = true := code_word (m := ⟨15, 1⟩) (meth := k15m1) (c := k15c1) (by decide +kernel) rfl rfl rfl (by decide +kernel)
set_option maxRecDepth 65536 in
theorem w_c11 : (Jvm.Cond.code ({ cls := "java/lang/Math", name := "max", desc := "(II)I" } : Jvm.MethodName) jdk_29_method_65_code (2 : Nat) (Option.some Jvm.ClassFile.FieldType.int)).before args0 about1 = true := code_word (m := ⟨16, 1⟩) (meth := k16m1) (c := k16c1) (by decide +kernel) rfl rfl rfl (by decide +kernel)
set_option maxRecDepth 65536 in
theorem w_c12 : (Jvm.Cond.code ({ cls := "com/example/onesnap/onesnap/node/TransactionTracker", name := "<init>", desc := "()V" } : Jvm.MethodName) prog_49_method_1_code (1 : Nat) (Option.none : Option Jvm.ClassFile.FieldType)).before args0 about1 = true := code_word (m := ⟨17, 0⟩) (meth := k17m0) (c := k17c0) (by decide +kernel) rfl rfl rfl (by decide +kernel)
set_option maxRecDepth 65536 in
theorem w_c13 : (Jvm.Cond.code ({ cls := "java/util/HashMap", name := "<init>", desc := "()V" } : Jvm.MethodName) jdk_69_method_7_code (1 : Nat) (Option.none : Option Jvm.ClassFile.FieldType)).before args0 about1 = true := code_word (m := ⟨20, 1⟩) (meth := k20m1) (c := k20c1) (by decide +kernel) rfl rfl rfl (by decide +kernel)
set_option maxRecDepth 65536 in
theorem w_c14 : (Jvm.Cond.code ({ cls := "java/util/AbstractMap", name := "<init>", desc := "()V" } : Jvm.MethodName) jdk_71_method_1_code (1 : Nat) (Option.none : Option Jvm.ClassFile.FieldType)).before args0 about1 = true := code_word (m := ⟨19, 0⟩) (meth := k19m0) (c := k19c0) (by decide +kernel) rfl rfl rfl (by decide +kernel)
set_option maxRecDepth 65536 in
theorem w_c15 : (Jvm.Cond.code ({ cls := "com/example/onesnap/onesnap/node/TransactionTracker", name := "ready", desc := "(C)V" } : Jvm.MethodName) prog_49_method_2_code (2 : Nat) (Option.none : Option Jvm.ClassFile.FieldType)).before args0 about1 = true := code_word (m := ⟨17, 1⟩) (meth := k17m1) (c := k17c1) (by decide +kernel) rfl rfl rfl (by decide +kernel)
set_option maxRecDepth 65536 in
theorem w_c16 : (Jvm.Cond.code ({ cls := "com/example/onesnap/onesnap/node/TransactionTracker", name := "parsed", desc := "([BLjava/util/List;)V" } : Jvm.MethodName) prog_49_method_5_code (3 : Nat) (Option.none : Option Jvm.ClassFile.FieldType)).before args0 about1 = true := code_word (m := ⟨17, 2⟩) (meth := k17m2) (c := k17c2) (by decide +kernel) rfl rfl rfl (by decide +kernel)
set_option maxRecDepth 65536 in
theorem w_c17 : (Jvm.Cond.code ({ cls := "com/example/onesnap/onesnap/node/TransactionTracker", name := "name", desc := "([B)Ljava/lang/String;" } : Jvm.MethodName) prog_49_method_15_code (1 : Nat) (Option.some (Jvm.ClassFile.FieldType.object "java/lang/String"))).before args0 about1 = true := code_word (m := ⟨17, 9⟩) (meth := k17m9) (c := k17c9) (by decide +kernel) rfl rfl rfl (by decide +kernel)
set_option maxRecDepth 65536 in
theorem w_c18 : (Jvm.Cond.code ({ cls := "java/lang/String", name := "<init>", desc := "([BLjava/nio/charset/Charset;)V" } : Jvm.MethodName) jdk_42_method_49_code (3 : Nat) (Option.none : Option Jvm.ClassFile.FieldType)).before args0 about1 = true := code_word (m := ⟨23, 2⟩) (meth := k23m2) (c := k23c2) (by decide +kernel) rfl rfl rfl (by decide +kernel)
set_option maxRecDepth 65536 in
theorem w_c19 : (Jvm.Cond.code ({ cls := "java/util/Objects", name := "requireNonNull", desc := "(Ljava/lang/Object;)Ljava/lang/Object;" } : Jvm.MethodName) jdk_31_method_10_code (1 : Nat) (Option.some (Jvm.ClassFile.FieldType.object "java/lang/Object"))).before args0 about1 = true := code_word (m := ⟨25, 1⟩) (meth := k25m1) (c := k25c1) (by decide +kernel) rfl rfl rfl (by decide +kernel)
set_option maxRecDepth 65536 in
theorem w_c20 : (Jvm.Cond.code ({ cls := "java/util/Arrays", name := "copyOfRange", desc := "([BII)[B" } : Jvm.MethodName) jdk_65_method_132_code (3 : Nat) (Option.some (Jvm.ClassFile.FieldType.array Jvm.ClassFile.FieldType.byte))).before args0 about1 = true := code_word (m := ⟨31, 1⟩) (meth := k31m1) (c := k31c1) (by decide +kernel) rfl rfl rfl (by decide +kernel)
set_option maxRecDepth 65536 in
theorem w_c21 : (Jvm.Cond.code ({ cls := "com/example/onesnap/onesnap/node/TransactionTracker", name := "parsedKind", desc := "(Ljava/util/List;)Lcom/example/onesnap/onesnap/node/StatementKind;" } : Jvm.MethodName) prog_49_method_6_code (1 : Nat) (Option.some (Jvm.ClassFile.FieldType.object "com/example/onesnap/onesnap/node/StatementKind"))).before args0 about1 = true := code_word (m := ⟨17, 3⟩) (meth := k17m3) (c := k17c3) (by decide +kernel) rfl rfl rfl (by decide +kernel)
set_option maxRecDepth 65536 in
theorem w_c22 : (Jvm.Cond.code ({ cls := "java/util/ArrayList", name := "size", desc := "()I" } : Jvm.MethodName) jdk_38_method_8_code (1 : Nat) (Option.some Jvm.ClassFile.FieldType.int)).before args0 about1 = true := code_word (m := ⟨15, 3⟩) (meth := k15m3) (c := k15c3) (by decide +kernel) rfl rfl rfl (by decide +kernel)
set_option maxRecDepth 65536 in
theorem w_c23 : (Jvm.Cond.code ({ cls := "java/util/ArrayList", name := "get", desc := "(I)Ljava/lang/Object;" } : Jvm.MethodName) jdk_38_method_20_code (2 : Nat) (Option.some (Jvm.ClassFile.FieldType.object "java/lang/Object"))).before args0 about1 = true := code_word (m := ⟨15, 5⟩) (meth := k15m5) (c := k15c5) (by decide +kernel) rfl rfl rfl (by decide +kernel)
set_option maxRecDepth 65536 in
theorem w_c24 : (Jvm.Cond.code ({ cls := "java/util/Objects", name := "checkIndex", desc := "(II)I" } : Jvm.MethodName) jdk_31_method_17_code (2 : Nat) (Option.some Jvm.ClassFile.FieldType.int)).before args0 about1 = true := code_word (m := ⟨25, 2⟩) (meth := k25m2) (c := k25c2) (by decide +kernel) rfl rfl rfl (by decide +kernel)
set_option maxRecDepth 65536 in
theorem w_c25 : (Jvm.Cond.code ({ cls := "jdk/internal/util/Preconditions", name := "checkIndex", desc := "(IILjava/util/function/BiFunction;)I" } : Jvm.MethodName) jdk_41_method_11_code (3 : Nat) (Option.some Jvm.ClassFile.FieldType.int)).before args0 about1 = true := code_word (m := ⟨32, 1⟩) (meth := k32m1) (c := k32c1) (by decide +kernel) rfl rfl rfl (by decide +kernel)
set_option maxRecDepth 65536 in
theorem w_c26 : (Jvm.Cond.code ({ cls := "java/util/ArrayList", name := "elementData", desc := "(I)Ljava/lang/Object;" } : Jvm.MethodName) jdk_38_method_18_code (2 : Nat) (Option.some (Jvm.ClassFile.FieldType.object "java/lang/Object"))).before args0 about1 = true := code_word (m := ⟨15, 4⟩) (meth := k15m4) (c := k15c4) (by decide +kernel) rfl rfl rfl (by decide +kernel)
set_option maxRecDepth 65536 in
theorem w_c27 : (Jvm.Cond.code ({ cls := "java/util/HashMap", name := "put", desc := "(Ljava/lang/Object;Ljava/lang/Object;)Ljava/lang/Object;" } : Jvm.MethodName) jdk_69_method_15_code (3 : Nat) (Option.some (Jvm.ClassFile.FieldType.object "java/lang/Object"))).before args0 about1 = true := code_word (m := ⟨20, 3⟩) (meth := k20m3) (c := k20c3) (by decide +kernel) rfl rfl rfl (by decide +kernel)
set_option maxRecDepth 65536 in
theorem w_c28 : (Jvm.Cond.code ({ cls := "java/util/HashMap", name := "hash", desc := "(Ljava/lang/Object;)I" } : Jvm.MethodName) jdk_69_method_1_code (2 : Nat) (Option.some Jvm.ClassFile.FieldType.int)).before args0 about1 = true := code_word (m := ⟨20, 0⟩) (meth := k20m0) (c := k20c0) (by decide +kernel) rfl rfl rfl (by decide +kernel)
set_option maxRecDepth 65536 in
theorem w_c29 : (Jvm.Cond.code ({ cls := "java/lang/String", name := "hashCode", desc := "()I" } : Jvm.MethodName) jdk_42_method_78_code (2 : Nat) (Option.some Jvm.ClassFile.FieldType.int)).before args0 about1 = true := code_word (m := ⟨23, 4⟩) (meth := k23m4) (c := k23c4) (by decide +kernel) rfl rfl rfl (by decide +kernel)
set_option maxRecDepth 65536 in
theorem w_c30 : (Jvm.Cond.code ({ cls := "java/lang/String", name := "isLatin1", desc := "()Z" } : Jvm.MethodName) jdk_42_method_154_code (1 : Nat) (Option.some Jvm.ClassFile.FieldType.boolean)).before args0 about1 = true := code_word (m := ⟨23, 5⟩) (meth := k23m5) (c := k23c5) (by decide +kernel) rfl rfl rfl (by decide +kernel)
set_option maxRecDepth 65536 in
theorem w_c31 : (Jvm.Cond.code ({ cls := "java/lang/StringLatin1", name := "hashCode", desc := "([B)I" } : Jvm.MethodName) jdk_43_method_21_code (1 : Nat) (Option.some Jvm.ClassFile.FieldType.int)).before args0 about1 = true := code_word (m := ⟨33, 2⟩) (meth := k33m2) (c := k33c2) (by decide +kernel) rfl rfl rfl (by decide +kernel)
set_option maxRecDepth 65536 in
theorem w_c32 : (Jvm.Cond.code ({ cls := "java/util/HashMap", name := "putVal", desc := "(ILjava/lang/Object;Ljava/lang/Object;ZZ)Ljava/lang/Object;" } : Jvm.MethodName) jdk_69_method_16_code (13 : Nat) (Option.some (Jvm.ClassFile.FieldType.object "java/lang/Object"))).before args0 about1 = true := code_word (m := ⟨20, 4⟩) (meth := k20m4) (c := k20c4) (by decide +kernel) rfl rfl rfl (by decide +kernel)
set_option maxRecDepth 65536 in
theorem w_c33 : (Jvm.Cond.code ({ cls := "java/util/HashMap", name := "resize", desc := "()[Ljava/util/HashMap$Node;" } : Jvm.MethodName) jdk_69_method_17_code (14 : Nat) (Option.some (Jvm.ClassFile.FieldType.array (Jvm.ClassFile.FieldType.object "java/util/HashMap$Node")))).before args0 about1 = true := code_word (m := ⟨20, 5⟩) (meth := k20m5) (c := k20c5) (by decide +kernel) rfl rfl rfl (by decide +kernel)
set_option maxRecDepth 65536 in
theorem w_c34 : (Jvm.Cond.code ({ cls := "java/util/HashMap", name := "newNode", desc := "(ILjava/lang/Object;Ljava/lang/Object;Ljava/util/HashMap$Node;)Ljava/util/HashMap$Node;" } : Jvm.MethodName) jdk_69_method_46_code (5 : Nat) (Option.some (Jvm.ClassFile.FieldType.object "java/util/HashMap$Node"))).before args0 about1 = true := code_word (m := ⟨20, 7⟩) (meth := k20m7) (c := k20c7) (by decide +kernel) rfl rfl rfl (by decide +kernel)
set_option maxRecDepth 65536 in
theorem w_c35 : (Jvm.Cond.code ({ cls := "java/util/HashMap$Node", name := "<init>", desc := "(ILjava/lang/Object;Ljava/lang/Object;Ljava/util/HashMap$Node;)V" } : Jvm.MethodName) jdk_70_method_1_code (5 : Nat) (Option.none : Option Jvm.ClassFile.FieldType)).before args0 about1 = true := code_word (m := ⟨35, 0⟩) (meth := k35m0) (c := k35c0) (by decide +kernel) rfl rfl rfl (by decide +kernel)
set_option maxRecDepth 65536 in
theorem w_c36 : (Jvm.Cond.code ({ cls := "java/util/HashMap", name := "afterNodeInsertion", desc := "(Z)V" } : Jvm.MethodName) jdk_69_method_52_code (2 : Nat) (Option.none : Option Jvm.ClassFile.FieldType)).before args0 about1 = true := code_word (m := ⟨20, 8⟩) (meth := k20m8) (c := k20c8) (by decide +kernel) rfl rfl rfl (by decide +kernel)
set_option maxRecDepth 65536 in
theorem w_c37 : (Jvm.Cond.code ({ cls := "com/example/onesnap/onesnap/node/TransactionTracker", name := "bound", desc := "([B[B)V" } : Jvm.MethodName) prog_49_method_9_code (3 : Nat) (Option.none : Option Jvm.ClassFile.FieldType)).before args0 about1 = true := code_word (m := ⟨17, 6⟩) (meth := k17m6) (c := k17c6) (by decide +kernel) rfl rfl rfl (by decide +kernel)
set_option maxRecDepth 65536 in
theorem w_c38 : (Jvm.Cond.code ({ cls := "com/example/onesnap/onesnap/node/TransactionTracker", name := "statementKind", desc := "([B)Lcom/example/onesnap/onesnap/node/StatementKind;" } : Jvm.MethodName) prog_49_method_7_code (2 : Nat) (Option.some (Jvm.ClassFile.FieldType.object "com/example/onesnap/onesnap/node/StatementKind"))).before args0 about1 = true := code_word (m := ⟨17, 4⟩) (meth := k17m4) (c := k17c4) (by decide +kernel) rfl rfl rfl (by decide +kernel)
set_option maxRecDepth 65536 in
theorem w_c39 : (Jvm.Cond.code ({ cls := "java/util/HashMap", name := "getOrDefault", desc := "(Ljava/lang/Object;Ljava/lang/Object;)Ljava/lang/Object;" } : Jvm.MethodName) jdk_69_method_30_code (4 : Nat) (Option.some (Jvm.ClassFile.FieldType.object "java/lang/Object"))).before args0 about1 = true := code_word (m := ⟨20, 6⟩) (meth := k20m6) (c := k20c6) (by decide +kernel) rfl rfl rfl (by decide +kernel)
set_option maxRecDepth 65536 in
theorem w_c40 : (Jvm.Cond.code ({ cls := "java/util/HashMap", name := "getNode", desc := "(Ljava/lang/Object;)Ljava/util/HashMap$Node;" } : Jvm.MethodName) jdk_69_method_13_code (8 : Nat) (Option.some (Jvm.ClassFile.FieldType.object "java/util/HashMap$Node"))).before args0 about1 = true := code_word (m := ⟨20, 2⟩) (meth := k20m2) (c := k20c2) (by decide +kernel) rfl rfl rfl (by decide +kernel)
set_option maxRecDepth 65536 in
theorem w_c41 : (Jvm.Cond.code ({ cls := "java/lang/String", name := "equals", desc := "(Ljava/lang/Object;)Z" } : Jvm.MethodName) jdk_42_method_66_code (3 : Nat) (Option.some Jvm.ClassFile.FieldType.boolean)).before args0 about1 = true := code_word (m := ⟨23, 3⟩) (meth := k23m3) (c := k23c3) (by decide +kernel) rfl rfl rfl (by decide +kernel)
set_option maxRecDepth 65536 in
theorem w_c42 : (Jvm.Cond.code ({ cls := "java/lang/StringLatin1", name := "equals", desc := "([B[B)Z" } : Jvm.MethodName) jdk_43_method_13_code (3 : Nat) (Option.some Jvm.ClassFile.FieldType.boolean)).before args0 about1 = true := code_word (m := ⟨33, 1⟩) (meth := k33m1) (c := k33c1) (by decide +kernel) rfl rfl rfl (by decide +kernel)
set_option maxRecDepth 65536 in
theorem w_c43 : (Jvm.Cond.code ({ cls := "com/example/onesnap/onesnap/node/TransactionTracker", name := "executed", desc := "([B)V" } : Jvm.MethodName) prog_49_method_11_code (3 : Nat) (Option.none : Option Jvm.ClassFile.FieldType)).before args0 about1 = true := code_word (m := ⟨17, 7⟩) (meth := k17m7) (c := k17c7) (by decide +kernel) rfl rfl rfl (by decide +kernel)
set_option maxRecDepth 65536 in
theorem w_c44 : (Jvm.Cond.code ({ cls := "com/example/onesnap/onesnap/node/TransactionTracker", name := "portalKind", desc := "([B)Lcom/example/onesnap/onesnap/node/StatementKind;" } : Jvm.MethodName) prog_49_method_8_code (2 : Nat) (Option.some (Jvm.ClassFile.FieldType.object "com/example/onesnap/onesnap/node/StatementKind"))).before args0 about1 = true := code_word (m := ⟨17, 5⟩) (meth := k17m5) (c := k17c5) (by decide +kernel) rfl rfl rfl (by decide +kernel)
set_option maxRecDepth 65536 in
theorem w_c45 : (Jvm.Cond.code ({ cls := "com/example/onesnap/onesnap/node/TransactionTracker", name := "commitsAtSync", desc := "()Z" } : Jvm.MethodName) prog_49_method_12_code (1 : Nat) (Option.some Jvm.ClassFile.FieldType.boolean)).before args0 about1 = true := code_word (m := ⟨17, 8⟩) (meth := k17m8) (c := k17c8) (by decide +kernel) rfl rfl rfl (by decide +kernel)
set_option maxRecDepth 65536 in
theorem w_c46 : (Jvm.Cond.code ({ cls := "com/example/onesnap/onesnap/node/TransactionTrackerCommitsAtSyncPinLaw", name := "after", desc := "(CLcom/example/onesnap/onesnap/node/StatementKind;)C" } : Jvm.MethodName) method_4_code (2 : Nat) (Option.some Jvm.ClassFile.FieldType.char)).before args0 about1 = true := code_word (m := ⟨1, 3⟩) (meth := k1m3) (c := k1c3) (by decide +kernel) rfl rfl rfl (by decide +kernel)
set_option maxRecDepth 65536 in
theorem w_cw : (Jvm.Cond.codeWith ({ cls := "java/lang/String", name := "<init>", desc := "(Ljava/nio/charset/Charset;[BII)V" } : Jvm.MethodName) jdk_42_method_11_code (11 : Nat) (Option.none : Option Jvm.ClassFile.FieldType) [(800, 813, 816, 202)]).before args0 about1 = true := codeWith_word (m := ⟨23, 1⟩) (meth := k23m1) (c := k23c1) (by decide +kernel) rfl rfl rfl rfl (by decide +kernel)
def codes1 : List Jvm.Cond := [Jvm.Cond.code x code maxLocals ret, Jvm.Cond.code ({ cls := "com/example/onesnap/onesnap/node/TransactionTrackerCommitsAtSyncPinLaw", name := "status", desc := "(I)C" } : Jvm.MethodName) method_3_code (2 : Nat) (Option.some Jvm.ClassFile.FieldType.char), Jvm.Cond.code ({ cls := "com/example/onesnap/onesnap/node/TransactionTrackerCommitsAtSyncPinLaw", name := "kind", desc := "(I)Lcom/example/onesnap/onesnap/node/StatementKind;" } : Jvm.MethodName) method_2_code (2 : Nat) (Option.some (Jvm.ClassFile.FieldType.object "com/example/onesnap/onesnap/node/StatementKind")), Jvm.Cond.code ({ cls := "java/util/ArrayList", name := "<init>", desc := "()V" } : Jvm.MethodName) jdk_38_method_2_code (1 : Nat) (Option.none : Option Jvm.ClassFile.FieldType), Jvm.Cond.code ({ cls := "java/util/AbstractList", name := "<init>", desc := "()V" } : Jvm.MethodName) jdk_39_method_1_code (1 : Nat) (Option.none : Option Jvm.ClassFile.FieldType), Jvm.Cond.code ({ cls := "java/util/AbstractCollection", name := "<init>", desc := "()V" } : Jvm.MethodName) jdk_22_method_1_code (1 : Nat) (Option.none : Option Jvm.ClassFile.FieldType), Jvm.Cond.code ({ cls := "java/lang/Object", name := "<init>", desc := "()V" } : Jvm.MethodName) object_method_1_code (1 : Nat) (Option.none : Option Jvm.ClassFile.FieldType), Jvm.Cond.code ({ cls := "java/util/ArrayList", name := "add", desc := "(Ljava/lang/Object;)Z" } : Jvm.MethodName) jdk_38_method_25_code (2 : Nat) (Option.some Jvm.ClassFile.FieldType.boolean), Jvm.Cond.code ({ cls := "java/util/ArrayList", name := "add", desc := "(Ljava/lang/Object;[Ljava/lang/Object;I)V" } : Jvm.MethodName) jdk_38_method_24_code (4 : Nat) (Option.none : Option Jvm.ClassFile.FieldType), Jvm.Cond.code ({ cls := "java/util/ArrayList", name := "grow", desc := "()[Ljava/lang/Object;" } : Jvm.MethodName) jdk_38_method_7_code (1 : Nat) (Option.some (Jvm.ClassFile.FieldType.array (Jvm.ClassFile.FieldType.object "java/lang/Object"))), Jvm.Cond.code ({ cls := "java/util/ArrayList", name := "grow", desc := "(I)[Ljava/lang/Object;" } : Jvm.MethodName) jdk_38_method_6_code (4 : Nat) (Option.some (Jvm.ClassFile.FieldType.array (Jvm.ClassFile.FieldType.object "java/lang/Object"))), Jvm.Cond.code ({ cls := "java/lang/Math", name := "max", desc := "(II)I" } : Jvm.MethodName) jdk_29_method_65_code (2 : Nat) (Option.some Jvm.ClassFile.FieldType.int), Jvm.Cond.code ({ cls := "com/example/onesnap/onesnap/node/TransactionTracker", name := "<init>", desc := "()V" } : Jvm.MethodName) prog_49_method_1_code (1 : Nat) (Option.none : Option Jvm.ClassFile.FieldType), Jvm.Cond.code ({ cls := "java/util/HashMap", name := "<init>", desc := "()V" } : Jvm.MethodName) jdk_69_method_7_code (1 : Nat) (Option.none : Option Jvm.ClassFile.FieldType), Jvm.Cond.code ({ cls := "java/util/AbstractMap", name := "<init>", desc := "()V" } : Jvm.MethodName) jdk_71_method_1_code (1 : Nat) (Option.none : Option Jvm.ClassFile.FieldType), Jvm.Cond.code ({ cls := "com/example/onesnap/onesnap/node/TransactionTracker", name := "ready", desc := "(C)V" } : Jvm.MethodName) prog_49_method_2_code (2 : Nat) (Option.none : Option Jvm.ClassFile.FieldType), Jvm.Cond.code ({ cls := "com/example/onesnap/onesnap/node/TransactionTracker", name := "parsed", desc := "([BLjava/util/List;)V" } : Jvm.MethodName) prog_49_method_5_code (3 : Nat) (Option.none : Option Jvm.ClassFile.FieldType), Jvm.Cond.code ({ cls := "com/example/onesnap/onesnap/node/TransactionTracker", name := "name", desc := "([B)Ljava/lang/String;" } : Jvm.MethodName) prog_49_method_15_code (1 : Nat) (Option.some (Jvm.ClassFile.FieldType.object "java/lang/String")), Jvm.Cond.code ({ cls := "java/lang/String", name := "<init>", desc := "([BLjava/nio/charset/Charset;)V" } : Jvm.MethodName) jdk_42_method_49_code (3 : Nat) (Option.none : Option Jvm.ClassFile.FieldType), Jvm.Cond.code ({ cls := "java/util/Objects", name := "requireNonNull", desc := "(Ljava/lang/Object;)Ljava/lang/Object;" } : Jvm.MethodName) jdk_31_method_10_code (1 : Nat) (Option.some (Jvm.ClassFile.FieldType.object "java/lang/Object")), Jvm.Cond.codeWith ({ cls := "java/lang/String", name := "<init>", desc := "(Ljava/nio/charset/Charset;[BII)V" } : Jvm.MethodName) jdk_42_method_11_code (11 : Nat) (Option.none : Option Jvm.ClassFile.FieldType) [(800, 813, 816, 202)], Jvm.Cond.code ({ cls := "java/util/Arrays", name := "copyOfRange", desc := "([BII)[B" } : Jvm.MethodName) jdk_65_method_132_code (3 : Nat) (Option.some (Jvm.ClassFile.FieldType.array Jvm.ClassFile.FieldType.byte)), Jvm.Cond.code ({ cls := "com/example/onesnap/onesnap/node/TransactionTracker", name := "parsedKind", desc := "(Ljava/util/List;)Lcom/example/onesnap/onesnap/node/StatementKind;" } : Jvm.MethodName) prog_49_method_6_code (1 : Nat) (Option.some (Jvm.ClassFile.FieldType.object "com/example/onesnap/onesnap/node/StatementKind")), Jvm.Cond.code ({ cls := "java/util/ArrayList", name := "size", desc := "()I" } : Jvm.MethodName) jdk_38_method_8_code (1 : Nat) (Option.some Jvm.ClassFile.FieldType.int), Jvm.Cond.code ({ cls := "java/util/ArrayList", name := "get", desc := "(I)Ljava/lang/Object;" } : Jvm.MethodName) jdk_38_method_20_code (2 : Nat) (Option.some (Jvm.ClassFile.FieldType.object "java/lang/Object")), Jvm.Cond.code ({ cls := "java/util/Objects", name := "checkIndex", desc := "(II)I" } : Jvm.MethodName) jdk_31_method_17_code (2 : Nat) (Option.some Jvm.ClassFile.FieldType.int), Jvm.Cond.code ({ cls := "jdk/internal/util/Preconditions", name := "checkIndex", desc := "(IILjava/util/function/BiFunction;)I" } : Jvm.MethodName) jdk_41_method_11_code (3 : Nat) (Option.some Jvm.ClassFile.FieldType.int), Jvm.Cond.code ({ cls := "java/util/ArrayList", name := "elementData", desc := "(I)Ljava/lang/Object;" } : Jvm.MethodName) jdk_38_method_18_code (2 : Nat) (Option.some (Jvm.ClassFile.FieldType.object "java/lang/Object")), Jvm.Cond.code ({ cls := "java/util/HashMap", name := "put", desc := "(Ljava/lang/Object;Ljava/lang/Object;)Ljava/lang/Object;" } : Jvm.MethodName) jdk_69_method_15_code (3 : Nat) (Option.some (Jvm.ClassFile.FieldType.object "java/lang/Object")), Jvm.Cond.code ({ cls := "java/util/HashMap", name := "hash", desc := "(Ljava/lang/Object;)I" } : Jvm.MethodName) jdk_69_method_1_code (2 : Nat) (Option.some Jvm.ClassFile.FieldType.int), Jvm.Cond.code ({ cls := "java/lang/String", name := "hashCode", desc := "()I" } : Jvm.MethodName) jdk_42_method_78_code (2 : Nat) (Option.some Jvm.ClassFile.FieldType.int), Jvm.Cond.code ({ cls := "java/lang/String", name := "isLatin1", desc := "()Z" } : Jvm.MethodName) jdk_42_method_154_code (1 : Nat) (Option.some Jvm.ClassFile.FieldType.boolean), Jvm.Cond.code ({ cls := "java/lang/StringLatin1", name := "hashCode", desc := "([B)I" } : Jvm.MethodName) jdk_43_method_21_code (1 : Nat) (Option.some Jvm.ClassFile.FieldType.int), Jvm.Cond.code ({ cls := "java/util/HashMap", name := "putVal", desc := "(ILjava/lang/Object;Ljava/lang/Object;ZZ)Ljava/lang/Object;" } : Jvm.MethodName) jdk_69_method_16_code (13 : Nat) (Option.some (Jvm.ClassFile.FieldType.object "java/lang/Object")), Jvm.Cond.code ({ cls := "java/util/HashMap", name := "resize", desc := "()[Ljava/util/HashMap$Node;" } : Jvm.MethodName) jdk_69_method_17_code (14 : Nat) (Option.some (Jvm.ClassFile.FieldType.array (Jvm.ClassFile.FieldType.object "java/util/HashMap$Node"))), Jvm.Cond.code ({ cls := "java/util/HashMap", name := "newNode", desc := "(ILjava/lang/Object;Ljava/lang/Object;Ljava/util/HashMap$Node;)Ljava/util/HashMap$Node;" } : Jvm.MethodName) jdk_69_method_46_code (5 : Nat) (Option.some (Jvm.ClassFile.FieldType.object "java/util/HashMap$Node")), Jvm.Cond.code ({ cls := "java/util/HashMap$Node", name := "<init>", desc := "(ILjava/lang/Object;Ljava/lang/Object;Ljava/util/HashMap$Node;)V" } : Jvm.MethodName) jdk_70_method_1_code (5 : Nat) (Option.none : Option Jvm.ClassFile.FieldType), Jvm.Cond.code ({ cls := "java/util/HashMap", name := "afterNodeInsertion", desc := "(Z)V" } : Jvm.MethodName) jdk_69_method_52_code (2 : Nat) (Option.none : Option Jvm.ClassFile.FieldType), Jvm.Cond.code ({ cls := "com/example/onesnap/onesnap/node/TransactionTracker", name := "bound", desc := "([B[B)V" } : Jvm.MethodName) prog_49_method_9_code (3 : Nat) (Option.none : Option Jvm.ClassFile.FieldType), Jvm.Cond.code ({ cls := "com/example/onesnap/onesnap/node/TransactionTracker", name := "statementKind", desc := "([B)Lcom/example/onesnap/onesnap/node/StatementKind;" } : Jvm.MethodName) prog_49_method_7_code (2 : Nat) (Option.some (Jvm.ClassFile.FieldType.object "com/example/onesnap/onesnap/node/StatementKind")), Jvm.Cond.code ({ cls := "java/util/HashMap", name := "getOrDefault", desc := "(Ljava/lang/Object;Ljava/lang/Object;)Ljava/lang/Object;" } : Jvm.MethodName) jdk_69_method_30_code (4 : Nat) (Option.some (Jvm.ClassFile.FieldType.object "java/lang/Object")), Jvm.Cond.code ({ cls := "java/util/HashMap", name := "getNode", desc := "(Ljava/lang/Object;)Ljava/util/HashMap$Node;" } : Jvm.MethodName) jdk_69_method_13_code (8 : Nat) (Option.some (Jvm.ClassFile.FieldType.object "java/util/HashMap$Node")), Jvm.Cond.code ({ cls := "java/lang/String", name := "equals", desc := "(Ljava/lang/Object;)Z" } : Jvm.MethodName) jdk_42_method_66_code (3 : Nat) (Option.some Jvm.ClassFile.FieldType.boolean), Jvm.Cond.code ({ cls := "java/lang/StringLatin1", name := "equals", desc := "([B[B)Z" } : Jvm.MethodName) jdk_43_method_13_code (3 : Nat) (Option.some Jvm.ClassFile.FieldType.boolean), Jvm.Cond.code ({ cls := "com/example/onesnap/onesnap/node/TransactionTracker", name := "executed", desc := "([B)V" } : Jvm.MethodName) prog_49_method_11_code (3 : Nat) (Option.none : Option Jvm.ClassFile.FieldType), Jvm.Cond.code ({ cls := "com/example/onesnap/onesnap/node/TransactionTracker", name := "portalKind", desc := "([B)Lcom/example/onesnap/onesnap/node/StatementKind;" } : Jvm.MethodName) prog_49_method_8_code (2 : Nat) (Option.some (Jvm.ClassFile.FieldType.object "com/example/onesnap/onesnap/node/StatementKind")), Jvm.Cond.code ({ cls := "com/example/onesnap/onesnap/node/TransactionTracker", name := "commitsAtSync", desc := "()Z" } : Jvm.MethodName) prog_49_method_12_code (1 : Nat) (Option.some Jvm.ClassFile.FieldType.boolean), Jvm.Cond.code ({ cls := "com/example/onesnap/onesnap/node/TransactionTrackerCommitsAtSyncPinLaw", name := "after", desc := "(CLcom/example/onesnap/onesnap/node/StatementKind;)C" } : Jvm.MethodName) method_4_code (2 : Nat) (Option.some Jvm.ClassFile.FieldType.char)]
set_option maxRecDepth 65536 in
theorem codes_eq : words1.filter isCode = codes1 := rfl
theorem w_codes : ∀ c ∈ words1.filter isCode, c.before args0 about1 = true := by
  rw [codes_eq]
  intro c hc
  simp only [codes1, List.mem_cons, List.not_mem_nil, or_false] at hc
  rcases hc with rfl | rfl | rfl | rfl | rfl | rfl | rfl | rfl | rfl | rfl | rfl | rfl | rfl | rfl | rfl | rfl | rfl | rfl | rfl | rfl | rfl | rfl | rfl | rfl | rfl | rfl | rfl | rfl | rfl | rfl | rfl | rfl | rfl | rfl | rfl | rfl | rfl | rfl | rfl | rfl | rfl | rfl | rfl | rfl | rfl | rfl | rfl | rfl
  · exact w_c0
  · exact w_c1
  · exact w_c2
  · exact w_c3
  · exact w_c4
  · exact w_c5
  · exact w_c6
  · exact w_c7
  · exact w_c8
  · exact w_c9
  · exact w_c10
  · exact w_c11
  · exact w_c12
  · exact w_c13
  · exact w_c14
  · exact w_c15
  · exact w_c16
  · exact w_c17
  · exact w_c18
  · exact w_c19
  · exact w_cw
  · exact w_c20
  · exact w_c21
  · exact w_c22
  · exact w_c23
  · exact w_c24
  · exact w_c25
  · exact w_c26
  · exact w_c27
  · exact w_c28
  · exact w_c29
  · exact w_c30
  · exact w_c31
  · exact w_c32
  · exact w_c33
  · exact w_c34
  · exact w_c35
  · exact w_c36
  · exact w_c37
  · exact w_c38
  · exact w_c39
  · exact w_c40
  · exact w_c41
  · exact w_c42
  · exact w_c43
  · exact w_c44
  · exact w_c45
  · exact w_c46
set_option maxRecDepth 65536 in
theorem w_t1 : (words1.take 24).all (fun c => isCode c || c.before args0 about1) = true := by decide +kernel
set_option maxRecDepth 65536 in
theorem w_t2 : ((words1.drop 24).take 24).all (fun c => isCode c || c.before args0 about1) = true := by decide +kernel
set_option maxRecDepth 65536 in
theorem w_t3 : (((words1.drop 24).drop 24).take 24).all (fun c => isCode c || c.before args0 about1) = true := by decide +kernel
set_option maxRecDepth 65536 in
theorem w_t4 : ((((words1.drop 24).drop 24).drop 24).take 24).all (fun c => isCode c || c.before args0 about1) = true := by decide +kernel
set_option maxRecDepth 65536 in
theorem w_t5 : (((((words1.drop 24).drop 24).drop 24).drop 24).take 24).all (fun c => isCode c || c.before args0 about1) = true := by decide +kernel
set_option maxRecDepth 65536 in
theorem w_t6 : ((((((words1.drop 24).drop 24).drop 24).drop 24).drop 24).take 24).all (fun c => isCode c || c.before args0 about1) = true := by decide +kernel
set_option maxRecDepth 65536 in
theorem w_t7 : (((((((words1.drop 24).drop 24).drop 24).drop 24).drop 24).drop 24).take 24).all (fun c => isCode c || c.before args0 about1) = true := by decide +kernel
set_option maxRecDepth 65536 in
theorem w_t8 : ((((((((words1.drop 24).drop 24).drop 24).drop 24).drop 24).drop 24).drop 24).take 24).all (fun c => isCode c || c.before args0 about1) = true := by decide +kernel
set_option maxRecDepth 65536 in
theorem w_t9 : (((((((((words1.drop 24).drop 24).drop 24).drop 24).drop 24).drop 24).drop 24).drop 24).take 24).all (fun c => isCode c || c.before args0 about1) = true := by decide +kernel
set_option maxRecDepth 65536 in
theorem w_t10 : ((((((((((words1.drop 24).drop 24).drop 24).drop 24).drop 24).drop 24).drop 24).drop 24).drop 24).take 24).all (fun c => isCode c || c.before args0 about1) = true := by decide +kernel
set_option maxRecDepth 65536 in
theorem w_t11 : (((((((((((words1.drop 24).drop 24).drop 24).drop 24).drop 24).drop 24).drop 24).drop 24).drop 24).drop 24).take 24).all (fun c => isCode c || c.before args0 about1) = true := by decide +kernel
set_option maxRecDepth 65536 in
theorem w_t12 : ((((((((((((words1.drop 24).drop 24).drop 24).drop 24).drop 24).drop 24).drop 24).drop 24).drop 24).drop 24).drop 24).take 24).all (fun c => isCode c || c.before args0 about1) = true := by decide +kernel
set_option maxRecDepth 65536 in
theorem w_t13 : (((((((((((((words1.drop 24).drop 24).drop 24).drop 24).drop 24).drop 24).drop 24).drop 24).drop 24).drop 24).drop 24).drop 24).take 24).all (fun c => isCode c || c.before args0 about1) = true := by decide +kernel
set_option maxRecDepth 65536 in
theorem w_t14 : (((((((((((((words1.drop 24).drop 24).drop 24).drop 24).drop 24).drop 24).drop 24).drop 24).drop 24).drop 24).drop 24).drop 24).drop 24).all (fun c => isCode c || c.before args0 about1) = true := by decide +kernel
theorem w_tables : (allAtoms (Jvm.Cond.code x code maxLocals ret :: tables_1)).before args0 about1 = true := by
  rw [allAtoms_all]
  show words1.all (fun c => c.before args0 about1) = true
  refine all_split ?_ w_codes
  rw [← List.take_append_drop 24 words1, List.all_append, w_t1, ← List.take_append_drop 24 (words1.drop 24), List.all_append, w_t2, ← List.take_append_drop 24 ((words1.drop 24).drop 24), List.all_append, w_t3, ← List.take_append_drop 24 (((words1.drop 24).drop 24).drop 24), List.all_append, w_t4, ← List.take_append_drop 24 ((((words1.drop 24).drop 24).drop 24).drop 24), List.all_append, w_t5, ← List.take_append_drop 24 (((((words1.drop 24).drop 24).drop 24).drop 24).drop 24), List.all_append, w_t6, ← List.take_append_drop 24 ((((((words1.drop 24).drop 24).drop 24).drop 24).drop 24).drop 24), List.all_append, w_t7, ← List.take_append_drop 24 (((((((words1.drop 24).drop 24).drop 24).drop 24).drop 24).drop 24).drop 24), List.all_append, w_t8, ← List.take_append_drop 24 ((((((((words1.drop 24).drop 24).drop 24).drop 24).drop 24).drop 24).drop 24).drop 24), List.all_append, w_t9, ← List.take_append_drop 24 (((((((((words1.drop 24).drop 24).drop 24).drop 24).drop 24).drop 24).drop 24).drop 24).drop 24), List.all_append, w_t10, ← List.take_append_drop 24 ((((((((((words1.drop 24).drop 24).drop 24).drop 24).drop 24).drop 24).drop 24).drop 24).drop 24).drop 24), List.all_append, w_t11, ← List.take_append_drop 24 (((((((((((words1.drop 24).drop 24).drop 24).drop 24).drop 24).drop 24).drop 24).drop 24).drop 24).drop 24).drop 24), List.all_append, w_t12, ← List.take_append_drop 24 ((((((((((((words1.drop 24).drop 24).drop 24).drop 24).drop 24).drop 24).drop 24).drop 24).drop 24).drop 24).drop 24).drop 24), List.all_append, w_t13, w_t14]
  rfl
set_option maxRecDepth 65536 in
theorem w_rest : rest_1_c.before args0 about1 = true := by decide +kernel
set_option maxRecDepth 65536 in
theorem w_case : (Jvm.Cond.and given_1 narrow_1).before args0 about1 = true := by decide +kernel
theorem w_applies : (headSpec (Jvm.Cond.code x code maxLocals ret :: tables_1) room_1).applies x e0.platform about1 = true :=
  (Spec.applies_iff w_frames).mpr ⟨w_running, w_runnable, w_alone, w_named, w_hears, w_ripe, w_room, w_tables⟩
theorem atStart : AtStart classFile x code maxLocals ret World_1 tables_1 room_1 Calls_1 rest_1 Pre_1 launch0 p0 e0 about1 theMethod args0 below0 :=
  ⟨lists_1, trivial, launch0.admits_env _ _ _, launch0.least_env, fairChoices_fair.cas, fairChoices_fair.clock, w_frames, w_args, w_heap, w_applies, trivial, w_rest, w_case⟩
end start1
theorem witness_1 : WitnessClaimed_1 := ⟨start1.p0, start1.e0, start1.about1, start1.theMethod, start1.args0, start1.below0, start1.atStart⟩
end Jvm.Pilot.@@N@@
