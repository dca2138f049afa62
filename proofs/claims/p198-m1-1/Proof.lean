import JvmDerived
import JvmDerived.Pilot.@@N@@Statement
import JvmDerived.Pilot.@@N@@Code
set_option linter.unusedVariables false
set_option linter.unusedSimpArgs false
namespace Jvm.RoadKit
open Sem ClassFile Op Lib Jvm.Stand Jvm.Free Jvm.LawKit
section New
variable {p : Program} {l : Launch} {e : Env} {R : Room} {s : State} {m : MethodId} {args : Array Value} {below : List Frame} {meth : Method} {c : Code} {T : State} {locs : List Loc} {cells slots : Nat}
theorem retI (X : Stand p l e R s m args below meth c T locs cells slots) (hx : p.tables.exec = Jvm.exec) {pc : Nat} {Ls : Array Slot} {z : Int32} {rest : List Value} (hret : meth.sig.returnType = some .int) (hd : decode c.code pc = .ok (.ireturn, 1)) {fs : List Frame}
    (hl : ∀ (f : JFrame) (acts : List Action), f.method = m → f.locked = none → f.entered = [] → (doReturn e (T.setTop f) acts (some (.int z))).1 = T.setFrames fs) : Steps p.tables e below (T.setTop (mkF m pc Ls (.int z :: rest))) (T.setFrames fs) := by
  have hm' : T.vm.method? m = some meth := X.method'
  have hn : narrow .int (.int z) = .int z := rfl
  show Steps p.tables e below (T.setTop { method := m, pc := pc, locals := Ls, stack := _ :: rest, locked := none }) _
  jvm_step X.here [X.here.top, hx, hd, hm', hret, hn]
  first | (intro acts; rw [hl _ acts rfl rfl rfl]) | rw [hl _ _ rfl rfl rfl]
  exact Steps.refl _
end New
end Jvm.RoadKit
namespace Jvm.Pilot.@@N@@
open Jvm Jvm.ClassFile Sem Op Lib Jvm.Free Jvm.Stand Jvm.LawKit Jvm.RoadKit Bundle Jvm.Pilot.@@N@@.Jvm.D
theorem pd0 : parseMethodDescriptor "(I)I" = some ⟨[.int], some .int⟩ := by decide +kernel
theorem pd1 : parseMethodDescriptor "(I)Z" = some ⟨[.int], some .boolean⟩ := by decide +kernel
theorem d1_0 : decode method_3_code 0 = .ok (.iload_n 0, 1) := by decide +kernel
theorem d1_1 : decode method_3_code 1 = .ok (.ifCond .ne 5, 3) := by decide +kernel
theorem d1_4 : decode method_3_code 4 = .ok (.iconst 0, 1) := by decide +kernel
theorem d1_5 : decode method_3_code 5 = .ok (.ireturn, 1) := by decide +kernel
theorem d1_6 : decode method_3_code 6 = .ok (.iload_n 0, 1) := by decide +kernel
theorem d1_7 : decode method_3_code 7 = .ok (.iconst 1, 1) := by decide +kernel
theorem d1_8 : decode method_3_code 8 = .ok (.if_icmp .ne 6, 3) := by decide +kernel
theorem d1_11 : decode method_3_code 11 = .ok (.bipush 9, 2) := by decide +kernel
theorem d1_13 : decode method_3_code 13 = .ok (.ireturn, 1) := by decide +kernel
theorem d1_14 : decode method_3_code 14 = .ok (.iload_n 0, 1) := by decide +kernel
theorem d1_15 : decode method_3_code 15 = .ok (.iconst 2, 1) := by decide +kernel
theorem d1_16 : decode method_3_code 16 = .ok (.if_icmp .ne 6, 3) := by decide +kernel
theorem d1_19 : decode method_3_code 19 = .ok (.bipush 10, 2) := by decide +kernel
theorem d1_21 : decode method_3_code 21 = .ok (.ireturn, 1) := by decide +kernel
theorem d1_22 : decode method_3_code 22 = .ok (.iload_n 0, 1) := by decide +kernel
theorem d1_23 : decode method_3_code 23 = .ok (.iconst 3, 1) := by decide +kernel
theorem d1_24 : decode method_3_code 24 = .ok (.if_icmp .ne 6, 3) := by decide +kernel
theorem d1_27 : decode method_3_code 27 = .ok (.bipush 13, 2) := by decide +kernel
theorem d1_29 : decode method_3_code 29 = .ok (.ireturn, 1) := by decide +kernel
theorem d1_30 : decode method_3_code 30 = .ok (.iload_n 0, 1) := by decide +kernel
theorem d1_31 : decode method_3_code 31 = .ok (.iconst 4, 1) := by decide +kernel
theorem d1_32 : decode method_3_code 32 = .ok (.if_icmp .ne 6, 3) := by decide +kernel
theorem d1_35 : decode method_3_code 35 = .ok (.bipush 32, 2) := by decide +kernel
theorem d1_37 : decode method_3_code 37 = .ok (.ireturn, 1) := by decide +kernel
theorem d1_38 : decode method_3_code 38 = .ok (.iload_n 0, 1) := by decide +kernel
theorem d1_39 : decode method_3_code 39 = .ok (.iconst 5, 1) := by decide +kernel
theorem d1_40 : decode method_3_code 40 = .ok (.if_icmp .ne 6, 3) := by decide +kernel
theorem d1_43 : decode method_3_code 43 = .ok (.ldc 12, 2) := by decide +kernel
theorem d1_45 : decode method_3_code 45 = .ok (.ireturn, 1) := by decide +kernel
theorem d1_46 : decode method_3_code 46 = .ok (.iload_n 0, 1) := by decide +kernel
theorem d1_47 : decode method_3_code 47 = .ok (.bipush 6, 2) := by decide +kernel
theorem d1_49 : decode method_3_code 49 = .ok (.if_icmp .ne 6, 3) := by decide +kernel
theorem d1_52 : decode method_3_code 52 = .ok (.ldc 7, 2) := by decide +kernel
theorem d1_54 : decode method_3_code 54 = .ok (.ireturn, 1) := by decide +kernel
theorem d1_55 : decode method_3_code 55 = .ok (.iload_n 0, 1) := by decide +kernel
theorem d1_56 : decode method_3_code 56 = .ok (.bipush 7, 2) := by decide +kernel
theorem d1_58 : decode method_3_code 58 = .ok (.if_icmp .ne 6, 3) := by decide +kernel
theorem d1_61 : decode method_3_code 61 = .ok (.ldc 13, 2) := by decide +kernel
theorem d1_63 : decode method_3_code 63 = .ok (.ireturn, 1) := by decide +kernel
theorem d1_64 : decode method_3_code 64 = .ok (.iload_n 0, 1) := by decide +kernel
theorem d1_65 : decode method_3_code 65 = .ok (.bipush 8, 2) := by decide +kernel
theorem d1_67 : decode method_3_code 67 = .ok (.if_icmp .ne 6, 3) := by decide +kernel
theorem d1_70 : decode method_3_code 70 = .ok (.ldc 8, 2) := by decide +kernel
theorem d1_72 : decode method_3_code 72 = .ok (.ireturn, 1) := by decide +kernel
theorem d1_73 : decode method_3_code 73 = .ok (.iload_n 0, 1) := by decide +kernel
theorem d1_74 : decode method_3_code 74 = .ok (.bipush 9, 2) := by decide +kernel
theorem d1_76 : decode method_3_code 76 = .ok (.if_icmp .ne 6, 3) := by decide +kernel
theorem d1_79 : decode method_3_code 79 = .ok (.ldc 14, 2) := by decide +kernel
theorem d1_81 : decode method_3_code 81 = .ok (.ireturn, 1) := by decide +kernel
theorem d1_82 : decode method_3_code 82 = .ok (.iload_n 0, 1) := by decide +kernel
theorem d1_83 : decode method_3_code 83 = .ok (.bipush 10, 2) := by decide +kernel
theorem d1_85 : decode method_3_code 85 = .ok (.if_icmp .ne 6, 3) := by decide +kernel
theorem d1_88 : decode method_3_code 88 = .ok (.ldc 10, 2) := by decide +kernel
theorem d1_90 : decode method_3_code 90 = .ok (.ireturn, 1) := by decide +kernel
theorem d1_91 : decode method_3_code 91 = .ok (.iload_n 0, 1) := by decide +kernel
theorem d1_92 : decode method_3_code 92 = .ok (.bipush 11, 2) := by decide +kernel
theorem d1_94 : decode method_3_code 94 = .ok (.if_icmp .ne 6, 3) := by decide +kernel
theorem d1_97 : decode method_3_code 97 = .ok (.ldc 15, 2) := by decide +kernel
theorem d1_99 : decode method_3_code 99 = .ok (.ireturn, 1) := by decide +kernel
theorem d1_100 : decode method_3_code 100 = .ok (.iload_n 0, 1) := by decide +kernel
theorem d1_101 : decode method_3_code 101 = .ok (.bipush 12, 2) := by decide +kernel
theorem d1_103 : decode method_3_code 103 = .ok (.if_icmp .ne 6, 3) := by decide +kernel
theorem d1_106 : decode method_3_code 106 = .ok (.ldc 11, 2) := by decide +kernel
theorem d1_108 : decode method_3_code 108 = .ok (.ireturn, 1) := by decide +kernel
theorem d1_109 : decode method_3_code 109 = .ok (.iload_n 0, 1) := by decide +kernel
theorem d1_110 : decode method_3_code 110 = .ok (.bipush 13, 2) := by decide +kernel
theorem d1_112 : decode method_3_code 112 = .ok (.if_icmp .ne 6, 3) := by decide +kernel
theorem d1_115 : decode method_3_code 115 = .ok (.ldc 16, 2) := by decide +kernel
theorem d1_117 : decode method_3_code 117 = .ok (.ireturn, 1) := by decide +kernel
theorem d1_118 : decode method_3_code 118 = .ok (.iload_n 0, 1) := by decide +kernel
theorem d1_119 : decode method_3_code 119 = .ok (.bipush 14, 2) := by decide +kernel
theorem d1_121 : decode method_3_code 121 = .ok (.if_icmp .ne 6, 3) := by decide +kernel
theorem d1_124 : decode method_3_code 124 = .ok (.ldc 19, 2) := by decide +kernel
theorem d1_126 : decode method_3_code 126 = .ok (.ireturn, 1) := by decide +kernel
theorem d1_127 : decode method_3_code 127 = .ok (.ldc 20, 2) := by decide +kernel
theorem d1_129 : decode method_3_code 129 = .ok (.ireturn, 1) := by decide +kernel
def F1_127 : Int32 := (2147483647 : Int32)
theorem b1_127 {p : Program} {l : Launch} {e : Env} {R : Room} {s : State} {m : MethodId} {args : Array Value} {below : List Frame} {meth : Method} {c : Code} {T : State} {locs : List Loc} {cells slots : Nat} {Z : State} {a0 : Array Value} (X : Stand p l e R s m args below meth c T locs cells slots) (hx : p.tables.exec = Jvm.exec) (hZ : Z.Warmed39 s.vm) (hw : ∀ d ∈ tables_1, d.before a0 Z = true) (hby : c.code = method_3_code) (hown : s.vm.findClass "com/example/kartegami/kartegami/xml/XmlWriterCanWritePinLaw" = some m.cls) (v0 : Int32) (hret : meth.sig.returnType = some .int) {fs : List Frame} (hr : ∀ (f : JFrame) (acts : List Action), f.method = m → f.locked = none → f.entered = [] → (doReturn e (T.setTop f) acts (some (.int F1_127))).1 = T.setFrames fs) : Steps p.tables e below (T.setTop (mkF m 127 #[.val (.int v0)] [])) (T.setFrames fs) := by
  show Steps p.tables e below (T.setTop (mkF m 127 #[.val (.int v0)] [])) _
  refine X.ldcInt hx hown (mvT hZ (hw _ (List.mem_of_getElem? (i := 21) rfl))) (g := (mkF m 127 #[.val (.int v0)] [])) rfl (hb hby d1_127) _ ?_
  show Steps p.tables e below (T.setTop (mkF m 129 #[.val (.int v0)] [(.int (2147483647 : Int32))])) _
  rw [show F1_127 = (2147483647 : Int32) from rfl] at hr
  exact retI X hx hret (hb hby d1_129) hr
def F1_124 : Int32 := (-2147483648 : Int32)
theorem b1_124 {p : Program} {l : Launch} {e : Env} {R : Room} {s : State} {m : MethodId} {args : Array Value} {below : List Frame} {meth : Method} {c : Code} {T : State} {locs : List Loc} {cells slots : Nat} {Z : State} {a0 : Array Value} (X : Stand p l e R s m args below meth c T locs cells slots) (hx : p.tables.exec = Jvm.exec) (hZ : Z.Warmed39 s.vm) (hw : ∀ d ∈ tables_1, d.before a0 Z = true) (hby : c.code = method_3_code) (hown : s.vm.findClass "com/example/kartegami/kartegami/xml/XmlWriterCanWritePinLaw" = some m.cls) (v0 : Int32) (hret : meth.sig.returnType = some .int) {fs : List Frame} (hr : ∀ (f : JFrame) (acts : List Action), f.method = m → f.locked = none → f.entered = [] → (doReturn e (T.setTop f) acts (some (.int F1_124))).1 = T.setFrames fs) : Steps p.tables e below (T.setTop (mkF m 124 #[.val (.int v0)] [])) (T.setFrames fs) := by
  show Steps p.tables e below (T.setTop (mkF m 124 #[.val (.int v0)] [])) _
  refine X.ldcInt hx hown (mvT hZ (hw _ (List.mem_of_getElem? (i := 25) rfl))) (g := (mkF m 124 #[.val (.int v0)] [])) rfl (hb hby d1_124) _ ?_
  show Steps p.tables e below (T.setTop (mkF m 126 #[.val (.int v0)] [(.int (-2147483648 : Int32))])) _
  rw [show F1_124 = (-2147483648 : Int32) from rfl] at hr
  exact retI X hx hret (hb hby d1_126) hr
def F1_118 (v0 : Int32) : Int32 := if v0 = (14 : Int32) then F1_124 else F1_127
theorem b1_118 {p : Program} {l : Launch} {e : Env} {R : Room} {s : State} {m : MethodId} {args : Array Value} {below : List Frame} {meth : Method} {c : Code} {T : State} {locs : List Loc} {cells slots : Nat} {Z : State} {a0 : Array Value} (X : Stand p l e R s m args below meth c T locs cells slots) (hx : p.tables.exec = Jvm.exec) (hZ : Z.Warmed39 s.vm) (hw : ∀ d ∈ tables_1, d.before a0 Z = true) (hby : c.code = method_3_code) (hown : s.vm.findClass "com/example/kartegami/kartegami/xml/XmlWriterCanWritePinLaw" = some m.cls) (v0 : Int32) (hret : meth.sig.returnType = some .int) {fs : List Frame} (hr : ∀ (f : JFrame) (acts : List Action), f.method = m → f.locked = none → f.entered = [] → (doReturn e (T.setTop f) acts (some (.int (F1_118 v0)))).1 = T.setFrames fs) : Steps p.tables e below (T.setTop (mkF m 118 #[.val (.int v0)] [])) (T.setFrames fs) := by
  show Steps p.tables e below (T.setTop (mkF m 118 #[.val (.int v0)] [])) _
  refine XS.iloadN X.here hx rfl (hb hby d1_118) rfl ?_
  show Steps p.tables e below (T.setTop (mkF m 119 #[.val (.int v0)] [(.int v0)])) _
  refine XS.bipush X.here hx rfl (hb hby d1_119) ?_
  show Steps p.tables e below (T.setTop (mkF m 121 #[.val (.int v0)] [(.int (14 : Int32)), (.int v0)])) _
  by_cases hc : v0 = (14 : Int32)
  · rw [show (F1_118 v0) = F1_124 from if_pos hc] at hr
    refine XS.icmpNo X.here hx rfl (hb hby d1_121) rfl (teq hc).2 ?_
    exact b1_124 X hx hZ hw hby hown v0 hret hr
  · rw [show (F1_118 v0) = F1_127 from if_neg hc] at hr
    refine XS.icmpYes X.here hx rfl (pc0 := 121) (pc' := 127) rfl (hb hby d1_121) rfl (feq hc).2 (by decide) (by decide) ?_
    exact b1_127 X hx hZ hw hby hown v0 hret hr
def F1_115 : Int32 := (1114112 : Int32)
theorem b1_115 {p : Program} {l : Launch} {e : Env} {R : Room} {s : State} {m : MethodId} {args : Array Value} {below : List Frame} {meth : Method} {c : Code} {T : State} {locs : List Loc} {cells slots : Nat} {Z : State} {a0 : Array Value} (X : Stand p l e R s m args below meth c T locs cells slots) (hx : p.tables.exec = Jvm.exec) (hZ : Z.Warmed39 s.vm) (hw : ∀ d ∈ tables_1, d.before a0 Z = true) (hby : c.code = method_3_code) (hown : s.vm.findClass "com/example/kartegami/kartegami/xml/XmlWriterCanWritePinLaw" = some m.cls) (v0 : Int32) (hret : meth.sig.returnType = some .int) {fs : List Frame} (hr : ∀ (f : JFrame) (acts : List Action), f.method = m → f.locked = none → f.entered = [] → (doReturn e (T.setTop f) acts (some (.int F1_115))).1 = T.setFrames fs) : Steps p.tables e below (T.setTop (mkF m 115 #[.val (.int v0)] [])) (T.setFrames fs) := by
  show Steps p.tables e below (T.setTop (mkF m 115 #[.val (.int v0)] [])) _
  refine X.ldcInt hx hown (mvT hZ (hw _ (List.mem_of_getElem? (i := 24) rfl))) (g := (mkF m 115 #[.val (.int v0)] [])) rfl (hb hby d1_115) _ ?_
  show Steps p.tables e below (T.setTop (mkF m 117 #[.val (.int v0)] [(.int (1114112 : Int32))])) _
  rw [show F1_115 = (1114112 : Int32) from rfl] at hr
  exact retI X hx hret (hb hby d1_117) hr
def F1_109 (v0 : Int32) : Int32 := if v0 = (13 : Int32) then F1_115 else (F1_118 v0)
theorem b1_109 {p : Program} {l : Launch} {e : Env} {R : Room} {s : State} {m : MethodId} {args : Array Value} {below : List Frame} {meth : Method} {c : Code} {T : State} {locs : List Loc} {cells slots : Nat} {Z : State} {a0 : Array Value} (X : Stand p l e R s m args below meth c T locs cells slots) (hx : p.tables.exec = Jvm.exec) (hZ : Z.Warmed39 s.vm) (hw : ∀ d ∈ tables_1, d.before a0 Z = true) (hby : c.code = method_3_code) (hown : s.vm.findClass "com/example/kartegami/kartegami/xml/XmlWriterCanWritePinLaw" = some m.cls) (v0 : Int32) (hret : meth.sig.returnType = some .int) {fs : List Frame} (hr : ∀ (f : JFrame) (acts : List Action), f.method = m → f.locked = none → f.entered = [] → (doReturn e (T.setTop f) acts (some (.int (F1_109 v0)))).1 = T.setFrames fs) : Steps p.tables e below (T.setTop (mkF m 109 #[.val (.int v0)] [])) (T.setFrames fs) := by
  show Steps p.tables e below (T.setTop (mkF m 109 #[.val (.int v0)] [])) _
  refine XS.iloadN X.here hx rfl (hb hby d1_109) rfl ?_
  show Steps p.tables e below (T.setTop (mkF m 110 #[.val (.int v0)] [(.int v0)])) _
  refine XS.bipush X.here hx rfl (hb hby d1_110) ?_
  show Steps p.tables e below (T.setTop (mkF m 112 #[.val (.int v0)] [(.int (13 : Int32)), (.int v0)])) _
  by_cases hc : v0 = (13 : Int32)
  · rw [show (F1_109 v0) = F1_115 from if_pos hc] at hr
    refine XS.icmpNo X.here hx rfl (hb hby d1_112) rfl (teq hc).2 ?_
    exact b1_115 X hx hZ hw hby hown v0 hret hr
  · rw [show (F1_109 v0) = (F1_118 v0) from if_neg hc] at hr
    refine XS.icmpYes X.here hx rfl (pc0 := 112) (pc' := 118) rfl (hb hby d1_112) rfl (feq hc).2 (by decide) (by decide) ?_
    exact b1_118 X hx hZ hw hby hown v0 hret hr
def F1_106 : Int32 := (1114111 : Int32)
theorem b1_106 {p : Program} {l : Launch} {e : Env} {R : Room} {s : State} {m : MethodId} {args : Array Value} {below : List Frame} {meth : Method} {c : Code} {T : State} {locs : List Loc} {cells slots : Nat} {Z : State} {a0 : Array Value} (X : Stand p l e R s m args below meth c T locs cells slots) (hx : p.tables.exec = Jvm.exec) (hZ : Z.Warmed39 s.vm) (hw : ∀ d ∈ tables_1, d.before a0 Z = true) (hby : c.code = method_3_code) (hown : s.vm.findClass "com/example/kartegami/kartegami/xml/XmlWriterCanWritePinLaw" = some m.cls) (v0 : Int32) (hret : meth.sig.returnType = some .int) {fs : List Frame} (hr : ∀ (f : JFrame) (acts : List Action), f.method = m → f.locked = none → f.entered = [] → (doReturn e (T.setTop f) acts (some (.int F1_106))).1 = T.setFrames fs) : Steps p.tables e below (T.setTop (mkF m 106 #[.val (.int v0)] [])) (T.setFrames fs) := by
  show Steps p.tables e below (T.setTop (mkF m 106 #[.val (.int v0)] [])) _
  refine X.ldcInt hx hown (mvT hZ (hw _ (List.mem_of_getElem? (i := 13) rfl))) (g := (mkF m 106 #[.val (.int v0)] [])) rfl (hb hby d1_106) _ ?_
  show Steps p.tables e below (T.setTop (mkF m 108 #[.val (.int v0)] [(.int (1114111 : Int32))])) _
  rw [show F1_106 = (1114111 : Int32) from rfl] at hr
  exact retI X hx hret (hb hby d1_108) hr
def F1_100 (v0 : Int32) : Int32 := if v0 = (12 : Int32) then F1_106 else (F1_109 v0)
theorem b1_100 {p : Program} {l : Launch} {e : Env} {R : Room} {s : State} {m : MethodId} {args : Array Value} {below : List Frame} {meth : Method} {c : Code} {T : State} {locs : List Loc} {cells slots : Nat} {Z : State} {a0 : Array Value} (X : Stand p l e R s m args below meth c T locs cells slots) (hx : p.tables.exec = Jvm.exec) (hZ : Z.Warmed39 s.vm) (hw : ∀ d ∈ tables_1, d.before a0 Z = true) (hby : c.code = method_3_code) (hown : s.vm.findClass "com/example/kartegami/kartegami/xml/XmlWriterCanWritePinLaw" = some m.cls) (v0 : Int32) (hret : meth.sig.returnType = some .int) {fs : List Frame} (hr : ∀ (f : JFrame) (acts : List Action), f.method = m → f.locked = none → f.entered = [] → (doReturn e (T.setTop f) acts (some (.int (F1_100 v0)))).1 = T.setFrames fs) : Steps p.tables e below (T.setTop (mkF m 100 #[.val (.int v0)] [])) (T.setFrames fs) := by
  show Steps p.tables e below (T.setTop (mkF m 100 #[.val (.int v0)] [])) _
  refine XS.iloadN X.here hx rfl (hb hby d1_100) rfl ?_
  show Steps p.tables e below (T.setTop (mkF m 101 #[.val (.int v0)] [(.int v0)])) _
  refine XS.bipush X.here hx rfl (hb hby d1_101) ?_
  show Steps p.tables e below (T.setTop (mkF m 103 #[.val (.int v0)] [(.int (12 : Int32)), (.int v0)])) _
  by_cases hc : v0 = (12 : Int32)
  · rw [show (F1_100 v0) = F1_106 from if_pos hc] at hr
    refine XS.icmpNo X.here hx rfl (hb hby d1_103) rfl (teq hc).2 ?_
    exact b1_106 X hx hZ hw hby hown v0 hret hr
  · rw [show (F1_100 v0) = (F1_109 v0) from if_neg hc] at hr
    refine XS.icmpYes X.here hx rfl (pc0 := 103) (pc' := 109) rfl (hb hby d1_103) rfl (feq hc).2 (by decide) (by decide) ?_
    exact b1_109 X hx hZ hw hby hown v0 hret hr
def F1_97 : Int32 := (65536 : Int32)
theorem b1_97 {p : Program} {l : Launch} {e : Env} {R : Room} {s : State} {m : MethodId} {args : Array Value} {below : List Frame} {meth : Method} {c : Code} {T : State} {locs : List Loc} {cells slots : Nat} {Z : State} {a0 : Array Value} (X : Stand p l e R s m args below meth c T locs cells slots) (hx : p.tables.exec = Jvm.exec) (hZ : Z.Warmed39 s.vm) (hw : ∀ d ∈ tables_1, d.before a0 Z = true) (hby : c.code = method_3_code) (hown : s.vm.findClass "com/example/kartegami/kartegami/xml/XmlWriterCanWritePinLaw" = some m.cls) (v0 : Int32) (hret : meth.sig.returnType = some .int) {fs : List Frame} (hr : ∀ (f : JFrame) (acts : List Action), f.method = m → f.locked = none → f.entered = [] → (doReturn e (T.setTop f) acts (some (.int F1_97))).1 = T.setFrames fs) : Steps p.tables e below (T.setTop (mkF m 97 #[.val (.int v0)] [])) (T.setFrames fs) := by
  show Steps p.tables e below (T.setTop (mkF m 97 #[.val (.int v0)] [])) _
  refine X.ldcInt hx hown (mvT hZ (hw _ (List.mem_of_getElem? (i := 22) rfl))) (g := (mkF m 97 #[.val (.int v0)] [])) rfl (hb hby d1_97) _ ?_
  show Steps p.tables e below (T.setTop (mkF m 99 #[.val (.int v0)] [(.int (65536 : Int32))])) _
  rw [show F1_97 = (65536 : Int32) from rfl] at hr
  exact retI X hx hret (hb hby d1_99) hr
def F1_91 (v0 : Int32) : Int32 := if v0 = (11 : Int32) then F1_97 else (F1_100 v0)
theorem b1_91 {p : Program} {l : Launch} {e : Env} {R : Room} {s : State} {m : MethodId} {args : Array Value} {below : List Frame} {meth : Method} {c : Code} {T : State} {locs : List Loc} {cells slots : Nat} {Z : State} {a0 : Array Value} (X : Stand p l e R s m args below meth c T locs cells slots) (hx : p.tables.exec = Jvm.exec) (hZ : Z.Warmed39 s.vm) (hw : ∀ d ∈ tables_1, d.before a0 Z = true) (hby : c.code = method_3_code) (hown : s.vm.findClass "com/example/kartegami/kartegami/xml/XmlWriterCanWritePinLaw" = some m.cls) (v0 : Int32) (hret : meth.sig.returnType = some .int) {fs : List Frame} (hr : ∀ (f : JFrame) (acts : List Action), f.method = m → f.locked = none → f.entered = [] → (doReturn e (T.setTop f) acts (some (.int (F1_91 v0)))).1 = T.setFrames fs) : Steps p.tables e below (T.setTop (mkF m 91 #[.val (.int v0)] [])) (T.setFrames fs) := by
  show Steps p.tables e below (T.setTop (mkF m 91 #[.val (.int v0)] [])) _
  refine XS.iloadN X.here hx rfl (hb hby d1_91) rfl ?_
  show Steps p.tables e below (T.setTop (mkF m 92 #[.val (.int v0)] [(.int v0)])) _
  refine XS.bipush X.here hx rfl (hb hby d1_92) ?_
  show Steps p.tables e below (T.setTop (mkF m 94 #[.val (.int v0)] [(.int (11 : Int32)), (.int v0)])) _
  by_cases hc : v0 = (11 : Int32)
  · rw [show (F1_91 v0) = F1_97 from if_pos hc] at hr
    refine XS.icmpNo X.here hx rfl (hb hby d1_94) rfl (teq hc).2 ?_
    exact b1_97 X hx hZ hw hby hown v0 hret hr
  · rw [show (F1_91 v0) = (F1_100 v0) from if_neg hc] at hr
    refine XS.icmpYes X.here hx rfl (pc0 := 94) (pc' := 100) rfl (hb hby d1_94) rfl (feq hc).2 (by decide) (by decide) ?_
    exact b1_100 X hx hZ hw hby hown v0 hret hr
def F1_88 : Int32 := (65535 : Int32)
theorem b1_88 {p : Program} {l : Launch} {e : Env} {R : Room} {s : State} {m : MethodId} {args : Array Value} {below : List Frame} {meth : Method} {c : Code} {T : State} {locs : List Loc} {cells slots : Nat} {Z : State} {a0 : Array Value} (X : Stand p l e R s m args below meth c T locs cells slots) (hx : p.tables.exec = Jvm.exec) (hZ : Z.Warmed39 s.vm) (hw : ∀ d ∈ tables_1, d.before a0 Z = true) (hby : c.code = method_3_code) (hown : s.vm.findClass "com/example/kartegami/kartegami/xml/XmlWriterCanWritePinLaw" = some m.cls) (v0 : Int32) (hret : meth.sig.returnType = some .int) {fs : List Frame} (hr : ∀ (f : JFrame) (acts : List Action), f.method = m → f.locked = none → f.entered = [] → (doReturn e (T.setTop f) acts (some (.int F1_88))).1 = T.setFrames fs) : Steps p.tables e below (T.setTop (mkF m 88 #[.val (.int v0)] [])) (T.setFrames fs) := by
  show Steps p.tables e below (T.setTop (mkF m 88 #[.val (.int v0)] [])) _
  refine X.ldcInt hx hown (mvT hZ (hw _ (List.mem_of_getElem? (i := 20) rfl))) (g := (mkF m 88 #[.val (.int v0)] [])) rfl (hb hby d1_88) _ ?_
  show Steps p.tables e below (T.setTop (mkF m 90 #[.val (.int v0)] [(.int (65535 : Int32))])) _
  rw [show F1_88 = (65535 : Int32) from rfl] at hr
  exact retI X hx hret (hb hby d1_90) hr
def F1_82 (v0 : Int32) : Int32 := if v0 = (10 : Int32) then F1_88 else (F1_91 v0)
theorem b1_82 {p : Program} {l : Launch} {e : Env} {R : Room} {s : State} {m : MethodId} {args : Array Value} {below : List Frame} {meth : Method} {c : Code} {T : State} {locs : List Loc} {cells slots : Nat} {Z : State} {a0 : Array Value} (X : Stand p l e R s m args below meth c T locs cells slots) (hx : p.tables.exec = Jvm.exec) (hZ : Z.Warmed39 s.vm) (hw : ∀ d ∈ tables_1, d.before a0 Z = true) (hby : c.code = method_3_code) (hown : s.vm.findClass "com/example/kartegami/kartegami/xml/XmlWriterCanWritePinLaw" = some m.cls) (v0 : Int32) (hret : meth.sig.returnType = some .int) {fs : List Frame} (hr : ∀ (f : JFrame) (acts : List Action), f.method = m → f.locked = none → f.entered = [] → (doReturn e (T.setTop f) acts (some (.int (F1_82 v0)))).1 = T.setFrames fs) : Steps p.tables e below (T.setTop (mkF m 82 #[.val (.int v0)] [])) (T.setFrames fs) := by
  show Steps p.tables e below (T.setTop (mkF m 82 #[.val (.int v0)] [])) _
  refine XS.iloadN X.here hx rfl (hb hby d1_82) rfl ?_
  show Steps p.tables e below (T.setTop (mkF m 83 #[.val (.int v0)] [(.int v0)])) _
  refine XS.bipush X.here hx rfl (hb hby d1_83) ?_
  show Steps p.tables e below (T.setTop (mkF m 85 #[.val (.int v0)] [(.int (10 : Int32)), (.int v0)])) _
  by_cases hc : v0 = (10 : Int32)
  · rw [show (F1_82 v0) = F1_88 from if_pos hc] at hr
    refine XS.icmpNo X.here hx rfl (hb hby d1_85) rfl (teq hc).2 ?_
    exact b1_88 X hx hZ hw hby hown v0 hret hr
  · rw [show (F1_82 v0) = (F1_91 v0) from if_neg hc] at hr
    refine XS.icmpYes X.here hx rfl (pc0 := 85) (pc' := 91) rfl (hb hby d1_85) rfl (feq hc).2 (by decide) (by decide) ?_
    exact b1_91 X hx hZ hw hby hown v0 hret hr
def F1_79 : Int32 := (65533 : Int32)
theorem b1_79 {p : Program} {l : Launch} {e : Env} {R : Room} {s : State} {m : MethodId} {args : Array Value} {below : List Frame} {meth : Method} {c : Code} {T : State} {locs : List Loc} {cells slots : Nat} {Z : State} {a0 : Array Value} (X : Stand p l e R s m args below meth c T locs cells slots) (hx : p.tables.exec = Jvm.exec) (hZ : Z.Warmed39 s.vm) (hw : ∀ d ∈ tables_1, d.before a0 Z = true) (hby : c.code = method_3_code) (hown : s.vm.findClass "com/example/kartegami/kartegami/xml/XmlWriterCanWritePinLaw" = some m.cls) (v0 : Int32) (hret : meth.sig.returnType = some .int) {fs : List Frame} (hr : ∀ (f : JFrame) (acts : List Action), f.method = m → f.locked = none → f.entered = [] → (doReturn e (T.setTop f) acts (some (.int F1_79))).1 = T.setFrames fs) : Steps p.tables e below (T.setTop (mkF m 79 #[.val (.int v0)] [])) (T.setFrames fs) := by
  show Steps p.tables e below (T.setTop (mkF m 79 #[.val (.int v0)] [])) _
  refine X.ldcInt hx hown (mvT hZ (hw _ (List.mem_of_getElem? (i := 27) rfl))) (g := (mkF m 79 #[.val (.int v0)] [])) rfl (hb hby d1_79) _ ?_
  show Steps p.tables e below (T.setTop (mkF m 81 #[.val (.int v0)] [(.int (65533 : Int32))])) _
  rw [show F1_79 = (65533 : Int32) from rfl] at hr
  exact retI X hx hret (hb hby d1_81) hr
def F1_73 (v0 : Int32) : Int32 := if v0 = (9 : Int32) then F1_79 else (F1_82 v0)
theorem b1_73 {p : Program} {l : Launch} {e : Env} {R : Room} {s : State} {m : MethodId} {args : Array Value} {below : List Frame} {meth : Method} {c : Code} {T : State} {locs : List Loc} {cells slots : Nat} {Z : State} {a0 : Array Value} (X : Stand p l e R s m args below meth c T locs cells slots) (hx : p.tables.exec = Jvm.exec) (hZ : Z.Warmed39 s.vm) (hw : ∀ d ∈ tables_1, d.before a0 Z = true) (hby : c.code = method_3_code) (hown : s.vm.findClass "com/example/kartegami/kartegami/xml/XmlWriterCanWritePinLaw" = some m.cls) (v0 : Int32) (hret : meth.sig.returnType = some .int) {fs : List Frame} (hr : ∀ (f : JFrame) (acts : List Action), f.method = m → f.locked = none → f.entered = [] → (doReturn e (T.setTop f) acts (some (.int (F1_73 v0)))).1 = T.setFrames fs) : Steps p.tables e below (T.setTop (mkF m 73 #[.val (.int v0)] [])) (T.setFrames fs) := by
  show Steps p.tables e below (T.setTop (mkF m 73 #[.val (.int v0)] [])) _
  refine XS.iloadN X.here hx rfl (hb hby d1_73) rfl ?_
  show Steps p.tables e below (T.setTop (mkF m 74 #[.val (.int v0)] [(.int v0)])) _
  refine XS.bipush X.here hx rfl (hb hby d1_74) ?_
  show Steps p.tables e below (T.setTop (mkF m 76 #[.val (.int v0)] [(.int (9 : Int32)), (.int v0)])) _
  by_cases hc : v0 = (9 : Int32)
  · rw [show (F1_73 v0) = F1_79 from if_pos hc] at hr
    refine XS.icmpNo X.here hx rfl (hb hby d1_76) rfl (teq hc).2 ?_
    exact b1_79 X hx hZ hw hby hown v0 hret hr
  · rw [show (F1_73 v0) = (F1_82 v0) from if_neg hc] at hr
    refine XS.icmpYes X.here hx rfl (pc0 := 76) (pc' := 82) rfl (hb hby d1_76) rfl (feq hc).2 (by decide) (by decide) ?_
    exact b1_82 X hx hZ hw hby hown v0 hret hr
def F1_70 : Int32 := (57344 : Int32)
theorem b1_70 {p : Program} {l : Launch} {e : Env} {R : Room} {s : State} {m : MethodId} {args : Array Value} {below : List Frame} {meth : Method} {c : Code} {T : State} {locs : List Loc} {cells slots : Nat} {Z : State} {a0 : Array Value} (X : Stand p l e R s m args below meth c T locs cells slots) (hx : p.tables.exec = Jvm.exec) (hZ : Z.Warmed39 s.vm) (hw : ∀ d ∈ tables_1, d.before a0 Z = true) (hby : c.code = method_3_code) (hown : s.vm.findClass "com/example/kartegami/kartegami/xml/XmlWriterCanWritePinLaw" = some m.cls) (v0 : Int32) (hret : meth.sig.returnType = some .int) {fs : List Frame} (hr : ∀ (f : JFrame) (acts : List Action), f.method = m → f.locked = none → f.entered = [] → (doReturn e (T.setTop f) acts (some (.int F1_70))).1 = T.setFrames fs) : Steps p.tables e below (T.setTop (mkF m 70 #[.val (.int v0)] [])) (T.setFrames fs) := by
  show Steps p.tables e below (T.setTop (mkF m 70 #[.val (.int v0)] [])) _
  refine X.ldcInt hx hown (mvT hZ (hw _ (List.mem_of_getElem? (i := 18) rfl))) (g := (mkF m 70 #[.val (.int v0)] [])) rfl (hb hby d1_70) _ ?_
  show Steps p.tables e below (T.setTop (mkF m 72 #[.val (.int v0)] [(.int (57344 : Int32))])) _
  rw [show F1_70 = (57344 : Int32) from rfl] at hr
  exact retI X hx hret (hb hby d1_72) hr
def F1_64 (v0 : Int32) : Int32 := if v0 = (8 : Int32) then F1_70 else (F1_73 v0)
theorem b1_64 {p : Program} {l : Launch} {e : Env} {R : Room} {s : State} {m : MethodId} {args : Array Value} {below : List Frame} {meth : Method} {c : Code} {T : State} {locs : List Loc} {cells slots : Nat} {Z : State} {a0 : Array Value} (X : Stand p l e R s m args below meth c T locs cells slots) (hx : p.tables.exec = Jvm.exec) (hZ : Z.Warmed39 s.vm) (hw : ∀ d ∈ tables_1, d.before a0 Z = true) (hby : c.code = method_3_code) (hown : s.vm.findClass "com/example/kartegami/kartegami/xml/XmlWriterCanWritePinLaw" = some m.cls) (v0 : Int32) (hret : meth.sig.returnType = some .int) {fs : List Frame} (hr : ∀ (f : JFrame) (acts : List Action), f.method = m → f.locked = none → f.entered = [] → (doReturn e (T.setTop f) acts (some (.int (F1_64 v0)))).1 = T.setFrames fs) : Steps p.tables e below (T.setTop (mkF m 64 #[.val (.int v0)] [])) (T.setFrames fs) := by
  show Steps p.tables e below (T.setTop (mkF m 64 #[.val (.int v0)] [])) _
  refine XS.iloadN X.here hx rfl (hb hby d1_64) rfl ?_
  show Steps p.tables e below (T.setTop (mkF m 65 #[.val (.int v0)] [(.int v0)])) _
  refine XS.bipush X.here hx rfl (hb hby d1_65) ?_
  show Steps p.tables e below (T.setTop (mkF m 67 #[.val (.int v0)] [(.int (8 : Int32)), (.int v0)])) _
  by_cases hc : v0 = (8 : Int32)
  · rw [show (F1_64 v0) = F1_70 from if_pos hc] at hr
    refine XS.icmpNo X.here hx rfl (hb hby d1_67) rfl (teq hc).2 ?_
    exact b1_70 X hx hZ hw hby hown v0 hret hr
  · rw [show (F1_64 v0) = (F1_73 v0) from if_neg hc] at hr
    refine XS.icmpYes X.here hx rfl (pc0 := 67) (pc' := 73) rfl (hb hby d1_67) rfl (feq hc).2 (by decide) (by decide) ?_
    exact b1_73 X hx hZ hw hby hown v0 hret hr
def F1_61 : Int32 := (57343 : Int32)
theorem b1_61 {p : Program} {l : Launch} {e : Env} {R : Room} {s : State} {m : MethodId} {args : Array Value} {below : List Frame} {meth : Method} {c : Code} {T : State} {locs : List Loc} {cells slots : Nat} {Z : State} {a0 : Array Value} (X : Stand p l e R s m args below meth c T locs cells slots) (hx : p.tables.exec = Jvm.exec) (hZ : Z.Warmed39 s.vm) (hw : ∀ d ∈ tables_1, d.before a0 Z = true) (hby : c.code = method_3_code) (hown : s.vm.findClass "com/example/kartegami/kartegami/xml/XmlWriterCanWritePinLaw" = some m.cls) (v0 : Int32) (hret : meth.sig.returnType = some .int) {fs : List Frame} (hr : ∀ (f : JFrame) (acts : List Action), f.method = m → f.locked = none → f.entered = [] → (doReturn e (T.setTop f) acts (some (.int F1_61))).1 = T.setFrames fs) : Steps p.tables e below (T.setTop (mkF m 61 #[.val (.int v0)] [])) (T.setFrames fs) := by
  show Steps p.tables e below (T.setTop (mkF m 61 #[.val (.int v0)] [])) _
  refine X.ldcInt hx hown (mvT hZ (hw _ (List.mem_of_getElem? (i := 26) rfl))) (g := (mkF m 61 #[.val (.int v0)] [])) rfl (hb hby d1_61) _ ?_
  show Steps p.tables e below (T.setTop (mkF m 63 #[.val (.int v0)] [(.int (57343 : Int32))])) _
  rw [show F1_61 = (57343 : Int32) from rfl] at hr
  exact retI X hx hret (hb hby d1_63) hr
def F1_55 (v0 : Int32) : Int32 := if v0 = (7 : Int32) then F1_61 else (F1_64 v0)
theorem b1_55 {p : Program} {l : Launch} {e : Env} {R : Room} {s : State} {m : MethodId} {args : Array Value} {below : List Frame} {meth : Method} {c : Code} {T : State} {locs : List Loc} {cells slots : Nat} {Z : State} {a0 : Array Value} (X : Stand p l e R s m args below meth c T locs cells slots) (hx : p.tables.exec = Jvm.exec) (hZ : Z.Warmed39 s.vm) (hw : ∀ d ∈ tables_1, d.before a0 Z = true) (hby : c.code = method_3_code) (hown : s.vm.findClass "com/example/kartegami/kartegami/xml/XmlWriterCanWritePinLaw" = some m.cls) (v0 : Int32) (hret : meth.sig.returnType = some .int) {fs : List Frame} (hr : ∀ (f : JFrame) (acts : List Action), f.method = m → f.locked = none → f.entered = [] → (doReturn e (T.setTop f) acts (some (.int (F1_55 v0)))).1 = T.setFrames fs) : Steps p.tables e below (T.setTop (mkF m 55 #[.val (.int v0)] [])) (T.setFrames fs) := by
  show Steps p.tables e below (T.setTop (mkF m 55 #[.val (.int v0)] [])) _
  refine XS.iloadN X.here hx rfl (hb hby d1_55) rfl ?_
  show Steps p.tables e below (T.setTop (mkF m 56 #[.val (.int v0)] [(.int v0)])) _
  refine XS.bipush X.here hx rfl (hb hby d1_56) ?_
  show Steps p.tables e below (T.setTop (mkF m 58 #[.val (.int v0)] [(.int (7 : Int32)), (.int v0)])) _
  by_cases hc : v0 = (7 : Int32)
  · rw [show (F1_55 v0) = F1_61 from if_pos hc] at hr
    refine XS.icmpNo X.here hx rfl (hb hby d1_58) rfl (teq hc).2 ?_
    exact b1_61 X hx hZ hw hby hown v0 hret hr
  · rw [show (F1_55 v0) = (F1_64 v0) from if_neg hc] at hr
    refine XS.icmpYes X.here hx rfl (pc0 := 58) (pc' := 64) rfl (hb hby d1_58) rfl (feq hc).2 (by decide) (by decide) ?_
    exact b1_64 X hx hZ hw hby hown v0 hret hr
def F1_52 : Int32 := (55296 : Int32)
theorem b1_52 {p : Program} {l : Launch} {e : Env} {R : Room} {s : State} {m : MethodId} {args : Array Value} {below : List Frame} {meth : Method} {c : Code} {T : State} {locs : List Loc} {cells slots : Nat} {Z : State} {a0 : Array Value} (X : Stand p l e R s m args below meth c T locs cells slots) (hx : p.tables.exec = Jvm.exec) (hZ : Z.Warmed39 s.vm) (hw : ∀ d ∈ tables_1, d.before a0 Z = true) (hby : c.code = method_3_code) (hown : s.vm.findClass "com/example/kartegami/kartegami/xml/XmlWriterCanWritePinLaw" = some m.cls) (v0 : Int32) (hret : meth.sig.returnType = some .int) {fs : List Frame} (hr : ∀ (f : JFrame) (acts : List Action), f.method = m → f.locked = none → f.entered = [] → (doReturn e (T.setTop f) acts (some (.int F1_52))).1 = T.setFrames fs) : Steps p.tables e below (T.setTop (mkF m 52 #[.val (.int v0)] [])) (T.setFrames fs) := by
  show Steps p.tables e below (T.setTop (mkF m 52 #[.val (.int v0)] [])) _
  refine X.ldcInt hx hown (mvT hZ (hw _ (List.mem_of_getElem? (i := 17) rfl))) (g := (mkF m 52 #[.val (.int v0)] [])) rfl (hb hby d1_52) _ ?_
  show Steps p.tables e below (T.setTop (mkF m 54 #[.val (.int v0)] [(.int (55296 : Int32))])) _
  rw [show F1_52 = (55296 : Int32) from rfl] at hr
  exact retI X hx hret (hb hby d1_54) hr
def F1_46 (v0 : Int32) : Int32 := if v0 = (6 : Int32) then F1_52 else (F1_55 v0)
theorem b1_46 {p : Program} {l : Launch} {e : Env} {R : Room} {s : State} {m : MethodId} {args : Array Value} {below : List Frame} {meth : Method} {c : Code} {T : State} {locs : List Loc} {cells slots : Nat} {Z : State} {a0 : Array Value} (X : Stand p l e R s m args below meth c T locs cells slots) (hx : p.tables.exec = Jvm.exec) (hZ : Z.Warmed39 s.vm) (hw : ∀ d ∈ tables_1, d.before a0 Z = true) (hby : c.code = method_3_code) (hown : s.vm.findClass "com/example/kartegami/kartegami/xml/XmlWriterCanWritePinLaw" = some m.cls) (v0 : Int32) (hret : meth.sig.returnType = some .int) {fs : List Frame} (hr : ∀ (f : JFrame) (acts : List Action), f.method = m → f.locked = none → f.entered = [] → (doReturn e (T.setTop f) acts (some (.int (F1_46 v0)))).1 = T.setFrames fs) : Steps p.tables e below (T.setTop (mkF m 46 #[.val (.int v0)] [])) (T.setFrames fs) := by
  show Steps p.tables e below (T.setTop (mkF m 46 #[.val (.int v0)] [])) _
  refine XS.iloadN X.here hx rfl (hb hby d1_46) rfl ?_
  show Steps p.tables e below (T.setTop (mkF m 47 #[.val (.int v0)] [(.int v0)])) _
  refine XS.bipush X.here hx rfl (hb hby d1_47) ?_
  show Steps p.tables e below (T.setTop (mkF m 49 #[.val (.int v0)] [(.int (6 : Int32)), (.int v0)])) _
  by_cases hc : v0 = (6 : Int32)
  · rw [show (F1_46 v0) = F1_52 from if_pos hc] at hr
    refine XS.icmpNo X.here hx rfl (hb hby d1_49) rfl (teq hc).2 ?_
    exact b1_52 X hx hZ hw hby hown v0 hret hr
  · rw [show (F1_46 v0) = (F1_55 v0) from if_neg hc] at hr
    refine XS.icmpYes X.here hx rfl (pc0 := 49) (pc' := 55) rfl (hb hby d1_49) rfl (feq hc).2 (by decide) (by decide) ?_
    exact b1_55 X hx hZ hw hby hown v0 hret hr
def F1_43 : Int32 := (55295 : Int32)
theorem b1_43 {p : Program} {l : Launch} {e : Env} {R : Room} {s : State} {m : MethodId} {args : Array Value} {below : List Frame} {meth : Method} {c : Code} {T : State} {locs : List Loc} {cells slots : Nat} {Z : State} {a0 : Array Value} (X : Stand p l e R s m args below meth c T locs cells slots) (hx : p.tables.exec = Jvm.exec) (hZ : Z.Warmed39 s.vm) (hw : ∀ d ∈ tables_1, d.before a0 Z = true) (hby : c.code = method_3_code) (hown : s.vm.findClass "com/example/kartegami/kartegami/xml/XmlWriterCanWritePinLaw" = some m.cls) (v0 : Int32) (hret : meth.sig.returnType = some .int) {fs : List Frame} (hr : ∀ (f : JFrame) (acts : List Action), f.method = m → f.locked = none → f.entered = [] → (doReturn e (T.setTop f) acts (some (.int F1_43))).1 = T.setFrames fs) : Steps p.tables e below (T.setTop (mkF m 43 #[.val (.int v0)] [])) (T.setFrames fs) := by
  show Steps p.tables e below (T.setTop (mkF m 43 #[.val (.int v0)] [])) _
  refine X.ldcInt hx hown (mvT hZ (hw _ (List.mem_of_getElem? (i := 23) rfl))) (g := (mkF m 43 #[.val (.int v0)] [])) rfl (hb hby d1_43) _ ?_
  show Steps p.tables e below (T.setTop (mkF m 45 #[.val (.int v0)] [(.int (55295 : Int32))])) _
  rw [show F1_43 = (55295 : Int32) from rfl] at hr
  exact retI X hx hret (hb hby d1_45) hr
def F1_38 (v0 : Int32) : Int32 := if v0 = (5 : Int32) then F1_43 else (F1_46 v0)
theorem b1_38 {p : Program} {l : Launch} {e : Env} {R : Room} {s : State} {m : MethodId} {args : Array Value} {below : List Frame} {meth : Method} {c : Code} {T : State} {locs : List Loc} {cells slots : Nat} {Z : State} {a0 : Array Value} (X : Stand p l e R s m args below meth c T locs cells slots) (hx : p.tables.exec = Jvm.exec) (hZ : Z.Warmed39 s.vm) (hw : ∀ d ∈ tables_1, d.before a0 Z = true) (hby : c.code = method_3_code) (hown : s.vm.findClass "com/example/kartegami/kartegami/xml/XmlWriterCanWritePinLaw" = some m.cls) (v0 : Int32) (hret : meth.sig.returnType = some .int) {fs : List Frame} (hr : ∀ (f : JFrame) (acts : List Action), f.method = m → f.locked = none → f.entered = [] → (doReturn e (T.setTop f) acts (some (.int (F1_38 v0)))).1 = T.setFrames fs) : Steps p.tables e below (T.setTop (mkF m 38 #[.val (.int v0)] [])) (T.setFrames fs) := by
  show Steps p.tables e below (T.setTop (mkF m 38 #[.val (.int v0)] [])) _
  refine XS.iloadN X.here hx rfl (hb hby d1_38) rfl ?_
  show Steps p.tables e below (T.setTop (mkF m 39 #[.val (.int v0)] [(.int v0)])) _
  refine XS.iconst X.here hx rfl (hb hby d1_39) ?_
  show Steps p.tables e below (T.setTop (mkF m 40 #[.val (.int v0)] [(.int (5 : Int32)), (.int v0)])) _
  by_cases hc : v0 = (5 : Int32)
  · rw [show (F1_38 v0) = F1_43 from if_pos hc] at hr
    refine XS.icmpNo X.here hx rfl (hb hby d1_40) rfl (teq hc).2 ?_
    exact b1_43 X hx hZ hw hby hown v0 hret hr
  · rw [show (F1_38 v0) = (F1_46 v0) from if_neg hc] at hr
    refine XS.icmpYes X.here hx rfl (pc0 := 40) (pc' := 46) rfl (hb hby d1_40) rfl (feq hc).2 (by decide) (by decide) ?_
    exact b1_46 X hx hZ hw hby hown v0 hret hr
def F1_35 : Int32 := (32 : Int32)
theorem b1_35 {p : Program} {l : Launch} {e : Env} {R : Room} {s : State} {m : MethodId} {args : Array Value} {below : List Frame} {meth : Method} {c : Code} {T : State} {locs : List Loc} {cells slots : Nat} {Z : State} {a0 : Array Value} (X : Stand p l e R s m args below meth c T locs cells slots) (hx : p.tables.exec = Jvm.exec) (hZ : Z.Warmed39 s.vm) (hw : ∀ d ∈ tables_1, d.before a0 Z = true) (hby : c.code = method_3_code) (hown : s.vm.findClass "com/example/kartegami/kartegami/xml/XmlWriterCanWritePinLaw" = some m.cls) (v0 : Int32) (hret : meth.sig.returnType = some .int) {fs : List Frame} (hr : ∀ (f : JFrame) (acts : List Action), f.method = m → f.locked = none → f.entered = [] → (doReturn e (T.setTop f) acts (some (.int F1_35))).1 = T.setFrames fs) : Steps p.tables e below (T.setTop (mkF m 35 #[.val (.int v0)] [])) (T.setFrames fs) := by
  show Steps p.tables e below (T.setTop (mkF m 35 #[.val (.int v0)] [])) _
  refine XS.bipush X.here hx rfl (hb hby d1_35) ?_
  show Steps p.tables e below (T.setTop (mkF m 37 #[.val (.int v0)] [(.int (32 : Int32))])) _
  rw [show F1_35 = (32 : Int32) from rfl] at hr
  exact retI X hx hret (hb hby d1_37) hr
def F1_30 (v0 : Int32) : Int32 := if v0 = (4 : Int32) then F1_35 else (F1_38 v0)
theorem b1_30 {p : Program} {l : Launch} {e : Env} {R : Room} {s : State} {m : MethodId} {args : Array Value} {below : List Frame} {meth : Method} {c : Code} {T : State} {locs : List Loc} {cells slots : Nat} {Z : State} {a0 : Array Value} (X : Stand p l e R s m args below meth c T locs cells slots) (hx : p.tables.exec = Jvm.exec) (hZ : Z.Warmed39 s.vm) (hw : ∀ d ∈ tables_1, d.before a0 Z = true) (hby : c.code = method_3_code) (hown : s.vm.findClass "com/example/kartegami/kartegami/xml/XmlWriterCanWritePinLaw" = some m.cls) (v0 : Int32) (hret : meth.sig.returnType = some .int) {fs : List Frame} (hr : ∀ (f : JFrame) (acts : List Action), f.method = m → f.locked = none → f.entered = [] → (doReturn e (T.setTop f) acts (some (.int (F1_30 v0)))).1 = T.setFrames fs) : Steps p.tables e below (T.setTop (mkF m 30 #[.val (.int v0)] [])) (T.setFrames fs) := by
  show Steps p.tables e below (T.setTop (mkF m 30 #[.val (.int v0)] [])) _
  refine XS.iloadN X.here hx rfl (hb hby d1_30) rfl ?_
  show Steps p.tables e below (T.setTop (mkF m 31 #[.val (.int v0)] [(.int v0)])) _
  refine XS.iconst X.here hx rfl (hb hby d1_31) ?_
  show Steps p.tables e below (T.setTop (mkF m 32 #[.val (.int v0)] [(.int (4 : Int32)), (.int v0)])) _
  by_cases hc : v0 = (4 : Int32)
  · rw [show (F1_30 v0) = F1_35 from if_pos hc] at hr
    refine XS.icmpNo X.here hx rfl (hb hby d1_32) rfl (teq hc).2 ?_
    exact b1_35 X hx hZ hw hby hown v0 hret hr
  · rw [show (F1_30 v0) = (F1_38 v0) from if_neg hc] at hr
    refine XS.icmpYes X.here hx rfl (pc0 := 32) (pc' := 38) rfl (hb hby d1_32) rfl (feq hc).2 (by decide) (by decide) ?_
    exact b1_38 X hx hZ hw hby hown v0 hret hr
def F1_27 : Int32 := (13 : Int32)
theorem b1_27 {p : Program} {l : Launch} {e : Env} {R : Room} {s : State} {m : MethodId} {args : Array Value} {below : List Frame} {meth : Method} {c : Code} {T : State} {locs : List Loc} {cells slots : Nat} {Z : State} {a0 : Array Value} (X : Stand p l e R s m args below meth c T locs cells slots) (hx : p.tables.exec = Jvm.exec) (hZ : Z.Warmed39 s.vm) (hw : ∀ d ∈ tables_1, d.before a0 Z = true) (hby : c.code = method_3_code) (hown : s.vm.findClass "com/example/kartegami/kartegami/xml/XmlWriterCanWritePinLaw" = some m.cls) (v0 : Int32) (hret : meth.sig.returnType = some .int) {fs : List Frame} (hr : ∀ (f : JFrame) (acts : List Action), f.method = m → f.locked = none → f.entered = [] → (doReturn e (T.setTop f) acts (some (.int F1_27))).1 = T.setFrames fs) : Steps p.tables e below (T.setTop (mkF m 27 #[.val (.int v0)] [])) (T.setFrames fs) := by
  show Steps p.tables e below (T.setTop (mkF m 27 #[.val (.int v0)] [])) _
  refine XS.bipush X.here hx rfl (hb hby d1_27) ?_
  show Steps p.tables e below (T.setTop (mkF m 29 #[.val (.int v0)] [(.int (13 : Int32))])) _
  rw [show F1_27 = (13 : Int32) from rfl] at hr
  exact retI X hx hret (hb hby d1_29) hr
def F1_22 (v0 : Int32) : Int32 := if v0 = (3 : Int32) then F1_27 else (F1_30 v0)
theorem b1_22 {p : Program} {l : Launch} {e : Env} {R : Room} {s : State} {m : MethodId} {args : Array Value} {below : List Frame} {meth : Method} {c : Code} {T : State} {locs : List Loc} {cells slots : Nat} {Z : State} {a0 : Array Value} (X : Stand p l e R s m args below meth c T locs cells slots) (hx : p.tables.exec = Jvm.exec) (hZ : Z.Warmed39 s.vm) (hw : ∀ d ∈ tables_1, d.before a0 Z = true) (hby : c.code = method_3_code) (hown : s.vm.findClass "com/example/kartegami/kartegami/xml/XmlWriterCanWritePinLaw" = some m.cls) (v0 : Int32) (hret : meth.sig.returnType = some .int) {fs : List Frame} (hr : ∀ (f : JFrame) (acts : List Action), f.method = m → f.locked = none → f.entered = [] → (doReturn e (T.setTop f) acts (some (.int (F1_22 v0)))).1 = T.setFrames fs) : Steps p.tables e below (T.setTop (mkF m 22 #[.val (.int v0)] [])) (T.setFrames fs) := by
  show Steps p.tables e below (T.setTop (mkF m 22 #[.val (.int v0)] [])) _
  refine XS.iloadN X.here hx rfl (hb hby d1_22) rfl ?_
  show Steps p.tables e below (T.setTop (mkF m 23 #[.val (.int v0)] [(.int v0)])) _
  refine XS.iconst X.here hx rfl (hb hby d1_23) ?_
  show Steps p.tables e below (T.setTop (mkF m 24 #[.val (.int v0)] [(.int (3 : Int32)), (.int v0)])) _
  by_cases hc : v0 = (3 : Int32)
  · rw [show (F1_22 v0) = F1_27 from if_pos hc] at hr
    refine XS.icmpNo X.here hx rfl (hb hby d1_24) rfl (teq hc).2 ?_
    exact b1_27 X hx hZ hw hby hown v0 hret hr
  · rw [show (F1_22 v0) = (F1_30 v0) from if_neg hc] at hr
    refine XS.icmpYes X.here hx rfl (pc0 := 24) (pc' := 30) rfl (hb hby d1_24) rfl (feq hc).2 (by decide) (by decide) ?_
    exact b1_30 X hx hZ hw hby hown v0 hret hr
def F1_19 : Int32 := (10 : Int32)
theorem b1_19 {p : Program} {l : Launch} {e : Env} {R : Room} {s : State} {m : MethodId} {args : Array Value} {below : List Frame} {meth : Method} {c : Code} {T : State} {locs : List Loc} {cells slots : Nat} {Z : State} {a0 : Array Value} (X : Stand p l e R s m args below meth c T locs cells slots) (hx : p.tables.exec = Jvm.exec) (hZ : Z.Warmed39 s.vm) (hw : ∀ d ∈ tables_1, d.before a0 Z = true) (hby : c.code = method_3_code) (hown : s.vm.findClass "com/example/kartegami/kartegami/xml/XmlWriterCanWritePinLaw" = some m.cls) (v0 : Int32) (hret : meth.sig.returnType = some .int) {fs : List Frame} (hr : ∀ (f : JFrame) (acts : List Action), f.method = m → f.locked = none → f.entered = [] → (doReturn e (T.setTop f) acts (some (.int F1_19))).1 = T.setFrames fs) : Steps p.tables e below (T.setTop (mkF m 19 #[.val (.int v0)] [])) (T.setFrames fs) := by
  show Steps p.tables e below (T.setTop (mkF m 19 #[.val (.int v0)] [])) _
  refine XS.bipush X.here hx rfl (hb hby d1_19) ?_
  show Steps p.tables e below (T.setTop (mkF m 21 #[.val (.int v0)] [(.int (10 : Int32))])) _
  rw [show F1_19 = (10 : Int32) from rfl] at hr
  exact retI X hx hret (hb hby d1_21) hr
def F1_14 (v0 : Int32) : Int32 := if v0 = (2 : Int32) then F1_19 else (F1_22 v0)
theorem b1_14 {p : Program} {l : Launch} {e : Env} {R : Room} {s : State} {m : MethodId} {args : Array Value} {below : List Frame} {meth : Method} {c : Code} {T : State} {locs : List Loc} {cells slots : Nat} {Z : State} {a0 : Array Value} (X : Stand p l e R s m args below meth c T locs cells slots) (hx : p.tables.exec = Jvm.exec) (hZ : Z.Warmed39 s.vm) (hw : ∀ d ∈ tables_1, d.before a0 Z = true) (hby : c.code = method_3_code) (hown : s.vm.findClass "com/example/kartegami/kartegami/xml/XmlWriterCanWritePinLaw" = some m.cls) (v0 : Int32) (hret : meth.sig.returnType = some .int) {fs : List Frame} (hr : ∀ (f : JFrame) (acts : List Action), f.method = m → f.locked = none → f.entered = [] → (doReturn e (T.setTop f) acts (some (.int (F1_14 v0)))).1 = T.setFrames fs) : Steps p.tables e below (T.setTop (mkF m 14 #[.val (.int v0)] [])) (T.setFrames fs) := by
  show Steps p.tables e below (T.setTop (mkF m 14 #[.val (.int v0)] [])) _
  refine XS.iloadN X.here hx rfl (hb hby d1_14) rfl ?_
  show Steps p.tables e below (T.setTop (mkF m 15 #[.val (.int v0)] [(.int v0)])) _
  refine XS.iconst X.here hx rfl (hb hby d1_15) ?_
  show Steps p.tables e below (T.setTop (mkF m 16 #[.val (.int v0)] [(.int (2 : Int32)), (.int v0)])) _
  by_cases hc : v0 = (2 : Int32)
  · rw [show (F1_14 v0) = F1_19 from if_pos hc] at hr
    refine XS.icmpNo X.here hx rfl (hb hby d1_16) rfl (teq hc).2 ?_
    exact b1_19 X hx hZ hw hby hown v0 hret hr
  · rw [show (F1_14 v0) = (F1_22 v0) from if_neg hc] at hr
    refine XS.icmpYes X.here hx rfl (pc0 := 16) (pc' := 22) rfl (hb hby d1_16) rfl (feq hc).2 (by decide) (by decide) ?_
    exact b1_22 X hx hZ hw hby hown v0 hret hr
def F1_11 : Int32 := (9 : Int32)
theorem b1_11 {p : Program} {l : Launch} {e : Env} {R : Room} {s : State} {m : MethodId} {args : Array Value} {below : List Frame} {meth : Method} {c : Code} {T : State} {locs : List Loc} {cells slots : Nat} {Z : State} {a0 : Array Value} (X : Stand p l e R s m args below meth c T locs cells slots) (hx : p.tables.exec = Jvm.exec) (hZ : Z.Warmed39 s.vm) (hw : ∀ d ∈ tables_1, d.before a0 Z = true) (hby : c.code = method_3_code) (hown : s.vm.findClass "com/example/kartegami/kartegami/xml/XmlWriterCanWritePinLaw" = some m.cls) (v0 : Int32) (hret : meth.sig.returnType = some .int) {fs : List Frame} (hr : ∀ (f : JFrame) (acts : List Action), f.method = m → f.locked = none → f.entered = [] → (doReturn e (T.setTop f) acts (some (.int F1_11))).1 = T.setFrames fs) : Steps p.tables e below (T.setTop (mkF m 11 #[.val (.int v0)] [])) (T.setFrames fs) := by
  show Steps p.tables e below (T.setTop (mkF m 11 #[.val (.int v0)] [])) _
  refine XS.bipush X.here hx rfl (hb hby d1_11) ?_
  show Steps p.tables e below (T.setTop (mkF m 13 #[.val (.int v0)] [(.int (9 : Int32))])) _
  rw [show F1_11 = (9 : Int32) from rfl] at hr
  exact retI X hx hret (hb hby d1_13) hr
def F1_6 (v0 : Int32) : Int32 := if v0 = (1 : Int32) then F1_11 else (F1_14 v0)
theorem b1_6 {p : Program} {l : Launch} {e : Env} {R : Room} {s : State} {m : MethodId} {args : Array Value} {below : List Frame} {meth : Method} {c : Code} {T : State} {locs : List Loc} {cells slots : Nat} {Z : State} {a0 : Array Value} (X : Stand p l e R s m args below meth c T locs cells slots) (hx : p.tables.exec = Jvm.exec) (hZ : Z.Warmed39 s.vm) (hw : ∀ d ∈ tables_1, d.before a0 Z = true) (hby : c.code = method_3_code) (hown : s.vm.findClass "com/example/kartegami/kartegami/xml/XmlWriterCanWritePinLaw" = some m.cls) (v0 : Int32) (hret : meth.sig.returnType = some .int) {fs : List Frame} (hr : ∀ (f : JFrame) (acts : List Action), f.method = m → f.locked = none → f.entered = [] → (doReturn e (T.setTop f) acts (some (.int (F1_6 v0)))).1 = T.setFrames fs) : Steps p.tables e below (T.setTop (mkF m 6 #[.val (.int v0)] [])) (T.setFrames fs) := by
  show Steps p.tables e below (T.setTop (mkF m 6 #[.val (.int v0)] [])) _
  refine XS.iloadN X.here hx rfl (hb hby d1_6) rfl ?_
  show Steps p.tables e below (T.setTop (mkF m 7 #[.val (.int v0)] [(.int v0)])) _
  refine XS.iconst X.here hx rfl (hb hby d1_7) ?_
  show Steps p.tables e below (T.setTop (mkF m 8 #[.val (.int v0)] [(.int (1 : Int32)), (.int v0)])) _
  by_cases hc : v0 = (1 : Int32)
  · rw [show (F1_6 v0) = F1_11 from if_pos hc] at hr
    refine XS.icmpNo X.here hx rfl (hb hby d1_8) rfl (teq hc).2 ?_
    exact b1_11 X hx hZ hw hby hown v0 hret hr
  · rw [show (F1_6 v0) = (F1_14 v0) from if_neg hc] at hr
    refine XS.icmpYes X.here hx rfl (pc0 := 8) (pc' := 14) rfl (hb hby d1_8) rfl (feq hc).2 (by decide) (by decide) ?_
    exact b1_14 X hx hZ hw hby hown v0 hret hr
def F1_4 : Int32 := (0 : Int32)
theorem b1_4 {p : Program} {l : Launch} {e : Env} {R : Room} {s : State} {m : MethodId} {args : Array Value} {below : List Frame} {meth : Method} {c : Code} {T : State} {locs : List Loc} {cells slots : Nat} {Z : State} {a0 : Array Value} (X : Stand p l e R s m args below meth c T locs cells slots) (hx : p.tables.exec = Jvm.exec) (hZ : Z.Warmed39 s.vm) (hw : ∀ d ∈ tables_1, d.before a0 Z = true) (hby : c.code = method_3_code) (hown : s.vm.findClass "com/example/kartegami/kartegami/xml/XmlWriterCanWritePinLaw" = some m.cls) (v0 : Int32) (hret : meth.sig.returnType = some .int) {fs : List Frame} (hr : ∀ (f : JFrame) (acts : List Action), f.method = m → f.locked = none → f.entered = [] → (doReturn e (T.setTop f) acts (some (.int F1_4))).1 = T.setFrames fs) : Steps p.tables e below (T.setTop (mkF m 4 #[.val (.int v0)] [])) (T.setFrames fs) := by
  show Steps p.tables e below (T.setTop (mkF m 4 #[.val (.int v0)] [])) _
  refine XS.iconst X.here hx rfl (hb hby d1_4) ?_
  show Steps p.tables e below (T.setTop (mkF m 5 #[.val (.int v0)] [(.int (0 : Int32))])) _
  rw [show F1_4 = (0 : Int32) from rfl] at hr
  exact retI X hx hret (hb hby d1_5) hr
def F1_0 (v0 : Int32) : Int32 := if v0 = (0 : Int32) then F1_4 else (F1_6 v0)
theorem b1_0 {p : Program} {l : Launch} {e : Env} {R : Room} {s : State} {m : MethodId} {args : Array Value} {below : List Frame} {meth : Method} {c : Code} {T : State} {locs : List Loc} {cells slots : Nat} {Z : State} {a0 : Array Value} (X : Stand p l e R s m args below meth c T locs cells slots) (hx : p.tables.exec = Jvm.exec) (hZ : Z.Warmed39 s.vm) (hw : ∀ d ∈ tables_1, d.before a0 Z = true) (hby : c.code = method_3_code) (hown : s.vm.findClass "com/example/kartegami/kartegami/xml/XmlWriterCanWritePinLaw" = some m.cls) (v0 : Int32) (hret : meth.sig.returnType = some .int) {fs : List Frame} (hr : ∀ (f : JFrame) (acts : List Action), f.method = m → f.locked = none → f.entered = [] → (doReturn e (T.setTop f) acts (some (.int (F1_0 v0)))).1 = T.setFrames fs) : Steps p.tables e below (T.setTop (mkF m 0 #[.val (.int v0)] [])) (T.setFrames fs) := by
  show Steps p.tables e below (T.setTop (mkF m 0 #[.val (.int v0)] [])) _
  refine XS.iloadN X.here hx rfl (hb hby d1_0) rfl ?_
  show Steps p.tables e below (T.setTop (mkF m 1 #[.val (.int v0)] [(.int v0)])) _
  by_cases hc : v0 = (0 : Int32)
  · rw [show (F1_0 v0) = F1_4 from if_pos hc] at hr
    refine XS.ifNo X.here hx rfl (hb hby d1_1) rfl ((if0 _ _).trans (teq hc).2) ?_
    exact b1_4 X hx hZ hw hby hown v0 hret hr
  · rw [show (F1_0 v0) = (F1_6 v0) from if_neg hc] at hr
    refine XS.ifYes X.here hx rfl (pc0 := 1) (pc' := 6) rfl (hb hby d1_1) rfl ((if0 _ _).trans (feq hc).2) (by decide) (by decide) ?_
    exact b1_6 X hx hZ hw hby hown v0 hret hr
theorem pn_1 : plainName "com/example/kartegami/kartegami/xml/XmlWriterCanWritePinLaw" = true := by first | (simp [plainName, overriddenIn]; done) | decide +kernel
theorem ef_1 (m : MethodId) (p0 : Int32) : entryFrame m #[(.int p0)] 1 = mkF m 0 #[.val (.int p0)] [] := by first | (simp [entryFrame, mkF, argsToLocals, Value.category]; done) | rfl
def Q_rm1 (Z : State) (p0 : Int32) (h0 : Heap) (n0 : Nat) (v : Option Value) (h : Heap) (L : List Loc) : Prop := (v = some (.int (F1_0 p0)) ∧ Fr n0 L ∧ h = h0)
set_option maxRecDepth 65536 in
set_option maxHeartbeats 40000000 in
theorem rm1 (l : Launch) (Z : State) (a0 : Array Value) (hw : ∀ d ∈ tables_1, d.before a0 Z = true) (ws : List Jvm.Cond) (p0 : Int32) (h0 : Heap) (n0 : Nat) (Z0 : n0 ≤ h0.size) :
    MetFree l (⟨"com/example/kartegami/kartegami/xml/XmlWriterCanWritePinLaw", "boundary", "(I)I"⟩ : MethodName) (head1 (Jvm.Cond.code (⟨"com/example/kartegami/kartegami/xml/XmlWriterCanWritePinLaw", "boundary", "(I)I"⟩ : MethodName) method_3_code 1 (some .int) :: ws) ({ frames := 0, cells := 0, slots := 0, locals := 0 } : Room)) (fun a U => a = #[(.int p0)] ∧ Z.Warmed39 U.vm ∧ U.heap = h0) (fun _ _ _ _ _ => True) (fun _ U o U' => ∃ v L, o = .returned v ∧ Q_rm1 Z p0 h0 n0 v U'.heap L ∧ FrameEnd U o U' L ({ frames := 0, cells := 0, slots := 0, locals := 0 } : Room).cells ({ frames := 0, cells := 0, slots := 0, locals := 0 } : Room).slots) := by
  refine MetFree.of_bodySF (plainFor_of_name pn_1) hisR ?_
  intro p e s m args below meth c s₁ Bd hml0 hP hK
  obtain ⟨rfl, hZ, hh⟩ := hP
  have hx := Bd.exec
  have hby := Bd.bytes
  have hml : c.maxLocals = 1 := hml0
  have hown : s.vm.findClass "com/example/kartegami/kartegami/xml/XmlWriterCanWritePinLaw" = some m.cls := findClass_of_methodNamed Bd.named
  have hnm := (name_of_methodNamed Bd.named Bd.method).1
  have X0 : Stand p l e ({ frames := 0, cells := 0, slots := 0, locals := 0 } : Room) s m #[(.int p0)] below meth c s₁ [] 0 0 := Stand.of_body Bd
  have e0 : s₁.heap = h0 := by rw [← hh, Bd.state]; rfl
  have N0 := Fr.nil n0
  have pre0 : ∀ t, Steps p.tables e below (s₁.setTop (mkF m 0 #[.val (.int p0)] [])) t → Steps p.tables e below (s₁.setTop (entryFrame m #[(.int p0)] 1)) t := fun t k => castTop (ef_1 m p0) k
  obtain ⟨fs, hr, hrun, hended, hW, hsame⟩ := X0.leave (v := some (.int (F1_0 p0))) (fun h => by rw [Bd.returns] at h; cases h)
  refine ⟨_, _, pre0 _ ?_, hrun, hended, _, _, rfl, ⟨rfl, N0, e0⟩, ⟨_, rfl⟩, hW, hsame.mono (by decide) (by decide)⟩
  exact b1_0 X0 hx hZ hw hby hown p0 Bd.returns hr
theorem d2_0 : decode prog_197_method_27_code 0 = .ok (.iload_n 0, 1) := by decide +kernel
theorem d2_1 : decode prog_197_method_27_code 1 = .ok (.bipush 9, 2) := by decide +kernel
theorem d2_3 : decode prog_197_method_27_code 3 = .ok (.if_icmp .eq 56, 3) := by decide +kernel
theorem d2_6 : decode prog_197_method_27_code 6 = .ok (.iload_n 0, 1) := by decide +kernel
theorem d2_7 : decode prog_197_method_27_code 7 = .ok (.bipush 10, 2) := by decide +kernel
theorem d2_9 : decode prog_197_method_27_code 9 = .ok (.if_icmp .eq 50, 3) := by decide +kernel
theorem d2_12 : decode prog_197_method_27_code 12 = .ok (.iload_n 0, 1) := by decide +kernel
theorem d2_13 : decode prog_197_method_27_code 13 = .ok (.bipush 13, 2) := by decide +kernel
theorem d2_15 : decode prog_197_method_27_code 15 = .ok (.if_icmp .eq 44, 3) := by decide +kernel
theorem d2_18 : decode prog_197_method_27_code 18 = .ok (.iload_n 0, 1) := by decide +kernel
theorem d2_19 : decode prog_197_method_27_code 19 = .ok (.bipush 32, 2) := by decide +kernel
theorem d2_21 : decode prog_197_method_27_code 21 = .ok (.if_icmp .lt 10, 3) := by decide +kernel
theorem d2_24 : decode prog_197_method_27_code 24 = .ok (.iload_n 0, 1) := by decide +kernel
theorem d2_25 : decode prog_197_method_27_code 25 = .ok (.ldc_w 441, 3) := by decide +kernel
theorem d2_28 : decode prog_197_method_27_code 28 = .ok (.if_icmp .le 31, 3) := by decide +kernel
theorem d2_31 : decode prog_197_method_27_code 31 = .ok (.iload_n 0, 1) := by decide +kernel
theorem d2_32 : decode prog_197_method_27_code 32 = .ok (.ldc_w 442, 3) := by decide +kernel
theorem d2_35 : decode prog_197_method_27_code 35 = .ok (.if_icmp .lt 10, 3) := by decide +kernel
theorem d2_38 : decode prog_197_method_27_code 38 = .ok (.iload_n 0, 1) := by decide +kernel
theorem d2_39 : decode prog_197_method_27_code 39 = .ok (.ldc_w 443, 3) := by decide +kernel
theorem d2_42 : decode prog_197_method_27_code 42 = .ok (.if_icmp .le 17, 3) := by decide +kernel
theorem d2_45 : decode prog_197_method_27_code 45 = .ok (.iload_n 0, 1) := by decide +kernel
theorem d2_46 : decode prog_197_method_27_code 46 = .ok (.ldc_w 444, 3) := by decide +kernel
theorem d2_49 : decode prog_197_method_27_code 49 = .ok (.if_icmp .lt 14, 3) := by decide +kernel
theorem d2_52 : decode prog_197_method_27_code 52 = .ok (.iload_n 0, 1) := by decide +kernel
theorem d2_53 : decode prog_197_method_27_code 53 = .ok (.ldc_w 445, 3) := by decide +kernel
theorem d2_56 : decode prog_197_method_27_code 56 = .ok (.if_icmp .gt 7, 3) := by decide +kernel
theorem d2_59 : decode prog_197_method_27_code 59 = .ok (.iconst 1, 1) := by decide +kernel
theorem d2_60 : decode prog_197_method_27_code 60 = .ok (.goto 4, 3) := by decide +kernel
theorem d2_63 : decode prog_197_method_27_code 63 = .ok (.iconst 0, 1) := by decide +kernel
theorem d2_64 : decode prog_197_method_27_code 64 = .ok (.ireturn, 1) := by decide +kernel
def F2_59 : Int32 := (1 : Int32)
theorem b2_59 {p : Program} {l : Launch} {e : Env} {R : Room} {s : State} {m : MethodId} {args : Array Value} {below : List Frame} {meth : Method} {c : Code} {T : State} {locs : List Loc} {cells slots : Nat} {Z : State} {a0 : Array Value} (X : Stand p l e R s m args below meth c T locs cells slots) (hx : p.tables.exec = Jvm.exec) (hZ : Z.Warmed39 s.vm) (hw : ∀ d ∈ tables_1, d.before a0 Z = true) (hby : c.code = prog_197_method_27_code) (hown : s.vm.findClass "com/example/kartegami/kartegami/xml/XmlWriter" = some m.cls) (v0 : Int32) (hret : meth.sig.returnType = some .boolean) {fs : List Frame} (hr : ∀ (f : JFrame) (acts : List Action), f.method = m → f.locked = none → f.entered = [] → (doReturn e (T.setTop f) acts (some (.int F2_59))).1 = T.setFrames fs) : Steps p.tables e below (T.setTop (mkF m 59 #[.val (.int v0)] [])) (T.setFrames fs) := by
  show Steps p.tables e below (T.setTop (mkF m 59 #[.val (.int v0)] [])) _
  refine XS.iconst X.here hx rfl (hb hby d2_59) ?_
  show Steps p.tables e below (T.setTop (mkF m 60 #[.val (.int v0)] [(.int (1 : Int32))])) _
  refine XS.goto X.here hx rfl (pc0 := 60) (pc' := 64) rfl (hb hby d2_60) (by decide) (by decide) ?_
  show Steps p.tables e below (T.setTop (mkF m 64 #[.val (.int v0)] [(.int (1 : Int32))])) _
  rw [show F2_59 = nar .boolean (1 : Int32) from rfl] at hr
  exact retN X hx (t := .boolean) hret (by simp) (hb hby d2_64) hr
def F2_63 : Int32 := (0 : Int32)
theorem b2_63 {p : Program} {l : Launch} {e : Env} {R : Room} {s : State} {m : MethodId} {args : Array Value} {below : List Frame} {meth : Method} {c : Code} {T : State} {locs : List Loc} {cells slots : Nat} {Z : State} {a0 : Array Value} (X : Stand p l e R s m args below meth c T locs cells slots) (hx : p.tables.exec = Jvm.exec) (hZ : Z.Warmed39 s.vm) (hw : ∀ d ∈ tables_1, d.before a0 Z = true) (hby : c.code = prog_197_method_27_code) (hown : s.vm.findClass "com/example/kartegami/kartegami/xml/XmlWriter" = some m.cls) (v0 : Int32) (hret : meth.sig.returnType = some .boolean) {fs : List Frame} (hr : ∀ (f : JFrame) (acts : List Action), f.method = m → f.locked = none → f.entered = [] → (doReturn e (T.setTop f) acts (some (.int F2_63))).1 = T.setFrames fs) : Steps p.tables e below (T.setTop (mkF m 63 #[.val (.int v0)] [])) (T.setFrames fs) := by
  show Steps p.tables e below (T.setTop (mkF m 63 #[.val (.int v0)] [])) _
  refine XS.iconst X.here hx rfl (hb hby d2_63) ?_
  show Steps p.tables e below (T.setTop (mkF m 64 #[.val (.int v0)] [(.int (0 : Int32))])) _
  rw [show F2_63 = nar .boolean (0 : Int32) from rfl] at hr
  exact retN X hx (t := .boolean) hret (by simp) (hb hby d2_64) hr
def F2_52 (v0 : Int32) : Int32 := if (1114111 : Int32) < v0 then F2_63 else F2_59
theorem b2_52 {p : Program} {l : Launch} {e : Env} {R : Room} {s : State} {m : MethodId} {args : Array Value} {below : List Frame} {meth : Method} {c : Code} {T : State} {locs : List Loc} {cells slots : Nat} {Z : State} {a0 : Array Value} (X : Stand p l e R s m args below meth c T locs cells slots) (hx : p.tables.exec = Jvm.exec) (hZ : Z.Warmed39 s.vm) (hw : ∀ d ∈ tables_1, d.before a0 Z = true) (hby : c.code = prog_197_method_27_code) (hown : s.vm.findClass "com/example/kartegami/kartegami/xml/XmlWriter" = some m.cls) (v0 : Int32) (hret : meth.sig.returnType = some .boolean) {fs : List Frame} (hr : ∀ (f : JFrame) (acts : List Action), f.method = m → f.locked = none → f.entered = [] → (doReturn e (T.setTop f) acts (some (.int (F2_52 v0)))).1 = T.setFrames fs) : Steps p.tables e below (T.setTop (mkF m 52 #[.val (.int v0)] [])) (T.setFrames fs) := by
  show Steps p.tables e below (T.setTop (mkF m 52 #[.val (.int v0)] [])) _
  refine XS.iloadN X.here hx rfl (hb hby d2_52) rfl ?_
  show Steps p.tables e below (T.setTop (mkF m 53 #[.val (.int v0)] [(.int v0)])) _
  refine X.ldcwInt hx hown (mvT hZ (hw _ (List.mem_of_getElem? (i := 16) rfl))) (g := (mkF m 53 #[.val (.int v0)] [(.int v0)])) rfl (hb hby d2_53) _ ?_
  show Steps p.tables e below (T.setTop (mkF m 56 #[.val (.int v0)] [(.int (1114111 : Int32)), (.int v0)])) _
  by_cases hc : (1114111 : Int32) < v0
  · rw [show (F2_52 v0) = F2_63 from if_pos hc] at hr
    refine XS.icmpYes X.here hx rfl (pc0 := 56) (pc' := 63) rfl (hb hby d2_56) rfl (tlt hc).2.2.1 (by decide) (by decide) ?_
    exact b2_63 X hx hZ hw hby hown v0 hret hr
  · rw [show (F2_52 v0) = F2_59 from if_neg hc] at hr
    refine XS.icmpNo X.here hx rfl (hb hby d2_56) rfl (flt hc).2.2.1 ?_
    exact b2_59 X hx hZ hw hby hown v0 hret hr
def F2_45 (v0 : Int32) : Int32 := if v0 < (65536 : Int32) then F2_63 else (F2_52 v0)
theorem b2_45 {p : Program} {l : Launch} {e : Env} {R : Room} {s : State} {m : MethodId} {args : Array Value} {below : List Frame} {meth : Method} {c : Code} {T : State} {locs : List Loc} {cells slots : Nat} {Z : State} {a0 : Array Value} (X : Stand p l e R s m args below meth c T locs cells slots) (hx : p.tables.exec = Jvm.exec) (hZ : Z.Warmed39 s.vm) (hw : ∀ d ∈ tables_1, d.before a0 Z = true) (hby : c.code = prog_197_method_27_code) (hown : s.vm.findClass "com/example/kartegami/kartegami/xml/XmlWriter" = some m.cls) (v0 : Int32) (hret : meth.sig.returnType = some .boolean) {fs : List Frame} (hr : ∀ (f : JFrame) (acts : List Action), f.method = m → f.locked = none → f.entered = [] → (doReturn e (T.setTop f) acts (some (.int (F2_45 v0)))).1 = T.setFrames fs) : Steps p.tables e below (T.setTop (mkF m 45 #[.val (.int v0)] [])) (T.setFrames fs) := by
  show Steps p.tables e below (T.setTop (mkF m 45 #[.val (.int v0)] [])) _
  refine XS.iloadN X.here hx rfl (hb hby d2_45) rfl ?_
  show Steps p.tables e below (T.setTop (mkF m 46 #[.val (.int v0)] [(.int v0)])) _
  refine X.ldcwInt hx hown (mvT hZ (hw _ (List.mem_of_getElem? (i := 9) rfl))) (g := (mkF m 46 #[.val (.int v0)] [(.int v0)])) rfl (hb hby d2_46) _ ?_
  show Steps p.tables e below (T.setTop (mkF m 49 #[.val (.int v0)] [(.int (65536 : Int32)), (.int v0)])) _
  by_cases hc : v0 < (65536 : Int32)
  · rw [show (F2_45 v0) = F2_63 from if_pos hc] at hr
    refine XS.icmpYes X.here hx rfl (pc0 := 49) (pc' := 63) rfl (hb hby d2_49) rfl (tlt hc).1 (by decide) (by decide) ?_
    exact b2_63 X hx hZ hw hby hown v0 hret hr
  · rw [show (F2_45 v0) = (F2_52 v0) from if_neg hc] at hr
    refine XS.icmpNo X.here hx rfl (hb hby d2_49) rfl (flt hc).1 ?_
    exact b2_52 X hx hZ hw hby hown v0 hret hr
def F2_38 (v0 : Int32) : Int32 := if (65533 : Int32) < v0 then (F2_45 v0) else F2_59
theorem b2_38 {p : Program} {l : Launch} {e : Env} {R : Room} {s : State} {m : MethodId} {args : Array Value} {below : List Frame} {meth : Method} {c : Code} {T : State} {locs : List Loc} {cells slots : Nat} {Z : State} {a0 : Array Value} (X : Stand p l e R s m args below meth c T locs cells slots) (hx : p.tables.exec = Jvm.exec) (hZ : Z.Warmed39 s.vm) (hw : ∀ d ∈ tables_1, d.before a0 Z = true) (hby : c.code = prog_197_method_27_code) (hown : s.vm.findClass "com/example/kartegami/kartegami/xml/XmlWriter" = some m.cls) (v0 : Int32) (hret : meth.sig.returnType = some .boolean) {fs : List Frame} (hr : ∀ (f : JFrame) (acts : List Action), f.method = m → f.locked = none → f.entered = [] → (doReturn e (T.setTop f) acts (some (.int (F2_38 v0)))).1 = T.setFrames fs) : Steps p.tables e below (T.setTop (mkF m 38 #[.val (.int v0)] [])) (T.setFrames fs) := by
  show Steps p.tables e below (T.setTop (mkF m 38 #[.val (.int v0)] [])) _
  refine XS.iloadN X.here hx rfl (hb hby d2_38) rfl ?_
  show Steps p.tables e below (T.setTop (mkF m 39 #[.val (.int v0)] [(.int v0)])) _
  refine X.ldcwInt hx hown (mvT hZ (hw _ (List.mem_of_getElem? (i := 15) rfl))) (g := (mkF m 39 #[.val (.int v0)] [(.int v0)])) rfl (hb hby d2_39) _ ?_
  show Steps p.tables e below (T.setTop (mkF m 42 #[.val (.int v0)] [(.int (65533 : Int32)), (.int v0)])) _
  by_cases hc : (65533 : Int32) < v0
  · rw [show (F2_38 v0) = (F2_45 v0) from if_pos hc] at hr
    refine XS.icmpNo X.here hx rfl (hb hby d2_42) rfl (tlt hc).2.2.2 ?_
    exact b2_45 X hx hZ hw hby hown v0 hret hr
  · rw [show (F2_38 v0) = F2_59 from if_neg hc] at hr
    refine XS.icmpYes X.here hx rfl (pc0 := 42) (pc' := 59) rfl (hb hby d2_42) rfl (flt hc).2.2.2 (by decide) (by decide) ?_
    exact b2_59 X hx hZ hw hby hown v0 hret hr
def F2_31 (v0 : Int32) : Int32 := if v0 < (57344 : Int32) then (F2_45 v0) else (F2_38 v0)
theorem b2_31 {p : Program} {l : Launch} {e : Env} {R : Room} {s : State} {m : MethodId} {args : Array Value} {below : List Frame} {meth : Method} {c : Code} {T : State} {locs : List Loc} {cells slots : Nat} {Z : State} {a0 : Array Value} (X : Stand p l e R s m args below meth c T locs cells slots) (hx : p.tables.exec = Jvm.exec) (hZ : Z.Warmed39 s.vm) (hw : ∀ d ∈ tables_1, d.before a0 Z = true) (hby : c.code = prog_197_method_27_code) (hown : s.vm.findClass "com/example/kartegami/kartegami/xml/XmlWriter" = some m.cls) (v0 : Int32) (hret : meth.sig.returnType = some .boolean) {fs : List Frame} (hr : ∀ (f : JFrame) (acts : List Action), f.method = m → f.locked = none → f.entered = [] → (doReturn e (T.setTop f) acts (some (.int (F2_31 v0)))).1 = T.setFrames fs) : Steps p.tables e below (T.setTop (mkF m 31 #[.val (.int v0)] [])) (T.setFrames fs) := by
  show Steps p.tables e below (T.setTop (mkF m 31 #[.val (.int v0)] [])) _
  refine XS.iloadN X.here hx rfl (hb hby d2_31) rfl ?_
  show Steps p.tables e below (T.setTop (mkF m 32 #[.val (.int v0)] [(.int v0)])) _
  refine X.ldcwInt hx hown (mvT hZ (hw _ (List.mem_of_getElem? (i := 8) rfl))) (g := (mkF m 32 #[.val (.int v0)] [(.int v0)])) rfl (hb hby d2_32) _ ?_
  show Steps p.tables e below (T.setTop (mkF m 35 #[.val (.int v0)] [(.int (57344 : Int32)), (.int v0)])) _
  by_cases hc : v0 < (57344 : Int32)
  · rw [show (F2_31 v0) = (F2_45 v0) from if_pos hc] at hr
    refine XS.icmpYes X.here hx rfl (pc0 := 35) (pc' := 45) rfl (hb hby d2_35) rfl (tlt hc).1 (by decide) (by decide) ?_
    exact b2_45 X hx hZ hw hby hown v0 hret hr
  · rw [show (F2_31 v0) = (F2_38 v0) from if_neg hc] at hr
    refine XS.icmpNo X.here hx rfl (hb hby d2_35) rfl (flt hc).1 ?_
    exact b2_38 X hx hZ hw hby hown v0 hret hr
def F2_24 (v0 : Int32) : Int32 := if (55295 : Int32) < v0 then (F2_31 v0) else F2_59
theorem b2_24 {p : Program} {l : Launch} {e : Env} {R : Room} {s : State} {m : MethodId} {args : Array Value} {below : List Frame} {meth : Method} {c : Code} {T : State} {locs : List Loc} {cells slots : Nat} {Z : State} {a0 : Array Value} (X : Stand p l e R s m args below meth c T locs cells slots) (hx : p.tables.exec = Jvm.exec) (hZ : Z.Warmed39 s.vm) (hw : ∀ d ∈ tables_1, d.before a0 Z = true) (hby : c.code = prog_197_method_27_code) (hown : s.vm.findClass "com/example/kartegami/kartegami/xml/XmlWriter" = some m.cls) (v0 : Int32) (hret : meth.sig.returnType = some .boolean) {fs : List Frame} (hr : ∀ (f : JFrame) (acts : List Action), f.method = m → f.locked = none → f.entered = [] → (doReturn e (T.setTop f) acts (some (.int (F2_24 v0)))).1 = T.setFrames fs) : Steps p.tables e below (T.setTop (mkF m 24 #[.val (.int v0)] [])) (T.setFrames fs) := by
  show Steps p.tables e below (T.setTop (mkF m 24 #[.val (.int v0)] [])) _
  refine XS.iloadN X.here hx rfl (hb hby d2_24) rfl ?_
  show Steps p.tables e below (T.setTop (mkF m 25 #[.val (.int v0)] [(.int v0)])) _
  refine X.ldcwInt hx hown (mvT hZ (hw _ (List.mem_of_getElem? (i := 14) rfl))) (g := (mkF m 25 #[.val (.int v0)] [(.int v0)])) rfl (hb hby d2_25) _ ?_
  show Steps p.tables e below (T.setTop (mkF m 28 #[.val (.int v0)] [(.int (55295 : Int32)), (.int v0)])) _
  by_cases hc : (55295 : Int32) < v0
  · rw [show (F2_24 v0) = (F2_31 v0) from if_pos hc] at hr
    refine XS.icmpNo X.here hx rfl (hb hby d2_28) rfl (tlt hc).2.2.2 ?_
    exact b2_31 X hx hZ hw hby hown v0 hret hr
  · rw [show (F2_24 v0) = F2_59 from if_neg hc] at hr
    refine XS.icmpYes X.here hx rfl (pc0 := 28) (pc' := 59) rfl (hb hby d2_28) rfl (flt hc).2.2.2 (by decide) (by decide) ?_
    exact b2_59 X hx hZ hw hby hown v0 hret hr
def F2_18 (v0 : Int32) : Int32 := if v0 < (32 : Int32) then (F2_31 v0) else (F2_24 v0)
theorem b2_18 {p : Program} {l : Launch} {e : Env} {R : Room} {s : State} {m : MethodId} {args : Array Value} {below : List Frame} {meth : Method} {c : Code} {T : State} {locs : List Loc} {cells slots : Nat} {Z : State} {a0 : Array Value} (X : Stand p l e R s m args below meth c T locs cells slots) (hx : p.tables.exec = Jvm.exec) (hZ : Z.Warmed39 s.vm) (hw : ∀ d ∈ tables_1, d.before a0 Z = true) (hby : c.code = prog_197_method_27_code) (hown : s.vm.findClass "com/example/kartegami/kartegami/xml/XmlWriter" = some m.cls) (v0 : Int32) (hret : meth.sig.returnType = some .boolean) {fs : List Frame} (hr : ∀ (f : JFrame) (acts : List Action), f.method = m → f.locked = none → f.entered = [] → (doReturn e (T.setTop f) acts (some (.int (F2_18 v0)))).1 = T.setFrames fs) : Steps p.tables e below (T.setTop (mkF m 18 #[.val (.int v0)] [])) (T.setFrames fs) := by
  show Steps p.tables e below (T.setTop (mkF m 18 #[.val (.int v0)] [])) _
  refine XS.iloadN X.here hx rfl (hb hby d2_18) rfl ?_
  show Steps p.tables e below (T.setTop (mkF m 19 #[.val (.int v0)] [(.int v0)])) _
  refine XS.bipush X.here hx rfl (hb hby d2_19) ?_
  show Steps p.tables e below (T.setTop (mkF m 21 #[.val (.int v0)] [(.int (32 : Int32)), (.int v0)])) _
  by_cases hc : v0 < (32 : Int32)
  · rw [show (F2_18 v0) = (F2_31 v0) from if_pos hc] at hr
    refine XS.icmpYes X.here hx rfl (pc0 := 21) (pc' := 31) rfl (hb hby d2_21) rfl (tlt hc).1 (by decide) (by decide) ?_
    exact b2_31 X hx hZ hw hby hown v0 hret hr
  · rw [show (F2_18 v0) = (F2_24 v0) from if_neg hc] at hr
    refine XS.icmpNo X.here hx rfl (hb hby d2_21) rfl (flt hc).1 ?_
    exact b2_24 X hx hZ hw hby hown v0 hret hr
def F2_12 (v0 : Int32) : Int32 := if v0 = (13 : Int32) then F2_59 else (F2_18 v0)
theorem b2_12 {p : Program} {l : Launch} {e : Env} {R : Room} {s : State} {m : MethodId} {args : Array Value} {below : List Frame} {meth : Method} {c : Code} {T : State} {locs : List Loc} {cells slots : Nat} {Z : State} {a0 : Array Value} (X : Stand p l e R s m args below meth c T locs cells slots) (hx : p.tables.exec = Jvm.exec) (hZ : Z.Warmed39 s.vm) (hw : ∀ d ∈ tables_1, d.before a0 Z = true) (hby : c.code = prog_197_method_27_code) (hown : s.vm.findClass "com/example/kartegami/kartegami/xml/XmlWriter" = some m.cls) (v0 : Int32) (hret : meth.sig.returnType = some .boolean) {fs : List Frame} (hr : ∀ (f : JFrame) (acts : List Action), f.method = m → f.locked = none → f.entered = [] → (doReturn e (T.setTop f) acts (some (.int (F2_12 v0)))).1 = T.setFrames fs) : Steps p.tables e below (T.setTop (mkF m 12 #[.val (.int v0)] [])) (T.setFrames fs) := by
  show Steps p.tables e below (T.setTop (mkF m 12 #[.val (.int v0)] [])) _
  refine XS.iloadN X.here hx rfl (hb hby d2_12) rfl ?_
  show Steps p.tables e below (T.setTop (mkF m 13 #[.val (.int v0)] [(.int v0)])) _
  refine XS.bipush X.here hx rfl (hb hby d2_13) ?_
  show Steps p.tables e below (T.setTop (mkF m 15 #[.val (.int v0)] [(.int (13 : Int32)), (.int v0)])) _
  by_cases hc : v0 = (13 : Int32)
  · rw [show (F2_12 v0) = F2_59 from if_pos hc] at hr
    refine XS.icmpYes X.here hx rfl (pc0 := 15) (pc' := 59) rfl (hb hby d2_15) rfl (teq hc).1 (by decide) (by decide) ?_
    exact b2_59 X hx hZ hw hby hown v0 hret hr
  · rw [show (F2_12 v0) = (F2_18 v0) from if_neg hc] at hr
    refine XS.icmpNo X.here hx rfl (hb hby d2_15) rfl (feq hc).1 ?_
    exact b2_18 X hx hZ hw hby hown v0 hret hr
def F2_6 (v0 : Int32) : Int32 := if v0 = (10 : Int32) then F2_59 else (F2_12 v0)
theorem b2_6 {p : Program} {l : Launch} {e : Env} {R : Room} {s : State} {m : MethodId} {args : Array Value} {below : List Frame} {meth : Method} {c : Code} {T : State} {locs : List Loc} {cells slots : Nat} {Z : State} {a0 : Array Value} (X : Stand p l e R s m args below meth c T locs cells slots) (hx : p.tables.exec = Jvm.exec) (hZ : Z.Warmed39 s.vm) (hw : ∀ d ∈ tables_1, d.before a0 Z = true) (hby : c.code = prog_197_method_27_code) (hown : s.vm.findClass "com/example/kartegami/kartegami/xml/XmlWriter" = some m.cls) (v0 : Int32) (hret : meth.sig.returnType = some .boolean) {fs : List Frame} (hr : ∀ (f : JFrame) (acts : List Action), f.method = m → f.locked = none → f.entered = [] → (doReturn e (T.setTop f) acts (some (.int (F2_6 v0)))).1 = T.setFrames fs) : Steps p.tables e below (T.setTop (mkF m 6 #[.val (.int v0)] [])) (T.setFrames fs) := by
  show Steps p.tables e below (T.setTop (mkF m 6 #[.val (.int v0)] [])) _
  refine XS.iloadN X.here hx rfl (hb hby d2_6) rfl ?_
  show Steps p.tables e below (T.setTop (mkF m 7 #[.val (.int v0)] [(.int v0)])) _
  refine XS.bipush X.here hx rfl (hb hby d2_7) ?_
  show Steps p.tables e below (T.setTop (mkF m 9 #[.val (.int v0)] [(.int (10 : Int32)), (.int v0)])) _
  by_cases hc : v0 = (10 : Int32)
  · rw [show (F2_6 v0) = F2_59 from if_pos hc] at hr
    refine XS.icmpYes X.here hx rfl (pc0 := 9) (pc' := 59) rfl (hb hby d2_9) rfl (teq hc).1 (by decide) (by decide) ?_
    exact b2_59 X hx hZ hw hby hown v0 hret hr
  · rw [show (F2_6 v0) = (F2_12 v0) from if_neg hc] at hr
    refine XS.icmpNo X.here hx rfl (hb hby d2_9) rfl (feq hc).1 ?_
    exact b2_12 X hx hZ hw hby hown v0 hret hr
def F2_0 (v0 : Int32) : Int32 := if v0 = (9 : Int32) then F2_59 else (F2_6 v0)
theorem b2_0 {p : Program} {l : Launch} {e : Env} {R : Room} {s : State} {m : MethodId} {args : Array Value} {below : List Frame} {meth : Method} {c : Code} {T : State} {locs : List Loc} {cells slots : Nat} {Z : State} {a0 : Array Value} (X : Stand p l e R s m args below meth c T locs cells slots) (hx : p.tables.exec = Jvm.exec) (hZ : Z.Warmed39 s.vm) (hw : ∀ d ∈ tables_1, d.before a0 Z = true) (hby : c.code = prog_197_method_27_code) (hown : s.vm.findClass "com/example/kartegami/kartegami/xml/XmlWriter" = some m.cls) (v0 : Int32) (hret : meth.sig.returnType = some .boolean) {fs : List Frame} (hr : ∀ (f : JFrame) (acts : List Action), f.method = m → f.locked = none → f.entered = [] → (doReturn e (T.setTop f) acts (some (.int (F2_0 v0)))).1 = T.setFrames fs) : Steps p.tables e below (T.setTop (mkF m 0 #[.val (.int v0)] [])) (T.setFrames fs) := by
  show Steps p.tables e below (T.setTop (mkF m 0 #[.val (.int v0)] [])) _
  refine XS.iloadN X.here hx rfl (hb hby d2_0) rfl ?_
  show Steps p.tables e below (T.setTop (mkF m 1 #[.val (.int v0)] [(.int v0)])) _
  refine XS.bipush X.here hx rfl (hb hby d2_1) ?_
  show Steps p.tables e below (T.setTop (mkF m 3 #[.val (.int v0)] [(.int (9 : Int32)), (.int v0)])) _
  by_cases hc : v0 = (9 : Int32)
  · rw [show (F2_0 v0) = F2_59 from if_pos hc] at hr
    refine XS.icmpYes X.here hx rfl (pc0 := 3) (pc' := 59) rfl (hb hby d2_3) rfl (teq hc).1 (by decide) (by decide) ?_
    exact b2_59 X hx hZ hw hby hown v0 hret hr
  · rw [show (F2_0 v0) = (F2_6 v0) from if_neg hc] at hr
    refine XS.icmpNo X.here hx rfl (hb hby d2_3) rfl (feq hc).1 ?_
    exact b2_6 X hx hZ hw hby hown v0 hret hr
theorem pn_2 : plainName "com/example/kartegami/kartegami/xml/XmlWriter" = true := by first | (simp [plainName, overriddenIn]; done) | decide +kernel
theorem ef_2 (m : MethodId) (p0 : Int32) : entryFrame m #[(.int p0)] 1 = mkF m 0 #[.val (.int p0)] [] := by first | (simp [entryFrame, mkF, argsToLocals, Value.category]; done) | rfl
def Q_rm2 (Z : State) (p0 : Int32) (h0 : Heap) (n0 : Nat) (v : Option Value) (h : Heap) (L : List Loc) : Prop := (v = some (.int (F2_0 p0)) ∧ Fr n0 L ∧ h = h0)
set_option maxRecDepth 65536 in
set_option maxHeartbeats 40000000 in
theorem rm2 (l : Launch) (Z : State) (a0 : Array Value) (hw : ∀ d ∈ tables_1, d.before a0 Z = true) (ws : List Jvm.Cond) (p0 : Int32) (h0 : Heap) (n0 : Nat) (Z0 : n0 ≤ h0.size) :
    MetFree l (⟨"com/example/kartegami/kartegami/xml/XmlWriter", "canWrite", "(I)Z"⟩ : MethodName) (head1 (Jvm.Cond.code (⟨"com/example/kartegami/kartegami/xml/XmlWriter", "canWrite", "(I)Z"⟩ : MethodName) prog_197_method_27_code 1 (some .boolean) :: ws) ({ frames := 0, cells := 0, slots := 0, locals := 0 } : Room)) (fun a U => a = #[(.int p0)] ∧ Z.Warmed39 U.vm ∧ U.heap = h0) (fun _ _ _ _ _ => True) (fun _ U o U' => ∃ v L, o = .returned v ∧ Q_rm2 Z p0 h0 n0 v U'.heap L ∧ FrameEnd U o U' L ({ frames := 0, cells := 0, slots := 0, locals := 0 } : Room).cells ({ frames := 0, cells := 0, slots := 0, locals := 0 } : Room).slots) := by
  refine MetFree.of_bodySF (plainFor_of_name pn_2) hisR ?_
  intro p e s m args below meth c s₁ Bd hml0 hP hK
  obtain ⟨rfl, hZ, hh⟩ := hP
  have hx := Bd.exec
  have hby := Bd.bytes
  have hml : c.maxLocals = 1 := hml0
  have hown : s.vm.findClass "com/example/kartegami/kartegami/xml/XmlWriter" = some m.cls := findClass_of_methodNamed Bd.named
  have hnm := (name_of_methodNamed Bd.named Bd.method).1
  have X0 : Stand p l e ({ frames := 0, cells := 0, slots := 0, locals := 0 } : Room) s m #[(.int p0)] below meth c s₁ [] 0 0 := Stand.of_body Bd
  have e0 : s₁.heap = h0 := by rw [← hh, Bd.state]; rfl
  have N0 := Fr.nil n0
  have pre0 : ∀ t, Steps p.tables e below (s₁.setTop (mkF m 0 #[.val (.int p0)] [])) t → Steps p.tables e below (s₁.setTop (entryFrame m #[(.int p0)] 1)) t := fun t k => castTop (ef_2 m p0) k
  obtain ⟨fs, hr, hrun, hended, hW, hsame⟩ := X0.leave (v := some (.int (F2_0 p0))) (fun h => by rw [Bd.returns] at h; cases h)
  refine ⟨_, _, pre0 _ ?_, hrun, hended, _, _, rfl, ⟨rfl, N0, e0⟩, ⟨_, rfl⟩, hW, hsame.mono (by decide) (by decide)⟩
  exact b2_0 X0 hx hZ hw hby hown p0 Bd.returns hr
theorem d3_0 : decode method_2_code 0 = .ok (.iload_n 0, 1) := by decide +kernel
theorem d3_1 : decode method_2_code 1 = .ok (.ifCond .ge 5, 3) := by decide +kernel
theorem d3_4 : decode method_2_code 4 = .ok (.iconst 0, 1) := by decide +kernel
theorem d3_5 : decode method_2_code 5 = .ok (.ireturn, 1) := by decide +kernel
theorem d3_6 : decode method_2_code 6 = .ok (.iload_n 0, 1) := by decide +kernel
theorem d3_7 : decode method_2_code 7 = .ok (.bipush 32, 2) := by decide +kernel
theorem d3_9 : decode method_2_code 9 = .ok (.if_icmp .ge 27, 3) := by decide +kernel
theorem d3_12 : decode method_2_code 12 = .ok (.iload_n 0, 1) := by decide +kernel
theorem d3_13 : decode method_2_code 13 = .ok (.bipush 9, 2) := by decide +kernel
theorem d3_15 : decode method_2_code 15 = .ok (.if_icmp .eq 15, 3) := by decide +kernel
theorem d3_18 : decode method_2_code 18 = .ok (.iload_n 0, 1) := by decide +kernel
theorem d3_19 : decode method_2_code 19 = .ok (.bipush 10, 2) := by decide +kernel
theorem d3_21 : decode method_2_code 21 = .ok (.if_icmp .eq 9, 3) := by decide +kernel
theorem d3_24 : decode method_2_code 24 = .ok (.iload_n 0, 1) := by decide +kernel
theorem d3_25 : decode method_2_code 25 = .ok (.bipush 13, 2) := by decide +kernel
theorem d3_27 : decode method_2_code 27 = .ok (.if_icmp .ne 7, 3) := by decide +kernel
theorem d3_30 : decode method_2_code 30 = .ok (.iconst 1, 1) := by decide +kernel
theorem d3_31 : decode method_2_code 31 = .ok (.goto 4, 3) := by decide +kernel
theorem d3_34 : decode method_2_code 34 = .ok (.iconst 0, 1) := by decide +kernel
theorem d3_35 : decode method_2_code 35 = .ok (.ireturn, 1) := by decide +kernel
theorem d3_36 : decode method_2_code 36 = .ok (.iload_n 0, 1) := by decide +kernel
theorem d3_37 : decode method_2_code 37 = .ok (.ldc 7, 2) := by decide +kernel
theorem d3_39 : decode method_2_code 39 = .ok (.if_icmp .lt 11, 3) := by decide +kernel
theorem d3_42 : decode method_2_code 42 = .ok (.iload_n 0, 1) := by decide +kernel
theorem d3_43 : decode method_2_code 43 = .ok (.ldc 8, 2) := by decide +kernel
theorem d3_45 : decode method_2_code 45 = .ok (.if_icmp .ge 5, 3) := by decide +kernel
theorem d3_48 : decode method_2_code 48 = .ok (.iconst 0, 1) := by decide +kernel
theorem d3_49 : decode method_2_code 49 = .ok (.ireturn, 1) := by decide +kernel
theorem d3_50 : decode method_2_code 50 = .ok (.iload_n 0, 1) := by decide +kernel
theorem d3_51 : decode method_2_code 51 = .ok (.ldc 9, 2) := by decide +kernel
theorem d3_53 : decode method_2_code 53 = .ok (.if_icmp .eq 9, 3) := by decide +kernel
theorem d3_56 : decode method_2_code 56 = .ok (.iload_n 0, 1) := by decide +kernel
theorem d3_57 : decode method_2_code 57 = .ok (.ldc 10, 2) := by decide +kernel
theorem d3_59 : decode method_2_code 59 = .ok (.if_icmp .ne 5, 3) := by decide +kernel
theorem d3_62 : decode method_2_code 62 = .ok (.iconst 0, 1) := by decide +kernel
theorem d3_63 : decode method_2_code 63 = .ok (.ireturn, 1) := by decide +kernel
theorem d3_64 : decode method_2_code 64 = .ok (.iload_n 0, 1) := by decide +kernel
theorem d3_65 : decode method_2_code 65 = .ok (.ldc 11, 2) := by decide +kernel
theorem d3_67 : decode method_2_code 67 = .ok (.if_icmp .gt 7, 3) := by decide +kernel
theorem d3_70 : decode method_2_code 70 = .ok (.iconst 1, 1) := by decide +kernel
theorem d3_71 : decode method_2_code 71 = .ok (.goto 4, 3) := by decide +kernel
theorem d3_74 : decode method_2_code 74 = .ok (.iconst 0, 1) := by decide +kernel
theorem d3_75 : decode method_2_code 75 = .ok (.ireturn, 1) := by decide +kernel
def F3_62 : Int32 := (0 : Int32)
theorem b3_62 {p : Program} {l : Launch} {e : Env} {R : Room} {s : State} {m : MethodId} {args : Array Value} {below : List Frame} {meth : Method} {c : Code} {T : State} {locs : List Loc} {cells slots : Nat} {Z : State} {a0 : Array Value} (X : Stand p l e R s m args below meth c T locs cells slots) (hx : p.tables.exec = Jvm.exec) (hZ : Z.Warmed39 s.vm) (hw : ∀ d ∈ tables_1, d.before a0 Z = true) (hby : c.code = method_2_code) (hown : s.vm.findClass "com/example/kartegami/kartegami/xml/XmlWriterCanWritePinLaw" = some m.cls) (v0 : Int32) (hret : meth.sig.returnType = some .boolean) {fs : List Frame} (hr : ∀ (f : JFrame) (acts : List Action), f.method = m → f.locked = none → f.entered = [] → (doReturn e (T.setTop f) acts (some (.int F3_62))).1 = T.setFrames fs) : Steps p.tables e below (T.setTop (mkF m 62 #[.val (.int v0)] [])) (T.setFrames fs) := by
  show Steps p.tables e below (T.setTop (mkF m 62 #[.val (.int v0)] [])) _
  refine XS.iconst X.here hx rfl (hb hby d3_62) ?_
  show Steps p.tables e below (T.setTop (mkF m 63 #[.val (.int v0)] [(.int (0 : Int32))])) _
  rw [show F3_62 = nar .boolean (0 : Int32) from rfl] at hr
  exact retN X hx (t := .boolean) hret (by simp) (hb hby d3_63) hr
def F3_74 : Int32 := (0 : Int32)
theorem b3_74 {p : Program} {l : Launch} {e : Env} {R : Room} {s : State} {m : MethodId} {args : Array Value} {below : List Frame} {meth : Method} {c : Code} {T : State} {locs : List Loc} {cells slots : Nat} {Z : State} {a0 : Array Value} (X : Stand p l e R s m args below meth c T locs cells slots) (hx : p.tables.exec = Jvm.exec) (hZ : Z.Warmed39 s.vm) (hw : ∀ d ∈ tables_1, d.before a0 Z = true) (hby : c.code = method_2_code) (hown : s.vm.findClass "com/example/kartegami/kartegami/xml/XmlWriterCanWritePinLaw" = some m.cls) (v0 : Int32) (hret : meth.sig.returnType = some .boolean) {fs : List Frame} (hr : ∀ (f : JFrame) (acts : List Action), f.method = m → f.locked = none → f.entered = [] → (doReturn e (T.setTop f) acts (some (.int F3_74))).1 = T.setFrames fs) : Steps p.tables e below (T.setTop (mkF m 74 #[.val (.int v0)] [])) (T.setFrames fs) := by
  show Steps p.tables e below (T.setTop (mkF m 74 #[.val (.int v0)] [])) _
  refine XS.iconst X.here hx rfl (hb hby d3_74) ?_
  show Steps p.tables e below (T.setTop (mkF m 75 #[.val (.int v0)] [(.int (0 : Int32))])) _
  rw [show F3_74 = nar .boolean (0 : Int32) from rfl] at hr
  exact retN X hx (t := .boolean) hret (by simp) (hb hby d3_75) hr
def F3_70 : Int32 := (1 : Int32)
theorem b3_70 {p : Program} {l : Launch} {e : Env} {R : Room} {s : State} {m : MethodId} {args : Array Value} {below : List Frame} {meth : Method} {c : Code} {T : State} {locs : List Loc} {cells slots : Nat} {Z : State} {a0 : Array Value} (X : Stand p l e R s m args below meth c T locs cells slots) (hx : p.tables.exec = Jvm.exec) (hZ : Z.Warmed39 s.vm) (hw : ∀ d ∈ tables_1, d.before a0 Z = true) (hby : c.code = method_2_code) (hown : s.vm.findClass "com/example/kartegami/kartegami/xml/XmlWriterCanWritePinLaw" = some m.cls) (v0 : Int32) (hret : meth.sig.returnType = some .boolean) {fs : List Frame} (hr : ∀ (f : JFrame) (acts : List Action), f.method = m → f.locked = none → f.entered = [] → (doReturn e (T.setTop f) acts (some (.int F3_70))).1 = T.setFrames fs) : Steps p.tables e below (T.setTop (mkF m 70 #[.val (.int v0)] [])) (T.setFrames fs) := by
  show Steps p.tables e below (T.setTop (mkF m 70 #[.val (.int v0)] [])) _
  refine XS.iconst X.here hx rfl (hb hby d3_70) ?_
  show Steps p.tables e below (T.setTop (mkF m 71 #[.val (.int v0)] [(.int (1 : Int32))])) _
  refine XS.goto X.here hx rfl (pc0 := 71) (pc' := 75) rfl (hb hby d3_71) (by decide) (by decide) ?_
  show Steps p.tables e below (T.setTop (mkF m 75 #[.val (.int v0)] [(.int (1 : Int32))])) _
  rw [show F3_70 = nar .boolean (1 : Int32) from rfl] at hr
  exact retN X hx (t := .boolean) hret (by simp) (hb hby d3_75) hr
def F3_64 (v0 : Int32) : Int32 := if (1114111 : Int32) < v0 then F3_74 else F3_70
theorem b3_64 {p : Program} {l : Launch} {e : Env} {R : Room} {s : State} {m : MethodId} {args : Array Value} {below : List Frame} {meth : Method} {c : Code} {T : State} {locs : List Loc} {cells slots : Nat} {Z : State} {a0 : Array Value} (X : Stand p l e R s m args below meth c T locs cells slots) (hx : p.tables.exec = Jvm.exec) (hZ : Z.Warmed39 s.vm) (hw : ∀ d ∈ tables_1, d.before a0 Z = true) (hby : c.code = method_2_code) (hown : s.vm.findClass "com/example/kartegami/kartegami/xml/XmlWriterCanWritePinLaw" = some m.cls) (v0 : Int32) (hret : meth.sig.returnType = some .boolean) {fs : List Frame} (hr : ∀ (f : JFrame) (acts : List Action), f.method = m → f.locked = none → f.entered = [] → (doReturn e (T.setTop f) acts (some (.int (F3_64 v0)))).1 = T.setFrames fs) : Steps p.tables e below (T.setTop (mkF m 64 #[.val (.int v0)] [])) (T.setFrames fs) := by
  show Steps p.tables e below (T.setTop (mkF m 64 #[.val (.int v0)] [])) _
  refine XS.iloadN X.here hx rfl (hb hby d3_64) rfl ?_
  show Steps p.tables e below (T.setTop (mkF m 65 #[.val (.int v0)] [(.int v0)])) _
  refine X.ldcInt hx hown (mvT hZ (hw _ (List.mem_of_getElem? (i := 13) rfl))) (g := (mkF m 65 #[.val (.int v0)] [(.int v0)])) rfl (hb hby d3_65) _ ?_
  show Steps p.tables e below (T.setTop (mkF m 67 #[.val (.int v0)] [(.int (1114111 : Int32)), (.int v0)])) _
  by_cases hc : (1114111 : Int32) < v0
  · rw [show (F3_64 v0) = F3_74 from if_pos hc] at hr
    refine XS.icmpYes X.here hx rfl (pc0 := 67) (pc' := 74) rfl (hb hby d3_67) rfl (tlt hc).2.2.1 (by decide) (by decide) ?_
    exact b3_74 X hx hZ hw hby hown v0 hret hr
  · rw [show (F3_64 v0) = F3_70 from if_neg hc] at hr
    refine XS.icmpNo X.here hx rfl (hb hby d3_67) rfl (flt hc).2.2.1 ?_
    exact b3_70 X hx hZ hw hby hown v0 hret hr
def F3_56 (v0 : Int32) : Int32 := if v0 = (65535 : Int32) then F3_62 else (F3_64 v0)
theorem b3_56 {p : Program} {l : Launch} {e : Env} {R : Room} {s : State} {m : MethodId} {args : Array Value} {below : List Frame} {meth : Method} {c : Code} {T : State} {locs : List Loc} {cells slots : Nat} {Z : State} {a0 : Array Value} (X : Stand p l e R s m args below meth c T locs cells slots) (hx : p.tables.exec = Jvm.exec) (hZ : Z.Warmed39 s.vm) (hw : ∀ d ∈ tables_1, d.before a0 Z = true) (hby : c.code = method_2_code) (hown : s.vm.findClass "com/example/kartegami/kartegami/xml/XmlWriterCanWritePinLaw" = some m.cls) (v0 : Int32) (hret : meth.sig.returnType = some .boolean) {fs : List Frame} (hr : ∀ (f : JFrame) (acts : List Action), f.method = m → f.locked = none → f.entered = [] → (doReturn e (T.setTop f) acts (some (.int (F3_56 v0)))).1 = T.setFrames fs) : Steps p.tables e below (T.setTop (mkF m 56 #[.val (.int v0)] [])) (T.setFrames fs) := by
  show Steps p.tables e below (T.setTop (mkF m 56 #[.val (.int v0)] [])) _
  refine XS.iloadN X.here hx rfl (hb hby d3_56) rfl ?_
  show Steps p.tables e below (T.setTop (mkF m 57 #[.val (.int v0)] [(.int v0)])) _
  refine X.ldcInt hx hown (mvT hZ (hw _ (List.mem_of_getElem? (i := 20) rfl))) (g := (mkF m 57 #[.val (.int v0)] [(.int v0)])) rfl (hb hby d3_57) _ ?_
  show Steps p.tables e below (T.setTop (mkF m 59 #[.val (.int v0)] [(.int (65535 : Int32)), (.int v0)])) _
  by_cases hc : v0 = (65535 : Int32)
  · rw [show (F3_56 v0) = F3_62 from if_pos hc] at hr
    refine XS.icmpNo X.here hx rfl (hb hby d3_59) rfl (teq hc).2 ?_
    exact b3_62 X hx hZ hw hby hown v0 hret hr
  · rw [show (F3_56 v0) = (F3_64 v0) from if_neg hc] at hr
    refine XS.icmpYes X.here hx rfl (pc0 := 59) (pc' := 64) rfl (hb hby d3_59) rfl (feq hc).2 (by decide) (by decide) ?_
    exact b3_64 X hx hZ hw hby hown v0 hret hr
def F3_50 (v0 : Int32) : Int32 := if v0 = (65534 : Int32) then F3_62 else (F3_56 v0)
theorem b3_50 {p : Program} {l : Launch} {e : Env} {R : Room} {s : State} {m : MethodId} {args : Array Value} {below : List Frame} {meth : Method} {c : Code} {T : State} {locs : List Loc} {cells slots : Nat} {Z : State} {a0 : Array Value} (X : Stand p l e R s m args below meth c T locs cells slots) (hx : p.tables.exec = Jvm.exec) (hZ : Z.Warmed39 s.vm) (hw : ∀ d ∈ tables_1, d.before a0 Z = true) (hby : c.code = method_2_code) (hown : s.vm.findClass "com/example/kartegami/kartegami/xml/XmlWriterCanWritePinLaw" = some m.cls) (v0 : Int32) (hret : meth.sig.returnType = some .boolean) {fs : List Frame} (hr : ∀ (f : JFrame) (acts : List Action), f.method = m → f.locked = none → f.entered = [] → (doReturn e (T.setTop f) acts (some (.int (F3_50 v0)))).1 = T.setFrames fs) : Steps p.tables e below (T.setTop (mkF m 50 #[.val (.int v0)] [])) (T.setFrames fs) := by
  show Steps p.tables e below (T.setTop (mkF m 50 #[.val (.int v0)] [])) _
  refine XS.iloadN X.here hx rfl (hb hby d3_50) rfl ?_
  show Steps p.tables e below (T.setTop (mkF m 51 #[.val (.int v0)] [(.int v0)])) _
  refine X.ldcInt hx hown (mvT hZ (hw _ (List.mem_of_getElem? (i := 19) rfl))) (g := (mkF m 51 #[.val (.int v0)] [(.int v0)])) rfl (hb hby d3_51) _ ?_
  show Steps p.tables e below (T.setTop (mkF m 53 #[.val (.int v0)] [(.int (65534 : Int32)), (.int v0)])) _
  by_cases hc : v0 = (65534 : Int32)
  · rw [show (F3_50 v0) = F3_62 from if_pos hc] at hr
    refine XS.icmpYes X.here hx rfl (pc0 := 53) (pc' := 62) rfl (hb hby d3_53) rfl (teq hc).1 (by decide) (by decide) ?_
    exact b3_62 X hx hZ hw hby hown v0 hret hr
  · rw [show (F3_50 v0) = (F3_56 v0) from if_neg hc] at hr
    refine XS.icmpNo X.here hx rfl (hb hby d3_53) rfl (feq hc).1 ?_
    exact b3_56 X hx hZ hw hby hown v0 hret hr
def F3_48 : Int32 := (0 : Int32)
theorem b3_48 {p : Program} {l : Launch} {e : Env} {R : Room} {s : State} {m : MethodId} {args : Array Value} {below : List Frame} {meth : Method} {c : Code} {T : State} {locs : List Loc} {cells slots : Nat} {Z : State} {a0 : Array Value} (X : Stand p l e R s m args below meth c T locs cells slots) (hx : p.tables.exec = Jvm.exec) (hZ : Z.Warmed39 s.vm) (hw : ∀ d ∈ tables_1, d.before a0 Z = true) (hby : c.code = method_2_code) (hown : s.vm.findClass "com/example/kartegami/kartegami/xml/XmlWriterCanWritePinLaw" = some m.cls) (v0 : Int32) (hret : meth.sig.returnType = some .boolean) {fs : List Frame} (hr : ∀ (f : JFrame) (acts : List Action), f.method = m → f.locked = none → f.entered = [] → (doReturn e (T.setTop f) acts (some (.int F3_48))).1 = T.setFrames fs) : Steps p.tables e below (T.setTop (mkF m 48 #[.val (.int v0)] [])) (T.setFrames fs) := by
  show Steps p.tables e below (T.setTop (mkF m 48 #[.val (.int v0)] [])) _
  refine XS.iconst X.here hx rfl (hb hby d3_48) ?_
  show Steps p.tables e below (T.setTop (mkF m 49 #[.val (.int v0)] [(.int (0 : Int32))])) _
  rw [show F3_48 = nar .boolean (0 : Int32) from rfl] at hr
  exact retN X hx (t := .boolean) hret (by simp) (hb hby d3_49) hr
def F3_42 (v0 : Int32) : Int32 := if v0 < (57344 : Int32) then F3_48 else (F3_50 v0)
theorem b3_42 {p : Program} {l : Launch} {e : Env} {R : Room} {s : State} {m : MethodId} {args : Array Value} {below : List Frame} {meth : Method} {c : Code} {T : State} {locs : List Loc} {cells slots : Nat} {Z : State} {a0 : Array Value} (X : Stand p l e R s m args below meth c T locs cells slots) (hx : p.tables.exec = Jvm.exec) (hZ : Z.Warmed39 s.vm) (hw : ∀ d ∈ tables_1, d.before a0 Z = true) (hby : c.code = method_2_code) (hown : s.vm.findClass "com/example/kartegami/kartegami/xml/XmlWriterCanWritePinLaw" = some m.cls) (v0 : Int32) (hret : meth.sig.returnType = some .boolean) {fs : List Frame} (hr : ∀ (f : JFrame) (acts : List Action), f.method = m → f.locked = none → f.entered = [] → (doReturn e (T.setTop f) acts (some (.int (F3_42 v0)))).1 = T.setFrames fs) : Steps p.tables e below (T.setTop (mkF m 42 #[.val (.int v0)] [])) (T.setFrames fs) := by
  show Steps p.tables e below (T.setTop (mkF m 42 #[.val (.int v0)] [])) _
  refine XS.iloadN X.here hx rfl (hb hby d3_42) rfl ?_
  show Steps p.tables e below (T.setTop (mkF m 43 #[.val (.int v0)] [(.int v0)])) _
  refine X.ldcInt hx hown (mvT hZ (hw _ (List.mem_of_getElem? (i := 18) rfl))) (g := (mkF m 43 #[.val (.int v0)] [(.int v0)])) rfl (hb hby d3_43) _ ?_
  show Steps p.tables e below (T.setTop (mkF m 45 #[.val (.int v0)] [(.int (57344 : Int32)), (.int v0)])) _
  by_cases hc : v0 < (57344 : Int32)
  · rw [show (F3_42 v0) = F3_48 from if_pos hc] at hr
    refine XS.icmpNo X.here hx rfl (hb hby d3_45) rfl (tlt hc).2.1 ?_
    exact b3_48 X hx hZ hw hby hown v0 hret hr
  · rw [show (F3_42 v0) = (F3_50 v0) from if_neg hc] at hr
    refine XS.icmpYes X.here hx rfl (pc0 := 45) (pc' := 50) rfl (hb hby d3_45) rfl (flt hc).2.1 (by decide) (by decide) ?_
    exact b3_50 X hx hZ hw hby hown v0 hret hr
def F3_36 (v0 : Int32) : Int32 := if v0 < (55296 : Int32) then (F3_50 v0) else (F3_42 v0)
theorem b3_36 {p : Program} {l : Launch} {e : Env} {R : Room} {s : State} {m : MethodId} {args : Array Value} {below : List Frame} {meth : Method} {c : Code} {T : State} {locs : List Loc} {cells slots : Nat} {Z : State} {a0 : Array Value} (X : Stand p l e R s m args below meth c T locs cells slots) (hx : p.tables.exec = Jvm.exec) (hZ : Z.Warmed39 s.vm) (hw : ∀ d ∈ tables_1, d.before a0 Z = true) (hby : c.code = method_2_code) (hown : s.vm.findClass "com/example/kartegami/kartegami/xml/XmlWriterCanWritePinLaw" = some m.cls) (v0 : Int32) (hret : meth.sig.returnType = some .boolean) {fs : List Frame} (hr : ∀ (f : JFrame) (acts : List Action), f.method = m → f.locked = none → f.entered = [] → (doReturn e (T.setTop f) acts (some (.int (F3_36 v0)))).1 = T.setFrames fs) : Steps p.tables e below (T.setTop (mkF m 36 #[.val (.int v0)] [])) (T.setFrames fs) := by
  show Steps p.tables e below (T.setTop (mkF m 36 #[.val (.int v0)] [])) _
  refine XS.iloadN X.here hx rfl (hb hby d3_36) rfl ?_
  show Steps p.tables e below (T.setTop (mkF m 37 #[.val (.int v0)] [(.int v0)])) _
  refine X.ldcInt hx hown (mvT hZ (hw _ (List.mem_of_getElem? (i := 17) rfl))) (g := (mkF m 37 #[.val (.int v0)] [(.int v0)])) rfl (hb hby d3_37) _ ?_
  show Steps p.tables e below (T.setTop (mkF m 39 #[.val (.int v0)] [(.int (55296 : Int32)), (.int v0)])) _
  by_cases hc : v0 < (55296 : Int32)
  · rw [show (F3_36 v0) = (F3_50 v0) from if_pos hc] at hr
    refine XS.icmpYes X.here hx rfl (pc0 := 39) (pc' := 50) rfl (hb hby d3_39) rfl (tlt hc).1 (by decide) (by decide) ?_
    exact b3_50 X hx hZ hw hby hown v0 hret hr
  · rw [show (F3_36 v0) = (F3_42 v0) from if_neg hc] at hr
    refine XS.icmpNo X.here hx rfl (hb hby d3_39) rfl (flt hc).1 ?_
    exact b3_42 X hx hZ hw hby hown v0 hret hr
def F3_30 : Int32 := (1 : Int32)
theorem b3_30 {p : Program} {l : Launch} {e : Env} {R : Room} {s : State} {m : MethodId} {args : Array Value} {below : List Frame} {meth : Method} {c : Code} {T : State} {locs : List Loc} {cells slots : Nat} {Z : State} {a0 : Array Value} (X : Stand p l e R s m args below meth c T locs cells slots) (hx : p.tables.exec = Jvm.exec) (hZ : Z.Warmed39 s.vm) (hw : ∀ d ∈ tables_1, d.before a0 Z = true) (hby : c.code = method_2_code) (hown : s.vm.findClass "com/example/kartegami/kartegami/xml/XmlWriterCanWritePinLaw" = some m.cls) (v0 : Int32) (hret : meth.sig.returnType = some .boolean) {fs : List Frame} (hr : ∀ (f : JFrame) (acts : List Action), f.method = m → f.locked = none → f.entered = [] → (doReturn e (T.setTop f) acts (some (.int F3_30))).1 = T.setFrames fs) : Steps p.tables e below (T.setTop (mkF m 30 #[.val (.int v0)] [])) (T.setFrames fs) := by
  show Steps p.tables e below (T.setTop (mkF m 30 #[.val (.int v0)] [])) _
  refine XS.iconst X.here hx rfl (hb hby d3_30) ?_
  show Steps p.tables e below (T.setTop (mkF m 31 #[.val (.int v0)] [(.int (1 : Int32))])) _
  refine XS.goto X.here hx rfl (pc0 := 31) (pc' := 35) rfl (hb hby d3_31) (by decide) (by decide) ?_
  show Steps p.tables e below (T.setTop (mkF m 35 #[.val (.int v0)] [(.int (1 : Int32))])) _
  rw [show F3_30 = nar .boolean (1 : Int32) from rfl] at hr
  exact retN X hx (t := .boolean) hret (by simp) (hb hby d3_35) hr
def F3_34 : Int32 := (0 : Int32)
theorem b3_34 {p : Program} {l : Launch} {e : Env} {R : Room} {s : State} {m : MethodId} {args : Array Value} {below : List Frame} {meth : Method} {c : Code} {T : State} {locs : List Loc} {cells slots : Nat} {Z : State} {a0 : Array Value} (X : Stand p l e R s m args below meth c T locs cells slots) (hx : p.tables.exec = Jvm.exec) (hZ : Z.Warmed39 s.vm) (hw : ∀ d ∈ tables_1, d.before a0 Z = true) (hby : c.code = method_2_code) (hown : s.vm.findClass "com/example/kartegami/kartegami/xml/XmlWriterCanWritePinLaw" = some m.cls) (v0 : Int32) (hret : meth.sig.returnType = some .boolean) {fs : List Frame} (hr : ∀ (f : JFrame) (acts : List Action), f.method = m → f.locked = none → f.entered = [] → (doReturn e (T.setTop f) acts (some (.int F3_34))).1 = T.setFrames fs) : Steps p.tables e below (T.setTop (mkF m 34 #[.val (.int v0)] [])) (T.setFrames fs) := by
  show Steps p.tables e below (T.setTop (mkF m 34 #[.val (.int v0)] [])) _
  refine XS.iconst X.here hx rfl (hb hby d3_34) ?_
  show Steps p.tables e below (T.setTop (mkF m 35 #[.val (.int v0)] [(.int (0 : Int32))])) _
  rw [show F3_34 = nar .boolean (0 : Int32) from rfl] at hr
  exact retN X hx (t := .boolean) hret (by simp) (hb hby d3_35) hr
def F3_24 (v0 : Int32) : Int32 := if v0 = (13 : Int32) then F3_30 else F3_34
theorem b3_24 {p : Program} {l : Launch} {e : Env} {R : Room} {s : State} {m : MethodId} {args : Array Value} {below : List Frame} {meth : Method} {c : Code} {T : State} {locs : List Loc} {cells slots : Nat} {Z : State} {a0 : Array Value} (X : Stand p l e R s m args below meth c T locs cells slots) (hx : p.tables.exec = Jvm.exec) (hZ : Z.Warmed39 s.vm) (hw : ∀ d ∈ tables_1, d.before a0 Z = true) (hby : c.code = method_2_code) (hown : s.vm.findClass "com/example/kartegami/kartegami/xml/XmlWriterCanWritePinLaw" = some m.cls) (v0 : Int32) (hret : meth.sig.returnType = some .boolean) {fs : List Frame} (hr : ∀ (f : JFrame) (acts : List Action), f.method = m → f.locked = none → f.entered = [] → (doReturn e (T.setTop f) acts (some (.int (F3_24 v0)))).1 = T.setFrames fs) : Steps p.tables e below (T.setTop (mkF m 24 #[.val (.int v0)] [])) (T.setFrames fs) := by
  show Steps p.tables e below (T.setTop (mkF m 24 #[.val (.int v0)] [])) _
  refine XS.iloadN X.here hx rfl (hb hby d3_24) rfl ?_
  show Steps p.tables e below (T.setTop (mkF m 25 #[.val (.int v0)] [(.int v0)])) _
  refine XS.bipush X.here hx rfl (hb hby d3_25) ?_
  show Steps p.tables e below (T.setTop (mkF m 27 #[.val (.int v0)] [(.int (13 : Int32)), (.int v0)])) _
  by_cases hc : v0 = (13 : Int32)
  · rw [show (F3_24 v0) = F3_30 from if_pos hc] at hr
    refine XS.icmpNo X.here hx rfl (hb hby d3_27) rfl (teq hc).2 ?_
    exact b3_30 X hx hZ hw hby hown v0 hret hr
  · rw [show (F3_24 v0) = F3_34 from if_neg hc] at hr
    refine XS.icmpYes X.here hx rfl (pc0 := 27) (pc' := 34) rfl (hb hby d3_27) rfl (feq hc).2 (by decide) (by decide) ?_
    exact b3_34 X hx hZ hw hby hown v0 hret hr
def F3_18 (v0 : Int32) : Int32 := if v0 = (10 : Int32) then F3_30 else (F3_24 v0)
theorem b3_18 {p : Program} {l : Launch} {e : Env} {R : Room} {s : State} {m : MethodId} {args : Array Value} {below : List Frame} {meth : Method} {c : Code} {T : State} {locs : List Loc} {cells slots : Nat} {Z : State} {a0 : Array Value} (X : Stand p l e R s m args below meth c T locs cells slots) (hx : p.tables.exec = Jvm.exec) (hZ : Z.Warmed39 s.vm) (hw : ∀ d ∈ tables_1, d.before a0 Z = true) (hby : c.code = method_2_code) (hown : s.vm.findClass "com/example/kartegami/kartegami/xml/XmlWriterCanWritePinLaw" = some m.cls) (v0 : Int32) (hret : meth.sig.returnType = some .boolean) {fs : List Frame} (hr : ∀ (f : JFrame) (acts : List Action), f.method = m → f.locked = none → f.entered = [] → (doReturn e (T.setTop f) acts (some (.int (F3_18 v0)))).1 = T.setFrames fs) : Steps p.tables e below (T.setTop (mkF m 18 #[.val (.int v0)] [])) (T.setFrames fs) := by
  show Steps p.tables e below (T.setTop (mkF m 18 #[.val (.int v0)] [])) _
  refine XS.iloadN X.here hx rfl (hb hby d3_18) rfl ?_
  show Steps p.tables e below (T.setTop (mkF m 19 #[.val (.int v0)] [(.int v0)])) _
  refine XS.bipush X.here hx rfl (hb hby d3_19) ?_
  show Steps p.tables e below (T.setTop (mkF m 21 #[.val (.int v0)] [(.int (10 : Int32)), (.int v0)])) _
  by_cases hc : v0 = (10 : Int32)
  · rw [show (F3_18 v0) = F3_30 from if_pos hc] at hr
    refine XS.icmpYes X.here hx rfl (pc0 := 21) (pc' := 30) rfl (hb hby d3_21) rfl (teq hc).1 (by decide) (by decide) ?_
    exact b3_30 X hx hZ hw hby hown v0 hret hr
  · rw [show (F3_18 v0) = (F3_24 v0) from if_neg hc] at hr
    refine XS.icmpNo X.here hx rfl (hb hby d3_21) rfl (feq hc).1 ?_
    exact b3_24 X hx hZ hw hby hown v0 hret hr
def F3_12 (v0 : Int32) : Int32 := if v0 = (9 : Int32) then F3_30 else (F3_18 v0)
theorem b3_12 {p : Program} {l : Launch} {e : Env} {R : Room} {s : State} {m : MethodId} {args : Array Value} {below : List Frame} {meth : Method} {c : Code} {T : State} {locs : List Loc} {cells slots : Nat} {Z : State} {a0 : Array Value} (X : Stand p l e R s m args below meth c T locs cells slots) (hx : p.tables.exec = Jvm.exec) (hZ : Z.Warmed39 s.vm) (hw : ∀ d ∈ tables_1, d.before a0 Z = true) (hby : c.code = method_2_code) (hown : s.vm.findClass "com/example/kartegami/kartegami/xml/XmlWriterCanWritePinLaw" = some m.cls) (v0 : Int32) (hret : meth.sig.returnType = some .boolean) {fs : List Frame} (hr : ∀ (f : JFrame) (acts : List Action), f.method = m → f.locked = none → f.entered = [] → (doReturn e (T.setTop f) acts (some (.int (F3_12 v0)))).1 = T.setFrames fs) : Steps p.tables e below (T.setTop (mkF m 12 #[.val (.int v0)] [])) (T.setFrames fs) := by
  show Steps p.tables e below (T.setTop (mkF m 12 #[.val (.int v0)] [])) _
  refine XS.iloadN X.here hx rfl (hb hby d3_12) rfl ?_
  show Steps p.tables e below (T.setTop (mkF m 13 #[.val (.int v0)] [(.int v0)])) _
  refine XS.bipush X.here hx rfl (hb hby d3_13) ?_
  show Steps p.tables e below (T.setTop (mkF m 15 #[.val (.int v0)] [(.int (9 : Int32)), (.int v0)])) _
  by_cases hc : v0 = (9 : Int32)
  · rw [show (F3_12 v0) = F3_30 from if_pos hc] at hr
    refine XS.icmpYes X.here hx rfl (pc0 := 15) (pc' := 30) rfl (hb hby d3_15) rfl (teq hc).1 (by decide) (by decide) ?_
    exact b3_30 X hx hZ hw hby hown v0 hret hr
  · rw [show (F3_12 v0) = (F3_18 v0) from if_neg hc] at hr
    refine XS.icmpNo X.here hx rfl (hb hby d3_15) rfl (feq hc).1 ?_
    exact b3_18 X hx hZ hw hby hown v0 hret hr
def F3_6 (v0 : Int32) : Int32 := if v0 < (32 : Int32) then (F3_12 v0) else (F3_36 v0)
theorem b3_6 {p : Program} {l : Launch} {e : Env} {R : Room} {s : State} {m : MethodId} {args : Array Value} {below : List Frame} {meth : Method} {c : Code} {T : State} {locs : List Loc} {cells slots : Nat} {Z : State} {a0 : Array Value} (X : Stand p l e R s m args below meth c T locs cells slots) (hx : p.tables.exec = Jvm.exec) (hZ : Z.Warmed39 s.vm) (hw : ∀ d ∈ tables_1, d.before a0 Z = true) (hby : c.code = method_2_code) (hown : s.vm.findClass "com/example/kartegami/kartegami/xml/XmlWriterCanWritePinLaw" = some m.cls) (v0 : Int32) (hret : meth.sig.returnType = some .boolean) {fs : List Frame} (hr : ∀ (f : JFrame) (acts : List Action), f.method = m → f.locked = none → f.entered = [] → (doReturn e (T.setTop f) acts (some (.int (F3_6 v0)))).1 = T.setFrames fs) : Steps p.tables e below (T.setTop (mkF m 6 #[.val (.int v0)] [])) (T.setFrames fs) := by
  show Steps p.tables e below (T.setTop (mkF m 6 #[.val (.int v0)] [])) _
  refine XS.iloadN X.here hx rfl (hb hby d3_6) rfl ?_
  show Steps p.tables e below (T.setTop (mkF m 7 #[.val (.int v0)] [(.int v0)])) _
  refine XS.bipush X.here hx rfl (hb hby d3_7) ?_
  show Steps p.tables e below (T.setTop (mkF m 9 #[.val (.int v0)] [(.int (32 : Int32)), (.int v0)])) _
  by_cases hc : v0 < (32 : Int32)
  · rw [show (F3_6 v0) = (F3_12 v0) from if_pos hc] at hr
    refine XS.icmpNo X.here hx rfl (hb hby d3_9) rfl (tlt hc).2.1 ?_
    exact b3_12 X hx hZ hw hby hown v0 hret hr
  · rw [show (F3_6 v0) = (F3_36 v0) from if_neg hc] at hr
    refine XS.icmpYes X.here hx rfl (pc0 := 9) (pc' := 36) rfl (hb hby d3_9) rfl (flt hc).2.1 (by decide) (by decide) ?_
    exact b3_36 X hx hZ hw hby hown v0 hret hr
def F3_4 : Int32 := (0 : Int32)
theorem b3_4 {p : Program} {l : Launch} {e : Env} {R : Room} {s : State} {m : MethodId} {args : Array Value} {below : List Frame} {meth : Method} {c : Code} {T : State} {locs : List Loc} {cells slots : Nat} {Z : State} {a0 : Array Value} (X : Stand p l e R s m args below meth c T locs cells slots) (hx : p.tables.exec = Jvm.exec) (hZ : Z.Warmed39 s.vm) (hw : ∀ d ∈ tables_1, d.before a0 Z = true) (hby : c.code = method_2_code) (hown : s.vm.findClass "com/example/kartegami/kartegami/xml/XmlWriterCanWritePinLaw" = some m.cls) (v0 : Int32) (hret : meth.sig.returnType = some .boolean) {fs : List Frame} (hr : ∀ (f : JFrame) (acts : List Action), f.method = m → f.locked = none → f.entered = [] → (doReturn e (T.setTop f) acts (some (.int F3_4))).1 = T.setFrames fs) : Steps p.tables e below (T.setTop (mkF m 4 #[.val (.int v0)] [])) (T.setFrames fs) := by
  show Steps p.tables e below (T.setTop (mkF m 4 #[.val (.int v0)] [])) _
  refine XS.iconst X.here hx rfl (hb hby d3_4) ?_
  show Steps p.tables e below (T.setTop (mkF m 5 #[.val (.int v0)] [(.int (0 : Int32))])) _
  rw [show F3_4 = nar .boolean (0 : Int32) from rfl] at hr
  exact retN X hx (t := .boolean) hret (by simp) (hb hby d3_5) hr
def F3_0 (v0 : Int32) : Int32 := if v0 < (0 : Int32) then F3_4 else (F3_6 v0)
theorem b3_0 {p : Program} {l : Launch} {e : Env} {R : Room} {s : State} {m : MethodId} {args : Array Value} {below : List Frame} {meth : Method} {c : Code} {T : State} {locs : List Loc} {cells slots : Nat} {Z : State} {a0 : Array Value} (X : Stand p l e R s m args below meth c T locs cells slots) (hx : p.tables.exec = Jvm.exec) (hZ : Z.Warmed39 s.vm) (hw : ∀ d ∈ tables_1, d.before a0 Z = true) (hby : c.code = method_2_code) (hown : s.vm.findClass "com/example/kartegami/kartegami/xml/XmlWriterCanWritePinLaw" = some m.cls) (v0 : Int32) (hret : meth.sig.returnType = some .boolean) {fs : List Frame} (hr : ∀ (f : JFrame) (acts : List Action), f.method = m → f.locked = none → f.entered = [] → (doReturn e (T.setTop f) acts (some (.int (F3_0 v0)))).1 = T.setFrames fs) : Steps p.tables e below (T.setTop (mkF m 0 #[.val (.int v0)] [])) (T.setFrames fs) := by
  show Steps p.tables e below (T.setTop (mkF m 0 #[.val (.int v0)] [])) _
  refine XS.iloadN X.here hx rfl (hb hby d3_0) rfl ?_
  show Steps p.tables e below (T.setTop (mkF m 1 #[.val (.int v0)] [(.int v0)])) _
  by_cases hc : v0 < (0 : Int32)
  · rw [show (F3_0 v0) = F3_4 from if_pos hc] at hr
    refine XS.ifNo X.here hx rfl (hb hby d3_1) rfl ((if0 _ _).trans (tlt hc).2.1) ?_
    exact b3_4 X hx hZ hw hby hown v0 hret hr
  · rw [show (F3_0 v0) = (F3_6 v0) from if_neg hc] at hr
    refine XS.ifYes X.here hx rfl (pc0 := 1) (pc' := 6) rfl (hb hby d3_1) rfl ((if0 _ _).trans (flt hc).2.1) (by decide) (by decide) ?_
    exact b3_6 X hx hZ hw hby hown v0 hret hr
theorem pn_3 : plainName "com/example/kartegami/kartegami/xml/XmlWriterCanWritePinLaw" = true := by first | (simp [plainName, overriddenIn]; done) | decide +kernel
theorem ef_3 (m : MethodId) (p0 : Int32) : entryFrame m #[(.int p0)] 1 = mkF m 0 #[.val (.int p0)] [] := by first | (simp [entryFrame, mkF, argsToLocals, Value.category]; done) | rfl
def Q_rm3 (Z : State) (p0 : Int32) (h0 : Heap) (n0 : Nat) (v : Option Value) (h : Heap) (L : List Loc) : Prop := (v = some (.int (F3_0 p0)) ∧ Fr n0 L ∧ h = h0)
set_option maxRecDepth 65536 in
set_option maxHeartbeats 40000000 in
theorem rm3 (l : Launch) (Z : State) (a0 : Array Value) (hw : ∀ d ∈ tables_1, d.before a0 Z = true) (ws : List Jvm.Cond) (p0 : Int32) (h0 : Heap) (n0 : Nat) (Z0 : n0 ≤ h0.size) :
    MetFree l (⟨"com/example/kartegami/kartegami/xml/XmlWriterCanWritePinLaw", "reference", "(I)Z"⟩ : MethodName) (head1 (Jvm.Cond.code (⟨"com/example/kartegami/kartegami/xml/XmlWriterCanWritePinLaw", "reference", "(I)Z"⟩ : MethodName) method_2_code 1 (some .boolean) :: ws) ({ frames := 0, cells := 0, slots := 0, locals := 0 } : Room)) (fun a U => a = #[(.int p0)] ∧ Z.Warmed39 U.vm ∧ U.heap = h0) (fun _ _ _ _ _ => True) (fun _ U o U' => ∃ v L, o = .returned v ∧ Q_rm3 Z p0 h0 n0 v U'.heap L ∧ FrameEnd U o U' L ({ frames := 0, cells := 0, slots := 0, locals := 0 } : Room).cells ({ frames := 0, cells := 0, slots := 0, locals := 0 } : Room).slots) := by
  refine MetFree.of_bodySF (plainFor_of_name pn_3) hisR ?_
  intro p e s m args below meth c s₁ Bd hml0 hP hK
  obtain ⟨rfl, hZ, hh⟩ := hP
  have hx := Bd.exec
  have hby := Bd.bytes
  have hml : c.maxLocals = 1 := hml0
  have hown : s.vm.findClass "com/example/kartegami/kartegami/xml/XmlWriterCanWritePinLaw" = some m.cls := findClass_of_methodNamed Bd.named
  have hnm := (name_of_methodNamed Bd.named Bd.method).1
  have X0 : Stand p l e ({ frames := 0, cells := 0, slots := 0, locals := 0 } : Room) s m #[(.int p0)] below meth c s₁ [] 0 0 := Stand.of_body Bd
  have e0 : s₁.heap = h0 := by rw [← hh, Bd.state]; rfl
  have N0 := Fr.nil n0
  have pre0 : ∀ t, Steps p.tables e below (s₁.setTop (mkF m 0 #[.val (.int p0)] [])) t → Steps p.tables e below (s₁.setTop (entryFrame m #[(.int p0)] 1)) t := fun t k => castTop (ef_3 m p0) k
  obtain ⟨fs, hr, hrun, hended, hW, hsame⟩ := X0.leave (v := some (.int (F3_0 p0))) (fun h => by rw [Bd.returns] at h; cases h)
  refine ⟨_, _, pre0 _ ?_, hrun, hended, _, _, rfl, ⟨rfl, N0, e0⟩, ⟨_, rfl⟩, hW, hsame.mono (by decide) (by decide)⟩
  exact b3_0 X0 hx hZ hw hby hown p0 Bd.returns hr
theorem pn_0 : plainName "com/example/kartegami/kartegami/xml/XmlWriterCanWritePinLaw" = true := by first | (simp [plainName, overriddenIn]; done) | decide +kernel
theorem ef_0 (m : MethodId) (p0 : Int32) (p1 : Int32) (p2 : Int32) : entryFrame m #[(.int p0), (.int p1), (.int p2)] maxLocals = mkF m 0 #[.val (.int p0), .val (.int p1), .val (.int p2), .unset, .unset, .unset] [] := by first | (simp [entryFrame, mkF, argsToLocals, Value.category, maxLocals]; done) | rfl
def Q_rm0 (Z : State) (p0 : Int32) (p1 : Int32) (p2 : Int32) (h0 : Heap) (n0 : Nat) (v : Option Value) (h : Heap) (L : List Loc) : Prop := (v = some (.int (1 : Int32)) ∧ Fr n0 L)
set_option maxRecDepth 65536 in
set_option maxHeartbeats 40000000 in
theorem rm0 (l : Launch) (Z : State) (a0 : Array Value) (hw : ∀ d ∈ tables_1, d.before a0 Z = true) (ws : List Jvm.Cond) (p0 : Int32) (p1 : Int32) (p2 : Int32) (h0 : Heap) (n0 : Nat) (Z0 : n0 ≤ h0.size) (hc23 : (F2_0 p0) = (F3_0 p0)) (hc41 : (F2_0 ((F1_0 (p1 &&& (15 : Int32))) + ((p2 &&& (7 : Int32)) - (4 : Int32)))) = (F3_0 ((F1_0 (p1 &&& (15 : Int32))) + ((p2 &&& (7 : Int32)) - (4 : Int32))))) :
    MetFree l x (head1 (Jvm.Cond.code x code maxLocals ret :: ws) room_1) (fun a U => a = #[(.int p0), (.int p1), (.int p2)] ∧ Z.Warmed39 U.vm ∧ U.heap = h0) (fun _ _ _ _ _ => True) (fun _ U o U' => ∃ v L, o = .returned v ∧ Q_rm0 Z p0 p1 p2 h0 n0 v U'.heap L ∧ FrameEnd U o U' L room_1.cells room_1.slots) := by
  refine MetFree.of_bodySF (plainFor_of_name pn_0) hisR ?_
  intro p e s m args below meth c s₁ Bd hml0 hP hK
  obtain ⟨rfl, hZ, hh⟩ := hP
  have hx := Bd.exec
  have hby := Bd.bytes
  have hml : c.maxLocals = 6 := hml0
  have hown : s.vm.findClass "com/example/kartegami/kartegami/xml/XmlWriterCanWritePinLaw" = some m.cls := findClass_of_methodNamed Bd.named
  have hnm := (name_of_methodNamed Bd.named Bd.method).1
  have X0 : Stand p l e room_1 s m #[(.int p0), (.int p1), (.int p2)] below meth c s₁ [] 0 0 := Stand.of_body Bd
  have e0 : s₁.heap = h0 := by rw [← hh, Bd.state]; rfl
  have N0 := Fr.nil n0
  have pre0 : ∀ t, Steps p.tables e below (s₁.setTop (mkF m 0 #[.val (.int p0), .val (.int p1), .val (.int p2), .unset, .unset, .unset] [])) t → Steps p.tables e below (s₁.setTop (entryFrame m #[(.int p0), (.int p1), (.int p2)] maxLocals)) t := fun t k => castTop (ef_0 m p0 p1 p2) k
  obtain ⟨_, _, ⟨T1, L1, k1, n1⟩, -, X1, ⟨Lc1, hQ1, l1, y1, z1⟩, st1⟩ := Jvm.LawKit.callS X0 hx (y := (⟨"com/example/kartegami/kartegami/xml/XmlWriterCanWritePinLaw", "boundary", "(I)I"⟩ : MethodName)) hown (mvT hZ (hw _ (List.mem_of_getElem? (i := 0) rfl))) (mvT hZ (hw _ (List.mem_of_getElem? (i := 1) rfl))) (mvT hZ (hw _ (List.mem_of_getElem? (i := 2) rfl))) (mvT hZ (hw _ (List.mem_of_getElem? (i := 3) rfl))) (by decide) (backOf (W := 0) (rm1 l Z a0 hw [] (p1 &&& (15 : Int32)) h0 n0 Z0) hZ (hw _ (List.mem_of_getElem? (i := 3) rfl)) (hw _ (List.mem_of_getElem? (i := 2) rfl)) (by decide) (by decide)) (g := (mkF m 4 #[.val (.int p0), .val (.int p1), .val (.int p2), .unset, .unset, .unset] [(.int (p1 &&& (15 : Int32)))])) rfl (by rw [hml]; rfl) (argsL := [(.int (p1 &&& (15 : Int32)))]) (rest := []) (lenOf pd0 rfl) rfl (by show 2 * 0 + _ ≤ _; exact Nat.le_of_eq rfl) (hb hby at_4) (fun _ _ => ⟨rfl, e0, (by decide : 0 + 0 ≤ _), (by decide : 0 + 0 ≤ _)⟩)
  dsimp only [Pt.U, Pt.locs, Pt.cells, Pt.slots] at X1 l1 y1 z1 st1 hQ1
  subst l1 y1 z1
  obtain ⟨rfl, N1q, e1⟩ := hQ1
  have N1 := Fr.app N0 N1q
  obtain ⟨_, _, ⟨T2, L2, k2, n2⟩, -, X2, ⟨Lc2, hQ2, l2, y2, z2⟩, st2⟩ := Jvm.LawKit.callS X1 hx (y := (⟨"com/example/kartegami/kartegami/xml/XmlWriter", "canWrite", "(I)Z"⟩ : MethodName)) hown (mvT hZ (hw _ (List.mem_of_getElem? (i := 4) rfl))) (mvT hZ (hw _ (List.mem_of_getElem? (i := 5) rfl))) (mvT hZ (hw _ (List.mem_of_getElem? (i := 6) rfl))) (mvT hZ (hw _ (List.mem_of_getElem? (i := 7) rfl))) (by decide) (backOf (W := 0) (rm2 l Z a0 hw [] p0 h0 n0 Z0) hZ (hw _ (List.mem_of_getElem? (i := 7) rfl)) (hw _ (List.mem_of_getElem? (i := 6) rfl)) (by decide) (by decide)) (g := (mkF m 16 #[.val (.int p0), .val (.int p1), .val (.int p2), .val (.int ((F1_0 (p1 &&& (15 : Int32))) + ((p2 &&& (7 : Int32)) - (4 : Int32)))), .unset, .unset] [(.int p0)])) rfl (by rw [hml]; rfl) (argsL := [(.int p0)]) (rest := []) (lenOf pd1 rfl) rfl (by show 2 * 0 + _ ≤ _; exact Nat.le_of_eq rfl) (hb hby at_16) (fun _ _ => ⟨rfl, e1, (by decide : 0 + 0 ≤ _), (by decide : 0 + 0 ≤ _)⟩)
  dsimp only [Pt.U, Pt.locs, Pt.cells, Pt.slots] at X2 l2 y2 z2 st2 hQ2
  subst l2 y2 z2
  obtain ⟨rfl, N2q, e2⟩ := hQ2
  have N2 := Fr.app N1 N2q
  obtain ⟨_, _, ⟨T3, L3, k3, n3⟩, -, X3, ⟨Lc3, hQ3, l3, y3, z3⟩, st3⟩ := Jvm.LawKit.callS X2 hx (y := (⟨"com/example/kartegami/kartegami/xml/XmlWriterCanWritePinLaw", "reference", "(I)Z"⟩ : MethodName)) hown (mvT hZ (hw _ (List.mem_of_getElem? (i := 10) rfl))) (mvT hZ (hw _ (List.mem_of_getElem? (i := 11) rfl))) (mvT hZ (hw _ (List.mem_of_getElem? (i := 2) rfl))) (mvT hZ (hw _ (List.mem_of_getElem? (i := 12) rfl))) (by decide) (backOf (W := 1) (rm3 l Z a0 hw [] p0 h0 n0 Z0) hZ (hw _ (List.mem_of_getElem? (i := 12) rfl)) (hw _ (List.mem_of_getElem? (i := 2) rfl)) (by decide) (by decide)) (g := (mkF m 20 #[.val (.int p0), .val (.int p1), .val (.int p2), .val (.int ((F1_0 (p1 &&& (15 : Int32))) + ((p2 &&& (7 : Int32)) - (4 : Int32)))), .unset, .unset] [(.int p0), (.int (F2_0 p0))])) rfl (by rw [hml]; rfl) (argsL := [(.int p0)]) (rest := [(.int (F2_0 p0))]) (lenOf pd1 rfl) rfl (by show 2 * 0 + _ ≤ _; exact Nat.le_of_eq rfl) (hb hby at_20) (fun _ _ => ⟨rfl, e2, (by decide : 0 + 0 ≤ _), (by decide : 0 + 0 ≤ _)⟩)
  dsimp only [Pt.U, Pt.locs, Pt.cells, Pt.slots] at X3 l3 y3 z3 st3 hQ3
  subst l3 y3 z3
  obtain ⟨rfl, N3q, e3⟩ := hQ3
  have N3 := Fr.app N2 N3q
  obtain ⟨_, _, ⟨T4, L4, k4, n4⟩, -, X4, ⟨Lc4, hQ4, l4, y4, z4⟩, st4⟩ := Jvm.LawKit.callS X3 hx (y := (⟨"com/example/kartegami/kartegami/xml/XmlWriter", "canWrite", "(I)Z"⟩ : MethodName)) hown (mvT hZ (hw _ (List.mem_of_getElem? (i := 4) rfl))) (mvT hZ (hw _ (List.mem_of_getElem? (i := 5) rfl))) (mvT hZ (hw _ (List.mem_of_getElem? (i := 6) rfl))) (mvT hZ (hw _ (List.mem_of_getElem? (i := 7) rfl))) (by decide) (backOf (W := 0) (rm2 l Z a0 hw [] ((F1_0 (p1 &&& (15 : Int32))) + ((p2 &&& (7 : Int32)) - (4 : Int32))) h0 n0 Z0) hZ (hw _ (List.mem_of_getElem? (i := 7) rfl)) (hw _ (List.mem_of_getElem? (i := 6) rfl)) (by decide) (by decide)) (g := (mkF m 34 #[.val (.int p0), .val (.int p1), .val (.int p2), .val (.int ((F1_0 (p1 &&& (15 : Int32))) + ((p2 &&& (7 : Int32)) - (4 : Int32)))), .val (.int (1 : Int32)), .unset] [(.int ((F1_0 (p1 &&& (15 : Int32))) + ((p2 &&& (7 : Int32)) - (4 : Int32))))])) rfl (by rw [hml]; rfl) (argsL := [(.int ((F1_0 (p1 &&& (15 : Int32))) + ((p2 &&& (7 : Int32)) - (4 : Int32))))]) (rest := []) (lenOf pd1 rfl) rfl (by show 2 * 0 + _ ≤ _; exact Nat.le_of_eq rfl) (hb hby at_34) (fun _ _ => ⟨rfl, e3, (by decide : 0 + 0 ≤ _), (by decide : 0 + 0 ≤ _)⟩)
  dsimp only [Pt.U, Pt.locs, Pt.cells, Pt.slots] at X4 l4 y4 z4 st4 hQ4
  subst l4 y4 z4
  obtain ⟨rfl, N4q, e4⟩ := hQ4
  have N4 := Fr.app N3 N4q
  obtain ⟨_, _, ⟨T5, L5, k5, n5⟩, -, X5, ⟨Lc5, hQ5, l5, y5, z5⟩, st5⟩ := Jvm.LawKit.callS X4 hx (y := (⟨"com/example/kartegami/kartegami/xml/XmlWriterCanWritePinLaw", "reference", "(I)Z"⟩ : MethodName)) hown (mvT hZ (hw _ (List.mem_of_getElem? (i := 10) rfl))) (mvT hZ (hw _ (List.mem_of_getElem? (i := 11) rfl))) (mvT hZ (hw _ (List.mem_of_getElem? (i := 2) rfl))) (mvT hZ (hw _ (List.mem_of_getElem? (i := 12) rfl))) (by decide) (backOf (W := 1) (rm3 l Z a0 hw [] ((F1_0 (p1 &&& (15 : Int32))) + ((p2 &&& (7 : Int32)) - (4 : Int32))) h0 n0 Z0) hZ (hw _ (List.mem_of_getElem? (i := 12) rfl)) (hw _ (List.mem_of_getElem? (i := 2) rfl)) (by decide) (by decide)) (g := (mkF m 38 #[.val (.int p0), .val (.int p1), .val (.int p2), .val (.int ((F1_0 (p1 &&& (15 : Int32))) + ((p2 &&& (7 : Int32)) - (4 : Int32)))), .val (.int (1 : Int32)), .unset] [(.int ((F1_0 (p1 &&& (15 : Int32))) + ((p2 &&& (7 : Int32)) - (4 : Int32)))), (.int (F2_0 ((F1_0 (p1 &&& (15 : Int32))) + ((p2 &&& (7 : Int32)) - (4 : Int32)))))])) rfl (by rw [hml]; rfl) (argsL := [(.int ((F1_0 (p1 &&& (15 : Int32))) + ((p2 &&& (7 : Int32)) - (4 : Int32))))]) (rest := [(.int (F2_0 ((F1_0 (p1 &&& (15 : Int32))) + ((p2 &&& (7 : Int32)) - (4 : Int32)))))]) (lenOf pd1 rfl) rfl (by show 2 * 0 + _ ≤ _; exact Nat.le_of_eq rfl) (hb hby at_38) (fun _ _ => ⟨rfl, e4, (by decide : 0 + 0 ≤ _), (by decide : 0 + 0 ≤ _)⟩)
  dsimp only [Pt.U, Pt.locs, Pt.cells, Pt.slots] at X5 l5 y5 z5 st5 hQ5
  subst l5 y5 z5
  obtain ⟨rfl, N5q, e5⟩ := hQ5
  have N5 := Fr.app N4 N5q
  obtain ⟨fs, hr, hrun, hended, hW, hsame⟩ := X5.leave (v := some (.int (1 : Int32))) (fun h => by rw [Bd.returns] at h; cases h)
  refine ⟨_, _, pre0 _ ?_, hrun, hended, _, _, rfl, ⟨rfl, N5⟩, ⟨_, rfl⟩, hW, hsame.mono (by decide) (by decide)⟩
  show Steps p.tables e below (s₁.setTop (mkF m 0 #[.val (.int p0), .val (.int p1), .val (.int p2), .unset, .unset, .unset] [])) _
  refine XS.iloadN X0.here hx rfl (hb hby at_0) rfl ?_
  show Steps p.tables e below (s₁.setTop (mkF m 1 #[.val (.int p0), .val (.int p1), .val (.int p2), .unset, .unset, .unset] [(.int p1)])) _
  refine XS.bipush X0.here hx rfl (hb hby at_1) ?_
  show Steps p.tables e below (s₁.setTop (mkF m 3 #[.val (.int p0), .val (.int p1), .val (.int p2), .unset, .unset, .unset] [(.int (15 : Int32)), (.int p1)])) _
  refine XS.iand X0.here hx rfl (hb hby at_3) rfl ?_
  show Steps p.tables e below (s₁.setTop (mkF m 4 #[.val (.int p0), .val (.int p1), .val (.int p2), .unset, .unset, .unset] [(.int (p1 &&& (15 : Int32)))])) _
  refine st1 _ ?_
  show Steps p.tables e below (T1.setTop (mkF m 7 #[.val (.int p0), .val (.int p1), .val (.int p2), .unset, .unset, .unset] [(.int (F1_0 (p1 &&& (15 : Int32))))])) _
  refine XS.iloadN X1.here hx rfl (hb hby at_7) rfl ?_
  show Steps p.tables e below (T1.setTop (mkF m 8 #[.val (.int p0), .val (.int p1), .val (.int p2), .unset, .unset, .unset] [(.int p2), (.int (F1_0 (p1 &&& (15 : Int32))))])) _
  refine XS.bipush X1.here hx rfl (hb hby at_8) ?_
  show Steps p.tables e below (T1.setTop (mkF m 10 #[.val (.int p0), .val (.int p1), .val (.int p2), .unset, .unset, .unset] [(.int (7 : Int32)), (.int p2), (.int (F1_0 (p1 &&& (15 : Int32))))])) _
  refine XS.iand X1.here hx rfl (hb hby at_10) rfl ?_
  show Steps p.tables e below (T1.setTop (mkF m 11 #[.val (.int p0), .val (.int p1), .val (.int p2), .unset, .unset, .unset] [(.int (p2 &&& (7 : Int32))), (.int (F1_0 (p1 &&& (15 : Int32))))])) _
  refine XS.iconst X1.here hx rfl (hb hby at_11) ?_
  show Steps p.tables e below (T1.setTop (mkF m 12 #[.val (.int p0), .val (.int p1), .val (.int p2), .unset, .unset, .unset] [(.int (4 : Int32)), (.int (p2 &&& (7 : Int32))), (.int (F1_0 (p1 &&& (15 : Int32))))])) _
  refine XS.isub X1.here hx rfl (hb hby at_12) rfl ?_
  show Steps p.tables e below (T1.setTop (mkF m 13 #[.val (.int p0), .val (.int p1), .val (.int p2), .unset, .unset, .unset] [(.int ((p2 &&& (7 : Int32)) - (4 : Int32))), (.int (F1_0 (p1 &&& (15 : Int32))))])) _
  refine XS.iadd X1.here hx rfl (hb hby at_13) rfl ?_
  show Steps p.tables e below (T1.setTop (mkF m 14 #[.val (.int p0), .val (.int p1), .val (.int p2), .unset, .unset, .unset] [(.int ((F1_0 (p1 &&& (15 : Int32))) + ((p2 &&& (7 : Int32)) - (4 : Int32))))])) _
  refine XS.istoreN X1.here hx rfl (hb hby at_14) rfl (l' := #[.val (.int p0), .val (.int p1), .val (.int p2), .val (.int ((F1_0 (p1 &&& (15 : Int32))) + ((p2 &&& (7 : Int32)) - (4 : Int32)))), .unset, .unset]) rfl ?_
  show Steps p.tables e below (T1.setTop (mkF m 15 #[.val (.int p0), .val (.int p1), .val (.int p2), .val (.int ((F1_0 (p1 &&& (15 : Int32))) + ((p2 &&& (7 : Int32)) - (4 : Int32)))), .unset, .unset] [])) _
  refine XS.iloadN X1.here hx rfl (hb hby at_15) rfl ?_
  show Steps p.tables e below (T1.setTop (mkF m 16 #[.val (.int p0), .val (.int p1), .val (.int p2), .val (.int ((F1_0 (p1 &&& (15 : Int32))) + ((p2 &&& (7 : Int32)) - (4 : Int32)))), .unset, .unset] [(.int p0)])) _
  refine st2 _ ?_
  show Steps p.tables e below (T2.setTop (mkF m 19 #[.val (.int p0), .val (.int p1), .val (.int p2), .val (.int ((F1_0 (p1 &&& (15 : Int32))) + ((p2 &&& (7 : Int32)) - (4 : Int32)))), .unset, .unset] [(.int (F2_0 p0))])) _
  refine XS.iloadN X2.here hx rfl (hb hby at_19) rfl ?_
  show Steps p.tables e below (T2.setTop (mkF m 20 #[.val (.int p0), .val (.int p1), .val (.int p2), .val (.int ((F1_0 (p1 &&& (15 : Int32))) + ((p2 &&& (7 : Int32)) - (4 : Int32)))), .unset, .unset] [(.int p0), (.int (F2_0 p0))])) _
  refine st3 _ ?_
  show Steps p.tables e below (T3.setTop (mkF m 23 #[.val (.int p0), .val (.int p1), .val (.int p2), .val (.int ((F1_0 (p1 &&& (15 : Int32))) + ((p2 &&& (7 : Int32)) - (4 : Int32)))), .unset, .unset] [(.int (F3_0 p0)), (.int (F2_0 p0))])) _
  refine XS.icmpNo X3.here hx rfl (hb hby at_23) rfl (teq hc23).2 ?_
  show Steps p.tables e below (T3.setTop (mkF m 26 #[.val (.int p0), .val (.int p1), .val (.int p2), .val (.int ((F1_0 (p1 &&& (15 : Int32))) + ((p2 &&& (7 : Int32)) - (4 : Int32)))), .unset, .unset] [])) _
  refine XS.iconst X3.here hx rfl (hb hby at_26) ?_
  show Steps p.tables e below (T3.setTop (mkF m 27 #[.val (.int p0), .val (.int p1), .val (.int p2), .val (.int ((F1_0 (p1 &&& (15 : Int32))) + ((p2 &&& (7 : Int32)) - (4 : Int32)))), .unset, .unset] [(.int (1 : Int32))])) _
  refine XS.goto X3.here hx rfl (pc0 := 27) (pc' := 31) rfl (hb hby at_27) (by decide) (by decide) ?_
  show Steps p.tables e below (T3.setTop (mkF m 31 #[.val (.int p0), .val (.int p1), .val (.int p2), .val (.int ((F1_0 (p1 &&& (15 : Int32))) + ((p2 &&& (7 : Int32)) - (4 : Int32)))), .unset, .unset] [(.int (1 : Int32))])) _
  refine XS.istore X3.here hx rfl (hb hby at_31) rfl (l' := #[.val (.int p0), .val (.int p1), .val (.int p2), .val (.int ((F1_0 (p1 &&& (15 : Int32))) + ((p2 &&& (7 : Int32)) - (4 : Int32)))), .val (.int (1 : Int32)), .unset]) rfl ?_
  show Steps p.tables e below (T3.setTop (mkF m 33 #[.val (.int p0), .val (.int p1), .val (.int p2), .val (.int ((F1_0 (p1 &&& (15 : Int32))) + ((p2 &&& (7 : Int32)) - (4 : Int32)))), .val (.int (1 : Int32)), .unset] [])) _
  refine XS.iloadN X3.here hx rfl (hb hby at_33) rfl ?_
  show Steps p.tables e below (T3.setTop (mkF m 34 #[.val (.int p0), .val (.int p1), .val (.int p2), .val (.int ((F1_0 (p1 &&& (15 : Int32))) + ((p2 &&& (7 : Int32)) - (4 : Int32)))), .val (.int (1 : Int32)), .unset] [(.int ((F1_0 (p1 &&& (15 : Int32))) + ((p2 &&& (7 : Int32)) - (4 : Int32))))])) _
  refine st4 _ ?_
  show Steps p.tables e below (T4.setTop (mkF m 37 #[.val (.int p0), .val (.int p1), .val (.int p2), .val (.int ((F1_0 (p1 &&& (15 : Int32))) + ((p2 &&& (7 : Int32)) - (4 : Int32)))), .val (.int (1 : Int32)), .unset] [(.int (F2_0 ((F1_0 (p1 &&& (15 : Int32))) + ((p2 &&& (7 : Int32)) - (4 : Int32)))))])) _
  refine XS.iloadN X4.here hx rfl (hb hby at_37) rfl ?_
  show Steps p.tables e below (T4.setTop (mkF m 38 #[.val (.int p0), .val (.int p1), .val (.int p2), .val (.int ((F1_0 (p1 &&& (15 : Int32))) + ((p2 &&& (7 : Int32)) - (4 : Int32)))), .val (.int (1 : Int32)), .unset] [(.int ((F1_0 (p1 &&& (15 : Int32))) + ((p2 &&& (7 : Int32)) - (4 : Int32)))), (.int (F2_0 ((F1_0 (p1 &&& (15 : Int32))) + ((p2 &&& (7 : Int32)) - (4 : Int32)))))])) _
  refine st5 _ ?_
  show Steps p.tables e below (T5.setTop (mkF m 41 #[.val (.int p0), .val (.int p1), .val (.int p2), .val (.int ((F1_0 (p1 &&& (15 : Int32))) + ((p2 &&& (7 : Int32)) - (4 : Int32)))), .val (.int (1 : Int32)), .unset] [(.int (F3_0 ((F1_0 (p1 &&& (15 : Int32))) + ((p2 &&& (7 : Int32)) - (4 : Int32))))), (.int (F2_0 ((F1_0 (p1 &&& (15 : Int32))) + ((p2 &&& (7 : Int32)) - (4 : Int32)))))])) _
  refine XS.icmpNo X5.here hx rfl (hb hby at_41) rfl (teq hc41).2 ?_
  show Steps p.tables e below (T5.setTop (mkF m 44 #[.val (.int p0), .val (.int p1), .val (.int p2), .val (.int ((F1_0 (p1 &&& (15 : Int32))) + ((p2 &&& (7 : Int32)) - (4 : Int32)))), .val (.int (1 : Int32)), .unset] [])) _
  refine XS.iconst X5.here hx rfl (hb hby at_44) ?_
  show Steps p.tables e below (T5.setTop (mkF m 45 #[.val (.int p0), .val (.int p1), .val (.int p2), .val (.int ((F1_0 (p1 &&& (15 : Int32))) + ((p2 &&& (7 : Int32)) - (4 : Int32)))), .val (.int (1 : Int32)), .unset] [(.int (1 : Int32))])) _
  refine XS.goto X5.here hx rfl (pc0 := 45) (pc' := 49) rfl (hb hby at_45) (by decide) (by decide) ?_
  show Steps p.tables e below (T5.setTop (mkF m 49 #[.val (.int p0), .val (.int p1), .val (.int p2), .val (.int ((F1_0 (p1 &&& (15 : Int32))) + ((p2 &&& (7 : Int32)) - (4 : Int32)))), .val (.int (1 : Int32)), .unset] [(.int (1 : Int32))])) _
  refine XS.istore X5.here hx rfl (hb hby at_49) rfl (l' := #[.val (.int p0), .val (.int p1), .val (.int p2), .val (.int ((F1_0 (p1 &&& (15 : Int32))) + ((p2 &&& (7 : Int32)) - (4 : Int32)))), .val (.int (1 : Int32)), .val (.int (1 : Int32))]) rfl ?_
  show Steps p.tables e below (T5.setTop (mkF m 51 #[.val (.int p0), .val (.int p1), .val (.int p2), .val (.int ((F1_0 (p1 &&& (15 : Int32))) + ((p2 &&& (7 : Int32)) - (4 : Int32)))), .val (.int (1 : Int32)), .val (.int (1 : Int32))] [])) _
  refine XS.iload X5.here hx rfl (hb hby at_51) rfl ?_
  show Steps p.tables e below (T5.setTop (mkF m 53 #[.val (.int p0), .val (.int p1), .val (.int p2), .val (.int ((F1_0 (p1 &&& (15 : Int32))) + ((p2 &&& (7 : Int32)) - (4 : Int32)))), .val (.int (1 : Int32)), .val (.int (1 : Int32))] [(.int (1 : Int32))])) _
  refine XS.ifNo X5.here hx rfl (hb hby at_53) rfl ((if0 _ _).trans (feq (by decide)).1) ?_
  show Steps p.tables e below (T5.setTop (mkF m 56 #[.val (.int p0), .val (.int p1), .val (.int p2), .val (.int ((F1_0 (p1 &&& (15 : Int32))) + ((p2 &&& (7 : Int32)) - (4 : Int32)))), .val (.int (1 : Int32)), .val (.int (1 : Int32))] [])) _
  refine XS.iload X5.here hx rfl (hb hby at_56) rfl ?_
  show Steps p.tables e below (T5.setTop (mkF m 58 #[.val (.int p0), .val (.int p1), .val (.int p2), .val (.int ((F1_0 (p1 &&& (15 : Int32))) + ((p2 &&& (7 : Int32)) - (4 : Int32)))), .val (.int (1 : Int32)), .val (.int (1 : Int32))] [(.int (1 : Int32))])) _
  refine XS.ifNo X5.here hx rfl (hb hby at_58) rfl ((if0 _ _).trans (feq (by decide)).1) ?_
  show Steps p.tables e below (T5.setTop (mkF m 61 #[.val (.int p0), .val (.int p1), .val (.int p2), .val (.int ((F1_0 (p1 &&& (15 : Int32))) + ((p2 &&& (7 : Int32)) - (4 : Int32)))), .val (.int (1 : Int32)), .val (.int (1 : Int32))] [])) _
  refine XS.iconst X5.here hx rfl (hb hby at_61) ?_
  show Steps p.tables e below (T5.setTop (mkF m 62 #[.val (.int p0), .val (.int p1), .val (.int p2), .val (.int ((F1_0 (p1 &&& (15 : Int32))) + ((p2 &&& (7 : Int32)) - (4 : Int32)))), .val (.int (1 : Int32)), .val (.int (1 : Int32))] [(.int (1 : Int32))])) _
  refine XS.goto X5.here hx rfl (pc0 := 62) (pc' := 66) rfl (hb hby at_62) (by decide) (by decide) ?_
  show Steps p.tables e below (T5.setTop (mkF m 66 #[.val (.int p0), .val (.int p1), .val (.int p2), .val (.int ((F1_0 (p1 &&& (15 : Int32))) + ((p2 &&& (7 : Int32)) - (4 : Int32)))), .val (.int (1 : Int32)), .val (.int (1 : Int32))] [(.int (1 : Int32))])) _
  exact retN X5 hx (t := .boolean) Bd.returns (by simp) (hb hby at_66) hr
theorem own_lt {v c : Int32} {z : Int} (hc : c.toInt = z) (h : v.toInt < z) : v < c := by rw [Int32.lt_iff_toInt_lt, hc]; exact h
theorem own_nlt {v c : Int32} {z : Int} (hc : c.toInt = z) (h : z ≤ v.toInt) : ¬ v < c := by rw [Int32.lt_iff_toInt_lt, hc]; omega
theorem own_gt {v c : Int32} {z : Int} (hc : c.toInt = z) (h : z < v.toInt) : c < v := by rw [Int32.lt_iff_toInt_lt, hc]; exact h
theorem own_ngt {v c : Int32} {z : Int} (hc : c.toInt = z) (h : v.toInt ≤ z) : ¬ c < v := by rw [Int32.lt_iff_toInt_lt, hc]; omega
theorem own_eq {v c : Int32} {z : Int} (hc : c.toInt = z) (h : v.toInt = z) : v = c := by rw [← Int32.toInt_inj, hc]; exact h
theorem own_neq {v c : Int32} {z : Int} (hc : c.toInt = z) (h : v.toInt ≠ z) : ¬ v = c := by rw [← Int32.toInt_inj, hc]; exact h
theorem own_same_0 (v : Int32) (h1 : -2147483648 ≤ v.toInt) (h2 : v.toInt ≤ -1) : (F2_0 v) = (0 : Int32) ∧ (F3_0 v) = (0 : Int32) := by
  refine ⟨?_, ?_⟩
  · rw [show (F2_0 v) = (F2_6 v) from if_neg (own_neq (z := 9) rfl (by omega))]
    rw [show (F2_6 v) = (F2_12 v) from if_neg (own_neq (z := 10) rfl (by omega))]
    rw [show (F2_12 v) = (F2_18 v) from if_neg (own_neq (z := 13) rfl (by omega))]
    rw [show (F2_18 v) = (F2_31 v) from if_pos (own_lt (z := 32) rfl (by omega))]
    rw [show (F2_31 v) = (F2_45 v) from if_pos (own_lt (z := 57344) rfl (by omega))]
    rw [show (F2_45 v) = F2_63 from if_pos (own_lt (z := 65536) rfl (by omega))]
    rfl
  · rw [show (F3_0 v) = F3_4 from if_pos (own_lt (z := 0) rfl (by omega))]
    rfl
theorem own_same_1 (v : Int32) (h1 : 0 ≤ v.toInt) (h2 : v.toInt ≤ 8) : (F2_0 v) = (0 : Int32) ∧ (F3_0 v) = (0 : Int32) := by
  refine ⟨?_, ?_⟩
  · rw [show (F2_0 v) = (F2_6 v) from if_neg (own_neq (z := 9) rfl (by omega))]
    rw [show (F2_6 v) = (F2_12 v) from if_neg (own_neq (z := 10) rfl (by omega))]
    rw [show (F2_12 v) = (F2_18 v) from if_neg (own_neq (z := 13) rfl (by omega))]
    rw [show (F2_18 v) = (F2_31 v) from if_pos (own_lt (z := 32) rfl (by omega))]
    rw [show (F2_31 v) = (F2_45 v) from if_pos (own_lt (z := 57344) rfl (by omega))]
    rw [show (F2_45 v) = F2_63 from if_pos (own_lt (z := 65536) rfl (by omega))]
    rfl
  · rw [show (F3_0 v) = (F3_6 v) from if_neg (own_nlt (z := 0) rfl (by omega))]
    rw [show (F3_6 v) = (F3_12 v) from if_pos (own_lt (z := 32) rfl (by omega))]
    rw [show (F3_12 v) = (F3_18 v) from if_neg (own_neq (z := 9) rfl (by omega))]
    rw [show (F3_18 v) = (F3_24 v) from if_neg (own_neq (z := 10) rfl (by omega))]
    rw [show (F3_24 v) = F3_34 from if_neg (own_neq (z := 13) rfl (by omega))]
    rfl
theorem own_same_2 (v : Int32) (h1 : 9 ≤ v.toInt) (h2 : v.toInt ≤ 9) : (F2_0 v) = (1 : Int32) ∧ (F3_0 v) = (1 : Int32) := by
  refine ⟨?_, ?_⟩
  · rw [show (F2_0 v) = F2_59 from if_pos (own_eq (z := 9) rfl (by omega))]
    rfl
  · rw [show (F3_0 v) = (F3_6 v) from if_neg (own_nlt (z := 0) rfl (by omega))]
    rw [show (F3_6 v) = (F3_12 v) from if_pos (own_lt (z := 32) rfl (by omega))]
    rw [show (F3_12 v) = F3_30 from if_pos (own_eq (z := 9) rfl (by omega))]
    rfl
theorem own_same_3 (v : Int32) (h1 : 10 ≤ v.toInt) (h2 : v.toInt ≤ 10) : (F2_0 v) = (1 : Int32) ∧ (F3_0 v) = (1 : Int32) := by
  refine ⟨?_, ?_⟩
  · rw [show (F2_0 v) = (F2_6 v) from if_neg (own_neq (z := 9) rfl (by omega))]
    rw [show (F2_6 v) = F2_59 from if_pos (own_eq (z := 10) rfl (by omega))]
    rfl
  · rw [show (F3_0 v) = (F3_6 v) from if_neg (own_nlt (z := 0) rfl (by omega))]
    rw [show (F3_6 v) = (F3_12 v) from if_pos (own_lt (z := 32) rfl (by omega))]
    rw [show (F3_12 v) = (F3_18 v) from if_neg (own_neq (z := 9) rfl (by omega))]
    rw [show (F3_18 v) = F3_30 from if_pos (own_eq (z := 10) rfl (by omega))]
    rfl
theorem own_same_4 (v : Int32) (h1 : 11 ≤ v.toInt) (h2 : v.toInt ≤ 12) : (F2_0 v) = (0 : Int32) ∧ (F3_0 v) = (0 : Int32) := by
  refine ⟨?_, ?_⟩
  · rw [show (F2_0 v) = (F2_6 v) from if_neg (own_neq (z := 9) rfl (by omega))]
    rw [show (F2_6 v) = (F2_12 v) from if_neg (own_neq (z := 10) rfl (by omega))]
    rw [show (F2_12 v) = (F2_18 v) from if_neg (own_neq (z := 13) rfl (by omega))]
    rw [show (F2_18 v) = (F2_31 v) from if_pos (own_lt (z := 32) rfl (by omega))]
    rw [show (F2_31 v) = (F2_45 v) from if_pos (own_lt (z := 57344) rfl (by omega))]
    rw [show (F2_45 v) = F2_63 from if_pos (own_lt (z := 65536) rfl (by omega))]
    rfl
  · rw [show (F3_0 v) = (F3_6 v) from if_neg (own_nlt (z := 0) rfl (by omega))]
    rw [show (F3_6 v) = (F3_12 v) from if_pos (own_lt (z := 32) rfl (by omega))]
    rw [show (F3_12 v) = (F3_18 v) from if_neg (own_neq (z := 9) rfl (by omega))]
    rw [show (F3_18 v) = (F3_24 v) from if_neg (own_neq (z := 10) rfl (by omega))]
    rw [show (F3_24 v) = F3_34 from if_neg (own_neq (z := 13) rfl (by omega))]
    rfl
theorem own_same_5 (v : Int32) (h1 : 13 ≤ v.toInt) (h2 : v.toInt ≤ 13) : (F2_0 v) = (1 : Int32) ∧ (F3_0 v) = (1 : Int32) := by
  refine ⟨?_, ?_⟩
  · rw [show (F2_0 v) = (F2_6 v) from if_neg (own_neq (z := 9) rfl (by omega))]
    rw [show (F2_6 v) = (F2_12 v) from if_neg (own_neq (z := 10) rfl (by omega))]
    rw [show (F2_12 v) = F2_59 from if_pos (own_eq (z := 13) rfl (by omega))]
    rfl
  · rw [show (F3_0 v) = (F3_6 v) from if_neg (own_nlt (z := 0) rfl (by omega))]
    rw [show (F3_6 v) = (F3_12 v) from if_pos (own_lt (z := 32) rfl (by omega))]
    rw [show (F3_12 v) = (F3_18 v) from if_neg (own_neq (z := 9) rfl (by omega))]
    rw [show (F3_18 v) = (F3_24 v) from if_neg (own_neq (z := 10) rfl (by omega))]
    rw [show (F3_24 v) = F3_30 from if_pos (own_eq (z := 13) rfl (by omega))]
    rfl
theorem own_same_6 (v : Int32) (h1 : 14 ≤ v.toInt) (h2 : v.toInt ≤ 31) : (F2_0 v) = (0 : Int32) ∧ (F3_0 v) = (0 : Int32) := by
  refine ⟨?_, ?_⟩
  · rw [show (F2_0 v) = (F2_6 v) from if_neg (own_neq (z := 9) rfl (by omega))]
    rw [show (F2_6 v) = (F2_12 v) from if_neg (own_neq (z := 10) rfl (by omega))]
    rw [show (F2_12 v) = (F2_18 v) from if_neg (own_neq (z := 13) rfl (by omega))]
    rw [show (F2_18 v) = (F2_31 v) from if_pos (own_lt (z := 32) rfl (by omega))]
    rw [show (F2_31 v) = (F2_45 v) from if_pos (own_lt (z := 57344) rfl (by omega))]
    rw [show (F2_45 v) = F2_63 from if_pos (own_lt (z := 65536) rfl (by omega))]
    rfl
  · rw [show (F3_0 v) = (F3_6 v) from if_neg (own_nlt (z := 0) rfl (by omega))]
    rw [show (F3_6 v) = (F3_12 v) from if_pos (own_lt (z := 32) rfl (by omega))]
    rw [show (F3_12 v) = (F3_18 v) from if_neg (own_neq (z := 9) rfl (by omega))]
    rw [show (F3_18 v) = (F3_24 v) from if_neg (own_neq (z := 10) rfl (by omega))]
    rw [show (F3_24 v) = F3_34 from if_neg (own_neq (z := 13) rfl (by omega))]
    rfl
theorem own_same_7 (v : Int32) (h1 : 32 ≤ v.toInt) (h2 : v.toInt ≤ 55295) : (F2_0 v) = (1 : Int32) ∧ (F3_0 v) = (1 : Int32) := by
  refine ⟨?_, ?_⟩
  · rw [show (F2_0 v) = (F2_6 v) from if_neg (own_neq (z := 9) rfl (by omega))]
    rw [show (F2_6 v) = (F2_12 v) from if_neg (own_neq (z := 10) rfl (by omega))]
    rw [show (F2_12 v) = (F2_18 v) from if_neg (own_neq (z := 13) rfl (by omega))]
    rw [show (F2_18 v) = (F2_24 v) from if_neg (own_nlt (z := 32) rfl (by omega))]
    rw [show (F2_24 v) = F2_59 from if_neg (own_ngt (z := 55295) rfl (by omega))]
    rfl
  · rw [show (F3_0 v) = (F3_6 v) from if_neg (own_nlt (z := 0) rfl (by omega))]
    rw [show (F3_6 v) = (F3_36 v) from if_neg (own_nlt (z := 32) rfl (by omega))]
    rw [show (F3_36 v) = (F3_50 v) from if_pos (own_lt (z := 55296) rfl (by omega))]
    rw [show (F3_50 v) = (F3_56 v) from if_neg (own_neq (z := 65534) rfl (by omega))]
    rw [show (F3_56 v) = (F3_64 v) from if_neg (own_neq (z := 65535) rfl (by omega))]
    rw [show (F3_64 v) = F3_70 from if_neg (own_ngt (z := 1114111) rfl (by omega))]
    rfl
theorem own_same_8 (v : Int32) (h1 : 55296 ≤ v.toInt) (h2 : v.toInt ≤ 57343) : (F2_0 v) = (0 : Int32) ∧ (F3_0 v) = (0 : Int32) := by
  refine ⟨?_, ?_⟩
  · rw [show (F2_0 v) = (F2_6 v) from if_neg (own_neq (z := 9) rfl (by omega))]
    rw [show (F2_6 v) = (F2_12 v) from if_neg (own_neq (z := 10) rfl (by omega))]
    rw [show (F2_12 v) = (F2_18 v) from if_neg (own_neq (z := 13) rfl (by omega))]
    rw [show (F2_18 v) = (F2_24 v) from if_neg (own_nlt (z := 32) rfl (by omega))]
    rw [show (F2_24 v) = (F2_31 v) from if_pos (own_gt (z := 55295) rfl (by omega))]
    rw [show (F2_31 v) = (F2_45 v) from if_pos (own_lt (z := 57344) rfl (by omega))]
    rw [show (F2_45 v) = F2_63 from if_pos (own_lt (z := 65536) rfl (by omega))]
    rfl
  · rw [show (F3_0 v) = (F3_6 v) from if_neg (own_nlt (z := 0) rfl (by omega))]
    rw [show (F3_6 v) = (F3_36 v) from if_neg (own_nlt (z := 32) rfl (by omega))]
    rw [show (F3_36 v) = (F3_42 v) from if_neg (own_nlt (z := 55296) rfl (by omega))]
    rw [show (F3_42 v) = F3_48 from if_pos (own_lt (z := 57344) rfl (by omega))]
    rfl
theorem own_same_9 (v : Int32) (h1 : 57344 ≤ v.toInt) (h2 : v.toInt ≤ 65533) : (F2_0 v) = (1 : Int32) ∧ (F3_0 v) = (1 : Int32) := by
  refine ⟨?_, ?_⟩
  · rw [show (F2_0 v) = (F2_6 v) from if_neg (own_neq (z := 9) rfl (by omega))]
    rw [show (F2_6 v) = (F2_12 v) from if_neg (own_neq (z := 10) rfl (by omega))]
    rw [show (F2_12 v) = (F2_18 v) from if_neg (own_neq (z := 13) rfl (by omega))]
    rw [show (F2_18 v) = (F2_24 v) from if_neg (own_nlt (z := 32) rfl (by omega))]
    rw [show (F2_24 v) = (F2_31 v) from if_pos (own_gt (z := 55295) rfl (by omega))]
    rw [show (F2_31 v) = (F2_38 v) from if_neg (own_nlt (z := 57344) rfl (by omega))]
    rw [show (F2_38 v) = F2_59 from if_neg (own_ngt (z := 65533) rfl (by omega))]
    rfl
  · rw [show (F3_0 v) = (F3_6 v) from if_neg (own_nlt (z := 0) rfl (by omega))]
    rw [show (F3_6 v) = (F3_36 v) from if_neg (own_nlt (z := 32) rfl (by omega))]
    rw [show (F3_36 v) = (F3_42 v) from if_neg (own_nlt (z := 55296) rfl (by omega))]
    rw [show (F3_42 v) = (F3_50 v) from if_neg (own_nlt (z := 57344) rfl (by omega))]
    rw [show (F3_50 v) = (F3_56 v) from if_neg (own_neq (z := 65534) rfl (by omega))]
    rw [show (F3_56 v) = (F3_64 v) from if_neg (own_neq (z := 65535) rfl (by omega))]
    rw [show (F3_64 v) = F3_70 from if_neg (own_ngt (z := 1114111) rfl (by omega))]
    rfl
theorem own_same_10 (v : Int32) (h1 : 65534 ≤ v.toInt) (h2 : v.toInt ≤ 65534) : (F2_0 v) = (0 : Int32) ∧ (F3_0 v) = (0 : Int32) := by
  refine ⟨?_, ?_⟩
  · rw [show (F2_0 v) = (F2_6 v) from if_neg (own_neq (z := 9) rfl (by omega))]
    rw [show (F2_6 v) = (F2_12 v) from if_neg (own_neq (z := 10) rfl (by omega))]
    rw [show (F2_12 v) = (F2_18 v) from if_neg (own_neq (z := 13) rfl (by omega))]
    rw [show (F2_18 v) = (F2_24 v) from if_neg (own_nlt (z := 32) rfl (by omega))]
    rw [show (F2_24 v) = (F2_31 v) from if_pos (own_gt (z := 55295) rfl (by omega))]
    rw [show (F2_31 v) = (F2_38 v) from if_neg (own_nlt (z := 57344) rfl (by omega))]
    rw [show (F2_38 v) = (F2_45 v) from if_pos (own_gt (z := 65533) rfl (by omega))]
    rw [show (F2_45 v) = F2_63 from if_pos (own_lt (z := 65536) rfl (by omega))]
    rfl
  · rw [show (F3_0 v) = (F3_6 v) from if_neg (own_nlt (z := 0) rfl (by omega))]
    rw [show (F3_6 v) = (F3_36 v) from if_neg (own_nlt (z := 32) rfl (by omega))]
    rw [show (F3_36 v) = (F3_42 v) from if_neg (own_nlt (z := 55296) rfl (by omega))]
    rw [show (F3_42 v) = (F3_50 v) from if_neg (own_nlt (z := 57344) rfl (by omega))]
    rw [show (F3_50 v) = F3_62 from if_pos (own_eq (z := 65534) rfl (by omega))]
    rfl
theorem own_same_11 (v : Int32) (h1 : 65535 ≤ v.toInt) (h2 : v.toInt ≤ 65535) : (F2_0 v) = (0 : Int32) ∧ (F3_0 v) = (0 : Int32) := by
  refine ⟨?_, ?_⟩
  · rw [show (F2_0 v) = (F2_6 v) from if_neg (own_neq (z := 9) rfl (by omega))]
    rw [show (F2_6 v) = (F2_12 v) from if_neg (own_neq (z := 10) rfl (by omega))]
    rw [show (F2_12 v) = (F2_18 v) from if_neg (own_neq (z := 13) rfl (by omega))]
    rw [show (F2_18 v) = (F2_24 v) from if_neg (own_nlt (z := 32) rfl (by omega))]
    rw [show (F2_24 v) = (F2_31 v) from if_pos (own_gt (z := 55295) rfl (by omega))]
    rw [show (F2_31 v) = (F2_38 v) from if_neg (own_nlt (z := 57344) rfl (by omega))]
    rw [show (F2_38 v) = (F2_45 v) from if_pos (own_gt (z := 65533) rfl (by omega))]
    rw [show (F2_45 v) = F2_63 from if_pos (own_lt (z := 65536) rfl (by omega))]
    rfl
  · rw [show (F3_0 v) = (F3_6 v) from if_neg (own_nlt (z := 0) rfl (by omega))]
    rw [show (F3_6 v) = (F3_36 v) from if_neg (own_nlt (z := 32) rfl (by omega))]
    rw [show (F3_36 v) = (F3_42 v) from if_neg (own_nlt (z := 55296) rfl (by omega))]
    rw [show (F3_42 v) = (F3_50 v) from if_neg (own_nlt (z := 57344) rfl (by omega))]
    rw [show (F3_50 v) = (F3_56 v) from if_neg (own_neq (z := 65534) rfl (by omega))]
    rw [show (F3_56 v) = F3_62 from if_pos (own_eq (z := 65535) rfl (by omega))]
    rfl
theorem own_same_12 (v : Int32) (h1 : 65536 ≤ v.toInt) (h2 : v.toInt ≤ 1114111) : (F2_0 v) = (1 : Int32) ∧ (F3_0 v) = (1 : Int32) := by
  refine ⟨?_, ?_⟩
  · rw [show (F2_0 v) = (F2_6 v) from if_neg (own_neq (z := 9) rfl (by omega))]
    rw [show (F2_6 v) = (F2_12 v) from if_neg (own_neq (z := 10) rfl (by omega))]
    rw [show (F2_12 v) = (F2_18 v) from if_neg (own_neq (z := 13) rfl (by omega))]
    rw [show (F2_18 v) = (F2_24 v) from if_neg (own_nlt (z := 32) rfl (by omega))]
    rw [show (F2_24 v) = (F2_31 v) from if_pos (own_gt (z := 55295) rfl (by omega))]
    rw [show (F2_31 v) = (F2_38 v) from if_neg (own_nlt (z := 57344) rfl (by omega))]
    rw [show (F2_38 v) = (F2_45 v) from if_pos (own_gt (z := 65533) rfl (by omega))]
    rw [show (F2_45 v) = (F2_52 v) from if_neg (own_nlt (z := 65536) rfl (by omega))]
    rw [show (F2_52 v) = F2_59 from if_neg (own_ngt (z := 1114111) rfl (by omega))]
    rfl
  · rw [show (F3_0 v) = (F3_6 v) from if_neg (own_nlt (z := 0) rfl (by omega))]
    rw [show (F3_6 v) = (F3_36 v) from if_neg (own_nlt (z := 32) rfl (by omega))]
    rw [show (F3_36 v) = (F3_42 v) from if_neg (own_nlt (z := 55296) rfl (by omega))]
    rw [show (F3_42 v) = (F3_50 v) from if_neg (own_nlt (z := 57344) rfl (by omega))]
    rw [show (F3_50 v) = (F3_56 v) from if_neg (own_neq (z := 65534) rfl (by omega))]
    rw [show (F3_56 v) = (F3_64 v) from if_neg (own_neq (z := 65535) rfl (by omega))]
    rw [show (F3_64 v) = F3_70 from if_neg (own_ngt (z := 1114111) rfl (by omega))]
    rfl
theorem own_same_13 (v : Int32) (h1 : 1114112 ≤ v.toInt) (h2 : v.toInt ≤ 2147483647) : (F2_0 v) = (0 : Int32) ∧ (F3_0 v) = (0 : Int32) := by
  refine ⟨?_, ?_⟩
  · rw [show (F2_0 v) = (F2_6 v) from if_neg (own_neq (z := 9) rfl (by omega))]
    rw [show (F2_6 v) = (F2_12 v) from if_neg (own_neq (z := 10) rfl (by omega))]
    rw [show (F2_12 v) = (F2_18 v) from if_neg (own_neq (z := 13) rfl (by omega))]
    rw [show (F2_18 v) = (F2_24 v) from if_neg (own_nlt (z := 32) rfl (by omega))]
    rw [show (F2_24 v) = (F2_31 v) from if_pos (own_gt (z := 55295) rfl (by omega))]
    rw [show (F2_31 v) = (F2_38 v) from if_neg (own_nlt (z := 57344) rfl (by omega))]
    rw [show (F2_38 v) = (F2_45 v) from if_pos (own_gt (z := 65533) rfl (by omega))]
    rw [show (F2_45 v) = (F2_52 v) from if_neg (own_nlt (z := 65536) rfl (by omega))]
    rw [show (F2_52 v) = F2_63 from if_pos (own_gt (z := 1114111) rfl (by omega))]
    rfl
  · rw [show (F3_0 v) = (F3_6 v) from if_neg (own_nlt (z := 0) rfl (by omega))]
    rw [show (F3_6 v) = (F3_36 v) from if_neg (own_nlt (z := 32) rfl (by omega))]
    rw [show (F3_36 v) = (F3_42 v) from if_neg (own_nlt (z := 55296) rfl (by omega))]
    rw [show (F3_42 v) = (F3_50 v) from if_neg (own_nlt (z := 57344) rfl (by omega))]
    rw [show (F3_50 v) = (F3_56 v) from if_neg (own_neq (z := 65534) rfl (by omega))]
    rw [show (F3_56 v) = (F3_64 v) from if_neg (own_neq (z := 65535) rfl (by omega))]
    rw [show (F3_64 v) = F3_74 from if_pos (own_gt (z := 1114111) rfl (by omega))]
    rfl
theorem own_same (v : Int32) : F2_0 v = F3_0 v := by
  have hr := rng32 v
  by_cases c0 : v.toInt < 0
  · exact (own_same_0 v (by omega) (by omega)).1.trans (own_same_0 v (by omega) (by omega)).2.symm
  by_cases c1 : v.toInt < 9
  · exact (own_same_1 v (by omega) (by omega)).1.trans (own_same_1 v (by omega) (by omega)).2.symm
  by_cases c2 : v.toInt < 10
  · exact (own_same_2 v (by omega) (by omega)).1.trans (own_same_2 v (by omega) (by omega)).2.symm
  by_cases c3 : v.toInt < 11
  · exact (own_same_3 v (by omega) (by omega)).1.trans (own_same_3 v (by omega) (by omega)).2.symm
  by_cases c4 : v.toInt < 13
  · exact (own_same_4 v (by omega) (by omega)).1.trans (own_same_4 v (by omega) (by omega)).2.symm
  by_cases c5 : v.toInt < 14
  · exact (own_same_5 v (by omega) (by omega)).1.trans (own_same_5 v (by omega) (by omega)).2.symm
  by_cases c6 : v.toInt < 32
  · exact (own_same_6 v (by omega) (by omega)).1.trans (own_same_6 v (by omega) (by omega)).2.symm
  by_cases c7 : v.toInt < 55296
  · exact (own_same_7 v (by omega) (by omega)).1.trans (own_same_7 v (by omega) (by omega)).2.symm
  by_cases c8 : v.toInt < 57344
  · exact (own_same_8 v (by omega) (by omega)).1.trans (own_same_8 v (by omega) (by omega)).2.symm
  by_cases c9 : v.toInt < 65534
  · exact (own_same_9 v (by omega) (by omega)).1.trans (own_same_9 v (by omega) (by omega)).2.symm
  by_cases c10 : v.toInt < 65535
  · exact (own_same_10 v (by omega) (by omega)).1.trans (own_same_10 v (by omega) (by omega)).2.symm
  by_cases c11 : v.toInt < 65536
  · exact (own_same_11 v (by omega) (by omega)).1.trans (own_same_11 v (by omega) (by omega)).2.symm
  by_cases c12 : v.toInt < 1114112
  · exact (own_same_12 v (by omega) (by omega)).1.trans (own_same_12 v (by omega) (by omega)).2.symm
  exact (own_same_13 v (by omega) (by omega)).1.trans (own_same_13 v (by omega) (by omega)).2.symm
set_option maxRecDepth 65536 in
set_option maxHeartbeats 40000000 in
theorem comes_1 {Post : Tables → Env → Array Value → State → Outcome → State → Prop} (hpost : ∀ tb e args s v u, (limb_1_1.after args s (.returned v) u = true ∧ limb_1_2.after args s (.returned v) u = true ∧ True) → FrameEnd s (.returned v) u (Jvm.fieldLocs frame_1_writes args s ++ Jvm.arrayLocs frame_1_arrays args s ++ Jvm.staticLocs frame_1_statics s) 0 0 → Post tb e args s (.returned v) u) :
    ArmFor flags0 classFile x code maxLocals ret World_1 tables_1 room_1 Calls_1 rest_1 Pre_1 Post := by
  intro l hfl _ _ p e ha hc hk s m args below hf hA hF happ hP
  obtain ⟨hcalls, hrest, hpre⟩ := hP
  obtain ⟨-, -, -, hnamed, -, -, -, hat⟩ := (Spec.applies_iff hf).mp happ
  obtain ⟨hg, hn⟩ := and_e (Cond.before_iff.mp (show (Jvm.Cond.and given_1 narrow_1).before args s = true from hpre))
  obtain ⟨gc, g0⟩ := and_e hg
  obtain ⟨k0, g1⟩ := and_e g0
  obtain ⟨k1, g2⟩ := and_e g1
  have k2 := g2
  obtain ⟨w0, w1, w2, rfl⟩ : ∃ w0 w1 w2 : Value, args = #[w0, w1, w2] := by
    have hs : args.size = 3 := by simpa [Cond.value, given_1] using gc
    obtain ⟨L⟩ := args
    match L, hs with
    | [w0, w1, w2], _ => exact ⟨w0, w1, w2, rfl⟩
  have hw := fun d (hd : d ∈ tables_1) => atoms_spec (ws := Jvm.Cond.code x code maxLocals ret :: tables_1) hat d (List.mem_cons_of_mem _ hd)
  obtain ⟨i0, ei0⟩ := is_v k0
  obtain rfl : w0 = (.int i0) := Option.some.inj ei0
  obtain ⟨i1, ei1⟩ := is_v k1
  obtain rfl : w1 = (.int i1) := Option.some.inj ei1
  obtain ⟨i2, ei2⟩ := is_v k2
  obtain rfl : w2 = (.int i2) := Option.some.inj ei2
  obtain ⟨n, o, h1, h2, h3, _, L, rfl, ⟨rfl, N⟩, hq⟩ := rm0 l s _ hw tables_1 i0 i1 i2 s.heap s.heap.size (Nat.le_refl _) (own_same _) (own_same _) p e ha hc hk s m _ below hf ((Spec.applies_iff_loose hf).mp happ).1 ⟨rfl, State.Warmed39.refl s, rfl⟩ trivial
  refine ⟨n, _, h1, h2, h3, hpost _ _ _ _ _ _ ⟨Cond.after_iff.mpr rfl, Cond.after_iff.mpr (eq_i res_at (Term.int_eval (1)) rfl), trivial⟩ ⟨hq.1, hq.2.1, (hq.2.2.sift fun y hy => Or.inr (N y hy)).mono (by decide) (by decide)⟩⟩
theorem main_1_1 : Claimed_1_1 := comes_1 fun _ _ _ _ _ _ h hF => ⟨h.1, hF⟩
theorem main_1_2 : Claimed_1_2 := comes_1 fun _ _ _ _ _ _ h hF => ⟨h.2.1, hF⟩
end Jvm.Pilot.@@N@@
namespace Jvm.Pilot.@@N@@
open Jvm Jvm.ClassFile Sem Op Lib Jvm.Free Jvm.Stand Jvm.Pilot.@@N@@.Jvm.D
/-! MADE BY PROGRAM (witnessworld.py) out of the Statement's table words and the real class files: 9 classes; the members and pool entries that the words name. The judged class is class 1, her method 3. -/
namespace start1
open Jvm.ClassFile
def u (s : String) : CpInfo := .utf8 (stringToUtf16 s)
/-- a pool by its gaps: so many unusable entries, then the entry; so many at the end -/
def gap : Nat → List CpInfo → List CpInfo
  | 0, r => r
  | n + 1, r => .unusable :: gap n r
def poolList (es : List (Nat × CpInfo)) (last : Nat) : List CpInfo := es.foldr (fun e r => gap e.1 (e.2 :: r)) (gap last [])
def pool (es : List (Nat × CpInfo)) (last : Nat) : Array CpInfo := ⟨poolList es last⟩
def fileOf (pool : Array CpInfo) (this : Nat) (attrs : Array Attribute := #[]) (ms : Array MethodInfo := #[]) (fl : Nat := 33) (sup : Nat := 0) (ifs : Array Nat := #[]) (fds : Array FieldInfo := #[]) : ClassFile where
  minorVersion := 0
  majorVersion := 65
  constantPool := pool
  accessFlags := fl
  thisClass := this
  superClass := sup
  interfaces := ifs
  fields := fds
  methods := ms
  attributes := attrs
def plain (name : String) (sup : Option ClassId) : Class where
  name := name
  kind := .ordinary
  loader := none
  accessFlags := 33
  super := sup
  interfaces := #[]
  cf := none
  fields := #[]
  methods := #[]
  instanceTypes := #[]
  staticTypes := #[]
  resolved := #[]
  callSites := []
  init := .initialized
  statics := none
  mirror := none

def pool0 : Array CpInfo := pool [(5, u "<init>"), (0, u "()V"), (1, .class_ 10), (1, u "java/lang/Object")] 113

def k0m0 : Method := { name := "<init>", desc := "()V", sig := { parameters := [], returnType := none }, accessFlags := 1, code := none }
/-- java/lang/Object -/
def k0 : Class := { plain "java/lang/Object" none with
  accessFlags := 33
  interfaces := #[]
  cf := some (fileOf pool0 8 #[] #[{ accessFlags := 1, nameIndex := 5, descriptorIndex := 6, attributes := #[] }] 33 0 #[] #[])
  fields := #[]
  methods := #[k0m0]
  instanceTypes := #[]
  staticTypes := #[]
  resolved := Array.replicate 124 none
  statics := none }

def pool1 : Array CpInfo := pool [(2, .class_ 4), (1, u "java/lang/Object"), (0, u "<init>"), (0, u "()V"), (0, .integer 55296), (0, .integer 57344), (0, .integer 65534), (0, .integer 65535), (0, .integer 1114111), (0, .integer 55295), (0, .integer 57343), (0, .integer 65533), (0, .integer 65536), (0, .integer 1114112), (2, .integer 2147483648), (0, .integer 2147483647), (0, .methodref 22 23), (0, .class_ 24), (0, .nameAndType 25 26), (0, u "com/example/kartegami/kartegami/xml/XmlWriterCanWritePinLaw"), (0, u "boundary"), (0, u "(I)I"), (0, .methodref 28 29), (0, .class_ 30), (0, .nameAndType 31 32), (0, u "com/example/kartegami/kartegami/xml/XmlWriter"), (0, u "canWrite"), (0, u "(I)Z"), (0, .methodref 22 34), (0, .nameAndType 35 32), (0, u "reference"), (3, u "law"), (0, u "(III)Z")] 2

def k1m0 : Method := { name := "<init>", desc := "()V", sig := { parameters := [], returnType := none }, accessFlags := 2, code := none }
def k1c1 : Code := { maxStack := 2, maxLocals := 1, code := method_2_code, exceptionTable := #[], attributes := #[] }
def k1m1 : Method := { name := "reference", desc := "(I)Z", sig := { parameters := [.int], returnType := some .boolean }, accessFlags := 10, code := some k1c1 }
def k1c2 : Code := { maxStack := 2, maxLocals := 1, code := method_3_code, exceptionTable := #[], attributes := #[] }
def k1m2 : Method := { name := "boundary", desc := "(I)I", sig := { parameters := [.int], returnType := some .int }, accessFlags := 10, code := some k1c2 }
def k1c3 : Code := { maxStack := 3, maxLocals := 6, code := code, exceptionTable := #[], attributes := #[] }
def k1m3 : Method := { name := "law", desc := "(III)Z", sig := { parameters := [.int, .int, .int], returnType := some .boolean }, accessFlags := 9, code := some k1c3 }
/-- com/example/kartegami/kartegami/xml/XmlWriterCanWritePinLaw -/
def k1 : Class := { plain "com/example/kartegami/kartegami/xml/XmlWriterCanWritePinLaw" (some 0) with
  accessFlags := 49
  interfaces := #[]
  cf := some (fileOf pool1 22 #[] #[{ accessFlags := 2, nameIndex := 5, descriptorIndex := 6, attributes := #[] }, { accessFlags := 10, nameIndex := 35, descriptorIndex := 32, attributes := #[] }, { accessFlags := 10, nameIndex := 25, descriptorIndex := 26, attributes := #[] }, { accessFlags := 9, nameIndex := 39, descriptorIndex := 40, attributes := #[] }] 49 2 #[] #[])
  fields := #[]
  methods := #[k1m0, k1m1, k1m2, k1m3]
  instanceTypes := #[]
  staticTypes := #[]
  resolved := Array.replicate 43 none
  statics := none }

def pool2 : Array CpInfo := pool [(2, .class_ 4), (1, u "java/lang/Object"), (3, .class_ 10), (1, u "com/example/kartegami/kartegami/xml/XmlWriter"), (0, u "out"), (0, u "Ljava/io/Writer;"), (2, u "scopes"), (0, u "Ljava/util/Deque;"), (2, u "fillers"), (0, u "Ljava/util/Map;"), (130, .class_ 152), (0, u "com/example/kartegami/kartegami/xml/XmlWriter$Filler"), (258, u "canWrite"), (0, u "(I)Z"), (28, .integer 55295), (0, .integer 57344), (0, .integer 65533), (0, .integer 65536), (0, .integer 1114111), (5, .class_ 452), (0, u "com/example/kartegami/kartegami/xml/XmlWriter$Copy"), (4, .class_ 459), (1, u "com/example/kartegami/kartegami/xml/XmlWriter$Source"), (2, u "DECLARATION"), (0, u "Ljava/lang/String;"), (38, .class_ 503), (0, u "com/example/kartegami/kartegami/xml/XmlWriter$Plain"), (0, .class_ 505), (0, u "com/example/kartegami/kartegami/xml/XmlWriter$Copy$Write"), (0, .class_ 507), (0, u "com/example/kartegami/kartegami/xml/XmlWriter$Children")] 63

def k2c0 : Code := { maxStack := 2, maxLocals := 1, code := prog_197_method_27_code, exceptionTable := #[], attributes := #[] }
def k2m0 : Method := { name := "canWrite", desc := "(I)Z", sig := { parameters := [.int], returnType := some .boolean }, accessFlags := 8, code := some k2c0 }
/-- com/example/kartegami/kartegami/xml/XmlWriter -/
def k2 : Class := { plain "com/example/kartegami/kartegami/xml/XmlWriter" (some 0) with
  accessFlags := 49
  interfaces := #[]
  cf := some (fileOf pool2 8 #[.nestMembers #[502, 451, 504, 457, 506, 151]] #[{ accessFlags := 8, nameIndex := 411, descriptorIndex := 412, attributes := #[] }] 49 2 #[] #[{ accessFlags := 26, nameIndex := 462, descriptorIndex := 463, attributes := #[] }, { accessFlags := 18, nameIndex := 11, descriptorIndex := 12, attributes := #[] }, { accessFlags := 18, nameIndex := 19, descriptorIndex := 20, attributes := #[] }, { accessFlags := 18, nameIndex := 15, descriptorIndex := 16, attributes := #[] }])
  fields := #[{ name := "DECLARATION", type := (.object "java/lang/String"), accessFlags := 26, slot := 0, constantValue := 0 }, { name := "out", type := (.object "java/io/Writer"), accessFlags := 18, slot := 0, constantValue := 0 }, { name := "fillers", type := (.object "java/util/Map"), accessFlags := 18, slot := 1, constantValue := 0 }, { name := "scopes", type := (.object "java/util/Deque"), accessFlags := 18, slot := 2, constantValue := 0 }]
  methods := #[k2m0]
  instanceTypes := #[(.object "java/io/Writer"), (.object "java/util/Map"), (.object "java/util/Deque")]
  staticTypes := #[(.object "java/lang/String")]
  resolved := Array.replicate 571 none
  statics := none }

def pool3 : Array CpInfo := pool [(1, u "java/lang/Cloneable"), (0, .class_ 1), (0, u "java/lang/Object"), (0, .class_ 3)] 3

/-- java/lang/Cloneable -/
def k3 : Class := { plain "java/lang/Cloneable" (some 0) with
  accessFlags := 1537
  interfaces := #[]
  cf := some (fileOf pool3 2 #[] #[] 1537 4 #[] #[])
  fields := #[]
  methods := #[]
  instanceTypes := #[]
  staticTypes := #[]
  resolved := Array.replicate 8 none
  statics := none }

def pool4 : Array CpInfo := pool [(1, u "java/io/Serializable"), (0, .class_ 1), (0, u "java/lang/Object"), (0, .class_ 3)] 3

/-- java/io/Serializable -/
def k4 : Class := { plain "java/io/Serializable" (some 0) with
  accessFlags := 1537
  interfaces := #[]
  cf := some (fileOf pool4 2 #[] #[] 1537 4 #[] #[])
  fields := #[]
  methods := #[]
  instanceTypes := #[]
  staticTypes := #[]
  resolved := Array.replicate 8 none
  statics := none }

/-- the primitive byte -/
def k5 : Class := { plain "byte" none with kind := .primitive 'B', accessFlags := 0x411 }
/-- [B -/
def k6 : Class := { plain "[B" (some 0) with kind := .array 5 .byte, interfaces := #[3, 4], accessFlags := 1041 }

/-- the primitive int -/
def k7 : Class := { plain "int" none with kind := .primitive 'I', accessFlags := 0x411 }
/-- [I -/
def k8 : Class := { plain "[I" (some 0) with kind := .array 7 .int, interfaces := #[3, 4], accessFlags := 1041 }

def heap : Heap := #[]
def classes : Array Class := #[k0, k1, k2, k3, k4, k5, k6, k7, k8]
def interned : List (Array UInt16 × Addr) := []
def slotsUsed : Nat := 0
def theMethod : MethodId := ⟨1, 3⟩
def args0 : Array Value := #[.int 5, .int 5, .int 5]
def aboutOver (below : List Frame) : State where
  vm := { classes := classes, interned := interned.toArray }
  heap := heap
  slotsUsed := slotsUsed
  threads := #[{ frames := .invoking theMethod args0 :: below }]
def below0 : List Frame := [.native { method := ⟨0, 0⟩, args := #[] }]
def about1 : State := aboutOver below0
def p0 : Program := .bare "" "" ""
def e0 : Env := launch0.env 0 0 0
theorem w_frames : about1.frames = Frame.invoking theMethod args0 :: below0 := rfl
set_option maxRecDepth 65536 in
theorem w_args : argsFit about1.vm theMethod args0 = true := by decide +kernel
set_option maxRecDepth 65536 in
theorem w_heap : heapFits about1 = true := by decide +kernel
set_option maxRecDepth 65536 in
theorem w_runnable : about1.curStatus? = some .runnable := by decide +kernel
set_option maxRecDepth 65536 in
theorem w_alone : about1.alone = true := by decide +kernel
set_option maxRecDepth 65536 in
theorem w_named : about1.methodNamed? x = some theMethod := by decide +kernel
set_option maxRecDepth 65536 in
theorem w_hears : about1.hears theMethod below0 = true := by decide +kernel
set_option maxRecDepth 65536 in
theorem w_ripe : about1.ripe theMethod args0 below0 = true := by decide +kernel
theorem w_running : about1.status = .running := rfl
set_option maxRecDepth 65536 in
theorem w_room : about1.hasRoom e0.platform room_1 = true :=
  launch0.hasRoom_least _ room_1 (by decide +kernel) (by decide +kernel) (by decide +kernel) (by decide +kernel) (by decide +kernel) (by decide +kernel)
theorem allAtoms_all (ts : List Jvm.Cond) (a : Array Jvm.Value) (st : Jvm.State) : (allAtoms ts).before a st = ts.all (fun c => c.before a st) := by
  induction ts with
  | nil => rfl
  | cons c t ih =>
    show (Jvm.Cond.and c (allAtoms t)).before a st = _
    rw [Jvm.Cond.before_and, ih, List.all_cons]
def words1 : List Jvm.Cond := Jvm.Cond.code x code maxLocals ret :: tables_1
/-- a 'code' word, met by the world's own term for the bytes: nothing is compared byte by byte -/
theorem code_word {y : MethodName} {bytes : ByteArray} {mx : Nat} {rt : Option FieldType} {a : Array Value} {s : State} {m : MethodId} {meth : Method} {c : Code} (h1 : s.methodNamed? y = some m) (h2 : s.vm.method? m = some meth) (h3 : meth.code = some c) (h4 : c.code = bytes)
    (h5 : (c.maxLocals == mx && c.exceptionTable.isEmpty && decide (c.maxStack ≤ mostOperands) && decide (meth.sig.returnType = rt) && !meth.locks && decide (parseMethodDescriptor y.desc = some meth.sig)) = true) : (Jvm.Cond.code y bytes mx rt).before a s = true := by
  simp only [Bool.and_eq_true, beq_iff_eq, Bool.not_eq_true', decide_eq_true_eq] at h5
  obtain ⟨⟨⟨⟨⟨g1, g2⟩, g3⟩, g4⟩, g5⟩, g6⟩ := h5
  simp [Cond.before, Cond.holds, Cond.value, h1, h2, h3, h4, g1, g2, g3, g4, g5, g6]
def isCode : Jvm.Cond → Bool
  | .code _ _ _ _ => true
  | _ => false
theorem all_split {L : List Jvm.Cond} {P : Jvm.Cond → Bool} (h1 : L.all (fun c => isCode c || P c) = true) (h2 : ∀ c ∈ L.filter isCode, P c = true) : L.all P = true := by
  refine List.all_eq_true.mpr fun c hc => ?_
  have h := List.all_eq_true.mp h1 c hc
  rcases Bool.eq_false_or_eq_true (isCode c) with hi | hi
  · exact h2 c (List.mem_filter.mpr ⟨hc, hi⟩)
  · simpa [hi] using h
set_option maxRecDepth 65536 in
theorem w_c0 : (Jvm.Cond.code x code maxLocals ret).before args0 about1 = true := code_word (m := ⟨1, 3⟩) (meth := k1m3) (c := k1c3) (by decide +kernel) rfl rfl rfl (by decide +kernel)
set_option maxRecDepth 65536 in
theorem w_c1 : (Jvm.Cond.code ({ cls := "com/example/kartegami/kartegami/xml/XmlWriterCanWritePinLaw", name := "boundary", desc := "(I)I" } : Jvm.MethodName) method_3_code (1 : Nat) (Option.some Jvm.ClassFile.FieldType.int)).before args0 about1 = true := code_word (m := ⟨1, 2⟩) (meth := k1m2) (c := k1c2) (by decide +kernel) rfl rfl rfl (by decide +kernel)
set_option maxRecDepth 65536 in
theorem w_c2 : (Jvm.Cond.code ({ cls := "com/example/kartegami/kartegami/xml/XmlWriter", name := "canWrite", desc := "(I)Z" } : Jvm.MethodName) prog_197_method_27_code (1 : Nat) (Option.some Jvm.ClassFile.FieldType.boolean)).before args0 about1 = true := code_word (m := ⟨2, 0⟩) (meth := k2m0) (c := k2c0) (by decide +kernel) rfl rfl rfl (by decide +kernel)
set_option maxRecDepth 65536 in
theorem w_c3 : (Jvm.Cond.code ({ cls := "com/example/kartegami/kartegami/xml/XmlWriterCanWritePinLaw", name := "reference", desc := "(I)Z" } : Jvm.MethodName) method_2_code (1 : Nat) (Option.some Jvm.ClassFile.FieldType.boolean)).before args0 about1 = true := code_word (m := ⟨1, 1⟩) (meth := k1m1) (c := k1c1) (by decide +kernel) rfl rfl rfl (by decide +kernel)
def codes1 : List Jvm.Cond := [Jvm.Cond.code x code maxLocals ret, Jvm.Cond.code ({ cls := "com/example/kartegami/kartegami/xml/XmlWriterCanWritePinLaw", name := "boundary", desc := "(I)I" } : Jvm.MethodName) method_3_code (1 : Nat) (Option.some Jvm.ClassFile.FieldType.int), Jvm.Cond.code ({ cls := "com/example/kartegami/kartegami/xml/XmlWriter", name := "canWrite", desc := "(I)Z" } : Jvm.MethodName) prog_197_method_27_code (1 : Nat) (Option.some Jvm.ClassFile.FieldType.boolean), Jvm.Cond.code ({ cls := "com/example/kartegami/kartegami/xml/XmlWriterCanWritePinLaw", name := "reference", desc := "(I)Z" } : Jvm.MethodName) method_2_code (1 : Nat) (Option.some Jvm.ClassFile.FieldType.boolean)]
set_option maxRecDepth 65536 in
theorem codes_eq : words1.filter isCode = codes1 := rfl
theorem w_codes : ∀ c ∈ words1.filter isCode, c.before args0 about1 = true := by
  rw [codes_eq]
  intro c hc
  simp only [codes1, List.mem_cons, List.not_mem_nil, or_false] at hc
  rcases hc with rfl | rfl | rfl | rfl
  · exact w_c0
  · exact w_c1
  · exact w_c2
  · exact w_c3
set_option maxRecDepth 65536 in
theorem w_t1 : (words1.take 24).all (fun c => isCode c || c.before args0 about1) = true := by decide +kernel
set_option maxRecDepth 65536 in
theorem w_t2 : (words1.drop 24).all (fun c => isCode c || c.before args0 about1) = true := by decide +kernel
theorem w_tables : (allAtoms (Jvm.Cond.code x code maxLocals ret :: tables_1)).before args0 about1 = true := by
  rw [allAtoms_all]
  show words1.all (fun c => c.before args0 about1) = true
  refine all_split ?_ w_codes
  rw [← List.take_append_drop 24 words1, List.all_append, w_t1, w_t2]
  rfl
set_option maxRecDepth 65536 in
theorem w_case : (Jvm.Cond.and given_1 narrow_1).before args0 about1 = true := by decide +kernel
theorem w_applies : (headSpec (Jvm.Cond.code x code maxLocals ret :: tables_1) room_1).applies x e0.platform about1 = true :=
  (Spec.applies_iff w_frames).mpr ⟨w_running, w_runnable, w_alone, w_named, w_hears, w_ripe, w_room, w_tables⟩
theorem atStart : AtStart classFile x code maxLocals ret World_1 tables_1 room_1 Calls_1 rest_1 Pre_1 launch0 p0 e0 about1 theMethod args0 below0 :=
  ⟨lists_1, trivial, launch0.admits_env _ _ _, launch0.least_env, fairChoices_fair.cas, fairChoices_fair.clock, w_frames, w_args, w_heap, w_applies, trivial, trivial, w_case⟩
end start1
theorem witness_1 : WitnessClaimed_1 := ⟨start1.p0, start1.e0, start1.about1, start1.theMethod, start1.args0, start1.below0, start1.atStart⟩
end Jvm.Pilot.@@N@@
