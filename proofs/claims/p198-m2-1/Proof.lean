import JvmDerived
import JvmDerived.Pilot.@@N@@Statement
import JvmDerived.Pilot.@@N@@Code
set_option linter.unusedVariables false
set_option linter.unusedSimpArgs false
namespace Jvm.RoadKit
open Sem ClassFile Op Lib Jvm.Stand Jvm.Free Jvm.LawKit
section New
variable {p : Program} {l : Launch} {e : Env} {R : Room} {s : State} {m : MethodId} {args : Array Value} {below : List Frame} {meth : Method} {c : Code} {T : State} {locs : List Loc} {cells slots : Nat}
theorem retI (X : Stand p l e R s m args below meth c T locs cells slots) (hx : p.tables.exec = Jvm.exec) {pc : Nat} {Ls : Array Slot} {z : Int32} {rest : List Value} (hret : meth.sig.returnType = some .int) (hd : decode c.code pc = .ok (.ireturn, 1)) {fs : List Frame}
    (hl : ∀ (f : JFrame) (acts : List Action), f.method = m → f.locked = none → f.entered = [] → (doReturn e (T.setTop f) acts (some (.int z))).1 = T.setFrames fs) : Steps p.tables e below (T.setTop (mkF m pc Ls (.int z :: rest))) (T.setFrames fs) := by
  have hm' : T.vm.method? m = some meth := X.method'
  have hn : narrow .int (.int z) = .int z := rfl
  show Steps p.tables e below (T.setTop { method := m, pc := pc, locals := Ls, stack := _ :: rest, locked := none }) _
  jvm_step X.here [X.here.top, hx, hd, hm', hret, hn]
  first | (intro acts; rw [hl _ acts rfl rfl rfl]) | rw [hl _ _ rfl rfl rfl]
  exact Steps.refl _
end New
end Jvm.RoadKit
namespace Jvm.Pilot.@@N@@
open Jvm Jvm.ClassFile Sem Op Lib Jvm.Free Jvm.Stand Jvm.LawKit Jvm.RoadKit Bundle Jvm.Pilot.@@N@@.Jvm.D
theorem pd0 : parseMethodDescriptor "(C)Z" = some ⟨[.char], some .boolean⟩ := by decide +kernel
theorem d1_0 : decode prog_158_method_25_code 0 = .ok (.iload_n 0, 1) := by decide +kernel
theorem d1_1 : decode prog_158_method_25_code 1 = .ok (.bipush 32, 2) := by decide +kernel
theorem d1_3 : decode prog_158_method_25_code 3 = .ok (.if_icmp .eq 21, 3) := by decide +kernel
theorem d1_6 : decode prog_158_method_25_code 6 = .ok (.iload_n 0, 1) := by decide +kernel
theorem d1_7 : decode prog_158_method_25_code 7 = .ok (.bipush 9, 2) := by decide +kernel
theorem d1_9 : decode prog_158_method_25_code 9 = .ok (.if_icmp .eq 15, 3) := by decide +kernel
theorem d1_12 : decode prog_158_method_25_code 12 = .ok (.iload_n 0, 1) := by decide +kernel
theorem d1_13 : decode prog_158_method_25_code 13 = .ok (.bipush 10, 2) := by decide +kernel
theorem d1_15 : decode prog_158_method_25_code 15 = .ok (.if_icmp .eq 9, 3) := by decide +kernel
theorem d1_18 : decode prog_158_method_25_code 18 = .ok (.iload_n 0, 1) := by decide +kernel
theorem d1_19 : decode prog_158_method_25_code 19 = .ok (.bipush 13, 2) := by decide +kernel
theorem d1_21 : decode prog_158_method_25_code 21 = .ok (.if_icmp .ne 7, 3) := by decide +kernel
theorem d1_24 : decode prog_158_method_25_code 24 = .ok (.iconst 1, 1) := by decide +kernel
theorem d1_25 : decode prog_158_method_25_code 25 = .ok (.goto 4, 3) := by decide +kernel
theorem d1_28 : decode prog_158_method_25_code 28 = .ok (.iconst 0, 1) := by decide +kernel
theorem d1_29 : decode prog_158_method_25_code 29 = .ok (.ireturn, 1) := by decide +kernel
def F1_24 : Int32 := (1 : Int32)
theorem b1_24 {p : Program} {l : Launch} {e : Env} {R : Room} {s : State} {m : MethodId} {args : Array Value} {below : List Frame} {meth : Method} {c : Code} {T : State} {locs : List Loc} {cells slots : Nat} {Z : State} {a0 : Array Value} (X : Stand p l e R s m args below meth c T locs cells slots) (hx : p.tables.exec = Jvm.exec) (hZ : Z.Warmed39 s.vm) (hw : ∀ d ∈ tables_1, d.before a0 Z = true) (hby : c.code = prog_158_method_25_code) (hown : s.vm.findClass "com/example/kartegami/kartegami/xml/Elements" = some m.cls) (v0 : Int32) (hret : meth.sig.returnType = some .boolean) {fs : List Frame} (hr : ∀ (f : JFrame) (acts : List Action), f.method = m → f.locked = none → f.entered = [] → (doReturn e (T.setTop f) acts (some (.int F1_24))).1 = T.setFrames fs) : Steps p.tables e below (T.setTop (mkF m 24 #[.val (.int v0)] [])) (T.setFrames fs) := by
  show Steps p.tables e below (T.setTop (mkF m 24 #[.val (.int v0)] [])) _
  refine XS.iconst X.here hx rfl (hb hby d1_24) ?_
  show Steps p.tables e below (T.setTop (mkF m 25 #[.val (.int v0)] [(.int (1 : Int32))])) _
  refine XS.goto X.here hx rfl (pc0 := 25) (pc' := 29) rfl (hb hby d1_25) (by decide) (by decide) ?_
  show Steps p.tables e below (T.setTop (mkF m 29 #[.val (.int v0)] [(.int (1 : Int32))])) _
  rw [show F1_24 = nar .boolean (1 : Int32) from rfl] at hr
  exact retN X hx (t := .boolean) hret (by simp) (hb hby d1_29) hr
def F1_28 : Int32 := (0 : Int32)
theorem b1_28 {p : Program} {l : Launch} {e : Env} {R : Room} {s : State} {m : MethodId} {args : Array Value} {below : List Frame} {meth : Method} {c : Code} {T : State} {locs : List Loc} {cells slots : Nat} {Z : State} {a0 : Array Value} (X : Stand p l e R s m args below meth c T locs cells slots) (hx : p.tables.exec = Jvm.exec) (hZ : Z.Warmed39 s.vm) (hw : ∀ d ∈ tables_1, d.before a0 Z = true) (hby : c.code = prog_158_method_25_code) (hown : s.vm.findClass "com/example/kartegami/kartegami/xml/Elements" = some m.cls) (v0 : Int32) (hret : meth.sig.returnType = some .boolean) {fs : List Frame} (hr : ∀ (f : JFrame) (acts : List Action), f.method = m → f.locked = none → f.entered = [] → (doReturn e (T.setTop f) acts (some (.int F1_28))).1 = T.setFrames fs) : Steps p.tables e below (T.setTop (mkF m 28 #[.val (.int v0)] [])) (T.setFrames fs) := by
  show Steps p.tables e below (T.setTop (mkF m 28 #[.val (.int v0)] [])) _
  refine XS.iconst X.here hx rfl (hb hby d1_28) ?_
  show Steps p.tables e below (T.setTop (mkF m 29 #[.val (.int v0)] [(.int (0 : Int32))])) _
  rw [show F1_28 = nar .boolean (0 : Int32) from rfl] at hr
  exact retN X hx (t := .boolean) hret (by simp) (hb hby d1_29) hr
def F1_18 (v0 : Int32) : Int32 := if v0 = (13 : Int32) then F1_24 else F1_28
theorem b1_18 {p : Program} {l : Launch} {e : Env} {R : Room} {s : State} {m : MethodId} {args : Array Value} {below : List Frame} {meth : Method} {c : Code} {T : State} {locs : List Loc} {cells slots : Nat} {Z : State} {a0 : Array Value} (X : Stand p l e R s m args below meth c T locs cells slots) (hx : p.tables.exec = Jvm.exec) (hZ : Z.Warmed39 s.vm) (hw : ∀ d ∈ tables_1, d.before a0 Z = true) (hby : c.code = prog_158_method_25_code) (hown : s.vm.findClass "com/example/kartegami/kartegami/xml/Elements" = some m.cls) (v0 : Int32) (hret : meth.sig.returnType = some .boolean) {fs : List Frame} (hr : ∀ (f : JFrame) (acts : List Action), f.method = m → f.locked = none → f.entered = [] → (doReturn e (T.setTop f) acts (some (.int (F1_18 v0)))).1 = T.setFrames fs) : Steps p.tables e below (T.setTop (mkF m 18 #[.val (.int v0)] [])) (T.setFrames fs) := by
  show Steps p.tables e below (T.setTop (mkF m 18 #[.val (.int v0)] [])) _
  refine XS.iloadN X.here hx rfl (hb hby d1_18) rfl ?_
  show Steps p.tables e below (T.setTop (mkF m 19 #[.val (.int v0)] [(.int v0)])) _
  refine XS.bipush X.here hx rfl (hb hby d1_19) ?_
  show Steps p.tables e below (T.setTop (mkF m 21 #[.val (.int v0)] [(.int (13 : Int32)), (.int v0)])) _
  by_cases hc : v0 = (13 : Int32)
  · rw [show (F1_18 v0) = F1_24 from if_pos hc] at hr
    refine XS.icmpNo X.here hx rfl (hb hby d1_21) rfl (teq hc).2 ?_
    exact b1_24 X hx hZ hw hby hown v0 hret hr
  · rw [show (F1_18 v0) = F1_28 from if_neg hc] at hr
    refine XS.icmpYes X.here hx rfl (pc0 := 21) (pc' := 28) rfl (hb hby d1_21) rfl (feq hc).2 (by decide) (by decide) ?_
    exact b1_28 X hx hZ hw hby hown v0 hret hr
def F1_12 (v0 : Int32) : Int32 := if v0 = (10 : Int32) then F1_24 else (F1_18 v0)
theorem b1_12 {p : Program} {l : Launch} {e : Env} {R : Room} {s : State} {m : MethodId} {args : Array Value} {below : List Frame} {meth : Method} {c : Code} {T : State} {locs : List Loc} {cells slots : Nat} {Z : State} {a0 : Array Value} (X : Stand p l e R s m args below meth c T locs cells slots) (hx : p.tables.exec = Jvm.exec) (hZ : Z.Warmed39 s.vm) (hw : ∀ d ∈ tables_1, d.before a0 Z = true) (hby : c.code = prog_158_method_25_code) (hown : s.vm.findClass "com/example/kartegami/kartegami/xml/Elements" = some m.cls) (v0 : Int32) (hret : meth.sig.returnType = some .boolean) {fs : List Frame} (hr : ∀ (f : JFrame) (acts : List Action), f.method = m → f.locked = none → f.entered = [] → (doReturn e (T.setTop f) acts (some (.int (F1_12 v0)))).1 = T.setFrames fs) : Steps p.tables e below (T.setTop (mkF m 12 #[.val (.int v0)] [])) (T.setFrames fs) := by
  show Steps p.tables e below (T.setTop (mkF m 12 #[.val (.int v0)] [])) _
  refine XS.iloadN X.here hx rfl (hb hby d1_12) rfl ?_
  show Steps p.tables e below (T.setTop (mkF m 13 #[.val (.int v0)] [(.int v0)])) _
  refine XS.bipush X.here hx rfl (hb hby d1_13) ?_
  show Steps p.tables e below (T.setTop (mkF m 15 #[.val (.int v0)] [(.int (10 : Int32)), (.int v0)])) _
  by_cases hc : v0 = (10 : Int32)
  · rw [show (F1_12 v0) = F1_24 from if_pos hc] at hr
    refine XS.icmpYes X.here hx rfl (pc0 := 15) (pc' := 24) rfl (hb hby d1_15) rfl (teq hc).1 (by decide) (by decide) ?_
    exact b1_24 X hx hZ hw hby hown v0 hret hr
  · rw [show (F1_12 v0) = (F1_18 v0) from if_neg hc] at hr
    refine XS.icmpNo X.here hx rfl (hb hby d1_15) rfl (feq hc).1 ?_
    exact b1_18 X hx hZ hw hby hown v0 hret hr
def F1_6 (v0 : Int32) : Int32 := if v0 = (9 : Int32) then F1_24 else (F1_12 v0)
theorem b1_6 {p : Program} {l : Launch} {e : Env} {R : Room} {s : State} {m : MethodId} {args : Array Value} {below : List Frame} {meth : Method} {c : Code} {T : State} {locs : List Loc} {cells slots : Nat} {Z : State} {a0 : Array Value} (X : Stand p l e R s m args below meth c T locs cells slots) (hx : p.tables.exec = Jvm.exec) (hZ : Z.Warmed39 s.vm) (hw : ∀ d ∈ tables_1, d.before a0 Z = true) (hby : c.code = prog_158_method_25_code) (hown : s.vm.findClass "com/example/kartegami/kartegami/xml/Elements" = some m.cls) (v0 : Int32) (hret : meth.sig.returnType = some .boolean) {fs : List Frame} (hr : ∀ (f : JFrame) (acts : List Action), f.method = m → f.locked = none → f.entered = [] → (doReturn e (T.setTop f) acts (some (.int (F1_6 v0)))).1 = T.setFrames fs) : Steps p.tables e below (T.setTop (mkF m 6 #[.val (.int v0)] [])) (T.setFrames fs) := by
  show Steps p.tables e below (T.setTop (mkF m 6 #[.val (.int v0)] [])) _
  refine XS.iloadN X.here hx rfl (hb hby d1_6) rfl ?_
  show Steps p.tables e below (T.setTop (mkF m 7 #[.val (.int v0)] [(.int v0)])) _
  refine XS.bipush X.here hx rfl (hb hby d1_7) ?_
  show Steps p.tables e below (T.setTop (mkF m 9 #[.val (.int v0)] [(.int (9 : Int32)), (.int v0)])) _
  by_cases hc : v0 = (9 : Int32)
  · rw [show (F1_6 v0) = F1_24 from if_pos hc] at hr
    refine XS.icmpYes X.here hx rfl (pc0 := 9) (pc' := 24) rfl (hb hby d1_9) rfl (teq hc).1 (by decide) (by decide) ?_
    exact b1_24 X hx hZ hw hby hown v0 hret hr
  · rw [show (F1_6 v0) = (F1_12 v0) from if_neg hc] at hr
    refine XS.icmpNo X.here hx rfl (hb hby d1_9) rfl (feq hc).1 ?_
    exact b1_12 X hx hZ hw hby hown v0 hret hr
def F1_0 (v0 : Int32) : Int32 := if v0 = (32 : Int32) then F1_24 else (F1_6 v0)
theorem b1_0 {p : Program} {l : Launch} {e : Env} {R : Room} {s : State} {m : MethodId} {args : Array Value} {below : List Frame} {meth : Method} {c : Code} {T : State} {locs : List Loc} {cells slots : Nat} {Z : State} {a0 : Array Value} (X : Stand p l e R s m args below meth c T locs cells slots) (hx : p.tables.exec = Jvm.exec) (hZ : Z.Warmed39 s.vm) (hw : ∀ d ∈ tables_1, d.before a0 Z = true) (hby : c.code = prog_158_method_25_code) (hown : s.vm.findClass "com/example/kartegami/kartegami/xml/Elements" = some m.cls) (v0 : Int32) (hret : meth.sig.returnType = some .boolean) {fs : List Frame} (hr : ∀ (f : JFrame) (acts : List Action), f.method = m → f.locked = none → f.entered = [] → (doReturn e (T.setTop f) acts (some (.int (F1_0 v0)))).1 = T.setFrames fs) : Steps p.tables e below (T.setTop (mkF m 0 #[.val (.int v0)] [])) (T.setFrames fs) := by
  show Steps p.tables e below (T.setTop (mkF m 0 #[.val (.int v0)] [])) _
  refine XS.iloadN X.here hx rfl (hb hby d1_0) rfl ?_
  show Steps p.tables e below (T.setTop (mkF m 1 #[.val (.int v0)] [(.int v0)])) _
  refine XS.bipush X.here hx rfl (hb hby d1_1) ?_
  show Steps p.tables e below (T.setTop (mkF m 3 #[.val (.int v0)] [(.int (32 : Int32)), (.int v0)])) _
  by_cases hc : v0 = (32 : Int32)
  · rw [show (F1_0 v0) = F1_24 from if_pos hc] at hr
    refine XS.icmpYes X.here hx rfl (pc0 := 3) (pc' := 24) rfl (hb hby d1_3) rfl (teq hc).1 (by decide) (by decide) ?_
    exact b1_24 X hx hZ hw hby hown v0 hret hr
  · rw [show (F1_0 v0) = (F1_6 v0) from if_neg hc] at hr
    refine XS.icmpNo X.here hx rfl (hb hby d1_3) rfl (feq hc).1 ?_
    exact b1_6 X hx hZ hw hby hown v0 hret hr
theorem pn_1 : plainName "com/example/kartegami/kartegami/xml/Elements" = true := by first | (simp [plainName, overriddenIn]; done) | decide +kernel
theorem ef_1 (m : MethodId) (p0 : Int32) : entryFrame m #[(.int p0)] 1 = mkF m 0 #[.val (.int p0)] [] := by first | (simp [entryFrame, mkF, argsToLocals, Value.category]; done) | rfl
def Q_rm1 (Z : State) (p0 : Int32) (h0 : Heap) (n0 : Nat) (v : Option Value) (h : Heap) (L : List Loc) : Prop := (v = some (.int (F1_0 p0)) ∧ Fr n0 L ∧ h = h0)
set_option maxRecDepth 65536 in
set_option maxHeartbeats 40000000 in
theorem rm1 (l : Launch) (Z : State) (a0 : Array Value) (hw : ∀ d ∈ tables_1, d.before a0 Z = true) (ws : List Jvm.Cond) (p0 : Int32) (h0 : Heap) (n0 : Nat) (Z0 : n0 ≤ h0.size) :
    MetFree l (⟨"com/example/kartegami/kartegami/xml/Elements", "isXmlSpace", "(C)Z"⟩ : MethodName) (head1 (Jvm.Cond.code (⟨"com/example/kartegami/kartegami/xml/Elements", "isXmlSpace", "(C)Z"⟩ : MethodName) prog_158_method_25_code 1 (some .boolean) :: ws) ({ frames := 0, cells := 0, slots := 0, locals := 0 } : Room)) (fun a U => a = #[(.int p0)] ∧ Z.Warmed39 U.vm ∧ U.heap = h0) (fun _ _ _ _ _ => True) (fun _ U o U' => ∃ v L, o = .returned v ∧ Q_rm1 Z p0 h0 n0 v U'.heap L ∧ FrameEnd U o U' L ({ frames := 0, cells := 0, slots := 0, locals := 0 } : Room).cells ({ frames := 0, cells := 0, slots := 0, locals := 0 } : Room).slots) := by
  refine MetFree.of_bodySF (plainFor_of_name pn_1) hisR ?_
  intro p e s m args below meth c s₁ Bd hml0 hP hK
  obtain ⟨rfl, hZ, hh⟩ := hP
  have hx := Bd.exec
  have hby := Bd.bytes
  have hml : c.maxLocals = 1 := hml0
  have hown : s.vm.findClass "com/example/kartegami/kartegami/xml/Elements" = some m.cls := findClass_of_methodNamed Bd.named
  have hnm := (name_of_methodNamed Bd.named Bd.method).1
  have X0 : Stand p l e ({ frames := 0, cells := 0, slots := 0, locals := 0 } : Room) s m #[(.int p0)] below meth c s₁ [] 0 0 := Stand.of_body Bd
  have e0 : s₁.heap = h0 := by rw [← hh, Bd.state]; rfl
  have N0 := Fr.nil n0
  have pre0 : ∀ t, Steps p.tables e below (s₁.setTop (mkF m 0 #[.val (.int p0)] [])) t → Steps p.tables e below (s₁.setTop (entryFrame m #[(.int p0)] 1)) t := fun t k => castTop (ef_1 m p0) k
  obtain ⟨fs, hr, hrun, hended, hW, hsame⟩ := X0.leave (v := some (.int (F1_0 p0))) (fun h => by rw [Bd.returns] at h; cases h)
  refine ⟨_, _, pre0 _ ?_, hrun, hended, _, _, rfl, ⟨rfl, N0, e0⟩, ⟨_, rfl⟩, hW, hsame.mono (by decide) (by decide)⟩
  exact b1_0 X0 hx hZ hw hby hown p0 Bd.returns hr
def F0s_28 : Int32 := (0 : Int32)
theorem b0s_28 {p : Program} {l : Launch} {e : Env} {R : Room} {s : State} {m : MethodId} {args : Array Value} {below : List Frame} {meth : Method} {c : Code} {T : State} {locs : List Loc} {cells slots : Nat} {Z : State} {a0 : Array Value} (X : Stand p l e R s m args below meth c T locs cells slots) (hx : p.tables.exec = Jvm.exec) (hZ : Z.Warmed39 s.vm) (hw : ∀ d ∈ tables_1, d.before a0 Z = true) (hby : c.code = code) (hown : s.vm.findClass "com/example/kartegami/kartegami/xml/ElementsIsXmlSpacePinLaw" = some m.cls) (v0 : Int32) (v1 : Int32) (target : State) (kt : Steps p.tables e below (T.setTop (mkF m 29 #[.val (.int v0), .val (.int v1), .unset] [(.int F0s_28)])) target) : Steps p.tables e below (T.setTop (mkF m 28 #[.val (.int v0), .val (.int v1), .unset] [])) target := by
  show Steps p.tables e below (T.setTop (mkF m 28 #[.val (.int v0), .val (.int v1), .unset] [])) _
  refine XS.iconst X.here hx rfl (hb hby at_28) ?_
  rw [show F0s_28 = (0 : Int32) from rfl] at kt
  exact kt
def F0s_24 : Int32 := (1 : Int32)
theorem b0s_24 {p : Program} {l : Launch} {e : Env} {R : Room} {s : State} {m : MethodId} {args : Array Value} {below : List Frame} {meth : Method} {c : Code} {T : State} {locs : List Loc} {cells slots : Nat} {Z : State} {a0 : Array Value} (X : Stand p l e R s m args below meth c T locs cells slots) (hx : p.tables.exec = Jvm.exec) (hZ : Z.Warmed39 s.vm) (hw : ∀ d ∈ tables_1, d.before a0 Z = true) (hby : c.code = code) (hown : s.vm.findClass "com/example/kartegami/kartegami/xml/ElementsIsXmlSpacePinLaw" = some m.cls) (v0 : Int32) (v1 : Int32) (target : State) (kt : Steps p.tables e below (T.setTop (mkF m 29 #[.val (.int v0), .val (.int v1), .unset] [(.int F0s_24)])) target) : Steps p.tables e below (T.setTop (mkF m 24 #[.val (.int v0), .val (.int v1), .unset] [])) target := by
  show Steps p.tables e below (T.setTop (mkF m 24 #[.val (.int v0), .val (.int v1), .unset] [])) _
  refine XS.iconst X.here hx rfl (hb hby at_24) ?_
  show Steps p.tables e below (T.setTop (mkF m 25 #[.val (.int v0), .val (.int v1), .unset] [(.int (1 : Int32))])) _
  refine XS.goto X.here hx rfl (pc0 := 25) (pc' := 29) rfl (hb hby at_25) (by decide) (by decide) ?_
  rw [show F0s_24 = (1 : Int32) from rfl] at kt
  exact kt
def F0s_12 (v1 : Int32) : Int32 := if ((((4294977024 : Int64).toUInt64 >>> (v1 &&& 0x3f).toInt64.toUInt64).toInt64) &&& (1 : Int64)) = (0 : Int64) then F0s_28 else F0s_24
theorem b0s_12 {p : Program} {l : Launch} {e : Env} {R : Room} {s : State} {m : MethodId} {args : Array Value} {below : List Frame} {meth : Method} {c : Code} {T : State} {locs : List Loc} {cells slots : Nat} {Z : State} {a0 : Array Value} (X : Stand p l e R s m args below meth c T locs cells slots) (hx : p.tables.exec = Jvm.exec) (hZ : Z.Warmed39 s.vm) (hw : ∀ d ∈ tables_1, d.before a0 Z = true) (hby : c.code = code) (hown : s.vm.findClass "com/example/kartegami/kartegami/xml/ElementsIsXmlSpacePinLaw" = some m.cls) (v0 : Int32) (v1 : Int32) (target : State) (kt : Steps p.tables e below (T.setTop (mkF m 29 #[.val (.int v0), .val (.int v1), .unset] [(.int (F0s_12 v1))])) target) : Steps p.tables e below (T.setTop (mkF m 12 #[.val (.int v0), .val (.int v1), .unset] [])) target := by
  show Steps p.tables e below (T.setTop (mkF m 12 #[.val (.int v0), .val (.int v1), .unset] [])) _
  refine X.ldc2Long hx hown (mvT hZ (hw _ (List.mem_of_getElem? (i := 1) rfl))) (g := (mkF m 12 #[.val (.int v0), .val (.int v1), .unset] [])) rfl (hb hby at_12) _ ?_
  show Steps p.tables e below (T.setTop (mkF m 15 #[.val (.int v0), .val (.int v1), .unset] [(.long (4294977024 : Int64))])) _
  refine XS.iloadN X.here hx rfl (hb hby at_15) rfl ?_
  show Steps p.tables e below (T.setTop (mkF m 16 #[.val (.int v0), .val (.int v1), .unset] [(.int v1), (.long (4294977024 : Int64))])) _
  refine XS.lushr X.here hx rfl (hb hby at_16) rfl ?_
  show Steps p.tables e below (T.setTop (mkF m 17 #[.val (.int v0), .val (.int v1), .unset] [(.long (((4294977024 : Int64).toUInt64 >>> (v1 &&& 0x3f).toInt64.toUInt64).toInt64))])) _
  refine XS.lconst X.here hx rfl (hb hby at_17) ?_
  show Steps p.tables e below (T.setTop (mkF m 18 #[.val (.int v0), .val (.int v1), .unset] [(.long (1 : Int64)), (.long (((4294977024 : Int64).toUInt64 >>> (v1 &&& 0x3f).toInt64.toUInt64).toInt64))])) _
  refine XS.land X.here hx rfl (hb hby at_18) rfl ?_
  show Steps p.tables e below (T.setTop (mkF m 19 #[.val (.int v0), .val (.int v1), .unset] [(.long ((((4294977024 : Int64).toUInt64 >>> (v1 &&& 0x3f).toInt64.toUInt64).toInt64) &&& (1 : Int64)))])) _
  refine XS.lconst X.here hx rfl (hb hby at_19) ?_
  show Steps p.tables e below (T.setTop (mkF m 20 #[.val (.int v0), .val (.int v1), .unset] [(.long (0 : Int64)), (.long ((((4294977024 : Int64).toUInt64 >>> (v1 &&& 0x3f).toInt64.toUInt64).toInt64) &&& (1 : Int64)))])) _
  refine XS.lcmp X.here hx rfl (hb hby at_20) rfl ?_
  show Steps p.tables e below (T.setTop (mkF m 21 #[.val (.int v0), .val (.int v1), .unset] [(.int (lcmpW ((((4294977024 : Int64).toUInt64 >>> (v1 &&& 0x3f).toInt64.toUInt64).toInt64) &&& (1 : Int64)) (0 : Int64)))])) _
  by_cases hc : ((((4294977024 : Int64).toUInt64 >>> (v1 &&& 0x3f).toInt64.toUInt64).toInt64) &&& (1 : Int64)) = (0 : Int64)
  · rw [show (F0s_12 v1) = F0s_28 from if_pos hc] at kt
    refine XS.ifYes X.here hx rfl (pc0 := 21) (pc' := 28) rfl (hb hby at_21) rfl ((if0 _ _).trans (teq ((lw_eq _ _).mpr hc)).1) (by decide) (by decide) ?_
    exact b0s_28 X hx hZ hw hby hown v0 v1 target kt
  · rw [show (F0s_12 v1) = F0s_24 from if_neg hc] at kt
    refine XS.ifNo X.here hx rfl (hb hby at_21) rfl ((if0 _ _).trans (feq (fun q => hc ((lw_eq _ _).mp q))).1) ?_
    exact b0s_24 X hx hZ hw hby hown v0 v1 target kt
def F0s_6 (v1 : Int32) : Int32 := if (32 : Int32) < v1 then F0s_28 else (F0s_12 v1)
theorem b0s_6 {p : Program} {l : Launch} {e : Env} {R : Room} {s : State} {m : MethodId} {args : Array Value} {below : List Frame} {meth : Method} {c : Code} {T : State} {locs : List Loc} {cells slots : Nat} {Z : State} {a0 : Array Value} (X : Stand p l e R s m args below meth c T locs cells slots) (hx : p.tables.exec = Jvm.exec) (hZ : Z.Warmed39 s.vm) (hw : ∀ d ∈ tables_1, d.before a0 Z = true) (hby : c.code = code) (hown : s.vm.findClass "com/example/kartegami/kartegami/xml/ElementsIsXmlSpacePinLaw" = some m.cls) (v0 : Int32) (v1 : Int32) (target : State) (kt : Steps p.tables e below (T.setTop (mkF m 29 #[.val (.int v0), .val (.int v1), .unset] [(.int (F0s_6 v1))])) target) : Steps p.tables e below (T.setTop (mkF m 6 #[.val (.int v0), .val (.int v1), .unset] [])) target := by
  show Steps p.tables e below (T.setTop (mkF m 6 #[.val (.int v0), .val (.int v1), .unset] [])) _
  refine XS.iloadN X.here hx rfl (hb hby at_6) rfl ?_
  show Steps p.tables e below (T.setTop (mkF m 7 #[.val (.int v0), .val (.int v1), .unset] [(.int v1)])) _
  refine XS.bipush X.here hx rfl (hb hby at_7) ?_
  show Steps p.tables e below (T.setTop (mkF m 9 #[.val (.int v0), .val (.int v1), .unset] [(.int (32 : Int32)), (.int v1)])) _
  by_cases hc : (32 : Int32) < v1
  · rw [show (F0s_6 v1) = F0s_28 from if_pos hc] at kt
    refine XS.icmpYes X.here hx rfl (pc0 := 9) (pc' := 28) rfl (hb hby at_9) rfl (tlt hc).2.2.1 (by decide) (by decide) ?_
    exact b0s_28 X hx hZ hw hby hown v0 v1 target kt
  · rw [show (F0s_6 v1) = (F0s_12 v1) from if_neg hc] at kt
    refine XS.icmpNo X.here hx rfl (hb hby at_9) rfl (flt hc).2.2.1 ?_
    exact b0s_12 X hx hZ hw hby hown v0 v1 target kt
theorem pn_0 : plainName "com/example/kartegami/kartegami/xml/ElementsIsXmlSpacePinLaw" = true := by first | (simp [plainName, overriddenIn]; done) | decide +kernel
theorem ef_0 (m : MethodId) (p0 : Int32) : entryFrame m #[(.int p0)] maxLocals = mkF m 0 #[.val (.int p0), .unset, .unset] [] := by first | (simp [entryFrame, mkF, argsToLocals, Value.category, maxLocals]; done) | rfl
def Q_rm0 (Z : State) (p0 : Int32) (h0 : Heap) (n0 : Nat) (v : Option Value) (h : Heap) (L : List Loc) : Prop := (v = some (.int (1 : Int32)) ∧ Fr n0 L)
set_option maxRecDepth 65536 in
set_option maxHeartbeats 40000000 in
theorem rm0 (l : Launch) (Z : State) (a0 : Array Value) (hw : ∀ d ∈ tables_1, d.before a0 Z = true) (ws : List Jvm.Cond) (p0 : Int32) (h0 : Heap) (n0 : Nat) (Z0 : n0 ≤ h0.size) (hc35 : (F1_0 ((p0 &&& (65535 : Int32)).toUInt32.toUInt16.toUInt32.toInt32)) = (F0s_6 ((p0 &&& (65535 : Int32)).toUInt32.toUInt16.toUInt32.toInt32))) :
    MetFree l x (head1 (Jvm.Cond.code x code maxLocals ret :: ws) room_1) (fun a U => a = #[(.int p0)] ∧ Z.Warmed39 U.vm ∧ U.heap = h0) (fun _ _ _ _ _ => True) (fun _ U o U' => ∃ v L, o = .returned v ∧ Q_rm0 Z p0 h0 n0 v U'.heap L ∧ FrameEnd U o U' L room_1.cells room_1.slots) := by
  refine MetFree.of_bodySF (plainFor_of_name pn_0) hisR ?_
  intro p e s m args below meth c s₁ Bd hml0 hP hK
  obtain ⟨rfl, hZ, hh⟩ := hP
  have hx := Bd.exec
  have hby := Bd.bytes
  have hml : c.maxLocals = 3 := hml0
  have hown : s.vm.findClass "com/example/kartegami/kartegami/xml/ElementsIsXmlSpacePinLaw" = some m.cls := findClass_of_methodNamed Bd.named
  have hnm := (name_of_methodNamed Bd.named Bd.method).1
  have X0 : Stand p l e room_1 s m #[(.int p0)] below meth c s₁ [] 0 0 := Stand.of_body Bd
  have e0 : s₁.heap = h0 := by rw [← hh, Bd.state]; rfl
  have N0 := Fr.nil n0
  have pre0 : ∀ t, Steps p.tables e below (s₁.setTop (mkF m 0 #[.val (.int p0), .unset, .unset] [])) t → Steps p.tables e below (s₁.setTop (entryFrame m #[(.int p0)] maxLocals)) t := fun t k => castTop (ef_0 m p0) k
  obtain ⟨_, _, ⟨T1, L1, k1, n1⟩, -, X1, ⟨Lc1, hQ1, l1, y1, z1⟩, st1⟩ := Jvm.LawKit.callS X0 hx (y := (⟨"com/example/kartegami/kartegami/xml/Elements", "isXmlSpace", "(C)Z"⟩ : MethodName)) hown (mvT hZ (hw _ (List.mem_of_getElem? (i := 2) rfl))) (mvT hZ (hw _ (List.mem_of_getElem? (i := 3) rfl))) (mvT hZ (hw _ (List.mem_of_getElem? (i := 4) rfl))) (mvT hZ (hw _ (List.mem_of_getElem? (i := 5) rfl))) (by decide) (backOf (W := 0) (rm1 l Z a0 hw [] ((p0 &&& (65535 : Int32)).toUInt32.toUInt16.toUInt32.toInt32) h0 n0 Z0) hZ (hw _ (List.mem_of_getElem? (i := 5) rfl)) (hw _ (List.mem_of_getElem? (i := 4) rfl)) (by decide) (by decide)) (g := (mkF m 31 #[.val (.int p0), .val (.int ((p0 &&& (65535 : Int32)).toUInt32.toUInt16.toUInt32.toInt32)), .val (.int (F0s_6 ((p0 &&& (65535 : Int32)).toUInt32.toUInt16.toUInt32.toInt32)))] [(.int ((p0 &&& (65535 : Int32)).toUInt32.toUInt16.toUInt32.toInt32))])) rfl (by rw [hml]; rfl) (argsL := [(.int ((p0 &&& (65535 : Int32)).toUInt32.toUInt16.toUInt32.toInt32))]) (rest := []) (lenOf pd0 rfl) rfl (by show 2 * 0 + _ ≤ _; exact Nat.le_of_eq rfl) (hb hby at_31) (fun _ _ => ⟨rfl, e0, (by decide : 0 + 0 ≤ _), (by decide : 0 + 0 ≤ _)⟩)
  dsimp only [Pt.U, Pt.locs, Pt.cells, Pt.slots] at X1 l1 y1 z1 st1 hQ1
  subst l1 y1 z1
  obtain ⟨rfl, N1q, e1⟩ := hQ1
  have N1 := Fr.app N0 N1q
  obtain ⟨fs, hr, hrun, hended, hW, hsame⟩ := X1.leave (v := some (.int (1 : Int32))) (fun h => by rw [Bd.returns] at h; cases h)
  refine ⟨_, _, pre0 _ ?_, hrun, hended, _, _, rfl, ⟨rfl, N1⟩, ⟨_, rfl⟩, hW, hsame.mono (by decide) (by decide)⟩
  show Steps p.tables e below (s₁.setTop (mkF m 0 #[.val (.int p0), .unset, .unset] [])) _
  refine XS.iloadN X0.here hx rfl (hb hby at_0) rfl ?_
  show Steps p.tables e below (s₁.setTop (mkF m 1 #[.val (.int p0), .unset, .unset] [(.int p0)])) _
  refine X0.ldcInt hx hown (mvT hZ (hw _ (List.mem_of_getElem? (i := 0) rfl))) (g := (mkF m 1 #[.val (.int p0), .unset, .unset] [(.int p0)])) rfl (hb hby at_1) _ ?_
  show Steps p.tables e below (s₁.setTop (mkF m 3 #[.val (.int p0), .unset, .unset] [(.int (65535 : Int32)), (.int p0)])) _
  refine XS.iand X0.here hx rfl (hb hby at_3) rfl ?_
  show Steps p.tables e below (s₁.setTop (mkF m 4 #[.val (.int p0), .unset, .unset] [(.int (p0 &&& (65535 : Int32)))])) _
  refine XS.i2c X0.here hx rfl (hb hby at_4) rfl ?_
  show Steps p.tables e below (s₁.setTop (mkF m 5 #[.val (.int p0), .unset, .unset] [(.int ((p0 &&& (65535 : Int32)).toUInt32.toUInt16.toUInt32.toInt32))])) _
  refine XS.istoreN X0.here hx rfl (hb hby at_5) rfl (l' := #[.val (.int p0), .val (.int ((p0 &&& (65535 : Int32)).toUInt32.toUInt16.toUInt32.toInt32)), .unset]) rfl ?_
  show Steps p.tables e below (s₁.setTop (mkF m 6 #[.val (.int p0), .val (.int ((p0 &&& (65535 : Int32)).toUInt32.toUInt16.toUInt32.toInt32)), .unset] [])) _
  refine b0s_6 X0 hx hZ hw hby hown p0 ((p0 &&& (65535 : Int32)).toUInt32.toUInt16.toUInt32.toInt32) _ ?_
  show Steps p.tables e below (s₁.setTop (mkF m 29 #[.val (.int p0), .val (.int ((p0 &&& (65535 : Int32)).toUInt32.toUInt16.toUInt32.toInt32)), .unset] [(.int (F0s_6 ((p0 &&& (65535 : Int32)).toUInt32.toUInt16.toUInt32.toInt32)))])) _
  refine XS.istoreN X0.here hx rfl (hb hby at_29) rfl (l' := #[.val (.int p0), .val (.int ((p0 &&& (65535 : Int32)).toUInt32.toUInt16.toUInt32.toInt32)), .val (.int (F0s_6 ((p0 &&& (65535 : Int32)).toUInt32.toUInt16.toUInt32.toInt32)))]) rfl ?_
  show Steps p.tables e below (s₁.setTop (mkF m 30 #[.val (.int p0), .val (.int ((p0 &&& (65535 : Int32)).toUInt32.toUInt16.toUInt32.toInt32)), .val (.int (F0s_6 ((p0 &&& (65535 : Int32)).toUInt32.toUInt16.toUInt32.toInt32)))] [])) _
  refine XS.iloadN X0.here hx rfl (hb hby at_30) rfl ?_
  show Steps p.tables e below (s₁.setTop (mkF m 31 #[.val (.int p0), .val (.int ((p0 &&& (65535 : Int32)).toUInt32.toUInt16.toUInt32.toInt32)), .val (.int (F0s_6 ((p0 &&& (65535 : Int32)).toUInt32.toUInt16.toUInt32.toInt32)))] [(.int ((p0 &&& (65535 : Int32)).toUInt32.toUInt16.toUInt32.toInt32))])) _
  refine st1 _ ?_
  show Steps p.tables e below (T1.setTop (mkF m 34 #[.val (.int p0), .val (.int ((p0 &&& (65535 : Int32)).toUInt32.toUInt16.toUInt32.toInt32)), .val (.int (F0s_6 ((p0 &&& (65535 : Int32)).toUInt32.toUInt16.toUInt32.toInt32)))] [(.int (F1_0 ((p0 &&& (65535 : Int32)).toUInt32.toUInt16.toUInt32.toInt32)))])) _
  refine XS.iloadN X1.here hx rfl (hb hby at_34) rfl ?_
  show Steps p.tables e below (T1.setTop (mkF m 35 #[.val (.int p0), .val (.int ((p0 &&& (65535 : Int32)).toUInt32.toUInt16.toUInt32.toInt32)), .val (.int (F0s_6 ((p0 &&& (65535 : Int32)).toUInt32.toUInt16.toUInt32.toInt32)))] [(.int (F0s_6 ((p0 &&& (65535 : Int32)).toUInt32.toUInt16.toUInt32.toInt32))), (.int (F1_0 ((p0 &&& (65535 : Int32)).toUInt32.toUInt16.toUInt32.toInt32)))])) _
  refine XS.icmpNo X1.here hx rfl (hb hby at_35) rfl (teq hc35).2 ?_
  show Steps p.tables e below (T1.setTop (mkF m 38 #[.val (.int p0), .val (.int ((p0 &&& (65535 : Int32)).toUInt32.toUInt16.toUInt32.toInt32)), .val (.int (F0s_6 ((p0 &&& (65535 : Int32)).toUInt32.toUInt16.toUInt32.toInt32)))] [])) _
  refine XS.iconst X1.here hx rfl (hb hby at_38) ?_
  show Steps p.tables e below (T1.setTop (mkF m 39 #[.val (.int p0), .val (.int ((p0 &&& (65535 : Int32)).toUInt32.toUInt16.toUInt32.toInt32)), .val (.int (F0s_6 ((p0 &&& (65535 : Int32)).toUInt32.toUInt16.toUInt32.toInt32)))] [(.int (1 : Int32))])) _
  refine XS.goto X1.here hx rfl (pc0 := 39) (pc' := 43) rfl (hb hby at_39) (by decide) (by decide) ?_
  show Steps p.tables e below (T1.setTop (mkF m 43 #[.val (.int p0), .val (.int ((p0 &&& (65535 : Int32)).toUInt32.toUInt16.toUInt32.toInt32)), .val (.int (F0s_6 ((p0 &&& (65535 : Int32)).toUInt32.toUInt16.toUInt32.toInt32)))] [(.int (1 : Int32))])) _
  exact retN X1 hx (t := .boolean) Bd.returns (by simp) (hb hby at_43) hr
theorem own_small : ∀ k : Fin 33, F1_0 (Int32.ofNat k.val) = F0s_6 (Int32.ofNat k.val) := by decide +kernel
theorem own_lawc (c : Int32) (h0 : 0 ≤ c.toInt) : F1_0 c = F0s_6 c := by
  have hr := rng32 c
  by_cases h : c.toInt < 33
  · have e : c = Int32.ofNat (c.toInt.toNat) := by
      rw [← Int32.toInt_inj, Int32.toInt_ofNat_of_lt (by omega)]; omega
    have q := own_small ⟨c.toInt.toNat, by omega⟩
    simp only [← e] at q
    exact q
  · have e32 : (32 : Int32).toInt = 32 := rfl
    have e9 : (9 : Int32).toInt = 9 := rfl
    have e10 : (10 : Int32).toInt = 10 := rfl
    have e13 : (13 : Int32).toInt = 13 := rfl
    rw [show F0s_6 c = F0s_28 from if_pos (by rw [Int32.lt_iff_toInt_lt]; omega)]
    rw [show F1_0 c = F1_6 c from if_neg (by rw [← Int32.toInt_inj]; omega), show F1_6 c = F1_12 c from if_neg (by rw [← Int32.toInt_inj]; omega), show F1_12 c = F1_18 c from if_neg (by rw [← Int32.toInt_inj]; omega), show F1_18 c = F1_28 from if_neg (by rw [← Int32.toInt_inj]; omega)]
    rfl
theorem own_law (p0 : Int32) : F1_0 ((p0 &&& (65535 : Int32)).toUInt32.toUInt16.toUInt32.toInt32) = F0s_6 ((p0 &&& (65535 : Int32)).toUInt32.toUInt16.toUInt32.toInt32) := own_lawc _ (c_i2c _).2.1

set_option maxRecDepth 65536 in
set_option maxHeartbeats 40000000 in
theorem comes_1 {Post : Tables → Env → Array Value → State → Outcome → State → Prop} (hpost : ∀ tb e args s v u, (limb_1_1.after args s (.returned v) u = true ∧ limb_1_2.after args s (.returned v) u = true ∧ True) → FrameEnd s (.returned v) u (Jvm.fieldLocs frame_1_writes args s ++ Jvm.arrayLocs frame_1_arrays args s ++ Jvm.staticLocs frame_1_statics s) 0 0 → Post tb e args s (.returned v) u) :
    ArmFor flags0 classFile x code maxLocals ret World_1 tables_1 room_1 Calls_1 rest_1 Pre_1 Post := by
  intro l hfl _ _ p e ha hc hk s m args below hf hA hF happ hP
  obtain ⟨hcalls, hrest, hpre⟩ := hP
  obtain ⟨-, -, -, hnamed, -, -, -, hat⟩ := (Spec.applies_iff hf).mp happ
  obtain ⟨hg, hn⟩ := and_e (Cond.before_iff.mp (show (Jvm.Cond.and given_1 narrow_1).before args s = true from hpre))
  obtain ⟨gc, g0⟩ := and_e hg
  have k0 := g0
  obtain ⟨w0, rfl⟩ : ∃ w0 : Value, args = #[w0] := by
    have hs : args.size = 1 := by simpa [Cond.value, given_1] using gc
    obtain ⟨L⟩ := args
    match L, hs with
    | [w0], _ => exact ⟨w0, rfl⟩
  have hw := fun d (hd : d ∈ tables_1) => atoms_spec (ws := Jvm.Cond.code x code maxLocals ret :: tables_1) hat d (List.mem_cons_of_mem _ hd)
  obtain ⟨i0, ei0⟩ := is_v k0
  obtain rfl : w0 = (.int i0) := Option.some.inj ei0
  obtain ⟨n, o, h1, h2, h3, _, L, rfl, ⟨rfl, N⟩, hq⟩ := rm0 l s _ hw tables_1 i0 s.heap s.heap.size (Nat.le_refl _) (own_law i0) p e ha hc hk s m _ below hf ((Spec.applies_iff_loose hf).mp happ).1 ⟨rfl, State.Warmed39.refl s, rfl⟩ trivial
  refine ⟨n, _, h1, h2, h3, hpost _ _ _ _ _ _ ⟨Cond.after_iff.mpr rfl, Cond.after_iff.mpr (eq_i res_at (Term.int_eval (1)) rfl), trivial⟩ ⟨hq.1, hq.2.1, (hq.2.2.sift fun y hy => Or.inr (N y hy)).mono (by decide) (by decide)⟩⟩
theorem main_1_1 : Claimed_1_1 := comes_1 fun _ _ _ _ _ _ h hF => ⟨h.1, hF⟩
theorem main_1_2 : Claimed_1_2 := comes_1 fun _ _ _ _ _ _ h hF => ⟨h.2.1, hF⟩
end Jvm.Pilot.@@N@@
namespace Jvm.Pilot.@@N@@
open Jvm Jvm.ClassFile Sem Op Lib Jvm.Free Jvm.Stand Jvm.Pilot.@@N@@.Jvm.D
/-! MADE BY PROGRAM (witnessworld.py) out of the Statement's table words and the real class files: 9 classes; the members and pool entries that the words name. The judged class is class 1, her method 1. -/
namespace start1
open Jvm.ClassFile
def u (s : String) : CpInfo := .utf8 (stringToUtf16 s)
/-- a pool by its gaps: so many unusable entries, then the entry; so many at the end -/
def gap : Nat → List CpInfo → List CpInfo
  | 0, r => r
  | n + 1, r => .unusable :: gap n r
def poolList (es : List (Nat × CpInfo)) (last : Nat) : List CpInfo := es.foldr (fun e r => gap e.1 (e.2 :: r)) (gap last [])
def pool (es : List (Nat × CpInfo)) (last : Nat) : Array CpInfo := ⟨poolList es last⟩
def fileOf (pool : Array CpInfo) (this : Nat) (attrs : Array Attribute := #[]) (ms : Array MethodInfo := #[]) (fl : Nat := 33) (sup : Nat := 0) (ifs : Array Nat := #[]) (fds : Array FieldInfo := #[]) : ClassFile where
  minorVersion := 0
  majorVersion := 65
  constantPool := pool
  accessFlags := fl
  thisClass := this
  superClass := sup
  interfaces := ifs
  fields := fds
  methods := ms
  attributes := attrs
def plain (name : String) (sup : Option ClassId) : Class where
  name := name
  kind := .ordinary
  loader := none
  accessFlags := 33
  super := sup
  interfaces := #[]
  cf := none
  fields := #[]
  methods := #[]
  instanceTypes := #[]
  staticTypes := #[]
  resolved := #[]
  callSites := []
  init := .initialized
  statics := none
  mirror := none

def pool0 : Array CpInfo := pool [(5, u "<init>"), (0, u "()V"), (1, .class_ 10), (1, u "java/lang/Object")] 113

def k0m0 : Method := { name := "<init>", desc := "()V", sig := { parameters := [], returnType := none }, accessFlags := 1, code := none }
/-- java/lang/Object -/
def k0 : Class := { plain "java/lang/Object" none with
  accessFlags := 33
  interfaces := #[]
  cf := some (fileOf pool0 8 #[] #[{ accessFlags := 1, nameIndex := 5, descriptorIndex := 6, attributes := #[] }] 33 0 #[] #[])
  fields := #[]
  methods := #[k0m0]
  instanceTypes := #[]
  staticTypes := #[]
  resolved := Array.replicate 124 none
  statics := none }

def pool1 : Array CpInfo := pool [(2, .class_ 4), (1, u "java/lang/Object"), (0, u "<init>"), (0, u "()V"), (0, .integer 65535), (0, .class_ 9), (0, u "com/example/kartegami/kartegami/xml/ElementsIsXmlSpacePinLaw"), (0, .long 4294977024), (1, .methodref 13 14), (0, .class_ 15), (0, .nameAndType 16 17), (0, u "com/example/kartegami/kartegami/xml/Elements"), (0, u "isXmlSpace"), (0, u "(C)Z"), (0, u "XML_SPACE_MASK"), (0, u "J"), (3, u "law"), (0, u "(I)Z")] 3

def k1m0 : Method := { name := "<init>", desc := "()V", sig := { parameters := [], returnType := none }, accessFlags := 2, code := none }
def k1c1 : Code := { maxStack := 4, maxLocals := 3, code := code, exceptionTable := #[], attributes := #[] }
def k1m1 : Method := { name := "law", desc := "(I)Z", sig := { parameters := [.int], returnType := some .boolean }, accessFlags := 9, code := some k1c1 }
/-- com/example/kartegami/kartegami/xml/ElementsIsXmlSpacePinLaw -/
def k1 : Class := { plain "com/example/kartegami/kartegami/xml/ElementsIsXmlSpacePinLaw" (some 0) with
  accessFlags := 49
  interfaces := #[]
  cf := some (fileOf pool1 8 #[] #[{ accessFlags := 2, nameIndex := 5, descriptorIndex := 6, attributes := #[] }, { accessFlags := 9, nameIndex := 23, descriptorIndex := 24, attributes := #[] }] 49 2 #[] #[{ accessFlags := 26, nameIndex := 18, descriptorIndex := 19, attributes := #[] }])
  fields := #[{ name := "XML_SPACE_MASK", type := .long, accessFlags := 26, slot := 0, constantValue := 0 }]
  methods := #[k1m0, k1m1]
  instanceTypes := #[]
  staticTypes := #[.long]
  resolved := Array.replicate 28 none
  statics := none }

def pool2 : Array CpInfo := pool [(2, .class_ 4), (1, u "java/lang/Object"), (0, u "<init>"), (0, u "()V"), (1, .class_ 10), (1, u "com/example/kartegami/kartegami/xml/Elements"), (135, u "isXmlSpace"), (0, u "(C)Z"), (66, .class_ 216), (1, u "com/example/kartegami/kartegami/xml/Elements$TakenOut"), (116, u "TAKEN_OUT"), (0, u "Ljava/lang/String;"), (1, u "TAKEN_OUT_BEFORE")] 103

def k2m0 : Method := { name := "<init>", desc := "()V", sig := { parameters := [], returnType := none }, accessFlags := 2, code := none }
def k2c1 : Code := { maxStack := 2, maxLocals := 1, code := prog_158_method_25_code, exceptionTable := #[], attributes := #[] }
def k2m1 : Method := { name := "isXmlSpace", desc := "(C)Z", sig := { parameters := [.char], returnType := some .boolean }, accessFlags := 9, code := some k2c1 }
/-- com/example/kartegami/kartegami/xml/Elements -/
def k2 : Class := { plain "com/example/kartegami/kartegami/xml/Elements" (some 0) with
  accessFlags := 49
  interfaces := #[]
  cf := some (fileOf pool2 8 #[.nestMembers #[214]] #[{ accessFlags := 2, nameIndex := 5, descriptorIndex := 6, attributes := #[] }, { accessFlags := 9, nameIndex := 146, descriptorIndex := 147, attributes := #[] }] 49 2 #[] #[{ accessFlags := 26, nameIndex := 333, descriptorIndex := 334, attributes := #[] }, { accessFlags := 26, nameIndex := 336, descriptorIndex := 334, attributes := #[] }])
  fields := #[{ name := "TAKEN_OUT", type := (.object "java/lang/String"), accessFlags := 26, slot := 0, constantValue := 0 }, { name := "TAKEN_OUT_BEFORE", type := (.object "java/lang/String"), accessFlags := 26, slot := 1, constantValue := 0 }]
  methods := #[k2m0, k2m1]
  instanceTypes := #[]
  staticTypes := #[(.object "java/lang/String"), (.object "java/lang/String")]
  resolved := Array.replicate 440 none
  statics := none }

def pool3 : Array CpInfo := pool [(1, u "java/lang/Cloneable"), (0, .class_ 1), (0, u "java/lang/Object"), (0, .class_ 3)] 3

/-- java/lang/Cloneable -/
def k3 : Class := { plain "java/lang/Cloneable" (some 0) with
  accessFlags := 1537
  interfaces := #[]
  cf := some (fileOf pool3 2 #[] #[] 1537 4 #[] #[])
  fields := #[]
  methods := #[]
  instanceTypes := #[]
  staticTypes := #[]
  resolved := Array.replicate 8 none
  statics := none }

def pool4 : Array CpInfo := pool [(1, u "java/io/Serializable"), (0, .class_ 1), (0, u "java/lang/Object"), (0, .class_ 3)] 3

/-- java/io/Serializable -/
def k4 : Class := { plain "java/io/Serializable" (some 0) with
  accessFlags := 1537
  interfaces := #[]
  cf := some (fileOf pool4 2 #[] #[] 1537 4 #[] #[])
  fields := #[]
  methods := #[]
  instanceTypes := #[]
  staticTypes := #[]
  resolved := Array.replicate 8 none
  statics := none }

/-- the primitive byte -/
def k5 : Class := { plain "byte" none with kind := .primitive 'B', accessFlags := 0x411 }
/-- [B -/
def k6 : Class := { plain "[B" (some 0) with kind := .array 5 .byte, interfaces := #[3, 4], accessFlags := 1041 }

/-- the primitive int -/
def k7 : Class := { plain "int" none with kind := .primitive 'I', accessFlags := 0x411 }
/-- [I -/
def k8 : Class := { plain "[I" (some 0) with kind := .array 7 .int, interfaces := #[3, 4], accessFlags := 1041 }

def heap : Heap := #[]
def classes : Array Class := #[k0, k1, k2, k3, k4, k5, k6, k7, k8]
def interned : List (Array UInt16 × Addr) := []
def slotsUsed : Nat := 0
def theMethod : MethodId := ⟨1, 1⟩
def args0 : Array Value := #[.int 5]
def aboutOver (below : List Frame) : State where
  vm := { classes := classes, interned := interned.toArray }
  heap := heap
  slotsUsed := slotsUsed
  threads := #[{ frames := .invoking theMethod args0 :: below }]
def below0 : List Frame := [.native { method := ⟨0, 0⟩, args := #[] }]
def about1 : State := aboutOver below0
def p0 : Program := .bare "" "" ""
def e0 : Env := launch0.env 0 0 0
theorem w_frames : about1.frames = Frame.invoking theMethod args0 :: below0 := rfl
set_option maxRecDepth 65536 in
theorem w_args : argsFit about1.vm theMethod args0 = true := by decide +kernel
set_option maxRecDepth 65536 in
theorem w_heap : heapFits about1 = true := by decide +kernel
set_option maxRecDepth 65536 in
theorem w_runnable : about1.curStatus? = some .runnable := by decide +kernel
set_option maxRecDepth 65536 in
theorem w_alone : about1.alone = true := by decide +kernel
set_option maxRecDepth 65536 in
theorem w_named : about1.methodNamed? x = some theMethod := by decide +kernel
set_option maxRecDepth 65536 in
theorem w_hears : about1.hears theMethod below0 = true := by decide +kernel
set_option maxRecDepth 65536 in
theorem w_ripe : about1.ripe theMethod args0 below0 = true := by decide +kernel
theorem w_running : about1.status = .running := rfl
set_option maxRecDepth 65536 in
theorem w_room : about1.hasRoom e0.platform room_1 = true :=
  launch0.hasRoom_least _ room_1 (by decide +kernel) (by decide +kernel) (by decide +kernel) (by decide +kernel) (by decide +kernel) (by decide +kernel)
theorem allAtoms_all (ts : List Jvm.Cond) (a : Array Jvm.Value) (st : Jvm.State) : (allAtoms ts).before a st = ts.all (fun c => c.before a st) := by
  induction ts with
  | nil => rfl
  | cons c t ih =>
    show (Jvm.Cond.and c (allAtoms t)).before a st = _
    rw [Jvm.Cond.before_and, ih, List.all_cons]
def words1 : List Jvm.Cond := Jvm.Cond.code x code maxLocals ret :: tables_1
/-- a 'code' word, met by the world's own term for the bytes: nothing is compared byte by byte -/
theorem code_word {y : MethodName} {bytes : ByteArray} {mx : Nat} {rt : Option FieldType} {a : Array Value} {s : State} {m : MethodId} {meth : Method} {c : Code} (h1 : s.methodNamed? y = some m) (h2 : s.vm.method? m = some meth) (h3 : meth.code = some c) (h4 : c.code = bytes)
    (h5 : (c.maxLocals == mx && c.exceptionTable.isEmpty && decide (c.maxStack ≤ mostOperands) && decide (meth.sig.returnType = rt) && !meth.locks && decide (parseMethodDescriptor y.desc = some meth.sig)) = true) : (Jvm.Cond.code y bytes mx rt).before a s = true := by
  simp only [Bool.and_eq_true, beq_iff_eq, Bool.not_eq_true', decide_eq_true_eq] at h5
  obtain ⟨⟨⟨⟨⟨g1, g2⟩, g3⟩, g4⟩, g5⟩, g6⟩ := h5
  simp [Cond.before, Cond.holds, Cond.value, h1, h2, h3, h4, g1, g2, g3, g4, g5, g6]
def isCode : Jvm.Cond → Bool
  | .code _ _ _ _ => true
  | _ => false
theorem all_split {L : List Jvm.Cond} {P : Jvm.Cond → Bool} (h1 : L.all (fun c => isCode c || P c) = true) (h2 : ∀ c ∈ L.filter isCode, P c = true) : L.all P = true := by
  refine List.all_eq_true.mpr fun c hc => ?_
  have h := List.all_eq_true.mp h1 c hc
  rcases Bool.eq_false_or_eq_true (isCode c) with hi | hi
  · exact h2 c (List.mem_filter.mpr ⟨hc, hi⟩)
  · simpa [hi] using h
set_option maxRecDepth 65536 in
theorem w_c0 : (Jvm.Cond.code x code maxLocals ret).before args0 about1 = true := code_word (m := ⟨1, 1⟩) (meth := k1m1) (c := k1c1) (by decide +kernel) rfl rfl rfl (by decide +kernel)
set_option maxRecDepth 65536 in
theorem w_c1 : (Jvm.Cond.code ({ cls := "com/example/kartegami/kartegami/xml/Elements", name := "isXmlSpace", desc := "(C)Z" } : Jvm.MethodName) prog_158_method_25_code (1 : Nat) (Option.some Jvm.ClassFile.FieldType.boolean)).before args0 about1 = true := code_word (m := ⟨2, 1⟩) (meth := k2m1) (c := k2c1) (by decide +kernel) rfl rfl rfl (by decide +kernel)
def codes1 : List Jvm.Cond := [Jvm.Cond.code x code maxLocals ret, Jvm.Cond.code ({ cls := "com/example/kartegami/kartegami/xml/Elements", name := "isXmlSpace", desc := "(C)Z" } : Jvm.MethodName) prog_158_method_25_code (1 : Nat) (Option.some Jvm.ClassFile.FieldType.boolean)]
set_option maxRecDepth 65536 in
theorem codes_eq : words1.filter isCode = codes1 := rfl
theorem w_codes : ∀ c ∈ words1.filter isCode, c.before args0 about1 = true := by
  rw [codes_eq]
  intro c hc
  simp only [codes1, List.mem_cons, List.not_mem_nil, or_false] at hc
  rcases hc with rfl | rfl
  · exact w_c0
  · exact w_c1
set_option maxRecDepth 65536 in
theorem w_t1 : words1.all (fun c => isCode c || c.before args0 about1) = true := by decide +kernel
theorem w_tables : (allAtoms (Jvm.Cond.code x code maxLocals ret :: tables_1)).before args0 about1 = true := by
  rw [allAtoms_all]
  show words1.all (fun c => c.before args0 about1) = true
  refine all_split ?_ w_codes
  rw [w_t1]
set_option maxRecDepth 65536 in
theorem w_case : (Jvm.Cond.and given_1 narrow_1).before args0 about1 = true := by decide +kernel
theorem w_applies : (headSpec (Jvm.Cond.code x code maxLocals ret :: tables_1) room_1).applies x e0.platform about1 = true :=
  (Spec.applies_iff w_frames).mpr ⟨w_running, w_runnable, w_alone, w_named, w_hears, w_ripe, w_room, w_tables⟩
theorem atStart : AtStart classFile x code maxLocals ret World_1 tables_1 room_1 Calls_1 rest_1 Pre_1 launch0 p0 e0 about1 theMethod args0 below0 :=
  ⟨lists_1, trivial, launch0.admits_env _ _ _, launch0.least_env, fairChoices_fair.cas, fairChoices_fair.clock, w_frames, w_args, w_heap, w_applies, trivial, trivial, w_case⟩
end start1
theorem witness_1 : WitnessClaimed_1 := ⟨start1.p0, start1.e0, start1.about1, start1.theMethod, start1.args0, start1.below0, start1.atStart⟩
end Jvm.Pilot.@@N@@
